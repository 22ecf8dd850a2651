import JvmDerived
import JvmDerived.Pilot.@@N@@Statement
import JvmDerived.Pilot.@@N@@Code
set_option linter.unusedVariables false
set_option linter.unusedSimpArgs false
namespace Jvm.Pilot.@@N@@
open Jvm Jvm.ClassFile Sem Op Lib Jvm.Free Jvm.Stand Jvm.LawKit Jvm.RoadKit Bundle Jvm.Pilot.@@N@@.Jvm.D
/-! own kit: a walk told forwards -/
section OwnKit
variable {p : Program} {l : Launch} {e : Env} {R : Room} {s : State} {m : MethodId} {args : Array Value} {below : List Frame} {meth : Method} {c : Code} {T : State} {locs : List Loc} {cells slots : Nat} {Z : State} {a0 : Array Value} {h : Heap}
/-- from here the run comes to an end of which K speaks -/
def own_Goes (p : Program) (e : Env) (below : List Frame) (K : Outcome → State → Prop) (T : State) (g : JFrame) : Prop :=
  ∃ s₂ o, Steps p.tables e below (T.setTop g) s₂ ∧ s₂.status = .running ∧ Ended s₂ below o ∧ K o s₂
theorem own_step {K : Outcome → State → Prop} {T' : State} {g g' : JFrame} (st : ∀ t, Steps p.tables e below (T'.setTop g') t → Steps p.tables e below (T.setTop g) t) (hg : own_Goes p e below K T' g') : own_Goes p e below K T g := by
  obtain ⟨s2, o, a, b⟩ := hg
  exact ⟨s2, o, st _ a, b⟩
theorem own_castG {K : Outcome → State → Prop} {g g' : JFrame} (q : g = g') (hg : own_Goes p e below K T g') : own_Goes p e below K T g := q ▸ hg
def own_K (s : State) (Q : Option Value → Heap → List Loc → Prop) (rc rs : Nat) : Outcome → State → Prop := fun o u => ∃ v L, o = .returned v ∧ Q v u.heap L ∧ FrameEnd s o u L rc rs
def own_Met (l : Launch) (Z : State) (y : MethodName) (bytes : ByteArray) (maxL : Nat) (ret : Option FieldType) (ws : List Jvm.Cond) (rm : Room) (as' : Array Value) (h0 : Heap) (Q : Option Value → Heap → List Loc → Prop) : Prop :=
  MetFree l y (head1 (Jvm.Cond.code y bytes maxL ret :: ws) rm) (fun a U => a = as' ∧ Z.Warmed39 U.vm ∧ U.heap = h0) (fun _ _ _ _ _ => True) (fun _ U o U' => ∃ v L, o = .returned v ∧ Q v U'.heap L ∧ FrameEnd U o U' L rm.cells rm.slots)
theorem own_body {y : MethodName} {bytes : ByteArray} {maxL : Nat} {ret : Option FieldType} {ws : List Jvm.Cond} {rm : Room} {as' : Array Value} {h0 : Heap} {Q : Option Value → Heap → List Loc → Prop} (hp : plainFor y = true)
    (body : ∀ (p : Program) (e : Env) (s : State) (m : MethodId) (below : List Frame) (meth : Method) (c : Code) (s₁ : State), p.tables.exec = Jvm.exec → c.code = bytes → c.maxLocals = maxL → meth.sig.returnType = ret → meth.locks = false → s.vm.findClass y.cls = some m.cls → meth.name = y.name → Z.Warmed39 s.vm →
      Stand p l e rm s m as' below meth c s₁ [] 0 0 → s₁.heap = h0 → own_Goes p e below (own_K s Q rm.cells rm.slots) s₁ (entryFrame m as' maxL)) : own_Met l Z y bytes maxL ret ws rm as' h0 Q := by
  refine MetFree.of_bodySF hp hisR ?_
  intro p e s m args below meth c s₁ Bd hml0 hP hK
  obtain ⟨rfl, hZ, hh⟩ := hP
  exact body p e s m below meth c s₁ Bd.exec Bd.bytes hml0 Bd.returns (BodyLoose.notSynchronized Bd) (findClass_of_methodNamed Bd.named) (name_of_methodNamed Bd.named Bd.method).1 hZ (Stand.of_body Bd) (by rw [← hh, Bd.state]; rfl)
theorem own_out (X : Stand p l e R s m args below meth c T locs cells slots) (hlk : meth.locks = false) {v : Option Value} (hv : meth.sig.returnType = none → v = none) {Q : Option Value → Heap → List Loc → Prop} {rc rs : Nat} {g : JFrame}
    (st : ∀ fs, (∀ (f : JFrame) (acts : List Action), f.method = m → f.locked = none → f.entered = [] → (doReturn e (T.setTop f) acts v).1 = T.setFrames fs) → Steps p.tables e below (T.setTop g) (T.setFrames fs))
    (hQ : Q v T.heap locs) (hc : cells ≤ rc) (hs : slots ≤ rs) : own_Goes p e below (own_K s Q rc rs) T g := by
  obtain ⟨fs, hr, hrun, hended, hW, hsame⟩ := X.leave (v := v) hv hlk
  exact ⟨_, _, st fs hr, hrun, hended, v, locs, rfl, hQ, ⟨_, rfl⟩, hW, hsame.mono hc hs⟩
theorem own_retN (X : Stand p l e R s m args below meth c T locs cells slots) (hx : p.tables.exec = Jvm.exec) (hlk : meth.locks = false) {pc : Nat} {Ls : Array Slot} {z : Int32} {t : FieldType} {rest : List Value} (hret : meth.sig.returnType = some t) (ht : t = .boolean ∨ t = .byte ∨ t = .char ∨ t = .short)
    (hd : decode c.code pc = .ok (.ireturn, 1)) {Q : Option Value → Heap → List Loc → Prop} {rc rs : Nat} (hQ : Q (some (.int (nar t z))) T.heap locs) (hc : cells ≤ rc) (hs : slots ≤ rs) : own_Goes p e below (own_K s Q rc rs) T (mkF m pc Ls (.int z :: rest)) :=
  own_out X hlk (fun q => by rw [hret] at q; cases q) (fun fs hr => retN X hx hret ht hd hr) hQ hc hs
theorem own_retI (X : Stand p l e R s m args below meth c T locs cells slots) (hx : p.tables.exec = Jvm.exec) (hlk : meth.locks = false) {pc : Nat} {Ls : Array Slot} {z : Int32} {rest : List Value} (hret : meth.sig.returnType = some .int)
    (hd : decode c.code pc = .ok (.ireturn, 1)) {Q : Option Value → Heap → List Loc → Prop} {rc rs : Nat} (hQ : Q (some (.int z)) T.heap locs) (hc : cells ≤ rc) (hs : slots ≤ rs) : own_Goes p e below (own_K s Q rc rs) T (mkF m pc Ls (.int z :: rest)) :=
  own_out X hlk (fun q => by rw [hret] at q; cases q) (fun fs hr => retOut X hx hret rfl (Or.inl ⟨rfl, Or.inl rfl, z, rfl⟩) hd hr) hQ hc hs
theorem own_retL (X : Stand p l e R s m args below meth c T locs cells slots) (hx : p.tables.exec = Jvm.exec) (hlk : meth.locks = false) {pc : Nat} {Ls : Array Slot} {z : Int64} {rest : List Value} (hret : meth.sig.returnType = some .long)
    (hd : decode c.code pc = .ok (.lreturn, 1)) {Q : Option Value → Heap → List Loc → Prop} {rc rs : Nat} (hQ : Q (some (.long z)) T.heap locs) (hc : cells ≤ rc) (hs : slots ≤ rs) : own_Goes p e below (own_K s Q rc rs) T (mkF m pc Ls (.long z :: rest)) :=
  own_out X hlk (fun q => by rw [hret] at q; cases q) (fun fs hr => retOut X hx hret rfl (Or.inr (Or.inl ⟨rfl, rfl, z, rfl⟩)) hd hr) hQ hc hs
theorem own_retA (X : Stand p l e R s m args below meth c T locs cells slots) (hx : p.tables.exec = Jvm.exec) (hlk : meth.locks = false) {pc : Nat} {Ls : Array Slot} {w : Value} {t : FieldType} {rest : List Value} (hret : meth.sig.returnType = some t) (hn : narrow t w = w) (ht : t.isReference = true) (hw : w.isRef = true)
    (hd : decode c.code pc = .ok (.areturn, 1)) {Q : Option Value → Heap → List Loc → Prop} {rc rs : Nat} (hQ : Q (some w) T.heap locs) (hc : cells ≤ rc) (hs : slots ≤ rs) : own_Goes p e below (own_K s Q rc rs) T (mkF m pc Ls (w :: rest)) :=
  own_out X hlk (fun q => by rw [hret] at q; cases q) (fun fs hr => retOut X hx hret hn (Or.inr (Or.inr (Or.inr (Or.inr ⟨rfl, ht, hw⟩)))) hd hr) hQ hc hs
theorem own_retV (X : Stand p l e R s m args below meth c T locs cells slots) (hx : p.tables.exec = Jvm.exec) (hlk : meth.locks = false) {pc : Nat} {Ls : Array Slot} (hret : meth.sig.returnType = none)
    (hd : decode c.code pc = .ok (.return_, 1)) {Q : Option Value → Heap → List Loc → Prop} {rc rs : Nat} (hQ : Q none T.heap locs) (hc : cells ≤ rc) (hs : slots ≤ rs) : own_Goes p e below (own_K s Q rc rs) T (mkF m pc Ls []) :=
  own_out X hlk (fun _ => rfl) (fun fs hr => X.returnOut hx hret hd hr) hQ hc hs
theorem own_callS (X : Stand p l e R s m args below meth c T locs cells slots) (hx : p.tables.exec = Jvm.exec) (hZ : Z.Warmed39 s.vm) {own : String} {index : Nat} {y : MethodName} {bytes : ByteArray} {maxL : Nat} {ret : Option FieldType} (hown : s.vm.findClass own = some m.cls)
    (w1 : (Jvm.Cond.methodLink own index y).before a0 Z = true) (w2 : (Jvm.Cond.static y).before a0 Z = true) (w3 : (Jvm.Cond.initialized y.cls).before a0 Z = true) (w4 : (Jvm.Cond.code y bytes maxL ret).before a0 Z = true) (hy : y.cls ≠ "java/lang/invoke/MethodHandle" ∧ y.cls ≠ "java/lang/invoke/VarHandle")
    {rm : Room} (W : Nat) (argsL rest : List Value) {Q : Option Value → Heap → List Loc → Prop} (hM : own_Met l Z y bytes maxL ret [] rm argsL.toArray h Q) (eT : T.heap = h)
    (hf : rm.frames + 1 ≤ R.frames) (hl : W + (maxL + 11) + rm.locals ≤ R.locals) (hc : cells + rm.cells ≤ R.cells) (hs : slots + rm.slots ≤ R.slots)
    {g : JFrame} (hg : g.method = m) (hsize : g.locals.size = c.maxLocals) {ps : List FieldType} {r : Option FieldType} (hpd : parseMethodDescriptor y.desc = some ⟨ps, r⟩) (hlen : argsL.length = ps.length)
    (hstack : g.stack = argsL.reverse ++ rest) (hW : 2 * g.monitorRoom + (rest.map fun v => v.category).sum ≤ W) (hd : decode c.code g.pc = .ok (.invokestatic index, 3))
    {K : Outcome → State → Prop} (go : ∀ T' v L, Stand p l e R s m args below meth c T' (locs ++ L) (cells + rm.cells) (slots + rm.slots) → Q v T'.heap L → own_Goes p e below K T' { g with pc := g.pc + 3, stack := v.toList ++ rest }) : own_Goes p e below K T g := by
  obtain ⟨v, _, ⟨T', L', k', n'⟩, -, X', ⟨Lc, hQ, l1, y1, z1⟩, st⟩ := Jvm.LawKit.callS X hx (y := y) hown (mvT hZ w1) (mvT hZ w2) (mvT hZ w3) (mvT hZ w4) hy (backOf (W := W) hM hZ w4 w3 hf hl) hg hsize (lenOf hpd hlen) hstack hW hd (fun _ _ => ⟨rfl, eT, hc, hs⟩)
  dsimp only [Pt.U, Pt.locs, Pt.cells, Pt.slots] at X' l1 y1 z1 st hQ
  subst l1 y1 z1
  exact own_step st (go _ _ _ X' hQ)
theorem own_callV (X : Stand p l e R s m args below meth c T locs cells slots) (hx : p.tables.exec = Jvm.exec) (hZ : Z.Warmed39 s.vm) {own C : String} {index : Nat} {y z : MethodName} {bytes : ByteArray} {maxL : Nat} {ret : Option FieldType} (hown : s.vm.findClass own = some m.cls)
    (w1 : (Jvm.Cond.methodLink own index y).before a0 Z = true) (w2 : (Jvm.Cond.declares y).before a0 Z = true) (nf : NotFace s y) (w3 : (Jvm.Cond.selects C y z).before a0 Z = true) (w4 : (Jvm.Cond.instanceMethod z).before a0 Z = true) (w5 : (Jvm.Cond.code z bytes maxL ret).before a0 Z = true) (w6 : (Jvm.Cond.initialized z.cls).before a0 Z = true)
    (hy : y.cls ≠ "java/lang/invoke/MethodHandle" ∧ y.cls ≠ "java/lang/invoke/VarHandle")
    {rm : Room} (W : Nat) {a : Addr} (E : Exa Z h a C) (argsL rest : List Value) {Q : Option Value → Heap → List Loc → Prop} (hM : own_Met l Z z bytes maxL ret [] rm (.ref a :: argsL).toArray h Q) (eT : T.heap = h)
    (hf : rm.frames + 1 ≤ R.frames) (hl : W + (maxL + 11) + rm.locals ≤ R.locals) (hc : cells + rm.cells ≤ R.cells) (hs : slots + rm.slots ≤ R.slots)
    {g : JFrame} (hg : g.method = m) (hsize : g.locals.size = c.maxLocals) {ps : List FieldType} {r : Option FieldType} (hpd : parseMethodDescriptor y.desc = some ⟨ps, r⟩) (hlen : argsL.length = ps.length)
    (hstack : g.stack = argsL.reverse ++ .ref a :: rest) (hW : 2 * g.monitorRoom + (rest.map fun v => v.category).sum ≤ W) (hd : decode c.code g.pc = .ok (.invokevirtual index, 3))
    {K : Outcome → State → Prop} (go : ∀ T' v L, Stand p l e R s m args below meth c T' (locs ++ L) (cells + rm.cells) (slots + rm.slots) → Q v T'.heap L → own_Goes p e below K T' { g with pc := g.pc + 3, stack := v.toList ++ rest }) : own_Goes p e below K T g := by
  obtain ⟨cq, kq, qa, qb, qc⟩ := isOf hZ eT E
  obtain ⟨v, _, ⟨T', L', k', n'⟩, -, X', ⟨Lc, hQ, l1, y1, z1⟩, st⟩ := X.virtualBack hx (y := y) (z := z) hown (mvT hZ w1) (mvT hZ w2) nf (mvT hZ w3) (mvT hZ w4) hy (backOf (W := W) hM hZ w5 w6 hf hl) qa qc hg hsize (Steps.refl _) (lenOf hpd hlen) hstack hW hd (fun _ _ => ⟨rfl, eT, hc, hs⟩)
  dsimp only [Pt.U, Pt.locs, Pt.cells, Pt.slots] at X' l1 y1 z1 st hQ
  subst l1 y1 z1
  exact own_step (fun t k => st.trans k) (go _ _ _ X' hQ)
theorem own_callC (X : Stand p l e R s m args below meth c T locs cells slots) (hx : p.tables.exec = Jvm.exec) (hZ : Z.Warmed39 s.vm) {own : String} {index : Nat} {y : MethodName} {bytes : ByteArray} {maxL : Nat} (hy1 : y.name = "<init>") (hown : s.vm.findClass own = some m.cls)
    (w1 : (Jvm.Cond.methodLink own index y).before a0 Z = true) (w2 : (Jvm.Cond.instanceMethod y).before a0 Z = true) (w3 : (Jvm.Cond.code y bytes maxL none).before a0 Z = true) (w4 : (Jvm.Cond.initialized y.cls).before a0 Z = true)
    (hy : y.cls ≠ "java/lang/invoke/MethodHandle" ∧ y.cls ≠ "java/lang/invoke/VarHandle")
    {rm : Room} (W : Nat) {a : Addr} (argsL rest : List Value) {Q : Option Value → Heap → List Loc → Prop} (hM : own_Met l Z y bytes maxL none [] rm (.ref a :: argsL).toArray h Q) (eT : T.heap = h)
    (hf : rm.frames + 1 ≤ R.frames) (hl : W + (maxL + 11) + rm.locals ≤ R.locals) (hc : cells + rm.cells ≤ R.cells) (hs : slots + rm.slots ≤ R.slots)
    {g : JFrame} (hg : g.method = m) (hsize : g.locals.size = c.maxLocals) {ps : List FieldType} {r : Option FieldType} (hpd : parseMethodDescriptor y.desc = some ⟨ps, r⟩) (hlen : argsL.length = ps.length)
    (hstack : g.stack = argsL.reverse ++ .ref a :: rest) (hW : 2 * g.monitorRoom + (rest.map fun v => v.category).sum ≤ W) (hd : decode c.code g.pc = .ok (.invokespecial index, 3))
    {K : Outcome → State → Prop} (go : ∀ T' v L, Stand p l e R s m args below meth c T' (locs ++ L) (cells + rm.cells) (slots + rm.slots) → Q v T'.heap L → own_Goes p e below K T' { g with pc := g.pc + 3, stack := v.toList ++ rest }) : own_Goes p e below K T g := by
  obtain ⟨v, _, ⟨T', L', k', n'⟩, -, X', ⟨Lc, hQ, l1, y1, z1⟩, st⟩ := X.specialBack hx (y := y) hy1 hown (mvT hZ w1) (mvT hZ w2) (mvT hZ w3) hy (backOf (W := W) hM hZ w3 w4 hf hl) hg hsize (Steps.refl _) (a := a) (lenOf hpd hlen) hstack hW hd (fun _ _ => ⟨rfl, eT, hc, hs⟩)
  dsimp only [Pt.U, Pt.locs, Pt.cells, Pt.slots] at X' l1 y1 z1 st hQ
  subst l1 y1 z1
  exact own_step (fun t k => st.trans k) (go _ _ _ X' hQ)
theorem own_fldI {t : Term} {C n d : String} {k : Int32} {a : Addr} (ev : t.eval args s none [] s = some (.ref a)) (hq : (Jvm.Cond.eq (.field t C n d) (.int k)).value args s none s [] = some true) : Fld s s.heap a C n d (.int k) := by
  have e1 := fld_at (C := C) (n := n) (dd := d) ev
  refine Fld.start ?_
  simp only [Jvm.Cond.value, e1, Term.int_eval] at hq
  cases hf : s.fieldOf? a C n d with
  | none => simp [hf] at hq
  | some v => cases v <;> simp [hf] at hq; rw [hq]
theorem own_callU (X : Stand p l e R s m args below meth c T locs cells slots) (hx : p.tables.exec = Jvm.exec) (hZ : Z.Warmed39 s.vm) {own C owner : String} {index : Nat} {y z : MethodName} {bytes : ByteArray} {maxL : Nat} {ret : Option FieldType} (hown : s.vm.findClass own = some m.cls)
    (w1 : (Jvm.Cond.methodLink own index y).before a0 Z = true) (w2 : (Jvm.Cond.sameMethod y.cls owner y.name y.desc).before a0 Z = true) (w2' : (Jvm.Cond.declares ⟨owner, y.name, y.desc⟩).before a0 Z = true) (w3 : (Jvm.Cond.selects C y z).before a0 Z = true) (w4 : (Jvm.Cond.instanceMethod z).before a0 Z = true) (w5 : (Jvm.Cond.code z bytes maxL ret).before a0 Z = true) (w6 : (Jvm.Cond.initialized z.cls).before a0 Z = true)
    (hy : owner ≠ "java/lang/invoke/MethodHandle" ∧ owner ≠ "java/lang/invoke/VarHandle")
    {rm : Room} (W : Nat) {a : Addr} (E : Exa Z h a C) (argsL rest : List Value) {Q : Option Value → Heap → List Loc → Prop} (hM : own_Met l Z z bytes maxL ret [] rm (.ref a :: argsL).toArray h Q) (eT : T.heap = h)
    (hf : rm.frames + 1 ≤ R.frames) (hl : W + (maxL + 11) + rm.locals ≤ R.locals) (hc : cells + rm.cells ≤ R.cells) (hs : slots + rm.slots ≤ R.slots)
    {g : JFrame} (hg : g.method = m) (hsize : g.locals.size = c.maxLocals) {ps : List FieldType} {r : Option FieldType} (hpd : parseMethodDescriptor y.desc = some ⟨ps, r⟩) (hlen : argsL.length = ps.length)
    (hstack : g.stack = argsL.reverse ++ .ref a :: rest) (hW : 2 * g.monitorRoom + (rest.map fun v => v.category).sum ≤ W) (hd : decode c.code g.pc = .ok (.invokevirtual index, 3))
    {K : Outcome → State → Prop} (go : ∀ T' v L, Stand p l e R s m args below meth c T' (locs ++ L) (cells + rm.cells) (slots + rm.slots) → Q v T'.heap L → own_Goes p e below K T' { g with pc := g.pc + 3, stack := v.toList ++ rest }) : own_Goes p e below K T g := by
  obtain ⟨cq, kq, qa, qb, qc⟩ := isOf hZ eT E
  obtain ⟨v, _, ⟨T', L', k', n'⟩, -, X', ⟨Lc, hQ, l1, y1, z1⟩, st⟩ := X.virtualBackUp hx (x := y) (y := z) hown (mvT hZ w1) (mvT hZ w2) (mvT hZ w2') hy (mvT hZ w3) (mvT hZ w4) (backOf (W := W) hM hZ w5 w6 hf hl) qa qc hg hsize (Steps.refl _) (lenOf hpd hlen) hstack hW hd (fun _ _ => ⟨rfl, eT, hc, hs⟩)
  dsimp only [Pt.U, Pt.locs, Pt.cells, Pt.slots] at X' l1 y1 z1 st hQ
  subst l1 y1 z1
  exact own_step (fun t k => st.trans k) (go _ _ _ X' hQ)
theorem own_aaload (X : Stand p l e R s m args below meth c T locs cells slots) (hx : p.tables.exec = Jvm.exec) (hZ : Z.Warmed39 s.vm) (eT : T.heap = h) {a : Addr} {k : ClassId} {ty : FieldType} {n : Int32} {vs : List Value} {dv : Value} (F : Arv Z h a k ty n vs dv) (hty : ty.isReference = true) {j : Int32} (v : Value) (hj : ¬ j < 0 ∧ j < n) (hv : vs.getD j.toNatClampNeg dv = v)
    {g : JFrame} (hg : g.method = m) {rest : List Value} (hs : g.stack = .int j :: .ref a :: rest) (hd : decode c.code g.pc = .ok (.aaload, 1)) : ∀ t, Steps p.tables e below (T.setTop { g with pc := g.pc + 1, stack := v :: rest }) t → Steps p.tables e below (T.setTop g) t := by
  obtain ⟨cl, A, q1, S, q3, H, G⟩ := F
  have hin := inb_of S hj
  exact fun t kk => X.aaload hx (by rw [eT]; exact A.1) (State.isArrayOf_alike hZ.alike A.2.1) hty A.2.2 hin (H.at hin hv) hg hs hd t kk
theorem own_aastore (X : Stand p l e R s m args below meth c T locs cells slots) (hx : p.tables.exec = Jvm.exec) (hZ : Z.Warmed39 s.vm) (eT : T.heap = h) {a : Addr} {k : ClassId} {C : String} {n : Int32} {vs : List Value} {dv : Value} (F : Arv Z h a k (.object C) n vs dv) (O : Ovr Z k C) {y : Addr} (I : Ins Z h y C true) {j : Int32} (hj : ¬ j < 0 ∧ j < n) (i : Nat) (hi : j.toNatClampNeg = i) (hl : i < vs.length)
    {g : JFrame} (hg : g.method = m) {rest : List Value} (hs : g.stack = .ref y :: .int j :: .ref a :: rest) (hd : decode c.code g.pc = .ok (.aastore, 1)) :
    ∃ T' h', Stand p l e R s m args below meth c T' (locs ++ [⟨a, j.toNatClampNeg⟩]) cells slots ∧ T'.heap = h' ∧ Wr h h' a j.toNatClampNeg (.ref y) ∧ Arv Z h' a k (.object C) n (vs.set i (.ref y)) dv ∧ ∀ target, Steps p.tables e below (T'.setTop { g with pc := g.pc + 1, stack := rest }) target → Steps p.tables e below (T.setTop g) target := by
  obtain ⟨cl, A, q1, S, q3, H, G⟩ := F
  obtain ⟨T', h', X', e', W', st⟩ := stR X hx hZ eT A (inb_of S hj) rfl (Sto.ofV A q1 O I) hg hs hd
  exact ⟨T', h', X', e', W', Arv.set A q1 S q3 H G rfl W' i hi hl, st⟩
theorem own_staKeep {C n d : String} {v : Value} {h' : Heap} {ws : List Addr} (F : Sta Z h C n d v) (K : Keep h h' ws) (q : ∀ x ∈ ws, ∀ cell : Cell, h[x]? = some cell → cell.vm.isStatics = false) : Sta Z h' C n d v := by
  obtain ⟨cf, i, k, f, st, cell, h1, h2, h3, h4, h5, h6, h7⟩ := F
  refine ⟨cf, i, k, f, st, cell, h1, h2, h3, h4, K.2.1 _ _ h5 (fun z => ?_), h6, h7⟩
  have := q _ z _ h5
  rw [h6] at this; cases this
theorem own_caload (X : Stand p l e R s m args below meth c T locs cells slots) (hx : p.tables.exec = Jvm.exec) (hZ : Z.Warmed39 s.vm) (eT : T.heap = h) {a : Addr} {k : ClassId} {n : Int32} {vs : List Value} {dv : Value} (F : Arv Z h a k .char n vs dv) {j : Int32} (v : Value) (hj : ¬ j < 0 ∧ j < n) (hv : vs.getD j.toNatClampNeg dv = v)
    {g : JFrame} (hg : g.method = m) {rest : List Value} (hs : g.stack = .int j :: .ref a :: rest) (hd : decode c.code g.pc = .ok (.caload, 1)) : ∀ t, Steps p.tables e below (T.setTop { g with pc := g.pc + 1, stack := v :: rest }) t → Steps p.tables e below (T.setTop g) t := by
  obtain ⟨cl, A, q1, S, q3, H, G⟩ := F
  have hin := inb_of S hj
  exact fun t kk => X.caload hx (by rw [eT]; exact A.1) (State.isArrayOf_alike hZ.alike A.2.1) A.2.2 hin (H.at hin hv) hg hs hd t kk
theorem own_baload (X : Stand p l e R s m args below meth c T locs cells slots) (hx : p.tables.exec = Jvm.exec) (hZ : Z.Warmed39 s.vm) (eT : T.heap = h) {a : Addr} {k : ClassId} {n : Int32} {vs : List Value} {dv : Value} (F : Arv Z h a k .byte n vs dv) {j : Int32} (v : Value) (hj : ¬ j < 0 ∧ j < n) (hv : vs.getD j.toNatClampNeg dv = v)
    {g : JFrame} (hg : g.method = m) {rest : List Value} (hs : g.stack = .int j :: .ref a :: rest) (hd : decode c.code g.pc = .ok (.baload, 1)) : ∀ t, Steps p.tables e below (T.setTop { g with pc := g.pc + 1, stack := v :: rest }) t → Steps p.tables e below (T.setTop g) t := by
  obtain ⟨cl, A, q1, S, q3, H, G⟩ := F
  have hin := inb_of S hj
  exact fun t kk => X.baloadBytes hx (by rw [eT]; exact A.1) (State.isArrayOf_alike hZ.alike A.2.1) A.2.2 hin (H.at hin hv) hg hs hd t kk
theorem own_alen (X : Stand p l e R s m args below meth c T locs cells slots) (hx : p.tables.exec = Jvm.exec) (hZ : Z.Warmed39 s.vm) (eT : T.heap = h) {a : Addr} {k : ClassId} {ty : FieldType} {n : Int32} {vs : List Value} {dv : Value} (F : Arv Z h a k ty n vs dv)
    {g : JFrame} (hg : g.method = m) {rest : List Value} (hs : g.stack = .ref a :: rest) (hd : decode c.code g.pc = .ok (.arraylength, 1)) : ∀ t, Steps p.tables e below (T.setTop { g with pc := g.pc + 1, stack := .int n :: rest }) t → Steps p.tables e below (T.setTop g) t := by
  obtain ⟨cl, A, q1, S, q3, H, G⟩ := F
  intro t kk
  refine X.arraylength hx (by rw [eT]; exact A.1) (State.isArrayOf_alike hZ.alike A.2.1) hg hs hd t ?_
  rw [len_of S q3]
  exact kk
theorem own_castore (X : Stand p l e R s m args below meth c T locs cells slots) (hx : p.tables.exec = Jvm.exec) (hZ : Z.Warmed39 s.vm) (eT : T.heap = h) {a : Addr} {k : ClassId} {n : Int32} {vs : List Value} {dv : Value} (F : Arv Z h a k .char n vs dv) {x : Int32} (x' : Int32) (hx' : nar .char x = x') {j : Int32} (hj : ¬ j < 0 ∧ j < n) (i : Nat) (hi : j.toNatClampNeg = i) (hl : i < vs.length)
    {g : JFrame} (hg : g.method = m) {rest : List Value} (hs : g.stack = .int x :: .int j :: .ref a :: rest) (hd : decode c.code g.pc = .ok (.castore, 1)) :
    ∃ T' h', Stand p l e R s m args below meth c T' (locs ++ [⟨a, j.toNatClampNeg⟩]) cells slots ∧ T'.heap = h' ∧ Wr h h' a j.toNatClampNeg (.int x') ∧ Arv Z h' a k .char n (vs.set i (.int x')) dv ∧ ∀ target, Steps p.tables e below (T'.setTop { g with pc := g.pc + 1, stack := rest }) target → Steps p.tables e below (T.setTop g) target := by
  subst hx'
  obtain ⟨cl, A, q1, S, q3, H, G⟩ := F
  obtain ⟨T', h', X', e', W', st⟩ := stC X hx hZ eT A (inb_of S hj) hg hs hd
  exact ⟨T', h', X', e', W', Arv.set A q1 S q3 H G (fits_nar_char _) W' i hi hl, st⟩
theorem own_bastore (X : Stand p l e R s m args below meth c T locs cells slots) (hx : p.tables.exec = Jvm.exec) (hZ : Z.Warmed39 s.vm) (eT : T.heap = h) {a : Addr} {k : ClassId} {n : Int32} {vs : List Value} {dv : Value} (F : Arv Z h a k .byte n vs dv) {x : Int32} (x' : Int32) (hx' : nar .byte x = x') {j : Int32} (hj : ¬ j < 0 ∧ j < n) (i : Nat) (hi : j.toNatClampNeg = i) (hl : i < vs.length)
    {g : JFrame} (hg : g.method = m) {rest : List Value} (hs : g.stack = .int x :: .int j :: .ref a :: rest) (hd : decode c.code g.pc = .ok (.bastore, 1)) :
    ∃ T' h', Stand p l e R s m args below meth c T' (locs ++ [⟨a, j.toNatClampNeg⟩]) cells slots ∧ T'.heap = h' ∧ Wr h h' a j.toNatClampNeg (.int x') ∧ Arv Z h' a k .byte n (vs.set i (.int x')) dv ∧ ∀ target, Steps p.tables e below (T'.setTop { g with pc := g.pc + 1, stack := rest }) target → Steps p.tables e below (T.setTop g) target := by
  subst hx'
  obtain ⟨cl, A, q1, S, q3, H, G⟩ := F
  obtain ⟨T', h', X', e', W', st⟩ := stB X hx hZ eT A (inb_of S hj) hg hs hd
  exact ⟨T', h', X', e', W', Arv.set A q1 S q3 H G (fits_nar_byte _) W' i hi hl, st⟩
theorem own_b8 (x : Int32) : nar .byte (x.toInt8.toInt32) = x.toInt8.toInt32 := by
  show x.toInt8.toInt32.toInt8.toInt32 = x.toInt8.toInt32
  simp
theorem own_narc {x : Int32} (h0 : ¬ x < (0 : Int32)) (h1 : ¬ (255 : Int32) < x) : nar .char x = x := by
  have e0 : (0 : Int32).toInt = 0 := by decide
  have e1 : (255 : Int32).toInt = 255 := by decide
  rw [Int32.lt_iff_toInt_lt] at h0 h1
  have q := c_i2c x
  rw [← Int32.toInt_inj]
  show x.toUInt32.toUInt16.toUInt32.toInt32.toInt = x.toInt
  omega
theorem own_b8inj {x y : Int32} (h0 : ¬ x < (0 : Int32)) (h1 : ¬ (255 : Int32) < x) (g0 : ¬ y < (0 : Int32)) (g1 : ¬ (255 : Int32) < y) (q : x.toInt8.toInt32 = y.toInt8.toInt32) : x = y := by
  have e0 : (0 : Int32).toInt = 0 := by decide
  have e1 : (255 : Int32).toInt = 255 := by decide
  rw [Int32.lt_iff_toInt_lt] at h0 h1 g0 g1
  have a := c_i2b x
  have b := c_i2b y
  rw [q] at a
  rw [← Int32.toInt_inj]
  omega
theorem own_m255 (x : Int32) : ¬ (x &&& (255 : Int32)) < (0 : Int32) ∧ ¬ (255 : Int32) < (x &&& (255 : Int32)) := by
  have h1 := c_mask x (255 : Int32) 8 (by decide) (by decide)
  have e0 : (0 : Int32).toInt = 0 := by decide
  have e1 : (255 : Int32).toInt = 255 := by decide
  rw [Int32.lt_iff_toInt_lt, Int32.lt_iff_toInt_lt, h1]
  omega
theorem own_i2c (x : Int32) : ((x &&& (255 : Int32)).toUInt32.toUInt16.toUInt32.toInt32) = (x &&& (255 : Int32)) := i2c_mask x
theorem own_plainE {a : Addr} {C : String} (E : Exa Z h a C) : ∀ cell : Cell, h[a]? = some cell → cell.vm.isStatics = false := fun cell hc => by
  obtain ⟨c1, k, h1, -, -, h4, -⟩ := E
  cases h1.symm.trans hc
  exact h4
theorem own_plainA {a : Addr} {k : ClassId} {ty : FieldType} {n : Int32} {vs : List Value} {dv : Value} (F : Arv Z h a k ty n vs dv) : ∀ cell : Cell, h[a]? = some cell → cell.vm.isStatics = false := fun cell hc => by
  obtain ⟨c1, A, -⟩ := F
  cases A.1.symm.trans hc
  exact A.plain
theorem own_arrKeep {a : Addr} {cl : Cell} {ty : FieldType} {h' : Heap} {ws : List Addr} (A : Arr Z h a cl ty) (K : Keep h h' ws) (q : a ∉ ws) : Arr Z h' a cl ty := ⟨K.2.1 a cl A.1 q, A.2⟩
theorem own_fldR {t : Term} {C n d : String} {a y : Addr} (ev : t.eval args s none [] s = some (.ref a)) (hq : (Term.field t C n d).eval args s none [] s = some (.ref y)) : Fld s s.heap a C n d (.ref y) := by
  rw [fld_at ev] at hq
  exact Fld.start hq
theorem own_len {t : Term} {a : Addr} {cl : Cell} {ty : FieldType} {n : Int32} (ev : t.eval args s none [] s = some (.ref a)) (A : Arr s s.heap a cl ty) (hq : (Jvm.Cond.eq (.length t) (.int n)).value args s none s [] = some true) : cl.slots.size < 2 ^ 31 ∧ cl.slots.size.toInt32 = n := by
  have ha : s.arrayAt? a = some cl := A.fin (Vm.Alike.refl _)
  by_cases q : cl.slots.size < 2 ^ 31
  · have := len_f (args := args) (first := s) (o := none) (idx := []) ev ha q
    simp only [Jvm.Cond.value, this, Term.int_eval] at hq
    exact ⟨q, by simpa using hq⟩
  · simp [Jvm.Cond.value, Term.eval, ev, ha, q] at hq
theorem own_elemI {t : Term} {a : Addr} {cl : Cell} {ty : FieldType} {j v : Int32} (ev : t.eval args s none [] s = some (.ref a)) (A : Arr s s.heap a cl ty) (hq : (Jvm.Cond.eq (.elem t (.int j)) (.int v)).value args s none s [] = some true) : cl.slots[j.toNatClampNeg]? = some (.int v) := by
  obtain ⟨x, y, e1, e2, -, -⟩ := cmp_v (Or.inl hq)
  have e3 := (elem_in e1 ev (Term.int_eval j) A.1).2
  simp only [Jvm.Cond.value, e1, Term.int_eval] at hq
  cases x <;> simp at hq
  rw [e3, hq]
theorem own_elemR {t u : Term} {a w : Addr} {cl : Cell} {ty : FieldType} {j : Int32} (ev : t.eval args s none [] s = some (.ref a)) (eu : u.eval args s none [] s = some (.ref w)) (A : Arr s s.heap a cl ty) (hq : (Jvm.Cond.eq (.elem t (.int j)) u).value args s none s [] = some true) : cl.slots[j.toNatClampNeg]? = some (.ref w) := by
  obtain ⟨x, y, e1, e2, -, -⟩ := cmp_v (Or.inl hq)
  have e3 := (elem_in e1 ev (Term.int_eval j) A.1).2
  simp only [Jvm.Cond.value, e1, eu] at hq
  cases x <;> simp at hq
  rw [e3, hq]
end OwnKit
/-! own kit, wide: walks that may load the empty String's constant -/
section OwnKitW
variable {p : Program} {l : Launch} {e : Env} {R : Room} {s : State} {m : MethodId} {args : Array Value} {below : List Frame} {meth : Method} {c : Code} {T : State} {locs : List Loc} {cells slots : Nat} {Z : State} {a0 : Array Value} {h : Heap} {EL : List (String × Nat)} {vm0 : Vm} {k0 : Nat}
def own_KW (s Z : State) (EL : List (String × Nat)) (Q : Option Value → Heap → List Loc → Prop) (rc rs : Nat) : Outcome → State → Prop := fun o u => ∃ v L, o = .returned v ∧ Q v u.heap L ∧ CHr Z EL s.vm s.heap u.vm u.heap ∧ ReturnedEndW s o u L rc rs
def own_MetW (l : Launch) (Z : State) (EL : List (String × Nat)) (y : MethodName) (bytes : ByteArray) (maxL : Nat) (ret : Option FieldType) (ws : List Jvm.Cond) (rm : Room) (as' : Array Value) (h0 : Heap) (Q : Option Value → Heap → List Loc → Prop) : Prop :=
  MetFree l y (head1 (Jvm.Cond.code y bytes maxL ret :: ws) rm) (fun a U => a = as' ∧ Z.Warmed39 U.vm ∧ U.heap = h0 ∧ CHv Z EL U.vm h0) (fun _ _ _ _ _ => True) (fun _ U o U' => ∃ v L, o = .returned v ∧ Q v U'.heap L ∧ CHr Z EL U.vm U.heap U'.vm U'.heap ∧ ReturnedEndW U o U' L rm.cells rm.slots)
theorem own_bodyW {y : MethodName} {bytes : ByteArray} {maxL : Nat} {ret : Option FieldType} {ws : List Jvm.Cond} {rm : Room} {as' : Array Value} {h0 : Heap} {Q : Option Value → Heap → List Loc → Prop} (hp : plainFor y = true)
    (body : ∀ (p : Program) (e : Env) (s : State) (m : MethodId) (below : List Frame) (meth : Method) (c : Code) (s₁ : State), p.tables.exec = Jvm.exec → c.code = bytes → c.maxLocals = maxL → meth.sig.returnType = ret → meth.locks = false → (s.setVm s.vm).vm.findClass y.cls = some m.cls → meth.name = y.name → Z.Warmed39 (s.setVm s.vm).vm →
      Stand p l e rm (s.setVm s.vm) m as' below meth c s₁ [] 0 0 → s₁.heap = h0 → CHv Z EL s.vm h0 → CHr Z EL s.vm s.heap s.vm h0 → s.Since s.vm h0.size → own_Goes p e below (own_KW s Z EL Q rm.cells rm.slots) s₁ (entryFrame m as' maxL)) : own_MetW l Z EL y bytes maxL ret ws rm as' h0 Q := by
  refine MetFree.of_bodySF hp hisR ?_
  intro p e s m args below meth c s₁ Bd hml0 hP hK
  obtain ⟨rfl, hZ, hh, hC⟩ := hP
  have q : s₁.heap = h0 := by rw [← hh, Bd.state]; rfl
  subst hh
  exact body p e s m below meth c s₁ Bd.exec Bd.bytes hml0 Bd.returns (BodyLoose.notSynchronized Bd) (findClass_of_methodNamed Bd.named) (name_of_methodNamed Bd.named Bd.method).1 hZ (Stand.of_body Bd) q hC (CHr.refl hC) ((State.WarmedH.refl s).since _)
theorem own_outW (X : Stand p l e R (s.setVm vm0) m args below meth c T locs cells slots) (hlk : meth.locks = false) (hS : s.Since vm0 k0) (hk : k0 ≤ h.size) (hZ : Z.Warmed39 (s.setVm vm0).vm) (hEL : EW Z a0 EL) (eT : T.heap = h) (H : CHv Z EL vm0 h) (hR : CHr Z EL s.vm s.heap vm0 h) {v : Option Value} (hv : meth.sig.returnType = none → v = none) {Q : Option Value → Heap → List Loc → Prop} {rc rs : Nat} {g : JFrame}
    (st : ∀ fs, (∀ (f : JFrame) (acts : List Action), f.method = m → f.locked = none → f.entered = [] → (doReturn e (T.setTop f) acts v).1 = T.setFrames fs) → Steps p.tables e below (T.setTop g) (T.setFrames fs))
    (hQ : Q v T.heap locs) (hc : cells ≤ rc) (hs : slots ≤ rs) : own_Goes p e below (own_KW s Z EL Q rc rs) T g := by
  subst eT
  have hA : CHr Z EL vm0 T.heap T.vm T.heap := CHv.at X hZ hEL H
  obtain ⟨fs, hr, hrun, hended, hE⟩ := X.leaveW hS hk (v := v) hv hlk
  exact ⟨_, _, st fs hr, hrun, hended, v, locs, rfl, hQ, hR.trans hA, hE.1, hE.2.1, hE.2.2.1, hE.2.2.2.mono hc hs⟩
theorem own_safeNull {vm : Vm} {x : Addr} (hal : Z.vm.Alike vm) (E : Exa Z h x "java/lang/String") (F : Fld Z h x "java/lang/String" "value" "[B" .null) : Safe Z EL vm h x := fun B => by
  obtain ⟨cell, k, e1, e2, e3, -, -⟩ := E
  obtain ⟨c2, cf, k2, i, f, h1, h2, -, -, -, -, h7⟩ := F
  cases h1.symm.trans e1
  obtain ⟨pp, -, u, a, -, q, -, G, rfl | rfl⟩ := B
  · cases (show h[q.sa]? = some q.sC from G.ha).symm.trans e1
    obtain ⟨cS, ⟨⟨s1, s2, s3, ⟨cv, kv, iv, s4, s4'⟩, -, s6, s7, s8, -⟩, -⟩, -⟩ := G
    obtain ⟨k', q1, -⟩ := State.fieldFound?_setVm (s := Z) hal h2
    have q2 : (Wst Z vm h).fieldFound? "java/lang/String" "value" "[B" = some (cf, k', i, f) := q1
    have q3 := q2.symm.trans s4
    simp only [Option.some.injEq, Prod.mk.injEq] at q3
    rw [q3.2.2.2] at h7
    rw [h7] at s8
    cases s8
  · cases (show h[q.sd]? = some q.SA from G.hd).symm.trans e1
    obtain ⟨cS, -, -, ff, -⟩ := G
    have ff : vm.findClass "[B" = some q.SA.cls := ff
    rw [hal.findClass] at ff
    obtain ⟨k1, r1, r2⟩ := Vm.findClass_spec ff
    obtain ⟨k3, r3, r4⟩ := Vm.findClass_spec e2
    cases r1.symm.trans r3
    have := r2.symm.trans r4
    exact absurd this (by decide)
theorem own_safeArv {vm : Vm} {x : Addr} {k : ClassId} {n : Int32} {vs : List Value} {dv : Value} (hal : Z.vm.Alike vm) (F : Arv Z h x k .char n vs dv) : Safe Z EL vm h x := by
  obtain ⟨cl, A, -⟩ := F
  exact Safe.arr hal A (by decide)
theorem own_callCW (X : Stand p l e R (s.setVm vm0) m args below meth c T locs cells slots) (hx : p.tables.exec = Jvm.exec) (hZ : Z.Warmed39 (s.setVm vm0).vm) {own : String} {index : Nat} {y : MethodName} {bytes : ByteArray} {maxL : Nat} (hy1 : y.name = "<init>") (hown : (s.setVm vm0).vm.findClass own = some m.cls)
    (w1 : (Jvm.Cond.methodLink own index y).before a0 Z = true) (w2 : (Jvm.Cond.instanceMethod y).before a0 Z = true) (w3 : (Jvm.Cond.code y bytes maxL none).before a0 Z = true) (w4 : (Jvm.Cond.initialized y.cls).before a0 Z = true)
    (hy : y.cls ≠ "java/lang/invoke/MethodHandle" ∧ y.cls ≠ "java/lang/invoke/VarHandle")
    {rm : Room} (W : Nat) {a : Addr} (argsL rest : List Value) {Q : Option Value → Heap → List Loc → Prop} (hM : own_MetW l Z EL y bytes maxL none [] rm (.ref a :: argsL).toArray h Q) (eT : T.heap = h) (hEL : EW Z a0 EL) (H : CHv Z EL vm0 h) (hS : s.Since vm0 k0) (hk : k0 ≤ h.size)
    (hf : rm.frames + 1 ≤ R.frames) (hl : W + (maxL + 11) + rm.locals ≤ R.locals) (hc : cells + rm.cells ≤ R.cells) (hs : slots + rm.slots ≤ R.slots)
    {g : JFrame} (hg : g.method = m) (hsize : g.locals.size = c.maxLocals) {ps : List FieldType} {r : Option FieldType} (hpd : parseMethodDescriptor y.desc = some ⟨ps, r⟩) (hlen : argsL.length = ps.length)
    (hstack : g.stack = argsL.reverse ++ .ref a :: rest) (hW : 2 * g.monitorRoom + (rest.map fun v => v.category).sum ≤ W) (hd : decode c.code g.pc = .ok (.invokespecial index, 3))
    {K : Outcome → State → Prop} (go : ∀ T' v L, Stand p l e R (s.setVm T'.vm) m args below meth c T' (locs ++ L) (cells + rm.cells) (slots + rm.slots) → s.Since T'.vm T'.heap.size → Z.Warmed39 (s.setVm T'.vm).vm → (s.setVm T'.vm).vm.findClass own = some m.cls → CHr Z EL vm0 h T'.vm T'.heap → Q v T'.heap L → own_Goes p e below K T' { g with pc := g.pc + 3, stack := v.toList ++ rest }) : own_Goes p e below K T g := by
  obtain ⟨v, _, ⟨T', L', k', n'⟩, -, X', hS', hgr, ⟨Lc, hQ, l1, y1, z1, hC⟩, st⟩ := X.specialBackS hx (y := y) hy1 hown (mvT hZ w1) (mvT hZ w2) (mvT hZ w3) hy (backOfSH (W := W) hM hZ w3 w4 hf hl hEL H) hg hsize (Steps.refl _) (a := a) (lenOf hpd hlen) hstack hW hd (fun _ _ => ⟨rfl, eT, hc, hs⟩)
  dsimp only [Pt.U, Pt.locs, Pt.cells, Pt.slots] at X' hS' hgr l1 y1 z1 st hQ hC
  subst l1 y1 z1
  obtain ⟨X2, hS2, hZ2, hown2⟩ := rebS hS (by rw [eT]; exact hk) X' hS' hgr hZ hown
  exact own_step (fun t k => st.trans k) (go _ _ _ X2 hS2 hZ2 hown2 hC hQ)
theorem own_callSW (X : Stand p l e R (s.setVm vm0) m args below meth c T locs cells slots) (hx : p.tables.exec = Jvm.exec) (hZ : Z.Warmed39 (s.setVm vm0).vm) {own : String} {index : Nat} {y : MethodName} {bytes : ByteArray} {maxL : Nat} {ret : Option FieldType} (hown : (s.setVm vm0).vm.findClass own = some m.cls)
    (w1 : (Jvm.Cond.methodLink own index y).before a0 Z = true) (w2 : (Jvm.Cond.static y).before a0 Z = true) (w3 : (Jvm.Cond.initialized y.cls).before a0 Z = true) (w4 : (Jvm.Cond.code y bytes maxL ret).before a0 Z = true) (hy : y.cls ≠ "java/lang/invoke/MethodHandle" ∧ y.cls ≠ "java/lang/invoke/VarHandle")
    {rm : Room} (W : Nat) (argsL rest : List Value) {Q : Option Value → Heap → List Loc → Prop} (hM : own_MetW l Z EL y bytes maxL ret [] rm argsL.toArray h Q) (eT : T.heap = h) (hEL : EW Z a0 EL) (H : CHv Z EL vm0 h) (hS : s.Since vm0 k0) (hk : k0 ≤ h.size)
    (hf : rm.frames + 1 ≤ R.frames) (hl : W + (maxL + 11) + rm.locals ≤ R.locals) (hc : cells + rm.cells ≤ R.cells) (hs : slots + rm.slots ≤ R.slots)
    {g : JFrame} (hg : g.method = m) (hsize : g.locals.size = c.maxLocals) {ps : List FieldType} {r : Option FieldType} (hpd : parseMethodDescriptor y.desc = some ⟨ps, r⟩) (hlen : argsL.length = ps.length)
    (hstack : g.stack = argsL.reverse ++ rest) (hW : 2 * g.monitorRoom + (rest.map fun v => v.category).sum ≤ W) (hd : decode c.code g.pc = .ok (.invokestatic index, 3))
    {K : Outcome → State → Prop} (go : ∀ T' v L, Stand p l e R (s.setVm T'.vm) m args below meth c T' (locs ++ L) (cells + rm.cells) (slots + rm.slots) → s.Since T'.vm T'.heap.size → Z.Warmed39 (s.setVm T'.vm).vm → (s.setVm T'.vm).vm.findClass own = some m.cls → CHr Z EL vm0 h T'.vm T'.heap → Q v T'.heap L → own_Goes p e below K T' { g with pc := g.pc + 3, stack := v.toList ++ rest }) : own_Goes p e below K T g := by
  obtain ⟨v, _, ⟨T', L', k', n'⟩, -, X', hS', hgr, ⟨Lc, hQ, l1, y1, z1, hC⟩, st⟩ := callSS X hx (y := y) hown (mvT hZ w1) (mvT hZ w2) (mvT hZ w3) (mvT hZ w4) hy (backOfSH (W := W) hM hZ w4 w3 hf hl hEL H) hg hsize (lenOf hpd hlen) hstack hW hd (fun _ _ => ⟨rfl, eT, hc, hs⟩)
  dsimp only [Pt.U, Pt.locs, Pt.cells, Pt.slots] at X' hS' hgr l1 y1 z1 st hQ hC
  subst l1 y1 z1
  obtain ⟨X2, hS2, hZ2, hown2⟩ := rebS hS (by rw [eT]; exact hk) X' hS' hgr hZ hown
  exact own_step (fun t k => st.trans k) (go _ _ _ X2 hS2 hZ2 hown2 hC hQ)
end OwnKitW
def own_EL : List (String × Nat) := [("java/lang/String", 7)]
theorem own_e0 : (∀ c ∈ ("" : String).toList, c.toNat < 256) ∧ ("" : String).toList.map (fun c => Value.int (Jvm.Lit.byteI c.toNat.toUInt16)) = [] := by simp
theorem own_hEL {Z : State} {a0 : Array Value} (hw : ∀ d ∈ tables_1, d.before a0 Z = true) : EW Z a0 own_EL := EW.cons (hw _ (List.mem_of_getElem? (i := 28) rfl)) own_e0.1 EW.nil
theorem own_atoms {Z : State} {a0 : Array Value} (hw : ∀ d ∈ tables_1, d.before a0 Z = true) : ∀ d ∈ Bundle.stringAtoms, d.before a0 Z = true := fun d hd => hw d ((by decide +kernel : ∀ d ∈ Bundle.stringAtoms, d ∈ tables_1) d hd)
def own_typ (k : Int32) (w_HEADER w_IDENTIFIER w_NUMBER w_STRING w_ALIAS w_SYMBOL w_BODY w_END w_ABORT w_EOF : Addr) : Addr := if k = (0 : Int32) then w_HEADER else if k = (1 : Int32) then w_IDENTIFIER else if k = (2 : Int32) then w_NUMBER else if k = (3 : Int32) then w_STRING else if k = (4 : Int32) then w_ALIAS else if k = (5 : Int32) then w_SYMBOL else if k = (6 : Int32) then w_BODY else if k = (7 : Int32) then w_END else if k = (8 : Int32) then w_ABORT else w_EOF
theorem own_pn_com_example_weaverbird_weaverbird_automaton_TokenIsPinLaw : plainName "com/example/weaverbird/weaverbird/automaton/TokenIsPinLaw" = true := by first | (simp [plainName, overriddenIn]; done) | decide +kernel
theorem own_ef0 (m : MethodId) (x0 : Int32) : entryFrame m #[(.int x0)] 1 = mkF m 0 #[.val (.int x0)] [] := by first | (simp [entryFrame, mkF, argsToLocals, Value.category]; done) | rfl
theorem own_method_2_0 : decode method_2_code 0 = .ok (.iload_n 0, 1) := by decide +kernel
theorem own_method_2_1 : decode method_2_code 1 = .ok (.ifCond .ne 7, 3) := by decide +kernel
theorem own_method_2_4 : decode method_2_code 4 = .ok (.getstatic 7, 3) := by decide +kernel
theorem own_method_2_7 : decode method_2_code 7 = .ok (.areturn, 1) := by decide +kernel
theorem own_method_2_8 : decode method_2_code 8 = .ok (.iload_n 0, 1) := by decide +kernel
theorem own_method_2_9 : decode method_2_code 9 = .ok (.iconst 1, 1) := by decide +kernel
theorem own_method_2_10 : decode method_2_code 10 = .ok (.if_icmp .ne 7, 3) := by decide +kernel
theorem own_method_2_13 : decode method_2_code 13 = .ok (.getstatic 13, 3) := by decide +kernel
theorem own_method_2_16 : decode method_2_code 16 = .ok (.areturn, 1) := by decide +kernel
theorem own_method_2_17 : decode method_2_code 17 = .ok (.iload_n 0, 1) := by decide +kernel
theorem own_method_2_18 : decode method_2_code 18 = .ok (.iconst 2, 1) := by decide +kernel
theorem own_method_2_19 : decode method_2_code 19 = .ok (.if_icmp .ne 7, 3) := by decide +kernel
theorem own_method_2_22 : decode method_2_code 22 = .ok (.getstatic 16, 3) := by decide +kernel
theorem own_method_2_25 : decode method_2_code 25 = .ok (.areturn, 1) := by decide +kernel
theorem own_method_2_26 : decode method_2_code 26 = .ok (.iload_n 0, 1) := by decide +kernel
theorem own_method_2_27 : decode method_2_code 27 = .ok (.iconst 3, 1) := by decide +kernel
theorem own_method_2_28 : decode method_2_code 28 = .ok (.if_icmp .ne 7, 3) := by decide +kernel
theorem own_method_2_31 : decode method_2_code 31 = .ok (.getstatic 19, 3) := by decide +kernel
theorem own_method_2_34 : decode method_2_code 34 = .ok (.areturn, 1) := by decide +kernel
theorem own_method_2_35 : decode method_2_code 35 = .ok (.iload_n 0, 1) := by decide +kernel
theorem own_method_2_36 : decode method_2_code 36 = .ok (.iconst 4, 1) := by decide +kernel
theorem own_method_2_37 : decode method_2_code 37 = .ok (.if_icmp .ne 7, 3) := by decide +kernel
theorem own_method_2_40 : decode method_2_code 40 = .ok (.getstatic 22, 3) := by decide +kernel
theorem own_method_2_43 : decode method_2_code 43 = .ok (.areturn, 1) := by decide +kernel
theorem own_method_2_44 : decode method_2_code 44 = .ok (.iload_n 0, 1) := by decide +kernel
theorem own_method_2_45 : decode method_2_code 45 = .ok (.iconst 5, 1) := by decide +kernel
theorem own_method_2_46 : decode method_2_code 46 = .ok (.if_icmp .ne 7, 3) := by decide +kernel
theorem own_method_2_49 : decode method_2_code 49 = .ok (.getstatic 25, 3) := by decide +kernel
theorem own_method_2_52 : decode method_2_code 52 = .ok (.areturn, 1) := by decide +kernel
theorem own_method_2_53 : decode method_2_code 53 = .ok (.iload_n 0, 1) := by decide +kernel
theorem own_method_2_54 : decode method_2_code 54 = .ok (.bipush 6, 2) := by decide +kernel
theorem own_method_2_56 : decode method_2_code 56 = .ok (.if_icmp .ne 7, 3) := by decide +kernel
theorem own_method_2_59 : decode method_2_code 59 = .ok (.getstatic 28, 3) := by decide +kernel
theorem own_method_2_62 : decode method_2_code 62 = .ok (.areturn, 1) := by decide +kernel
theorem own_method_2_63 : decode method_2_code 63 = .ok (.iload_n 0, 1) := by decide +kernel
theorem own_method_2_64 : decode method_2_code 64 = .ok (.bipush 7, 2) := by decide +kernel
theorem own_method_2_66 : decode method_2_code 66 = .ok (.if_icmp .ne 7, 3) := by decide +kernel
theorem own_method_2_69 : decode method_2_code 69 = .ok (.getstatic 31, 3) := by decide +kernel
theorem own_method_2_72 : decode method_2_code 72 = .ok (.areturn, 1) := by decide +kernel
theorem own_method_2_73 : decode method_2_code 73 = .ok (.iload_n 0, 1) := by decide +kernel
theorem own_method_2_74 : decode method_2_code 74 = .ok (.bipush 8, 2) := by decide +kernel
theorem own_method_2_76 : decode method_2_code 76 = .ok (.if_icmp .ne 7, 3) := by decide +kernel
theorem own_method_2_79 : decode method_2_code 79 = .ok (.getstatic 34, 3) := by decide +kernel
theorem own_method_2_82 : decode method_2_code 82 = .ok (.areturn, 1) := by decide +kernel
theorem own_method_2_83 : decode method_2_code 83 = .ok (.getstatic 37, 3) := by decide +kernel
theorem own_method_2_86 : decode method_2_code 86 = .ok (.areturn, 1) := by decide +kernel
set_option maxRecDepth 65536 in
set_option maxHeartbeats 40000000 in
theorem own_type (l : Launch) (Z : State) (a0 : Array Value) (hw : ∀ d ∈ tables_1, d.before a0 Z = true) (ws : List Jvm.Cond) (pv : Int32) (r : Addr) (w_HEADER : Addr) (w_IDENTIFIER : Addr) (w_NUMBER : Addr) (w_STRING : Addr) (w_ALIAS : Addr) (w_SYMBOL : Addr) (w_BODY : Addr) (w_END : Addr) (w_ABORT : Addr) (w_EOF : Addr) (h0 : Heap) (n0 : Nat) (Z0 : n0 ≤ h0.size) (S_HEADER : Sta Z h0 "com/example/weaverbird/weaverbird/automaton/HoaLexer$Type" "HEADER" "Lcom/example/weaverbird/weaverbird/automaton/HoaLexer$Type;" (.ref w_HEADER)) (S_IDENTIFIER : Sta Z h0 "com/example/weaverbird/weaverbird/automaton/HoaLexer$Type" "IDENTIFIER" "Lcom/example/weaverbird/weaverbird/automaton/HoaLexer$Type;" (.ref w_IDENTIFIER)) (S_NUMBER : Sta Z h0 "com/example/weaverbird/weaverbird/automaton/HoaLexer$Type" "NUMBER" "Lcom/example/weaverbird/weaverbird/automaton/HoaLexer$Type;" (.ref w_NUMBER)) (S_STRING : Sta Z h0 "com/example/weaverbird/weaverbird/automaton/HoaLexer$Type" "STRING" "Lcom/example/weaverbird/weaverbird/automaton/HoaLexer$Type;" (.ref w_STRING)) (S_ALIAS : Sta Z h0 "com/example/weaverbird/weaverbird/automaton/HoaLexer$Type" "ALIAS" "Lcom/example/weaverbird/weaverbird/automaton/HoaLexer$Type;" (.ref w_ALIAS)) (S_SYMBOL : Sta Z h0 "com/example/weaverbird/weaverbird/automaton/HoaLexer$Type" "SYMBOL" "Lcom/example/weaverbird/weaverbird/automaton/HoaLexer$Type;" (.ref w_SYMBOL)) (S_BODY : Sta Z h0 "com/example/weaverbird/weaverbird/automaton/HoaLexer$Type" "BODY" "Lcom/example/weaverbird/weaverbird/automaton/HoaLexer$Type;" (.ref w_BODY)) (S_END : Sta Z h0 "com/example/weaverbird/weaverbird/automaton/HoaLexer$Type" "END" "Lcom/example/weaverbird/weaverbird/automaton/HoaLexer$Type;" (.ref w_END)) (S_ABORT : Sta Z h0 "com/example/weaverbird/weaverbird/automaton/HoaLexer$Type" "ABORT" "Lcom/example/weaverbird/weaverbird/automaton/HoaLexer$Type;" (.ref w_ABORT)) (S_EOF : Sta Z h0 "com/example/weaverbird/weaverbird/automaton/HoaLexer$Type" "EOF" "Lcom/example/weaverbird/weaverbird/automaton/HoaLexer$Type;" (.ref w_EOF)) (hr : own_typ pv w_HEADER w_IDENTIFIER w_NUMBER w_STRING w_ALIAS w_SYMBOL w_BODY w_END w_ABORT w_EOF = r) :
    own_Met l Z (⟨"com/example/weaverbird/weaverbird/automaton/TokenIsPinLaw", "type", "(I)Lcom/example/weaverbird/weaverbird/automaton/HoaLexer$Type;"⟩ : MethodName) method_2_code 1 (some (.object "com/example/weaverbird/weaverbird/automaton/HoaLexer$Type")) ws ({ frames := 0, cells := 0, slots := 0, locals := 0 } : Room) #[(.int pv)] h0 (fun v h L => v = some (.ref r) ∧ Fr n0 L ∧ h = h0) := by
  refine own_body (plainFor_of_name own_pn_com_example_weaverbird_weaverbird_automaton_TokenIsPinLaw) (fun p e s m below meth c s₁ hx hby hml0 hrt hlk hown0 hnm hZ X0 e0 => ?_)
  have N0 := Fr.nil n0
  have hown : s.vm.findClass "com/example/weaverbird/weaverbird/automaton/TokenIsPinLaw" = some m.cls := hown0
  have hml : c.maxLocals = 1 := hml0
  refine own_castG (own_ef0 m pv) ?_
  refine own_step (fun t k => XS.iloadN X0.here hx rfl (hb hby own_method_2_0) rfl k) ?_
  show own_Goes _ _ _ _ s₁ (mkF m 1 #[.val (.int pv)] [(.int pv)])
  by_cases hc1_1 : pv = (0 : Int32)
  · refine own_step (fun t k => XS.ifNo X0.here hx rfl (hb hby own_method_2_1) rfl ((if0 _ _).trans (teq (show pv = (0 : Int32) from hc1_1)).2) k) ?_
    show own_Goes _ _ _ _ s₁ (mkF m 4 #[.val (.int pv)] [])
    obtain ⟨T2, X2, e2, st2⟩ := getS2 X0 hx hZ hown (host := "") (Or.inl (hw _ (List.mem_of_getElem? (i := 8) rfl))) Via.refl e0 S_HEADER (g := (mkF m 4 #[.val (.int pv)] [])) rfl (hb hby own_method_2_4)
    refine own_step st2 ?_
    show own_Goes _ _ _ _ T2 (mkF m 7 #[.val (.int pv)] [(.ref w_HEADER)])
    exact own_retA X2 hx hlk hrt rfl rfl rfl (hb hby own_method_2_7) ⟨by rw [← hr]; simp [own_typ, hc1_1], N0, e2⟩ (by decide) (by decide)
  · refine own_step (fun t k => XS.ifYes X0.here hx rfl (pc0 := 1) (pc' := 8) rfl (hb hby own_method_2_1) rfl ((if0 _ _).trans (feq (show ¬ (pv = (0 : Int32)) from hc1_1)).2) (by decide) (by decide) k) ?_
    refine own_step (fun t k => XS.iloadN X0.here hx rfl (hb hby own_method_2_8) rfl k) ?_
    refine own_step (fun t k => XS.iconst X0.here hx rfl (hb hby own_method_2_9) k) ?_
    show own_Goes _ _ _ _ s₁ (mkF m 10 #[.val (.int pv)] [(.int (1 : Int32)), (.int pv)])
    by_cases hc10_3 : pv = (1 : Int32)
    · refine own_step (fun t k => XS.icmpNo X0.here hx rfl (hb hby own_method_2_10) rfl (teq (show pv = (1 : Int32) from hc10_3)).2 k) ?_
      show own_Goes _ _ _ _ s₁ (mkF m 13 #[.val (.int pv)] [])
      obtain ⟨T4, X4, e4, st4⟩ := getS2 X0 hx hZ hown (host := "") (Or.inl (hw _ (List.mem_of_getElem? (i := 89) rfl))) Via.refl e0 S_IDENTIFIER (g := (mkF m 13 #[.val (.int pv)] [])) rfl (hb hby own_method_2_13)
      refine own_step st4 ?_
      show own_Goes _ _ _ _ T4 (mkF m 16 #[.val (.int pv)] [(.ref w_IDENTIFIER)])
      exact own_retA X4 hx hlk hrt rfl rfl rfl (hb hby own_method_2_16) ⟨by rw [← hr]; simp [own_typ, hc1_1, hc10_3], N0, e4⟩ (by decide) (by decide)
    · refine own_step (fun t k => XS.icmpYes X0.here hx rfl (pc0 := 10) (pc' := 17) rfl (hb hby own_method_2_10) rfl (feq (show ¬ (pv = (1 : Int32)) from hc10_3)).2 (by decide) (by decide) k) ?_
      refine own_step (fun t k => XS.iloadN X0.here hx rfl (hb hby own_method_2_17) rfl k) ?_
      refine own_step (fun t k => XS.iconst X0.here hx rfl (hb hby own_method_2_18) k) ?_
      show own_Goes _ _ _ _ s₁ (mkF m 19 #[.val (.int pv)] [(.int (2 : Int32)), (.int pv)])
      by_cases hc19_5 : pv = (2 : Int32)
      · refine own_step (fun t k => XS.icmpNo X0.here hx rfl (hb hby own_method_2_19) rfl (teq (show pv = (2 : Int32) from hc19_5)).2 k) ?_
        show own_Goes _ _ _ _ s₁ (mkF m 22 #[.val (.int pv)] [])
        obtain ⟨T6, X6, e6, st6⟩ := getS2 X0 hx hZ hown (host := "") (Or.inl (hw _ (List.mem_of_getElem? (i := 85) rfl))) Via.refl e0 S_NUMBER (g := (mkF m 22 #[.val (.int pv)] [])) rfl (hb hby own_method_2_22)
        refine own_step st6 ?_
        show own_Goes _ _ _ _ T6 (mkF m 25 #[.val (.int pv)] [(.ref w_NUMBER)])
        exact own_retA X6 hx hlk hrt rfl rfl rfl (hb hby own_method_2_25) ⟨by rw [← hr]; simp [own_typ, hc1_1, hc10_3, hc19_5], N0, e6⟩ (by decide) (by decide)
      · refine own_step (fun t k => XS.icmpYes X0.here hx rfl (pc0 := 19) (pc' := 26) rfl (hb hby own_method_2_19) rfl (feq (show ¬ (pv = (2 : Int32)) from hc19_5)).2 (by decide) (by decide) k) ?_
        refine own_step (fun t k => XS.iloadN X0.here hx rfl (hb hby own_method_2_26) rfl k) ?_
        refine own_step (fun t k => XS.iconst X0.here hx rfl (hb hby own_method_2_27) k) ?_
        show own_Goes _ _ _ _ s₁ (mkF m 28 #[.val (.int pv)] [(.int (3 : Int32)), (.int pv)])
        by_cases hc28_7 : pv = (3 : Int32)
        · refine own_step (fun t k => XS.icmpNo X0.here hx rfl (hb hby own_method_2_28) rfl (teq (show pv = (3 : Int32) from hc28_7)).2 k) ?_
          show own_Goes _ _ _ _ s₁ (mkF m 31 #[.val (.int pv)] [])
          obtain ⟨T8, X8, e8, st8⟩ := getS2 X0 hx hZ hown (host := "") (Or.inl (hw _ (List.mem_of_getElem? (i := 51) rfl))) Via.refl e0 S_STRING (g := (mkF m 31 #[.val (.int pv)] [])) rfl (hb hby own_method_2_31)
          refine own_step st8 ?_
          show own_Goes _ _ _ _ T8 (mkF m 34 #[.val (.int pv)] [(.ref w_STRING)])
          exact own_retA X8 hx hlk hrt rfl rfl rfl (hb hby own_method_2_34) ⟨by rw [← hr]; simp [own_typ, hc1_1, hc10_3, hc19_5, hc28_7], N0, e8⟩ (by decide) (by decide)
        · refine own_step (fun t k => XS.icmpYes X0.here hx rfl (pc0 := 28) (pc' := 35) rfl (hb hby own_method_2_28) rfl (feq (show ¬ (pv = (3 : Int32)) from hc28_7)).2 (by decide) (by decide) k) ?_
          refine own_step (fun t k => XS.iloadN X0.here hx rfl (hb hby own_method_2_35) rfl k) ?_
          refine own_step (fun t k => XS.iconst X0.here hx rfl (hb hby own_method_2_36) k) ?_
          show own_Goes _ _ _ _ s₁ (mkF m 37 #[.val (.int pv)] [(.int (4 : Int32)), (.int pv)])
          by_cases hc37_9 : pv = (4 : Int32)
          · refine own_step (fun t k => XS.icmpNo X0.here hx rfl (hb hby own_method_2_37) rfl (teq (show pv = (4 : Int32) from hc37_9)).2 k) ?_
            show own_Goes _ _ _ _ s₁ (mkF m 40 #[.val (.int pv)] [])
            obtain ⟨T10, X10, e10, st10⟩ := getS2 X0 hx hZ hown (host := "") (Or.inl (hw _ (List.mem_of_getElem? (i := 58) rfl))) Via.refl e0 S_ALIAS (g := (mkF m 40 #[.val (.int pv)] [])) rfl (hb hby own_method_2_40)
            refine own_step st10 ?_
            show own_Goes _ _ _ _ T10 (mkF m 43 #[.val (.int pv)] [(.ref w_ALIAS)])
            exact own_retA X10 hx hlk hrt rfl rfl rfl (hb hby own_method_2_43) ⟨by rw [← hr]; simp [own_typ, hc1_1, hc10_3, hc19_5, hc28_7, hc37_9], N0, e10⟩ (by decide) (by decide)
          · refine own_step (fun t k => XS.icmpYes X0.here hx rfl (pc0 := 37) (pc' := 44) rfl (hb hby own_method_2_37) rfl (feq (show ¬ (pv = (4 : Int32)) from hc37_9)).2 (by decide) (by decide) k) ?_
            refine own_step (fun t k => XS.iloadN X0.here hx rfl (hb hby own_method_2_44) rfl k) ?_
            refine own_step (fun t k => XS.iconst X0.here hx rfl (hb hby own_method_2_45) k) ?_
            show own_Goes _ _ _ _ s₁ (mkF m 46 #[.val (.int pv)] [(.int (5 : Int32)), (.int pv)])
            by_cases hc46_11 : pv = (5 : Int32)
            · refine own_step (fun t k => XS.icmpNo X0.here hx rfl (hb hby own_method_2_46) rfl (teq (show pv = (5 : Int32) from hc46_11)).2 k) ?_
              show own_Goes _ _ _ _ s₁ (mkF m 49 #[.val (.int pv)] [])
              obtain ⟨T12, X12, e12, st12⟩ := getS2 X0 hx hZ hown (host := "") (Or.inl (hw _ (List.mem_of_getElem? (i := 83) rfl))) Via.refl e0 S_SYMBOL (g := (mkF m 49 #[.val (.int pv)] [])) rfl (hb hby own_method_2_49)
              refine own_step st12 ?_
              show own_Goes _ _ _ _ T12 (mkF m 52 #[.val (.int pv)] [(.ref w_SYMBOL)])
              exact own_retA X12 hx hlk hrt rfl rfl rfl (hb hby own_method_2_52) ⟨by rw [← hr]; simp [own_typ, hc1_1, hc10_3, hc19_5, hc28_7, hc37_9, hc46_11], N0, e12⟩ (by decide) (by decide)
            · refine own_step (fun t k => XS.icmpYes X0.here hx rfl (pc0 := 46) (pc' := 53) rfl (hb hby own_method_2_46) rfl (feq (show ¬ (pv = (5 : Int32)) from hc46_11)).2 (by decide) (by decide) k) ?_
              refine own_step (fun t k => XS.iloadN X0.here hx rfl (hb hby own_method_2_53) rfl k) ?_
              refine own_step (fun t k => XS.bipush X0.here hx rfl (hb hby own_method_2_54) k) ?_
              show own_Goes _ _ _ _ s₁ (mkF m 56 #[.val (.int pv)] [(.int (6 : Int32)), (.int pv)])
              by_cases hc56_13 : pv = (6 : Int32)
              · refine own_step (fun t k => XS.icmpNo X0.here hx rfl (hb hby own_method_2_56) rfl (teq (show pv = (6 : Int32) from hc56_13)).2 k) ?_
                show own_Goes _ _ _ _ s₁ (mkF m 59 #[.val (.int pv)] [])
                obtain ⟨T14, X14, e14, st14⟩ := getS2 X0 hx hZ hown (host := "") (Or.inl (hw _ (List.mem_of_getElem? (i := 91) rfl))) Via.refl e0 S_BODY (g := (mkF m 59 #[.val (.int pv)] [])) rfl (hb hby own_method_2_59)
                refine own_step st14 ?_
                show own_Goes _ _ _ _ T14 (mkF m 62 #[.val (.int pv)] [(.ref w_BODY)])
                exact own_retA X14 hx hlk hrt rfl rfl rfl (hb hby own_method_2_62) ⟨by rw [← hr]; simp [own_typ, hc1_1, hc10_3, hc19_5, hc28_7, hc37_9, hc46_11, hc56_13], N0, e14⟩ (by decide) (by decide)
              · refine own_step (fun t k => XS.icmpYes X0.here hx rfl (pc0 := 56) (pc' := 63) rfl (hb hby own_method_2_56) rfl (feq (show ¬ (pv = (6 : Int32)) from hc56_13)).2 (by decide) (by decide) k) ?_
                refine own_step (fun t k => XS.iloadN X0.here hx rfl (hb hby own_method_2_63) rfl k) ?_
                refine own_step (fun t k => XS.bipush X0.here hx rfl (hb hby own_method_2_64) k) ?_
                show own_Goes _ _ _ _ s₁ (mkF m 66 #[.val (.int pv)] [(.int (7 : Int32)), (.int pv)])
                by_cases hc66_15 : pv = (7 : Int32)
                · refine own_step (fun t k => XS.icmpNo X0.here hx rfl (hb hby own_method_2_66) rfl (teq (show pv = (7 : Int32) from hc66_15)).2 k) ?_
                  show own_Goes _ _ _ _ s₁ (mkF m 69 #[.val (.int pv)] [])
                  obtain ⟨T16, X16, e16, st16⟩ := getS2 X0 hx hZ hown (host := "") (Or.inl (hw _ (List.mem_of_getElem? (i := 87) rfl))) Via.refl e0 S_END (g := (mkF m 69 #[.val (.int pv)] [])) rfl (hb hby own_method_2_69)
                  refine own_step st16 ?_
                  show own_Goes _ _ _ _ T16 (mkF m 72 #[.val (.int pv)] [(.ref w_END)])
                  exact own_retA X16 hx hlk hrt rfl rfl rfl (hb hby own_method_2_72) ⟨by rw [← hr]; simp [own_typ, hc1_1, hc10_3, hc19_5, hc28_7, hc37_9, hc46_11, hc56_13, hc66_15], N0, e16⟩ (by decide) (by decide)
                · refine own_step (fun t k => XS.icmpYes X0.here hx rfl (pc0 := 66) (pc' := 73) rfl (hb hby own_method_2_66) rfl (feq (show ¬ (pv = (7 : Int32)) from hc66_15)).2 (by decide) (by decide) k) ?_
                  refine own_step (fun t k => XS.iloadN X0.here hx rfl (hb hby own_method_2_73) rfl k) ?_
                  refine own_step (fun t k => XS.bipush X0.here hx rfl (hb hby own_method_2_74) k) ?_
                  show own_Goes _ _ _ _ s₁ (mkF m 76 #[.val (.int pv)] [(.int (8 : Int32)), (.int pv)])
                  by_cases hc76_17 : pv = (8 : Int32)
                  · refine own_step (fun t k => XS.icmpNo X0.here hx rfl (hb hby own_method_2_76) rfl (teq (show pv = (8 : Int32) from hc76_17)).2 k) ?_
                    show own_Goes _ _ _ _ s₁ (mkF m 79 #[.val (.int pv)] [])
                    obtain ⟨T18, X18, e18, st18⟩ := getS2 X0 hx hZ hown (host := "") (Or.inl (hw _ (List.mem_of_getElem? (i := 81) rfl))) Via.refl e0 S_ABORT (g := (mkF m 79 #[.val (.int pv)] [])) rfl (hb hby own_method_2_79)
                    refine own_step st18 ?_
                    show own_Goes _ _ _ _ T18 (mkF m 82 #[.val (.int pv)] [(.ref w_ABORT)])
                    exact own_retA X18 hx hlk hrt rfl rfl rfl (hb hby own_method_2_82) ⟨by rw [← hr]; simp [own_typ, hc1_1, hc10_3, hc19_5, hc28_7, hc37_9, hc46_11, hc56_13, hc66_15, hc76_17], N0, e18⟩ (by decide) (by decide)
                  · refine own_step (fun t k => XS.icmpYes X0.here hx rfl (pc0 := 76) (pc' := 83) rfl (hb hby own_method_2_76) rfl (feq (show ¬ (pv = (8 : Int32)) from hc76_17)).2 (by decide) (by decide) k) ?_
                    show own_Goes _ _ _ _ s₁ (mkF m 83 #[.val (.int pv)] [])
                    obtain ⟨T19, X19, e19, st19⟩ := getS2 X0 hx hZ hown (host := "") (Or.inl (hw _ (List.mem_of_getElem? (i := 93) rfl))) Via.refl e0 S_EOF (g := (mkF m 83 #[.val (.int pv)] [])) rfl (hb hby own_method_2_83)
                    refine own_step st19 ?_
                    show own_Goes _ _ _ _ T19 (mkF m 86 #[.val (.int pv)] [(.ref w_EOF)])
                    exact own_retA X19 hx hlk hrt rfl rfl rfl (hb hby own_method_2_86) ⟨by rw [← hr]; simp [own_typ, hc1_1, hc10_3, hc19_5, hc28_7, hc37_9, hc46_11, hc56_13, hc66_15, hc76_17], N0, e19⟩ (by decide) (by decide)
theorem own_pn_java_lang_Record : plainName "java/lang/Record" = true := by first | (simp [plainName, overriddenIn]; done) | decide +kernel
theorem own_ef1 (m : MethodId) (x0 : Addr) : entryFrame m #[(.ref x0)] 1 = mkF m 0 #[.val (.ref x0)] [] := by first | (simp [entryFrame, mkF, argsToLocals, Value.category]; done) | rfl
theorem own_jdk_30_method_1_0 : decode jdk_30_method_1_code 0 = .ok (.aload_n 0, 1) := by decide +kernel
theorem own_jdk_30_method_1_1 : decode jdk_30_method_1_code 1 = .ok (.invokespecial 1, 3) := by decide +kernel
theorem own_jdk_30_method_1_4 : decode jdk_30_method_1_code 4 = .ok (.return_, 1) := by decide +kernel
set_option maxRecDepth 65536 in
set_option maxHeartbeats 40000000 in
theorem own_rec (l : Launch) (Z : State) (a0 : Array Value) (hw : ∀ d ∈ tables_1, d.before a0 Z = true) (ws : List Jvm.Cond) (a : Addr) (h0 : Heap) (n0 : Nat) (Z0 : n0 ≤ h0.size) :
    own_Met l Z (⟨"java/lang/Record", "<init>", "()V"⟩ : MethodName) jdk_30_method_1_code 1 none ws ({ frames := 1, cells := 0, slots := 0, locals := 12 } : Room) #[(.ref a)] h0 (fun v h L => v = none ∧ Fr n0 L ∧ h = h0) := by
  refine own_body (plainFor_of_name own_pn_java_lang_Record) (fun p e s m below meth c s₁ hx hby hml0 hrt hlk hown0 hnm hZ X0 e0 => ?_)
  have N0 := Fr.nil n0
  have hown : s.vm.findClass "java/lang/Record" = some m.cls := hown0
  have hml : c.maxLocals = 1 := hml0
  refine own_castG (own_ef1 m a) ?_
  refine own_step (fun t k => XS.aloadN X0.here hx rfl (hb hby own_jdk_30_method_1_0) rfl rfl k) ?_
  show own_Goes _ _ _ _ s₁ (mkF m 1 #[.val (.ref a)] [(.ref a)])
  obtain ⟨T1, X1, e1, st1⟩ := initO X0 hx hZ hown (hw _ (List.mem_of_getElem? (i := 44) rfl)) (hw _ (List.mem_of_getElem? (i := 26) rfl)) (hw _ (List.mem_of_getElem? (i := 27) rfl)) e0 (g := (mkF m 1 #[.val (.ref a)] [(.ref a)])) rfl (by rw [hml]; rfl) rfl (hb hby own_jdk_30_method_1_1) (by decide) (W := 0) (by show 2 * 0 + _ ≤ _; exact Nat.le_of_eq rfl) (by decide)
  refine own_step st1 ?_
  show own_Goes _ _ _ _ T1 (mkF m 4 #[.val (.ref a)] [])
  exact own_retV X1 hx hlk hrt (hb hby own_jdk_30_method_1_4) ⟨rfl, N0, e1⟩ (by decide) (by decide)
theorem own_pn_com_example_weaverbird_weaverbird_automaton_HoaLexer_Token : plainName "com/example/weaverbird/weaverbird/automaton/HoaLexer$Token" = true := by first | (simp [plainName, overriddenIn]; done) | decide +kernel
theorem own_ef2 (m : MethodId) (x0 : Addr) (x1 : Addr) (x2 : Addr) (x3 : Int32) : entryFrame m #[(.ref x0), (.ref x1), (.ref x2), (.int x3)] 4 = mkF m 0 #[.val (.ref x0), .val (.ref x1), .val (.ref x2), .val (.int x3)] [] := by first | (simp [entryFrame, mkF, argsToLocals, Value.category]; done) | rfl
theorem own_prog_16_method_1_0 : decode prog_16_method_1_code 0 = .ok (.aload_n 0, 1) := by decide +kernel
theorem own_prog_16_method_1_1 : decode prog_16_method_1_code 1 = .ok (.invokespecial 1, 3) := by decide +kernel
theorem own_pd0 : parseMethodDescriptor "()V" = some ⟨[], none⟩ := by decide +kernel
theorem own_prog_16_method_1_4 : decode prog_16_method_1_code 4 = .ok (.aload_n 0, 1) := by decide +kernel
theorem own_prog_16_method_1_5 : decode prog_16_method_1_code 5 = .ok (.aload_n 1, 1) := by decide +kernel
theorem own_prog_16_method_1_6 : decode prog_16_method_1_code 6 = .ok (.putfield 7, 3) := by decide +kernel
theorem own_prog_16_method_1_9 : decode prog_16_method_1_code 9 = .ok (.aload_n 0, 1) := by decide +kernel
theorem own_prog_16_method_1_10 : decode prog_16_method_1_code 10 = .ok (.aload_n 2, 1) := by decide +kernel
theorem own_prog_16_method_1_11 : decode prog_16_method_1_code 11 = .ok (.putfield 13, 3) := by decide +kernel
theorem own_prog_16_method_1_14 : decode prog_16_method_1_code 14 = .ok (.aload_n 0, 1) := by decide +kernel
theorem own_prog_16_method_1_15 : decode prog_16_method_1_code 15 = .ok (.iload_n 3, 1) := by decide +kernel
theorem own_prog_16_method_1_16 : decode prog_16_method_1_code 16 = .ok (.putfield 17, 3) := by decide +kernel
theorem own_prog_16_method_1_19 : decode prog_16_method_1_code 19 = .ok (.return_, 1) := by decide +kernel
set_option maxRecDepth 65536 in
set_option maxHeartbeats 40000000 in
theorem own_tinit (l : Launch) (Z : State) (a0 : Array Value) (hw : ∀ d ∈ tables_1, d.before a0 Z = true) (ws : List Jvm.Cond) (a : Addr) (ty : Addr) (tx : Addr) (ln : Int32) (h0 : Heap) (n0 : Nat) (Z0 : n0 ≤ h0.size) (E_a : Exa Z h0 a "com/example/weaverbird/weaverbird/automaton/HoaLexer$Token") (F_a_type : Fld Z h0 a "com/example/weaverbird/weaverbird/automaton/HoaLexer$Token" "type" "Lcom/example/weaverbird/weaverbird/automaton/HoaLexer$Type;" .null) (F_a_text : Fld Z h0 a "com/example/weaverbird/weaverbird/automaton/HoaLexer$Token" "text" "Ljava/lang/String;" .null) (F_a_line : Fld Z h0 a "com/example/weaverbird/weaverbird/automaton/HoaLexer$Token" "line" "I" (.int (0 : Int32))) (g_a : n0 ≤ a) :
    own_Met l Z (⟨"com/example/weaverbird/weaverbird/automaton/HoaLexer$Token", "<init>", "(Lcom/example/weaverbird/weaverbird/automaton/HoaLexer$Type;Ljava/lang/String;I)V"⟩ : MethodName) prog_16_method_1_code 4 none ws ({ frames := 2, cells := 0, slots := 0, locals := 24 } : Room) #[(.ref a), (.ref ty), (.ref tx), (.int ln)] h0 (fun v h L => v = none ∧ Fr n0 L ∧ Keep h0 h [a] ∧ Exa Z h a "com/example/weaverbird/weaverbird/automaton/HoaLexer$Token" ∧ Fld Z h a "com/example/weaverbird/weaverbird/automaton/HoaLexer$Token" "type" "Lcom/example/weaverbird/weaverbird/automaton/HoaLexer$Type;" (.ref ty) ∧ Fld Z h a "com/example/weaverbird/weaverbird/automaton/HoaLexer$Token" "text" "Ljava/lang/String;" (.ref tx)) := by
  refine own_body (plainFor_of_name own_pn_com_example_weaverbird_weaverbird_automaton_HoaLexer_Token) (fun p e s m below meth c s₁ hx hby hml0 hrt hlk hown0 hnm hZ X0 e0 => ?_)
  have N0 := Fr.nil n0
  have hown : s.vm.findClass "com/example/weaverbird/weaverbird/automaton/HoaLexer$Token" = some m.cls := hown0
  have hml : c.maxLocals = 4 := hml0
  refine own_castG (own_ef2 m a ty tx ln) ?_
  refine own_step (fun t k => XS.aloadN X0.here hx rfl (hb hby own_prog_16_method_1_0) rfl rfl k) ?_
  show own_Goes _ _ _ _ s₁ (mkF m 1 #[.val (.ref a), .val (.ref ty), .val (.ref tx), .val (.int ln)] [(.ref a)])
  refine own_callC X0 hx hZ (y := (⟨"java/lang/Record", "<init>", "()V"⟩ : MethodName)) rfl hown (hw _ (List.mem_of_getElem? (i := 39) rfl)) (hw _ (List.mem_of_getElem? (i := 40) rfl)) (hw _ (List.mem_of_getElem? (i := 43) rfl)) (hw _ (List.mem_of_getElem? (i := 42) rfl)) (by decide) 0 (a := a) [] [] (own_rec l Z a0 hw [] a h0 n0 Z0 ) e0  (by decide) (by decide) (by decide) (by decide) (g := (mkF m 1 #[.val (.ref a), .val (.ref ty), .val (.ref tx), .val (.int ln)] [(.ref a)])) rfl (by rw [hml]; rfl) own_pd0 rfl rfl (by show 2 * 0 + _ ≤ _; exact Nat.le_of_eq rfl) (hb hby own_prog_16_method_1_1) ?_
  intro T1 v1 L1 X1 hQ1
  obtain ⟨rfl, N1q, e1⟩ := hQ1
  have N1 := Fr.app N0 N1q
  refine own_step (fun t k => XS.aloadN X1.here hx rfl (hb hby own_prog_16_method_1_4) rfl rfl k) ?_
  refine own_step (fun t k => XS.aloadN X1.here hx rfl (hb hby own_prog_16_method_1_5) rfl rfl k) ?_
  show own_Goes _ _ _ _ T1 (mkF m 6 #[.val (.ref a), .val (.ref ty), .val (.ref tx), .val (.int ln)] [(.ref ty), (.ref a)])
  obtain ⟨T2, h2, X2, e2, W2, st2⟩ := putF X1 hx hZ hown (host := "") (Or.inl (hw _ (List.mem_of_getElem? (i := 45) rfl))) Via.refl e1 F_a_type E_a (Or.inr ⟨(hw _ (List.mem_of_getElem? (i := 46) rfl)), rfl, hnm⟩) (hw _ (List.mem_of_getElem? (i := 2) rfl)) (ty := (.object "com/example/weaverbird/weaverbird/automaton/HoaLexer$Type")) (by decide) rfl rfl (g := (mkF m 6 #[.val (.ref a), .val (.ref ty), .val (.ref tx), .val (.int ln)] [(.ref ty), (.ref a)])) rfl rfl (hb hby own_prog_16_method_1_6)
  refine own_step st2 ?_
  have F2 := F_a_type.same W2
  have K2 := (Keep.refl h0 [a]).wr W2 (Or.inl (List.mem_of_getElem? (i := 0) rfl))
  have N2 := Fr.snoc X2 N1 g_a
  refine own_step (fun t k => XS.aloadN X2.here hx rfl (hb hby own_prog_16_method_1_9) rfl rfl k) ?_
  refine own_step (fun t k => XS.aloadN X2.here hx rfl (hb hby own_prog_16_method_1_10) rfl rfl k) ?_
  show own_Goes _ _ _ _ T2 (mkF m 11 #[.val (.ref a), .val (.ref ty), .val (.ref tx), .val (.int ln)] [(.ref tx), (.ref a)])
  have E_a_v4 := (E_a.wr W2)
  have F_a_text_v5 := (F_a_text.other W2 (Or.inr (slot_ne (Or.inr (hw _ (List.mem_of_getElem? (i := 48) rfl))) (Or.inr (hw _ (List.mem_of_getElem? (i := 46) rfl))) (by decide) (t := (.object "java/lang/String")) (t' := (.object "com/example/weaverbird/weaverbird/automaton/HoaLexer$Type")) (by decide) (by decide))))
  obtain ⟨T3, h3, X3, e3, W3, st3⟩ := putF X2 hx hZ hown (host := "") (Or.inl (hw _ (List.mem_of_getElem? (i := 47) rfl))) Via.refl e2 F_a_text_v5 E_a_v4 (Or.inr ⟨(hw _ (List.mem_of_getElem? (i := 48) rfl)), rfl, hnm⟩) (hw _ (List.mem_of_getElem? (i := 2) rfl)) (ty := (.object "java/lang/String")) (by decide) rfl rfl (g := (mkF m 11 #[.val (.ref a), .val (.ref ty), .val (.ref tx), .val (.int ln)] [(.ref tx), (.ref a)])) rfl rfl (hb hby own_prog_16_method_1_11)
  refine own_step st3 ?_
  have F3 := F_a_text_v5.same W3
  have K3 := K2.wr W3 (Or.inl (List.mem_of_getElem? (i := 0) rfl))
  have N3 := Fr.snoc X3 N2 g_a
  refine own_step (fun t k => XS.aloadN X3.here hx rfl (hb hby own_prog_16_method_1_14) rfl rfl k) ?_
  refine own_step (fun t k => XS.iloadN X3.here hx rfl (hb hby own_prog_16_method_1_15) rfl k) ?_
  show own_Goes _ _ _ _ T3 (mkF m 16 #[.val (.ref a), .val (.ref ty), .val (.ref tx), .val (.int ln)] [(.int ln), (.ref a)])
  have E_a_v7 := (E_a_v4.wr W3)
  have F_a_line_v8 := ((F_a_line.other W2 (Or.inr (slot_ne (Or.inr (hw _ (List.mem_of_getElem? (i := 50) rfl))) (Or.inr (hw _ (List.mem_of_getElem? (i := 46) rfl))) (by decide) (t := .int) (t' := (.object "com/example/weaverbird/weaverbird/automaton/HoaLexer$Type")) (by decide) (by decide)))).other W3 (Or.inr (slot_ne (Or.inr (hw _ (List.mem_of_getElem? (i := 50) rfl))) (Or.inr (hw _ (List.mem_of_getElem? (i := 48) rfl))) (by decide) (t := .int) (t' := (.object "java/lang/String")) (by decide) (by decide))))
  obtain ⟨T6, h6, X6, e6, W6, st6⟩ := putF X3 hx hZ hown (host := "") (Or.inl (hw _ (List.mem_of_getElem? (i := 49) rfl))) Via.refl e3 F_a_line_v8 E_a_v7 (Or.inr ⟨(hw _ (List.mem_of_getElem? (i := 50) rfl)), rfl, hnm⟩) (hw _ (List.mem_of_getElem? (i := 2) rfl)) (ty := .int) (by decide) rfl rfl (g := (mkF m 16 #[.val (.ref a), .val (.ref ty), .val (.ref tx), .val (.int ln)] [(.int ln), (.ref a)])) rfl rfl (hb hby own_prog_16_method_1_16)
  refine own_step st6 ?_
  have F6 := F_a_line_v8.same W6
  have K6 := K3.wr W6 (Or.inl (List.mem_of_getElem? (i := 0) rfl))
  have N6 := Fr.snoc X6 N3 g_a
  show own_Goes _ _ _ _ T6 (mkF m 19 #[.val (.ref a), .val (.ref ty), .val (.ref tx), .val (.int ln)] [])
  have E_a_v9 := (E_a_v7.wr W6)
  have F2_v10 := ((F2.other W3 (Or.inr (slot_ne (Or.inr (hw _ (List.mem_of_getElem? (i := 46) rfl))) (Or.inr (hw _ (List.mem_of_getElem? (i := 48) rfl))) (by decide) (t := (.object "com/example/weaverbird/weaverbird/automaton/HoaLexer$Type")) (t' := (.object "java/lang/String")) (by decide) (by decide)))).other W6 (Or.inr (slot_ne (Or.inr (hw _ (List.mem_of_getElem? (i := 46) rfl))) (Or.inr (hw _ (List.mem_of_getElem? (i := 50) rfl))) (by decide) (t := (.object "com/example/weaverbird/weaverbird/automaton/HoaLexer$Type")) (t' := .int) (by decide) (by decide))))
  have F3_v11 := (F3.other W6 (Or.inr (slot_ne (Or.inr (hw _ (List.mem_of_getElem? (i := 48) rfl))) (Or.inr (hw _ (List.mem_of_getElem? (i := 50) rfl))) (by decide) (t := (.object "java/lang/String")) (t' := .int) (by decide) (by decide))))
  exact own_retV X6 hx hlk hrt (hb hby own_prog_16_method_1_19) (by rw [e6]; exact ⟨rfl, N6, K6, E_a_v9, F2_v10, F3_v11⟩) (by decide) (by decide)
theorem own_pn_java_lang_String : plainName "java/lang/String" = true := by first | (simp [plainName, overriddenIn]; done) | decide +kernel
theorem own_ef3 (m : MethodId) (x0 : Addr) (x1 : Addr) (x2 : Int32) (x3 : Int32) : entryFrame m #[(.ref x0), (.ref x1), (.int x2), (.int x3), .null] 6 = mkF m 0 #[.val (.ref x0), .val (.ref x1), .val (.int x2), .val (.int x3), .val .null, .unset] [] := by first | (simp [entryFrame, mkF, argsToLocals, Value.category]; done) | rfl
theorem own_jdk_42_method_149_0 : decode jdk_42_method_149_code 0 = .ok (.aload_n 0, 1) := by decide +kernel
theorem own_jdk_42_method_149_1 : decode jdk_42_method_149_code 1 = .ok (.invokespecial 1, 3) := by decide +kernel
theorem own_jdk_42_method_149_4 : decode jdk_42_method_149_code 4 = .ok (.iload_n 3, 1) := by decide +kernel
theorem own_jdk_42_method_149_5 : decode jdk_42_method_149_code 5 = .ok (.ifCond .ne 22, 3) := by decide +kernel
theorem own_jdk_42_method_149_8 : decode jdk_42_method_149_code 8 = .ok (.aload_n 0, 1) := by decide +kernel
theorem own_jdk_42_method_149_9 : decode jdk_42_method_149_code 9 = .ok (.ldc 7, 2) := by decide +kernel
theorem own_jdk_42_method_149_11 : decode jdk_42_method_149_code 11 = .ok (.getfield 9, 3) := by decide +kernel
theorem own_jdk_42_method_149_14 : decode jdk_42_method_149_code 14 = .ok (.putfield 9, 3) := by decide +kernel
theorem own_jdk_42_method_149_17 : decode jdk_42_method_149_code 17 = .ok (.aload_n 0, 1) := by decide +kernel
theorem own_jdk_42_method_149_18 : decode jdk_42_method_149_code 18 = .ok (.ldc 7, 2) := by decide +kernel
theorem own_jdk_42_method_149_20 : decode jdk_42_method_149_code 20 = .ok (.getfield 15, 3) := by decide +kernel
theorem own_jdk_42_method_149_23 : decode jdk_42_method_149_code 23 = .ok (.putfield 15, 3) := by decide +kernel
theorem own_jdk_42_method_149_26 : decode jdk_42_method_149_code 26 = .ok (.return_, 1) := by decide +kernel
set_option maxRecDepth 65536 in
set_option maxHeartbeats 40000000 in
theorem own_sinit4_w (l : Launch) (Z : State) (a0 : Array Value) (hw : ∀ d ∈ tables_1, d.before a0 Z = true) (ws : List Jvm.Cond) (a : Addr) (sr : Addr) (h0 : Heap) (n0 : Nat) (Z0 : n0 ≤ h0.size) (E_a : Exa Z h0 a "java/lang/String") (F_a_value : Fld Z h0 a "java/lang/String" "value" "[B" .null) (F_a_coder : Fld Z h0 a "java/lang/String" "coder" "B" (.int (0 : Int32))) (g_a : n0 ≤ a) :
    own_MetW l Z own_EL (⟨"java/lang/String", "<init>", "([CIILjava/lang/Void;)V"⟩ : MethodName) jdk_42_method_149_code 6 none ws ({ frames := 1, cells := 4, slots := 8, locals := 12 } : Room) #[(.ref a), (.ref sr), (.int (0 : Int32)), (.int (0 : Int32)), .null] h0 (fun v h L => ∃ r : Addr, ∃ kr : ClassId, v = none ∧ Fr n0 L ∧ Keep h0 h [a] ∧ Exa Z h a "java/lang/String" ∧ Fld Z h a "java/lang/String" "coder" "B" (.int (0 : Int32)) ∧ Fld Z h a "java/lang/String" "value" "[B" (.ref r) ∧ Arv Z h r kr .byte (0 : Int32) [] (.int (0 : Int32))) := by
  refine own_bodyW (plainFor_of_name own_pn_java_lang_String) (fun p e s m below meth c s₁ hx hby hml0 hrt hlk hown0 hnm hZ X0 e0 HC0 RC0 HS0 => ?_)
  have N0 := Fr.nil n0
  have hown : (s.setVm s.vm).vm.findClass "java/lang/String" = some m.cls := hown0
  have hml : c.maxLocals = 6 := hml0
  refine own_castG (own_ef3 m a sr (0 : Int32) (0 : Int32)) ?_
  have hEL := own_hEL hw
  show own_Goes _ _ _ _ s₁ (mkF m 0 #[.val (.ref a), .val (.ref sr), .val (.int (0 : Int32)), .val (.int (0 : Int32)), .val .null, .unset] [])
  have SFa := own_safeNull (EL := own_EL) hZ.alike E_a F_a_value
  refine own_step (fun t k => XS.aloadN X0.here hx rfl (hb hby own_jdk_42_method_149_0) rfl rfl k) ?_
  show own_Goes _ _ _ _ s₁ (mkF m 1 #[.val (.ref a), .val (.ref sr), .val (.int (0 : Int32)), .val (.int (0 : Int32)), .val .null, .unset] [(.ref a)])
  obtain ⟨T1, X1, e1, st1⟩ := initO X0 hx hZ hown (hw _ (List.mem_of_getElem? (i := 25) rfl)) (hw _ (List.mem_of_getElem? (i := 26) rfl)) (hw _ (List.mem_of_getElem? (i := 27) rfl)) e0 (g := (mkF m 1 #[.val (.ref a), .val (.ref sr), .val (.int (0 : Int32)), .val (.int (0 : Int32)), .val .null, .unset] [(.ref a)])) rfl (by rw [hml]; rfl) rfl (hb hby own_jdk_42_method_149_1) (by decide) (W := 0) (by show 2 * 0 + _ ≤ _; exact Nat.le_of_eq rfl) (by decide)
  refine own_step st1 ?_
  refine own_step (fun t k => XS.iloadN X1.here hx rfl (hb hby own_jdk_42_method_149_4) rfl k) ?_
  show own_Goes _ _ _ _ T1 (mkF m 5 #[.val (.ref a), .val (.ref sr), .val (.int (0 : Int32)), .val (.int (0 : Int32)), .val .null, .unset] [(.int (0 : Int32))])
  refine own_step (fun t k => XS.ifNo X1.here hx rfl (hb hby own_jdk_42_method_149_5) rfl ((if0 _ _).trans (teq (show (0 : Int32) = (0 : Int32) from (by decide))).2) k) ?_
  refine own_step (fun t k => XS.aloadN X1.here hx rfl (hb hby own_jdk_42_method_149_8) rfl rfl k) ?_
  show own_Goes _ _ _ _ T1 (mkF m 9 #[.val (.ref a), .val (.ref sr), .val (.int (0 : Int32)), .val (.int (0 : Int32)), .val .null, .unset] [(.ref a)])
  obtain ⟨q2, T2, h2, k2, b2, kb2, X2, e2, E2, HS2, HK2, hZ, hown, Eq2, Fc2, Fv2, Vb2, -, -, CR2, -, ne2, st2⟩ := ldcCH X1 hx hZ hown (hw _ (List.mem_of_getElem? (i := 28) rfl)) (own_atoms hw) e1 HS0 (Nat.le_refl _) hEL (own := "java/lang/String") (index := 7) (List.mem_of_getElem? (i := 0) rfl) HC0 (vs := []) (z := (0 : Int32)) own_e0 (by decide) rfl (g := (mkF m 9 #[.val (.ref a), .val (.ref sr), .val (.int (0 : Int32)), .val (.int (0 : Int32)), .val .null, .unset] [(.ref a)])) rfl (hb hby own_jdk_42_method_149_9) (n := 0) (by simp) (by decide) (by decide) (by decide)
  refine own_step st2 ?_
  have SF2 := CR2.safe E_a.lt SFa
  have K2 := (Keep.refl h0 [a]).ext E2
  have RC2 := RC0.trans CR2
  have HC2 := CR2.1
  show own_Goes _ _ _ _ T2 (mkF m 11 #[.val (.ref a), .val (.ref sr), .val (.int (0 : Int32)), .val (.int (0 : Int32)), .val .null, .unset] [(.ref q2), (.ref a)])
  obtain ⟨T3, X3, e3, st3⟩ := getF X2 hx hZ hown (host := "") (Or.inl (hw _ (List.mem_of_getElem? (i := 34) rfl))) Via.refl e2 Fv2 (g := (mkF m 11 #[.val (.ref a), .val (.ref sr), .val (.int (0 : Int32)), .val (.int (0 : Int32)), .val .null, .unset] [(.ref q2), (.ref a)])) rfl rfl (hb hby own_jdk_42_method_149_11)
  refine own_step st3 ?_
  show own_Goes _ _ _ _ T3 (mkF m 14 #[.val (.ref a), .val (.ref sr), .val (.int (0 : Int32)), .val (.int (0 : Int32)), .val .null, .unset] [(.ref b2), (.ref a)])
  have E_a_v5 := (E_a.ext E2)
  have F_a_value_v6 := (F_a_value.ext E2)
  obtain ⟨T4, h4, X4, e4, W4, st4⟩ := putF X3 hx hZ hown (host := "") (Or.inl (hw _ (List.mem_of_getElem? (i := 34) rfl))) Via.refl e3 F_a_value_v6 E_a_v5 (Or.inr ⟨(hw _ (List.mem_of_getElem? (i := 30) rfl)), rfl, hnm⟩) (hw _ (List.mem_of_getElem? (i := 15) rfl)) (ty := (.array .byte)) (by decide) rfl rfl (g := (mkF m 14 #[.val (.ref a), .val (.ref sr), .val (.int (0 : Int32)), .val (.int (0 : Int32)), .val .null, .unset] [(.ref b2), (.ref a)])) rfl rfl (hb hby own_jdk_42_method_149_14)
  refine own_step st4 ?_
  have F4 := F_a_value_v6.same W4
  have K4 := K2.wr W4 (Or.inl (List.mem_of_getElem? (i := 0) rfl))
  have N4 := Fr.snoc X4 N0 g_a
  have SF4 := Safe.wr W4 (own_safeNull hZ.alike E_a_v5 F_a_value_v6) HC2 (own_safeNull hZ.alike E_a_v5 F_a_value_v6)
  have RC4 := RC2.trans (CHr.wr W4 (own_safeNull hZ.alike E_a_v5 F_a_value_v6) HC2)
  have HC4 := CHv.wr W4 (own_safeNull hZ.alike E_a_v5 F_a_value_v6) HC2
  refine own_step (fun t k => XS.aloadN X4.here hx rfl (hb hby own_jdk_42_method_149_17) rfl rfl k) ?_
  show own_Goes _ _ _ _ T4 (mkF m 18 #[.val (.ref a), .val (.ref sr), .val (.int (0 : Int32)), .val (.int (0 : Int32)), .val .null, .unset] [(.ref a)])
  obtain ⟨q7, T7, h7, k7, b7, kb7, X7, e7, E7, HS7, HK7, hZ, hown, Eq7, Fc7, Fv7, Vb7, -, -, CR7, -, ne7, st7⟩ := ldcCH X4 hx hZ hown (hw _ (List.mem_of_getElem? (i := 28) rfl)) (own_atoms hw) e4 HS2 (Nat.le_trans HK2 (Keep.of_wr W4).1) hEL (own := "java/lang/String") (index := 7) (List.mem_of_getElem? (i := 0) rfl) HC4 (vs := []) (z := (0 : Int32)) own_e0 (by decide) rfl (g := (mkF m 18 #[.val (.ref a), .val (.ref sr), .val (.int (0 : Int32)), .val (.int (0 : Int32)), .val .null, .unset] [(.ref a)])) rfl (hb hby own_jdk_42_method_149_18) (n := 0) (by simp) (by decide) (by decide) (by decide)
  refine own_step st7 ?_
  have E_a_v8 := (E_a_v5.wr W4)
  have SF7 := CR7.safe E_a_v8.lt SF4
  have K7 := K4.ext E7
  have RC7 := RC4.trans CR7
  have HC7 := CR7.1
  show own_Goes _ _ _ _ T7 (mkF m 20 #[.val (.ref a), .val (.ref sr), .val (.int (0 : Int32)), .val (.int (0 : Int32)), .val .null, .unset] [(.ref q7), (.ref a)])
  obtain ⟨T9, X9, e9, st9⟩ := getF X7 hx hZ hown (host := "") (Or.inl (hw _ (List.mem_of_getElem? (i := 35) rfl))) Via.refl e7 Fc7 (g := (mkF m 20 #[.val (.ref a), .val (.ref sr), .val (.int (0 : Int32)), .val (.int (0 : Int32)), .val .null, .unset] [(.ref q7), (.ref a)])) rfl rfl (hb hby own_jdk_42_method_149_20)
  refine own_step st9 ?_
  show own_Goes _ _ _ _ T9 (mkF m 23 #[.val (.ref a), .val (.ref sr), .val (.int (0 : Int32)), .val (.int (0 : Int32)), .val .null, .unset] [(.int (0 : Int32)), (.ref a)])
  have E_a_v11 := (E_a_v8.ext E7)
  have F_a_coder_v12 := (((F_a_coder.ext E2).other W4 (Or.inr (slot_ne (Or.inr (hw _ (List.mem_of_getElem? (i := 31) rfl))) (Or.inr (hw _ (List.mem_of_getElem? (i := 30) rfl))) (by decide) (t := .byte) (t' := (.array .byte)) (by decide) (by decide)))).ext E7)
  obtain ⟨T10, h10, X10, e10, W10, st10⟩ := putFN X9 hx hZ hown (hw _ (List.mem_of_getElem? (i := 35) rfl)) Via.refl e9 F_a_coder_v12 E_a_v11 (Or.inr ⟨(hw _ (List.mem_of_getElem? (i := 31) rfl)), rfl, hnm⟩) (hw _ (List.mem_of_getElem? (i := 15) rfl)) (ty := .byte) (v' := (.int (0 : Int32))) (by decide) rfl rfl (g := (mkF m 23 #[.val (.ref a), .val (.ref sr), .val (.int (0 : Int32)), .val (.int (0 : Int32)), .val .null, .unset] [(.int (0 : Int32)), (.ref a)])) rfl rfl (hb hby own_jdk_42_method_149_23)
  refine own_step st10 ?_
  have F10 := F_a_coder_v12.same W10
  have K10 := K7.wr W10 (Or.inl (List.mem_of_getElem? (i := 0) rfl))
  have N10 := Fr.snoc X10 N4 g_a
  have SF10 := Safe.wr W10 SF7 HC7 SF7
  have RC10 := RC7.trans (CHr.wr W10 SF7 HC7)
  have HC10 := CHv.wr W10 SF7 HC7
  show own_Goes _ _ _ _ T10 (mkF m 26 #[.val (.ref a), .val (.ref sr), .val (.int (0 : Int32)), .val (.int (0 : Int32)), .val .null, .unset] [])
  have E_a_v13 := (E_a_v11.wr W10)
  have F4_v14 := ((F4.ext E7).other W10 (Or.inr (slot_ne (Or.inr (hw _ (List.mem_of_getElem? (i := 30) rfl))) (Or.inr (hw _ (List.mem_of_getElem? (i := 31) rfl))) (by decide) (t := (.array .byte)) (t' := .byte) (by decide) (by decide))))
  have Vb2_v15 := (((Vb2.other W4 (Ne.symm (ne2 _ SF2).2)).ext E7).other W10 (Ne.symm (ne2 _ SF2).2))
  exact own_outW X10 hlk HS7 (Nat.le_trans HK7 (Keep.of_wr W10).1) hZ hEL e10 HC10 RC10 (v := none) (fun _ => rfl) (fun fs hr => X10.returnOut hx hrt (hb hby own_jdk_42_method_149_26) hr) (by rw [e10]; exact ⟨b2, kb2, rfl, N10, K10, E_a_v13, F10, F4_v14, Vb2_v15⟩) (by decide) (by decide)
theorem own_ef4 (m : MethodId) (x0 : Addr) (x1 : Addr) : entryFrame m #[(.ref x0), (.ref x1)] 2 = mkF m 0 #[.val (.ref x0), .val (.ref x1)] [] := by first | (simp [entryFrame, mkF, argsToLocals, Value.category]; done) | rfl
theorem own_jdk_42_method_3_0 : decode jdk_42_method_3_code 0 = .ok (.aload_n 0, 1) := by decide +kernel
theorem own_jdk_42_method_3_1 : decode jdk_42_method_3_code 1 = .ok (.aload_n 1, 1) := by decide +kernel
theorem own_jdk_42_method_3_2 : decode jdk_42_method_3_code 2 = .ok (.iconst 0, 1) := by decide +kernel
theorem own_jdk_42_method_3_3 : decode jdk_42_method_3_code 3 = .ok (.aload_n 1, 1) := by decide +kernel
theorem own_jdk_42_method_3_4 : decode jdk_42_method_3_code 4 = .ok (.arraylength, 1) := by decide +kernel
theorem own_jdk_42_method_3_5 : decode jdk_42_method_3_code 5 = .ok (.aconst_null, 1) := by decide +kernel
theorem own_jdk_42_method_3_6 : decode jdk_42_method_3_code 6 = .ok (.invokespecial 27, 3) := by decide +kernel
theorem own_pd1 : parseMethodDescriptor "([CIILjava/lang/Void;)V" = some ⟨[(.array .char), .int, .int, (.object "java/lang/Void")], none⟩ := by decide +kernel
theorem own_jdk_42_method_3_9 : decode jdk_42_method_3_code 9 = .ok (.return_, 1) := by decide +kernel
set_option maxRecDepth 65536 in
set_option maxHeartbeats 40000000 in
theorem own_sinit_w (l : Launch) (Z : State) (a0 : Array Value) (hw : ∀ d ∈ tables_1, d.before a0 Z = true) (ws : List Jvm.Cond) (a : Addr) (sr : Addr) (ks : ClassId) (h0 : Heap) (n0 : Nat) (Z0 : n0 ≤ h0.size) (E_a : Exa Z h0 a "java/lang/String") (F_a_value : Fld Z h0 a "java/lang/String" "value" "[B" .null) (F_a_coder : Fld Z h0 a "java/lang/String" "coder" "B" (.int (0 : Int32))) (V_sr : Arv Z h0 sr ks .char (0 : Int32) [] (.int (0 : Int32))) (g_a : n0 ≤ a) :
    own_MetW l Z own_EL (⟨"java/lang/String", "<init>", "([C)V"⟩ : MethodName) jdk_42_method_3_code 2 none ws ({ frames := 2, cells := 4, slots := 8, locals := 29 } : Room) #[(.ref a), (.ref sr)] h0 (fun v h L => ∃ r : Addr, ∃ kr : ClassId, v = none ∧ Fr n0 L ∧ Keep h0 h [a] ∧ Exa Z h a "java/lang/String" ∧ Fld Z h a "java/lang/String" "coder" "B" (.int (0 : Int32)) ∧ Fld Z h a "java/lang/String" "value" "[B" (.ref r) ∧ Arv Z h r kr .byte (0 : Int32) [] (.int (0 : Int32))) := by
  refine own_bodyW (plainFor_of_name own_pn_java_lang_String) (fun p e s m below meth c s₁ hx hby hml0 hrt hlk hown0 hnm hZ X0 e0 HC0 RC0 HS0 => ?_)
  have N0 := Fr.nil n0
  have hown : (s.setVm s.vm).vm.findClass "java/lang/String" = some m.cls := hown0
  have hml : c.maxLocals = 2 := hml0
  refine own_castG (own_ef4 m a sr) ?_
  have hEL := own_hEL hw
  refine own_step (fun t k => XS.aloadN X0.here hx rfl (hb hby own_jdk_42_method_3_0) rfl rfl k) ?_
  refine own_step (fun t k => XS.aloadN X0.here hx rfl (hb hby own_jdk_42_method_3_1) rfl rfl k) ?_
  refine own_step (fun t k => XS.iconst X0.here hx rfl (hb hby own_jdk_42_method_3_2) k) ?_
  refine own_step (fun t k => XS.aloadN X0.here hx rfl (hb hby own_jdk_42_method_3_3) rfl rfl k) ?_
  show own_Goes _ _ _ _ s₁ (mkF m 4 #[.val (.ref a), .val (.ref sr)] [(.ref sr), (.int (0 : Int32)), (.ref sr), (.ref a)])
  refine own_step (own_alen X0 hx hZ e0 V_sr (g := (mkF m 4 #[.val (.ref a), .val (.ref sr)] [(.ref sr), (.int (0 : Int32)), (.ref sr), (.ref a)])) rfl rfl (hb hby own_jdk_42_method_3_4)) ?_
  refine own_step (fun t k => XS.aconstNull X0.here hx rfl (hb hby own_jdk_42_method_3_5) k) ?_
  show own_Goes _ _ _ _ s₁ (mkF m 6 #[.val (.ref a), .val (.ref sr)] [.null, (.int (0 : Int32)), (.int (0 : Int32)), (.ref sr), (.ref a)])
  refine own_callCW X0 hx hZ (y := (⟨"java/lang/String", "<init>", "([CIILjava/lang/Void;)V"⟩ : MethodName)) rfl hown (hw _ (List.mem_of_getElem? (i := 21) rfl)) (hw _ (List.mem_of_getElem? (i := 22) rfl)) (hw _ (List.mem_of_getElem? (i := 24) rfl)) (hw _ (List.mem_of_getElem? (i := 16) rfl)) (by decide) 0 (a := a) [(.ref sr), (.int (0 : Int32)), (.int (0 : Int32)), .null] [] (own_sinit4_w l Z a0 hw [] a sr h0 n0 Z0 E_a F_a_value F_a_coder g_a) e0  hEL HC0 HS0 (Nat.le_refl _) (by decide) (by decide) (by decide) (by decide) (g := (mkF m 6 #[.val (.ref a), .val (.ref sr)] [.null, (.int (0 : Int32)), (.int (0 : Int32)), (.ref sr), (.ref a)])) rfl (by rw [hml]; rfl) own_pd1 rfl rfl (by show 2 * 0 + _ ≤ _; exact Nat.le_of_eq rfl) (hb hby own_jdk_42_method_3_6) ?_
  intro T1 v1 L1 X1 HS1 hZ hown CR1 hQ1
  have RC1 := RC0.trans CR1
  have HC1 := CR1.1
  obtain ⟨f1_0, k1_0, rfl, N1q, Kq1, q1_0, q1_1, q1_2, q1_3⟩ := hQ1
  have N1 := Fr.app N0 N1q
  have K1 := (Keep.refl h0 [a]).trans Kq1 (allS (Or.inl (List.mem_of_getElem? (i := 0) rfl)) all0)
  have q1_0' : Exa Z T1.heap a "java/lang/String" := q1_0
  have q1_1' : Fld Z T1.heap a "java/lang/String" "coder" "B" (.int (0 : Int32)) := q1_1
  have q1_2' : Fld Z T1.heap a "java/lang/String" "value" "[B" (.ref f1_0) := q1_2
  have q1_3' : Arv Z T1.heap f1_0 k1_0 .byte (0 : Int32) [] (.int (0 : Int32)) := q1_3
  have ne_a_f1_0 : a ≠ f1_0 := Exa.neArv q1_0' q1_3' (hw _ (List.mem_of_getElem? (i := 15) rfl))
  show own_Goes _ _ _ _ T1 (mkF m 9 #[.val (.ref a), .val (.ref sr)] [])
  exact own_outW X1 hlk HS1 (Nat.le_refl _) hZ hEL rfl HC1 RC1 (v := none) (fun _ => rfl) (fun fs hr => X1.returnOut hx hrt (hb hby own_jdk_42_method_3_9) hr) (by exact ⟨f1_0, k1_0, rfl, N1, K1, q1_0', q1_1', q1_2', q1_3'⟩) (by decide) (by decide)
theorem own_ef5 (m : MethodId) (x0 : Int32) (x1 : Int32) (x2 : Int32) : entryFrame m #[(.int x0), (.int x1), (.int x2)] 3 = mkF m 0 #[.val (.int x0), .val (.int x1), .val (.int x2)] [] := by first | (simp [entryFrame, mkF, argsToLocals, Value.category]; done) | rfl
theorem own_method_3_0 : decode method_3_code 0 = .ok (.iload_n 0, 1) := by decide +kernel
theorem own_method_3_1 : decode method_3_code 1 = .ok (.ifCond .ne 14, 3) := by decide +kernel
theorem own_method_3_4 : decode method_3_code 4 = .ok (.new 40, 3) := by decide +kernel
theorem own_method_3_7 : decode method_3_code 7 = .ok (.dup, 1) := by decide +kernel
theorem own_method_3_8 : decode method_3_code 8 = .ok (.iconst 0, 1) := by decide +kernel
theorem own_method_3_9 : decode method_3_code 9 = .ok (.newarray .char, 2) := by decide +kernel
theorem own_method_3_11 : decode method_3_code 11 = .ok (.invokespecial 42, 3) := by decide +kernel
theorem own_pd2 : parseMethodDescriptor "([C)V" = some ⟨[(.array .char)], none⟩ := by decide +kernel
theorem own_method_3_14 : decode method_3_code 14 = .ok (.areturn, 1) := by decide +kernel
set_option maxRecDepth 65536 in
set_option maxHeartbeats 40000000 in
theorem own_str0 (l : Launch) (Z : State) (a0 : Array Value) (hw : ∀ d ∈ tables_1, d.before a0 Z = true) (ws : List Jvm.Cond) (c0 : Int32) (c1 : Int32) (h0 : Heap) (n0 : Nat) (Z0 : n0 ≤ h0.size) :
    own_MetW l Z own_EL (⟨"com/example/weaverbird/weaverbird/automaton/TokenIsPinLaw", "str", "(ICC)Ljava/lang/String;"⟩ : MethodName) method_3_code 3 (some (.object "java/lang/String")) ws ({ frames := 3, cells := 6, slots := 12, locals := 43 } : Room) #[(.int (0 : Int32)), (.int c0), (.int c1)] h0 (fun v h L => ∃ r : Addr, ∃ rv : Addr, ∃ kr : ClassId, v = some (.ref r) ∧ Fr n0 L ∧ Keep h0 h [] ∧ h0.size ≤ r ∧ Exa Z h r "java/lang/String" ∧ Fld Z h r "java/lang/String" "coder" "B" (.int (0 : Int32)) ∧ Fld Z h r "java/lang/String" "value" "[B" (.ref rv) ∧ Arv Z h rv kr .byte (0 : Int32) [] (.int (0 : Int32))) := by
  refine own_bodyW (plainFor_of_name own_pn_com_example_weaverbird_weaverbird_automaton_TokenIsPinLaw) (fun p e s m below meth c s₁ hx hby hml0 hrt hlk hown0 hnm hZ X0 e0 HC0 RC0 HS0 => ?_)
  have N0 := Fr.nil n0
  have hown : (s.setVm s.vm).vm.findClass "com/example/weaverbird/weaverbird/automaton/TokenIsPinLaw" = some m.cls := hown0
  have hml : c.maxLocals = 3 := hml0
  refine own_castG (own_ef5 m (0 : Int32) c0 c1) ?_
  have hEL := own_hEL hw
  refine own_step (fun t k => XS.iloadN X0.here hx rfl (hb hby own_method_3_0) rfl k) ?_
  show own_Goes _ _ _ _ s₁ (mkF m 1 #[.val (.int (0 : Int32)), .val (.int c0), .val (.int c1)] [(.int (0 : Int32))])
  refine own_step (fun t k => XS.ifNo X0.here hx rfl (hb hby own_method_3_1) rfl ((if0 _ _).trans (teq (show (0 : Int32) = (0 : Int32) from (by decide))).2) k) ?_
  show own_Goes _ _ _ _ s₁ (mkF m 4 #[.val (.int (0 : Int32)), .val (.int c0), .val (.int c1)] [])
  obtain ⟨T1, h1, X1, e1, E1, A1, D1, -, st1⟩ := newO X0 hx hZ hown (hw _ (List.mem_of_getElem? (i := 14) rfl)) (hw _ (List.mem_of_getElem? (i := 15) rfl)) (hw _ (List.mem_of_getElem? (i := 16) rfl)) e0 (g := (mkF m 4 #[.val (.int (0 : Int32)), .val (.int c0), .val (.int c1)] [])) rfl (hb hby own_method_3_4) (by decide) (by decide)
  obtain ⟨b1, g1⟩ : ∃ z, z = h0.size := ⟨_, rfl⟩
  rw [← g1] at A1 D1 st1
  refine own_step st1 ?_
  have g_b1 : n0 ≤ b1 := Nat.le_trans Z0 (Nat.le_of_eq g1.symm)
  have sz_b1 : h0.size ≤ b1 := Nat.le_trans (Keep.refl h0 []).1 (Nat.le_of_eq g1.symm)
  have K1 := (Keep.refl h0 []).ext E1
  have RC1 := RC0.trans (CHr.ext E1 HC0)
  have HC1 := CHv.ext E1 HC0
  have F_b1_value : Fld Z h1 b1 "java/lang/String" "value" "[B" .null := D1 (Or.inr (hw _ (List.mem_of_getElem? (i := 30) rfl))) (ty := (.array .byte)) (by decide)
  have F_b1_coder : Fld Z h1 b1 "java/lang/String" "coder" "B" (.int (0 : Int32)) := D1 (Or.inr (hw _ (List.mem_of_getElem? (i := 31) rfl))) (ty := .byte) (by decide)
  refine own_step (fun t k => XS.dup X1.here hx rfl (hb hby own_method_3_7) rfl rfl k) ?_
  refine own_step (fun t k => XS.iconst X1.here hx rfl (hb hby own_method_3_8) k) ?_
  show own_Goes _ _ _ _ T1 (mkF m 9 #[.val (.int (0 : Int32)), .val (.int c0), .val (.int c1)] [(.int (0 : Int32)), (.ref b1), (.ref b1)])
  obtain ⟨T2, h2, k2, X2, e2, E2, A2, st2⟩ := newP X1 hx hZ (hw _ (List.mem_of_getElem? (i := 17) rfl)) e1 (g := (mkF m 9 #[.val (.int (0 : Int32)), .val (.int c0), .val (.int c1)] [(.int (0 : Int32)), (.ref b1), (.ref b1)])) rfl (hb hby own_method_3_9) rfl (by decide) (cap := 0) (by decide) (by decide) (by decide) (by decide)
  obtain ⟨b2, g2⟩ : ∃ z, z = h1.size := ⟨_, rfl⟩
  rw [← g2] at A2 st2
  refine own_step st2 ?_
  have g_b2 : n0 ≤ b2 := Nat.le_trans (Nat.le_trans Z0 K1.1) (Nat.le_of_eq g2.symm)
  have sz_b2 : h0.size ≤ b2 := Nat.le_trans K1.1 (Nat.le_of_eq g2.symm)
  have ne_b1_b2 : b1 ≠ b2 := Nat.ne_of_lt (Nat.lt_of_lt_of_le A1.lt (Nat.le_of_eq g2.symm))
  have K2 := K1.ext E2
  have RC2 := RC1.trans (CHr.ext E2 HC1)
  have HC2 := CHv.ext E2 HC1
  have V_b2 : Arv Z h2 b2 k2 .char (0 : Int32) [] (.int (0 : Int32)) := (Arv.new A2 (by decide)).pad (pad_rep [] (.int (0 : Int32)) 0)
  show own_Goes _ _ _ _ T2 (mkF m 11 #[.val (.int (0 : Int32)), .val (.int c0), .val (.int c1)] [(.ref b2), (.ref b1), (.ref b1)])
  have A1_v3 := (A1.ext E2)
  have F_b1_value_v4 := (F_b1_value.ext E2)
  have F_b1_coder_v5 := (F_b1_coder.ext E2)
  refine own_callCW X2 hx hZ (y := (⟨"java/lang/String", "<init>", "([C)V"⟩ : MethodName)) rfl hown (hw _ (List.mem_of_getElem? (i := 18) rfl)) (hw _ (List.mem_of_getElem? (i := 19) rfl)) (hw _ (List.mem_of_getElem? (i := 20) rfl)) (hw _ (List.mem_of_getElem? (i := 16) rfl)) (by decide) 1 (a := b1) [(.ref b2)] [(.ref b1)] (own_sinit_w l Z a0 hw [] b1 b2 k2 h2 n0 (Nat.le_trans Z0 K2.1) A1_v3 F_b1_value_v4 F_b1_coder_v5 V_b2 g_b1) e2  hEL HC2 HS0 (Nat.le_trans (Nat.le_trans (Nat.le_refl _) E1.1) E2.1) (by decide) (by decide) (by decide) (by decide) (g := (mkF m 11 #[.val (.int (0 : Int32)), .val (.int c0), .val (.int c1)] [(.ref b2), (.ref b1), (.ref b1)])) rfl (by rw [hml]; rfl) own_pd2 rfl rfl (by show 2 * 0 + _ ≤ _; exact Nat.le_of_eq rfl) (hb hby own_method_3_11) ?_
  intro T6 v6 L6 X6 HS6 hZ hown CR6 hQ6
  have RC6 := RC2.trans CR6
  have HC6 := CR6.1
  obtain ⟨f6_0, k6_0, rfl, N6q, Kq6, q6_0, q6_1, q6_2, q6_3⟩ := hQ6
  have N6 := Fr.app N0 N6q
  have K6 := K2.trans Kq6 (allS (Or.inr sz_b1) all0)
  have q6_0' : Exa Z T6.heap b1 "java/lang/String" := q6_0
  have q6_1' : Fld Z T6.heap b1 "java/lang/String" "coder" "B" (.int (0 : Int32)) := q6_1
  have q6_2' : Fld Z T6.heap b1 "java/lang/String" "value" "[B" (.ref f6_0) := q6_2
  have q6_3' : Arv Z T6.heap f6_0 k6_0 .byte (0 : Int32) [] (.int (0 : Int32)) := q6_3
  have ne_b1_f6_0 : b1 ≠ f6_0 := Exa.neArv q6_0' q6_3' (hw _ (List.mem_of_getElem? (i := 15) rfl))
  show own_Goes _ _ _ _ T6 (mkF m 14 #[.val (.int (0 : Int32)), .val (.int c0), .val (.int c1)] [(.ref b1)])
  exact own_outW X6 hlk HS6 (Nat.le_refl _) hZ hEL rfl HC6 RC6 (v := some (.ref b1)) (fun q => by rw [hrt] at q; cases q) (fun fs hr => retOut X6 hx hrt rfl (Or.inr (Or.inr (Or.inr (Or.inr ⟨rfl, rfl, rfl⟩)))) (hb hby own_method_3_14) hr) (by exact ⟨b1, f6_0, k6_0, rfl, N6, K6, sz_b1, q6_0', q6_1', q6_2', q6_3'⟩) (by decide) (by decide)
theorem own_pn_java_lang_StringUTF16 : plainName "java/lang/StringUTF16" = true := by first | (simp [plainName, overriddenIn]; done) | decide +kernel
theorem own_ef6 (m : MethodId) (x0 : Addr) (x1 : Int32) (x2 : Addr) (x3 : Int32) (x4 : Int32) : entryFrame m #[(.ref x0), (.int x1), (.ref x2), (.int x3), (.int x4)] 7 = mkF m 0 #[.val (.ref x0), .val (.int x1), .val (.ref x2), .val (.int x3), .val (.int x4), .unset, .unset] [] := by first | (simp [entryFrame, mkF, argsToLocals, Value.category]; done) | rfl
theorem own_jdk_52_method_21_0 : decode jdk_52_method_21_code 0 = .ok (.iconst 0, 1) := by decide +kernel
theorem own_jdk_52_method_21_1 : decode jdk_52_method_21_code 1 = .ok (.istore 5, 2) := by decide +kernel
theorem own_jdk_52_method_21_3 : decode jdk_52_method_21_code 3 = .ok (.iload 5, 2) := by decide +kernel
theorem own_jdk_52_method_21_5 : decode jdk_52_method_21_code 5 = .ok (.iload 4, 2) := by decide +kernel
theorem own_jdk_52_method_21_7 : decode jdk_52_method_21_code 7 = .ok (.if_icmp .ge 37, 3) := by decide +kernel
theorem own_jdk_52_method_21_10 : decode jdk_52_method_21_code 10 = .ok (.aload_n 0, 1) := by decide +kernel
theorem own_jdk_52_method_21_11 : decode jdk_52_method_21_code 11 = .ok (.iload_n 1, 1) := by decide +kernel
theorem own_jdk_52_method_21_12 : decode jdk_52_method_21_code 12 = .ok (.caload, 1) := by decide +kernel
theorem own_jdk_52_method_21_13 : decode jdk_52_method_21_code 13 = .ok (.istore 6, 2) := by decide +kernel
theorem own_jdk_52_method_21_15 : decode jdk_52_method_21_code 15 = .ok (.iload 6, 2) := by decide +kernel
theorem own_jdk_52_method_21_17 : decode jdk_52_method_21_code 17 = .ok (.sipush 255, 3) := by decide +kernel
theorem own_jdk_52_method_21_20 : decode jdk_52_method_21_code 20 = .ok (.if_icmp .le 6, 3) := by decide +kernel
theorem own_jdk_52_method_21_26 : decode jdk_52_method_21_code 26 = .ok (.aload_n 2, 1) := by decide +kernel
theorem own_jdk_52_method_21_27 : decode jdk_52_method_21_code 27 = .ok (.iload_n 3, 1) := by decide +kernel
theorem own_jdk_52_method_21_28 : decode jdk_52_method_21_code 28 = .ok (.iload 6, 2) := by decide +kernel
theorem own_jdk_52_method_21_30 : decode jdk_52_method_21_code 30 = .ok (.i2b, 1) := by decide +kernel
theorem own_jdk_52_method_21_31 : decode jdk_52_method_21_code 31 = .ok (.bastore, 1) := by decide +kernel
theorem own_jdk_52_method_21_32 : decode jdk_52_method_21_code 32 = .ok (.iinc 1 1, 3) := by decide +kernel
theorem own_jdk_52_method_21_35 : decode jdk_52_method_21_code 35 = .ok (.iinc 3 1, 3) := by decide +kernel
theorem own_jdk_52_method_21_38 : decode jdk_52_method_21_code 38 = .ok (.iinc 5 1, 3) := by decide +kernel
theorem own_jdk_52_method_21_41 : decode jdk_52_method_21_code 41 = .ok (.goto (-38), 3) := by decide +kernel
theorem own_jdk_52_method_21_44 : decode jdk_52_method_21_code 44 = .ok (.iload 4, 2) := by decide +kernel
theorem own_jdk_52_method_21_46 : decode jdk_52_method_21_code 46 = .ok (.ireturn, 1) := by decide +kernel
set_option maxRecDepth 65536 in
set_option maxHeartbeats 40000000 in
theorem own_comp5_1 (l : Launch) (Z : State) (a0 : Array Value) (hw : ∀ d ∈ tables_1, d.before a0 Z = true) (ws : List Jvm.Cond) (sr : Addr) (dr : Addr) (ks : ClassId) (kd : ClassId) (c0 : Int32) (h0 : Heap) (n0 : Nat) (Z0 : n0 ≤ h0.size) (V_sr : Arv Z h0 sr ks .char (1 : Int32) [(.int c0)] (.int (0 : Int32))) (V_dr : Arv Z h0 dr kd .byte (1 : Int32) [(.int (0 : Int32))] (.int (0 : Int32))) (hc0 : ¬ ((255 : Int32) < c0)) (nesd : ¬ (sr = dr)) (g_dr : n0 ≤ dr) :
    own_Met l Z (⟨"java/lang/StringUTF16", "compress", "([CI[BII)I"⟩ : MethodName) jdk_52_method_21_code 7 (some .int) ws ({ frames := 0, cells := 0, slots := 0, locals := 0 } : Room) #[(.ref sr), (.int (0 : Int32)), (.ref dr), (.int (0 : Int32)), (.int (1 : Int32))] h0 (fun v h L => v = some (.int (1 : Int32)) ∧ Fr n0 L ∧ Keep h0 h [dr] ∧ Arv Z h dr kd .byte (1 : Int32) [(.int (c0.toInt8.toInt32))] (.int (0 : Int32))) := by
  refine own_body (plainFor_of_name own_pn_java_lang_StringUTF16) (fun p e s m below meth c s₁ hx hby hml0 hrt hlk hown0 hnm hZ X0 e0 => ?_)
  have N0 := Fr.nil n0
  have hown : s.vm.findClass "java/lang/StringUTF16" = some m.cls := hown0
  have hml : c.maxLocals = 7 := hml0
  refine own_castG (own_ef6 m sr (0 : Int32) dr (0 : Int32) (1 : Int32)) ?_
  refine own_step (fun t k => XS.iconst X0.here hx rfl (hb hby own_jdk_52_method_21_0) k) ?_
  refine own_step (fun t k => XS.istore X0.here hx rfl (hb hby own_jdk_52_method_21_1) rfl (l' := #[.val (.ref sr), .val (.int (0 : Int32)), .val (.ref dr), .val (.int (0 : Int32)), .val (.int (1 : Int32)), .val (.int (0 : Int32)), .unset]) rfl k) ?_
  refine own_step (fun t k => XS.iload X0.here hx rfl (hb hby own_jdk_52_method_21_3) rfl k) ?_
  refine own_step (fun t k => XS.iload X0.here hx rfl (hb hby own_jdk_52_method_21_5) rfl k) ?_
  show own_Goes _ _ _ _ s₁ (mkF m 7 #[.val (.ref sr), .val (.int (0 : Int32)), .val (.ref dr), .val (.int (0 : Int32)), .val (.int (1 : Int32)), .val (.int (0 : Int32)), .unset] [(.int (1 : Int32)), (.int (0 : Int32))])
  refine own_step (fun t k => XS.icmpNo X0.here hx rfl (hb hby own_jdk_52_method_21_7) rfl (tlt (show (0 : Int32) < (1 : Int32) from (by decide))).2.1 k) ?_
  refine own_step (fun t k => XS.aloadN X0.here hx rfl (hb hby own_jdk_52_method_21_10) rfl rfl k) ?_
  refine own_step (fun t k => XS.iloadN X0.here hx rfl (hb hby own_jdk_52_method_21_11) rfl k) ?_
  show own_Goes _ _ _ _ s₁ (mkF m 12 #[.val (.ref sr), .val (.int (0 : Int32)), .val (.ref dr), .val (.int (0 : Int32)), .val (.int (1 : Int32)), .val (.int (0 : Int32)), .unset] [(.int (0 : Int32)), (.ref sr)])
  refine own_step (own_caload X0 hx hZ e0 V_sr (.int c0) ⟨by decide, by decide⟩ rfl (g := (mkF m 12 #[.val (.ref sr), .val (.int (0 : Int32)), .val (.ref dr), .val (.int (0 : Int32)), .val (.int (1 : Int32)), .val (.int (0 : Int32)), .unset] [(.int (0 : Int32)), (.ref sr)])) rfl rfl (hb hby own_jdk_52_method_21_12)) ?_
  refine own_step (fun t k => XS.istore X0.here hx rfl (hb hby own_jdk_52_method_21_13) rfl (l' := #[.val (.ref sr), .val (.int (0 : Int32)), .val (.ref dr), .val (.int (0 : Int32)), .val (.int (1 : Int32)), .val (.int (0 : Int32)), .val (.int c0)]) rfl k) ?_
  refine own_step (fun t k => XS.iload X0.here hx rfl (hb hby own_jdk_52_method_21_15) rfl k) ?_
  refine own_step (fun t k => XS.sipush X0.here hx rfl (hb hby own_jdk_52_method_21_17) k) ?_
  show own_Goes _ _ _ _ s₁ (mkF m 20 #[.val (.ref sr), .val (.int (0 : Int32)), .val (.ref dr), .val (.int (0 : Int32)), .val (.int (1 : Int32)), .val (.int (0 : Int32)), .val (.int c0)] [(.int (255 : Int32)), (.int c0)])
  refine own_step (fun t k => XS.icmpYes X0.here hx rfl (pc0 := 20) (pc' := 26) rfl (hb hby own_jdk_52_method_21_20) rfl (flt (show ¬ ((255 : Int32) < c0) from hc0)).2.2.2 (by decide) (by decide) k) ?_
  refine own_step (fun t k => XS.aloadN X0.here hx rfl (hb hby own_jdk_52_method_21_26) rfl rfl k) ?_
  refine own_step (fun t k => XS.iloadN X0.here hx rfl (hb hby own_jdk_52_method_21_27) rfl k) ?_
  refine own_step (fun t k => XS.iload X0.here hx rfl (hb hby own_jdk_52_method_21_28) rfl k) ?_
  refine own_step (fun t k => XS.i2b X0.here hx rfl (hb hby own_jdk_52_method_21_30) rfl k) ?_
  show own_Goes _ _ _ _ s₁ (mkF m 31 #[.val (.ref sr), .val (.int (0 : Int32)), .val (.ref dr), .val (.int (0 : Int32)), .val (.int (1 : Int32)), .val (.int (0 : Int32)), .val (.int c0)] [(.int (c0.toInt8.toInt32)), (.int (0 : Int32)), (.ref dr)])
  obtain ⟨T1, h1, X1, e1, W1, V1, st1⟩ := own_bastore X0 hx hZ e0 V_dr (x := (c0.toInt8.toInt32)) (c0.toInt8.toInt32) (own_b8 _) (j := (0 : Int32)) ⟨by decide, by decide⟩ 0 rfl (Nat.le_of_ble_eq_true rfl) (g := (mkF m 31 #[.val (.ref sr), .val (.int (0 : Int32)), .val (.ref dr), .val (.int (0 : Int32)), .val (.int (1 : Int32)), .val (.int (0 : Int32)), .val (.int c0)] [(.int (c0.toInt8.toInt32)), (.int (0 : Int32)), (.ref dr)])) rfl rfl (hb hby own_jdk_52_method_21_31)
  refine own_step st1 ?_
  have K1 := (Keep.refl h0 [dr]).wr W1 (Or.inl (List.mem_of_getElem? (i := 0) rfl))
  have N1 := Fr.snoc X1 N0 g_dr
  have V1' : Arv Z h1 dr kd .byte (1 : Int32) [(.int (c0.toInt8.toInt32))] (.int (0 : Int32)) := V1
  show own_Goes _ _ _ _ T1 (mkF m 32 #[.val (.ref sr), .val (.int (0 : Int32)), .val (.ref dr), .val (.int (0 : Int32)), .val (.int (1 : Int32)), .val (.int (0 : Int32)), .val (.int c0)] [])
  refine own_step (fun t k => XS.iinc X1.here hx rfl (hb hby own_jdk_52_method_21_32) rfl (l' := #[.val (.ref sr), .val (.int (1 : Int32)), .val (.ref dr), .val (.int (0 : Int32)), .val (.int (1 : Int32)), .val (.int (0 : Int32)), .val (.int c0)]) rfl k) ?_
  show own_Goes _ _ _ _ T1 (mkF m 35 #[.val (.ref sr), .val (.int (1 : Int32)), .val (.ref dr), .val (.int (0 : Int32)), .val (.int (1 : Int32)), .val (.int (0 : Int32)), .val (.int c0)] [])
  refine own_step (fun t k => XS.iinc X1.here hx rfl (hb hby own_jdk_52_method_21_35) rfl (l' := #[.val (.ref sr), .val (.int (1 : Int32)), .val (.ref dr), .val (.int (1 : Int32)), .val (.int (1 : Int32)), .val (.int (0 : Int32)), .val (.int c0)]) rfl k) ?_
  show own_Goes _ _ _ _ T1 (mkF m 38 #[.val (.ref sr), .val (.int (1 : Int32)), .val (.ref dr), .val (.int (1 : Int32)), .val (.int (1 : Int32)), .val (.int (0 : Int32)), .val (.int c0)] [])
  refine own_step (fun t k => XS.iinc X1.here hx rfl (hb hby own_jdk_52_method_21_38) rfl (l' := #[.val (.ref sr), .val (.int (1 : Int32)), .val (.ref dr), .val (.int (1 : Int32)), .val (.int (1 : Int32)), .val (.int (1 : Int32)), .val (.int c0)]) rfl k) ?_
  refine own_step (fun t k => XS.goto X1.here hx rfl (pc0 := 41) (pc' := 3) rfl (hb hby own_jdk_52_method_21_41) (by decide) (by decide) k) ?_
  refine own_step (fun t k => XS.iload X1.here hx rfl (hb hby own_jdk_52_method_21_3) rfl k) ?_
  refine own_step (fun t k => XS.iload X1.here hx rfl (hb hby own_jdk_52_method_21_5) rfl k) ?_
  show own_Goes _ _ _ _ T1 (mkF m 7 #[.val (.ref sr), .val (.int (1 : Int32)), .val (.ref dr), .val (.int (1 : Int32)), .val (.int (1 : Int32)), .val (.int (1 : Int32)), .val (.int c0)] [(.int (1 : Int32)), (.int (1 : Int32))])
  refine own_step (fun t k => XS.icmpYes X1.here hx rfl (pc0 := 7) (pc' := 44) rfl (hb hby own_jdk_52_method_21_7) rfl (flt (show ¬ ((1 : Int32) < (1 : Int32)) from (by decide))).2.1 (by decide) (by decide) k) ?_
  refine own_step (fun t k => XS.iload X1.here hx rfl (hb hby own_jdk_52_method_21_44) rfl k) ?_
  show own_Goes _ _ _ _ T1 (mkF m 46 #[.val (.ref sr), .val (.int (1 : Int32)), .val (.ref dr), .val (.int (1 : Int32)), .val (.int (1 : Int32)), .val (.int (1 : Int32)), .val (.int c0)] [(.int (1 : Int32))])
  exact own_retI X1 hx hlk hrt (hb hby own_jdk_52_method_21_46) (by rw [e1]; exact ⟨rfl, N1, K1, V1'⟩) (by decide) (by decide)
theorem own_ef7 (m : MethodId) (x0 : Addr) (x1 : Int32) (x2 : Int32) : entryFrame m #[(.ref x0), (.int x1), (.int x2)] 6 = mkF m 0 #[.val (.ref x0), .val (.int x1), .val (.int x2), .unset, .unset, .unset] [] := by first | (simp [entryFrame, mkF, argsToLocals, Value.category]; done) | rfl
theorem own_jdk_52_method_16_0 : decode jdk_52_method_16_code 0 = .ok (.iload_n 2, 1) := by decide +kernel
theorem own_jdk_52_method_16_1 : decode jdk_52_method_16_code 1 = .ok (.newarray .byte, 2) := by decide +kernel
theorem own_jdk_52_method_16_3 : decode jdk_52_method_16_code 3 = .ok (.astore_n 3, 1) := by decide +kernel
theorem own_jdk_52_method_16_4 : decode jdk_52_method_16_code 4 = .ok (.aload_n 0, 1) := by decide +kernel
theorem own_jdk_52_method_16_5 : decode jdk_52_method_16_code 5 = .ok (.iload_n 1, 1) := by decide +kernel
theorem own_jdk_52_method_16_6 : decode jdk_52_method_16_code 6 = .ok (.aload_n 3, 1) := by decide +kernel
theorem own_jdk_52_method_16_7 : decode jdk_52_method_16_code 7 = .ok (.iconst 0, 1) := by decide +kernel
theorem own_jdk_52_method_16_8 : decode jdk_52_method_16_code 8 = .ok (.iload_n 2, 1) := by decide +kernel
theorem own_jdk_52_method_16_9 : decode jdk_52_method_16_code 9 = .ok (.invokestatic 115, 3) := by decide +kernel
theorem own_pd3 : parseMethodDescriptor "([CI[BII)I" = some ⟨[(.array .char), .int, (.array .byte), .int, .int], some .int⟩ := by decide +kernel
theorem own_jdk_52_method_16_12 : decode jdk_52_method_16_code 12 = .ok (.istore 4, 2) := by decide +kernel
theorem own_jdk_52_method_16_14 : decode jdk_52_method_16_code 14 = .ok (.iload 4, 2) := by decide +kernel
theorem own_jdk_52_method_16_16 : decode jdk_52_method_16_code 16 = .ok (.iload_n 2, 1) := by decide +kernel
theorem own_jdk_52_method_16_17 : decode jdk_52_method_16_code 17 = .ok (.if_icmp .eq 40, 3) := by decide +kernel
theorem own_jdk_52_method_16_57 : decode jdk_52_method_16_code 57 = .ok (.aload_n 3, 1) := by decide +kernel
theorem own_jdk_52_method_16_58 : decode jdk_52_method_16_code 58 = .ok (.areturn, 1) := by decide +kernel
set_option maxRecDepth 65536 in
set_option maxHeartbeats 40000000 in
theorem own_comp3_1 (l : Launch) (Z : State) (a0 : Array Value) (hw : ∀ d ∈ tables_1, d.before a0 Z = true) (ws : List Jvm.Cond) (sr : Addr) (ks : ClassId) (c0 : Int32) (h0 : Heap) (n0 : Nat) (Z0 : n0 ≤ h0.size) (V_sr : Arv Z h0 sr ks .char (1 : Int32) [(.int c0)] (.int (0 : Int32))) (hc0 : ¬ ((255 : Int32) < c0)) :
    own_Met l Z (⟨"java/lang/StringUTF16", "compress", "([CII)[B"⟩ : MethodName) jdk_52_method_16_code 6 (some (.array .byte)) ws ({ frames := 1, cells := 1, slots := 1, locals := 18 } : Room) #[(.ref sr), (.int (0 : Int32)), (.int (1 : Int32))] h0 (fun v h L => ∃ r : Addr, ∃ kr : ClassId, v = some (.ref r) ∧ Fr n0 L ∧ Keep h0 h [] ∧ h0.size ≤ r ∧ Arv Z h r kr .byte (1 : Int32) [(.int (c0.toInt8.toInt32))] (.int (0 : Int32))) := by
  refine own_body (plainFor_of_name own_pn_java_lang_StringUTF16) (fun p e s m below meth c s₁ hx hby hml0 hrt hlk hown0 hnm hZ X0 e0 => ?_)
  have N0 := Fr.nil n0
  have hown : s.vm.findClass "java/lang/StringUTF16" = some m.cls := hown0
  have hml : c.maxLocals = 6 := hml0
  refine own_castG (own_ef7 m sr (0 : Int32) (1 : Int32)) ?_
  refine own_step (fun t k => XS.iloadN X0.here hx rfl (hb hby own_jdk_52_method_16_0) rfl k) ?_
  show own_Goes _ _ _ _ s₁ (mkF m 1 #[.val (.ref sr), .val (.int (0 : Int32)), .val (.int (1 : Int32)), .unset, .unset, .unset] [(.int (1 : Int32))])
  obtain ⟨T1, h1, k1, X1, e1, E1, A1, st1⟩ := newP X0 hx hZ (hw _ (List.mem_of_getElem? (i := 29) rfl)) e0 (g := (mkF m 1 #[.val (.ref sr), .val (.int (0 : Int32)), .val (.int (1 : Int32)), .unset, .unset, .unset] [(.int (1 : Int32))])) rfl (hb hby own_jdk_52_method_16_1) rfl (by decide) (cap := 1) (by decide) (by decide) (by decide) (by decide)
  obtain ⟨b1, g1⟩ : ∃ z, z = h0.size := ⟨_, rfl⟩
  rw [← g1] at A1 st1
  refine own_step st1 ?_
  have g_b1 : n0 ≤ b1 := Nat.le_trans Z0 (Nat.le_of_eq g1.symm)
  have sz_b1 : h0.size ≤ b1 := Nat.le_trans (Keep.refl h0 []).1 (Nat.le_of_eq g1.symm)
  have ne_sr_b1 : sr ≠ b1 := Nat.ne_of_lt (Nat.lt_of_lt_of_le V_sr.lt (Nat.le_of_eq g1.symm))
  have K1 := (Keep.refl h0 []).ext E1
  have V_b1 : Arv Z h1 b1 k1 .byte (1 : Int32) [(.int (0 : Int32))] (.int (0 : Int32)) := (Arv.new A1 (by decide)).pad (pad_rep [] (.int (0 : Int32)) 1)
  refine own_step (fun t k => XS.astoreN X1.here hx rfl (hb hby own_jdk_52_method_16_3) rfl rfl (l' := #[.val (.ref sr), .val (.int (0 : Int32)), .val (.int (1 : Int32)), .val (.ref b1), .unset, .unset]) rfl k) ?_
  refine own_step (fun t k => XS.aloadN X1.here hx rfl (hb hby own_jdk_52_method_16_4) rfl rfl k) ?_
  refine own_step (fun t k => XS.iloadN X1.here hx rfl (hb hby own_jdk_52_method_16_5) rfl k) ?_
  refine own_step (fun t k => XS.aloadN X1.here hx rfl (hb hby own_jdk_52_method_16_6) rfl rfl k) ?_
  show own_Goes _ _ _ _ T1 (mkF m 7 #[.val (.ref sr), .val (.int (0 : Int32)), .val (.int (1 : Int32)), .val (.ref b1), .unset, .unset] [(.ref b1), (.int (0 : Int32)), (.ref sr)])
  refine own_step (fun t k => XS.iconst X1.here hx rfl (hb hby own_jdk_52_method_16_7) k) ?_
  refine own_step (fun t k => XS.iloadN X1.here hx rfl (hb hby own_jdk_52_method_16_8) rfl k) ?_
  show own_Goes _ _ _ _ T1 (mkF m 9 #[.val (.ref sr), .val (.int (0 : Int32)), .val (.int (1 : Int32)), .val (.ref b1), .unset, .unset] [(.int (1 : Int32)), (.int (0 : Int32)), (.ref b1), (.int (0 : Int32)), (.ref sr)])
  have V_sr_v2 := (V_sr.ext E1)
  refine own_callS X1 hx hZ (y := (⟨"java/lang/StringUTF16", "compress", "([CI[BII)I"⟩ : MethodName)) hown (hw _ (List.mem_of_getElem? (i := 65) rfl)) (hw _ (List.mem_of_getElem? (i := 66) rfl)) (hw _ (List.mem_of_getElem? (i := 63) rfl)) (hw _ (List.mem_of_getElem? (i := 67) rfl)) (by decide) 0 [(.ref sr), (.int (0 : Int32)), (.ref b1), (.int (0 : Int32)), (.int (1 : Int32))] [] (own_comp5_1 l Z a0 hw [] sr b1 ks k1 c0 h1 n0 (Nat.le_trans Z0 K1.1) V_sr_v2 V_b1 hc0 ne_sr_b1 g_b1) e1  (by decide) (by decide) (by decide) (by decide) (g := (mkF m 9 #[.val (.ref sr), .val (.int (0 : Int32)), .val (.int (1 : Int32)), .val (.ref b1), .unset, .unset] [(.int (1 : Int32)), (.int (0 : Int32)), (.ref b1), (.int (0 : Int32)), (.ref sr)])) rfl (by rw [hml]; rfl) own_pd3 rfl rfl (by show 2 * 0 + _ ≤ _; exact Nat.le_of_eq rfl) (hb hby own_jdk_52_method_16_9) ?_
  intro T3 v3 L3 X3 hQ3
  obtain ⟨rfl, N3q, Kq3, q3_0⟩ := hQ3
  have N3 := Fr.app N0 N3q
  have K3 := K1.trans Kq3 (allS (Or.inr sz_b1) all0)
  have q3_0' : Arv Z T3.heap b1 k1 .byte (1 : Int32) [(.int (c0.toInt8.toInt32))] (.int (0 : Int32)) := q3_0
  refine own_step (fun t k => XS.istore X3.here hx rfl (hb hby own_jdk_52_method_16_12) rfl (l' := #[.val (.ref sr), .val (.int (0 : Int32)), .val (.int (1 : Int32)), .val (.ref b1), .val (.int (1 : Int32)), .unset]) rfl k) ?_
  refine own_step (fun t k => XS.iload X3.here hx rfl (hb hby own_jdk_52_method_16_14) rfl k) ?_
  refine own_step (fun t k => XS.iloadN X3.here hx rfl (hb hby own_jdk_52_method_16_16) rfl k) ?_
  show own_Goes _ _ _ _ T3 (mkF m 17 #[.val (.ref sr), .val (.int (0 : Int32)), .val (.int (1 : Int32)), .val (.ref b1), .val (.int (1 : Int32)), .unset] [(.int (1 : Int32)), (.int (1 : Int32))])
  refine own_step (fun t k => XS.icmpYes X3.here hx rfl (pc0 := 17) (pc' := 57) rfl (hb hby own_jdk_52_method_16_17) rfl (teq (show (1 : Int32) = (1 : Int32) from (by decide))).1 (by decide) (by decide) k) ?_
  refine own_step (fun t k => XS.aloadN X3.here hx rfl (hb hby own_jdk_52_method_16_57) rfl rfl k) ?_
  show own_Goes _ _ _ _ T3 (mkF m 58 #[.val (.ref sr), .val (.int (0 : Int32)), .val (.int (1 : Int32)), .val (.ref b1), .val (.int (1 : Int32)), .unset] [(.ref b1)])
  exact own_retA X3 hx hlk hrt rfl rfl rfl (hb hby own_jdk_52_method_16_58) (by exact ⟨b1, k1, rfl, N3, K3, sz_b1, q3_0'⟩) (by decide) (by decide)
theorem own_ef8 (m : MethodId) (x0 : Addr) (x1 : Int32) : entryFrame m #[(.ref x0), (.int x1)] 2 = mkF m 0 #[.val (.ref x0), .val (.int x1)] [] := by first | (simp [entryFrame, mkF, argsToLocals, Value.category]; done) | rfl
theorem own_jdk_52_method_15_0 : decode jdk_52_method_15_code 0 = .ok (.iload_n 1, 1) := by decide +kernel
theorem own_jdk_52_method_15_1 : decode jdk_52_method_15_code 1 = .ok (.aload_n 0, 1) := by decide +kernel
theorem own_jdk_52_method_15_2 : decode jdk_52_method_15_code 2 = .ok (.arraylength, 1) := by decide +kernel
theorem own_jdk_52_method_15_3 : decode jdk_52_method_15_code 3 = .ok (.isub, 1) := by decide +kernel
theorem own_jdk_52_method_15_4 : decode jdk_52_method_15_code 4 = .ok (.bipush 31, 2) := by decide +kernel
theorem own_jdk_52_method_15_6 : decode jdk_52_method_15_code 6 = .ok (.iushr, 1) := by decide +kernel
theorem own_jdk_52_method_15_7 : decode jdk_52_method_15_code 7 = .ok (.i2b, 1) := by decide +kernel
theorem own_jdk_52_method_15_8 : decode jdk_52_method_15_code 8 = .ok (.ireturn, 1) := by decide +kernel
set_option maxRecDepth 65536 in
set_option maxHeartbeats 40000000 in
theorem own_coder_1 (l : Launch) (Z : State) (a0 : Array Value) (hw : ∀ d ∈ tables_1, d.before a0 Z = true) (ws : List Jvm.Cond) (dr : Addr) (kd : ClassId) (x0 : Int32) (h0 : Heap) (n0 : Nat) (Z0 : n0 ≤ h0.size) (V_dr : Arv Z h0 dr kd .byte (1 : Int32) [(.int x0)] (.int (0 : Int32))) :
    own_Met l Z (⟨"java/lang/StringUTF16", "coderFromArrayLen", "([BI)B"⟩ : MethodName) jdk_52_method_15_code 2 (some .byte) ws ({ frames := 0, cells := 0, slots := 0, locals := 0 } : Room) #[(.ref dr), (.int (1 : Int32))] h0 (fun v h L => v = some (.int (0 : Int32)) ∧ Fr n0 L ∧ h = h0) := by
  refine own_body (plainFor_of_name own_pn_java_lang_StringUTF16) (fun p e s m below meth c s₁ hx hby hml0 hrt hlk hown0 hnm hZ X0 e0 => ?_)
  have N0 := Fr.nil n0
  have hown : s.vm.findClass "java/lang/StringUTF16" = some m.cls := hown0
  have hml : c.maxLocals = 2 := hml0
  refine own_castG (own_ef8 m dr (1 : Int32)) ?_
  refine own_step (fun t k => XS.iloadN X0.here hx rfl (hb hby own_jdk_52_method_15_0) rfl k) ?_
  refine own_step (fun t k => XS.aloadN X0.here hx rfl (hb hby own_jdk_52_method_15_1) rfl rfl k) ?_
  show own_Goes _ _ _ _ s₁ (mkF m 2 #[.val (.ref dr), .val (.int (1 : Int32))] [(.ref dr), (.int (1 : Int32))])
  refine own_step (own_alen X0 hx hZ e0 V_dr (g := (mkF m 2 #[.val (.ref dr), .val (.int (1 : Int32))] [(.ref dr), (.int (1 : Int32))])) rfl rfl (hb hby own_jdk_52_method_15_2)) ?_
  refine own_step (fun t k => XS.isub X0.here hx rfl (hb hby own_jdk_52_method_15_3) rfl k) ?_
  refine own_step (fun t k => XS.bipush X0.here hx rfl (hb hby own_jdk_52_method_15_4) k) ?_
  refine own_step (fun t k => XS.iushr X0.here hx rfl (hb hby own_jdk_52_method_15_6) rfl k) ?_
  refine own_step (fun t k => XS.i2b X0.here hx rfl (hb hby own_jdk_52_method_15_7) rfl k) ?_
  show own_Goes _ _ _ _ s₁ (mkF m 8 #[.val (.ref dr), .val (.int (1 : Int32))] [(.int (0 : Int32))])
  exact own_retN X0 hx hlk (t := .byte) hrt (by simp) (hb hby own_jdk_52_method_15_8) ⟨rfl, N0, e0⟩ (by decide) (by decide)
theorem own_jdk_42_method_149_27 : decode jdk_42_method_149_code 27 = .ok (.getstatic 38, 3) := by decide +kernel
theorem own_jdk_42_method_149_30 : decode jdk_42_method_149_code 30 = .ok (.ifCond .eq 28, 3) := by decide +kernel
theorem own_jdk_42_method_149_33 : decode jdk_42_method_149_code 33 = .ok (.aload_n 1, 1) := by decide +kernel
theorem own_jdk_42_method_149_34 : decode jdk_42_method_149_code 34 = .ok (.iload_n 2, 1) := by decide +kernel
theorem own_jdk_42_method_149_35 : decode jdk_42_method_149_code 35 = .ok (.iload_n 3, 1) := by decide +kernel
theorem own_jdk_42_method_149_36 : decode jdk_42_method_149_code 36 = .ok (.invokestatic 177, 3) := by decide +kernel
theorem own_pd4 : parseMethodDescriptor "([CII)[B" = some ⟨[(.array .char), .int, .int], some (.array .byte)⟩ := by decide +kernel
theorem own_jdk_42_method_149_39 : decode jdk_42_method_149_code 39 = .ok (.astore 5, 2) := by decide +kernel
theorem own_jdk_42_method_149_41 : decode jdk_42_method_149_code 41 = .ok (.aload_n 0, 1) := by decide +kernel
theorem own_jdk_42_method_149_42 : decode jdk_42_method_149_code 42 = .ok (.aload 5, 2) := by decide +kernel
theorem own_jdk_42_method_149_44 : decode jdk_42_method_149_code 44 = .ok (.iload_n 3, 1) := by decide +kernel
theorem own_jdk_42_method_149_45 : decode jdk_42_method_149_code 45 = .ok (.invokestatic 47, 3) := by decide +kernel
theorem own_pd5 : parseMethodDescriptor "([BI)B" = some ⟨[(.array .byte), .int], some .byte⟩ := by decide +kernel
theorem own_jdk_42_method_149_48 : decode jdk_42_method_149_code 48 = .ok (.putfield 15, 3) := by decide +kernel
theorem own_jdk_42_method_149_51 : decode jdk_42_method_149_code 51 = .ok (.aload_n 0, 1) := by decide +kernel
theorem own_jdk_42_method_149_52 : decode jdk_42_method_149_code 52 = .ok (.aload 5, 2) := by decide +kernel
theorem own_jdk_42_method_149_54 : decode jdk_42_method_149_code 54 = .ok (.putfield 9, 3) := by decide +kernel
theorem own_jdk_42_method_149_57 : decode jdk_42_method_149_code 57 = .ok (.return_, 1) := by decide +kernel
set_option maxRecDepth 65536 in
set_option maxHeartbeats 40000000 in
theorem own_sinit4_1 (l : Launch) (Z : State) (a0 : Array Value) (hw : ∀ d ∈ tables_1, d.before a0 Z = true) (ws : List Jvm.Cond) (a : Addr) (sr : Addr) (ks : ClassId) (c0 : Int32) (zc : Int32) (h0 : Heap) (n0 : Nat) (Z0 : n0 ≤ h0.size) (E_a : Exa Z h0 a "java/lang/String") (F_a_value : Fld Z h0 a "java/lang/String" "value" "[B" .null) (F_a_coder : Fld Z h0 a "java/lang/String" "coder" "B" (.int (0 : Int32))) (V_sr : Arv Z h0 sr ks .char (1 : Int32) [(.int c0)] (.int (0 : Int32))) (S_COMPACT_STRINGS : Sta Z h0 "java/lang/String" "COMPACT_STRINGS" "Z" (.int zc)) (hc0 : ¬ ((255 : Int32) < c0)) (hz : ¬ (zc = (0 : Int32))) (g_a : n0 ≤ a) :
    own_Met l Z (⟨"java/lang/String", "<init>", "([CIILjava/lang/Void;)V"⟩ : MethodName) jdk_42_method_149_code 6 none ws ({ frames := 2, cells := 1, slots := 1, locals := 35 } : Room) #[(.ref a), (.ref sr), (.int (0 : Int32)), (.int (1 : Int32)), .null] h0 (fun v h L => ∃ r : Addr, ∃ kr : ClassId, v = none ∧ Fr n0 L ∧ Keep h0 h [a] ∧ h0.size ≤ r ∧ Exa Z h a "java/lang/String" ∧ Fld Z h a "java/lang/String" "coder" "B" (.int (0 : Int32)) ∧ Fld Z h a "java/lang/String" "value" "[B" (.ref r) ∧ Arv Z h r kr .byte (1 : Int32) [(.int (c0.toInt8.toInt32))] (.int (0 : Int32))) := by
  refine own_body (plainFor_of_name own_pn_java_lang_String) (fun p e s m below meth c s₁ hx hby hml0 hrt hlk hown0 hnm hZ X0 e0 => ?_)
  have N0 := Fr.nil n0
  have hown : s.vm.findClass "java/lang/String" = some m.cls := hown0
  have hml : c.maxLocals = 6 := hml0
  refine own_castG (own_ef3 m a sr (0 : Int32) (1 : Int32)) ?_
  refine own_step (fun t k => XS.aloadN X0.here hx rfl (hb hby own_jdk_42_method_149_0) rfl rfl k) ?_
  show own_Goes _ _ _ _ s₁ (mkF m 1 #[.val (.ref a), .val (.ref sr), .val (.int (0 : Int32)), .val (.int (1 : Int32)), .val .null, .unset] [(.ref a)])
  obtain ⟨T1, X1, e1, st1⟩ := initO X0 hx hZ hown (hw _ (List.mem_of_getElem? (i := 25) rfl)) (hw _ (List.mem_of_getElem? (i := 26) rfl)) (hw _ (List.mem_of_getElem? (i := 27) rfl)) e0 (g := (mkF m 1 #[.val (.ref a), .val (.ref sr), .val (.int (0 : Int32)), .val (.int (1 : Int32)), .val .null, .unset] [(.ref a)])) rfl (by rw [hml]; rfl) rfl (hb hby own_jdk_42_method_149_1) (by decide) (W := 0) (by show 2 * 0 + _ ≤ _; exact Nat.le_of_eq rfl) (by decide)
  refine own_step st1 ?_
  refine own_step (fun t k => XS.iloadN X1.here hx rfl (hb hby own_jdk_42_method_149_4) rfl k) ?_
  show own_Goes _ _ _ _ T1 (mkF m 5 #[.val (.ref a), .val (.ref sr), .val (.int (0 : Int32)), .val (.int (1 : Int32)), .val .null, .unset] [(.int (1 : Int32))])
  refine own_step (fun t k => XS.ifYes X1.here hx rfl (pc0 := 5) (pc' := 27) rfl (hb hby own_jdk_42_method_149_5) rfl ((if0 _ _).trans (feq (show ¬ ((1 : Int32) = (0 : Int32)) from (by decide))).2) (by decide) (by decide) k) ?_
  show own_Goes _ _ _ _ T1 (mkF m 27 #[.val (.ref a), .val (.ref sr), .val (.int (0 : Int32)), .val (.int (1 : Int32)), .val .null, .unset] [])
  obtain ⟨T2, X2, e2, st2⟩ := getS2 X1 hx hZ hown (host := "") (Or.inl (hw _ (List.mem_of_getElem? (i := 60) rfl))) Via.refl e1 S_COMPACT_STRINGS (g := (mkF m 27 #[.val (.ref a), .val (.ref sr), .val (.int (0 : Int32)), .val (.int (1 : Int32)), .val .null, .unset] [])) rfl (hb hby own_jdk_42_method_149_27)
  refine own_step st2 ?_
  show own_Goes _ _ _ _ T2 (mkF m 30 #[.val (.ref a), .val (.ref sr), .val (.int (0 : Int32)), .val (.int (1 : Int32)), .val .null, .unset] [(.int zc)])
  refine own_step (fun t k => XS.ifNo X2.here hx rfl (hb hby own_jdk_42_method_149_30) rfl ((if0 _ _).trans (feq (show ¬ (zc = (0 : Int32)) from hz)).1) k) ?_
  refine own_step (fun t k => XS.aloadN X2.here hx rfl (hb hby own_jdk_42_method_149_33) rfl rfl k) ?_
  refine own_step (fun t k => XS.iloadN X2.here hx rfl (hb hby own_jdk_42_method_149_34) rfl k) ?_
  refine own_step (fun t k => XS.iloadN X2.here hx rfl (hb hby own_jdk_42_method_149_35) rfl k) ?_
  show own_Goes _ _ _ _ T2 (mkF m 36 #[.val (.ref a), .val (.ref sr), .val (.int (0 : Int32)), .val (.int (1 : Int32)), .val .null, .unset] [(.int (1 : Int32)), (.int (0 : Int32)), (.ref sr)])
  refine own_callS X2 hx hZ (y := (⟨"java/lang/StringUTF16", "compress", "([CII)[B"⟩ : MethodName)) hown (hw _ (List.mem_of_getElem? (i := 61) rfl)) (hw _ (List.mem_of_getElem? (i := 62) rfl)) (hw _ (List.mem_of_getElem? (i := 63) rfl)) (hw _ (List.mem_of_getElem? (i := 64) rfl)) (by decide) 0 [(.ref sr), (.int (0 : Int32)), (.int (1 : Int32))] [] (own_comp3_1 l Z a0 hw [] sr ks c0 h0 n0 Z0 V_sr hc0) e2  (by decide) (by decide) (by decide) (by decide) (g := (mkF m 36 #[.val (.ref a), .val (.ref sr), .val (.int (0 : Int32)), .val (.int (1 : Int32)), .val .null, .unset] [(.int (1 : Int32)), (.int (0 : Int32)), (.ref sr)])) rfl (by rw [hml]; rfl) own_pd4 rfl rfl (by show 2 * 0 + _ ≤ _; exact Nat.le_of_eq rfl) (hb hby own_jdk_42_method_149_36) ?_
  intro T3 v3 L3 X3 hQ3
  obtain ⟨b3_0, k3_0, rfl, N3q, Kq3, zq3_0, q3_0⟩ := hQ3
  have N3 := Fr.app N0 N3q
  have K3 := (Keep.refl h0 [a]).trans Kq3 all0
  have g_b3_0 : n0 ≤ b3_0 := Nat.le_trans Z0 zq3_0
  have sz_b3_0 : h0.size ≤ b3_0 := Nat.le_trans (Keep.refl h0 [a]).1 zq3_0
  have ne_a_b3_0 : a ≠ b3_0 := Nat.ne_of_lt (Nat.lt_of_lt_of_le E_a.lt zq3_0)
  have ne_sr_b3_0 : sr ≠ b3_0 := Nat.ne_of_lt (Nat.lt_of_lt_of_le V_sr.lt zq3_0)
  have q3_0' : Arv Z T3.heap b3_0 k3_0 .byte (1 : Int32) [(.int (c0.toInt8.toInt32))] (.int (0 : Int32)) := q3_0
  refine own_step (fun t k => XS.astore X3.here hx rfl (hb hby own_jdk_42_method_149_39) rfl rfl (l' := #[.val (.ref a), .val (.ref sr), .val (.int (0 : Int32)), .val (.int (1 : Int32)), .val .null, .val (.ref b3_0)]) rfl k) ?_
  refine own_step (fun t k => XS.aloadN X3.here hx rfl (hb hby own_jdk_42_method_149_41) rfl rfl k) ?_
  refine own_step (fun t k => XS.aload X3.here hx rfl (hb hby own_jdk_42_method_149_42) rfl rfl k) ?_
  refine own_step (fun t k => XS.iloadN X3.here hx rfl (hb hby own_jdk_42_method_149_44) rfl k) ?_
  show own_Goes _ _ _ _ T3 (mkF m 45 #[.val (.ref a), .val (.ref sr), .val (.int (0 : Int32)), .val (.int (1 : Int32)), .val .null, .val (.ref b3_0)] [(.int (1 : Int32)), (.ref b3_0), (.ref a)])
  refine own_callS X3 hx hZ (y := (⟨"java/lang/StringUTF16", "coderFromArrayLen", "([BI)B"⟩ : MethodName)) hown (hw _ (List.mem_of_getElem? (i := 68) rfl)) (hw _ (List.mem_of_getElem? (i := 69) rfl)) (hw _ (List.mem_of_getElem? (i := 63) rfl)) (hw _ (List.mem_of_getElem? (i := 70) rfl)) (by decide) 1 [(.ref b3_0), (.int (1 : Int32))] [(.ref a)] (own_coder_1 l Z a0 hw [] b3_0 k3_0 (c0.toInt8.toInt32) T3.heap n0 (Nat.le_trans Z0 K3.1) q3_0') rfl  (by decide) (by decide) (by decide) (by decide) (g := (mkF m 45 #[.val (.ref a), .val (.ref sr), .val (.int (0 : Int32)), .val (.int (1 : Int32)), .val .null, .val (.ref b3_0)] [(.int (1 : Int32)), (.ref b3_0), (.ref a)])) rfl (by rw [hml]; rfl) own_pd5 rfl rfl (by show 2 * 0 + _ ≤ _; exact Nat.le_of_eq rfl) (hb hby own_jdk_42_method_149_45) ?_
  intro T4 v4 L4 X4 hQ4
  obtain ⟨rfl, N4q, e4⟩ := hQ4
  have N4 := Fr.app N3 N4q
  show own_Goes _ _ _ _ T4 (mkF m 48 #[.val (.ref a), .val (.ref sr), .val (.int (0 : Int32)), .val (.int (1 : Int32)), .val .null, .val (.ref b3_0)] [(.int (0 : Int32)), (.ref a)])
  have E_a_v6 := (E_a.keep Kq3)
  have F_a_coder_v7 := (F_a_coder.keep Kq3 nin0)
  obtain ⟨T5, h5, X5, e5, W5, st5⟩ := putFN X4 hx hZ hown (hw _ (List.mem_of_getElem? (i := 35) rfl)) Via.refl e4 F_a_coder_v7 E_a_v6 (Or.inr ⟨(hw _ (List.mem_of_getElem? (i := 31) rfl)), rfl, hnm⟩) (hw _ (List.mem_of_getElem? (i := 15) rfl)) (ty := .byte) (v' := (.int (0 : Int32))) (by decide) rfl rfl (g := (mkF m 48 #[.val (.ref a), .val (.ref sr), .val (.int (0 : Int32)), .val (.int (1 : Int32)), .val .null, .val (.ref b3_0)] [(.int (0 : Int32)), (.ref a)])) rfl rfl (hb hby own_jdk_42_method_149_48)
  refine own_step st5 ?_
  have F5 := F_a_coder_v7.same W5
  have K5 := K3.wr W5 (Or.inl (List.mem_of_getElem? (i := 0) rfl))
  have N5 := Fr.snoc X5 N4 g_a
  refine own_step (fun t k => XS.aloadN X5.here hx rfl (hb hby own_jdk_42_method_149_51) rfl rfl k) ?_
  refine own_step (fun t k => XS.aload X5.here hx rfl (hb hby own_jdk_42_method_149_52) rfl rfl k) ?_
  show own_Goes _ _ _ _ T5 (mkF m 54 #[.val (.ref a), .val (.ref sr), .val (.int (0 : Int32)), .val (.int (1 : Int32)), .val .null, .val (.ref b3_0)] [(.ref b3_0), (.ref a)])
  have E_a_v9 := (E_a_v6.wr W5)
  have F_a_value_v10 := ((F_a_value.keep Kq3 nin0).other W5 (Or.inr (slot_ne (Or.inr (hw _ (List.mem_of_getElem? (i := 30) rfl))) (Or.inr (hw _ (List.mem_of_getElem? (i := 31) rfl))) (by decide) (t := (.array .byte)) (t' := .byte) (by decide) (by decide))))
  obtain ⟨T8, h8, X8, e8, W8, st8⟩ := putF X5 hx hZ hown (host := "") (Or.inl (hw _ (List.mem_of_getElem? (i := 34) rfl))) Via.refl e5 F_a_value_v10 E_a_v9 (Or.inr ⟨(hw _ (List.mem_of_getElem? (i := 30) rfl)), rfl, hnm⟩) (hw _ (List.mem_of_getElem? (i := 15) rfl)) (ty := (.array .byte)) (by decide) rfl rfl (g := (mkF m 54 #[.val (.ref a), .val (.ref sr), .val (.int (0 : Int32)), .val (.int (1 : Int32)), .val .null, .val (.ref b3_0)] [(.ref b3_0), (.ref a)])) rfl rfl (hb hby own_jdk_42_method_149_54)
  refine own_step st8 ?_
  have F8 := F_a_value_v10.same W8
  have K8 := K5.wr W8 (Or.inl (List.mem_of_getElem? (i := 0) rfl))
  have N8 := Fr.snoc X8 N5 g_a
  show own_Goes _ _ _ _ T8 (mkF m 57 #[.val (.ref a), .val (.ref sr), .val (.int (0 : Int32)), .val (.int (1 : Int32)), .val .null, .val (.ref b3_0)] [])
  have E_a_v11 := (E_a_v9.wr W8)
  have F5_v12 := (F5.other W8 (Or.inr (slot_ne (Or.inr (hw _ (List.mem_of_getElem? (i := 31) rfl))) (Or.inr (hw _ (List.mem_of_getElem? (i := 30) rfl))) (by decide) (t := .byte) (t' := (.array .byte)) (by decide) (by decide))))
  have q3_0'_v13 := ((q3_0'.other W5 (Ne.symm ne_a_b3_0)).other W8 (Ne.symm ne_a_b3_0))
  exact own_retV X8 hx hlk hrt (hb hby own_jdk_42_method_149_57) (by rw [e8]; exact ⟨b3_0, k3_0, rfl, N8, K8, sz_b3_0, E_a_v11, F5_v12, F8, q3_0'_v13⟩) (by decide) (by decide)
set_option maxRecDepth 65536 in
set_option maxHeartbeats 40000000 in
theorem own_sinit_1 (l : Launch) (Z : State) (a0 : Array Value) (hw : ∀ d ∈ tables_1, d.before a0 Z = true) (ws : List Jvm.Cond) (a : Addr) (sr : Addr) (ks : ClassId) (c0 : Int32) (zc : Int32) (h0 : Heap) (n0 : Nat) (Z0 : n0 ≤ h0.size) (E_a : Exa Z h0 a "java/lang/String") (F_a_value : Fld Z h0 a "java/lang/String" "value" "[B" .null) (F_a_coder : Fld Z h0 a "java/lang/String" "coder" "B" (.int (0 : Int32))) (V_sr : Arv Z h0 sr ks .char (1 : Int32) [(.int c0)] (.int (0 : Int32))) (S_COMPACT_STRINGS : Sta Z h0 "java/lang/String" "COMPACT_STRINGS" "Z" (.int zc)) (hc0 : ¬ ((255 : Int32) < c0)) (hz : ¬ (zc = (0 : Int32))) (g_a : n0 ≤ a) :
    own_Met l Z (⟨"java/lang/String", "<init>", "([C)V"⟩ : MethodName) jdk_42_method_3_code 2 none ws ({ frames := 3, cells := 1, slots := 1, locals := 52 } : Room) #[(.ref a), (.ref sr)] h0 (fun v h L => ∃ r : Addr, ∃ kr : ClassId, v = none ∧ Fr n0 L ∧ Keep h0 h [a] ∧ h0.size ≤ r ∧ Exa Z h a "java/lang/String" ∧ Fld Z h a "java/lang/String" "coder" "B" (.int (0 : Int32)) ∧ Fld Z h a "java/lang/String" "value" "[B" (.ref r) ∧ Arv Z h r kr .byte (1 : Int32) [(.int (c0.toInt8.toInt32))] (.int (0 : Int32))) := by
  refine own_body (plainFor_of_name own_pn_java_lang_String) (fun p e s m below meth c s₁ hx hby hml0 hrt hlk hown0 hnm hZ X0 e0 => ?_)
  have N0 := Fr.nil n0
  have hown : s.vm.findClass "java/lang/String" = some m.cls := hown0
  have hml : c.maxLocals = 2 := hml0
  refine own_castG (own_ef4 m a sr) ?_
  refine own_step (fun t k => XS.aloadN X0.here hx rfl (hb hby own_jdk_42_method_3_0) rfl rfl k) ?_
  refine own_step (fun t k => XS.aloadN X0.here hx rfl (hb hby own_jdk_42_method_3_1) rfl rfl k) ?_
  refine own_step (fun t k => XS.iconst X0.here hx rfl (hb hby own_jdk_42_method_3_2) k) ?_
  refine own_step (fun t k => XS.aloadN X0.here hx rfl (hb hby own_jdk_42_method_3_3) rfl rfl k) ?_
  show own_Goes _ _ _ _ s₁ (mkF m 4 #[.val (.ref a), .val (.ref sr)] [(.ref sr), (.int (0 : Int32)), (.ref sr), (.ref a)])
  refine own_step (own_alen X0 hx hZ e0 V_sr (g := (mkF m 4 #[.val (.ref a), .val (.ref sr)] [(.ref sr), (.int (0 : Int32)), (.ref sr), (.ref a)])) rfl rfl (hb hby own_jdk_42_method_3_4)) ?_
  refine own_step (fun t k => XS.aconstNull X0.here hx rfl (hb hby own_jdk_42_method_3_5) k) ?_
  show own_Goes _ _ _ _ s₁ (mkF m 6 #[.val (.ref a), .val (.ref sr)] [.null, (.int (1 : Int32)), (.int (0 : Int32)), (.ref sr), (.ref a)])
  refine own_callC X0 hx hZ (y := (⟨"java/lang/String", "<init>", "([CIILjava/lang/Void;)V"⟩ : MethodName)) rfl hown (hw _ (List.mem_of_getElem? (i := 21) rfl)) (hw _ (List.mem_of_getElem? (i := 22) rfl)) (hw _ (List.mem_of_getElem? (i := 24) rfl)) (hw _ (List.mem_of_getElem? (i := 16) rfl)) (by decide) 0 (a := a) [(.ref sr), (.int (0 : Int32)), (.int (1 : Int32)), .null] [] (own_sinit4_1 l Z a0 hw [] a sr ks c0 zc h0 n0 Z0 E_a F_a_value F_a_coder V_sr S_COMPACT_STRINGS hc0 hz g_a) e0  (by decide) (by decide) (by decide) (by decide) (g := (mkF m 6 #[.val (.ref a), .val (.ref sr)] [.null, (.int (1 : Int32)), (.int (0 : Int32)), (.ref sr), (.ref a)])) rfl (by rw [hml]; rfl) own_pd1 rfl rfl (by show 2 * 0 + _ ≤ _; exact Nat.le_of_eq rfl) (hb hby own_jdk_42_method_3_6) ?_
  intro T1 v1 L1 X1 hQ1
  obtain ⟨b1_0, k1_0, rfl, N1q, Kq1, zq1_0, q1_0, q1_1, q1_2, q1_3⟩ := hQ1
  have N1 := Fr.app N0 N1q
  have K1 := (Keep.refl h0 [a]).trans Kq1 (allS (Or.inl (List.mem_of_getElem? (i := 0) rfl)) all0)
  have g_b1_0 : n0 ≤ b1_0 := Nat.le_trans Z0 zq1_0
  have sz_b1_0 : h0.size ≤ b1_0 := Nat.le_trans (Keep.refl h0 [a]).1 zq1_0
  have ne_a_b1_0 : a ≠ b1_0 := Nat.ne_of_lt (Nat.lt_of_lt_of_le E_a.lt zq1_0)
  have ne_sr_b1_0 : sr ≠ b1_0 := Nat.ne_of_lt (Nat.lt_of_lt_of_le V_sr.lt zq1_0)
  have q1_0' : Exa Z T1.heap a "java/lang/String" := q1_0
  have q1_1' : Fld Z T1.heap a "java/lang/String" "coder" "B" (.int (0 : Int32)) := q1_1
  have q1_2' : Fld Z T1.heap a "java/lang/String" "value" "[B" (.ref b1_0) := q1_2
  have q1_3' : Arv Z T1.heap b1_0 k1_0 .byte (1 : Int32) [(.int (c0.toInt8.toInt32))] (.int (0 : Int32)) := q1_3
  show own_Goes _ _ _ _ T1 (mkF m 9 #[.val (.ref a), .val (.ref sr)] [])
  exact own_retV X1 hx hlk hrt (hb hby own_jdk_42_method_3_9) (by exact ⟨b1_0, k1_0, rfl, N1, K1, sz_b1_0, q1_0', q1_1', q1_2', q1_3'⟩) (by decide) (by decide)
theorem own_method_3_15 : decode method_3_code 15 = .ok (.iload_n 0, 1) := by decide +kernel
theorem own_method_3_16 : decode method_3_code 16 = .ok (.iconst 1, 1) := by decide +kernel
theorem own_method_3_17 : decode method_3_code 17 = .ok (.if_icmp .ne 18, 3) := by decide +kernel
theorem own_method_3_20 : decode method_3_code 20 = .ok (.new 40, 3) := by decide +kernel
theorem own_method_3_23 : decode method_3_code 23 = .ok (.dup, 1) := by decide +kernel
theorem own_method_3_24 : decode method_3_code 24 = .ok (.iconst 1, 1) := by decide +kernel
theorem own_method_3_25 : decode method_3_code 25 = .ok (.newarray .char, 2) := by decide +kernel
theorem own_method_3_27 : decode method_3_code 27 = .ok (.dup, 1) := by decide +kernel
theorem own_method_3_28 : decode method_3_code 28 = .ok (.iconst 0, 1) := by decide +kernel
theorem own_method_3_29 : decode method_3_code 29 = .ok (.iload_n 1, 1) := by decide +kernel
theorem own_method_3_30 : decode method_3_code 30 = .ok (.castore, 1) := by decide +kernel
theorem own_method_3_31 : decode method_3_code 31 = .ok (.invokespecial 42, 3) := by decide +kernel
theorem own_method_3_34 : decode method_3_code 34 = .ok (.areturn, 1) := by decide +kernel
set_option maxRecDepth 65536 in
set_option maxHeartbeats 40000000 in
theorem own_str1 (l : Launch) (Z : State) (a0 : Array Value) (hw : ∀ d ∈ tables_1, d.before a0 Z = true) (ws : List Jvm.Cond) (c0 : Int32) (c1 : Int32) (zc : Int32) (h0 : Heap) (n0 : Nat) (Z0 : n0 ≤ h0.size) (S_COMPACT_STRINGS : Sta Z h0 "java/lang/String" "COMPACT_STRINGS" "Z" (.int zc)) (hc0a : ¬ (c0 < (0 : Int32))) (hc0b : ¬ ((255 : Int32) < c0)) (hz : ¬ (zc = (0 : Int32))) :
    own_Met l Z (⟨"com/example/weaverbird/weaverbird/automaton/TokenIsPinLaw", "str", "(ICC)Ljava/lang/String;"⟩ : MethodName) method_3_code 3 (some (.object "java/lang/String")) ws ({ frames := 4, cells := 3, slots := 6, locals := 66 } : Room) #[(.int (1 : Int32)), (.int c0), (.int c1)] h0 (fun v h L => ∃ r : Addr, ∃ rv : Addr, ∃ kr : ClassId, v = some (.ref r) ∧ Fr n0 L ∧ Keep h0 h [] ∧ h0.size ≤ r ∧ h0.size ≤ rv ∧ Exa Z h r "java/lang/String" ∧ Fld Z h r "java/lang/String" "coder" "B" (.int (0 : Int32)) ∧ Fld Z h r "java/lang/String" "value" "[B" (.ref rv) ∧ Arv Z h rv kr .byte (1 : Int32) [(.int (c0.toInt8.toInt32))] (.int (0 : Int32))) := by
  refine own_body (plainFor_of_name own_pn_com_example_weaverbird_weaverbird_automaton_TokenIsPinLaw) (fun p e s m below meth c s₁ hx hby hml0 hrt hlk hown0 hnm hZ X0 e0 => ?_)
  have N0 := Fr.nil n0
  have hown : s.vm.findClass "com/example/weaverbird/weaverbird/automaton/TokenIsPinLaw" = some m.cls := hown0
  have hml : c.maxLocals = 3 := hml0
  refine own_castG (own_ef5 m (1 : Int32) c0 c1) ?_
  refine own_step (fun t k => XS.iloadN X0.here hx rfl (hb hby own_method_3_0) rfl k) ?_
  show own_Goes _ _ _ _ s₁ (mkF m 1 #[.val (.int (1 : Int32)), .val (.int c0), .val (.int c1)] [(.int (1 : Int32))])
  refine own_step (fun t k => XS.ifYes X0.here hx rfl (pc0 := 1) (pc' := 15) rfl (hb hby own_method_3_1) rfl ((if0 _ _).trans (feq (show ¬ ((1 : Int32) = (0 : Int32)) from (by decide))).2) (by decide) (by decide) k) ?_
  refine own_step (fun t k => XS.iloadN X0.here hx rfl (hb hby own_method_3_15) rfl k) ?_
  refine own_step (fun t k => XS.iconst X0.here hx rfl (hb hby own_method_3_16) k) ?_
  show own_Goes _ _ _ _ s₁ (mkF m 17 #[.val (.int (1 : Int32)), .val (.int c0), .val (.int c1)] [(.int (1 : Int32)), (.int (1 : Int32))])
  refine own_step (fun t k => XS.icmpNo X0.here hx rfl (hb hby own_method_3_17) rfl (teq (show (1 : Int32) = (1 : Int32) from (by decide))).2 k) ?_
  show own_Goes _ _ _ _ s₁ (mkF m 20 #[.val (.int (1 : Int32)), .val (.int c0), .val (.int c1)] [])
  obtain ⟨T1, h1, X1, e1, E1, A1, D1, -, st1⟩ := newO X0 hx hZ hown (hw _ (List.mem_of_getElem? (i := 14) rfl)) (hw _ (List.mem_of_getElem? (i := 15) rfl)) (hw _ (List.mem_of_getElem? (i := 16) rfl)) e0 (g := (mkF m 20 #[.val (.int (1 : Int32)), .val (.int c0), .val (.int c1)] [])) rfl (hb hby own_method_3_20) (by decide) (by decide)
  obtain ⟨b1, g1⟩ : ∃ z, z = h0.size := ⟨_, rfl⟩
  rw [← g1] at A1 D1 st1
  refine own_step st1 ?_
  have g_b1 : n0 ≤ b1 := Nat.le_trans Z0 (Nat.le_of_eq g1.symm)
  have sz_b1 : h0.size ≤ b1 := Nat.le_trans (Keep.refl h0 []).1 (Nat.le_of_eq g1.symm)
  have K1 := (Keep.refl h0 []).ext E1
  have F_b1_value : Fld Z h1 b1 "java/lang/String" "value" "[B" .null := D1 (Or.inr (hw _ (List.mem_of_getElem? (i := 30) rfl))) (ty := (.array .byte)) (by decide)
  have F_b1_coder : Fld Z h1 b1 "java/lang/String" "coder" "B" (.int (0 : Int32)) := D1 (Or.inr (hw _ (List.mem_of_getElem? (i := 31) rfl))) (ty := .byte) (by decide)
  refine own_step (fun t k => XS.dup X1.here hx rfl (hb hby own_method_3_23) rfl rfl k) ?_
  refine own_step (fun t k => XS.iconst X1.here hx rfl (hb hby own_method_3_24) k) ?_
  show own_Goes _ _ _ _ T1 (mkF m 25 #[.val (.int (1 : Int32)), .val (.int c0), .val (.int c1)] [(.int (1 : Int32)), (.ref b1), (.ref b1)])
  obtain ⟨T2, h2, k2, X2, e2, E2, A2, st2⟩ := newP X1 hx hZ (hw _ (List.mem_of_getElem? (i := 17) rfl)) e1 (g := (mkF m 25 #[.val (.int (1 : Int32)), .val (.int c0), .val (.int c1)] [(.int (1 : Int32)), (.ref b1), (.ref b1)])) rfl (hb hby own_method_3_25) rfl (by decide) (cap := 1) (by decide) (by decide) (by decide) (by decide)
  obtain ⟨b2, g2⟩ : ∃ z, z = h1.size := ⟨_, rfl⟩
  rw [← g2] at A2 st2
  refine own_step st2 ?_
  have g_b2 : n0 ≤ b2 := Nat.le_trans (Nat.le_trans Z0 K1.1) (Nat.le_of_eq g2.symm)
  have sz_b2 : h0.size ≤ b2 := Nat.le_trans K1.1 (Nat.le_of_eq g2.symm)
  have ne_b1_b2 : b1 ≠ b2 := Nat.ne_of_lt (Nat.lt_of_lt_of_le A1.lt (Nat.le_of_eq g2.symm))
  have K2 := K1.ext E2
  have V_b2 : Arv Z h2 b2 k2 .char (1 : Int32) [(.int (0 : Int32))] (.int (0 : Int32)) := (Arv.new A2 (by decide)).pad (pad_rep [] (.int (0 : Int32)) 1)
  refine own_step (fun t k => XS.dup X2.here hx rfl (hb hby own_method_3_27) rfl rfl k) ?_
  refine own_step (fun t k => XS.iconst X2.here hx rfl (hb hby own_method_3_28) k) ?_
  refine own_step (fun t k => XS.iloadN X2.here hx rfl (hb hby own_method_3_29) rfl k) ?_
  show own_Goes _ _ _ _ T2 (mkF m 30 #[.val (.int (1 : Int32)), .val (.int c0), .val (.int c1)] [(.int c0), (.int (0 : Int32)), (.ref b2), (.ref b2), (.ref b1), (.ref b1)])
  obtain ⟨T3, h3, X3, e3, W3, V3, st3⟩ := own_castore X2 hx hZ e2 V_b2 (x := c0) c0 (own_narc hc0a hc0b) (j := (0 : Int32)) ⟨by decide, by decide⟩ 0 rfl (Nat.le_of_ble_eq_true rfl) (g := (mkF m 30 #[.val (.int (1 : Int32)), .val (.int c0), .val (.int c1)] [(.int c0), (.int (0 : Int32)), (.ref b2), (.ref b2), (.ref b1), (.ref b1)])) rfl rfl (hb hby own_method_3_30)
  refine own_step st3 ?_
  have K3 := K2.wr W3 (Or.inr sz_b2)
  have N3 := Fr.snoc X3 N0 g_b2
  have V3' : Arv Z h3 b2 k2 .char (1 : Int32) [(.int c0)] (.int (0 : Int32)) := V3
  show own_Goes _ _ _ _ T3 (mkF m 31 #[.val (.int (1 : Int32)), .val (.int c0), .val (.int c1)] [(.ref b2), (.ref b1), (.ref b1)])
  have A1_v4 := ((A1.ext E2).wr W3)
  have F_b1_value_v5 := ((F_b1_value.ext E2).other W3 (Or.inl ne_b1_b2))
  have F_b1_coder_v6 := ((F_b1_coder.ext E2).other W3 (Or.inl ne_b1_b2))
  have S_COMPACT_STRINGS_v7 := (((S_COMPACT_STRINGS.ext E1).ext E2).wr W3)
  refine own_callC X3 hx hZ (y := (⟨"java/lang/String", "<init>", "([C)V"⟩ : MethodName)) rfl hown (hw _ (List.mem_of_getElem? (i := 18) rfl)) (hw _ (List.mem_of_getElem? (i := 19) rfl)) (hw _ (List.mem_of_getElem? (i := 20) rfl)) (hw _ (List.mem_of_getElem? (i := 16) rfl)) (by decide) 1 (a := b1) [(.ref b2)] [(.ref b1)] (own_sinit_1 l Z a0 hw [] b1 b2 k2 c0 zc h3 n0 (Nat.le_trans Z0 K3.1) A1_v4 F_b1_value_v5 F_b1_coder_v6 V3' S_COMPACT_STRINGS_v7 hc0b hz g_b1) e3  (by decide) (by decide) (by decide) (by decide) (g := (mkF m 31 #[.val (.int (1 : Int32)), .val (.int c0), .val (.int c1)] [(.ref b2), (.ref b1), (.ref b1)])) rfl (by rw [hml]; rfl) own_pd2 rfl rfl (by show 2 * 0 + _ ≤ _; exact Nat.le_of_eq rfl) (hb hby own_method_3_31) ?_
  intro T8 v8 L8 X8 hQ8
  obtain ⟨b8_0, k8_0, rfl, N8q, Kq8, zq8_0, q8_0, q8_1, q8_2, q8_3⟩ := hQ8
  have N8 := Fr.app N3 N8q
  have K8 := K3.trans Kq8 (allS (Or.inr sz_b1) all0)
  have g_b8_0 : n0 ≤ b8_0 := Nat.le_trans (Nat.le_trans Z0 K3.1) zq8_0
  have sz_b8_0 : h0.size ≤ b8_0 := Nat.le_trans K3.1 zq8_0
  have ne_b1_b8_0 : b1 ≠ b8_0 := Nat.ne_of_lt (Nat.lt_of_lt_of_le A1_v4.lt zq8_0)
  have ne_b2_b8_0 : b2 ≠ b8_0 := Nat.ne_of_lt (Nat.lt_of_lt_of_le V3'.lt zq8_0)
  have q8_0' : Exa Z T8.heap b1 "java/lang/String" := q8_0
  have q8_1' : Fld Z T8.heap b1 "java/lang/String" "coder" "B" (.int (0 : Int32)) := q8_1
  have q8_2' : Fld Z T8.heap b1 "java/lang/String" "value" "[B" (.ref b8_0) := q8_2
  have q8_3' : Arv Z T8.heap b8_0 k8_0 .byte (1 : Int32) [(.int (c0.toInt8.toInt32))] (.int (0 : Int32)) := q8_3
  show own_Goes _ _ _ _ T8 (mkF m 34 #[.val (.int (1 : Int32)), .val (.int c0), .val (.int c1)] [(.ref b1)])
  exact own_retA X8 hx hlk hrt rfl rfl rfl (hb hby own_method_3_34) (by exact ⟨b1, b8_0, k8_0, rfl, N8, K8, sz_b1, sz_b8_0, q8_0', q8_1', q8_2', q8_3'⟩) (by decide) (by decide)
set_option maxRecDepth 65536 in
set_option maxHeartbeats 40000000 in
theorem own_comp5_2 (l : Launch) (Z : State) (a0 : Array Value) (hw : ∀ d ∈ tables_1, d.before a0 Z = true) (ws : List Jvm.Cond) (sr : Addr) (dr : Addr) (ks : ClassId) (kd : ClassId) (c0 : Int32) (c1 : Int32) (h0 : Heap) (n0 : Nat) (Z0 : n0 ≤ h0.size) (V_sr : Arv Z h0 sr ks .char (2 : Int32) [(.int c0), (.int c1)] (.int (0 : Int32))) (V_dr : Arv Z h0 dr kd .byte (2 : Int32) [(.int (0 : Int32)), (.int (0 : Int32))] (.int (0 : Int32))) (hc0 : ¬ ((255 : Int32) < c0)) (hc1 : ¬ ((255 : Int32) < c1)) (nesd : ¬ (sr = dr)) (g_dr : n0 ≤ dr) :
    own_Met l Z (⟨"java/lang/StringUTF16", "compress", "([CI[BII)I"⟩ : MethodName) jdk_52_method_21_code 7 (some .int) ws ({ frames := 0, cells := 0, slots := 0, locals := 0 } : Room) #[(.ref sr), (.int (0 : Int32)), (.ref dr), (.int (0 : Int32)), (.int (2 : Int32))] h0 (fun v h L => v = some (.int (2 : Int32)) ∧ Fr n0 L ∧ Keep h0 h [dr] ∧ Arv Z h dr kd .byte (2 : Int32) [(.int (c0.toInt8.toInt32)), (.int (c1.toInt8.toInt32))] (.int (0 : Int32))) := by
  refine own_body (plainFor_of_name own_pn_java_lang_StringUTF16) (fun p e s m below meth c s₁ hx hby hml0 hrt hlk hown0 hnm hZ X0 e0 => ?_)
  have N0 := Fr.nil n0
  have hown : s.vm.findClass "java/lang/StringUTF16" = some m.cls := hown0
  have hml : c.maxLocals = 7 := hml0
  refine own_castG (own_ef6 m sr (0 : Int32) dr (0 : Int32) (2 : Int32)) ?_
  refine own_step (fun t k => XS.iconst X0.here hx rfl (hb hby own_jdk_52_method_21_0) k) ?_
  refine own_step (fun t k => XS.istore X0.here hx rfl (hb hby own_jdk_52_method_21_1) rfl (l' := #[.val (.ref sr), .val (.int (0 : Int32)), .val (.ref dr), .val (.int (0 : Int32)), .val (.int (2 : Int32)), .val (.int (0 : Int32)), .unset]) rfl k) ?_
  refine own_step (fun t k => XS.iload X0.here hx rfl (hb hby own_jdk_52_method_21_3) rfl k) ?_
  refine own_step (fun t k => XS.iload X0.here hx rfl (hb hby own_jdk_52_method_21_5) rfl k) ?_
  show own_Goes _ _ _ _ s₁ (mkF m 7 #[.val (.ref sr), .val (.int (0 : Int32)), .val (.ref dr), .val (.int (0 : Int32)), .val (.int (2 : Int32)), .val (.int (0 : Int32)), .unset] [(.int (2 : Int32)), (.int (0 : Int32))])
  refine own_step (fun t k => XS.icmpNo X0.here hx rfl (hb hby own_jdk_52_method_21_7) rfl (tlt (show (0 : Int32) < (2 : Int32) from (by decide))).2.1 k) ?_
  refine own_step (fun t k => XS.aloadN X0.here hx rfl (hb hby own_jdk_52_method_21_10) rfl rfl k) ?_
  refine own_step (fun t k => XS.iloadN X0.here hx rfl (hb hby own_jdk_52_method_21_11) rfl k) ?_
  show own_Goes _ _ _ _ s₁ (mkF m 12 #[.val (.ref sr), .val (.int (0 : Int32)), .val (.ref dr), .val (.int (0 : Int32)), .val (.int (2 : Int32)), .val (.int (0 : Int32)), .unset] [(.int (0 : Int32)), (.ref sr)])
  refine own_step (own_caload X0 hx hZ e0 V_sr (.int c0) ⟨by decide, by decide⟩ rfl (g := (mkF m 12 #[.val (.ref sr), .val (.int (0 : Int32)), .val (.ref dr), .val (.int (0 : Int32)), .val (.int (2 : Int32)), .val (.int (0 : Int32)), .unset] [(.int (0 : Int32)), (.ref sr)])) rfl rfl (hb hby own_jdk_52_method_21_12)) ?_
  refine own_step (fun t k => XS.istore X0.here hx rfl (hb hby own_jdk_52_method_21_13) rfl (l' := #[.val (.ref sr), .val (.int (0 : Int32)), .val (.ref dr), .val (.int (0 : Int32)), .val (.int (2 : Int32)), .val (.int (0 : Int32)), .val (.int c0)]) rfl k) ?_
  refine own_step (fun t k => XS.iload X0.here hx rfl (hb hby own_jdk_52_method_21_15) rfl k) ?_
  refine own_step (fun t k => XS.sipush X0.here hx rfl (hb hby own_jdk_52_method_21_17) k) ?_
  show own_Goes _ _ _ _ s₁ (mkF m 20 #[.val (.ref sr), .val (.int (0 : Int32)), .val (.ref dr), .val (.int (0 : Int32)), .val (.int (2 : Int32)), .val (.int (0 : Int32)), .val (.int c0)] [(.int (255 : Int32)), (.int c0)])
  refine own_step (fun t k => XS.icmpYes X0.here hx rfl (pc0 := 20) (pc' := 26) rfl (hb hby own_jdk_52_method_21_20) rfl (flt (show ¬ ((255 : Int32) < c0) from hc0)).2.2.2 (by decide) (by decide) k) ?_
  refine own_step (fun t k => XS.aloadN X0.here hx rfl (hb hby own_jdk_52_method_21_26) rfl rfl k) ?_
  refine own_step (fun t k => XS.iloadN X0.here hx rfl (hb hby own_jdk_52_method_21_27) rfl k) ?_
  refine own_step (fun t k => XS.iload X0.here hx rfl (hb hby own_jdk_52_method_21_28) rfl k) ?_
  refine own_step (fun t k => XS.i2b X0.here hx rfl (hb hby own_jdk_52_method_21_30) rfl k) ?_
  show own_Goes _ _ _ _ s₁ (mkF m 31 #[.val (.ref sr), .val (.int (0 : Int32)), .val (.ref dr), .val (.int (0 : Int32)), .val (.int (2 : Int32)), .val (.int (0 : Int32)), .val (.int c0)] [(.int (c0.toInt8.toInt32)), (.int (0 : Int32)), (.ref dr)])
  obtain ⟨T1, h1, X1, e1, W1, V1, st1⟩ := own_bastore X0 hx hZ e0 V_dr (x := (c0.toInt8.toInt32)) (c0.toInt8.toInt32) (own_b8 _) (j := (0 : Int32)) ⟨by decide, by decide⟩ 0 rfl (Nat.le_of_ble_eq_true rfl) (g := (mkF m 31 #[.val (.ref sr), .val (.int (0 : Int32)), .val (.ref dr), .val (.int (0 : Int32)), .val (.int (2 : Int32)), .val (.int (0 : Int32)), .val (.int c0)] [(.int (c0.toInt8.toInt32)), (.int (0 : Int32)), (.ref dr)])) rfl rfl (hb hby own_jdk_52_method_21_31)
  refine own_step st1 ?_
  have K1 := (Keep.refl h0 [dr]).wr W1 (Or.inl (List.mem_of_getElem? (i := 0) rfl))
  have N1 := Fr.snoc X1 N0 g_dr
  have V1' : Arv Z h1 dr kd .byte (2 : Int32) [(.int (c0.toInt8.toInt32)), (.int (0 : Int32))] (.int (0 : Int32)) := V1
  show own_Goes _ _ _ _ T1 (mkF m 32 #[.val (.ref sr), .val (.int (0 : Int32)), .val (.ref dr), .val (.int (0 : Int32)), .val (.int (2 : Int32)), .val (.int (0 : Int32)), .val (.int c0)] [])
  refine own_step (fun t k => XS.iinc X1.here hx rfl (hb hby own_jdk_52_method_21_32) rfl (l' := #[.val (.ref sr), .val (.int (1 : Int32)), .val (.ref dr), .val (.int (0 : Int32)), .val (.int (2 : Int32)), .val (.int (0 : Int32)), .val (.int c0)]) rfl k) ?_
  show own_Goes _ _ _ _ T1 (mkF m 35 #[.val (.ref sr), .val (.int (1 : Int32)), .val (.ref dr), .val (.int (0 : Int32)), .val (.int (2 : Int32)), .val (.int (0 : Int32)), .val (.int c0)] [])
  refine own_step (fun t k => XS.iinc X1.here hx rfl (hb hby own_jdk_52_method_21_35) rfl (l' := #[.val (.ref sr), .val (.int (1 : Int32)), .val (.ref dr), .val (.int (1 : Int32)), .val (.int (2 : Int32)), .val (.int (0 : Int32)), .val (.int c0)]) rfl k) ?_
  show own_Goes _ _ _ _ T1 (mkF m 38 #[.val (.ref sr), .val (.int (1 : Int32)), .val (.ref dr), .val (.int (1 : Int32)), .val (.int (2 : Int32)), .val (.int (0 : Int32)), .val (.int c0)] [])
  refine own_step (fun t k => XS.iinc X1.here hx rfl (hb hby own_jdk_52_method_21_38) rfl (l' := #[.val (.ref sr), .val (.int (1 : Int32)), .val (.ref dr), .val (.int (1 : Int32)), .val (.int (2 : Int32)), .val (.int (1 : Int32)), .val (.int c0)]) rfl k) ?_
  refine own_step (fun t k => XS.goto X1.here hx rfl (pc0 := 41) (pc' := 3) rfl (hb hby own_jdk_52_method_21_41) (by decide) (by decide) k) ?_
  refine own_step (fun t k => XS.iload X1.here hx rfl (hb hby own_jdk_52_method_21_3) rfl k) ?_
  refine own_step (fun t k => XS.iload X1.here hx rfl (hb hby own_jdk_52_method_21_5) rfl k) ?_
  show own_Goes _ _ _ _ T1 (mkF m 7 #[.val (.ref sr), .val (.int (1 : Int32)), .val (.ref dr), .val (.int (1 : Int32)), .val (.int (2 : Int32)), .val (.int (1 : Int32)), .val (.int c0)] [(.int (2 : Int32)), (.int (1 : Int32))])
  refine own_step (fun t k => XS.icmpNo X1.here hx rfl (hb hby own_jdk_52_method_21_7) rfl (tlt (show (1 : Int32) < (2 : Int32) from (by decide))).2.1 k) ?_
  refine own_step (fun t k => XS.aloadN X1.here hx rfl (hb hby own_jdk_52_method_21_10) rfl rfl k) ?_
  refine own_step (fun t k => XS.iloadN X1.here hx rfl (hb hby own_jdk_52_method_21_11) rfl k) ?_
  show own_Goes _ _ _ _ T1 (mkF m 12 #[.val (.ref sr), .val (.int (1 : Int32)), .val (.ref dr), .val (.int (1 : Int32)), .val (.int (2 : Int32)), .val (.int (1 : Int32)), .val (.int c0)] [(.int (1 : Int32)), (.ref sr)])
  have V_sr_v2 := (V_sr.other W1 nesd)
  refine own_step (own_caload X1 hx hZ e1 V_sr_v2 (.int c1) ⟨by decide, by decide⟩ rfl (g := (mkF m 12 #[.val (.ref sr), .val (.int (1 : Int32)), .val (.ref dr), .val (.int (1 : Int32)), .val (.int (2 : Int32)), .val (.int (1 : Int32)), .val (.int c0)] [(.int (1 : Int32)), (.ref sr)])) rfl rfl (hb hby own_jdk_52_method_21_12)) ?_
  refine own_step (fun t k => XS.istore X1.here hx rfl (hb hby own_jdk_52_method_21_13) rfl (l' := #[.val (.ref sr), .val (.int (1 : Int32)), .val (.ref dr), .val (.int (1 : Int32)), .val (.int (2 : Int32)), .val (.int (1 : Int32)), .val (.int c1)]) rfl k) ?_
  refine own_step (fun t k => XS.iload X1.here hx rfl (hb hby own_jdk_52_method_21_15) rfl k) ?_
  refine own_step (fun t k => XS.sipush X1.here hx rfl (hb hby own_jdk_52_method_21_17) k) ?_
  show own_Goes _ _ _ _ T1 (mkF m 20 #[.val (.ref sr), .val (.int (1 : Int32)), .val (.ref dr), .val (.int (1 : Int32)), .val (.int (2 : Int32)), .val (.int (1 : Int32)), .val (.int c1)] [(.int (255 : Int32)), (.int c1)])
  refine own_step (fun t k => XS.icmpYes X1.here hx rfl (pc0 := 20) (pc' := 26) rfl (hb hby own_jdk_52_method_21_20) rfl (flt (show ¬ ((255 : Int32) < c1) from hc1)).2.2.2 (by decide) (by decide) k) ?_
  refine own_step (fun t k => XS.aloadN X1.here hx rfl (hb hby own_jdk_52_method_21_26) rfl rfl k) ?_
  refine own_step (fun t k => XS.iloadN X1.here hx rfl (hb hby own_jdk_52_method_21_27) rfl k) ?_
  refine own_step (fun t k => XS.iload X1.here hx rfl (hb hby own_jdk_52_method_21_28) rfl k) ?_
  refine own_step (fun t k => XS.i2b X1.here hx rfl (hb hby own_jdk_52_method_21_30) rfl k) ?_
  show own_Goes _ _ _ _ T1 (mkF m 31 #[.val (.ref sr), .val (.int (1 : Int32)), .val (.ref dr), .val (.int (1 : Int32)), .val (.int (2 : Int32)), .val (.int (1 : Int32)), .val (.int c1)] [(.int (c1.toInt8.toInt32)), (.int (1 : Int32)), (.ref dr)])
  obtain ⟨T3, h3, X3, e3, W3, V3, st3⟩ := own_bastore X1 hx hZ e1 V1' (x := (c1.toInt8.toInt32)) (c1.toInt8.toInt32) (own_b8 _) (j := (1 : Int32)) ⟨by decide, by decide⟩ 1 rfl (Nat.le_of_ble_eq_true rfl) (g := (mkF m 31 #[.val (.ref sr), .val (.int (1 : Int32)), .val (.ref dr), .val (.int (1 : Int32)), .val (.int (2 : Int32)), .val (.int (1 : Int32)), .val (.int c1)] [(.int (c1.toInt8.toInt32)), (.int (1 : Int32)), (.ref dr)])) rfl rfl (hb hby own_jdk_52_method_21_31)
  refine own_step st3 ?_
  have K3 := K1.wr W3 (Or.inl (List.mem_of_getElem? (i := 0) rfl))
  have N3 := Fr.snoc X3 N1 g_dr
  have V3' : Arv Z h3 dr kd .byte (2 : Int32) [(.int (c0.toInt8.toInt32)), (.int (c1.toInt8.toInt32))] (.int (0 : Int32)) := V3
  show own_Goes _ _ _ _ T3 (mkF m 32 #[.val (.ref sr), .val (.int (1 : Int32)), .val (.ref dr), .val (.int (1 : Int32)), .val (.int (2 : Int32)), .val (.int (1 : Int32)), .val (.int c1)] [])
  refine own_step (fun t k => XS.iinc X3.here hx rfl (hb hby own_jdk_52_method_21_32) rfl (l' := #[.val (.ref sr), .val (.int (2 : Int32)), .val (.ref dr), .val (.int (1 : Int32)), .val (.int (2 : Int32)), .val (.int (1 : Int32)), .val (.int c1)]) rfl k) ?_
  show own_Goes _ _ _ _ T3 (mkF m 35 #[.val (.ref sr), .val (.int (2 : Int32)), .val (.ref dr), .val (.int (1 : Int32)), .val (.int (2 : Int32)), .val (.int (1 : Int32)), .val (.int c1)] [])
  refine own_step (fun t k => XS.iinc X3.here hx rfl (hb hby own_jdk_52_method_21_35) rfl (l' := #[.val (.ref sr), .val (.int (2 : Int32)), .val (.ref dr), .val (.int (2 : Int32)), .val (.int (2 : Int32)), .val (.int (1 : Int32)), .val (.int c1)]) rfl k) ?_
  show own_Goes _ _ _ _ T3 (mkF m 38 #[.val (.ref sr), .val (.int (2 : Int32)), .val (.ref dr), .val (.int (2 : Int32)), .val (.int (2 : Int32)), .val (.int (1 : Int32)), .val (.int c1)] [])
  refine own_step (fun t k => XS.iinc X3.here hx rfl (hb hby own_jdk_52_method_21_38) rfl (l' := #[.val (.ref sr), .val (.int (2 : Int32)), .val (.ref dr), .val (.int (2 : Int32)), .val (.int (2 : Int32)), .val (.int (2 : Int32)), .val (.int c1)]) rfl k) ?_
  refine own_step (fun t k => XS.goto X3.here hx rfl (pc0 := 41) (pc' := 3) rfl (hb hby own_jdk_52_method_21_41) (by decide) (by decide) k) ?_
  refine own_step (fun t k => XS.iload X3.here hx rfl (hb hby own_jdk_52_method_21_3) rfl k) ?_
  refine own_step (fun t k => XS.iload X3.here hx rfl (hb hby own_jdk_52_method_21_5) rfl k) ?_
  show own_Goes _ _ _ _ T3 (mkF m 7 #[.val (.ref sr), .val (.int (2 : Int32)), .val (.ref dr), .val (.int (2 : Int32)), .val (.int (2 : Int32)), .val (.int (2 : Int32)), .val (.int c1)] [(.int (2 : Int32)), (.int (2 : Int32))])
  refine own_step (fun t k => XS.icmpYes X3.here hx rfl (pc0 := 7) (pc' := 44) rfl (hb hby own_jdk_52_method_21_7) rfl (flt (show ¬ ((2 : Int32) < (2 : Int32)) from (by decide))).2.1 (by decide) (by decide) k) ?_
  refine own_step (fun t k => XS.iload X3.here hx rfl (hb hby own_jdk_52_method_21_44) rfl k) ?_
  show own_Goes _ _ _ _ T3 (mkF m 46 #[.val (.ref sr), .val (.int (2 : Int32)), .val (.ref dr), .val (.int (2 : Int32)), .val (.int (2 : Int32)), .val (.int (2 : Int32)), .val (.int c1)] [(.int (2 : Int32))])
  exact own_retI X3 hx hlk hrt (hb hby own_jdk_52_method_21_46) (by rw [e3]; exact ⟨rfl, N3, K3, V3'⟩) (by decide) (by decide)
set_option maxRecDepth 65536 in
set_option maxHeartbeats 40000000 in
theorem own_comp3_2 (l : Launch) (Z : State) (a0 : Array Value) (hw : ∀ d ∈ tables_1, d.before a0 Z = true) (ws : List Jvm.Cond) (sr : Addr) (ks : ClassId) (c0 : Int32) (c1 : Int32) (h0 : Heap) (n0 : Nat) (Z0 : n0 ≤ h0.size) (V_sr : Arv Z h0 sr ks .char (2 : Int32) [(.int c0), (.int c1)] (.int (0 : Int32))) (hc0 : ¬ ((255 : Int32) < c0)) (hc1 : ¬ ((255 : Int32) < c1)) :
    own_Met l Z (⟨"java/lang/StringUTF16", "compress", "([CII)[B"⟩ : MethodName) jdk_52_method_16_code 6 (some (.array .byte)) ws ({ frames := 1, cells := 1, slots := 2, locals := 18 } : Room) #[(.ref sr), (.int (0 : Int32)), (.int (2 : Int32))] h0 (fun v h L => ∃ r : Addr, ∃ kr : ClassId, v = some (.ref r) ∧ Fr n0 L ∧ Keep h0 h [] ∧ h0.size ≤ r ∧ Arv Z h r kr .byte (2 : Int32) [(.int (c0.toInt8.toInt32)), (.int (c1.toInt8.toInt32))] (.int (0 : Int32))) := by
  refine own_body (plainFor_of_name own_pn_java_lang_StringUTF16) (fun p e s m below meth c s₁ hx hby hml0 hrt hlk hown0 hnm hZ X0 e0 => ?_)
  have N0 := Fr.nil n0
  have hown : s.vm.findClass "java/lang/StringUTF16" = some m.cls := hown0
  have hml : c.maxLocals = 6 := hml0
  refine own_castG (own_ef7 m sr (0 : Int32) (2 : Int32)) ?_
  refine own_step (fun t k => XS.iloadN X0.here hx rfl (hb hby own_jdk_52_method_16_0) rfl k) ?_
  show own_Goes _ _ _ _ s₁ (mkF m 1 #[.val (.ref sr), .val (.int (0 : Int32)), .val (.int (2 : Int32)), .unset, .unset, .unset] [(.int (2 : Int32))])
  obtain ⟨T1, h1, k1, X1, e1, E1, A1, st1⟩ := newP X0 hx hZ (hw _ (List.mem_of_getElem? (i := 29) rfl)) e0 (g := (mkF m 1 #[.val (.ref sr), .val (.int (0 : Int32)), .val (.int (2 : Int32)), .unset, .unset, .unset] [(.int (2 : Int32))])) rfl (hb hby own_jdk_52_method_16_1) rfl (by decide) (cap := 2) (by decide) (by decide) (by decide) (by decide)
  obtain ⟨b1, g1⟩ : ∃ z, z = h0.size := ⟨_, rfl⟩
  rw [← g1] at A1 st1
  refine own_step st1 ?_
  have g_b1 : n0 ≤ b1 := Nat.le_trans Z0 (Nat.le_of_eq g1.symm)
  have sz_b1 : h0.size ≤ b1 := Nat.le_trans (Keep.refl h0 []).1 (Nat.le_of_eq g1.symm)
  have ne_sr_b1 : sr ≠ b1 := Nat.ne_of_lt (Nat.lt_of_lt_of_le V_sr.lt (Nat.le_of_eq g1.symm))
  have K1 := (Keep.refl h0 []).ext E1
  have V_b1 : Arv Z h1 b1 k1 .byte (2 : Int32) [(.int (0 : Int32)), (.int (0 : Int32))] (.int (0 : Int32)) := (Arv.new A1 (by decide)).pad (pad_rep [] (.int (0 : Int32)) 2)
  refine own_step (fun t k => XS.astoreN X1.here hx rfl (hb hby own_jdk_52_method_16_3) rfl rfl (l' := #[.val (.ref sr), .val (.int (0 : Int32)), .val (.int (2 : Int32)), .val (.ref b1), .unset, .unset]) rfl k) ?_
  refine own_step (fun t k => XS.aloadN X1.here hx rfl (hb hby own_jdk_52_method_16_4) rfl rfl k) ?_
  refine own_step (fun t k => XS.iloadN X1.here hx rfl (hb hby own_jdk_52_method_16_5) rfl k) ?_
  refine own_step (fun t k => XS.aloadN X1.here hx rfl (hb hby own_jdk_52_method_16_6) rfl rfl k) ?_
  show own_Goes _ _ _ _ T1 (mkF m 7 #[.val (.ref sr), .val (.int (0 : Int32)), .val (.int (2 : Int32)), .val (.ref b1), .unset, .unset] [(.ref b1), (.int (0 : Int32)), (.ref sr)])
  refine own_step (fun t k => XS.iconst X1.here hx rfl (hb hby own_jdk_52_method_16_7) k) ?_
  refine own_step (fun t k => XS.iloadN X1.here hx rfl (hb hby own_jdk_52_method_16_8) rfl k) ?_
  show own_Goes _ _ _ _ T1 (mkF m 9 #[.val (.ref sr), .val (.int (0 : Int32)), .val (.int (2 : Int32)), .val (.ref b1), .unset, .unset] [(.int (2 : Int32)), (.int (0 : Int32)), (.ref b1), (.int (0 : Int32)), (.ref sr)])
  have V_sr_v2 := (V_sr.ext E1)
  refine own_callS X1 hx hZ (y := (⟨"java/lang/StringUTF16", "compress", "([CI[BII)I"⟩ : MethodName)) hown (hw _ (List.mem_of_getElem? (i := 65) rfl)) (hw _ (List.mem_of_getElem? (i := 66) rfl)) (hw _ (List.mem_of_getElem? (i := 63) rfl)) (hw _ (List.mem_of_getElem? (i := 67) rfl)) (by decide) 0 [(.ref sr), (.int (0 : Int32)), (.ref b1), (.int (0 : Int32)), (.int (2 : Int32))] [] (own_comp5_2 l Z a0 hw [] sr b1 ks k1 c0 c1 h1 n0 (Nat.le_trans Z0 K1.1) V_sr_v2 V_b1 hc0 hc1 ne_sr_b1 g_b1) e1  (by decide) (by decide) (by decide) (by decide) (g := (mkF m 9 #[.val (.ref sr), .val (.int (0 : Int32)), .val (.int (2 : Int32)), .val (.ref b1), .unset, .unset] [(.int (2 : Int32)), (.int (0 : Int32)), (.ref b1), (.int (0 : Int32)), (.ref sr)])) rfl (by rw [hml]; rfl) own_pd3 rfl rfl (by show 2 * 0 + _ ≤ _; exact Nat.le_of_eq rfl) (hb hby own_jdk_52_method_16_9) ?_
  intro T3 v3 L3 X3 hQ3
  obtain ⟨rfl, N3q, Kq3, q3_0⟩ := hQ3
  have N3 := Fr.app N0 N3q
  have K3 := K1.trans Kq3 (allS (Or.inr sz_b1) all0)
  have q3_0' : Arv Z T3.heap b1 k1 .byte (2 : Int32) [(.int (c0.toInt8.toInt32)), (.int (c1.toInt8.toInt32))] (.int (0 : Int32)) := q3_0
  refine own_step (fun t k => XS.istore X3.here hx rfl (hb hby own_jdk_52_method_16_12) rfl (l' := #[.val (.ref sr), .val (.int (0 : Int32)), .val (.int (2 : Int32)), .val (.ref b1), .val (.int (2 : Int32)), .unset]) rfl k) ?_
  refine own_step (fun t k => XS.iload X3.here hx rfl (hb hby own_jdk_52_method_16_14) rfl k) ?_
  refine own_step (fun t k => XS.iloadN X3.here hx rfl (hb hby own_jdk_52_method_16_16) rfl k) ?_
  show own_Goes _ _ _ _ T3 (mkF m 17 #[.val (.ref sr), .val (.int (0 : Int32)), .val (.int (2 : Int32)), .val (.ref b1), .val (.int (2 : Int32)), .unset] [(.int (2 : Int32)), (.int (2 : Int32))])
  refine own_step (fun t k => XS.icmpYes X3.here hx rfl (pc0 := 17) (pc' := 57) rfl (hb hby own_jdk_52_method_16_17) rfl (teq (show (2 : Int32) = (2 : Int32) from (by decide))).1 (by decide) (by decide) k) ?_
  refine own_step (fun t k => XS.aloadN X3.here hx rfl (hb hby own_jdk_52_method_16_57) rfl rfl k) ?_
  show own_Goes _ _ _ _ T3 (mkF m 58 #[.val (.ref sr), .val (.int (0 : Int32)), .val (.int (2 : Int32)), .val (.ref b1), .val (.int (2 : Int32)), .unset] [(.ref b1)])
  exact own_retA X3 hx hlk hrt rfl rfl rfl (hb hby own_jdk_52_method_16_58) (by exact ⟨b1, k1, rfl, N3, K3, sz_b1, q3_0'⟩) (by decide) (by decide)
set_option maxRecDepth 65536 in
set_option maxHeartbeats 40000000 in
theorem own_coder_2 (l : Launch) (Z : State) (a0 : Array Value) (hw : ∀ d ∈ tables_1, d.before a0 Z = true) (ws : List Jvm.Cond) (dr : Addr) (kd : ClassId) (x0 : Int32) (x1 : Int32) (h0 : Heap) (n0 : Nat) (Z0 : n0 ≤ h0.size) (V_dr : Arv Z h0 dr kd .byte (2 : Int32) [(.int x0), (.int x1)] (.int (0 : Int32))) :
    own_Met l Z (⟨"java/lang/StringUTF16", "coderFromArrayLen", "([BI)B"⟩ : MethodName) jdk_52_method_15_code 2 (some .byte) ws ({ frames := 0, cells := 0, slots := 0, locals := 0 } : Room) #[(.ref dr), (.int (2 : Int32))] h0 (fun v h L => v = some (.int (0 : Int32)) ∧ Fr n0 L ∧ h = h0) := by
  refine own_body (plainFor_of_name own_pn_java_lang_StringUTF16) (fun p e s m below meth c s₁ hx hby hml0 hrt hlk hown0 hnm hZ X0 e0 => ?_)
  have N0 := Fr.nil n0
  have hown : s.vm.findClass "java/lang/StringUTF16" = some m.cls := hown0
  have hml : c.maxLocals = 2 := hml0
  refine own_castG (own_ef8 m dr (2 : Int32)) ?_
  refine own_step (fun t k => XS.iloadN X0.here hx rfl (hb hby own_jdk_52_method_15_0) rfl k) ?_
  refine own_step (fun t k => XS.aloadN X0.here hx rfl (hb hby own_jdk_52_method_15_1) rfl rfl k) ?_
  show own_Goes _ _ _ _ s₁ (mkF m 2 #[.val (.ref dr), .val (.int (2 : Int32))] [(.ref dr), (.int (2 : Int32))])
  refine own_step (own_alen X0 hx hZ e0 V_dr (g := (mkF m 2 #[.val (.ref dr), .val (.int (2 : Int32))] [(.ref dr), (.int (2 : Int32))])) rfl rfl (hb hby own_jdk_52_method_15_2)) ?_
  refine own_step (fun t k => XS.isub X0.here hx rfl (hb hby own_jdk_52_method_15_3) rfl k) ?_
  refine own_step (fun t k => XS.bipush X0.here hx rfl (hb hby own_jdk_52_method_15_4) k) ?_
  refine own_step (fun t k => XS.iushr X0.here hx rfl (hb hby own_jdk_52_method_15_6) rfl k) ?_
  refine own_step (fun t k => XS.i2b X0.here hx rfl (hb hby own_jdk_52_method_15_7) rfl k) ?_
  show own_Goes _ _ _ _ s₁ (mkF m 8 #[.val (.ref dr), .val (.int (2 : Int32))] [(.int (0 : Int32))])
  exact own_retN X0 hx hlk (t := .byte) hrt (by simp) (hb hby own_jdk_52_method_15_8) ⟨rfl, N0, e0⟩ (by decide) (by decide)
set_option maxRecDepth 65536 in
set_option maxHeartbeats 40000000 in
theorem own_sinit4_2 (l : Launch) (Z : State) (a0 : Array Value) (hw : ∀ d ∈ tables_1, d.before a0 Z = true) (ws : List Jvm.Cond) (a : Addr) (sr : Addr) (ks : ClassId) (c0 : Int32) (c1 : Int32) (zc : Int32) (h0 : Heap) (n0 : Nat) (Z0 : n0 ≤ h0.size) (E_a : Exa Z h0 a "java/lang/String") (F_a_value : Fld Z h0 a "java/lang/String" "value" "[B" .null) (F_a_coder : Fld Z h0 a "java/lang/String" "coder" "B" (.int (0 : Int32))) (V_sr : Arv Z h0 sr ks .char (2 : Int32) [(.int c0), (.int c1)] (.int (0 : Int32))) (S_COMPACT_STRINGS : Sta Z h0 "java/lang/String" "COMPACT_STRINGS" "Z" (.int zc)) (hc0 : ¬ ((255 : Int32) < c0)) (hc1 : ¬ ((255 : Int32) < c1)) (hz : ¬ (zc = (0 : Int32))) (g_a : n0 ≤ a) :
    own_Met l Z (⟨"java/lang/String", "<init>", "([CIILjava/lang/Void;)V"⟩ : MethodName) jdk_42_method_149_code 6 none ws ({ frames := 2, cells := 1, slots := 2, locals := 35 } : Room) #[(.ref a), (.ref sr), (.int (0 : Int32)), (.int (2 : Int32)), .null] h0 (fun v h L => ∃ r : Addr, ∃ kr : ClassId, v = none ∧ Fr n0 L ∧ Keep h0 h [a] ∧ h0.size ≤ r ∧ Exa Z h a "java/lang/String" ∧ Fld Z h a "java/lang/String" "coder" "B" (.int (0 : Int32)) ∧ Fld Z h a "java/lang/String" "value" "[B" (.ref r) ∧ Arv Z h r kr .byte (2 : Int32) [(.int (c0.toInt8.toInt32)), (.int (c1.toInt8.toInt32))] (.int (0 : Int32))) := by
  refine own_body (plainFor_of_name own_pn_java_lang_String) (fun p e s m below meth c s₁ hx hby hml0 hrt hlk hown0 hnm hZ X0 e0 => ?_)
  have N0 := Fr.nil n0
  have hown : s.vm.findClass "java/lang/String" = some m.cls := hown0
  have hml : c.maxLocals = 6 := hml0
  refine own_castG (own_ef3 m a sr (0 : Int32) (2 : Int32)) ?_
  refine own_step (fun t k => XS.aloadN X0.here hx rfl (hb hby own_jdk_42_method_149_0) rfl rfl k) ?_
  show own_Goes _ _ _ _ s₁ (mkF m 1 #[.val (.ref a), .val (.ref sr), .val (.int (0 : Int32)), .val (.int (2 : Int32)), .val .null, .unset] [(.ref a)])
  obtain ⟨T1, X1, e1, st1⟩ := initO X0 hx hZ hown (hw _ (List.mem_of_getElem? (i := 25) rfl)) (hw _ (List.mem_of_getElem? (i := 26) rfl)) (hw _ (List.mem_of_getElem? (i := 27) rfl)) e0 (g := (mkF m 1 #[.val (.ref a), .val (.ref sr), .val (.int (0 : Int32)), .val (.int (2 : Int32)), .val .null, .unset] [(.ref a)])) rfl (by rw [hml]; rfl) rfl (hb hby own_jdk_42_method_149_1) (by decide) (W := 0) (by show 2 * 0 + _ ≤ _; exact Nat.le_of_eq rfl) (by decide)
  refine own_step st1 ?_
  refine own_step (fun t k => XS.iloadN X1.here hx rfl (hb hby own_jdk_42_method_149_4) rfl k) ?_
  show own_Goes _ _ _ _ T1 (mkF m 5 #[.val (.ref a), .val (.ref sr), .val (.int (0 : Int32)), .val (.int (2 : Int32)), .val .null, .unset] [(.int (2 : Int32))])
  refine own_step (fun t k => XS.ifYes X1.here hx rfl (pc0 := 5) (pc' := 27) rfl (hb hby own_jdk_42_method_149_5) rfl ((if0 _ _).trans (feq (show ¬ ((2 : Int32) = (0 : Int32)) from (by decide))).2) (by decide) (by decide) k) ?_
  show own_Goes _ _ _ _ T1 (mkF m 27 #[.val (.ref a), .val (.ref sr), .val (.int (0 : Int32)), .val (.int (2 : Int32)), .val .null, .unset] [])
  obtain ⟨T2, X2, e2, st2⟩ := getS2 X1 hx hZ hown (host := "") (Or.inl (hw _ (List.mem_of_getElem? (i := 60) rfl))) Via.refl e1 S_COMPACT_STRINGS (g := (mkF m 27 #[.val (.ref a), .val (.ref sr), .val (.int (0 : Int32)), .val (.int (2 : Int32)), .val .null, .unset] [])) rfl (hb hby own_jdk_42_method_149_27)
  refine own_step st2 ?_
  show own_Goes _ _ _ _ T2 (mkF m 30 #[.val (.ref a), .val (.ref sr), .val (.int (0 : Int32)), .val (.int (2 : Int32)), .val .null, .unset] [(.int zc)])
  refine own_step (fun t k => XS.ifNo X2.here hx rfl (hb hby own_jdk_42_method_149_30) rfl ((if0 _ _).trans (feq (show ¬ (zc = (0 : Int32)) from hz)).1) k) ?_
  refine own_step (fun t k => XS.aloadN X2.here hx rfl (hb hby own_jdk_42_method_149_33) rfl rfl k) ?_
  refine own_step (fun t k => XS.iloadN X2.here hx rfl (hb hby own_jdk_42_method_149_34) rfl k) ?_
  refine own_step (fun t k => XS.iloadN X2.here hx rfl (hb hby own_jdk_42_method_149_35) rfl k) ?_
  show own_Goes _ _ _ _ T2 (mkF m 36 #[.val (.ref a), .val (.ref sr), .val (.int (0 : Int32)), .val (.int (2 : Int32)), .val .null, .unset] [(.int (2 : Int32)), (.int (0 : Int32)), (.ref sr)])
  refine own_callS X2 hx hZ (y := (⟨"java/lang/StringUTF16", "compress", "([CII)[B"⟩ : MethodName)) hown (hw _ (List.mem_of_getElem? (i := 61) rfl)) (hw _ (List.mem_of_getElem? (i := 62) rfl)) (hw _ (List.mem_of_getElem? (i := 63) rfl)) (hw _ (List.mem_of_getElem? (i := 64) rfl)) (by decide) 0 [(.ref sr), (.int (0 : Int32)), (.int (2 : Int32))] [] (own_comp3_2 l Z a0 hw [] sr ks c0 c1 h0 n0 Z0 V_sr hc0 hc1) e2  (by decide) (by decide) (by decide) (by decide) (g := (mkF m 36 #[.val (.ref a), .val (.ref sr), .val (.int (0 : Int32)), .val (.int (2 : Int32)), .val .null, .unset] [(.int (2 : Int32)), (.int (0 : Int32)), (.ref sr)])) rfl (by rw [hml]; rfl) own_pd4 rfl rfl (by show 2 * 0 + _ ≤ _; exact Nat.le_of_eq rfl) (hb hby own_jdk_42_method_149_36) ?_
  intro T3 v3 L3 X3 hQ3
  obtain ⟨b3_0, k3_0, rfl, N3q, Kq3, zq3_0, q3_0⟩ := hQ3
  have N3 := Fr.app N0 N3q
  have K3 := (Keep.refl h0 [a]).trans Kq3 all0
  have g_b3_0 : n0 ≤ b3_0 := Nat.le_trans Z0 zq3_0
  have sz_b3_0 : h0.size ≤ b3_0 := Nat.le_trans (Keep.refl h0 [a]).1 zq3_0
  have ne_a_b3_0 : a ≠ b3_0 := Nat.ne_of_lt (Nat.lt_of_lt_of_le E_a.lt zq3_0)
  have ne_sr_b3_0 : sr ≠ b3_0 := Nat.ne_of_lt (Nat.lt_of_lt_of_le V_sr.lt zq3_0)
  have q3_0' : Arv Z T3.heap b3_0 k3_0 .byte (2 : Int32) [(.int (c0.toInt8.toInt32)), (.int (c1.toInt8.toInt32))] (.int (0 : Int32)) := q3_0
  refine own_step (fun t k => XS.astore X3.here hx rfl (hb hby own_jdk_42_method_149_39) rfl rfl (l' := #[.val (.ref a), .val (.ref sr), .val (.int (0 : Int32)), .val (.int (2 : Int32)), .val .null, .val (.ref b3_0)]) rfl k) ?_
  refine own_step (fun t k => XS.aloadN X3.here hx rfl (hb hby own_jdk_42_method_149_41) rfl rfl k) ?_
  refine own_step (fun t k => XS.aload X3.here hx rfl (hb hby own_jdk_42_method_149_42) rfl rfl k) ?_
  refine own_step (fun t k => XS.iloadN X3.here hx rfl (hb hby own_jdk_42_method_149_44) rfl k) ?_
  show own_Goes _ _ _ _ T3 (mkF m 45 #[.val (.ref a), .val (.ref sr), .val (.int (0 : Int32)), .val (.int (2 : Int32)), .val .null, .val (.ref b3_0)] [(.int (2 : Int32)), (.ref b3_0), (.ref a)])
  refine own_callS X3 hx hZ (y := (⟨"java/lang/StringUTF16", "coderFromArrayLen", "([BI)B"⟩ : MethodName)) hown (hw _ (List.mem_of_getElem? (i := 68) rfl)) (hw _ (List.mem_of_getElem? (i := 69) rfl)) (hw _ (List.mem_of_getElem? (i := 63) rfl)) (hw _ (List.mem_of_getElem? (i := 70) rfl)) (by decide) 1 [(.ref b3_0), (.int (2 : Int32))] [(.ref a)] (own_coder_2 l Z a0 hw [] b3_0 k3_0 (c0.toInt8.toInt32) (c1.toInt8.toInt32) T3.heap n0 (Nat.le_trans Z0 K3.1) q3_0') rfl  (by decide) (by decide) (by decide) (by decide) (g := (mkF m 45 #[.val (.ref a), .val (.ref sr), .val (.int (0 : Int32)), .val (.int (2 : Int32)), .val .null, .val (.ref b3_0)] [(.int (2 : Int32)), (.ref b3_0), (.ref a)])) rfl (by rw [hml]; rfl) own_pd5 rfl rfl (by show 2 * 0 + _ ≤ _; exact Nat.le_of_eq rfl) (hb hby own_jdk_42_method_149_45) ?_
  intro T4 v4 L4 X4 hQ4
  obtain ⟨rfl, N4q, e4⟩ := hQ4
  have N4 := Fr.app N3 N4q
  show own_Goes _ _ _ _ T4 (mkF m 48 #[.val (.ref a), .val (.ref sr), .val (.int (0 : Int32)), .val (.int (2 : Int32)), .val .null, .val (.ref b3_0)] [(.int (0 : Int32)), (.ref a)])
  have E_a_v6 := (E_a.keep Kq3)
  have F_a_coder_v7 := (F_a_coder.keep Kq3 nin0)
  obtain ⟨T5, h5, X5, e5, W5, st5⟩ := putFN X4 hx hZ hown (hw _ (List.mem_of_getElem? (i := 35) rfl)) Via.refl e4 F_a_coder_v7 E_a_v6 (Or.inr ⟨(hw _ (List.mem_of_getElem? (i := 31) rfl)), rfl, hnm⟩) (hw _ (List.mem_of_getElem? (i := 15) rfl)) (ty := .byte) (v' := (.int (0 : Int32))) (by decide) rfl rfl (g := (mkF m 48 #[.val (.ref a), .val (.ref sr), .val (.int (0 : Int32)), .val (.int (2 : Int32)), .val .null, .val (.ref b3_0)] [(.int (0 : Int32)), (.ref a)])) rfl rfl (hb hby own_jdk_42_method_149_48)
  refine own_step st5 ?_
  have F5 := F_a_coder_v7.same W5
  have K5 := K3.wr W5 (Or.inl (List.mem_of_getElem? (i := 0) rfl))
  have N5 := Fr.snoc X5 N4 g_a
  refine own_step (fun t k => XS.aloadN X5.here hx rfl (hb hby own_jdk_42_method_149_51) rfl rfl k) ?_
  refine own_step (fun t k => XS.aload X5.here hx rfl (hb hby own_jdk_42_method_149_52) rfl rfl k) ?_
  show own_Goes _ _ _ _ T5 (mkF m 54 #[.val (.ref a), .val (.ref sr), .val (.int (0 : Int32)), .val (.int (2 : Int32)), .val .null, .val (.ref b3_0)] [(.ref b3_0), (.ref a)])
  have E_a_v9 := (E_a_v6.wr W5)
  have F_a_value_v10 := ((F_a_value.keep Kq3 nin0).other W5 (Or.inr (slot_ne (Or.inr (hw _ (List.mem_of_getElem? (i := 30) rfl))) (Or.inr (hw _ (List.mem_of_getElem? (i := 31) rfl))) (by decide) (t := (.array .byte)) (t' := .byte) (by decide) (by decide))))
  obtain ⟨T8, h8, X8, e8, W8, st8⟩ := putF X5 hx hZ hown (host := "") (Or.inl (hw _ (List.mem_of_getElem? (i := 34) rfl))) Via.refl e5 F_a_value_v10 E_a_v9 (Or.inr ⟨(hw _ (List.mem_of_getElem? (i := 30) rfl)), rfl, hnm⟩) (hw _ (List.mem_of_getElem? (i := 15) rfl)) (ty := (.array .byte)) (by decide) rfl rfl (g := (mkF m 54 #[.val (.ref a), .val (.ref sr), .val (.int (0 : Int32)), .val (.int (2 : Int32)), .val .null, .val (.ref b3_0)] [(.ref b3_0), (.ref a)])) rfl rfl (hb hby own_jdk_42_method_149_54)
  refine own_step st8 ?_
  have F8 := F_a_value_v10.same W8
  have K8 := K5.wr W8 (Or.inl (List.mem_of_getElem? (i := 0) rfl))
  have N8 := Fr.snoc X8 N5 g_a
  show own_Goes _ _ _ _ T8 (mkF m 57 #[.val (.ref a), .val (.ref sr), .val (.int (0 : Int32)), .val (.int (2 : Int32)), .val .null, .val (.ref b3_0)] [])
  have E_a_v11 := (E_a_v9.wr W8)
  have F5_v12 := (F5.other W8 (Or.inr (slot_ne (Or.inr (hw _ (List.mem_of_getElem? (i := 31) rfl))) (Or.inr (hw _ (List.mem_of_getElem? (i := 30) rfl))) (by decide) (t := .byte) (t' := (.array .byte)) (by decide) (by decide))))
  have q3_0'_v13 := ((q3_0'.other W5 (Ne.symm ne_a_b3_0)).other W8 (Ne.symm ne_a_b3_0))
  exact own_retV X8 hx hlk hrt (hb hby own_jdk_42_method_149_57) (by rw [e8]; exact ⟨b3_0, k3_0, rfl, N8, K8, sz_b3_0, E_a_v11, F5_v12, F8, q3_0'_v13⟩) (by decide) (by decide)
set_option maxRecDepth 65536 in
set_option maxHeartbeats 40000000 in
theorem own_sinit_2 (l : Launch) (Z : State) (a0 : Array Value) (hw : ∀ d ∈ tables_1, d.before a0 Z = true) (ws : List Jvm.Cond) (a : Addr) (sr : Addr) (ks : ClassId) (c0 : Int32) (c1 : Int32) (zc : Int32) (h0 : Heap) (n0 : Nat) (Z0 : n0 ≤ h0.size) (E_a : Exa Z h0 a "java/lang/String") (F_a_value : Fld Z h0 a "java/lang/String" "value" "[B" .null) (F_a_coder : Fld Z h0 a "java/lang/String" "coder" "B" (.int (0 : Int32))) (V_sr : Arv Z h0 sr ks .char (2 : Int32) [(.int c0), (.int c1)] (.int (0 : Int32))) (S_COMPACT_STRINGS : Sta Z h0 "java/lang/String" "COMPACT_STRINGS" "Z" (.int zc)) (hc0 : ¬ ((255 : Int32) < c0)) (hc1 : ¬ ((255 : Int32) < c1)) (hz : ¬ (zc = (0 : Int32))) (g_a : n0 ≤ a) :
    own_Met l Z (⟨"java/lang/String", "<init>", "([C)V"⟩ : MethodName) jdk_42_method_3_code 2 none ws ({ frames := 3, cells := 1, slots := 2, locals := 52 } : Room) #[(.ref a), (.ref sr)] h0 (fun v h L => ∃ r : Addr, ∃ kr : ClassId, v = none ∧ Fr n0 L ∧ Keep h0 h [a] ∧ h0.size ≤ r ∧ Exa Z h a "java/lang/String" ∧ Fld Z h a "java/lang/String" "coder" "B" (.int (0 : Int32)) ∧ Fld Z h a "java/lang/String" "value" "[B" (.ref r) ∧ Arv Z h r kr .byte (2 : Int32) [(.int (c0.toInt8.toInt32)), (.int (c1.toInt8.toInt32))] (.int (0 : Int32))) := by
  refine own_body (plainFor_of_name own_pn_java_lang_String) (fun p e s m below meth c s₁ hx hby hml0 hrt hlk hown0 hnm hZ X0 e0 => ?_)
  have N0 := Fr.nil n0
  have hown : s.vm.findClass "java/lang/String" = some m.cls := hown0
  have hml : c.maxLocals = 2 := hml0
  refine own_castG (own_ef4 m a sr) ?_
  refine own_step (fun t k => XS.aloadN X0.here hx rfl (hb hby own_jdk_42_method_3_0) rfl rfl k) ?_
  refine own_step (fun t k => XS.aloadN X0.here hx rfl (hb hby own_jdk_42_method_3_1) rfl rfl k) ?_
  refine own_step (fun t k => XS.iconst X0.here hx rfl (hb hby own_jdk_42_method_3_2) k) ?_
  refine own_step (fun t k => XS.aloadN X0.here hx rfl (hb hby own_jdk_42_method_3_3) rfl rfl k) ?_
  show own_Goes _ _ _ _ s₁ (mkF m 4 #[.val (.ref a), .val (.ref sr)] [(.ref sr), (.int (0 : Int32)), (.ref sr), (.ref a)])
  refine own_step (own_alen X0 hx hZ e0 V_sr (g := (mkF m 4 #[.val (.ref a), .val (.ref sr)] [(.ref sr), (.int (0 : Int32)), (.ref sr), (.ref a)])) rfl rfl (hb hby own_jdk_42_method_3_4)) ?_
  refine own_step (fun t k => XS.aconstNull X0.here hx rfl (hb hby own_jdk_42_method_3_5) k) ?_
  show own_Goes _ _ _ _ s₁ (mkF m 6 #[.val (.ref a), .val (.ref sr)] [.null, (.int (2 : Int32)), (.int (0 : Int32)), (.ref sr), (.ref a)])
  refine own_callC X0 hx hZ (y := (⟨"java/lang/String", "<init>", "([CIILjava/lang/Void;)V"⟩ : MethodName)) rfl hown (hw _ (List.mem_of_getElem? (i := 21) rfl)) (hw _ (List.mem_of_getElem? (i := 22) rfl)) (hw _ (List.mem_of_getElem? (i := 24) rfl)) (hw _ (List.mem_of_getElem? (i := 16) rfl)) (by decide) 0 (a := a) [(.ref sr), (.int (0 : Int32)), (.int (2 : Int32)), .null] [] (own_sinit4_2 l Z a0 hw [] a sr ks c0 c1 zc h0 n0 Z0 E_a F_a_value F_a_coder V_sr S_COMPACT_STRINGS hc0 hc1 hz g_a) e0  (by decide) (by decide) (by decide) (by decide) (g := (mkF m 6 #[.val (.ref a), .val (.ref sr)] [.null, (.int (2 : Int32)), (.int (0 : Int32)), (.ref sr), (.ref a)])) rfl (by rw [hml]; rfl) own_pd1 rfl rfl (by show 2 * 0 + _ ≤ _; exact Nat.le_of_eq rfl) (hb hby own_jdk_42_method_3_6) ?_
  intro T1 v1 L1 X1 hQ1
  obtain ⟨b1_0, k1_0, rfl, N1q, Kq1, zq1_0, q1_0, q1_1, q1_2, q1_3⟩ := hQ1
  have N1 := Fr.app N0 N1q
  have K1 := (Keep.refl h0 [a]).trans Kq1 (allS (Or.inl (List.mem_of_getElem? (i := 0) rfl)) all0)
  have g_b1_0 : n0 ≤ b1_0 := Nat.le_trans Z0 zq1_0
  have sz_b1_0 : h0.size ≤ b1_0 := Nat.le_trans (Keep.refl h0 [a]).1 zq1_0
  have ne_a_b1_0 : a ≠ b1_0 := Nat.ne_of_lt (Nat.lt_of_lt_of_le E_a.lt zq1_0)
  have ne_sr_b1_0 : sr ≠ b1_0 := Nat.ne_of_lt (Nat.lt_of_lt_of_le V_sr.lt zq1_0)
  have q1_0' : Exa Z T1.heap a "java/lang/String" := q1_0
  have q1_1' : Fld Z T1.heap a "java/lang/String" "coder" "B" (.int (0 : Int32)) := q1_1
  have q1_2' : Fld Z T1.heap a "java/lang/String" "value" "[B" (.ref b1_0) := q1_2
  have q1_3' : Arv Z T1.heap b1_0 k1_0 .byte (2 : Int32) [(.int (c0.toInt8.toInt32)), (.int (c1.toInt8.toInt32))] (.int (0 : Int32)) := q1_3
  show own_Goes _ _ _ _ T1 (mkF m 9 #[.val (.ref a), .val (.ref sr)] [])
  exact own_retV X1 hx hlk hrt (hb hby own_jdk_42_method_3_9) (by exact ⟨b1_0, k1_0, rfl, N1, K1, sz_b1_0, q1_0', q1_1', q1_2', q1_3'⟩) (by decide) (by decide)
theorem own_method_3_35 : decode method_3_code 35 = .ok (.new 40, 3) := by decide +kernel
theorem own_method_3_38 : decode method_3_code 38 = .ok (.dup, 1) := by decide +kernel
theorem own_method_3_39 : decode method_3_code 39 = .ok (.iconst 2, 1) := by decide +kernel
theorem own_method_3_40 : decode method_3_code 40 = .ok (.newarray .char, 2) := by decide +kernel
theorem own_method_3_42 : decode method_3_code 42 = .ok (.dup, 1) := by decide +kernel
theorem own_method_3_43 : decode method_3_code 43 = .ok (.iconst 0, 1) := by decide +kernel
theorem own_method_3_44 : decode method_3_code 44 = .ok (.iload_n 1, 1) := by decide +kernel
theorem own_method_3_45 : decode method_3_code 45 = .ok (.castore, 1) := by decide +kernel
theorem own_method_3_46 : decode method_3_code 46 = .ok (.dup, 1) := by decide +kernel
theorem own_method_3_47 : decode method_3_code 47 = .ok (.iconst 1, 1) := by decide +kernel
theorem own_method_3_48 : decode method_3_code 48 = .ok (.iload_n 2, 1) := by decide +kernel
theorem own_method_3_49 : decode method_3_code 49 = .ok (.castore, 1) := by decide +kernel
theorem own_method_3_50 : decode method_3_code 50 = .ok (.invokespecial 42, 3) := by decide +kernel
theorem own_method_3_53 : decode method_3_code 53 = .ok (.areturn, 1) := by decide +kernel
set_option maxRecDepth 65536 in
set_option maxHeartbeats 40000000 in
theorem own_str2 (l : Launch) (Z : State) (a0 : Array Value) (hw : ∀ d ∈ tables_1, d.before a0 Z = true) (ws : List Jvm.Cond) (c0 : Int32) (c1 : Int32) (zc : Int32) (h0 : Heap) (n0 : Nat) (Z0 : n0 ≤ h0.size) (S_COMPACT_STRINGS : Sta Z h0 "java/lang/String" "COMPACT_STRINGS" "Z" (.int zc)) (hc0a : ¬ (c0 < (0 : Int32))) (hc0b : ¬ ((255 : Int32) < c0)) (hc1a : ¬ (c1 < (0 : Int32))) (hc1b : ¬ ((255 : Int32) < c1)) (hz : ¬ (zc = (0 : Int32))) :
    own_Met l Z (⟨"com/example/weaverbird/weaverbird/automaton/TokenIsPinLaw", "str", "(ICC)Ljava/lang/String;"⟩ : MethodName) method_3_code 3 (some (.object "java/lang/String")) ws ({ frames := 4, cells := 3, slots := 8, locals := 66 } : Room) #[(.int (2 : Int32)), (.int c0), (.int c1)] h0 (fun v h L => ∃ r : Addr, ∃ rv : Addr, ∃ kr : ClassId, v = some (.ref r) ∧ Fr n0 L ∧ Keep h0 h [] ∧ h0.size ≤ r ∧ h0.size ≤ rv ∧ Exa Z h r "java/lang/String" ∧ Fld Z h r "java/lang/String" "coder" "B" (.int (0 : Int32)) ∧ Fld Z h r "java/lang/String" "value" "[B" (.ref rv) ∧ Arv Z h rv kr .byte (2 : Int32) [(.int (c0.toInt8.toInt32)), (.int (c1.toInt8.toInt32))] (.int (0 : Int32))) := by
  refine own_body (plainFor_of_name own_pn_com_example_weaverbird_weaverbird_automaton_TokenIsPinLaw) (fun p e s m below meth c s₁ hx hby hml0 hrt hlk hown0 hnm hZ X0 e0 => ?_)
  have N0 := Fr.nil n0
  have hown : s.vm.findClass "com/example/weaverbird/weaverbird/automaton/TokenIsPinLaw" = some m.cls := hown0
  have hml : c.maxLocals = 3 := hml0
  refine own_castG (own_ef5 m (2 : Int32) c0 c1) ?_
  refine own_step (fun t k => XS.iloadN X0.here hx rfl (hb hby own_method_3_0) rfl k) ?_
  show own_Goes _ _ _ _ s₁ (mkF m 1 #[.val (.int (2 : Int32)), .val (.int c0), .val (.int c1)] [(.int (2 : Int32))])
  refine own_step (fun t k => XS.ifYes X0.here hx rfl (pc0 := 1) (pc' := 15) rfl (hb hby own_method_3_1) rfl ((if0 _ _).trans (feq (show ¬ ((2 : Int32) = (0 : Int32)) from (by decide))).2) (by decide) (by decide) k) ?_
  refine own_step (fun t k => XS.iloadN X0.here hx rfl (hb hby own_method_3_15) rfl k) ?_
  refine own_step (fun t k => XS.iconst X0.here hx rfl (hb hby own_method_3_16) k) ?_
  show own_Goes _ _ _ _ s₁ (mkF m 17 #[.val (.int (2 : Int32)), .val (.int c0), .val (.int c1)] [(.int (1 : Int32)), (.int (2 : Int32))])
  refine own_step (fun t k => XS.icmpYes X0.here hx rfl (pc0 := 17) (pc' := 35) rfl (hb hby own_method_3_17) rfl (feq (show ¬ ((2 : Int32) = (1 : Int32)) from (by decide))).2 (by decide) (by decide) k) ?_
  show own_Goes _ _ _ _ s₁ (mkF m 35 #[.val (.int (2 : Int32)), .val (.int c0), .val (.int c1)] [])
  obtain ⟨T1, h1, X1, e1, E1, A1, D1, -, st1⟩ := newO X0 hx hZ hown (hw _ (List.mem_of_getElem? (i := 14) rfl)) (hw _ (List.mem_of_getElem? (i := 15) rfl)) (hw _ (List.mem_of_getElem? (i := 16) rfl)) e0 (g := (mkF m 35 #[.val (.int (2 : Int32)), .val (.int c0), .val (.int c1)] [])) rfl (hb hby own_method_3_35) (by decide) (by decide)
  obtain ⟨b1, g1⟩ : ∃ z, z = h0.size := ⟨_, rfl⟩
  rw [← g1] at A1 D1 st1
  refine own_step st1 ?_
  have g_b1 : n0 ≤ b1 := Nat.le_trans Z0 (Nat.le_of_eq g1.symm)
  have sz_b1 : h0.size ≤ b1 := Nat.le_trans (Keep.refl h0 []).1 (Nat.le_of_eq g1.symm)
  have K1 := (Keep.refl h0 []).ext E1
  have F_b1_value : Fld Z h1 b1 "java/lang/String" "value" "[B" .null := D1 (Or.inr (hw _ (List.mem_of_getElem? (i := 30) rfl))) (ty := (.array .byte)) (by decide)
  have F_b1_coder : Fld Z h1 b1 "java/lang/String" "coder" "B" (.int (0 : Int32)) := D1 (Or.inr (hw _ (List.mem_of_getElem? (i := 31) rfl))) (ty := .byte) (by decide)
  refine own_step (fun t k => XS.dup X1.here hx rfl (hb hby own_method_3_38) rfl rfl k) ?_
  refine own_step (fun t k => XS.iconst X1.here hx rfl (hb hby own_method_3_39) k) ?_
  show own_Goes _ _ _ _ T1 (mkF m 40 #[.val (.int (2 : Int32)), .val (.int c0), .val (.int c1)] [(.int (2 : Int32)), (.ref b1), (.ref b1)])
  obtain ⟨T2, h2, k2, X2, e2, E2, A2, st2⟩ := newP X1 hx hZ (hw _ (List.mem_of_getElem? (i := 17) rfl)) e1 (g := (mkF m 40 #[.val (.int (2 : Int32)), .val (.int c0), .val (.int c1)] [(.int (2 : Int32)), (.ref b1), (.ref b1)])) rfl (hb hby own_method_3_40) rfl (by decide) (cap := 2) (by decide) (by decide) (by decide) (by decide)
  obtain ⟨b2, g2⟩ : ∃ z, z = h1.size := ⟨_, rfl⟩
  rw [← g2] at A2 st2
  refine own_step st2 ?_
  have g_b2 : n0 ≤ b2 := Nat.le_trans (Nat.le_trans Z0 K1.1) (Nat.le_of_eq g2.symm)
  have sz_b2 : h0.size ≤ b2 := Nat.le_trans K1.1 (Nat.le_of_eq g2.symm)
  have ne_b1_b2 : b1 ≠ b2 := Nat.ne_of_lt (Nat.lt_of_lt_of_le A1.lt (Nat.le_of_eq g2.symm))
  have K2 := K1.ext E2
  have V_b2 : Arv Z h2 b2 k2 .char (2 : Int32) [(.int (0 : Int32)), (.int (0 : Int32))] (.int (0 : Int32)) := (Arv.new A2 (by decide)).pad (pad_rep [] (.int (0 : Int32)) 2)
  refine own_step (fun t k => XS.dup X2.here hx rfl (hb hby own_method_3_42) rfl rfl k) ?_
  refine own_step (fun t k => XS.iconst X2.here hx rfl (hb hby own_method_3_43) k) ?_
  refine own_step (fun t k => XS.iloadN X2.here hx rfl (hb hby own_method_3_44) rfl k) ?_
  show own_Goes _ _ _ _ T2 (mkF m 45 #[.val (.int (2 : Int32)), .val (.int c0), .val (.int c1)] [(.int c0), (.int (0 : Int32)), (.ref b2), (.ref b2), (.ref b1), (.ref b1)])
  obtain ⟨T3, h3, X3, e3, W3, V3, st3⟩ := own_castore X2 hx hZ e2 V_b2 (x := c0) c0 (own_narc hc0a hc0b) (j := (0 : Int32)) ⟨by decide, by decide⟩ 0 rfl (Nat.le_of_ble_eq_true rfl) (g := (mkF m 45 #[.val (.int (2 : Int32)), .val (.int c0), .val (.int c1)] [(.int c0), (.int (0 : Int32)), (.ref b2), (.ref b2), (.ref b1), (.ref b1)])) rfl rfl (hb hby own_method_3_45)
  refine own_step st3 ?_
  have K3 := K2.wr W3 (Or.inr sz_b2)
  have N3 := Fr.snoc X3 N0 g_b2
  have V3' : Arv Z h3 b2 k2 .char (2 : Int32) [(.int c0), (.int (0 : Int32))] (.int (0 : Int32)) := V3
  refine own_step (fun t k => XS.dup X3.here hx rfl (hb hby own_method_3_46) rfl rfl k) ?_
  refine own_step (fun t k => XS.iconst X3.here hx rfl (hb hby own_method_3_47) k) ?_
  refine own_step (fun t k => XS.iloadN X3.here hx rfl (hb hby own_method_3_48) rfl k) ?_
  show own_Goes _ _ _ _ T3 (mkF m 49 #[.val (.int (2 : Int32)), .val (.int c0), .val (.int c1)] [(.int c1), (.int (1 : Int32)), (.ref b2), (.ref b2), (.ref b1), (.ref b1)])
  obtain ⟨T4, h4, X4, e4, W4, V4, st4⟩ := own_castore X3 hx hZ e3 V3' (x := c1) c1 (own_narc hc1a hc1b) (j := (1 : Int32)) ⟨by decide, by decide⟩ 1 rfl (Nat.le_of_ble_eq_true rfl) (g := (mkF m 49 #[.val (.int (2 : Int32)), .val (.int c0), .val (.int c1)] [(.int c1), (.int (1 : Int32)), (.ref b2), (.ref b2), (.ref b1), (.ref b1)])) rfl rfl (hb hby own_method_3_49)
  refine own_step st4 ?_
  have K4 := K3.wr W4 (Or.inr sz_b2)
  have N4 := Fr.snoc X4 N3 g_b2
  have V4' : Arv Z h4 b2 k2 .char (2 : Int32) [(.int c0), (.int c1)] (.int (0 : Int32)) := V4
  show own_Goes _ _ _ _ T4 (mkF m 50 #[.val (.int (2 : Int32)), .val (.int c0), .val (.int c1)] [(.ref b2), (.ref b1), (.ref b1)])
  have A1_v5 := (((A1.ext E2).wr W3).wr W4)
  have F_b1_value_v6 := (((F_b1_value.ext E2).other W3 (Or.inl ne_b1_b2)).other W4 (Or.inl ne_b1_b2))
  have F_b1_coder_v7 := (((F_b1_coder.ext E2).other W3 (Or.inl ne_b1_b2)).other W4 (Or.inl ne_b1_b2))
  have S_COMPACT_STRINGS_v8 := ((((S_COMPACT_STRINGS.ext E1).ext E2).wr W3).wr W4)
  refine own_callC X4 hx hZ (y := (⟨"java/lang/String", "<init>", "([C)V"⟩ : MethodName)) rfl hown (hw _ (List.mem_of_getElem? (i := 18) rfl)) (hw _ (List.mem_of_getElem? (i := 19) rfl)) (hw _ (List.mem_of_getElem? (i := 20) rfl)) (hw _ (List.mem_of_getElem? (i := 16) rfl)) (by decide) 1 (a := b1) [(.ref b2)] [(.ref b1)] (own_sinit_2 l Z a0 hw [] b1 b2 k2 c0 c1 zc h4 n0 (Nat.le_trans Z0 K4.1) A1_v5 F_b1_value_v6 F_b1_coder_v7 V4' S_COMPACT_STRINGS_v8 hc0b hc1b hz g_b1) e4  (by decide) (by decide) (by decide) (by decide) (g := (mkF m 50 #[.val (.int (2 : Int32)), .val (.int c0), .val (.int c1)] [(.ref b2), (.ref b1), (.ref b1)])) rfl (by rw [hml]; rfl) own_pd2 rfl rfl (by show 2 * 0 + _ ≤ _; exact Nat.le_of_eq rfl) (hb hby own_method_3_50) ?_
  intro T9 v9 L9 X9 hQ9
  obtain ⟨b9_0, k9_0, rfl, N9q, Kq9, zq9_0, q9_0, q9_1, q9_2, q9_3⟩ := hQ9
  have N9 := Fr.app N4 N9q
  have K9 := K4.trans Kq9 (allS (Or.inr sz_b1) all0)
  have g_b9_0 : n0 ≤ b9_0 := Nat.le_trans (Nat.le_trans Z0 K4.1) zq9_0
  have sz_b9_0 : h0.size ≤ b9_0 := Nat.le_trans K4.1 zq9_0
  have ne_b1_b9_0 : b1 ≠ b9_0 := Nat.ne_of_lt (Nat.lt_of_lt_of_le A1_v5.lt zq9_0)
  have ne_b2_b9_0 : b2 ≠ b9_0 := Nat.ne_of_lt (Nat.lt_of_lt_of_le V4'.lt zq9_0)
  have q9_0' : Exa Z T9.heap b1 "java/lang/String" := q9_0
  have q9_1' : Fld Z T9.heap b1 "java/lang/String" "coder" "B" (.int (0 : Int32)) := q9_1
  have q9_2' : Fld Z T9.heap b1 "java/lang/String" "value" "[B" (.ref b9_0) := q9_2
  have q9_3' : Arv Z T9.heap b9_0 k9_0 .byte (2 : Int32) [(.int (c0.toInt8.toInt32)), (.int (c1.toInt8.toInt32))] (.int (0 : Int32)) := q9_3
  show own_Goes _ _ _ _ T9 (mkF m 53 #[.val (.int (2 : Int32)), .val (.int c0), .val (.int c1)] [(.ref b1)])
  exact own_retA X9 hx hlk hrt rfl rfl rfl (hb hby own_method_3_53) (by exact ⟨b1, b9_0, k9_0, rfl, N9, K9, sz_b1, sz_b9_0, q9_0', q9_1', q9_2', q9_3'⟩) (by decide) (by decide)
theorem own_ef9 (m : MethodId) (x0 : Addr) (x1 : Addr) (x2 : Addr) : entryFrame m #[(.ref x0), (.ref x1), (.ref x2)] 3 = mkF m 0 #[.val (.ref x0), .val (.ref x1), .val (.ref x2)] [] := by first | (simp [entryFrame, mkF, argsToLocals, Value.category]; done) | rfl
theorem own_prog_16_method_2_0 : decode prog_16_method_2_code 0 = .ok (.aload_n 0, 1) := by decide +kernel
theorem own_prog_16_method_2_1 : decode prog_16_method_2_code 1 = .ok (.getfield 7, 3) := by decide +kernel
theorem own_prog_16_method_2_4 : decode prog_16_method_2_code 4 = .ok (.aload_n 1, 1) := by decide +kernel
theorem own_prog_16_method_2_5 : decode prog_16_method_2_code 5 = .ok (.if_acmp .ne 18, 3) := by decide +kernel
theorem own_prog_16_method_2_23 : decode prog_16_method_2_code 23 = .ok (.iconst 0, 1) := by decide +kernel
theorem own_prog_16_method_2_24 : decode prog_16_method_2_code 24 = .ok (.ireturn, 1) := by decide +kernel
set_option maxRecDepth 65536 in
set_option maxHeartbeats 40000000 in
theorem own_is_ne (l : Launch) (Z : State) (a0 : Array Value) (hw : ∀ d ∈ tables_1, d.before a0 Z = true) (ws : List Jvm.Cond) (a : Addr) (tz : Addr) (o : Addr) (ty : Addr) (h0 : Heap) (n0 : Nat) (Z0 : n0 ≤ h0.size) (F_a_type : Fld Z h0 a "com/example/weaverbird/weaverbird/automaton/HoaLexer$Token" "type" "Lcom/example/weaverbird/weaverbird/automaton/HoaLexer$Type;" (.ref ty)) (hty : ¬ (ty = tz)) :
    own_Met l Z (⟨"com/example/weaverbird/weaverbird/automaton/HoaLexer$Token", "is", "(Lcom/example/weaverbird/weaverbird/automaton/HoaLexer$Type;Ljava/lang/String;)Z"⟩ : MethodName) prog_16_method_2_code 3 (some .boolean) ws ({ frames := 0, cells := 0, slots := 0, locals := 0 } : Room) #[(.ref a), (.ref tz), (.ref o)] h0 (fun v h L => v = some (.int (0 : Int32)) ∧ Fr n0 L ∧ h = h0) := by
  refine own_body (plainFor_of_name own_pn_com_example_weaverbird_weaverbird_automaton_HoaLexer_Token) (fun p e s m below meth c s₁ hx hby hml0 hrt hlk hown0 hnm hZ X0 e0 => ?_)
  have N0 := Fr.nil n0
  have hown : s.vm.findClass "com/example/weaverbird/weaverbird/automaton/HoaLexer$Token" = some m.cls := hown0
  have hml : c.maxLocals = 3 := hml0
  refine own_castG (own_ef9 m a tz o) ?_
  refine own_step (fun t k => XS.aloadN X0.here hx rfl (hb hby own_prog_16_method_2_0) rfl rfl k) ?_
  show own_Goes _ _ _ _ s₁ (mkF m 1 #[.val (.ref a), .val (.ref tz), .val (.ref o)] [(.ref a)])
  obtain ⟨T1, X1, e1, st1⟩ := getF X0 hx hZ hown (host := "") (Or.inl (hw _ (List.mem_of_getElem? (i := 45) rfl))) Via.refl e0 F_a_type (g := (mkF m 1 #[.val (.ref a), .val (.ref tz), .val (.ref o)] [(.ref a)])) rfl rfl (hb hby own_prog_16_method_2_1)
  refine own_step st1 ?_
  refine own_step (fun t k => XS.aloadN X1.here hx rfl (hb hby own_prog_16_method_2_4) rfl rfl k) ?_
  show own_Goes _ _ _ _ T1 (mkF m 5 #[.val (.ref a), .val (.ref tz), .val (.ref o)] [(.ref tz), (.ref ty)])
  refine own_step (fun t k => Jvm.RoadKit.acmp (g := (mkF m 5 #[.val (.ref a), .val (.ref tz), .val (.ref o)] [(.ref tz), (.ref ty)])) X1 hx rfl rfl rfl (pc0 := 5) (pc' := 23) (same := false) rfl (hb hby own_prog_16_method_2_5) rfl (decide_eq_false fun q => hty (Value.ref.inj q)) (by decide) (by decide) k) ?_
  refine own_step (fun t k => XS.iconst X1.here hx rfl (hb hby own_prog_16_method_2_23) k) ?_
  show own_Goes _ _ _ _ T1 (mkF m 24 #[.val (.ref a), .val (.ref tz), .val (.ref o)] [(.int (0 : Int32))])
  exact own_retN X1 hx hlk (t := .boolean) hrt (by simp) (hb hby own_prog_16_method_2_24) ⟨rfl, N0, e1⟩ (by decide) (by decide)
theorem own_pn_java_lang_StringLatin1 : plainName "java/lang/StringLatin1" = true := by first | (simp [plainName, overriddenIn]; done) | decide +kernel
theorem own_ef10 (m : MethodId) (x0 : Addr) (x1 : Addr) : entryFrame m #[(.ref x0), (.ref x1)] 3 = mkF m 0 #[.val (.ref x0), .val (.ref x1), .unset] [] := by first | (simp [entryFrame, mkF, argsToLocals, Value.category]; done) | rfl
theorem own_jdk_43_method_13_0 : decode jdk_43_method_13_code 0 = .ok (.aload_n 0, 1) := by decide +kernel
theorem own_jdk_43_method_13_1 : decode jdk_43_method_13_code 1 = .ok (.arraylength, 1) := by decide +kernel
theorem own_jdk_43_method_13_2 : decode jdk_43_method_13_code 2 = .ok (.aload_n 1, 1) := by decide +kernel
theorem own_jdk_43_method_13_3 : decode jdk_43_method_13_code 3 = .ok (.arraylength, 1) := by decide +kernel
theorem own_jdk_43_method_13_4 : decode jdk_43_method_13_code 4 = .ok (.if_icmp .ne 30, 3) := by decide +kernel
theorem own_jdk_43_method_13_7 : decode jdk_43_method_13_code 7 = .ok (.iconst 0, 1) := by decide +kernel
theorem own_jdk_43_method_13_8 : decode jdk_43_method_13_code 8 = .ok (.istore_n 2, 1) := by decide +kernel
theorem own_jdk_43_method_13_9 : decode jdk_43_method_13_code 9 = .ok (.iload_n 2, 1) := by decide +kernel
theorem own_jdk_43_method_13_10 : decode jdk_43_method_13_code 10 = .ok (.aload_n 0, 1) := by decide +kernel
theorem own_jdk_43_method_13_11 : decode jdk_43_method_13_code 11 = .ok (.arraylength, 1) := by decide +kernel
theorem own_jdk_43_method_13_12 : decode jdk_43_method_13_code 12 = .ok (.if_icmp .ge 20, 3) := by decide +kernel
theorem own_jdk_43_method_13_32 : decode jdk_43_method_13_code 32 = .ok (.iconst 1, 1) := by decide +kernel
theorem own_jdk_43_method_13_33 : decode jdk_43_method_13_code 33 = .ok (.ireturn, 1) := by decide +kernel
set_option maxRecDepth 65536 in
set_option maxHeartbeats 40000000 in
theorem own_leq_00eq (l : Launch) (Z : State) (a0 : Array Value) (hw : ∀ d ∈ tables_1, d.before a0 Z = true) (ws : List Jvm.Cond) (va : Addr) (vb : Addr) (ka : ClassId) (kb : ClassId) (h0 : Heap) (n0 : Nat) (Z0 : n0 ≤ h0.size) (V_va : Arv Z h0 va ka .byte (0 : Int32) [] (.int (0 : Int32))) (V_vb : Arv Z h0 vb kb .byte (0 : Int32) [] (.int (0 : Int32))) :
    own_Met l Z (⟨"java/lang/StringLatin1", "equals", "([B[B)Z"⟩ : MethodName) jdk_43_method_13_code 3 (some .boolean) ws ({ frames := 0, cells := 0, slots := 0, locals := 0 } : Room) #[(.ref va), (.ref vb)] h0 (fun v h L => v = some (.int (1 : Int32)) ∧ Fr n0 L ∧ h = h0) := by
  refine own_body (plainFor_of_name own_pn_java_lang_StringLatin1) (fun p e s m below meth c s₁ hx hby hml0 hrt hlk hown0 hnm hZ X0 e0 => ?_)
  have N0 := Fr.nil n0
  have hown : s.vm.findClass "java/lang/StringLatin1" = some m.cls := hown0
  have hml : c.maxLocals = 3 := hml0
  refine own_castG (own_ef10 m va vb) ?_
  refine own_step (fun t k => XS.aloadN X0.here hx rfl (hb hby own_jdk_43_method_13_0) rfl rfl k) ?_
  show own_Goes _ _ _ _ s₁ (mkF m 1 #[.val (.ref va), .val (.ref vb), .unset] [(.ref va)])
  refine own_step (own_alen X0 hx hZ e0 V_va (g := (mkF m 1 #[.val (.ref va), .val (.ref vb), .unset] [(.ref va)])) rfl rfl (hb hby own_jdk_43_method_13_1)) ?_
  refine own_step (fun t k => XS.aloadN X0.here hx rfl (hb hby own_jdk_43_method_13_2) rfl rfl k) ?_
  show own_Goes _ _ _ _ s₁ (mkF m 3 #[.val (.ref va), .val (.ref vb), .unset] [(.ref vb), (.int (0 : Int32))])
  refine own_step (own_alen X0 hx hZ e0 V_vb (g := (mkF m 3 #[.val (.ref va), .val (.ref vb), .unset] [(.ref vb), (.int (0 : Int32))])) rfl rfl (hb hby own_jdk_43_method_13_3)) ?_
  show own_Goes _ _ _ _ s₁ (mkF m 4 #[.val (.ref va), .val (.ref vb), .unset] [(.int (0 : Int32)), (.int (0 : Int32))])
  refine own_step (fun t k => XS.icmpNo X0.here hx rfl (hb hby own_jdk_43_method_13_4) rfl (teq (show (0 : Int32) = (0 : Int32) from (by decide))).2 k) ?_
  refine own_step (fun t k => XS.iconst X0.here hx rfl (hb hby own_jdk_43_method_13_7) k) ?_
  refine own_step (fun t k => XS.istoreN X0.here hx rfl (hb hby own_jdk_43_method_13_8) rfl (l' := #[.val (.ref va), .val (.ref vb), .val (.int (0 : Int32))]) rfl k) ?_
  refine own_step (fun t k => XS.iloadN X0.here hx rfl (hb hby own_jdk_43_method_13_9) rfl k) ?_
  refine own_step (fun t k => XS.aloadN X0.here hx rfl (hb hby own_jdk_43_method_13_10) rfl rfl k) ?_
  show own_Goes _ _ _ _ s₁ (mkF m 11 #[.val (.ref va), .val (.ref vb), .val (.int (0 : Int32))] [(.ref va), (.int (0 : Int32))])
  refine own_step (own_alen X0 hx hZ e0 V_va (g := (mkF m 11 #[.val (.ref va), .val (.ref vb), .val (.int (0 : Int32))] [(.ref va), (.int (0 : Int32))])) rfl rfl (hb hby own_jdk_43_method_13_11)) ?_
  show own_Goes _ _ _ _ s₁ (mkF m 12 #[.val (.ref va), .val (.ref vb), .val (.int (0 : Int32))] [(.int (0 : Int32)), (.int (0 : Int32))])
  refine own_step (fun t k => XS.icmpYes X0.here hx rfl (pc0 := 12) (pc' := 32) rfl (hb hby own_jdk_43_method_13_12) rfl (flt (show ¬ ((0 : Int32) < (0 : Int32)) from (by decide))).2.1 (by decide) (by decide) k) ?_
  refine own_step (fun t k => XS.iconst X0.here hx rfl (hb hby own_jdk_43_method_13_32) k) ?_
  show own_Goes _ _ _ _ s₁ (mkF m 33 #[.val (.ref va), .val (.ref vb), .val (.int (0 : Int32))] [(.int (1 : Int32))])
  exact own_retN X0 hx hlk (t := .boolean) hrt (by simp) (hb hby own_jdk_43_method_13_33) ⟨rfl, N0, e0⟩ (by decide) (by decide)
theorem own_ef11 (m : MethodId) (x0 : Addr) (x1 : Addr) : entryFrame m #[(.ref x0), (.ref x1)] 3 = mkF m 0 #[.val (.ref x0), .val (.ref x1), .unset] [] := by first | (simp [entryFrame, mkF, argsToLocals, Value.category]; done) | rfl
theorem own_jdk_42_method_66_0 : decode jdk_42_method_66_code 0 = .ok (.aload_n 0, 1) := by decide +kernel
theorem own_jdk_42_method_66_1 : decode jdk_42_method_66_code 1 = .ok (.aload_n 1, 1) := by decide +kernel
theorem own_jdk_42_method_66_2 : decode jdk_42_method_66_code 2 = .ok (.if_acmp .ne 5, 3) := by decide +kernel
theorem own_jdk_42_method_66_7 : decode jdk_42_method_66_code 7 = .ok (.aload_n 1, 1) := by decide +kernel
theorem own_jdk_42_method_66_8 : decode jdk_42_method_66_code 8 = .ok (.instanceof 10, 3) := by decide +kernel
theorem own_jdk_42_method_66_11 : decode jdk_42_method_66_code 11 = .ok (.ifCond .eq 43, 3) := by decide +kernel
theorem own_jdk_42_method_66_14 : decode jdk_42_method_66_code 14 = .ok (.aload_n 1, 1) := by decide +kernel
theorem own_jdk_42_method_66_15 : decode jdk_42_method_66_code 15 = .ok (.checkcast 10, 3) := by decide +kernel
theorem own_jdk_42_method_66_18 : decode jdk_42_method_66_code 18 = .ok (.astore_n 2, 1) := by decide +kernel
theorem own_jdk_42_method_66_19 : decode jdk_42_method_66_code 19 = .ok (.getstatic 38, 3) := by decide +kernel
theorem own_jdk_42_method_66_22 : decode jdk_42_method_66_code 22 = .ok (.ifCond .eq 14, 3) := by decide +kernel
theorem own_jdk_42_method_66_25 : decode jdk_42_method_66_code 25 = .ok (.aload_n 0, 1) := by decide +kernel
theorem own_jdk_42_method_66_26 : decode jdk_42_method_66_code 26 = .ok (.getfield 15, 3) := by decide +kernel
theorem own_jdk_42_method_66_29 : decode jdk_42_method_66_code 29 = .ok (.aload_n 2, 1) := by decide +kernel
theorem own_jdk_42_method_66_30 : decode jdk_42_method_66_code 30 = .ok (.getfield 15, 3) := by decide +kernel
theorem own_jdk_42_method_66_33 : decode jdk_42_method_66_code 33 = .ok (.if_icmp .ne 21, 3) := by decide +kernel
theorem own_jdk_42_method_66_36 : decode jdk_42_method_66_code 36 = .ok (.aload_n 0, 1) := by decide +kernel
theorem own_jdk_42_method_66_37 : decode jdk_42_method_66_code 37 = .ok (.getfield 9, 3) := by decide +kernel
theorem own_jdk_42_method_66_40 : decode jdk_42_method_66_code 40 = .ok (.aload_n 2, 1) := by decide +kernel
theorem own_jdk_42_method_66_41 : decode jdk_42_method_66_code 41 = .ok (.getfield 9, 3) := by decide +kernel
theorem own_jdk_42_method_66_44 : decode jdk_42_method_66_code 44 = .ok (.invokestatic 541, 3) := by decide +kernel
theorem own_pd6 : parseMethodDescriptor "([B[B)Z" = some ⟨[(.array .byte), (.array .byte)], some .boolean⟩ := by decide +kernel
theorem own_jdk_42_method_66_47 : decode jdk_42_method_66_code 47 = .ok (.ifCond .eq 7, 3) := by decide +kernel
theorem own_jdk_42_method_66_50 : decode jdk_42_method_66_code 50 = .ok (.iconst 1, 1) := by decide +kernel
theorem own_jdk_42_method_66_51 : decode jdk_42_method_66_code 51 = .ok (.goto 4, 3) := by decide +kernel
theorem own_jdk_42_method_66_55 : decode jdk_42_method_66_code 55 = .ok (.ireturn, 1) := by decide +kernel
set_option maxRecDepth 65536 in
set_option maxHeartbeats 40000000 in
theorem own_seq_00eq (l : Launch) (Z : State) (a0 : Array Value) (hw : ∀ d ∈ tables_1, d.before a0 Z = true) (ws : List Jvm.Cond) (a : Addr) (o : Addr) (va : Addr) (vb : Addr) (ka : ClassId) (kb : ClassId) (zc : Int32) (h0 : Heap) (n0 : Nat) (Z0 : n0 ≤ h0.size) (E_o : Exa Z h0 o "java/lang/String") (F_a_coder : Fld Z h0 a "java/lang/String" "coder" "B" (.int (0 : Int32))) (F_o_coder : Fld Z h0 o "java/lang/String" "coder" "B" (.int (0 : Int32))) (F_a_value : Fld Z h0 a "java/lang/String" "value" "[B" (.ref va)) (F_o_value : Fld Z h0 o "java/lang/String" "value" "[B" (.ref vb)) (V_va : Arv Z h0 va ka .byte (0 : Int32) [] (.int (0 : Int32))) (V_vb : Arv Z h0 vb kb .byte (0 : Int32) [] (.int (0 : Int32))) (S_COMPACT_STRINGS : Sta Z h0 "java/lang/String" "COMPACT_STRINGS" "Z" (.int zc)) (hz : ¬ (zc = (0 : Int32))) (neao : ¬ (a = o)) :
    own_Met l Z (⟨"java/lang/String", "equals", "(Ljava/lang/Object;)Z"⟩ : MethodName) jdk_42_method_66_code 3 (some .boolean) ws ({ frames := 1, cells := 0, slots := 0, locals := 14 } : Room) #[(.ref a), (.ref o)] h0 (fun v h L => v = some (.int (1 : Int32)) ∧ Fr n0 L ∧ h = h0) := by
  refine own_body (plainFor_of_name own_pn_java_lang_String) (fun p e s m below meth c s₁ hx hby hml0 hrt hlk hown0 hnm hZ X0 e0 => ?_)
  have N0 := Fr.nil n0
  have hown : s.vm.findClass "java/lang/String" = some m.cls := hown0
  have hml : c.maxLocals = 3 := hml0
  refine own_castG (own_ef11 m a o) ?_
  refine own_step (fun t k => XS.aloadN X0.here hx rfl (hb hby own_jdk_42_method_66_0) rfl rfl k) ?_
  refine own_step (fun t k => XS.aloadN X0.here hx rfl (hb hby own_jdk_42_method_66_1) rfl rfl k) ?_
  show own_Goes _ _ _ _ s₁ (mkF m 2 #[.val (.ref a), .val (.ref o), .unset] [(.ref o), (.ref a)])
  refine own_step (fun t k => Jvm.RoadKit.acmp (g := (mkF m 2 #[.val (.ref a), .val (.ref o), .unset] [(.ref o), (.ref a)])) X0 hx rfl rfl rfl (pc0 := 2) (pc' := 7) (same := false) rfl (hb hby own_jdk_42_method_66_2) rfl (decide_eq_false fun q => neao (Value.ref.inj q)) (by decide) (by decide) k) ?_
  refine own_step (fun t k => XS.aloadN X0.here hx rfl (hb hby own_jdk_42_method_66_7) rfl rfl k) ?_
  show own_Goes _ _ _ _ s₁ (mkF m 8 #[.val (.ref a), .val (.ref o), .unset] [(.ref o)])
  obtain ⟨T1, X1, e1, st1⟩ := instY X0 hx hZ hown (hw _ (List.mem_of_getElem? (i := 76) rfl)) e0 (Ins.self E_o) (g := (mkF m 8 #[.val (.ref a), .val (.ref o), .unset] [(.ref o)])) rfl rfl (hb hby own_jdk_42_method_66_8)
  refine own_step st1 ?_
  show own_Goes _ _ _ _ T1 (mkF m 11 #[.val (.ref a), .val (.ref o), .unset] [(.int (1 : Int32))])
  refine own_step (fun t k => XS.ifNo X1.here hx rfl (hb hby own_jdk_42_method_66_11) rfl ((if0 _ _).trans (feq (show ¬ ((1 : Int32) = (0 : Int32)) from (by decide))).1) k) ?_
  refine own_step (fun t k => XS.aloadN X1.here hx rfl (hb hby own_jdk_42_method_66_14) rfl rfl k) ?_
  show own_Goes _ _ _ _ T1 (mkF m 15 #[.val (.ref a), .val (.ref o), .unset] [(.ref o)])
  obtain ⟨T2, X2, e2, st2⟩ := castY X1 hx hZ hown (hw _ (List.mem_of_getElem? (i := 76) rfl)) e1 (Ins.self E_o) (g := (mkF m 15 #[.val (.ref a), .val (.ref o), .unset] [(.ref o)])) rfl rfl (hb hby own_jdk_42_method_66_15)
  refine own_step st2 ?_
  refine own_step (fun t k => XS.astoreN X2.here hx rfl (hb hby own_jdk_42_method_66_18) rfl rfl (l' := #[.val (.ref a), .val (.ref o), .val (.ref o)]) rfl k) ?_
  show own_Goes _ _ _ _ T2 (mkF m 19 #[.val (.ref a), .val (.ref o), .val (.ref o)] [])
  obtain ⟨T3, X3, e3, st3⟩ := getS2 X2 hx hZ hown (host := "") (Or.inl (hw _ (List.mem_of_getElem? (i := 60) rfl))) Via.refl e2 S_COMPACT_STRINGS (g := (mkF m 19 #[.val (.ref a), .val (.ref o), .val (.ref o)] [])) rfl (hb hby own_jdk_42_method_66_19)
  refine own_step st3 ?_
  show own_Goes _ _ _ _ T3 (mkF m 22 #[.val (.ref a), .val (.ref o), .val (.ref o)] [(.int zc)])
  refine own_step (fun t k => XS.ifNo X3.here hx rfl (hb hby own_jdk_42_method_66_22) rfl ((if0 _ _).trans (feq (show ¬ (zc = (0 : Int32)) from hz)).1) k) ?_
  refine own_step (fun t k => XS.aloadN X3.here hx rfl (hb hby own_jdk_42_method_66_25) rfl rfl k) ?_
  show own_Goes _ _ _ _ T3 (mkF m 26 #[.val (.ref a), .val (.ref o), .val (.ref o)] [(.ref a)])
  obtain ⟨T4, X4, e4, st4⟩ := getF X3 hx hZ hown (host := "") (Or.inl (hw _ (List.mem_of_getElem? (i := 35) rfl))) Via.refl e3 F_a_coder (g := (mkF m 26 #[.val (.ref a), .val (.ref o), .val (.ref o)] [(.ref a)])) rfl rfl (hb hby own_jdk_42_method_66_26)
  refine own_step st4 ?_
  refine own_step (fun t k => XS.aloadN X4.here hx rfl (hb hby own_jdk_42_method_66_29) rfl rfl k) ?_
  show own_Goes _ _ _ _ T4 (mkF m 30 #[.val (.ref a), .val (.ref o), .val (.ref o)] [(.ref o), (.int (0 : Int32))])
  obtain ⟨T5, X5, e5, st5⟩ := getF X4 hx hZ hown (host := "") (Or.inl (hw _ (List.mem_of_getElem? (i := 35) rfl))) Via.refl e4 F_o_coder (g := (mkF m 30 #[.val (.ref a), .val (.ref o), .val (.ref o)] [(.ref o), (.int (0 : Int32))])) rfl rfl (hb hby own_jdk_42_method_66_30)
  refine own_step st5 ?_
  show own_Goes _ _ _ _ T5 (mkF m 33 #[.val (.ref a), .val (.ref o), .val (.ref o)] [(.int (0 : Int32)), (.int (0 : Int32))])
  refine own_step (fun t k => XS.icmpNo X5.here hx rfl (hb hby own_jdk_42_method_66_33) rfl (teq (show (0 : Int32) = (0 : Int32) from (by decide))).2 k) ?_
  refine own_step (fun t k => XS.aloadN X5.here hx rfl (hb hby own_jdk_42_method_66_36) rfl rfl k) ?_
  show own_Goes _ _ _ _ T5 (mkF m 37 #[.val (.ref a), .val (.ref o), .val (.ref o)] [(.ref a)])
  obtain ⟨T6, X6, e6, st6⟩ := getF X5 hx hZ hown (host := "") (Or.inl (hw _ (List.mem_of_getElem? (i := 34) rfl))) Via.refl e5 F_a_value (g := (mkF m 37 #[.val (.ref a), .val (.ref o), .val (.ref o)] [(.ref a)])) rfl rfl (hb hby own_jdk_42_method_66_37)
  refine own_step st6 ?_
  refine own_step (fun t k => XS.aloadN X6.here hx rfl (hb hby own_jdk_42_method_66_40) rfl rfl k) ?_
  show own_Goes _ _ _ _ T6 (mkF m 41 #[.val (.ref a), .val (.ref o), .val (.ref o)] [(.ref o), (.ref va)])
  obtain ⟨T7, X7, e7, st7⟩ := getF X6 hx hZ hown (host := "") (Or.inl (hw _ (List.mem_of_getElem? (i := 34) rfl))) Via.refl e6 F_o_value (g := (mkF m 41 #[.val (.ref a), .val (.ref o), .val (.ref o)] [(.ref o), (.ref va)])) rfl rfl (hb hby own_jdk_42_method_66_41)
  refine own_step st7 ?_
  show own_Goes _ _ _ _ T7 (mkF m 44 #[.val (.ref a), .val (.ref o), .val (.ref o)] [(.ref vb), (.ref va)])
  refine own_callS X7 hx hZ (y := (⟨"java/lang/StringLatin1", "equals", "([B[B)Z"⟩ : MethodName)) hown (hw _ (List.mem_of_getElem? (i := 77) rfl)) (hw _ (List.mem_of_getElem? (i := 78) rfl)) (hw _ (List.mem_of_getElem? (i := 79) rfl)) (hw _ (List.mem_of_getElem? (i := 80) rfl)) (by decide) 0 [(.ref va), (.ref vb)] [] (own_leq_00eq l Z a0 hw [] va vb ka kb h0 n0 Z0 V_va V_vb) e7  (by decide) (by decide) (by decide) (by decide) (g := (mkF m 44 #[.val (.ref a), .val (.ref o), .val (.ref o)] [(.ref vb), (.ref va)])) rfl (by rw [hml]; rfl) own_pd6 rfl rfl (by show 2 * 0 + _ ≤ _; exact Nat.le_of_eq rfl) (hb hby own_jdk_42_method_66_44) ?_
  intro T8 v8 L8 X8 hQ8
  obtain ⟨rfl, N8q, e8⟩ := hQ8
  have N8 := Fr.app N0 N8q
  show own_Goes _ _ _ _ T8 (mkF m 47 #[.val (.ref a), .val (.ref o), .val (.ref o)] [(.int (1 : Int32))])
  refine own_step (fun t k => XS.ifNo X8.here hx rfl (hb hby own_jdk_42_method_66_47) rfl ((if0 _ _).trans (feq (show ¬ ((1 : Int32) = (0 : Int32)) from (by decide))).1) k) ?_
  refine own_step (fun t k => XS.iconst X8.here hx rfl (hb hby own_jdk_42_method_66_50) k) ?_
  refine own_step (fun t k => XS.goto X8.here hx rfl (pc0 := 51) (pc' := 55) rfl (hb hby own_jdk_42_method_66_51) (by decide) (by decide) k) ?_
  show own_Goes _ _ _ _ T8 (mkF m 55 #[.val (.ref a), .val (.ref o), .val (.ref o)] [(.int (1 : Int32))])
  exact own_retN X8 hx hlk (t := .boolean) hrt (by simp) (hb hby own_jdk_42_method_66_55) ⟨rfl, N8, e8⟩ (by decide) (by decide)
theorem own_prog_16_method_2_8 : decode prog_16_method_2_code 8 = .ok (.aload_n 0, 1) := by decide +kernel
theorem own_prog_16_method_2_9 : decode prog_16_method_2_code 9 = .ok (.getfield 13, 3) := by decide +kernel
theorem own_prog_16_method_2_12 : decode prog_16_method_2_code 12 = .ok (.aload_n 2, 1) := by decide +kernel
theorem own_prog_16_method_2_13 : decode prog_16_method_2_code 13 = .ok (.invokevirtual 21, 3) := by decide +kernel
theorem own_pd7 : parseMethodDescriptor "(Ljava/lang/Object;)Z" = some ⟨[(.object "java/lang/Object")], some .boolean⟩ := by decide +kernel
theorem own_prog_16_method_2_16 : decode prog_16_method_2_code 16 = .ok (.ifCond .eq 7, 3) := by decide +kernel
theorem own_prog_16_method_2_19 : decode prog_16_method_2_code 19 = .ok (.iconst 1, 1) := by decide +kernel
theorem own_prog_16_method_2_20 : decode prog_16_method_2_code 20 = .ok (.goto 4, 3) := by decide +kernel
set_option maxRecDepth 65536 in
set_option maxHeartbeats 40000000 in
theorem own_is_00eq (l : Launch) (Z : State) (a0 : Array Value) (hw : ∀ d ∈ tables_1, d.before a0 Z = true) (ws : List Jvm.Cond) (a : Addr) (tz : Addr) (o : Addr) (ty : Addr) (tx : Addr) (va : Addr) (vb : Addr) (ka : ClassId) (kb : ClassId) (zc : Int32) (h0 : Heap) (n0 : Nat) (Z0 : n0 ≤ h0.size) (F_a_type : Fld Z h0 a "com/example/weaverbird/weaverbird/automaton/HoaLexer$Token" "type" "Lcom/example/weaverbird/weaverbird/automaton/HoaLexer$Type;" (.ref ty)) (F_a_text : Fld Z h0 a "com/example/weaverbird/weaverbird/automaton/HoaLexer$Token" "text" "Ljava/lang/String;" (.ref tx)) (E_tx : Exa Z h0 tx "java/lang/String") (E_o : Exa Z h0 o "java/lang/String") (F_tx_coder : Fld Z h0 tx "java/lang/String" "coder" "B" (.int (0 : Int32))) (F_o_coder : Fld Z h0 o "java/lang/String" "coder" "B" (.int (0 : Int32))) (F_tx_value : Fld Z h0 tx "java/lang/String" "value" "[B" (.ref va)) (F_o_value : Fld Z h0 o "java/lang/String" "value" "[B" (.ref vb)) (V_va : Arv Z h0 va ka .byte (0 : Int32) [] (.int (0 : Int32))) (V_vb : Arv Z h0 vb kb .byte (0 : Int32) [] (.int (0 : Int32))) (S_COMPACT_STRINGS : Sta Z h0 "java/lang/String" "COMPACT_STRINGS" "Z" (.int zc)) (hty : ty = tz) (hz : ¬ (zc = (0 : Int32))) (neto : ¬ (tx = o)) :
    own_Met l Z (⟨"com/example/weaverbird/weaverbird/automaton/HoaLexer$Token", "is", "(Lcom/example/weaverbird/weaverbird/automaton/HoaLexer$Type;Ljava/lang/String;)Z"⟩ : MethodName) prog_16_method_2_code 3 (some .boolean) ws ({ frames := 2, cells := 0, slots := 0, locals := 28 } : Room) #[(.ref a), (.ref tz), (.ref o)] h0 (fun v h L => v = some (.int (1 : Int32)) ∧ Fr n0 L ∧ h = h0) := by
  refine own_body (plainFor_of_name own_pn_com_example_weaverbird_weaverbird_automaton_HoaLexer_Token) (fun p e s m below meth c s₁ hx hby hml0 hrt hlk hown0 hnm hZ X0 e0 => ?_)
  have N0 := Fr.nil n0
  have hown : s.vm.findClass "com/example/weaverbird/weaverbird/automaton/HoaLexer$Token" = some m.cls := hown0
  have hml : c.maxLocals = 3 := hml0
  refine own_castG (own_ef9 m a tz o) ?_
  refine own_step (fun t k => XS.aloadN X0.here hx rfl (hb hby own_prog_16_method_2_0) rfl rfl k) ?_
  show own_Goes _ _ _ _ s₁ (mkF m 1 #[.val (.ref a), .val (.ref tz), .val (.ref o)] [(.ref a)])
  obtain ⟨T1, X1, e1, st1⟩ := getF X0 hx hZ hown (host := "") (Or.inl (hw _ (List.mem_of_getElem? (i := 45) rfl))) Via.refl e0 F_a_type (g := (mkF m 1 #[.val (.ref a), .val (.ref tz), .val (.ref o)] [(.ref a)])) rfl rfl (hb hby own_prog_16_method_2_1)
  refine own_step st1 ?_
  refine own_step (fun t k => XS.aloadN X1.here hx rfl (hb hby own_prog_16_method_2_4) rfl rfl k) ?_
  show own_Goes _ _ _ _ T1 (mkF m 5 #[.val (.ref a), .val (.ref tz), .val (.ref o)] [(.ref tz), (.ref ty)])
  refine own_step (fun t k => Jvm.RoadKit.acmp (g := (mkF m 5 #[.val (.ref a), .val (.ref tz), .val (.ref o)] [(.ref tz), (.ref ty)])) X1 hx rfl rfl rfl (pc0 := 5) (pc' := 8) (same := true) rfl (hb hby own_prog_16_method_2_5) rfl (decide_eq_true (congrArg Value.ref hty)) (by decide) (by decide) k) ?_
  refine own_step (fun t k => XS.aloadN X1.here hx rfl (hb hby own_prog_16_method_2_8) rfl rfl k) ?_
  show own_Goes _ _ _ _ T1 (mkF m 9 #[.val (.ref a), .val (.ref tz), .val (.ref o)] [(.ref a)])
  obtain ⟨T2, X2, e2, st2⟩ := getF X1 hx hZ hown (host := "") (Or.inl (hw _ (List.mem_of_getElem? (i := 47) rfl))) Via.refl e1 F_a_text (g := (mkF m 9 #[.val (.ref a), .val (.ref tz), .val (.ref o)] [(.ref a)])) rfl rfl (hb hby own_prog_16_method_2_9)
  refine own_step st2 ?_
  refine own_step (fun t k => XS.aloadN X2.here hx rfl (hb hby own_prog_16_method_2_12) rfl rfl k) ?_
  show own_Goes _ _ _ _ T2 (mkF m 13 #[.val (.ref a), .val (.ref tz), .val (.ref o)] [(.ref o), (.ref tx)])
  refine own_callV X2 hx hZ (y := (⟨"java/lang/String", "equals", "(Ljava/lang/Object;)Z"⟩ : MethodName)) (z := (⟨"java/lang/String", "equals", "(Ljava/lang/Object;)Z"⟩ : MethodName)) hown (hw _ (List.mem_of_getElem? (i := 71) rfl)) (hw _ (List.mem_of_getElem? (i := 72) rfl)) (notFace_of_selects (args := #[]) (mvT hZ (hw _ (List.mem_of_getElem? (i := 74) rfl)))) (hw _ (List.mem_of_getElem? (i := 74) rfl)) (hw _ (List.mem_of_getElem? (i := 73) rfl)) (hw _ (List.mem_of_getElem? (i := 75) rfl)) (hw _ (List.mem_of_getElem? (i := 16) rfl)) (by decide) 0 E_tx [(.ref o)] [] (own_seq_00eq l Z a0 hw [] tx o va vb ka kb zc h0 n0 Z0 E_o F_tx_coder F_o_coder F_tx_value F_o_value V_va V_vb S_COMPACT_STRINGS hz neto) e2  (by decide) (by decide) (by decide) (by decide) (g := (mkF m 13 #[.val (.ref a), .val (.ref tz), .val (.ref o)] [(.ref o), (.ref tx)])) rfl (by rw [hml]; rfl) own_pd7 rfl rfl (by show 2 * 0 + _ ≤ _; exact Nat.le_of_eq rfl) (hb hby own_prog_16_method_2_13) ?_
  intro T3 v3 L3 X3 hQ3
  obtain ⟨rfl, N3q, e3⟩ := hQ3
  have N3 := Fr.app N0 N3q
  show own_Goes _ _ _ _ T3 (mkF m 16 #[.val (.ref a), .val (.ref tz), .val (.ref o)] [(.int (1 : Int32))])
  refine own_step (fun t k => XS.ifNo X3.here hx rfl (hb hby own_prog_16_method_2_16) rfl ((if0 _ _).trans (feq (show ¬ ((1 : Int32) = (0 : Int32)) from (by decide))).1) k) ?_
  refine own_step (fun t k => XS.iconst X3.here hx rfl (hb hby own_prog_16_method_2_19) k) ?_
  refine own_step (fun t k => XS.goto X3.here hx rfl (pc0 := 20) (pc' := 24) rfl (hb hby own_prog_16_method_2_20) (by decide) (by decide) k) ?_
  show own_Goes _ _ _ _ T3 (mkF m 24 #[.val (.ref a), .val (.ref tz), .val (.ref o)] [(.int (1 : Int32))])
  exact own_retN X3 hx hlk (t := .boolean) hrt (by simp) (hb hby own_prog_16_method_2_24) ⟨rfl, N3, e3⟩ (by decide) (by decide)
theorem own_jdk_43_method_13_34 : decode jdk_43_method_13_code 34 = .ok (.iconst 0, 1) := by decide +kernel
theorem own_jdk_43_method_13_35 : decode jdk_43_method_13_code 35 = .ok (.ireturn, 1) := by decide +kernel
set_option maxRecDepth 65536 in
set_option maxHeartbeats 40000000 in
theorem own_leq_01len (l : Launch) (Z : State) (a0 : Array Value) (hw : ∀ d ∈ tables_1, d.before a0 Z = true) (ws : List Jvm.Cond) (va : Addr) (vb : Addr) (ka : ClassId) (kb : ClassId) (y0 : Int32) (h0 : Heap) (n0 : Nat) (Z0 : n0 ≤ h0.size) (V_va : Arv Z h0 va ka .byte (0 : Int32) [] (.int (0 : Int32))) (V_vb : Arv Z h0 vb kb .byte (1 : Int32) [(.int y0)] (.int (0 : Int32))) :
    own_Met l Z (⟨"java/lang/StringLatin1", "equals", "([B[B)Z"⟩ : MethodName) jdk_43_method_13_code 3 (some .boolean) ws ({ frames := 0, cells := 0, slots := 0, locals := 0 } : Room) #[(.ref va), (.ref vb)] h0 (fun v h L => v = some (.int (0 : Int32)) ∧ Fr n0 L ∧ h = h0) := by
  refine own_body (plainFor_of_name own_pn_java_lang_StringLatin1) (fun p e s m below meth c s₁ hx hby hml0 hrt hlk hown0 hnm hZ X0 e0 => ?_)
  have N0 := Fr.nil n0
  have hown : s.vm.findClass "java/lang/StringLatin1" = some m.cls := hown0
  have hml : c.maxLocals = 3 := hml0
  refine own_castG (own_ef10 m va vb) ?_
  refine own_step (fun t k => XS.aloadN X0.here hx rfl (hb hby own_jdk_43_method_13_0) rfl rfl k) ?_
  show own_Goes _ _ _ _ s₁ (mkF m 1 #[.val (.ref va), .val (.ref vb), .unset] [(.ref va)])
  refine own_step (own_alen X0 hx hZ e0 V_va (g := (mkF m 1 #[.val (.ref va), .val (.ref vb), .unset] [(.ref va)])) rfl rfl (hb hby own_jdk_43_method_13_1)) ?_
  refine own_step (fun t k => XS.aloadN X0.here hx rfl (hb hby own_jdk_43_method_13_2) rfl rfl k) ?_
  show own_Goes _ _ _ _ s₁ (mkF m 3 #[.val (.ref va), .val (.ref vb), .unset] [(.ref vb), (.int (0 : Int32))])
  refine own_step (own_alen X0 hx hZ e0 V_vb (g := (mkF m 3 #[.val (.ref va), .val (.ref vb), .unset] [(.ref vb), (.int (0 : Int32))])) rfl rfl (hb hby own_jdk_43_method_13_3)) ?_
  show own_Goes _ _ _ _ s₁ (mkF m 4 #[.val (.ref va), .val (.ref vb), .unset] [(.int (1 : Int32)), (.int (0 : Int32))])
  refine own_step (fun t k => XS.icmpYes X0.here hx rfl (pc0 := 4) (pc' := 34) rfl (hb hby own_jdk_43_method_13_4) rfl (feq (show ¬ ((0 : Int32) = (1 : Int32)) from (by decide))).2 (by decide) (by decide) k) ?_
  refine own_step (fun t k => XS.iconst X0.here hx rfl (hb hby own_jdk_43_method_13_34) k) ?_
  show own_Goes _ _ _ _ s₁ (mkF m 35 #[.val (.ref va), .val (.ref vb), .unset] [(.int (0 : Int32))])
  exact own_retN X0 hx hlk (t := .boolean) hrt (by simp) (hb hby own_jdk_43_method_13_35) ⟨rfl, N0, e0⟩ (by decide) (by decide)
theorem own_jdk_42_method_66_54 : decode jdk_42_method_66_code 54 = .ok (.iconst 0, 1) := by decide +kernel
set_option maxRecDepth 65536 in
set_option maxHeartbeats 40000000 in
theorem own_seq_01len (l : Launch) (Z : State) (a0 : Array Value) (hw : ∀ d ∈ tables_1, d.before a0 Z = true) (ws : List Jvm.Cond) (a : Addr) (o : Addr) (va : Addr) (vb : Addr) (ka : ClassId) (kb : ClassId) (y0 : Int32) (zc : Int32) (h0 : Heap) (n0 : Nat) (Z0 : n0 ≤ h0.size) (E_o : Exa Z h0 o "java/lang/String") (F_a_coder : Fld Z h0 a "java/lang/String" "coder" "B" (.int (0 : Int32))) (F_o_coder : Fld Z h0 o "java/lang/String" "coder" "B" (.int (0 : Int32))) (F_a_value : Fld Z h0 a "java/lang/String" "value" "[B" (.ref va)) (F_o_value : Fld Z h0 o "java/lang/String" "value" "[B" (.ref vb)) (V_va : Arv Z h0 va ka .byte (0 : Int32) [] (.int (0 : Int32))) (V_vb : Arv Z h0 vb kb .byte (1 : Int32) [(.int y0)] (.int (0 : Int32))) (S_COMPACT_STRINGS : Sta Z h0 "java/lang/String" "COMPACT_STRINGS" "Z" (.int zc)) (hz : ¬ (zc = (0 : Int32))) (neao : ¬ (a = o)) :
    own_Met l Z (⟨"java/lang/String", "equals", "(Ljava/lang/Object;)Z"⟩ : MethodName) jdk_42_method_66_code 3 (some .boolean) ws ({ frames := 1, cells := 0, slots := 0, locals := 14 } : Room) #[(.ref a), (.ref o)] h0 (fun v h L => v = some (.int (0 : Int32)) ∧ Fr n0 L ∧ h = h0) := by
  refine own_body (plainFor_of_name own_pn_java_lang_String) (fun p e s m below meth c s₁ hx hby hml0 hrt hlk hown0 hnm hZ X0 e0 => ?_)
  have N0 := Fr.nil n0
  have hown : s.vm.findClass "java/lang/String" = some m.cls := hown0
  have hml : c.maxLocals = 3 := hml0
  refine own_castG (own_ef11 m a o) ?_
  refine own_step (fun t k => XS.aloadN X0.here hx rfl (hb hby own_jdk_42_method_66_0) rfl rfl k) ?_
  refine own_step (fun t k => XS.aloadN X0.here hx rfl (hb hby own_jdk_42_method_66_1) rfl rfl k) ?_
  show own_Goes _ _ _ _ s₁ (mkF m 2 #[.val (.ref a), .val (.ref o), .unset] [(.ref o), (.ref a)])
  refine own_step (fun t k => Jvm.RoadKit.acmp (g := (mkF m 2 #[.val (.ref a), .val (.ref o), .unset] [(.ref o), (.ref a)])) X0 hx rfl rfl rfl (pc0 := 2) (pc' := 7) (same := false) rfl (hb hby own_jdk_42_method_66_2) rfl (decide_eq_false fun q => neao (Value.ref.inj q)) (by decide) (by decide) k) ?_
  refine own_step (fun t k => XS.aloadN X0.here hx rfl (hb hby own_jdk_42_method_66_7) rfl rfl k) ?_
  show own_Goes _ _ _ _ s₁ (mkF m 8 #[.val (.ref a), .val (.ref o), .unset] [(.ref o)])
  obtain ⟨T1, X1, e1, st1⟩ := instY X0 hx hZ hown (hw _ (List.mem_of_getElem? (i := 76) rfl)) e0 (Ins.self E_o) (g := (mkF m 8 #[.val (.ref a), .val (.ref o), .unset] [(.ref o)])) rfl rfl (hb hby own_jdk_42_method_66_8)
  refine own_step st1 ?_
  show own_Goes _ _ _ _ T1 (mkF m 11 #[.val (.ref a), .val (.ref o), .unset] [(.int (1 : Int32))])
  refine own_step (fun t k => XS.ifNo X1.here hx rfl (hb hby own_jdk_42_method_66_11) rfl ((if0 _ _).trans (feq (show ¬ ((1 : Int32) = (0 : Int32)) from (by decide))).1) k) ?_
  refine own_step (fun t k => XS.aloadN X1.here hx rfl (hb hby own_jdk_42_method_66_14) rfl rfl k) ?_
  show own_Goes _ _ _ _ T1 (mkF m 15 #[.val (.ref a), .val (.ref o), .unset] [(.ref o)])
  obtain ⟨T2, X2, e2, st2⟩ := castY X1 hx hZ hown (hw _ (List.mem_of_getElem? (i := 76) rfl)) e1 (Ins.self E_o) (g := (mkF m 15 #[.val (.ref a), .val (.ref o), .unset] [(.ref o)])) rfl rfl (hb hby own_jdk_42_method_66_15)
  refine own_step st2 ?_
  refine own_step (fun t k => XS.astoreN X2.here hx rfl (hb hby own_jdk_42_method_66_18) rfl rfl (l' := #[.val (.ref a), .val (.ref o), .val (.ref o)]) rfl k) ?_
  show own_Goes _ _ _ _ T2 (mkF m 19 #[.val (.ref a), .val (.ref o), .val (.ref o)] [])
  obtain ⟨T3, X3, e3, st3⟩ := getS2 X2 hx hZ hown (host := "") (Or.inl (hw _ (List.mem_of_getElem? (i := 60) rfl))) Via.refl e2 S_COMPACT_STRINGS (g := (mkF m 19 #[.val (.ref a), .val (.ref o), .val (.ref o)] [])) rfl (hb hby own_jdk_42_method_66_19)
  refine own_step st3 ?_
  show own_Goes _ _ _ _ T3 (mkF m 22 #[.val (.ref a), .val (.ref o), .val (.ref o)] [(.int zc)])
  refine own_step (fun t k => XS.ifNo X3.here hx rfl (hb hby own_jdk_42_method_66_22) rfl ((if0 _ _).trans (feq (show ¬ (zc = (0 : Int32)) from hz)).1) k) ?_
  refine own_step (fun t k => XS.aloadN X3.here hx rfl (hb hby own_jdk_42_method_66_25) rfl rfl k) ?_
  show own_Goes _ _ _ _ T3 (mkF m 26 #[.val (.ref a), .val (.ref o), .val (.ref o)] [(.ref a)])
  obtain ⟨T4, X4, e4, st4⟩ := getF X3 hx hZ hown (host := "") (Or.inl (hw _ (List.mem_of_getElem? (i := 35) rfl))) Via.refl e3 F_a_coder (g := (mkF m 26 #[.val (.ref a), .val (.ref o), .val (.ref o)] [(.ref a)])) rfl rfl (hb hby own_jdk_42_method_66_26)
  refine own_step st4 ?_
  refine own_step (fun t k => XS.aloadN X4.here hx rfl (hb hby own_jdk_42_method_66_29) rfl rfl k) ?_
  show own_Goes _ _ _ _ T4 (mkF m 30 #[.val (.ref a), .val (.ref o), .val (.ref o)] [(.ref o), (.int (0 : Int32))])
  obtain ⟨T5, X5, e5, st5⟩ := getF X4 hx hZ hown (host := "") (Or.inl (hw _ (List.mem_of_getElem? (i := 35) rfl))) Via.refl e4 F_o_coder (g := (mkF m 30 #[.val (.ref a), .val (.ref o), .val (.ref o)] [(.ref o), (.int (0 : Int32))])) rfl rfl (hb hby own_jdk_42_method_66_30)
  refine own_step st5 ?_
  show own_Goes _ _ _ _ T5 (mkF m 33 #[.val (.ref a), .val (.ref o), .val (.ref o)] [(.int (0 : Int32)), (.int (0 : Int32))])
  refine own_step (fun t k => XS.icmpNo X5.here hx rfl (hb hby own_jdk_42_method_66_33) rfl (teq (show (0 : Int32) = (0 : Int32) from (by decide))).2 k) ?_
  refine own_step (fun t k => XS.aloadN X5.here hx rfl (hb hby own_jdk_42_method_66_36) rfl rfl k) ?_
  show own_Goes _ _ _ _ T5 (mkF m 37 #[.val (.ref a), .val (.ref o), .val (.ref o)] [(.ref a)])
  obtain ⟨T6, X6, e6, st6⟩ := getF X5 hx hZ hown (host := "") (Or.inl (hw _ (List.mem_of_getElem? (i := 34) rfl))) Via.refl e5 F_a_value (g := (mkF m 37 #[.val (.ref a), .val (.ref o), .val (.ref o)] [(.ref a)])) rfl rfl (hb hby own_jdk_42_method_66_37)
  refine own_step st6 ?_
  refine own_step (fun t k => XS.aloadN X6.here hx rfl (hb hby own_jdk_42_method_66_40) rfl rfl k) ?_
  show own_Goes _ _ _ _ T6 (mkF m 41 #[.val (.ref a), .val (.ref o), .val (.ref o)] [(.ref o), (.ref va)])
  obtain ⟨T7, X7, e7, st7⟩ := getF X6 hx hZ hown (host := "") (Or.inl (hw _ (List.mem_of_getElem? (i := 34) rfl))) Via.refl e6 F_o_value (g := (mkF m 41 #[.val (.ref a), .val (.ref o), .val (.ref o)] [(.ref o), (.ref va)])) rfl rfl (hb hby own_jdk_42_method_66_41)
  refine own_step st7 ?_
  show own_Goes _ _ _ _ T7 (mkF m 44 #[.val (.ref a), .val (.ref o), .val (.ref o)] [(.ref vb), (.ref va)])
  refine own_callS X7 hx hZ (y := (⟨"java/lang/StringLatin1", "equals", "([B[B)Z"⟩ : MethodName)) hown (hw _ (List.mem_of_getElem? (i := 77) rfl)) (hw _ (List.mem_of_getElem? (i := 78) rfl)) (hw _ (List.mem_of_getElem? (i := 79) rfl)) (hw _ (List.mem_of_getElem? (i := 80) rfl)) (by decide) 0 [(.ref va), (.ref vb)] [] (own_leq_01len l Z a0 hw [] va vb ka kb y0 h0 n0 Z0 V_va V_vb) e7  (by decide) (by decide) (by decide) (by decide) (g := (mkF m 44 #[.val (.ref a), .val (.ref o), .val (.ref o)] [(.ref vb), (.ref va)])) rfl (by rw [hml]; rfl) own_pd6 rfl rfl (by show 2 * 0 + _ ≤ _; exact Nat.le_of_eq rfl) (hb hby own_jdk_42_method_66_44) ?_
  intro T8 v8 L8 X8 hQ8
  obtain ⟨rfl, N8q, e8⟩ := hQ8
  have N8 := Fr.app N0 N8q
  show own_Goes _ _ _ _ T8 (mkF m 47 #[.val (.ref a), .val (.ref o), .val (.ref o)] [(.int (0 : Int32))])
  refine own_step (fun t k => XS.ifYes X8.here hx rfl (pc0 := 47) (pc' := 54) rfl (hb hby own_jdk_42_method_66_47) rfl ((if0 _ _).trans (teq (show (0 : Int32) = (0 : Int32) from (by decide))).1) (by decide) (by decide) k) ?_
  refine own_step (fun t k => XS.iconst X8.here hx rfl (hb hby own_jdk_42_method_66_54) k) ?_
  show own_Goes _ _ _ _ T8 (mkF m 55 #[.val (.ref a), .val (.ref o), .val (.ref o)] [(.int (0 : Int32))])
  exact own_retN X8 hx hlk (t := .boolean) hrt (by simp) (hb hby own_jdk_42_method_66_55) ⟨rfl, N8, e8⟩ (by decide) (by decide)
set_option maxRecDepth 65536 in
set_option maxHeartbeats 40000000 in
theorem own_is_01len (l : Launch) (Z : State) (a0 : Array Value) (hw : ∀ d ∈ tables_1, d.before a0 Z = true) (ws : List Jvm.Cond) (a : Addr) (tz : Addr) (o : Addr) (ty : Addr) (tx : Addr) (va : Addr) (vb : Addr) (ka : ClassId) (kb : ClassId) (y0 : Int32) (zc : Int32) (h0 : Heap) (n0 : Nat) (Z0 : n0 ≤ h0.size) (F_a_type : Fld Z h0 a "com/example/weaverbird/weaverbird/automaton/HoaLexer$Token" "type" "Lcom/example/weaverbird/weaverbird/automaton/HoaLexer$Type;" (.ref ty)) (F_a_text : Fld Z h0 a "com/example/weaverbird/weaverbird/automaton/HoaLexer$Token" "text" "Ljava/lang/String;" (.ref tx)) (E_tx : Exa Z h0 tx "java/lang/String") (E_o : Exa Z h0 o "java/lang/String") (F_tx_coder : Fld Z h0 tx "java/lang/String" "coder" "B" (.int (0 : Int32))) (F_o_coder : Fld Z h0 o "java/lang/String" "coder" "B" (.int (0 : Int32))) (F_tx_value : Fld Z h0 tx "java/lang/String" "value" "[B" (.ref va)) (F_o_value : Fld Z h0 o "java/lang/String" "value" "[B" (.ref vb)) (V_va : Arv Z h0 va ka .byte (0 : Int32) [] (.int (0 : Int32))) (V_vb : Arv Z h0 vb kb .byte (1 : Int32) [(.int y0)] (.int (0 : Int32))) (S_COMPACT_STRINGS : Sta Z h0 "java/lang/String" "COMPACT_STRINGS" "Z" (.int zc)) (hty : ty = tz) (hz : ¬ (zc = (0 : Int32))) (neto : ¬ (tx = o)) :
    own_Met l Z (⟨"com/example/weaverbird/weaverbird/automaton/HoaLexer$Token", "is", "(Lcom/example/weaverbird/weaverbird/automaton/HoaLexer$Type;Ljava/lang/String;)Z"⟩ : MethodName) prog_16_method_2_code 3 (some .boolean) ws ({ frames := 2, cells := 0, slots := 0, locals := 28 } : Room) #[(.ref a), (.ref tz), (.ref o)] h0 (fun v h L => v = some (.int (0 : Int32)) ∧ Fr n0 L ∧ h = h0) := by
  refine own_body (plainFor_of_name own_pn_com_example_weaverbird_weaverbird_automaton_HoaLexer_Token) (fun p e s m below meth c s₁ hx hby hml0 hrt hlk hown0 hnm hZ X0 e0 => ?_)
  have N0 := Fr.nil n0
  have hown : s.vm.findClass "com/example/weaverbird/weaverbird/automaton/HoaLexer$Token" = some m.cls := hown0
  have hml : c.maxLocals = 3 := hml0
  refine own_castG (own_ef9 m a tz o) ?_
  refine own_step (fun t k => XS.aloadN X0.here hx rfl (hb hby own_prog_16_method_2_0) rfl rfl k) ?_
  show own_Goes _ _ _ _ s₁ (mkF m 1 #[.val (.ref a), .val (.ref tz), .val (.ref o)] [(.ref a)])
  obtain ⟨T1, X1, e1, st1⟩ := getF X0 hx hZ hown (host := "") (Or.inl (hw _ (List.mem_of_getElem? (i := 45) rfl))) Via.refl e0 F_a_type (g := (mkF m 1 #[.val (.ref a), .val (.ref tz), .val (.ref o)] [(.ref a)])) rfl rfl (hb hby own_prog_16_method_2_1)
  refine own_step st1 ?_
  refine own_step (fun t k => XS.aloadN X1.here hx rfl (hb hby own_prog_16_method_2_4) rfl rfl k) ?_
  show own_Goes _ _ _ _ T1 (mkF m 5 #[.val (.ref a), .val (.ref tz), .val (.ref o)] [(.ref tz), (.ref ty)])
  refine own_step (fun t k => Jvm.RoadKit.acmp (g := (mkF m 5 #[.val (.ref a), .val (.ref tz), .val (.ref o)] [(.ref tz), (.ref ty)])) X1 hx rfl rfl rfl (pc0 := 5) (pc' := 8) (same := true) rfl (hb hby own_prog_16_method_2_5) rfl (decide_eq_true (congrArg Value.ref hty)) (by decide) (by decide) k) ?_
  refine own_step (fun t k => XS.aloadN X1.here hx rfl (hb hby own_prog_16_method_2_8) rfl rfl k) ?_
  show own_Goes _ _ _ _ T1 (mkF m 9 #[.val (.ref a), .val (.ref tz), .val (.ref o)] [(.ref a)])
  obtain ⟨T2, X2, e2, st2⟩ := getF X1 hx hZ hown (host := "") (Or.inl (hw _ (List.mem_of_getElem? (i := 47) rfl))) Via.refl e1 F_a_text (g := (mkF m 9 #[.val (.ref a), .val (.ref tz), .val (.ref o)] [(.ref a)])) rfl rfl (hb hby own_prog_16_method_2_9)
  refine own_step st2 ?_
  refine own_step (fun t k => XS.aloadN X2.here hx rfl (hb hby own_prog_16_method_2_12) rfl rfl k) ?_
  show own_Goes _ _ _ _ T2 (mkF m 13 #[.val (.ref a), .val (.ref tz), .val (.ref o)] [(.ref o), (.ref tx)])
  refine own_callV X2 hx hZ (y := (⟨"java/lang/String", "equals", "(Ljava/lang/Object;)Z"⟩ : MethodName)) (z := (⟨"java/lang/String", "equals", "(Ljava/lang/Object;)Z"⟩ : MethodName)) hown (hw _ (List.mem_of_getElem? (i := 71) rfl)) (hw _ (List.mem_of_getElem? (i := 72) rfl)) (notFace_of_selects (args := #[]) (mvT hZ (hw _ (List.mem_of_getElem? (i := 74) rfl)))) (hw _ (List.mem_of_getElem? (i := 74) rfl)) (hw _ (List.mem_of_getElem? (i := 73) rfl)) (hw _ (List.mem_of_getElem? (i := 75) rfl)) (hw _ (List.mem_of_getElem? (i := 16) rfl)) (by decide) 0 E_tx [(.ref o)] [] (own_seq_01len l Z a0 hw [] tx o va vb ka kb y0 zc h0 n0 Z0 E_o F_tx_coder F_o_coder F_tx_value F_o_value V_va V_vb S_COMPACT_STRINGS hz neto) e2  (by decide) (by decide) (by decide) (by decide) (g := (mkF m 13 #[.val (.ref a), .val (.ref tz), .val (.ref o)] [(.ref o), (.ref tx)])) rfl (by rw [hml]; rfl) own_pd7 rfl rfl (by show 2 * 0 + _ ≤ _; exact Nat.le_of_eq rfl) (hb hby own_prog_16_method_2_13) ?_
  intro T3 v3 L3 X3 hQ3
  obtain ⟨rfl, N3q, e3⟩ := hQ3
  have N3 := Fr.app N0 N3q
  show own_Goes _ _ _ _ T3 (mkF m 16 #[.val (.ref a), .val (.ref tz), .val (.ref o)] [(.int (0 : Int32))])
  refine own_step (fun t k => XS.ifYes X3.here hx rfl (pc0 := 16) (pc' := 23) rfl (hb hby own_prog_16_method_2_16) rfl ((if0 _ _).trans (teq (show (0 : Int32) = (0 : Int32) from (by decide))).1) (by decide) (by decide) k) ?_
  refine own_step (fun t k => XS.iconst X3.here hx rfl (hb hby own_prog_16_method_2_23) k) ?_
  show own_Goes _ _ _ _ T3 (mkF m 24 #[.val (.ref a), .val (.ref tz), .val (.ref o)] [(.int (0 : Int32))])
  exact own_retN X3 hx hlk (t := .boolean) hrt (by simp) (hb hby own_prog_16_method_2_24) ⟨rfl, N3, e3⟩ (by decide) (by decide)
set_option maxRecDepth 65536 in
set_option maxHeartbeats 40000000 in
theorem own_leq_02len (l : Launch) (Z : State) (a0 : Array Value) (hw : ∀ d ∈ tables_1, d.before a0 Z = true) (ws : List Jvm.Cond) (va : Addr) (vb : Addr) (ka : ClassId) (kb : ClassId) (y0 : Int32) (y1 : Int32) (h0 : Heap) (n0 : Nat) (Z0 : n0 ≤ h0.size) (V_va : Arv Z h0 va ka .byte (0 : Int32) [] (.int (0 : Int32))) (V_vb : Arv Z h0 vb kb .byte (2 : Int32) [(.int y0), (.int y1)] (.int (0 : Int32))) :
    own_Met l Z (⟨"java/lang/StringLatin1", "equals", "([B[B)Z"⟩ : MethodName) jdk_43_method_13_code 3 (some .boolean) ws ({ frames := 0, cells := 0, slots := 0, locals := 0 } : Room) #[(.ref va), (.ref vb)] h0 (fun v h L => v = some (.int (0 : Int32)) ∧ Fr n0 L ∧ h = h0) := by
  refine own_body (plainFor_of_name own_pn_java_lang_StringLatin1) (fun p e s m below meth c s₁ hx hby hml0 hrt hlk hown0 hnm hZ X0 e0 => ?_)
  have N0 := Fr.nil n0
  have hown : s.vm.findClass "java/lang/StringLatin1" = some m.cls := hown0
  have hml : c.maxLocals = 3 := hml0
  refine own_castG (own_ef10 m va vb) ?_
  refine own_step (fun t k => XS.aloadN X0.here hx rfl (hb hby own_jdk_43_method_13_0) rfl rfl k) ?_
  show own_Goes _ _ _ _ s₁ (mkF m 1 #[.val (.ref va), .val (.ref vb), .unset] [(.ref va)])
  refine own_step (own_alen X0 hx hZ e0 V_va (g := (mkF m 1 #[.val (.ref va), .val (.ref vb), .unset] [(.ref va)])) rfl rfl (hb hby own_jdk_43_method_13_1)) ?_
  refine own_step (fun t k => XS.aloadN X0.here hx rfl (hb hby own_jdk_43_method_13_2) rfl rfl k) ?_
  show own_Goes _ _ _ _ s₁ (mkF m 3 #[.val (.ref va), .val (.ref vb), .unset] [(.ref vb), (.int (0 : Int32))])
  refine own_step (own_alen X0 hx hZ e0 V_vb (g := (mkF m 3 #[.val (.ref va), .val (.ref vb), .unset] [(.ref vb), (.int (0 : Int32))])) rfl rfl (hb hby own_jdk_43_method_13_3)) ?_
  show own_Goes _ _ _ _ s₁ (mkF m 4 #[.val (.ref va), .val (.ref vb), .unset] [(.int (2 : Int32)), (.int (0 : Int32))])
  refine own_step (fun t k => XS.icmpYes X0.here hx rfl (pc0 := 4) (pc' := 34) rfl (hb hby own_jdk_43_method_13_4) rfl (feq (show ¬ ((0 : Int32) = (2 : Int32)) from (by decide))).2 (by decide) (by decide) k) ?_
  refine own_step (fun t k => XS.iconst X0.here hx rfl (hb hby own_jdk_43_method_13_34) k) ?_
  show own_Goes _ _ _ _ s₁ (mkF m 35 #[.val (.ref va), .val (.ref vb), .unset] [(.int (0 : Int32))])
  exact own_retN X0 hx hlk (t := .boolean) hrt (by simp) (hb hby own_jdk_43_method_13_35) ⟨rfl, N0, e0⟩ (by decide) (by decide)
set_option maxRecDepth 65536 in
set_option maxHeartbeats 40000000 in
theorem own_seq_02len (l : Launch) (Z : State) (a0 : Array Value) (hw : ∀ d ∈ tables_1, d.before a0 Z = true) (ws : List Jvm.Cond) (a : Addr) (o : Addr) (va : Addr) (vb : Addr) (ka : ClassId) (kb : ClassId) (y0 : Int32) (y1 : Int32) (zc : Int32) (h0 : Heap) (n0 : Nat) (Z0 : n0 ≤ h0.size) (E_o : Exa Z h0 o "java/lang/String") (F_a_coder : Fld Z h0 a "java/lang/String" "coder" "B" (.int (0 : Int32))) (F_o_coder : Fld Z h0 o "java/lang/String" "coder" "B" (.int (0 : Int32))) (F_a_value : Fld Z h0 a "java/lang/String" "value" "[B" (.ref va)) (F_o_value : Fld Z h0 o "java/lang/String" "value" "[B" (.ref vb)) (V_va : Arv Z h0 va ka .byte (0 : Int32) [] (.int (0 : Int32))) (V_vb : Arv Z h0 vb kb .byte (2 : Int32) [(.int y0), (.int y1)] (.int (0 : Int32))) (S_COMPACT_STRINGS : Sta Z h0 "java/lang/String" "COMPACT_STRINGS" "Z" (.int zc)) (hz : ¬ (zc = (0 : Int32))) (neao : ¬ (a = o)) :
    own_Met l Z (⟨"java/lang/String", "equals", "(Ljava/lang/Object;)Z"⟩ : MethodName) jdk_42_method_66_code 3 (some .boolean) ws ({ frames := 1, cells := 0, slots := 0, locals := 14 } : Room) #[(.ref a), (.ref o)] h0 (fun v h L => v = some (.int (0 : Int32)) ∧ Fr n0 L ∧ h = h0) := by
  refine own_body (plainFor_of_name own_pn_java_lang_String) (fun p e s m below meth c s₁ hx hby hml0 hrt hlk hown0 hnm hZ X0 e0 => ?_)
  have N0 := Fr.nil n0
  have hown : s.vm.findClass "java/lang/String" = some m.cls := hown0
  have hml : c.maxLocals = 3 := hml0
  refine own_castG (own_ef11 m a o) ?_
  refine own_step (fun t k => XS.aloadN X0.here hx rfl (hb hby own_jdk_42_method_66_0) rfl rfl k) ?_
  refine own_step (fun t k => XS.aloadN X0.here hx rfl (hb hby own_jdk_42_method_66_1) rfl rfl k) ?_
  show own_Goes _ _ _ _ s₁ (mkF m 2 #[.val (.ref a), .val (.ref o), .unset] [(.ref o), (.ref a)])
  refine own_step (fun t k => Jvm.RoadKit.acmp (g := (mkF m 2 #[.val (.ref a), .val (.ref o), .unset] [(.ref o), (.ref a)])) X0 hx rfl rfl rfl (pc0 := 2) (pc' := 7) (same := false) rfl (hb hby own_jdk_42_method_66_2) rfl (decide_eq_false fun q => neao (Value.ref.inj q)) (by decide) (by decide) k) ?_
  refine own_step (fun t k => XS.aloadN X0.here hx rfl (hb hby own_jdk_42_method_66_7) rfl rfl k) ?_
  show own_Goes _ _ _ _ s₁ (mkF m 8 #[.val (.ref a), .val (.ref o), .unset] [(.ref o)])
  obtain ⟨T1, X1, e1, st1⟩ := instY X0 hx hZ hown (hw _ (List.mem_of_getElem? (i := 76) rfl)) e0 (Ins.self E_o) (g := (mkF m 8 #[.val (.ref a), .val (.ref o), .unset] [(.ref o)])) rfl rfl (hb hby own_jdk_42_method_66_8)
  refine own_step st1 ?_
  show own_Goes _ _ _ _ T1 (mkF m 11 #[.val (.ref a), .val (.ref o), .unset] [(.int (1 : Int32))])
  refine own_step (fun t k => XS.ifNo X1.here hx rfl (hb hby own_jdk_42_method_66_11) rfl ((if0 _ _).trans (feq (show ¬ ((1 : Int32) = (0 : Int32)) from (by decide))).1) k) ?_
  refine own_step (fun t k => XS.aloadN X1.here hx rfl (hb hby own_jdk_42_method_66_14) rfl rfl k) ?_
  show own_Goes _ _ _ _ T1 (mkF m 15 #[.val (.ref a), .val (.ref o), .unset] [(.ref o)])
  obtain ⟨T2, X2, e2, st2⟩ := castY X1 hx hZ hown (hw _ (List.mem_of_getElem? (i := 76) rfl)) e1 (Ins.self E_o) (g := (mkF m 15 #[.val (.ref a), .val (.ref o), .unset] [(.ref o)])) rfl rfl (hb hby own_jdk_42_method_66_15)
  refine own_step st2 ?_
  refine own_step (fun t k => XS.astoreN X2.here hx rfl (hb hby own_jdk_42_method_66_18) rfl rfl (l' := #[.val (.ref a), .val (.ref o), .val (.ref o)]) rfl k) ?_
  show own_Goes _ _ _ _ T2 (mkF m 19 #[.val (.ref a), .val (.ref o), .val (.ref o)] [])
  obtain ⟨T3, X3, e3, st3⟩ := getS2 X2 hx hZ hown (host := "") (Or.inl (hw _ (List.mem_of_getElem? (i := 60) rfl))) Via.refl e2 S_COMPACT_STRINGS (g := (mkF m 19 #[.val (.ref a), .val (.ref o), .val (.ref o)] [])) rfl (hb hby own_jdk_42_method_66_19)
  refine own_step st3 ?_
  show own_Goes _ _ _ _ T3 (mkF m 22 #[.val (.ref a), .val (.ref o), .val (.ref o)] [(.int zc)])
  refine own_step (fun t k => XS.ifNo X3.here hx rfl (hb hby own_jdk_42_method_66_22) rfl ((if0 _ _).trans (feq (show ¬ (zc = (0 : Int32)) from hz)).1) k) ?_
  refine own_step (fun t k => XS.aloadN X3.here hx rfl (hb hby own_jdk_42_method_66_25) rfl rfl k) ?_
  show own_Goes _ _ _ _ T3 (mkF m 26 #[.val (.ref a), .val (.ref o), .val (.ref o)] [(.ref a)])
  obtain ⟨T4, X4, e4, st4⟩ := getF X3 hx hZ hown (host := "") (Or.inl (hw _ (List.mem_of_getElem? (i := 35) rfl))) Via.refl e3 F_a_coder (g := (mkF m 26 #[.val (.ref a), .val (.ref o), .val (.ref o)] [(.ref a)])) rfl rfl (hb hby own_jdk_42_method_66_26)
  refine own_step st4 ?_
  refine own_step (fun t k => XS.aloadN X4.here hx rfl (hb hby own_jdk_42_method_66_29) rfl rfl k) ?_
  show own_Goes _ _ _ _ T4 (mkF m 30 #[.val (.ref a), .val (.ref o), .val (.ref o)] [(.ref o), (.int (0 : Int32))])
  obtain ⟨T5, X5, e5, st5⟩ := getF X4 hx hZ hown (host := "") (Or.inl (hw _ (List.mem_of_getElem? (i := 35) rfl))) Via.refl e4 F_o_coder (g := (mkF m 30 #[.val (.ref a), .val (.ref o), .val (.ref o)] [(.ref o), (.int (0 : Int32))])) rfl rfl (hb hby own_jdk_42_method_66_30)
  refine own_step st5 ?_
  show own_Goes _ _ _ _ T5 (mkF m 33 #[.val (.ref a), .val (.ref o), .val (.ref o)] [(.int (0 : Int32)), (.int (0 : Int32))])
  refine own_step (fun t k => XS.icmpNo X5.here hx rfl (hb hby own_jdk_42_method_66_33) rfl (teq (show (0 : Int32) = (0 : Int32) from (by decide))).2 k) ?_
  refine own_step (fun t k => XS.aloadN X5.here hx rfl (hb hby own_jdk_42_method_66_36) rfl rfl k) ?_
  show own_Goes _ _ _ _ T5 (mkF m 37 #[.val (.ref a), .val (.ref o), .val (.ref o)] [(.ref a)])
  obtain ⟨T6, X6, e6, st6⟩ := getF X5 hx hZ hown (host := "") (Or.inl (hw _ (List.mem_of_getElem? (i := 34) rfl))) Via.refl e5 F_a_value (g := (mkF m 37 #[.val (.ref a), .val (.ref o), .val (.ref o)] [(.ref a)])) rfl rfl (hb hby own_jdk_42_method_66_37)
  refine own_step st6 ?_
  refine own_step (fun t k => XS.aloadN X6.here hx rfl (hb hby own_jdk_42_method_66_40) rfl rfl k) ?_
  show own_Goes _ _ _ _ T6 (mkF m 41 #[.val (.ref a), .val (.ref o), .val (.ref o)] [(.ref o), (.ref va)])
  obtain ⟨T7, X7, e7, st7⟩ := getF X6 hx hZ hown (host := "") (Or.inl (hw _ (List.mem_of_getElem? (i := 34) rfl))) Via.refl e6 F_o_value (g := (mkF m 41 #[.val (.ref a), .val (.ref o), .val (.ref o)] [(.ref o), (.ref va)])) rfl rfl (hb hby own_jdk_42_method_66_41)
  refine own_step st7 ?_
  show own_Goes _ _ _ _ T7 (mkF m 44 #[.val (.ref a), .val (.ref o), .val (.ref o)] [(.ref vb), (.ref va)])
  refine own_callS X7 hx hZ (y := (⟨"java/lang/StringLatin1", "equals", "([B[B)Z"⟩ : MethodName)) hown (hw _ (List.mem_of_getElem? (i := 77) rfl)) (hw _ (List.mem_of_getElem? (i := 78) rfl)) (hw _ (List.mem_of_getElem? (i := 79) rfl)) (hw _ (List.mem_of_getElem? (i := 80) rfl)) (by decide) 0 [(.ref va), (.ref vb)] [] (own_leq_02len l Z a0 hw [] va vb ka kb y0 y1 h0 n0 Z0 V_va V_vb) e7  (by decide) (by decide) (by decide) (by decide) (g := (mkF m 44 #[.val (.ref a), .val (.ref o), .val (.ref o)] [(.ref vb), (.ref va)])) rfl (by rw [hml]; rfl) own_pd6 rfl rfl (by show 2 * 0 + _ ≤ _; exact Nat.le_of_eq rfl) (hb hby own_jdk_42_method_66_44) ?_
  intro T8 v8 L8 X8 hQ8
  obtain ⟨rfl, N8q, e8⟩ := hQ8
  have N8 := Fr.app N0 N8q
  show own_Goes _ _ _ _ T8 (mkF m 47 #[.val (.ref a), .val (.ref o), .val (.ref o)] [(.int (0 : Int32))])
  refine own_step (fun t k => XS.ifYes X8.here hx rfl (pc0 := 47) (pc' := 54) rfl (hb hby own_jdk_42_method_66_47) rfl ((if0 _ _).trans (teq (show (0 : Int32) = (0 : Int32) from (by decide))).1) (by decide) (by decide) k) ?_
  refine own_step (fun t k => XS.iconst X8.here hx rfl (hb hby own_jdk_42_method_66_54) k) ?_
  show own_Goes _ _ _ _ T8 (mkF m 55 #[.val (.ref a), .val (.ref o), .val (.ref o)] [(.int (0 : Int32))])
  exact own_retN X8 hx hlk (t := .boolean) hrt (by simp) (hb hby own_jdk_42_method_66_55) ⟨rfl, N8, e8⟩ (by decide) (by decide)
set_option maxRecDepth 65536 in
set_option maxHeartbeats 40000000 in
theorem own_is_02len (l : Launch) (Z : State) (a0 : Array Value) (hw : ∀ d ∈ tables_1, d.before a0 Z = true) (ws : List Jvm.Cond) (a : Addr) (tz : Addr) (o : Addr) (ty : Addr) (tx : Addr) (va : Addr) (vb : Addr) (ka : ClassId) (kb : ClassId) (y0 : Int32) (y1 : Int32) (zc : Int32) (h0 : Heap) (n0 : Nat) (Z0 : n0 ≤ h0.size) (F_a_type : Fld Z h0 a "com/example/weaverbird/weaverbird/automaton/HoaLexer$Token" "type" "Lcom/example/weaverbird/weaverbird/automaton/HoaLexer$Type;" (.ref ty)) (F_a_text : Fld Z h0 a "com/example/weaverbird/weaverbird/automaton/HoaLexer$Token" "text" "Ljava/lang/String;" (.ref tx)) (E_tx : Exa Z h0 tx "java/lang/String") (E_o : Exa Z h0 o "java/lang/String") (F_tx_coder : Fld Z h0 tx "java/lang/String" "coder" "B" (.int (0 : Int32))) (F_o_coder : Fld Z h0 o "java/lang/String" "coder" "B" (.int (0 : Int32))) (F_tx_value : Fld Z h0 tx "java/lang/String" "value" "[B" (.ref va)) (F_o_value : Fld Z h0 o "java/lang/String" "value" "[B" (.ref vb)) (V_va : Arv Z h0 va ka .byte (0 : Int32) [] (.int (0 : Int32))) (V_vb : Arv Z h0 vb kb .byte (2 : Int32) [(.int y0), (.int y1)] (.int (0 : Int32))) (S_COMPACT_STRINGS : Sta Z h0 "java/lang/String" "COMPACT_STRINGS" "Z" (.int zc)) (hty : ty = tz) (hz : ¬ (zc = (0 : Int32))) (neto : ¬ (tx = o)) :
    own_Met l Z (⟨"com/example/weaverbird/weaverbird/automaton/HoaLexer$Token", "is", "(Lcom/example/weaverbird/weaverbird/automaton/HoaLexer$Type;Ljava/lang/String;)Z"⟩ : MethodName) prog_16_method_2_code 3 (some .boolean) ws ({ frames := 2, cells := 0, slots := 0, locals := 28 } : Room) #[(.ref a), (.ref tz), (.ref o)] h0 (fun v h L => v = some (.int (0 : Int32)) ∧ Fr n0 L ∧ h = h0) := by
  refine own_body (plainFor_of_name own_pn_com_example_weaverbird_weaverbird_automaton_HoaLexer_Token) (fun p e s m below meth c s₁ hx hby hml0 hrt hlk hown0 hnm hZ X0 e0 => ?_)
  have N0 := Fr.nil n0
  have hown : s.vm.findClass "com/example/weaverbird/weaverbird/automaton/HoaLexer$Token" = some m.cls := hown0
  have hml : c.maxLocals = 3 := hml0
  refine own_castG (own_ef9 m a tz o) ?_
  refine own_step (fun t k => XS.aloadN X0.here hx rfl (hb hby own_prog_16_method_2_0) rfl rfl k) ?_
  show own_Goes _ _ _ _ s₁ (mkF m 1 #[.val (.ref a), .val (.ref tz), .val (.ref o)] [(.ref a)])
  obtain ⟨T1, X1, e1, st1⟩ := getF X0 hx hZ hown (host := "") (Or.inl (hw _ (List.mem_of_getElem? (i := 45) rfl))) Via.refl e0 F_a_type (g := (mkF m 1 #[.val (.ref a), .val (.ref tz), .val (.ref o)] [(.ref a)])) rfl rfl (hb hby own_prog_16_method_2_1)
  refine own_step st1 ?_
  refine own_step (fun t k => XS.aloadN X1.here hx rfl (hb hby own_prog_16_method_2_4) rfl rfl k) ?_
  show own_Goes _ _ _ _ T1 (mkF m 5 #[.val (.ref a), .val (.ref tz), .val (.ref o)] [(.ref tz), (.ref ty)])
  refine own_step (fun t k => Jvm.RoadKit.acmp (g := (mkF m 5 #[.val (.ref a), .val (.ref tz), .val (.ref o)] [(.ref tz), (.ref ty)])) X1 hx rfl rfl rfl (pc0 := 5) (pc' := 8) (same := true) rfl (hb hby own_prog_16_method_2_5) rfl (decide_eq_true (congrArg Value.ref hty)) (by decide) (by decide) k) ?_
  refine own_step (fun t k => XS.aloadN X1.here hx rfl (hb hby own_prog_16_method_2_8) rfl rfl k) ?_
  show own_Goes _ _ _ _ T1 (mkF m 9 #[.val (.ref a), .val (.ref tz), .val (.ref o)] [(.ref a)])
  obtain ⟨T2, X2, e2, st2⟩ := getF X1 hx hZ hown (host := "") (Or.inl (hw _ (List.mem_of_getElem? (i := 47) rfl))) Via.refl e1 F_a_text (g := (mkF m 9 #[.val (.ref a), .val (.ref tz), .val (.ref o)] [(.ref a)])) rfl rfl (hb hby own_prog_16_method_2_9)
  refine own_step st2 ?_
  refine own_step (fun t k => XS.aloadN X2.here hx rfl (hb hby own_prog_16_method_2_12) rfl rfl k) ?_
  show own_Goes _ _ _ _ T2 (mkF m 13 #[.val (.ref a), .val (.ref tz), .val (.ref o)] [(.ref o), (.ref tx)])
  refine own_callV X2 hx hZ (y := (⟨"java/lang/String", "equals", "(Ljava/lang/Object;)Z"⟩ : MethodName)) (z := (⟨"java/lang/String", "equals", "(Ljava/lang/Object;)Z"⟩ : MethodName)) hown (hw _ (List.mem_of_getElem? (i := 71) rfl)) (hw _ (List.mem_of_getElem? (i := 72) rfl)) (notFace_of_selects (args := #[]) (mvT hZ (hw _ (List.mem_of_getElem? (i := 74) rfl)))) (hw _ (List.mem_of_getElem? (i := 74) rfl)) (hw _ (List.mem_of_getElem? (i := 73) rfl)) (hw _ (List.mem_of_getElem? (i := 75) rfl)) (hw _ (List.mem_of_getElem? (i := 16) rfl)) (by decide) 0 E_tx [(.ref o)] [] (own_seq_02len l Z a0 hw [] tx o va vb ka kb y0 y1 zc h0 n0 Z0 E_o F_tx_coder F_o_coder F_tx_value F_o_value V_va V_vb S_COMPACT_STRINGS hz neto) e2  (by decide) (by decide) (by decide) (by decide) (g := (mkF m 13 #[.val (.ref a), .val (.ref tz), .val (.ref o)] [(.ref o), (.ref tx)])) rfl (by rw [hml]; rfl) own_pd7 rfl rfl (by show 2 * 0 + _ ≤ _; exact Nat.le_of_eq rfl) (hb hby own_prog_16_method_2_13) ?_
  intro T3 v3 L3 X3 hQ3
  obtain ⟨rfl, N3q, e3⟩ := hQ3
  have N3 := Fr.app N0 N3q
  show own_Goes _ _ _ _ T3 (mkF m 16 #[.val (.ref a), .val (.ref tz), .val (.ref o)] [(.int (0 : Int32))])
  refine own_step (fun t k => XS.ifYes X3.here hx rfl (pc0 := 16) (pc' := 23) rfl (hb hby own_prog_16_method_2_16) rfl ((if0 _ _).trans (teq (show (0 : Int32) = (0 : Int32) from (by decide))).1) (by decide) (by decide) k) ?_
  refine own_step (fun t k => XS.iconst X3.here hx rfl (hb hby own_prog_16_method_2_23) k) ?_
  show own_Goes _ _ _ _ T3 (mkF m 24 #[.val (.ref a), .val (.ref tz), .val (.ref o)] [(.int (0 : Int32))])
  exact own_retN X3 hx hlk (t := .boolean) hrt (by simp) (hb hby own_prog_16_method_2_24) ⟨rfl, N3, e3⟩ (by decide) (by decide)
set_option maxRecDepth 65536 in
set_option maxHeartbeats 40000000 in
theorem own_leq_10len (l : Launch) (Z : State) (a0 : Array Value) (hw : ∀ d ∈ tables_1, d.before a0 Z = true) (ws : List Jvm.Cond) (va : Addr) (vb : Addr) (ka : ClassId) (kb : ClassId) (x0 : Int32) (h0 : Heap) (n0 : Nat) (Z0 : n0 ≤ h0.size) (V_va : Arv Z h0 va ka .byte (1 : Int32) [(.int x0)] (.int (0 : Int32))) (V_vb : Arv Z h0 vb kb .byte (0 : Int32) [] (.int (0 : Int32))) :
    own_Met l Z (⟨"java/lang/StringLatin1", "equals", "([B[B)Z"⟩ : MethodName) jdk_43_method_13_code 3 (some .boolean) ws ({ frames := 0, cells := 0, slots := 0, locals := 0 } : Room) #[(.ref va), (.ref vb)] h0 (fun v h L => v = some (.int (0 : Int32)) ∧ Fr n0 L ∧ h = h0) := by
  refine own_body (plainFor_of_name own_pn_java_lang_StringLatin1) (fun p e s m below meth c s₁ hx hby hml0 hrt hlk hown0 hnm hZ X0 e0 => ?_)
  have N0 := Fr.nil n0
  have hown : s.vm.findClass "java/lang/StringLatin1" = some m.cls := hown0
  have hml : c.maxLocals = 3 := hml0
  refine own_castG (own_ef10 m va vb) ?_
  refine own_step (fun t k => XS.aloadN X0.here hx rfl (hb hby own_jdk_43_method_13_0) rfl rfl k) ?_
  show own_Goes _ _ _ _ s₁ (mkF m 1 #[.val (.ref va), .val (.ref vb), .unset] [(.ref va)])
  refine own_step (own_alen X0 hx hZ e0 V_va (g := (mkF m 1 #[.val (.ref va), .val (.ref vb), .unset] [(.ref va)])) rfl rfl (hb hby own_jdk_43_method_13_1)) ?_
  refine own_step (fun t k => XS.aloadN X0.here hx rfl (hb hby own_jdk_43_method_13_2) rfl rfl k) ?_
  show own_Goes _ _ _ _ s₁ (mkF m 3 #[.val (.ref va), .val (.ref vb), .unset] [(.ref vb), (.int (1 : Int32))])
  refine own_step (own_alen X0 hx hZ e0 V_vb (g := (mkF m 3 #[.val (.ref va), .val (.ref vb), .unset] [(.ref vb), (.int (1 : Int32))])) rfl rfl (hb hby own_jdk_43_method_13_3)) ?_
  show own_Goes _ _ _ _ s₁ (mkF m 4 #[.val (.ref va), .val (.ref vb), .unset] [(.int (0 : Int32)), (.int (1 : Int32))])
  refine own_step (fun t k => XS.icmpYes X0.here hx rfl (pc0 := 4) (pc' := 34) rfl (hb hby own_jdk_43_method_13_4) rfl (feq (show ¬ ((1 : Int32) = (0 : Int32)) from (by decide))).2 (by decide) (by decide) k) ?_
  refine own_step (fun t k => XS.iconst X0.here hx rfl (hb hby own_jdk_43_method_13_34) k) ?_
  show own_Goes _ _ _ _ s₁ (mkF m 35 #[.val (.ref va), .val (.ref vb), .unset] [(.int (0 : Int32))])
  exact own_retN X0 hx hlk (t := .boolean) hrt (by simp) (hb hby own_jdk_43_method_13_35) ⟨rfl, N0, e0⟩ (by decide) (by decide)
set_option maxRecDepth 65536 in
set_option maxHeartbeats 40000000 in
theorem own_seq_10len (l : Launch) (Z : State) (a0 : Array Value) (hw : ∀ d ∈ tables_1, d.before a0 Z = true) (ws : List Jvm.Cond) (a : Addr) (o : Addr) (va : Addr) (vb : Addr) (ka : ClassId) (kb : ClassId) (x0 : Int32) (zc : Int32) (h0 : Heap) (n0 : Nat) (Z0 : n0 ≤ h0.size) (E_o : Exa Z h0 o "java/lang/String") (F_a_coder : Fld Z h0 a "java/lang/String" "coder" "B" (.int (0 : Int32))) (F_o_coder : Fld Z h0 o "java/lang/String" "coder" "B" (.int (0 : Int32))) (F_a_value : Fld Z h0 a "java/lang/String" "value" "[B" (.ref va)) (F_o_value : Fld Z h0 o "java/lang/String" "value" "[B" (.ref vb)) (V_va : Arv Z h0 va ka .byte (1 : Int32) [(.int x0)] (.int (0 : Int32))) (V_vb : Arv Z h0 vb kb .byte (0 : Int32) [] (.int (0 : Int32))) (S_COMPACT_STRINGS : Sta Z h0 "java/lang/String" "COMPACT_STRINGS" "Z" (.int zc)) (hz : ¬ (zc = (0 : Int32))) (neao : ¬ (a = o)) :
    own_Met l Z (⟨"java/lang/String", "equals", "(Ljava/lang/Object;)Z"⟩ : MethodName) jdk_42_method_66_code 3 (some .boolean) ws ({ frames := 1, cells := 0, slots := 0, locals := 14 } : Room) #[(.ref a), (.ref o)] h0 (fun v h L => v = some (.int (0 : Int32)) ∧ Fr n0 L ∧ h = h0) := by
  refine own_body (plainFor_of_name own_pn_java_lang_String) (fun p e s m below meth c s₁ hx hby hml0 hrt hlk hown0 hnm hZ X0 e0 => ?_)
  have N0 := Fr.nil n0
  have hown : s.vm.findClass "java/lang/String" = some m.cls := hown0
  have hml : c.maxLocals = 3 := hml0
  refine own_castG (own_ef11 m a o) ?_
  refine own_step (fun t k => XS.aloadN X0.here hx rfl (hb hby own_jdk_42_method_66_0) rfl rfl k) ?_
  refine own_step (fun t k => XS.aloadN X0.here hx rfl (hb hby own_jdk_42_method_66_1) rfl rfl k) ?_
  show own_Goes _ _ _ _ s₁ (mkF m 2 #[.val (.ref a), .val (.ref o), .unset] [(.ref o), (.ref a)])
  refine own_step (fun t k => Jvm.RoadKit.acmp (g := (mkF m 2 #[.val (.ref a), .val (.ref o), .unset] [(.ref o), (.ref a)])) X0 hx rfl rfl rfl (pc0 := 2) (pc' := 7) (same := false) rfl (hb hby own_jdk_42_method_66_2) rfl (decide_eq_false fun q => neao (Value.ref.inj q)) (by decide) (by decide) k) ?_
  refine own_step (fun t k => XS.aloadN X0.here hx rfl (hb hby own_jdk_42_method_66_7) rfl rfl k) ?_
  show own_Goes _ _ _ _ s₁ (mkF m 8 #[.val (.ref a), .val (.ref o), .unset] [(.ref o)])
  obtain ⟨T1, X1, e1, st1⟩ := instY X0 hx hZ hown (hw _ (List.mem_of_getElem? (i := 76) rfl)) e0 (Ins.self E_o) (g := (mkF m 8 #[.val (.ref a), .val (.ref o), .unset] [(.ref o)])) rfl rfl (hb hby own_jdk_42_method_66_8)
  refine own_step st1 ?_
  show own_Goes _ _ _ _ T1 (mkF m 11 #[.val (.ref a), .val (.ref o), .unset] [(.int (1 : Int32))])
  refine own_step (fun t k => XS.ifNo X1.here hx rfl (hb hby own_jdk_42_method_66_11) rfl ((if0 _ _).trans (feq (show ¬ ((1 : Int32) = (0 : Int32)) from (by decide))).1) k) ?_
  refine own_step (fun t k => XS.aloadN X1.here hx rfl (hb hby own_jdk_42_method_66_14) rfl rfl k) ?_
  show own_Goes _ _ _ _ T1 (mkF m 15 #[.val (.ref a), .val (.ref o), .unset] [(.ref o)])
  obtain ⟨T2, X2, e2, st2⟩ := castY X1 hx hZ hown (hw _ (List.mem_of_getElem? (i := 76) rfl)) e1 (Ins.self E_o) (g := (mkF m 15 #[.val (.ref a), .val (.ref o), .unset] [(.ref o)])) rfl rfl (hb hby own_jdk_42_method_66_15)
  refine own_step st2 ?_
  refine own_step (fun t k => XS.astoreN X2.here hx rfl (hb hby own_jdk_42_method_66_18) rfl rfl (l' := #[.val (.ref a), .val (.ref o), .val (.ref o)]) rfl k) ?_
  show own_Goes _ _ _ _ T2 (mkF m 19 #[.val (.ref a), .val (.ref o), .val (.ref o)] [])
  obtain ⟨T3, X3, e3, st3⟩ := getS2 X2 hx hZ hown (host := "") (Or.inl (hw _ (List.mem_of_getElem? (i := 60) rfl))) Via.refl e2 S_COMPACT_STRINGS (g := (mkF m 19 #[.val (.ref a), .val (.ref o), .val (.ref o)] [])) rfl (hb hby own_jdk_42_method_66_19)
  refine own_step st3 ?_
  show own_Goes _ _ _ _ T3 (mkF m 22 #[.val (.ref a), .val (.ref o), .val (.ref o)] [(.int zc)])
  refine own_step (fun t k => XS.ifNo X3.here hx rfl (hb hby own_jdk_42_method_66_22) rfl ((if0 _ _).trans (feq (show ¬ (zc = (0 : Int32)) from hz)).1) k) ?_
  refine own_step (fun t k => XS.aloadN X3.here hx rfl (hb hby own_jdk_42_method_66_25) rfl rfl k) ?_
  show own_Goes _ _ _ _ T3 (mkF m 26 #[.val (.ref a), .val (.ref o), .val (.ref o)] [(.ref a)])
  obtain ⟨T4, X4, e4, st4⟩ := getF X3 hx hZ hown (host := "") (Or.inl (hw _ (List.mem_of_getElem? (i := 35) rfl))) Via.refl e3 F_a_coder (g := (mkF m 26 #[.val (.ref a), .val (.ref o), .val (.ref o)] [(.ref a)])) rfl rfl (hb hby own_jdk_42_method_66_26)
  refine own_step st4 ?_
  refine own_step (fun t k => XS.aloadN X4.here hx rfl (hb hby own_jdk_42_method_66_29) rfl rfl k) ?_
  show own_Goes _ _ _ _ T4 (mkF m 30 #[.val (.ref a), .val (.ref o), .val (.ref o)] [(.ref o), (.int (0 : Int32))])
  obtain ⟨T5, X5, e5, st5⟩ := getF X4 hx hZ hown (host := "") (Or.inl (hw _ (List.mem_of_getElem? (i := 35) rfl))) Via.refl e4 F_o_coder (g := (mkF m 30 #[.val (.ref a), .val (.ref o), .val (.ref o)] [(.ref o), (.int (0 : Int32))])) rfl rfl (hb hby own_jdk_42_method_66_30)
  refine own_step st5 ?_
  show own_Goes _ _ _ _ T5 (mkF m 33 #[.val (.ref a), .val (.ref o), .val (.ref o)] [(.int (0 : Int32)), (.int (0 : Int32))])
  refine own_step (fun t k => XS.icmpNo X5.here hx rfl (hb hby own_jdk_42_method_66_33) rfl (teq (show (0 : Int32) = (0 : Int32) from (by decide))).2 k) ?_
  refine own_step (fun t k => XS.aloadN X5.here hx rfl (hb hby own_jdk_42_method_66_36) rfl rfl k) ?_
  show own_Goes _ _ _ _ T5 (mkF m 37 #[.val (.ref a), .val (.ref o), .val (.ref o)] [(.ref a)])
  obtain ⟨T6, X6, e6, st6⟩ := getF X5 hx hZ hown (host := "") (Or.inl (hw _ (List.mem_of_getElem? (i := 34) rfl))) Via.refl e5 F_a_value (g := (mkF m 37 #[.val (.ref a), .val (.ref o), .val (.ref o)] [(.ref a)])) rfl rfl (hb hby own_jdk_42_method_66_37)
  refine own_step st6 ?_
  refine own_step (fun t k => XS.aloadN X6.here hx rfl (hb hby own_jdk_42_method_66_40) rfl rfl k) ?_
  show own_Goes _ _ _ _ T6 (mkF m 41 #[.val (.ref a), .val (.ref o), .val (.ref o)] [(.ref o), (.ref va)])
  obtain ⟨T7, X7, e7, st7⟩ := getF X6 hx hZ hown (host := "") (Or.inl (hw _ (List.mem_of_getElem? (i := 34) rfl))) Via.refl e6 F_o_value (g := (mkF m 41 #[.val (.ref a), .val (.ref o), .val (.ref o)] [(.ref o), (.ref va)])) rfl rfl (hb hby own_jdk_42_method_66_41)
  refine own_step st7 ?_
  show own_Goes _ _ _ _ T7 (mkF m 44 #[.val (.ref a), .val (.ref o), .val (.ref o)] [(.ref vb), (.ref va)])
  refine own_callS X7 hx hZ (y := (⟨"java/lang/StringLatin1", "equals", "([B[B)Z"⟩ : MethodName)) hown (hw _ (List.mem_of_getElem? (i := 77) rfl)) (hw _ (List.mem_of_getElem? (i := 78) rfl)) (hw _ (List.mem_of_getElem? (i := 79) rfl)) (hw _ (List.mem_of_getElem? (i := 80) rfl)) (by decide) 0 [(.ref va), (.ref vb)] [] (own_leq_10len l Z a0 hw [] va vb ka kb x0 h0 n0 Z0 V_va V_vb) e7  (by decide) (by decide) (by decide) (by decide) (g := (mkF m 44 #[.val (.ref a), .val (.ref o), .val (.ref o)] [(.ref vb), (.ref va)])) rfl (by rw [hml]; rfl) own_pd6 rfl rfl (by show 2 * 0 + _ ≤ _; exact Nat.le_of_eq rfl) (hb hby own_jdk_42_method_66_44) ?_
  intro T8 v8 L8 X8 hQ8
  obtain ⟨rfl, N8q, e8⟩ := hQ8
  have N8 := Fr.app N0 N8q
  show own_Goes _ _ _ _ T8 (mkF m 47 #[.val (.ref a), .val (.ref o), .val (.ref o)] [(.int (0 : Int32))])
  refine own_step (fun t k => XS.ifYes X8.here hx rfl (pc0 := 47) (pc' := 54) rfl (hb hby own_jdk_42_method_66_47) rfl ((if0 _ _).trans (teq (show (0 : Int32) = (0 : Int32) from (by decide))).1) (by decide) (by decide) k) ?_
  refine own_step (fun t k => XS.iconst X8.here hx rfl (hb hby own_jdk_42_method_66_54) k) ?_
  show own_Goes _ _ _ _ T8 (mkF m 55 #[.val (.ref a), .val (.ref o), .val (.ref o)] [(.int (0 : Int32))])
  exact own_retN X8 hx hlk (t := .boolean) hrt (by simp) (hb hby own_jdk_42_method_66_55) ⟨rfl, N8, e8⟩ (by decide) (by decide)
set_option maxRecDepth 65536 in
set_option maxHeartbeats 40000000 in
theorem own_is_10len (l : Launch) (Z : State) (a0 : Array Value) (hw : ∀ d ∈ tables_1, d.before a0 Z = true) (ws : List Jvm.Cond) (a : Addr) (tz : Addr) (o : Addr) (ty : Addr) (tx : Addr) (va : Addr) (vb : Addr) (ka : ClassId) (kb : ClassId) (x0 : Int32) (zc : Int32) (h0 : Heap) (n0 : Nat) (Z0 : n0 ≤ h0.size) (F_a_type : Fld Z h0 a "com/example/weaverbird/weaverbird/automaton/HoaLexer$Token" "type" "Lcom/example/weaverbird/weaverbird/automaton/HoaLexer$Type;" (.ref ty)) (F_a_text : Fld Z h0 a "com/example/weaverbird/weaverbird/automaton/HoaLexer$Token" "text" "Ljava/lang/String;" (.ref tx)) (E_tx : Exa Z h0 tx "java/lang/String") (E_o : Exa Z h0 o "java/lang/String") (F_tx_coder : Fld Z h0 tx "java/lang/String" "coder" "B" (.int (0 : Int32))) (F_o_coder : Fld Z h0 o "java/lang/String" "coder" "B" (.int (0 : Int32))) (F_tx_value : Fld Z h0 tx "java/lang/String" "value" "[B" (.ref va)) (F_o_value : Fld Z h0 o "java/lang/String" "value" "[B" (.ref vb)) (V_va : Arv Z h0 va ka .byte (1 : Int32) [(.int x0)] (.int (0 : Int32))) (V_vb : Arv Z h0 vb kb .byte (0 : Int32) [] (.int (0 : Int32))) (S_COMPACT_STRINGS : Sta Z h0 "java/lang/String" "COMPACT_STRINGS" "Z" (.int zc)) (hty : ty = tz) (hz : ¬ (zc = (0 : Int32))) (neto : ¬ (tx = o)) :
    own_Met l Z (⟨"com/example/weaverbird/weaverbird/automaton/HoaLexer$Token", "is", "(Lcom/example/weaverbird/weaverbird/automaton/HoaLexer$Type;Ljava/lang/String;)Z"⟩ : MethodName) prog_16_method_2_code 3 (some .boolean) ws ({ frames := 2, cells := 0, slots := 0, locals := 28 } : Room) #[(.ref a), (.ref tz), (.ref o)] h0 (fun v h L => v = some (.int (0 : Int32)) ∧ Fr n0 L ∧ h = h0) := by
  refine own_body (plainFor_of_name own_pn_com_example_weaverbird_weaverbird_automaton_HoaLexer_Token) (fun p e s m below meth c s₁ hx hby hml0 hrt hlk hown0 hnm hZ X0 e0 => ?_)
  have N0 := Fr.nil n0
  have hown : s.vm.findClass "com/example/weaverbird/weaverbird/automaton/HoaLexer$Token" = some m.cls := hown0
  have hml : c.maxLocals = 3 := hml0
  refine own_castG (own_ef9 m a tz o) ?_
  refine own_step (fun t k => XS.aloadN X0.here hx rfl (hb hby own_prog_16_method_2_0) rfl rfl k) ?_
  show own_Goes _ _ _ _ s₁ (mkF m 1 #[.val (.ref a), .val (.ref tz), .val (.ref o)] [(.ref a)])
  obtain ⟨T1, X1, e1, st1⟩ := getF X0 hx hZ hown (host := "") (Or.inl (hw _ (List.mem_of_getElem? (i := 45) rfl))) Via.refl e0 F_a_type (g := (mkF m 1 #[.val (.ref a), .val (.ref tz), .val (.ref o)] [(.ref a)])) rfl rfl (hb hby own_prog_16_method_2_1)
  refine own_step st1 ?_
  refine own_step (fun t k => XS.aloadN X1.here hx rfl (hb hby own_prog_16_method_2_4) rfl rfl k) ?_
  show own_Goes _ _ _ _ T1 (mkF m 5 #[.val (.ref a), .val (.ref tz), .val (.ref o)] [(.ref tz), (.ref ty)])
  refine own_step (fun t k => Jvm.RoadKit.acmp (g := (mkF m 5 #[.val (.ref a), .val (.ref tz), .val (.ref o)] [(.ref tz), (.ref ty)])) X1 hx rfl rfl rfl (pc0 := 5) (pc' := 8) (same := true) rfl (hb hby own_prog_16_method_2_5) rfl (decide_eq_true (congrArg Value.ref hty)) (by decide) (by decide) k) ?_
  refine own_step (fun t k => XS.aloadN X1.here hx rfl (hb hby own_prog_16_method_2_8) rfl rfl k) ?_
  show own_Goes _ _ _ _ T1 (mkF m 9 #[.val (.ref a), .val (.ref tz), .val (.ref o)] [(.ref a)])
  obtain ⟨T2, X2, e2, st2⟩ := getF X1 hx hZ hown (host := "") (Or.inl (hw _ (List.mem_of_getElem? (i := 47) rfl))) Via.refl e1 F_a_text (g := (mkF m 9 #[.val (.ref a), .val (.ref tz), .val (.ref o)] [(.ref a)])) rfl rfl (hb hby own_prog_16_method_2_9)
  refine own_step st2 ?_
  refine own_step (fun t k => XS.aloadN X2.here hx rfl (hb hby own_prog_16_method_2_12) rfl rfl k) ?_
  show own_Goes _ _ _ _ T2 (mkF m 13 #[.val (.ref a), .val (.ref tz), .val (.ref o)] [(.ref o), (.ref tx)])
  refine own_callV X2 hx hZ (y := (⟨"java/lang/String", "equals", "(Ljava/lang/Object;)Z"⟩ : MethodName)) (z := (⟨"java/lang/String", "equals", "(Ljava/lang/Object;)Z"⟩ : MethodName)) hown (hw _ (List.mem_of_getElem? (i := 71) rfl)) (hw _ (List.mem_of_getElem? (i := 72) rfl)) (notFace_of_selects (args := #[]) (mvT hZ (hw _ (List.mem_of_getElem? (i := 74) rfl)))) (hw _ (List.mem_of_getElem? (i := 74) rfl)) (hw _ (List.mem_of_getElem? (i := 73) rfl)) (hw _ (List.mem_of_getElem? (i := 75) rfl)) (hw _ (List.mem_of_getElem? (i := 16) rfl)) (by decide) 0 E_tx [(.ref o)] [] (own_seq_10len l Z a0 hw [] tx o va vb ka kb x0 zc h0 n0 Z0 E_o F_tx_coder F_o_coder F_tx_value F_o_value V_va V_vb S_COMPACT_STRINGS hz neto) e2  (by decide) (by decide) (by decide) (by decide) (g := (mkF m 13 #[.val (.ref a), .val (.ref tz), .val (.ref o)] [(.ref o), (.ref tx)])) rfl (by rw [hml]; rfl) own_pd7 rfl rfl (by show 2 * 0 + _ ≤ _; exact Nat.le_of_eq rfl) (hb hby own_prog_16_method_2_13) ?_
  intro T3 v3 L3 X3 hQ3
  obtain ⟨rfl, N3q, e3⟩ := hQ3
  have N3 := Fr.app N0 N3q
  show own_Goes _ _ _ _ T3 (mkF m 16 #[.val (.ref a), .val (.ref tz), .val (.ref o)] [(.int (0 : Int32))])
  refine own_step (fun t k => XS.ifYes X3.here hx rfl (pc0 := 16) (pc' := 23) rfl (hb hby own_prog_16_method_2_16) rfl ((if0 _ _).trans (teq (show (0 : Int32) = (0 : Int32) from (by decide))).1) (by decide) (by decide) k) ?_
  refine own_step (fun t k => XS.iconst X3.here hx rfl (hb hby own_prog_16_method_2_23) k) ?_
  show own_Goes _ _ _ _ T3 (mkF m 24 #[.val (.ref a), .val (.ref tz), .val (.ref o)] [(.int (0 : Int32))])
  exact own_retN X3 hx hlk (t := .boolean) hrt (by simp) (hb hby own_prog_16_method_2_24) ⟨rfl, N3, e3⟩ (by decide) (by decide)
theorem own_jdk_43_method_13_15 : decode jdk_43_method_13_code 15 = .ok (.aload_n 0, 1) := by decide +kernel
theorem own_jdk_43_method_13_16 : decode jdk_43_method_13_code 16 = .ok (.iload_n 2, 1) := by decide +kernel
theorem own_jdk_43_method_13_17 : decode jdk_43_method_13_code 17 = .ok (.baload, 1) := by decide +kernel
theorem own_jdk_43_method_13_18 : decode jdk_43_method_13_code 18 = .ok (.aload_n 1, 1) := by decide +kernel
theorem own_jdk_43_method_13_19 : decode jdk_43_method_13_code 19 = .ok (.iload_n 2, 1) := by decide +kernel
theorem own_jdk_43_method_13_20 : decode jdk_43_method_13_code 20 = .ok (.baload, 1) := by decide +kernel
theorem own_jdk_43_method_13_21 : decode jdk_43_method_13_code 21 = .ok (.if_icmp .eq 5, 3) := by decide +kernel
theorem own_jdk_43_method_13_26 : decode jdk_43_method_13_code 26 = .ok (.iinc 2 1, 3) := by decide +kernel
theorem own_jdk_43_method_13_29 : decode jdk_43_method_13_code 29 = .ok (.goto (-20), 3) := by decide +kernel
set_option maxRecDepth 65536 in
set_option maxHeartbeats 40000000 in
theorem own_leq_11eq (l : Launch) (Z : State) (a0 : Array Value) (hw : ∀ d ∈ tables_1, d.before a0 Z = true) (ws : List Jvm.Cond) (va : Addr) (vb : Addr) (ka : ClassId) (kb : ClassId) (x0 : Int32) (y0 : Int32) (h0 : Heap) (n0 : Nat) (Z0 : n0 ≤ h0.size) (V_va : Arv Z h0 va ka .byte (1 : Int32) [(.int x0)] (.int (0 : Int32))) (V_vb : Arv Z h0 vb kb .byte (1 : Int32) [(.int y0)] (.int (0 : Int32))) (hq0 : x0 = y0) :
    own_Met l Z (⟨"java/lang/StringLatin1", "equals", "([B[B)Z"⟩ : MethodName) jdk_43_method_13_code 3 (some .boolean) ws ({ frames := 0, cells := 0, slots := 0, locals := 0 } : Room) #[(.ref va), (.ref vb)] h0 (fun v h L => v = some (.int (1 : Int32)) ∧ Fr n0 L ∧ h = h0) := by
  refine own_body (plainFor_of_name own_pn_java_lang_StringLatin1) (fun p e s m below meth c s₁ hx hby hml0 hrt hlk hown0 hnm hZ X0 e0 => ?_)
  have N0 := Fr.nil n0
  have hown : s.vm.findClass "java/lang/StringLatin1" = some m.cls := hown0
  have hml : c.maxLocals = 3 := hml0
  refine own_castG (own_ef10 m va vb) ?_
  refine own_step (fun t k => XS.aloadN X0.here hx rfl (hb hby own_jdk_43_method_13_0) rfl rfl k) ?_
  show own_Goes _ _ _ _ s₁ (mkF m 1 #[.val (.ref va), .val (.ref vb), .unset] [(.ref va)])
  refine own_step (own_alen X0 hx hZ e0 V_va (g := (mkF m 1 #[.val (.ref va), .val (.ref vb), .unset] [(.ref va)])) rfl rfl (hb hby own_jdk_43_method_13_1)) ?_
  refine own_step (fun t k => XS.aloadN X0.here hx rfl (hb hby own_jdk_43_method_13_2) rfl rfl k) ?_
  show own_Goes _ _ _ _ s₁ (mkF m 3 #[.val (.ref va), .val (.ref vb), .unset] [(.ref vb), (.int (1 : Int32))])
  refine own_step (own_alen X0 hx hZ e0 V_vb (g := (mkF m 3 #[.val (.ref va), .val (.ref vb), .unset] [(.ref vb), (.int (1 : Int32))])) rfl rfl (hb hby own_jdk_43_method_13_3)) ?_
  show own_Goes _ _ _ _ s₁ (mkF m 4 #[.val (.ref va), .val (.ref vb), .unset] [(.int (1 : Int32)), (.int (1 : Int32))])
  refine own_step (fun t k => XS.icmpNo X0.here hx rfl (hb hby own_jdk_43_method_13_4) rfl (teq (show (1 : Int32) = (1 : Int32) from (by decide))).2 k) ?_
  refine own_step (fun t k => XS.iconst X0.here hx rfl (hb hby own_jdk_43_method_13_7) k) ?_
  refine own_step (fun t k => XS.istoreN X0.here hx rfl (hb hby own_jdk_43_method_13_8) rfl (l' := #[.val (.ref va), .val (.ref vb), .val (.int (0 : Int32))]) rfl k) ?_
  refine own_step (fun t k => XS.iloadN X0.here hx rfl (hb hby own_jdk_43_method_13_9) rfl k) ?_
  refine own_step (fun t k => XS.aloadN X0.here hx rfl (hb hby own_jdk_43_method_13_10) rfl rfl k) ?_
  show own_Goes _ _ _ _ s₁ (mkF m 11 #[.val (.ref va), .val (.ref vb), .val (.int (0 : Int32))] [(.ref va), (.int (0 : Int32))])
  refine own_step (own_alen X0 hx hZ e0 V_va (g := (mkF m 11 #[.val (.ref va), .val (.ref vb), .val (.int (0 : Int32))] [(.ref va), (.int (0 : Int32))])) rfl rfl (hb hby own_jdk_43_method_13_11)) ?_
  show own_Goes _ _ _ _ s₁ (mkF m 12 #[.val (.ref va), .val (.ref vb), .val (.int (0 : Int32))] [(.int (1 : Int32)), (.int (0 : Int32))])
  refine own_step (fun t k => XS.icmpNo X0.here hx rfl (hb hby own_jdk_43_method_13_12) rfl (tlt (show (0 : Int32) < (1 : Int32) from (by decide))).2.1 k) ?_
  refine own_step (fun t k => XS.aloadN X0.here hx rfl (hb hby own_jdk_43_method_13_15) rfl rfl k) ?_
  refine own_step (fun t k => XS.iloadN X0.here hx rfl (hb hby own_jdk_43_method_13_16) rfl k) ?_
  show own_Goes _ _ _ _ s₁ (mkF m 17 #[.val (.ref va), .val (.ref vb), .val (.int (0 : Int32))] [(.int (0 : Int32)), (.ref va)])
  refine own_step (own_baload X0 hx hZ e0 V_va (.int x0) ⟨by decide, by decide⟩ rfl (g := (mkF m 17 #[.val (.ref va), .val (.ref vb), .val (.int (0 : Int32))] [(.int (0 : Int32)), (.ref va)])) rfl rfl (hb hby own_jdk_43_method_13_17)) ?_
  refine own_step (fun t k => XS.aloadN X0.here hx rfl (hb hby own_jdk_43_method_13_18) rfl rfl k) ?_
  refine own_step (fun t k => XS.iloadN X0.here hx rfl (hb hby own_jdk_43_method_13_19) rfl k) ?_
  show own_Goes _ _ _ _ s₁ (mkF m 20 #[.val (.ref va), .val (.ref vb), .val (.int (0 : Int32))] [(.int (0 : Int32)), (.ref vb), (.int x0)])
  refine own_step (own_baload X0 hx hZ e0 V_vb (.int y0) ⟨by decide, by decide⟩ rfl (g := (mkF m 20 #[.val (.ref va), .val (.ref vb), .val (.int (0 : Int32))] [(.int (0 : Int32)), (.ref vb), (.int x0)])) rfl rfl (hb hby own_jdk_43_method_13_20)) ?_
  show own_Goes _ _ _ _ s₁ (mkF m 21 #[.val (.ref va), .val (.ref vb), .val (.int (0 : Int32))] [(.int y0), (.int x0)])
  refine own_step (fun t k => XS.icmpYes X0.here hx rfl (pc0 := 21) (pc' := 26) rfl (hb hby own_jdk_43_method_13_21) rfl (teq (show x0 = y0 from hq0)).1 (by decide) (by decide) k) ?_
  show own_Goes _ _ _ _ s₁ (mkF m 26 #[.val (.ref va), .val (.ref vb), .val (.int (0 : Int32))] [])
  refine own_step (fun t k => XS.iinc X0.here hx rfl (hb hby own_jdk_43_method_13_26) rfl (l' := #[.val (.ref va), .val (.ref vb), .val (.int (1 : Int32))]) rfl k) ?_
  refine own_step (fun t k => XS.goto X0.here hx rfl (pc0 := 29) (pc' := 9) rfl (hb hby own_jdk_43_method_13_29) (by decide) (by decide) k) ?_
  refine own_step (fun t k => XS.iloadN X0.here hx rfl (hb hby own_jdk_43_method_13_9) rfl k) ?_
  refine own_step (fun t k => XS.aloadN X0.here hx rfl (hb hby own_jdk_43_method_13_10) rfl rfl k) ?_
  show own_Goes _ _ _ _ s₁ (mkF m 11 #[.val (.ref va), .val (.ref vb), .val (.int (1 : Int32))] [(.ref va), (.int (1 : Int32))])
  refine own_step (own_alen X0 hx hZ e0 V_va (g := (mkF m 11 #[.val (.ref va), .val (.ref vb), .val (.int (1 : Int32))] [(.ref va), (.int (1 : Int32))])) rfl rfl (hb hby own_jdk_43_method_13_11)) ?_
  show own_Goes _ _ _ _ s₁ (mkF m 12 #[.val (.ref va), .val (.ref vb), .val (.int (1 : Int32))] [(.int (1 : Int32)), (.int (1 : Int32))])
  refine own_step (fun t k => XS.icmpYes X0.here hx rfl (pc0 := 12) (pc' := 32) rfl (hb hby own_jdk_43_method_13_12) rfl (flt (show ¬ ((1 : Int32) < (1 : Int32)) from (by decide))).2.1 (by decide) (by decide) k) ?_
  refine own_step (fun t k => XS.iconst X0.here hx rfl (hb hby own_jdk_43_method_13_32) k) ?_
  show own_Goes _ _ _ _ s₁ (mkF m 33 #[.val (.ref va), .val (.ref vb), .val (.int (1 : Int32))] [(.int (1 : Int32))])
  exact own_retN X0 hx hlk (t := .boolean) hrt (by simp) (hb hby own_jdk_43_method_13_33) ⟨rfl, N0, e0⟩ (by decide) (by decide)
set_option maxRecDepth 65536 in
set_option maxHeartbeats 40000000 in
theorem own_seq_11eq (l : Launch) (Z : State) (a0 : Array Value) (hw : ∀ d ∈ tables_1, d.before a0 Z = true) (ws : List Jvm.Cond) (a : Addr) (o : Addr) (va : Addr) (vb : Addr) (ka : ClassId) (kb : ClassId) (x0 : Int32) (y0 : Int32) (zc : Int32) (h0 : Heap) (n0 : Nat) (Z0 : n0 ≤ h0.size) (E_o : Exa Z h0 o "java/lang/String") (F_a_coder : Fld Z h0 a "java/lang/String" "coder" "B" (.int (0 : Int32))) (F_o_coder : Fld Z h0 o "java/lang/String" "coder" "B" (.int (0 : Int32))) (F_a_value : Fld Z h0 a "java/lang/String" "value" "[B" (.ref va)) (F_o_value : Fld Z h0 o "java/lang/String" "value" "[B" (.ref vb)) (V_va : Arv Z h0 va ka .byte (1 : Int32) [(.int x0)] (.int (0 : Int32))) (V_vb : Arv Z h0 vb kb .byte (1 : Int32) [(.int y0)] (.int (0 : Int32))) (S_COMPACT_STRINGS : Sta Z h0 "java/lang/String" "COMPACT_STRINGS" "Z" (.int zc)) (hq0 : x0 = y0) (hz : ¬ (zc = (0 : Int32))) (neao : ¬ (a = o)) :
    own_Met l Z (⟨"java/lang/String", "equals", "(Ljava/lang/Object;)Z"⟩ : MethodName) jdk_42_method_66_code 3 (some .boolean) ws ({ frames := 1, cells := 0, slots := 0, locals := 14 } : Room) #[(.ref a), (.ref o)] h0 (fun v h L => v = some (.int (1 : Int32)) ∧ Fr n0 L ∧ h = h0) := by
  refine own_body (plainFor_of_name own_pn_java_lang_String) (fun p e s m below meth c s₁ hx hby hml0 hrt hlk hown0 hnm hZ X0 e0 => ?_)
  have N0 := Fr.nil n0
  have hown : s.vm.findClass "java/lang/String" = some m.cls := hown0
  have hml : c.maxLocals = 3 := hml0
  refine own_castG (own_ef11 m a o) ?_
  refine own_step (fun t k => XS.aloadN X0.here hx rfl (hb hby own_jdk_42_method_66_0) rfl rfl k) ?_
  refine own_step (fun t k => XS.aloadN X0.here hx rfl (hb hby own_jdk_42_method_66_1) rfl rfl k) ?_
  show own_Goes _ _ _ _ s₁ (mkF m 2 #[.val (.ref a), .val (.ref o), .unset] [(.ref o), (.ref a)])
  refine own_step (fun t k => Jvm.RoadKit.acmp (g := (mkF m 2 #[.val (.ref a), .val (.ref o), .unset] [(.ref o), (.ref a)])) X0 hx rfl rfl rfl (pc0 := 2) (pc' := 7) (same := false) rfl (hb hby own_jdk_42_method_66_2) rfl (decide_eq_false fun q => neao (Value.ref.inj q)) (by decide) (by decide) k) ?_
  refine own_step (fun t k => XS.aloadN X0.here hx rfl (hb hby own_jdk_42_method_66_7) rfl rfl k) ?_
  show own_Goes _ _ _ _ s₁ (mkF m 8 #[.val (.ref a), .val (.ref o), .unset] [(.ref o)])
  obtain ⟨T1, X1, e1, st1⟩ := instY X0 hx hZ hown (hw _ (List.mem_of_getElem? (i := 76) rfl)) e0 (Ins.self E_o) (g := (mkF m 8 #[.val (.ref a), .val (.ref o), .unset] [(.ref o)])) rfl rfl (hb hby own_jdk_42_method_66_8)
  refine own_step st1 ?_
  show own_Goes _ _ _ _ T1 (mkF m 11 #[.val (.ref a), .val (.ref o), .unset] [(.int (1 : Int32))])
  refine own_step (fun t k => XS.ifNo X1.here hx rfl (hb hby own_jdk_42_method_66_11) rfl ((if0 _ _).trans (feq (show ¬ ((1 : Int32) = (0 : Int32)) from (by decide))).1) k) ?_
  refine own_step (fun t k => XS.aloadN X1.here hx rfl (hb hby own_jdk_42_method_66_14) rfl rfl k) ?_
  show own_Goes _ _ _ _ T1 (mkF m 15 #[.val (.ref a), .val (.ref o), .unset] [(.ref o)])
  obtain ⟨T2, X2, e2, st2⟩ := castY X1 hx hZ hown (hw _ (List.mem_of_getElem? (i := 76) rfl)) e1 (Ins.self E_o) (g := (mkF m 15 #[.val (.ref a), .val (.ref o), .unset] [(.ref o)])) rfl rfl (hb hby own_jdk_42_method_66_15)
  refine own_step st2 ?_
  refine own_step (fun t k => XS.astoreN X2.here hx rfl (hb hby own_jdk_42_method_66_18) rfl rfl (l' := #[.val (.ref a), .val (.ref o), .val (.ref o)]) rfl k) ?_
  show own_Goes _ _ _ _ T2 (mkF m 19 #[.val (.ref a), .val (.ref o), .val (.ref o)] [])
  obtain ⟨T3, X3, e3, st3⟩ := getS2 X2 hx hZ hown (host := "") (Or.inl (hw _ (List.mem_of_getElem? (i := 60) rfl))) Via.refl e2 S_COMPACT_STRINGS (g := (mkF m 19 #[.val (.ref a), .val (.ref o), .val (.ref o)] [])) rfl (hb hby own_jdk_42_method_66_19)
  refine own_step st3 ?_
  show own_Goes _ _ _ _ T3 (mkF m 22 #[.val (.ref a), .val (.ref o), .val (.ref o)] [(.int zc)])
  refine own_step (fun t k => XS.ifNo X3.here hx rfl (hb hby own_jdk_42_method_66_22) rfl ((if0 _ _).trans (feq (show ¬ (zc = (0 : Int32)) from hz)).1) k) ?_
  refine own_step (fun t k => XS.aloadN X3.here hx rfl (hb hby own_jdk_42_method_66_25) rfl rfl k) ?_
  show own_Goes _ _ _ _ T3 (mkF m 26 #[.val (.ref a), .val (.ref o), .val (.ref o)] [(.ref a)])
  obtain ⟨T4, X4, e4, st4⟩ := getF X3 hx hZ hown (host := "") (Or.inl (hw _ (List.mem_of_getElem? (i := 35) rfl))) Via.refl e3 F_a_coder (g := (mkF m 26 #[.val (.ref a), .val (.ref o), .val (.ref o)] [(.ref a)])) rfl rfl (hb hby own_jdk_42_method_66_26)
  refine own_step st4 ?_
  refine own_step (fun t k => XS.aloadN X4.here hx rfl (hb hby own_jdk_42_method_66_29) rfl rfl k) ?_
  show own_Goes _ _ _ _ T4 (mkF m 30 #[.val (.ref a), .val (.ref o), .val (.ref o)] [(.ref o), (.int (0 : Int32))])
  obtain ⟨T5, X5, e5, st5⟩ := getF X4 hx hZ hown (host := "") (Or.inl (hw _ (List.mem_of_getElem? (i := 35) rfl))) Via.refl e4 F_o_coder (g := (mkF m 30 #[.val (.ref a), .val (.ref o), .val (.ref o)] [(.ref o), (.int (0 : Int32))])) rfl rfl (hb hby own_jdk_42_method_66_30)
  refine own_step st5 ?_
  show own_Goes _ _ _ _ T5 (mkF m 33 #[.val (.ref a), .val (.ref o), .val (.ref o)] [(.int (0 : Int32)), (.int (0 : Int32))])
  refine own_step (fun t k => XS.icmpNo X5.here hx rfl (hb hby own_jdk_42_method_66_33) rfl (teq (show (0 : Int32) = (0 : Int32) from (by decide))).2 k) ?_
  refine own_step (fun t k => XS.aloadN X5.here hx rfl (hb hby own_jdk_42_method_66_36) rfl rfl k) ?_
  show own_Goes _ _ _ _ T5 (mkF m 37 #[.val (.ref a), .val (.ref o), .val (.ref o)] [(.ref a)])
  obtain ⟨T6, X6, e6, st6⟩ := getF X5 hx hZ hown (host := "") (Or.inl (hw _ (List.mem_of_getElem? (i := 34) rfl))) Via.refl e5 F_a_value (g := (mkF m 37 #[.val (.ref a), .val (.ref o), .val (.ref o)] [(.ref a)])) rfl rfl (hb hby own_jdk_42_method_66_37)
  refine own_step st6 ?_
  refine own_step (fun t k => XS.aloadN X6.here hx rfl (hb hby own_jdk_42_method_66_40) rfl rfl k) ?_
  show own_Goes _ _ _ _ T6 (mkF m 41 #[.val (.ref a), .val (.ref o), .val (.ref o)] [(.ref o), (.ref va)])
  obtain ⟨T7, X7, e7, st7⟩ := getF X6 hx hZ hown (host := "") (Or.inl (hw _ (List.mem_of_getElem? (i := 34) rfl))) Via.refl e6 F_o_value (g := (mkF m 41 #[.val (.ref a), .val (.ref o), .val (.ref o)] [(.ref o), (.ref va)])) rfl rfl (hb hby own_jdk_42_method_66_41)
  refine own_step st7 ?_
  show own_Goes _ _ _ _ T7 (mkF m 44 #[.val (.ref a), .val (.ref o), .val (.ref o)] [(.ref vb), (.ref va)])
  refine own_callS X7 hx hZ (y := (⟨"java/lang/StringLatin1", "equals", "([B[B)Z"⟩ : MethodName)) hown (hw _ (List.mem_of_getElem? (i := 77) rfl)) (hw _ (List.mem_of_getElem? (i := 78) rfl)) (hw _ (List.mem_of_getElem? (i := 79) rfl)) (hw _ (List.mem_of_getElem? (i := 80) rfl)) (by decide) 0 [(.ref va), (.ref vb)] [] (own_leq_11eq l Z a0 hw [] va vb ka kb x0 y0 h0 n0 Z0 V_va V_vb hq0) e7  (by decide) (by decide) (by decide) (by decide) (g := (mkF m 44 #[.val (.ref a), .val (.ref o), .val (.ref o)] [(.ref vb), (.ref va)])) rfl (by rw [hml]; rfl) own_pd6 rfl rfl (by show 2 * 0 + _ ≤ _; exact Nat.le_of_eq rfl) (hb hby own_jdk_42_method_66_44) ?_
  intro T8 v8 L8 X8 hQ8
  obtain ⟨rfl, N8q, e8⟩ := hQ8
  have N8 := Fr.app N0 N8q
  show own_Goes _ _ _ _ T8 (mkF m 47 #[.val (.ref a), .val (.ref o), .val (.ref o)] [(.int (1 : Int32))])
  refine own_step (fun t k => XS.ifNo X8.here hx rfl (hb hby own_jdk_42_method_66_47) rfl ((if0 _ _).trans (feq (show ¬ ((1 : Int32) = (0 : Int32)) from (by decide))).1) k) ?_
  refine own_step (fun t k => XS.iconst X8.here hx rfl (hb hby own_jdk_42_method_66_50) k) ?_
  refine own_step (fun t k => XS.goto X8.here hx rfl (pc0 := 51) (pc' := 55) rfl (hb hby own_jdk_42_method_66_51) (by decide) (by decide) k) ?_
  show own_Goes _ _ _ _ T8 (mkF m 55 #[.val (.ref a), .val (.ref o), .val (.ref o)] [(.int (1 : Int32))])
  exact own_retN X8 hx hlk (t := .boolean) hrt (by simp) (hb hby own_jdk_42_method_66_55) ⟨rfl, N8, e8⟩ (by decide) (by decide)
set_option maxRecDepth 65536 in
set_option maxHeartbeats 40000000 in
theorem own_is_11eq (l : Launch) (Z : State) (a0 : Array Value) (hw : ∀ d ∈ tables_1, d.before a0 Z = true) (ws : List Jvm.Cond) (a : Addr) (tz : Addr) (o : Addr) (ty : Addr) (tx : Addr) (va : Addr) (vb : Addr) (ka : ClassId) (kb : ClassId) (x0 : Int32) (y0 : Int32) (zc : Int32) (h0 : Heap) (n0 : Nat) (Z0 : n0 ≤ h0.size) (F_a_type : Fld Z h0 a "com/example/weaverbird/weaverbird/automaton/HoaLexer$Token" "type" "Lcom/example/weaverbird/weaverbird/automaton/HoaLexer$Type;" (.ref ty)) (F_a_text : Fld Z h0 a "com/example/weaverbird/weaverbird/automaton/HoaLexer$Token" "text" "Ljava/lang/String;" (.ref tx)) (E_tx : Exa Z h0 tx "java/lang/String") (E_o : Exa Z h0 o "java/lang/String") (F_tx_coder : Fld Z h0 tx "java/lang/String" "coder" "B" (.int (0 : Int32))) (F_o_coder : Fld Z h0 o "java/lang/String" "coder" "B" (.int (0 : Int32))) (F_tx_value : Fld Z h0 tx "java/lang/String" "value" "[B" (.ref va)) (F_o_value : Fld Z h0 o "java/lang/String" "value" "[B" (.ref vb)) (V_va : Arv Z h0 va ka .byte (1 : Int32) [(.int x0)] (.int (0 : Int32))) (V_vb : Arv Z h0 vb kb .byte (1 : Int32) [(.int y0)] (.int (0 : Int32))) (S_COMPACT_STRINGS : Sta Z h0 "java/lang/String" "COMPACT_STRINGS" "Z" (.int zc)) (hty : ty = tz) (hq0 : x0 = y0) (hz : ¬ (zc = (0 : Int32))) (neto : ¬ (tx = o)) :
    own_Met l Z (⟨"com/example/weaverbird/weaverbird/automaton/HoaLexer$Token", "is", "(Lcom/example/weaverbird/weaverbird/automaton/HoaLexer$Type;Ljava/lang/String;)Z"⟩ : MethodName) prog_16_method_2_code 3 (some .boolean) ws ({ frames := 2, cells := 0, slots := 0, locals := 28 } : Room) #[(.ref a), (.ref tz), (.ref o)] h0 (fun v h L => v = some (.int (1 : Int32)) ∧ Fr n0 L ∧ h = h0) := by
  refine own_body (plainFor_of_name own_pn_com_example_weaverbird_weaverbird_automaton_HoaLexer_Token) (fun p e s m below meth c s₁ hx hby hml0 hrt hlk hown0 hnm hZ X0 e0 => ?_)
  have N0 := Fr.nil n0
  have hown : s.vm.findClass "com/example/weaverbird/weaverbird/automaton/HoaLexer$Token" = some m.cls := hown0
  have hml : c.maxLocals = 3 := hml0
  refine own_castG (own_ef9 m a tz o) ?_
  refine own_step (fun t k => XS.aloadN X0.here hx rfl (hb hby own_prog_16_method_2_0) rfl rfl k) ?_
  show own_Goes _ _ _ _ s₁ (mkF m 1 #[.val (.ref a), .val (.ref tz), .val (.ref o)] [(.ref a)])
  obtain ⟨T1, X1, e1, st1⟩ := getF X0 hx hZ hown (host := "") (Or.inl (hw _ (List.mem_of_getElem? (i := 45) rfl))) Via.refl e0 F_a_type (g := (mkF m 1 #[.val (.ref a), .val (.ref tz), .val (.ref o)] [(.ref a)])) rfl rfl (hb hby own_prog_16_method_2_1)
  refine own_step st1 ?_
  refine own_step (fun t k => XS.aloadN X1.here hx rfl (hb hby own_prog_16_method_2_4) rfl rfl k) ?_
  show own_Goes _ _ _ _ T1 (mkF m 5 #[.val (.ref a), .val (.ref tz), .val (.ref o)] [(.ref tz), (.ref ty)])
  refine own_step (fun t k => Jvm.RoadKit.acmp (g := (mkF m 5 #[.val (.ref a), .val (.ref tz), .val (.ref o)] [(.ref tz), (.ref ty)])) X1 hx rfl rfl rfl (pc0 := 5) (pc' := 8) (same := true) rfl (hb hby own_prog_16_method_2_5) rfl (decide_eq_true (congrArg Value.ref hty)) (by decide) (by decide) k) ?_
  refine own_step (fun t k => XS.aloadN X1.here hx rfl (hb hby own_prog_16_method_2_8) rfl rfl k) ?_
  show own_Goes _ _ _ _ T1 (mkF m 9 #[.val (.ref a), .val (.ref tz), .val (.ref o)] [(.ref a)])
  obtain ⟨T2, X2, e2, st2⟩ := getF X1 hx hZ hown (host := "") (Or.inl (hw _ (List.mem_of_getElem? (i := 47) rfl))) Via.refl e1 F_a_text (g := (mkF m 9 #[.val (.ref a), .val (.ref tz), .val (.ref o)] [(.ref a)])) rfl rfl (hb hby own_prog_16_method_2_9)
  refine own_step st2 ?_
  refine own_step (fun t k => XS.aloadN X2.here hx rfl (hb hby own_prog_16_method_2_12) rfl rfl k) ?_
  show own_Goes _ _ _ _ T2 (mkF m 13 #[.val (.ref a), .val (.ref tz), .val (.ref o)] [(.ref o), (.ref tx)])
  refine own_callV X2 hx hZ (y := (⟨"java/lang/String", "equals", "(Ljava/lang/Object;)Z"⟩ : MethodName)) (z := (⟨"java/lang/String", "equals", "(Ljava/lang/Object;)Z"⟩ : MethodName)) hown (hw _ (List.mem_of_getElem? (i := 71) rfl)) (hw _ (List.mem_of_getElem? (i := 72) rfl)) (notFace_of_selects (args := #[]) (mvT hZ (hw _ (List.mem_of_getElem? (i := 74) rfl)))) (hw _ (List.mem_of_getElem? (i := 74) rfl)) (hw _ (List.mem_of_getElem? (i := 73) rfl)) (hw _ (List.mem_of_getElem? (i := 75) rfl)) (hw _ (List.mem_of_getElem? (i := 16) rfl)) (by decide) 0 E_tx [(.ref o)] [] (own_seq_11eq l Z a0 hw [] tx o va vb ka kb x0 y0 zc h0 n0 Z0 E_o F_tx_coder F_o_coder F_tx_value F_o_value V_va V_vb S_COMPACT_STRINGS hq0 hz neto) e2  (by decide) (by decide) (by decide) (by decide) (g := (mkF m 13 #[.val (.ref a), .val (.ref tz), .val (.ref o)] [(.ref o), (.ref tx)])) rfl (by rw [hml]; rfl) own_pd7 rfl rfl (by show 2 * 0 + _ ≤ _; exact Nat.le_of_eq rfl) (hb hby own_prog_16_method_2_13) ?_
  intro T3 v3 L3 X3 hQ3
  obtain ⟨rfl, N3q, e3⟩ := hQ3
  have N3 := Fr.app N0 N3q
  show own_Goes _ _ _ _ T3 (mkF m 16 #[.val (.ref a), .val (.ref tz), .val (.ref o)] [(.int (1 : Int32))])
  refine own_step (fun t k => XS.ifNo X3.here hx rfl (hb hby own_prog_16_method_2_16) rfl ((if0 _ _).trans (feq (show ¬ ((1 : Int32) = (0 : Int32)) from (by decide))).1) k) ?_
  refine own_step (fun t k => XS.iconst X3.here hx rfl (hb hby own_prog_16_method_2_19) k) ?_
  refine own_step (fun t k => XS.goto X3.here hx rfl (pc0 := 20) (pc' := 24) rfl (hb hby own_prog_16_method_2_20) (by decide) (by decide) k) ?_
  show own_Goes _ _ _ _ T3 (mkF m 24 #[.val (.ref a), .val (.ref tz), .val (.ref o)] [(.int (1 : Int32))])
  exact own_retN X3 hx hlk (t := .boolean) hrt (by simp) (hb hby own_prog_16_method_2_24) ⟨rfl, N3, e3⟩ (by decide) (by decide)
theorem own_jdk_43_method_13_24 : decode jdk_43_method_13_code 24 = .ok (.iconst 0, 1) := by decide +kernel
theorem own_jdk_43_method_13_25 : decode jdk_43_method_13_code 25 = .ok (.ireturn, 1) := by decide +kernel
set_option maxRecDepth 65536 in
set_option maxHeartbeats 40000000 in
theorem own_leq_110 (l : Launch) (Z : State) (a0 : Array Value) (hw : ∀ d ∈ tables_1, d.before a0 Z = true) (ws : List Jvm.Cond) (va : Addr) (vb : Addr) (ka : ClassId) (kb : ClassId) (x0 : Int32) (y0 : Int32) (h0 : Heap) (n0 : Nat) (Z0 : n0 ≤ h0.size) (V_va : Arv Z h0 va ka .byte (1 : Int32) [(.int x0)] (.int (0 : Int32))) (V_vb : Arv Z h0 vb kb .byte (1 : Int32) [(.int y0)] (.int (0 : Int32))) (hq0 : ¬ (x0 = y0)) :
    own_Met l Z (⟨"java/lang/StringLatin1", "equals", "([B[B)Z"⟩ : MethodName) jdk_43_method_13_code 3 (some .boolean) ws ({ frames := 0, cells := 0, slots := 0, locals := 0 } : Room) #[(.ref va), (.ref vb)] h0 (fun v h L => v = some (.int (0 : Int32)) ∧ Fr n0 L ∧ h = h0) := by
  refine own_body (plainFor_of_name own_pn_java_lang_StringLatin1) (fun p e s m below meth c s₁ hx hby hml0 hrt hlk hown0 hnm hZ X0 e0 => ?_)
  have N0 := Fr.nil n0
  have hown : s.vm.findClass "java/lang/StringLatin1" = some m.cls := hown0
  have hml : c.maxLocals = 3 := hml0
  refine own_castG (own_ef10 m va vb) ?_
  refine own_step (fun t k => XS.aloadN X0.here hx rfl (hb hby own_jdk_43_method_13_0) rfl rfl k) ?_
  show own_Goes _ _ _ _ s₁ (mkF m 1 #[.val (.ref va), .val (.ref vb), .unset] [(.ref va)])
  refine own_step (own_alen X0 hx hZ e0 V_va (g := (mkF m 1 #[.val (.ref va), .val (.ref vb), .unset] [(.ref va)])) rfl rfl (hb hby own_jdk_43_method_13_1)) ?_
  refine own_step (fun t k => XS.aloadN X0.here hx rfl (hb hby own_jdk_43_method_13_2) rfl rfl k) ?_
  show own_Goes _ _ _ _ s₁ (mkF m 3 #[.val (.ref va), .val (.ref vb), .unset] [(.ref vb), (.int (1 : Int32))])
  refine own_step (own_alen X0 hx hZ e0 V_vb (g := (mkF m 3 #[.val (.ref va), .val (.ref vb), .unset] [(.ref vb), (.int (1 : Int32))])) rfl rfl (hb hby own_jdk_43_method_13_3)) ?_
  show own_Goes _ _ _ _ s₁ (mkF m 4 #[.val (.ref va), .val (.ref vb), .unset] [(.int (1 : Int32)), (.int (1 : Int32))])
  refine own_step (fun t k => XS.icmpNo X0.here hx rfl (hb hby own_jdk_43_method_13_4) rfl (teq (show (1 : Int32) = (1 : Int32) from (by decide))).2 k) ?_
  refine own_step (fun t k => XS.iconst X0.here hx rfl (hb hby own_jdk_43_method_13_7) k) ?_
  refine own_step (fun t k => XS.istoreN X0.here hx rfl (hb hby own_jdk_43_method_13_8) rfl (l' := #[.val (.ref va), .val (.ref vb), .val (.int (0 : Int32))]) rfl k) ?_
  refine own_step (fun t k => XS.iloadN X0.here hx rfl (hb hby own_jdk_43_method_13_9) rfl k) ?_
  refine own_step (fun t k => XS.aloadN X0.here hx rfl (hb hby own_jdk_43_method_13_10) rfl rfl k) ?_
  show own_Goes _ _ _ _ s₁ (mkF m 11 #[.val (.ref va), .val (.ref vb), .val (.int (0 : Int32))] [(.ref va), (.int (0 : Int32))])
  refine own_step (own_alen X0 hx hZ e0 V_va (g := (mkF m 11 #[.val (.ref va), .val (.ref vb), .val (.int (0 : Int32))] [(.ref va), (.int (0 : Int32))])) rfl rfl (hb hby own_jdk_43_method_13_11)) ?_
  show own_Goes _ _ _ _ s₁ (mkF m 12 #[.val (.ref va), .val (.ref vb), .val (.int (0 : Int32))] [(.int (1 : Int32)), (.int (0 : Int32))])
  refine own_step (fun t k => XS.icmpNo X0.here hx rfl (hb hby own_jdk_43_method_13_12) rfl (tlt (show (0 : Int32) < (1 : Int32) from (by decide))).2.1 k) ?_
  refine own_step (fun t k => XS.aloadN X0.here hx rfl (hb hby own_jdk_43_method_13_15) rfl rfl k) ?_
  refine own_step (fun t k => XS.iloadN X0.here hx rfl (hb hby own_jdk_43_method_13_16) rfl k) ?_
  show own_Goes _ _ _ _ s₁ (mkF m 17 #[.val (.ref va), .val (.ref vb), .val (.int (0 : Int32))] [(.int (0 : Int32)), (.ref va)])
  refine own_step (own_baload X0 hx hZ e0 V_va (.int x0) ⟨by decide, by decide⟩ rfl (g := (mkF m 17 #[.val (.ref va), .val (.ref vb), .val (.int (0 : Int32))] [(.int (0 : Int32)), (.ref va)])) rfl rfl (hb hby own_jdk_43_method_13_17)) ?_
  refine own_step (fun t k => XS.aloadN X0.here hx rfl (hb hby own_jdk_43_method_13_18) rfl rfl k) ?_
  refine own_step (fun t k => XS.iloadN X0.here hx rfl (hb hby own_jdk_43_method_13_19) rfl k) ?_
  show own_Goes _ _ _ _ s₁ (mkF m 20 #[.val (.ref va), .val (.ref vb), .val (.int (0 : Int32))] [(.int (0 : Int32)), (.ref vb), (.int x0)])
  refine own_step (own_baload X0 hx hZ e0 V_vb (.int y0) ⟨by decide, by decide⟩ rfl (g := (mkF m 20 #[.val (.ref va), .val (.ref vb), .val (.int (0 : Int32))] [(.int (0 : Int32)), (.ref vb), (.int x0)])) rfl rfl (hb hby own_jdk_43_method_13_20)) ?_
  show own_Goes _ _ _ _ s₁ (mkF m 21 #[.val (.ref va), .val (.ref vb), .val (.int (0 : Int32))] [(.int y0), (.int x0)])
  refine own_step (fun t k => XS.icmpNo X0.here hx rfl (hb hby own_jdk_43_method_13_21) rfl (feq (show ¬ (x0 = y0) from hq0)).1 k) ?_
  refine own_step (fun t k => XS.iconst X0.here hx rfl (hb hby own_jdk_43_method_13_24) k) ?_
  show own_Goes _ _ _ _ s₁ (mkF m 25 #[.val (.ref va), .val (.ref vb), .val (.int (0 : Int32))] [(.int (0 : Int32))])
  exact own_retN X0 hx hlk (t := .boolean) hrt (by simp) (hb hby own_jdk_43_method_13_25) ⟨rfl, N0, e0⟩ (by decide) (by decide)
set_option maxRecDepth 65536 in
set_option maxHeartbeats 40000000 in
theorem own_seq_110 (l : Launch) (Z : State) (a0 : Array Value) (hw : ∀ d ∈ tables_1, d.before a0 Z = true) (ws : List Jvm.Cond) (a : Addr) (o : Addr) (va : Addr) (vb : Addr) (ka : ClassId) (kb : ClassId) (x0 : Int32) (y0 : Int32) (zc : Int32) (h0 : Heap) (n0 : Nat) (Z0 : n0 ≤ h0.size) (E_o : Exa Z h0 o "java/lang/String") (F_a_coder : Fld Z h0 a "java/lang/String" "coder" "B" (.int (0 : Int32))) (F_o_coder : Fld Z h0 o "java/lang/String" "coder" "B" (.int (0 : Int32))) (F_a_value : Fld Z h0 a "java/lang/String" "value" "[B" (.ref va)) (F_o_value : Fld Z h0 o "java/lang/String" "value" "[B" (.ref vb)) (V_va : Arv Z h0 va ka .byte (1 : Int32) [(.int x0)] (.int (0 : Int32))) (V_vb : Arv Z h0 vb kb .byte (1 : Int32) [(.int y0)] (.int (0 : Int32))) (S_COMPACT_STRINGS : Sta Z h0 "java/lang/String" "COMPACT_STRINGS" "Z" (.int zc)) (hq0 : ¬ (x0 = y0)) (hz : ¬ (zc = (0 : Int32))) (neao : ¬ (a = o)) :
    own_Met l Z (⟨"java/lang/String", "equals", "(Ljava/lang/Object;)Z"⟩ : MethodName) jdk_42_method_66_code 3 (some .boolean) ws ({ frames := 1, cells := 0, slots := 0, locals := 14 } : Room) #[(.ref a), (.ref o)] h0 (fun v h L => v = some (.int (0 : Int32)) ∧ Fr n0 L ∧ h = h0) := by
  refine own_body (plainFor_of_name own_pn_java_lang_String) (fun p e s m below meth c s₁ hx hby hml0 hrt hlk hown0 hnm hZ X0 e0 => ?_)
  have N0 := Fr.nil n0
  have hown : s.vm.findClass "java/lang/String" = some m.cls := hown0
  have hml : c.maxLocals = 3 := hml0
  refine own_castG (own_ef11 m a o) ?_
  refine own_step (fun t k => XS.aloadN X0.here hx rfl (hb hby own_jdk_42_method_66_0) rfl rfl k) ?_
  refine own_step (fun t k => XS.aloadN X0.here hx rfl (hb hby own_jdk_42_method_66_1) rfl rfl k) ?_
  show own_Goes _ _ _ _ s₁ (mkF m 2 #[.val (.ref a), .val (.ref o), .unset] [(.ref o), (.ref a)])
  refine own_step (fun t k => Jvm.RoadKit.acmp (g := (mkF m 2 #[.val (.ref a), .val (.ref o), .unset] [(.ref o), (.ref a)])) X0 hx rfl rfl rfl (pc0 := 2) (pc' := 7) (same := false) rfl (hb hby own_jdk_42_method_66_2) rfl (decide_eq_false fun q => neao (Value.ref.inj q)) (by decide) (by decide) k) ?_
  refine own_step (fun t k => XS.aloadN X0.here hx rfl (hb hby own_jdk_42_method_66_7) rfl rfl k) ?_
  show own_Goes _ _ _ _ s₁ (mkF m 8 #[.val (.ref a), .val (.ref o), .unset] [(.ref o)])
  obtain ⟨T1, X1, e1, st1⟩ := instY X0 hx hZ hown (hw _ (List.mem_of_getElem? (i := 76) rfl)) e0 (Ins.self E_o) (g := (mkF m 8 #[.val (.ref a), .val (.ref o), .unset] [(.ref o)])) rfl rfl (hb hby own_jdk_42_method_66_8)
  refine own_step st1 ?_
  show own_Goes _ _ _ _ T1 (mkF m 11 #[.val (.ref a), .val (.ref o), .unset] [(.int (1 : Int32))])
  refine own_step (fun t k => XS.ifNo X1.here hx rfl (hb hby own_jdk_42_method_66_11) rfl ((if0 _ _).trans (feq (show ¬ ((1 : Int32) = (0 : Int32)) from (by decide))).1) k) ?_
  refine own_step (fun t k => XS.aloadN X1.here hx rfl (hb hby own_jdk_42_method_66_14) rfl rfl k) ?_
  show own_Goes _ _ _ _ T1 (mkF m 15 #[.val (.ref a), .val (.ref o), .unset] [(.ref o)])
  obtain ⟨T2, X2, e2, st2⟩ := castY X1 hx hZ hown (hw _ (List.mem_of_getElem? (i := 76) rfl)) e1 (Ins.self E_o) (g := (mkF m 15 #[.val (.ref a), .val (.ref o), .unset] [(.ref o)])) rfl rfl (hb hby own_jdk_42_method_66_15)
  refine own_step st2 ?_
  refine own_step (fun t k => XS.astoreN X2.here hx rfl (hb hby own_jdk_42_method_66_18) rfl rfl (l' := #[.val (.ref a), .val (.ref o), .val (.ref o)]) rfl k) ?_
  show own_Goes _ _ _ _ T2 (mkF m 19 #[.val (.ref a), .val (.ref o), .val (.ref o)] [])
  obtain ⟨T3, X3, e3, st3⟩ := getS2 X2 hx hZ hown (host := "") (Or.inl (hw _ (List.mem_of_getElem? (i := 60) rfl))) Via.refl e2 S_COMPACT_STRINGS (g := (mkF m 19 #[.val (.ref a), .val (.ref o), .val (.ref o)] [])) rfl (hb hby own_jdk_42_method_66_19)
  refine own_step st3 ?_
  show own_Goes _ _ _ _ T3 (mkF m 22 #[.val (.ref a), .val (.ref o), .val (.ref o)] [(.int zc)])
  refine own_step (fun t k => XS.ifNo X3.here hx rfl (hb hby own_jdk_42_method_66_22) rfl ((if0 _ _).trans (feq (show ¬ (zc = (0 : Int32)) from hz)).1) k) ?_
  refine own_step (fun t k => XS.aloadN X3.here hx rfl (hb hby own_jdk_42_method_66_25) rfl rfl k) ?_
  show own_Goes _ _ _ _ T3 (mkF m 26 #[.val (.ref a), .val (.ref o), .val (.ref o)] [(.ref a)])
  obtain ⟨T4, X4, e4, st4⟩ := getF X3 hx hZ hown (host := "") (Or.inl (hw _ (List.mem_of_getElem? (i := 35) rfl))) Via.refl e3 F_a_coder (g := (mkF m 26 #[.val (.ref a), .val (.ref o), .val (.ref o)] [(.ref a)])) rfl rfl (hb hby own_jdk_42_method_66_26)
  refine own_step st4 ?_
  refine own_step (fun t k => XS.aloadN X4.here hx rfl (hb hby own_jdk_42_method_66_29) rfl rfl k) ?_
  show own_Goes _ _ _ _ T4 (mkF m 30 #[.val (.ref a), .val (.ref o), .val (.ref o)] [(.ref o), (.int (0 : Int32))])
  obtain ⟨T5, X5, e5, st5⟩ := getF X4 hx hZ hown (host := "") (Or.inl (hw _ (List.mem_of_getElem? (i := 35) rfl))) Via.refl e4 F_o_coder (g := (mkF m 30 #[.val (.ref a), .val (.ref o), .val (.ref o)] [(.ref o), (.int (0 : Int32))])) rfl rfl (hb hby own_jdk_42_method_66_30)
  refine own_step st5 ?_
  show own_Goes _ _ _ _ T5 (mkF m 33 #[.val (.ref a), .val (.ref o), .val (.ref o)] [(.int (0 : Int32)), (.int (0 : Int32))])
  refine own_step (fun t k => XS.icmpNo X5.here hx rfl (hb hby own_jdk_42_method_66_33) rfl (teq (show (0 : Int32) = (0 : Int32) from (by decide))).2 k) ?_
  refine own_step (fun t k => XS.aloadN X5.here hx rfl (hb hby own_jdk_42_method_66_36) rfl rfl k) ?_
  show own_Goes _ _ _ _ T5 (mkF m 37 #[.val (.ref a), .val (.ref o), .val (.ref o)] [(.ref a)])
  obtain ⟨T6, X6, e6, st6⟩ := getF X5 hx hZ hown (host := "") (Or.inl (hw _ (List.mem_of_getElem? (i := 34) rfl))) Via.refl e5 F_a_value (g := (mkF m 37 #[.val (.ref a), .val (.ref o), .val (.ref o)] [(.ref a)])) rfl rfl (hb hby own_jdk_42_method_66_37)
  refine own_step st6 ?_
  refine own_step (fun t k => XS.aloadN X6.here hx rfl (hb hby own_jdk_42_method_66_40) rfl rfl k) ?_
  show own_Goes _ _ _ _ T6 (mkF m 41 #[.val (.ref a), .val (.ref o), .val (.ref o)] [(.ref o), (.ref va)])
  obtain ⟨T7, X7, e7, st7⟩ := getF X6 hx hZ hown (host := "") (Or.inl (hw _ (List.mem_of_getElem? (i := 34) rfl))) Via.refl e6 F_o_value (g := (mkF m 41 #[.val (.ref a), .val (.ref o), .val (.ref o)] [(.ref o), (.ref va)])) rfl rfl (hb hby own_jdk_42_method_66_41)
  refine own_step st7 ?_
  show own_Goes _ _ _ _ T7 (mkF m 44 #[.val (.ref a), .val (.ref o), .val (.ref o)] [(.ref vb), (.ref va)])
  refine own_callS X7 hx hZ (y := (⟨"java/lang/StringLatin1", "equals", "([B[B)Z"⟩ : MethodName)) hown (hw _ (List.mem_of_getElem? (i := 77) rfl)) (hw _ (List.mem_of_getElem? (i := 78) rfl)) (hw _ (List.mem_of_getElem? (i := 79) rfl)) (hw _ (List.mem_of_getElem? (i := 80) rfl)) (by decide) 0 [(.ref va), (.ref vb)] [] (own_leq_110 l Z a0 hw [] va vb ka kb x0 y0 h0 n0 Z0 V_va V_vb hq0) e7  (by decide) (by decide) (by decide) (by decide) (g := (mkF m 44 #[.val (.ref a), .val (.ref o), .val (.ref o)] [(.ref vb), (.ref va)])) rfl (by rw [hml]; rfl) own_pd6 rfl rfl (by show 2 * 0 + _ ≤ _; exact Nat.le_of_eq rfl) (hb hby own_jdk_42_method_66_44) ?_
  intro T8 v8 L8 X8 hQ8
  obtain ⟨rfl, N8q, e8⟩ := hQ8
  have N8 := Fr.app N0 N8q
  show own_Goes _ _ _ _ T8 (mkF m 47 #[.val (.ref a), .val (.ref o), .val (.ref o)] [(.int (0 : Int32))])
  refine own_step (fun t k => XS.ifYes X8.here hx rfl (pc0 := 47) (pc' := 54) rfl (hb hby own_jdk_42_method_66_47) rfl ((if0 _ _).trans (teq (show (0 : Int32) = (0 : Int32) from (by decide))).1) (by decide) (by decide) k) ?_
  refine own_step (fun t k => XS.iconst X8.here hx rfl (hb hby own_jdk_42_method_66_54) k) ?_
  show own_Goes _ _ _ _ T8 (mkF m 55 #[.val (.ref a), .val (.ref o), .val (.ref o)] [(.int (0 : Int32))])
  exact own_retN X8 hx hlk (t := .boolean) hrt (by simp) (hb hby own_jdk_42_method_66_55) ⟨rfl, N8, e8⟩ (by decide) (by decide)
set_option maxRecDepth 65536 in
set_option maxHeartbeats 40000000 in
theorem own_is_110 (l : Launch) (Z : State) (a0 : Array Value) (hw : ∀ d ∈ tables_1, d.before a0 Z = true) (ws : List Jvm.Cond) (a : Addr) (tz : Addr) (o : Addr) (ty : Addr) (tx : Addr) (va : Addr) (vb : Addr) (ka : ClassId) (kb : ClassId) (x0 : Int32) (y0 : Int32) (zc : Int32) (h0 : Heap) (n0 : Nat) (Z0 : n0 ≤ h0.size) (F_a_type : Fld Z h0 a "com/example/weaverbird/weaverbird/automaton/HoaLexer$Token" "type" "Lcom/example/weaverbird/weaverbird/automaton/HoaLexer$Type;" (.ref ty)) (F_a_text : Fld Z h0 a "com/example/weaverbird/weaverbird/automaton/HoaLexer$Token" "text" "Ljava/lang/String;" (.ref tx)) (E_tx : Exa Z h0 tx "java/lang/String") (E_o : Exa Z h0 o "java/lang/String") (F_tx_coder : Fld Z h0 tx "java/lang/String" "coder" "B" (.int (0 : Int32))) (F_o_coder : Fld Z h0 o "java/lang/String" "coder" "B" (.int (0 : Int32))) (F_tx_value : Fld Z h0 tx "java/lang/String" "value" "[B" (.ref va)) (F_o_value : Fld Z h0 o "java/lang/String" "value" "[B" (.ref vb)) (V_va : Arv Z h0 va ka .byte (1 : Int32) [(.int x0)] (.int (0 : Int32))) (V_vb : Arv Z h0 vb kb .byte (1 : Int32) [(.int y0)] (.int (0 : Int32))) (S_COMPACT_STRINGS : Sta Z h0 "java/lang/String" "COMPACT_STRINGS" "Z" (.int zc)) (hty : ty = tz) (hq0 : ¬ (x0 = y0)) (hz : ¬ (zc = (0 : Int32))) (neto : ¬ (tx = o)) :
    own_Met l Z (⟨"com/example/weaverbird/weaverbird/automaton/HoaLexer$Token", "is", "(Lcom/example/weaverbird/weaverbird/automaton/HoaLexer$Type;Ljava/lang/String;)Z"⟩ : MethodName) prog_16_method_2_code 3 (some .boolean) ws ({ frames := 2, cells := 0, slots := 0, locals := 28 } : Room) #[(.ref a), (.ref tz), (.ref o)] h0 (fun v h L => v = some (.int (0 : Int32)) ∧ Fr n0 L ∧ h = h0) := by
  refine own_body (plainFor_of_name own_pn_com_example_weaverbird_weaverbird_automaton_HoaLexer_Token) (fun p e s m below meth c s₁ hx hby hml0 hrt hlk hown0 hnm hZ X0 e0 => ?_)
  have N0 := Fr.nil n0
  have hown : s.vm.findClass "com/example/weaverbird/weaverbird/automaton/HoaLexer$Token" = some m.cls := hown0
  have hml : c.maxLocals = 3 := hml0
  refine own_castG (own_ef9 m a tz o) ?_
  refine own_step (fun t k => XS.aloadN X0.here hx rfl (hb hby own_prog_16_method_2_0) rfl rfl k) ?_
  show own_Goes _ _ _ _ s₁ (mkF m 1 #[.val (.ref a), .val (.ref tz), .val (.ref o)] [(.ref a)])
  obtain ⟨T1, X1, e1, st1⟩ := getF X0 hx hZ hown (host := "") (Or.inl (hw _ (List.mem_of_getElem? (i := 45) rfl))) Via.refl e0 F_a_type (g := (mkF m 1 #[.val (.ref a), .val (.ref tz), .val (.ref o)] [(.ref a)])) rfl rfl (hb hby own_prog_16_method_2_1)
  refine own_step st1 ?_
  refine own_step (fun t k => XS.aloadN X1.here hx rfl (hb hby own_prog_16_method_2_4) rfl rfl k) ?_
  show own_Goes _ _ _ _ T1 (mkF m 5 #[.val (.ref a), .val (.ref tz), .val (.ref o)] [(.ref tz), (.ref ty)])
  refine own_step (fun t k => Jvm.RoadKit.acmp (g := (mkF m 5 #[.val (.ref a), .val (.ref tz), .val (.ref o)] [(.ref tz), (.ref ty)])) X1 hx rfl rfl rfl (pc0 := 5) (pc' := 8) (same := true) rfl (hb hby own_prog_16_method_2_5) rfl (decide_eq_true (congrArg Value.ref hty)) (by decide) (by decide) k) ?_
  refine own_step (fun t k => XS.aloadN X1.here hx rfl (hb hby own_prog_16_method_2_8) rfl rfl k) ?_
  show own_Goes _ _ _ _ T1 (mkF m 9 #[.val (.ref a), .val (.ref tz), .val (.ref o)] [(.ref a)])
  obtain ⟨T2, X2, e2, st2⟩ := getF X1 hx hZ hown (host := "") (Or.inl (hw _ (List.mem_of_getElem? (i := 47) rfl))) Via.refl e1 F_a_text (g := (mkF m 9 #[.val (.ref a), .val (.ref tz), .val (.ref o)] [(.ref a)])) rfl rfl (hb hby own_prog_16_method_2_9)
  refine own_step st2 ?_
  refine own_step (fun t k => XS.aloadN X2.here hx rfl (hb hby own_prog_16_method_2_12) rfl rfl k) ?_
  show own_Goes _ _ _ _ T2 (mkF m 13 #[.val (.ref a), .val (.ref tz), .val (.ref o)] [(.ref o), (.ref tx)])
  refine own_callV X2 hx hZ (y := (⟨"java/lang/String", "equals", "(Ljava/lang/Object;)Z"⟩ : MethodName)) (z := (⟨"java/lang/String", "equals", "(Ljava/lang/Object;)Z"⟩ : MethodName)) hown (hw _ (List.mem_of_getElem? (i := 71) rfl)) (hw _ (List.mem_of_getElem? (i := 72) rfl)) (notFace_of_selects (args := #[]) (mvT hZ (hw _ (List.mem_of_getElem? (i := 74) rfl)))) (hw _ (List.mem_of_getElem? (i := 74) rfl)) (hw _ (List.mem_of_getElem? (i := 73) rfl)) (hw _ (List.mem_of_getElem? (i := 75) rfl)) (hw _ (List.mem_of_getElem? (i := 16) rfl)) (by decide) 0 E_tx [(.ref o)] [] (own_seq_110 l Z a0 hw [] tx o va vb ka kb x0 y0 zc h0 n0 Z0 E_o F_tx_coder F_o_coder F_tx_value F_o_value V_va V_vb S_COMPACT_STRINGS hq0 hz neto) e2  (by decide) (by decide) (by decide) (by decide) (g := (mkF m 13 #[.val (.ref a), .val (.ref tz), .val (.ref o)] [(.ref o), (.ref tx)])) rfl (by rw [hml]; rfl) own_pd7 rfl rfl (by show 2 * 0 + _ ≤ _; exact Nat.le_of_eq rfl) (hb hby own_prog_16_method_2_13) ?_
  intro T3 v3 L3 X3 hQ3
  obtain ⟨rfl, N3q, e3⟩ := hQ3
  have N3 := Fr.app N0 N3q
  show own_Goes _ _ _ _ T3 (mkF m 16 #[.val (.ref a), .val (.ref tz), .val (.ref o)] [(.int (0 : Int32))])
  refine own_step (fun t k => XS.ifYes X3.here hx rfl (pc0 := 16) (pc' := 23) rfl (hb hby own_prog_16_method_2_16) rfl ((if0 _ _).trans (teq (show (0 : Int32) = (0 : Int32) from (by decide))).1) (by decide) (by decide) k) ?_
  refine own_step (fun t k => XS.iconst X3.here hx rfl (hb hby own_prog_16_method_2_23) k) ?_
  show own_Goes _ _ _ _ T3 (mkF m 24 #[.val (.ref a), .val (.ref tz), .val (.ref o)] [(.int (0 : Int32))])
  exact own_retN X3 hx hlk (t := .boolean) hrt (by simp) (hb hby own_prog_16_method_2_24) ⟨rfl, N3, e3⟩ (by decide) (by decide)
set_option maxRecDepth 65536 in
set_option maxHeartbeats 40000000 in
theorem own_leq_12len (l : Launch) (Z : State) (a0 : Array Value) (hw : ∀ d ∈ tables_1, d.before a0 Z = true) (ws : List Jvm.Cond) (va : Addr) (vb : Addr) (ka : ClassId) (kb : ClassId) (x0 : Int32) (y0 : Int32) (y1 : Int32) (h0 : Heap) (n0 : Nat) (Z0 : n0 ≤ h0.size) (V_va : Arv Z h0 va ka .byte (1 : Int32) [(.int x0)] (.int (0 : Int32))) (V_vb : Arv Z h0 vb kb .byte (2 : Int32) [(.int y0), (.int y1)] (.int (0 : Int32))) :
    own_Met l Z (⟨"java/lang/StringLatin1", "equals", "([B[B)Z"⟩ : MethodName) jdk_43_method_13_code 3 (some .boolean) ws ({ frames := 0, cells := 0, slots := 0, locals := 0 } : Room) #[(.ref va), (.ref vb)] h0 (fun v h L => v = some (.int (0 : Int32)) ∧ Fr n0 L ∧ h = h0) := by
  refine own_body (plainFor_of_name own_pn_java_lang_StringLatin1) (fun p e s m below meth c s₁ hx hby hml0 hrt hlk hown0 hnm hZ X0 e0 => ?_)
  have N0 := Fr.nil n0
  have hown : s.vm.findClass "java/lang/StringLatin1" = some m.cls := hown0
  have hml : c.maxLocals = 3 := hml0
  refine own_castG (own_ef10 m va vb) ?_
  refine own_step (fun t k => XS.aloadN X0.here hx rfl (hb hby own_jdk_43_method_13_0) rfl rfl k) ?_
  show own_Goes _ _ _ _ s₁ (mkF m 1 #[.val (.ref va), .val (.ref vb), .unset] [(.ref va)])
  refine own_step (own_alen X0 hx hZ e0 V_va (g := (mkF m 1 #[.val (.ref va), .val (.ref vb), .unset] [(.ref va)])) rfl rfl (hb hby own_jdk_43_method_13_1)) ?_
  refine own_step (fun t k => XS.aloadN X0.here hx rfl (hb hby own_jdk_43_method_13_2) rfl rfl k) ?_
  show own_Goes _ _ _ _ s₁ (mkF m 3 #[.val (.ref va), .val (.ref vb), .unset] [(.ref vb), (.int (1 : Int32))])
  refine own_step (own_alen X0 hx hZ e0 V_vb (g := (mkF m 3 #[.val (.ref va), .val (.ref vb), .unset] [(.ref vb), (.int (1 : Int32))])) rfl rfl (hb hby own_jdk_43_method_13_3)) ?_
  show own_Goes _ _ _ _ s₁ (mkF m 4 #[.val (.ref va), .val (.ref vb), .unset] [(.int (2 : Int32)), (.int (1 : Int32))])
  refine own_step (fun t k => XS.icmpYes X0.here hx rfl (pc0 := 4) (pc' := 34) rfl (hb hby own_jdk_43_method_13_4) rfl (feq (show ¬ ((1 : Int32) = (2 : Int32)) from (by decide))).2 (by decide) (by decide) k) ?_
  refine own_step (fun t k => XS.iconst X0.here hx rfl (hb hby own_jdk_43_method_13_34) k) ?_
  show own_Goes _ _ _ _ s₁ (mkF m 35 #[.val (.ref va), .val (.ref vb), .unset] [(.int (0 : Int32))])
  exact own_retN X0 hx hlk (t := .boolean) hrt (by simp) (hb hby own_jdk_43_method_13_35) ⟨rfl, N0, e0⟩ (by decide) (by decide)
set_option maxRecDepth 65536 in
set_option maxHeartbeats 40000000 in
theorem own_seq_12len (l : Launch) (Z : State) (a0 : Array Value) (hw : ∀ d ∈ tables_1, d.before a0 Z = true) (ws : List Jvm.Cond) (a : Addr) (o : Addr) (va : Addr) (vb : Addr) (ka : ClassId) (kb : ClassId) (x0 : Int32) (y0 : Int32) (y1 : Int32) (zc : Int32) (h0 : Heap) (n0 : Nat) (Z0 : n0 ≤ h0.size) (E_o : Exa Z h0 o "java/lang/String") (F_a_coder : Fld Z h0 a "java/lang/String" "coder" "B" (.int (0 : Int32))) (F_o_coder : Fld Z h0 o "java/lang/String" "coder" "B" (.int (0 : Int32))) (F_a_value : Fld Z h0 a "java/lang/String" "value" "[B" (.ref va)) (F_o_value : Fld Z h0 o "java/lang/String" "value" "[B" (.ref vb)) (V_va : Arv Z h0 va ka .byte (1 : Int32) [(.int x0)] (.int (0 : Int32))) (V_vb : Arv Z h0 vb kb .byte (2 : Int32) [(.int y0), (.int y1)] (.int (0 : Int32))) (S_COMPACT_STRINGS : Sta Z h0 "java/lang/String" "COMPACT_STRINGS" "Z" (.int zc)) (hz : ¬ (zc = (0 : Int32))) (neao : ¬ (a = o)) :
    own_Met l Z (⟨"java/lang/String", "equals", "(Ljava/lang/Object;)Z"⟩ : MethodName) jdk_42_method_66_code 3 (some .boolean) ws ({ frames := 1, cells := 0, slots := 0, locals := 14 } : Room) #[(.ref a), (.ref o)] h0 (fun v h L => v = some (.int (0 : Int32)) ∧ Fr n0 L ∧ h = h0) := by
  refine own_body (plainFor_of_name own_pn_java_lang_String) (fun p e s m below meth c s₁ hx hby hml0 hrt hlk hown0 hnm hZ X0 e0 => ?_)
  have N0 := Fr.nil n0
  have hown : s.vm.findClass "java/lang/String" = some m.cls := hown0
  have hml : c.maxLocals = 3 := hml0
  refine own_castG (own_ef11 m a o) ?_
  refine own_step (fun t k => XS.aloadN X0.here hx rfl (hb hby own_jdk_42_method_66_0) rfl rfl k) ?_
  refine own_step (fun t k => XS.aloadN X0.here hx rfl (hb hby own_jdk_42_method_66_1) rfl rfl k) ?_
  show own_Goes _ _ _ _ s₁ (mkF m 2 #[.val (.ref a), .val (.ref o), .unset] [(.ref o), (.ref a)])
  refine own_step (fun t k => Jvm.RoadKit.acmp (g := (mkF m 2 #[.val (.ref a), .val (.ref o), .unset] [(.ref o), (.ref a)])) X0 hx rfl rfl rfl (pc0 := 2) (pc' := 7) (same := false) rfl (hb hby own_jdk_42_method_66_2) rfl (decide_eq_false fun q => neao (Value.ref.inj q)) (by decide) (by decide) k) ?_
  refine own_step (fun t k => XS.aloadN X0.here hx rfl (hb hby own_jdk_42_method_66_7) rfl rfl k) ?_
  show own_Goes _ _ _ _ s₁ (mkF m 8 #[.val (.ref a), .val (.ref o), .unset] [(.ref o)])
  obtain ⟨T1, X1, e1, st1⟩ := instY X0 hx hZ hown (hw _ (List.mem_of_getElem? (i := 76) rfl)) e0 (Ins.self E_o) (g := (mkF m 8 #[.val (.ref a), .val (.ref o), .unset] [(.ref o)])) rfl rfl (hb hby own_jdk_42_method_66_8)
  refine own_step st1 ?_
  show own_Goes _ _ _ _ T1 (mkF m 11 #[.val (.ref a), .val (.ref o), .unset] [(.int (1 : Int32))])
  refine own_step (fun t k => XS.ifNo X1.here hx rfl (hb hby own_jdk_42_method_66_11) rfl ((if0 _ _).trans (feq (show ¬ ((1 : Int32) = (0 : Int32)) from (by decide))).1) k) ?_
  refine own_step (fun t k => XS.aloadN X1.here hx rfl (hb hby own_jdk_42_method_66_14) rfl rfl k) ?_
  show own_Goes _ _ _ _ T1 (mkF m 15 #[.val (.ref a), .val (.ref o), .unset] [(.ref o)])
  obtain ⟨T2, X2, e2, st2⟩ := castY X1 hx hZ hown (hw _ (List.mem_of_getElem? (i := 76) rfl)) e1 (Ins.self E_o) (g := (mkF m 15 #[.val (.ref a), .val (.ref o), .unset] [(.ref o)])) rfl rfl (hb hby own_jdk_42_method_66_15)
  refine own_step st2 ?_
  refine own_step (fun t k => XS.astoreN X2.here hx rfl (hb hby own_jdk_42_method_66_18) rfl rfl (l' := #[.val (.ref a), .val (.ref o), .val (.ref o)]) rfl k) ?_
  show own_Goes _ _ _ _ T2 (mkF m 19 #[.val (.ref a), .val (.ref o), .val (.ref o)] [])
  obtain ⟨T3, X3, e3, st3⟩ := getS2 X2 hx hZ hown (host := "") (Or.inl (hw _ (List.mem_of_getElem? (i := 60) rfl))) Via.refl e2 S_COMPACT_STRINGS (g := (mkF m 19 #[.val (.ref a), .val (.ref o), .val (.ref o)] [])) rfl (hb hby own_jdk_42_method_66_19)
  refine own_step st3 ?_
  show own_Goes _ _ _ _ T3 (mkF m 22 #[.val (.ref a), .val (.ref o), .val (.ref o)] [(.int zc)])
  refine own_step (fun t k => XS.ifNo X3.here hx rfl (hb hby own_jdk_42_method_66_22) rfl ((if0 _ _).trans (feq (show ¬ (zc = (0 : Int32)) from hz)).1) k) ?_
  refine own_step (fun t k => XS.aloadN X3.here hx rfl (hb hby own_jdk_42_method_66_25) rfl rfl k) ?_
  show own_Goes _ _ _ _ T3 (mkF m 26 #[.val (.ref a), .val (.ref o), .val (.ref o)] [(.ref a)])
  obtain ⟨T4, X4, e4, st4⟩ := getF X3 hx hZ hown (host := "") (Or.inl (hw _ (List.mem_of_getElem? (i := 35) rfl))) Via.refl e3 F_a_coder (g := (mkF m 26 #[.val (.ref a), .val (.ref o), .val (.ref o)] [(.ref a)])) rfl rfl (hb hby own_jdk_42_method_66_26)
  refine own_step st4 ?_
  refine own_step (fun t k => XS.aloadN X4.here hx rfl (hb hby own_jdk_42_method_66_29) rfl rfl k) ?_
  show own_Goes _ _ _ _ T4 (mkF m 30 #[.val (.ref a), .val (.ref o), .val (.ref o)] [(.ref o), (.int (0 : Int32))])
  obtain ⟨T5, X5, e5, st5⟩ := getF X4 hx hZ hown (host := "") (Or.inl (hw _ (List.mem_of_getElem? (i := 35) rfl))) Via.refl e4 F_o_coder (g := (mkF m 30 #[.val (.ref a), .val (.ref o), .val (.ref o)] [(.ref o), (.int (0 : Int32))])) rfl rfl (hb hby own_jdk_42_method_66_30)
  refine own_step st5 ?_
  show own_Goes _ _ _ _ T5 (mkF m 33 #[.val (.ref a), .val (.ref o), .val (.ref o)] [(.int (0 : Int32)), (.int (0 : Int32))])
  refine own_step (fun t k => XS.icmpNo X5.here hx rfl (hb hby own_jdk_42_method_66_33) rfl (teq (show (0 : Int32) = (0 : Int32) from (by decide))).2 k) ?_
  refine own_step (fun t k => XS.aloadN X5.here hx rfl (hb hby own_jdk_42_method_66_36) rfl rfl k) ?_
  show own_Goes _ _ _ _ T5 (mkF m 37 #[.val (.ref a), .val (.ref o), .val (.ref o)] [(.ref a)])
  obtain ⟨T6, X6, e6, st6⟩ := getF X5 hx hZ hown (host := "") (Or.inl (hw _ (List.mem_of_getElem? (i := 34) rfl))) Via.refl e5 F_a_value (g := (mkF m 37 #[.val (.ref a), .val (.ref o), .val (.ref o)] [(.ref a)])) rfl rfl (hb hby own_jdk_42_method_66_37)
  refine own_step st6 ?_
  refine own_step (fun t k => XS.aloadN X6.here hx rfl (hb hby own_jdk_42_method_66_40) rfl rfl k) ?_
  show own_Goes _ _ _ _ T6 (mkF m 41 #[.val (.ref a), .val (.ref o), .val (.ref o)] [(.ref o), (.ref va)])
  obtain ⟨T7, X7, e7, st7⟩ := getF X6 hx hZ hown (host := "") (Or.inl (hw _ (List.mem_of_getElem? (i := 34) rfl))) Via.refl e6 F_o_value (g := (mkF m 41 #[.val (.ref a), .val (.ref o), .val (.ref o)] [(.ref o), (.ref va)])) rfl rfl (hb hby own_jdk_42_method_66_41)
  refine own_step st7 ?_
  show own_Goes _ _ _ _ T7 (mkF m 44 #[.val (.ref a), .val (.ref o), .val (.ref o)] [(.ref vb), (.ref va)])
  refine own_callS X7 hx hZ (y := (⟨"java/lang/StringLatin1", "equals", "([B[B)Z"⟩ : MethodName)) hown (hw _ (List.mem_of_getElem? (i := 77) rfl)) (hw _ (List.mem_of_getElem? (i := 78) rfl)) (hw _ (List.mem_of_getElem? (i := 79) rfl)) (hw _ (List.mem_of_getElem? (i := 80) rfl)) (by decide) 0 [(.ref va), (.ref vb)] [] (own_leq_12len l Z a0 hw [] va vb ka kb x0 y0 y1 h0 n0 Z0 V_va V_vb) e7  (by decide) (by decide) (by decide) (by decide) (g := (mkF m 44 #[.val (.ref a), .val (.ref o), .val (.ref o)] [(.ref vb), (.ref va)])) rfl (by rw [hml]; rfl) own_pd6 rfl rfl (by show 2 * 0 + _ ≤ _; exact Nat.le_of_eq rfl) (hb hby own_jdk_42_method_66_44) ?_
  intro T8 v8 L8 X8 hQ8
  obtain ⟨rfl, N8q, e8⟩ := hQ8
  have N8 := Fr.app N0 N8q
  show own_Goes _ _ _ _ T8 (mkF m 47 #[.val (.ref a), .val (.ref o), .val (.ref o)] [(.int (0 : Int32))])
  refine own_step (fun t k => XS.ifYes X8.here hx rfl (pc0 := 47) (pc' := 54) rfl (hb hby own_jdk_42_method_66_47) rfl ((if0 _ _).trans (teq (show (0 : Int32) = (0 : Int32) from (by decide))).1) (by decide) (by decide) k) ?_
  refine own_step (fun t k => XS.iconst X8.here hx rfl (hb hby own_jdk_42_method_66_54) k) ?_
  show own_Goes _ _ _ _ T8 (mkF m 55 #[.val (.ref a), .val (.ref o), .val (.ref o)] [(.int (0 : Int32))])
  exact own_retN X8 hx hlk (t := .boolean) hrt (by simp) (hb hby own_jdk_42_method_66_55) ⟨rfl, N8, e8⟩ (by decide) (by decide)
set_option maxRecDepth 65536 in
set_option maxHeartbeats 40000000 in
theorem own_is_12len (l : Launch) (Z : State) (a0 : Array Value) (hw : ∀ d ∈ tables_1, d.before a0 Z = true) (ws : List Jvm.Cond) (a : Addr) (tz : Addr) (o : Addr) (ty : Addr) (tx : Addr) (va : Addr) (vb : Addr) (ka : ClassId) (kb : ClassId) (x0 : Int32) (y0 : Int32) (y1 : Int32) (zc : Int32) (h0 : Heap) (n0 : Nat) (Z0 : n0 ≤ h0.size) (F_a_type : Fld Z h0 a "com/example/weaverbird/weaverbird/automaton/HoaLexer$Token" "type" "Lcom/example/weaverbird/weaverbird/automaton/HoaLexer$Type;" (.ref ty)) (F_a_text : Fld Z h0 a "com/example/weaverbird/weaverbird/automaton/HoaLexer$Token" "text" "Ljava/lang/String;" (.ref tx)) (E_tx : Exa Z h0 tx "java/lang/String") (E_o : Exa Z h0 o "java/lang/String") (F_tx_coder : Fld Z h0 tx "java/lang/String" "coder" "B" (.int (0 : Int32))) (F_o_coder : Fld Z h0 o "java/lang/String" "coder" "B" (.int (0 : Int32))) (F_tx_value : Fld Z h0 tx "java/lang/String" "value" "[B" (.ref va)) (F_o_value : Fld Z h0 o "java/lang/String" "value" "[B" (.ref vb)) (V_va : Arv Z h0 va ka .byte (1 : Int32) [(.int x0)] (.int (0 : Int32))) (V_vb : Arv Z h0 vb kb .byte (2 : Int32) [(.int y0), (.int y1)] (.int (0 : Int32))) (S_COMPACT_STRINGS : Sta Z h0 "java/lang/String" "COMPACT_STRINGS" "Z" (.int zc)) (hty : ty = tz) (hz : ¬ (zc = (0 : Int32))) (neto : ¬ (tx = o)) :
    own_Met l Z (⟨"com/example/weaverbird/weaverbird/automaton/HoaLexer$Token", "is", "(Lcom/example/weaverbird/weaverbird/automaton/HoaLexer$Type;Ljava/lang/String;)Z"⟩ : MethodName) prog_16_method_2_code 3 (some .boolean) ws ({ frames := 2, cells := 0, slots := 0, locals := 28 } : Room) #[(.ref a), (.ref tz), (.ref o)] h0 (fun v h L => v = some (.int (0 : Int32)) ∧ Fr n0 L ∧ h = h0) := by
  refine own_body (plainFor_of_name own_pn_com_example_weaverbird_weaverbird_automaton_HoaLexer_Token) (fun p e s m below meth c s₁ hx hby hml0 hrt hlk hown0 hnm hZ X0 e0 => ?_)
  have N0 := Fr.nil n0
  have hown : s.vm.findClass "com/example/weaverbird/weaverbird/automaton/HoaLexer$Token" = some m.cls := hown0
  have hml : c.maxLocals = 3 := hml0
  refine own_castG (own_ef9 m a tz o) ?_
  refine own_step (fun t k => XS.aloadN X0.here hx rfl (hb hby own_prog_16_method_2_0) rfl rfl k) ?_
  show own_Goes _ _ _ _ s₁ (mkF m 1 #[.val (.ref a), .val (.ref tz), .val (.ref o)] [(.ref a)])
  obtain ⟨T1, X1, e1, st1⟩ := getF X0 hx hZ hown (host := "") (Or.inl (hw _ (List.mem_of_getElem? (i := 45) rfl))) Via.refl e0 F_a_type (g := (mkF m 1 #[.val (.ref a), .val (.ref tz), .val (.ref o)] [(.ref a)])) rfl rfl (hb hby own_prog_16_method_2_1)
  refine own_step st1 ?_
  refine own_step (fun t k => XS.aloadN X1.here hx rfl (hb hby own_prog_16_method_2_4) rfl rfl k) ?_
  show own_Goes _ _ _ _ T1 (mkF m 5 #[.val (.ref a), .val (.ref tz), .val (.ref o)] [(.ref tz), (.ref ty)])
  refine own_step (fun t k => Jvm.RoadKit.acmp (g := (mkF m 5 #[.val (.ref a), .val (.ref tz), .val (.ref o)] [(.ref tz), (.ref ty)])) X1 hx rfl rfl rfl (pc0 := 5) (pc' := 8) (same := true) rfl (hb hby own_prog_16_method_2_5) rfl (decide_eq_true (congrArg Value.ref hty)) (by decide) (by decide) k) ?_
  refine own_step (fun t k => XS.aloadN X1.here hx rfl (hb hby own_prog_16_method_2_8) rfl rfl k) ?_
  show own_Goes _ _ _ _ T1 (mkF m 9 #[.val (.ref a), .val (.ref tz), .val (.ref o)] [(.ref a)])
  obtain ⟨T2, X2, e2, st2⟩ := getF X1 hx hZ hown (host := "") (Or.inl (hw _ (List.mem_of_getElem? (i := 47) rfl))) Via.refl e1 F_a_text (g := (mkF m 9 #[.val (.ref a), .val (.ref tz), .val (.ref o)] [(.ref a)])) rfl rfl (hb hby own_prog_16_method_2_9)
  refine own_step st2 ?_
  refine own_step (fun t k => XS.aloadN X2.here hx rfl (hb hby own_prog_16_method_2_12) rfl rfl k) ?_
  show own_Goes _ _ _ _ T2 (mkF m 13 #[.val (.ref a), .val (.ref tz), .val (.ref o)] [(.ref o), (.ref tx)])
  refine own_callV X2 hx hZ (y := (⟨"java/lang/String", "equals", "(Ljava/lang/Object;)Z"⟩ : MethodName)) (z := (⟨"java/lang/String", "equals", "(Ljava/lang/Object;)Z"⟩ : MethodName)) hown (hw _ (List.mem_of_getElem? (i := 71) rfl)) (hw _ (List.mem_of_getElem? (i := 72) rfl)) (notFace_of_selects (args := #[]) (mvT hZ (hw _ (List.mem_of_getElem? (i := 74) rfl)))) (hw _ (List.mem_of_getElem? (i := 74) rfl)) (hw _ (List.mem_of_getElem? (i := 73) rfl)) (hw _ (List.mem_of_getElem? (i := 75) rfl)) (hw _ (List.mem_of_getElem? (i := 16) rfl)) (by decide) 0 E_tx [(.ref o)] [] (own_seq_12len l Z a0 hw [] tx o va vb ka kb x0 y0 y1 zc h0 n0 Z0 E_o F_tx_coder F_o_coder F_tx_value F_o_value V_va V_vb S_COMPACT_STRINGS hz neto) e2  (by decide) (by decide) (by decide) (by decide) (g := (mkF m 13 #[.val (.ref a), .val (.ref tz), .val (.ref o)] [(.ref o), (.ref tx)])) rfl (by rw [hml]; rfl) own_pd7 rfl rfl (by show 2 * 0 + _ ≤ _; exact Nat.le_of_eq rfl) (hb hby own_prog_16_method_2_13) ?_
  intro T3 v3 L3 X3 hQ3
  obtain ⟨rfl, N3q, e3⟩ := hQ3
  have N3 := Fr.app N0 N3q
  show own_Goes _ _ _ _ T3 (mkF m 16 #[.val (.ref a), .val (.ref tz), .val (.ref o)] [(.int (0 : Int32))])
  refine own_step (fun t k => XS.ifYes X3.here hx rfl (pc0 := 16) (pc' := 23) rfl (hb hby own_prog_16_method_2_16) rfl ((if0 _ _).trans (teq (show (0 : Int32) = (0 : Int32) from (by decide))).1) (by decide) (by decide) k) ?_
  refine own_step (fun t k => XS.iconst X3.here hx rfl (hb hby own_prog_16_method_2_23) k) ?_
  show own_Goes _ _ _ _ T3 (mkF m 24 #[.val (.ref a), .val (.ref tz), .val (.ref o)] [(.int (0 : Int32))])
  exact own_retN X3 hx hlk (t := .boolean) hrt (by simp) (hb hby own_prog_16_method_2_24) ⟨rfl, N3, e3⟩ (by decide) (by decide)
set_option maxRecDepth 65536 in
set_option maxHeartbeats 40000000 in
theorem own_leq_20len (l : Launch) (Z : State) (a0 : Array Value) (hw : ∀ d ∈ tables_1, d.before a0 Z = true) (ws : List Jvm.Cond) (va : Addr) (vb : Addr) (ka : ClassId) (kb : ClassId) (x0 : Int32) (x1 : Int32) (h0 : Heap) (n0 : Nat) (Z0 : n0 ≤ h0.size) (V_va : Arv Z h0 va ka .byte (2 : Int32) [(.int x0), (.int x1)] (.int (0 : Int32))) (V_vb : Arv Z h0 vb kb .byte (0 : Int32) [] (.int (0 : Int32))) :
    own_Met l Z (⟨"java/lang/StringLatin1", "equals", "([B[B)Z"⟩ : MethodName) jdk_43_method_13_code 3 (some .boolean) ws ({ frames := 0, cells := 0, slots := 0, locals := 0 } : Room) #[(.ref va), (.ref vb)] h0 (fun v h L => v = some (.int (0 : Int32)) ∧ Fr n0 L ∧ h = h0) := by
  refine own_body (plainFor_of_name own_pn_java_lang_StringLatin1) (fun p e s m below meth c s₁ hx hby hml0 hrt hlk hown0 hnm hZ X0 e0 => ?_)
  have N0 := Fr.nil n0
  have hown : s.vm.findClass "java/lang/StringLatin1" = some m.cls := hown0
  have hml : c.maxLocals = 3 := hml0
  refine own_castG (own_ef10 m va vb) ?_
  refine own_step (fun t k => XS.aloadN X0.here hx rfl (hb hby own_jdk_43_method_13_0) rfl rfl k) ?_
  show own_Goes _ _ _ _ s₁ (mkF m 1 #[.val (.ref va), .val (.ref vb), .unset] [(.ref va)])
  refine own_step (own_alen X0 hx hZ e0 V_va (g := (mkF m 1 #[.val (.ref va), .val (.ref vb), .unset] [(.ref va)])) rfl rfl (hb hby own_jdk_43_method_13_1)) ?_
  refine own_step (fun t k => XS.aloadN X0.here hx rfl (hb hby own_jdk_43_method_13_2) rfl rfl k) ?_
  show own_Goes _ _ _ _ s₁ (mkF m 3 #[.val (.ref va), .val (.ref vb), .unset] [(.ref vb), (.int (2 : Int32))])
  refine own_step (own_alen X0 hx hZ e0 V_vb (g := (mkF m 3 #[.val (.ref va), .val (.ref vb), .unset] [(.ref vb), (.int (2 : Int32))])) rfl rfl (hb hby own_jdk_43_method_13_3)) ?_
  show own_Goes _ _ _ _ s₁ (mkF m 4 #[.val (.ref va), .val (.ref vb), .unset] [(.int (0 : Int32)), (.int (2 : Int32))])
  refine own_step (fun t k => XS.icmpYes X0.here hx rfl (pc0 := 4) (pc' := 34) rfl (hb hby own_jdk_43_method_13_4) rfl (feq (show ¬ ((2 : Int32) = (0 : Int32)) from (by decide))).2 (by decide) (by decide) k) ?_
  refine own_step (fun t k => XS.iconst X0.here hx rfl (hb hby own_jdk_43_method_13_34) k) ?_
  show own_Goes _ _ _ _ s₁ (mkF m 35 #[.val (.ref va), .val (.ref vb), .unset] [(.int (0 : Int32))])
  exact own_retN X0 hx hlk (t := .boolean) hrt (by simp) (hb hby own_jdk_43_method_13_35) ⟨rfl, N0, e0⟩ (by decide) (by decide)
set_option maxRecDepth 65536 in
set_option maxHeartbeats 40000000 in
theorem own_seq_20len (l : Launch) (Z : State) (a0 : Array Value) (hw : ∀ d ∈ tables_1, d.before a0 Z = true) (ws : List Jvm.Cond) (a : Addr) (o : Addr) (va : Addr) (vb : Addr) (ka : ClassId) (kb : ClassId) (x0 : Int32) (x1 : Int32) (zc : Int32) (h0 : Heap) (n0 : Nat) (Z0 : n0 ≤ h0.size) (E_o : Exa Z h0 o "java/lang/String") (F_a_coder : Fld Z h0 a "java/lang/String" "coder" "B" (.int (0 : Int32))) (F_o_coder : Fld Z h0 o "java/lang/String" "coder" "B" (.int (0 : Int32))) (F_a_value : Fld Z h0 a "java/lang/String" "value" "[B" (.ref va)) (F_o_value : Fld Z h0 o "java/lang/String" "value" "[B" (.ref vb)) (V_va : Arv Z h0 va ka .byte (2 : Int32) [(.int x0), (.int x1)] (.int (0 : Int32))) (V_vb : Arv Z h0 vb kb .byte (0 : Int32) [] (.int (0 : Int32))) (S_COMPACT_STRINGS : Sta Z h0 "java/lang/String" "COMPACT_STRINGS" "Z" (.int zc)) (hz : ¬ (zc = (0 : Int32))) (neao : ¬ (a = o)) :
    own_Met l Z (⟨"java/lang/String", "equals", "(Ljava/lang/Object;)Z"⟩ : MethodName) jdk_42_method_66_code 3 (some .boolean) ws ({ frames := 1, cells := 0, slots := 0, locals := 14 } : Room) #[(.ref a), (.ref o)] h0 (fun v h L => v = some (.int (0 : Int32)) ∧ Fr n0 L ∧ h = h0) := by
  refine own_body (plainFor_of_name own_pn_java_lang_String) (fun p e s m below meth c s₁ hx hby hml0 hrt hlk hown0 hnm hZ X0 e0 => ?_)
  have N0 := Fr.nil n0
  have hown : s.vm.findClass "java/lang/String" = some m.cls := hown0
  have hml : c.maxLocals = 3 := hml0
  refine own_castG (own_ef11 m a o) ?_
  refine own_step (fun t k => XS.aloadN X0.here hx rfl (hb hby own_jdk_42_method_66_0) rfl rfl k) ?_
  refine own_step (fun t k => XS.aloadN X0.here hx rfl (hb hby own_jdk_42_method_66_1) rfl rfl k) ?_
  show own_Goes _ _ _ _ s₁ (mkF m 2 #[.val (.ref a), .val (.ref o), .unset] [(.ref o), (.ref a)])
  refine own_step (fun t k => Jvm.RoadKit.acmp (g := (mkF m 2 #[.val (.ref a), .val (.ref o), .unset] [(.ref o), (.ref a)])) X0 hx rfl rfl rfl (pc0 := 2) (pc' := 7) (same := false) rfl (hb hby own_jdk_42_method_66_2) rfl (decide_eq_false fun q => neao (Value.ref.inj q)) (by decide) (by decide) k) ?_
  refine own_step (fun t k => XS.aloadN X0.here hx rfl (hb hby own_jdk_42_method_66_7) rfl rfl k) ?_
  show own_Goes _ _ _ _ s₁ (mkF m 8 #[.val (.ref a), .val (.ref o), .unset] [(.ref o)])
  obtain ⟨T1, X1, e1, st1⟩ := instY X0 hx hZ hown (hw _ (List.mem_of_getElem? (i := 76) rfl)) e0 (Ins.self E_o) (g := (mkF m 8 #[.val (.ref a), .val (.ref o), .unset] [(.ref o)])) rfl rfl (hb hby own_jdk_42_method_66_8)
  refine own_step st1 ?_
  show own_Goes _ _ _ _ T1 (mkF m 11 #[.val (.ref a), .val (.ref o), .unset] [(.int (1 : Int32))])
  refine own_step (fun t k => XS.ifNo X1.here hx rfl (hb hby own_jdk_42_method_66_11) rfl ((if0 _ _).trans (feq (show ¬ ((1 : Int32) = (0 : Int32)) from (by decide))).1) k) ?_
  refine own_step (fun t k => XS.aloadN X1.here hx rfl (hb hby own_jdk_42_method_66_14) rfl rfl k) ?_
  show own_Goes _ _ _ _ T1 (mkF m 15 #[.val (.ref a), .val (.ref o), .unset] [(.ref o)])
  obtain ⟨T2, X2, e2, st2⟩ := castY X1 hx hZ hown (hw _ (List.mem_of_getElem? (i := 76) rfl)) e1 (Ins.self E_o) (g := (mkF m 15 #[.val (.ref a), .val (.ref o), .unset] [(.ref o)])) rfl rfl (hb hby own_jdk_42_method_66_15)
  refine own_step st2 ?_
  refine own_step (fun t k => XS.astoreN X2.here hx rfl (hb hby own_jdk_42_method_66_18) rfl rfl (l' := #[.val (.ref a), .val (.ref o), .val (.ref o)]) rfl k) ?_
  show own_Goes _ _ _ _ T2 (mkF m 19 #[.val (.ref a), .val (.ref o), .val (.ref o)] [])
  obtain ⟨T3, X3, e3, st3⟩ := getS2 X2 hx hZ hown (host := "") (Or.inl (hw _ (List.mem_of_getElem? (i := 60) rfl))) Via.refl e2 S_COMPACT_STRINGS (g := (mkF m 19 #[.val (.ref a), .val (.ref o), .val (.ref o)] [])) rfl (hb hby own_jdk_42_method_66_19)
  refine own_step st3 ?_
  show own_Goes _ _ _ _ T3 (mkF m 22 #[.val (.ref a), .val (.ref o), .val (.ref o)] [(.int zc)])
  refine own_step (fun t k => XS.ifNo X3.here hx rfl (hb hby own_jdk_42_method_66_22) rfl ((if0 _ _).trans (feq (show ¬ (zc = (0 : Int32)) from hz)).1) k) ?_
  refine own_step (fun t k => XS.aloadN X3.here hx rfl (hb hby own_jdk_42_method_66_25) rfl rfl k) ?_
  show own_Goes _ _ _ _ T3 (mkF m 26 #[.val (.ref a), .val (.ref o), .val (.ref o)] [(.ref a)])
  obtain ⟨T4, X4, e4, st4⟩ := getF X3 hx hZ hown (host := "") (Or.inl (hw _ (List.mem_of_getElem? (i := 35) rfl))) Via.refl e3 F_a_coder (g := (mkF m 26 #[.val (.ref a), .val (.ref o), .val (.ref o)] [(.ref a)])) rfl rfl (hb hby own_jdk_42_method_66_26)
  refine own_step st4 ?_
  refine own_step (fun t k => XS.aloadN X4.here hx rfl (hb hby own_jdk_42_method_66_29) rfl rfl k) ?_
  show own_Goes _ _ _ _ T4 (mkF m 30 #[.val (.ref a), .val (.ref o), .val (.ref o)] [(.ref o), (.int (0 : Int32))])
  obtain ⟨T5, X5, e5, st5⟩ := getF X4 hx hZ hown (host := "") (Or.inl (hw _ (List.mem_of_getElem? (i := 35) rfl))) Via.refl e4 F_o_coder (g := (mkF m 30 #[.val (.ref a), .val (.ref o), .val (.ref o)] [(.ref o), (.int (0 : Int32))])) rfl rfl (hb hby own_jdk_42_method_66_30)
  refine own_step st5 ?_
  show own_Goes _ _ _ _ T5 (mkF m 33 #[.val (.ref a), .val (.ref o), .val (.ref o)] [(.int (0 : Int32)), (.int (0 : Int32))])
  refine own_step (fun t k => XS.icmpNo X5.here hx rfl (hb hby own_jdk_42_method_66_33) rfl (teq (show (0 : Int32) = (0 : Int32) from (by decide))).2 k) ?_
  refine own_step (fun t k => XS.aloadN X5.here hx rfl (hb hby own_jdk_42_method_66_36) rfl rfl k) ?_
  show own_Goes _ _ _ _ T5 (mkF m 37 #[.val (.ref a), .val (.ref o), .val (.ref o)] [(.ref a)])
  obtain ⟨T6, X6, e6, st6⟩ := getF X5 hx hZ hown (host := "") (Or.inl (hw _ (List.mem_of_getElem? (i := 34) rfl))) Via.refl e5 F_a_value (g := (mkF m 37 #[.val (.ref a), .val (.ref o), .val (.ref o)] [(.ref a)])) rfl rfl (hb hby own_jdk_42_method_66_37)
  refine own_step st6 ?_
  refine own_step (fun t k => XS.aloadN X6.here hx rfl (hb hby own_jdk_42_method_66_40) rfl rfl k) ?_
  show own_Goes _ _ _ _ T6 (mkF m 41 #[.val (.ref a), .val (.ref o), .val (.ref o)] [(.ref o), (.ref va)])
  obtain ⟨T7, X7, e7, st7⟩ := getF X6 hx hZ hown (host := "") (Or.inl (hw _ (List.mem_of_getElem? (i := 34) rfl))) Via.refl e6 F_o_value (g := (mkF m 41 #[.val (.ref a), .val (.ref o), .val (.ref o)] [(.ref o), (.ref va)])) rfl rfl (hb hby own_jdk_42_method_66_41)
  refine own_step st7 ?_
  show own_Goes _ _ _ _ T7 (mkF m 44 #[.val (.ref a), .val (.ref o), .val (.ref o)] [(.ref vb), (.ref va)])
  refine own_callS X7 hx hZ (y := (⟨"java/lang/StringLatin1", "equals", "([B[B)Z"⟩ : MethodName)) hown (hw _ (List.mem_of_getElem? (i := 77) rfl)) (hw _ (List.mem_of_getElem? (i := 78) rfl)) (hw _ (List.mem_of_getElem? (i := 79) rfl)) (hw _ (List.mem_of_getElem? (i := 80) rfl)) (by decide) 0 [(.ref va), (.ref vb)] [] (own_leq_20len l Z a0 hw [] va vb ka kb x0 x1 h0 n0 Z0 V_va V_vb) e7  (by decide) (by decide) (by decide) (by decide) (g := (mkF m 44 #[.val (.ref a), .val (.ref o), .val (.ref o)] [(.ref vb), (.ref va)])) rfl (by rw [hml]; rfl) own_pd6 rfl rfl (by show 2 * 0 + _ ≤ _; exact Nat.le_of_eq rfl) (hb hby own_jdk_42_method_66_44) ?_
  intro T8 v8 L8 X8 hQ8
  obtain ⟨rfl, N8q, e8⟩ := hQ8
  have N8 := Fr.app N0 N8q
  show own_Goes _ _ _ _ T8 (mkF m 47 #[.val (.ref a), .val (.ref o), .val (.ref o)] [(.int (0 : Int32))])
  refine own_step (fun t k => XS.ifYes X8.here hx rfl (pc0 := 47) (pc' := 54) rfl (hb hby own_jdk_42_method_66_47) rfl ((if0 _ _).trans (teq (show (0 : Int32) = (0 : Int32) from (by decide))).1) (by decide) (by decide) k) ?_
  refine own_step (fun t k => XS.iconst X8.here hx rfl (hb hby own_jdk_42_method_66_54) k) ?_
  show own_Goes _ _ _ _ T8 (mkF m 55 #[.val (.ref a), .val (.ref o), .val (.ref o)] [(.int (0 : Int32))])
  exact own_retN X8 hx hlk (t := .boolean) hrt (by simp) (hb hby own_jdk_42_method_66_55) ⟨rfl, N8, e8⟩ (by decide) (by decide)
set_option maxRecDepth 65536 in
set_option maxHeartbeats 40000000 in
theorem own_is_20len (l : Launch) (Z : State) (a0 : Array Value) (hw : ∀ d ∈ tables_1, d.before a0 Z = true) (ws : List Jvm.Cond) (a : Addr) (tz : Addr) (o : Addr) (ty : Addr) (tx : Addr) (va : Addr) (vb : Addr) (ka : ClassId) (kb : ClassId) (x0 : Int32) (x1 : Int32) (zc : Int32) (h0 : Heap) (n0 : Nat) (Z0 : n0 ≤ h0.size) (F_a_type : Fld Z h0 a "com/example/weaverbird/weaverbird/automaton/HoaLexer$Token" "type" "Lcom/example/weaverbird/weaverbird/automaton/HoaLexer$Type;" (.ref ty)) (F_a_text : Fld Z h0 a "com/example/weaverbird/weaverbird/automaton/HoaLexer$Token" "text" "Ljava/lang/String;" (.ref tx)) (E_tx : Exa Z h0 tx "java/lang/String") (E_o : Exa Z h0 o "java/lang/String") (F_tx_coder : Fld Z h0 tx "java/lang/String" "coder" "B" (.int (0 : Int32))) (F_o_coder : Fld Z h0 o "java/lang/String" "coder" "B" (.int (0 : Int32))) (F_tx_value : Fld Z h0 tx "java/lang/String" "value" "[B" (.ref va)) (F_o_value : Fld Z h0 o "java/lang/String" "value" "[B" (.ref vb)) (V_va : Arv Z h0 va ka .byte (2 : Int32) [(.int x0), (.int x1)] (.int (0 : Int32))) (V_vb : Arv Z h0 vb kb .byte (0 : Int32) [] (.int (0 : Int32))) (S_COMPACT_STRINGS : Sta Z h0 "java/lang/String" "COMPACT_STRINGS" "Z" (.int zc)) (hty : ty = tz) (hz : ¬ (zc = (0 : Int32))) (neto : ¬ (tx = o)) :
    own_Met l Z (⟨"com/example/weaverbird/weaverbird/automaton/HoaLexer$Token", "is", "(Lcom/example/weaverbird/weaverbird/automaton/HoaLexer$Type;Ljava/lang/String;)Z"⟩ : MethodName) prog_16_method_2_code 3 (some .boolean) ws ({ frames := 2, cells := 0, slots := 0, locals := 28 } : Room) #[(.ref a), (.ref tz), (.ref o)] h0 (fun v h L => v = some (.int (0 : Int32)) ∧ Fr n0 L ∧ h = h0) := by
  refine own_body (plainFor_of_name own_pn_com_example_weaverbird_weaverbird_automaton_HoaLexer_Token) (fun p e s m below meth c s₁ hx hby hml0 hrt hlk hown0 hnm hZ X0 e0 => ?_)
  have N0 := Fr.nil n0
  have hown : s.vm.findClass "com/example/weaverbird/weaverbird/automaton/HoaLexer$Token" = some m.cls := hown0
  have hml : c.maxLocals = 3 := hml0
  refine own_castG (own_ef9 m a tz o) ?_
  refine own_step (fun t k => XS.aloadN X0.here hx rfl (hb hby own_prog_16_method_2_0) rfl rfl k) ?_
  show own_Goes _ _ _ _ s₁ (mkF m 1 #[.val (.ref a), .val (.ref tz), .val (.ref o)] [(.ref a)])
  obtain ⟨T1, X1, e1, st1⟩ := getF X0 hx hZ hown (host := "") (Or.inl (hw _ (List.mem_of_getElem? (i := 45) rfl))) Via.refl e0 F_a_type (g := (mkF m 1 #[.val (.ref a), .val (.ref tz), .val (.ref o)] [(.ref a)])) rfl rfl (hb hby own_prog_16_method_2_1)
  refine own_step st1 ?_
  refine own_step (fun t k => XS.aloadN X1.here hx rfl (hb hby own_prog_16_method_2_4) rfl rfl k) ?_
  show own_Goes _ _ _ _ T1 (mkF m 5 #[.val (.ref a), .val (.ref tz), .val (.ref o)] [(.ref tz), (.ref ty)])
  refine own_step (fun t k => Jvm.RoadKit.acmp (g := (mkF m 5 #[.val (.ref a), .val (.ref tz), .val (.ref o)] [(.ref tz), (.ref ty)])) X1 hx rfl rfl rfl (pc0 := 5) (pc' := 8) (same := true) rfl (hb hby own_prog_16_method_2_5) rfl (decide_eq_true (congrArg Value.ref hty)) (by decide) (by decide) k) ?_
  refine own_step (fun t k => XS.aloadN X1.here hx rfl (hb hby own_prog_16_method_2_8) rfl rfl k) ?_
  show own_Goes _ _ _ _ T1 (mkF m 9 #[.val (.ref a), .val (.ref tz), .val (.ref o)] [(.ref a)])
  obtain ⟨T2, X2, e2, st2⟩ := getF X1 hx hZ hown (host := "") (Or.inl (hw _ (List.mem_of_getElem? (i := 47) rfl))) Via.refl e1 F_a_text (g := (mkF m 9 #[.val (.ref a), .val (.ref tz), .val (.ref o)] [(.ref a)])) rfl rfl (hb hby own_prog_16_method_2_9)
  refine own_step st2 ?_
  refine own_step (fun t k => XS.aloadN X2.here hx rfl (hb hby own_prog_16_method_2_12) rfl rfl k) ?_
  show own_Goes _ _ _ _ T2 (mkF m 13 #[.val (.ref a), .val (.ref tz), .val (.ref o)] [(.ref o), (.ref tx)])
  refine own_callV X2 hx hZ (y := (⟨"java/lang/String", "equals", "(Ljava/lang/Object;)Z"⟩ : MethodName)) (z := (⟨"java/lang/String", "equals", "(Ljava/lang/Object;)Z"⟩ : MethodName)) hown (hw _ (List.mem_of_getElem? (i := 71) rfl)) (hw _ (List.mem_of_getElem? (i := 72) rfl)) (notFace_of_selects (args := #[]) (mvT hZ (hw _ (List.mem_of_getElem? (i := 74) rfl)))) (hw _ (List.mem_of_getElem? (i := 74) rfl)) (hw _ (List.mem_of_getElem? (i := 73) rfl)) (hw _ (List.mem_of_getElem? (i := 75) rfl)) (hw _ (List.mem_of_getElem? (i := 16) rfl)) (by decide) 0 E_tx [(.ref o)] [] (own_seq_20len l Z a0 hw [] tx o va vb ka kb x0 x1 zc h0 n0 Z0 E_o F_tx_coder F_o_coder F_tx_value F_o_value V_va V_vb S_COMPACT_STRINGS hz neto) e2  (by decide) (by decide) (by decide) (by decide) (g := (mkF m 13 #[.val (.ref a), .val (.ref tz), .val (.ref o)] [(.ref o), (.ref tx)])) rfl (by rw [hml]; rfl) own_pd7 rfl rfl (by show 2 * 0 + _ ≤ _; exact Nat.le_of_eq rfl) (hb hby own_prog_16_method_2_13) ?_
  intro T3 v3 L3 X3 hQ3
  obtain ⟨rfl, N3q, e3⟩ := hQ3
  have N3 := Fr.app N0 N3q
  show own_Goes _ _ _ _ T3 (mkF m 16 #[.val (.ref a), .val (.ref tz), .val (.ref o)] [(.int (0 : Int32))])
  refine own_step (fun t k => XS.ifYes X3.here hx rfl (pc0 := 16) (pc' := 23) rfl (hb hby own_prog_16_method_2_16) rfl ((if0 _ _).trans (teq (show (0 : Int32) = (0 : Int32) from (by decide))).1) (by decide) (by decide) k) ?_
  refine own_step (fun t k => XS.iconst X3.here hx rfl (hb hby own_prog_16_method_2_23) k) ?_
  show own_Goes _ _ _ _ T3 (mkF m 24 #[.val (.ref a), .val (.ref tz), .val (.ref o)] [(.int (0 : Int32))])
  exact own_retN X3 hx hlk (t := .boolean) hrt (by simp) (hb hby own_prog_16_method_2_24) ⟨rfl, N3, e3⟩ (by decide) (by decide)
set_option maxRecDepth 65536 in
set_option maxHeartbeats 40000000 in
theorem own_leq_21len (l : Launch) (Z : State) (a0 : Array Value) (hw : ∀ d ∈ tables_1, d.before a0 Z = true) (ws : List Jvm.Cond) (va : Addr) (vb : Addr) (ka : ClassId) (kb : ClassId) (x0 : Int32) (x1 : Int32) (y0 : Int32) (h0 : Heap) (n0 : Nat) (Z0 : n0 ≤ h0.size) (V_va : Arv Z h0 va ka .byte (2 : Int32) [(.int x0), (.int x1)] (.int (0 : Int32))) (V_vb : Arv Z h0 vb kb .byte (1 : Int32) [(.int y0)] (.int (0 : Int32))) :
    own_Met l Z (⟨"java/lang/StringLatin1", "equals", "([B[B)Z"⟩ : MethodName) jdk_43_method_13_code 3 (some .boolean) ws ({ frames := 0, cells := 0, slots := 0, locals := 0 } : Room) #[(.ref va), (.ref vb)] h0 (fun v h L => v = some (.int (0 : Int32)) ∧ Fr n0 L ∧ h = h0) := by
  refine own_body (plainFor_of_name own_pn_java_lang_StringLatin1) (fun p e s m below meth c s₁ hx hby hml0 hrt hlk hown0 hnm hZ X0 e0 => ?_)
  have N0 := Fr.nil n0
  have hown : s.vm.findClass "java/lang/StringLatin1" = some m.cls := hown0
  have hml : c.maxLocals = 3 := hml0
  refine own_castG (own_ef10 m va vb) ?_
  refine own_step (fun t k => XS.aloadN X0.here hx rfl (hb hby own_jdk_43_method_13_0) rfl rfl k) ?_
  show own_Goes _ _ _ _ s₁ (mkF m 1 #[.val (.ref va), .val (.ref vb), .unset] [(.ref va)])
  refine own_step (own_alen X0 hx hZ e0 V_va (g := (mkF m 1 #[.val (.ref va), .val (.ref vb), .unset] [(.ref va)])) rfl rfl (hb hby own_jdk_43_method_13_1)) ?_
  refine own_step (fun t k => XS.aloadN X0.here hx rfl (hb hby own_jdk_43_method_13_2) rfl rfl k) ?_
  show own_Goes _ _ _ _ s₁ (mkF m 3 #[.val (.ref va), .val (.ref vb), .unset] [(.ref vb), (.int (2 : Int32))])
  refine own_step (own_alen X0 hx hZ e0 V_vb (g := (mkF m 3 #[.val (.ref va), .val (.ref vb), .unset] [(.ref vb), (.int (2 : Int32))])) rfl rfl (hb hby own_jdk_43_method_13_3)) ?_
  show own_Goes _ _ _ _ s₁ (mkF m 4 #[.val (.ref va), .val (.ref vb), .unset] [(.int (1 : Int32)), (.int (2 : Int32))])
  refine own_step (fun t k => XS.icmpYes X0.here hx rfl (pc0 := 4) (pc' := 34) rfl (hb hby own_jdk_43_method_13_4) rfl (feq (show ¬ ((2 : Int32) = (1 : Int32)) from (by decide))).2 (by decide) (by decide) k) ?_
  refine own_step (fun t k => XS.iconst X0.here hx rfl (hb hby own_jdk_43_method_13_34) k) ?_
  show own_Goes _ _ _ _ s₁ (mkF m 35 #[.val (.ref va), .val (.ref vb), .unset] [(.int (0 : Int32))])
  exact own_retN X0 hx hlk (t := .boolean) hrt (by simp) (hb hby own_jdk_43_method_13_35) ⟨rfl, N0, e0⟩ (by decide) (by decide)
set_option maxRecDepth 65536 in
set_option maxHeartbeats 40000000 in
theorem own_seq_21len (l : Launch) (Z : State) (a0 : Array Value) (hw : ∀ d ∈ tables_1, d.before a0 Z = true) (ws : List Jvm.Cond) (a : Addr) (o : Addr) (va : Addr) (vb : Addr) (ka : ClassId) (kb : ClassId) (x0 : Int32) (x1 : Int32) (y0 : Int32) (zc : Int32) (h0 : Heap) (n0 : Nat) (Z0 : n0 ≤ h0.size) (E_o : Exa Z h0 o "java/lang/String") (F_a_coder : Fld Z h0 a "java/lang/String" "coder" "B" (.int (0 : Int32))) (F_o_coder : Fld Z h0 o "java/lang/String" "coder" "B" (.int (0 : Int32))) (F_a_value : Fld Z h0 a "java/lang/String" "value" "[B" (.ref va)) (F_o_value : Fld Z h0 o "java/lang/String" "value" "[B" (.ref vb)) (V_va : Arv Z h0 va ka .byte (2 : Int32) [(.int x0), (.int x1)] (.int (0 : Int32))) (V_vb : Arv Z h0 vb kb .byte (1 : Int32) [(.int y0)] (.int (0 : Int32))) (S_COMPACT_STRINGS : Sta Z h0 "java/lang/String" "COMPACT_STRINGS" "Z" (.int zc)) (hz : ¬ (zc = (0 : Int32))) (neao : ¬ (a = o)) :
    own_Met l Z (⟨"java/lang/String", "equals", "(Ljava/lang/Object;)Z"⟩ : MethodName) jdk_42_method_66_code 3 (some .boolean) ws ({ frames := 1, cells := 0, slots := 0, locals := 14 } : Room) #[(.ref a), (.ref o)] h0 (fun v h L => v = some (.int (0 : Int32)) ∧ Fr n0 L ∧ h = h0) := by
  refine own_body (plainFor_of_name own_pn_java_lang_String) (fun p e s m below meth c s₁ hx hby hml0 hrt hlk hown0 hnm hZ X0 e0 => ?_)
  have N0 := Fr.nil n0
  have hown : s.vm.findClass "java/lang/String" = some m.cls := hown0
  have hml : c.maxLocals = 3 := hml0
  refine own_castG (own_ef11 m a o) ?_
  refine own_step (fun t k => XS.aloadN X0.here hx rfl (hb hby own_jdk_42_method_66_0) rfl rfl k) ?_
  refine own_step (fun t k => XS.aloadN X0.here hx rfl (hb hby own_jdk_42_method_66_1) rfl rfl k) ?_
  show own_Goes _ _ _ _ s₁ (mkF m 2 #[.val (.ref a), .val (.ref o), .unset] [(.ref o), (.ref a)])
  refine own_step (fun t k => Jvm.RoadKit.acmp (g := (mkF m 2 #[.val (.ref a), .val (.ref o), .unset] [(.ref o), (.ref a)])) X0 hx rfl rfl rfl (pc0 := 2) (pc' := 7) (same := false) rfl (hb hby own_jdk_42_method_66_2) rfl (decide_eq_false fun q => neao (Value.ref.inj q)) (by decide) (by decide) k) ?_
  refine own_step (fun t k => XS.aloadN X0.here hx rfl (hb hby own_jdk_42_method_66_7) rfl rfl k) ?_
  show own_Goes _ _ _ _ s₁ (mkF m 8 #[.val (.ref a), .val (.ref o), .unset] [(.ref o)])
  obtain ⟨T1, X1, e1, st1⟩ := instY X0 hx hZ hown (hw _ (List.mem_of_getElem? (i := 76) rfl)) e0 (Ins.self E_o) (g := (mkF m 8 #[.val (.ref a), .val (.ref o), .unset] [(.ref o)])) rfl rfl (hb hby own_jdk_42_method_66_8)
  refine own_step st1 ?_
  show own_Goes _ _ _ _ T1 (mkF m 11 #[.val (.ref a), .val (.ref o), .unset] [(.int (1 : Int32))])
  refine own_step (fun t k => XS.ifNo X1.here hx rfl (hb hby own_jdk_42_method_66_11) rfl ((if0 _ _).trans (feq (show ¬ ((1 : Int32) = (0 : Int32)) from (by decide))).1) k) ?_
  refine own_step (fun t k => XS.aloadN X1.here hx rfl (hb hby own_jdk_42_method_66_14) rfl rfl k) ?_
  show own_Goes _ _ _ _ T1 (mkF m 15 #[.val (.ref a), .val (.ref o), .unset] [(.ref o)])
  obtain ⟨T2, X2, e2, st2⟩ := castY X1 hx hZ hown (hw _ (List.mem_of_getElem? (i := 76) rfl)) e1 (Ins.self E_o) (g := (mkF m 15 #[.val (.ref a), .val (.ref o), .unset] [(.ref o)])) rfl rfl (hb hby own_jdk_42_method_66_15)
  refine own_step st2 ?_
  refine own_step (fun t k => XS.astoreN X2.here hx rfl (hb hby own_jdk_42_method_66_18) rfl rfl (l' := #[.val (.ref a), .val (.ref o), .val (.ref o)]) rfl k) ?_
  show own_Goes _ _ _ _ T2 (mkF m 19 #[.val (.ref a), .val (.ref o), .val (.ref o)] [])
  obtain ⟨T3, X3, e3, st3⟩ := getS2 X2 hx hZ hown (host := "") (Or.inl (hw _ (List.mem_of_getElem? (i := 60) rfl))) Via.refl e2 S_COMPACT_STRINGS (g := (mkF m 19 #[.val (.ref a), .val (.ref o), .val (.ref o)] [])) rfl (hb hby own_jdk_42_method_66_19)
  refine own_step st3 ?_
  show own_Goes _ _ _ _ T3 (mkF m 22 #[.val (.ref a), .val (.ref o), .val (.ref o)] [(.int zc)])
  refine own_step (fun t k => XS.ifNo X3.here hx rfl (hb hby own_jdk_42_method_66_22) rfl ((if0 _ _).trans (feq (show ¬ (zc = (0 : Int32)) from hz)).1) k) ?_
  refine own_step (fun t k => XS.aloadN X3.here hx rfl (hb hby own_jdk_42_method_66_25) rfl rfl k) ?_
  show own_Goes _ _ _ _ T3 (mkF m 26 #[.val (.ref a), .val (.ref o), .val (.ref o)] [(.ref a)])
  obtain ⟨T4, X4, e4, st4⟩ := getF X3 hx hZ hown (host := "") (Or.inl (hw _ (List.mem_of_getElem? (i := 35) rfl))) Via.refl e3 F_a_coder (g := (mkF m 26 #[.val (.ref a), .val (.ref o), .val (.ref o)] [(.ref a)])) rfl rfl (hb hby own_jdk_42_method_66_26)
  refine own_step st4 ?_
  refine own_step (fun t k => XS.aloadN X4.here hx rfl (hb hby own_jdk_42_method_66_29) rfl rfl k) ?_
  show own_Goes _ _ _ _ T4 (mkF m 30 #[.val (.ref a), .val (.ref o), .val (.ref o)] [(.ref o), (.int (0 : Int32))])
  obtain ⟨T5, X5, e5, st5⟩ := getF X4 hx hZ hown (host := "") (Or.inl (hw _ (List.mem_of_getElem? (i := 35) rfl))) Via.refl e4 F_o_coder (g := (mkF m 30 #[.val (.ref a), .val (.ref o), .val (.ref o)] [(.ref o), (.int (0 : Int32))])) rfl rfl (hb hby own_jdk_42_method_66_30)
  refine own_step st5 ?_
  show own_Goes _ _ _ _ T5 (mkF m 33 #[.val (.ref a), .val (.ref o), .val (.ref o)] [(.int (0 : Int32)), (.int (0 : Int32))])
  refine own_step (fun t k => XS.icmpNo X5.here hx rfl (hb hby own_jdk_42_method_66_33) rfl (teq (show (0 : Int32) = (0 : Int32) from (by decide))).2 k) ?_
  refine own_step (fun t k => XS.aloadN X5.here hx rfl (hb hby own_jdk_42_method_66_36) rfl rfl k) ?_
  show own_Goes _ _ _ _ T5 (mkF m 37 #[.val (.ref a), .val (.ref o), .val (.ref o)] [(.ref a)])
  obtain ⟨T6, X6, e6, st6⟩ := getF X5 hx hZ hown (host := "") (Or.inl (hw _ (List.mem_of_getElem? (i := 34) rfl))) Via.refl e5 F_a_value (g := (mkF m 37 #[.val (.ref a), .val (.ref o), .val (.ref o)] [(.ref a)])) rfl rfl (hb hby own_jdk_42_method_66_37)
  refine own_step st6 ?_
  refine own_step (fun t k => XS.aloadN X6.here hx rfl (hb hby own_jdk_42_method_66_40) rfl rfl k) ?_
  show own_Goes _ _ _ _ T6 (mkF m 41 #[.val (.ref a), .val (.ref o), .val (.ref o)] [(.ref o), (.ref va)])
  obtain ⟨T7, X7, e7, st7⟩ := getF X6 hx hZ hown (host := "") (Or.inl (hw _ (List.mem_of_getElem? (i := 34) rfl))) Via.refl e6 F_o_value (g := (mkF m 41 #[.val (.ref a), .val (.ref o), .val (.ref o)] [(.ref o), (.ref va)])) rfl rfl (hb hby own_jdk_42_method_66_41)
  refine own_step st7 ?_
  show own_Goes _ _ _ _ T7 (mkF m 44 #[.val (.ref a), .val (.ref o), .val (.ref o)] [(.ref vb), (.ref va)])
  refine own_callS X7 hx hZ (y := (⟨"java/lang/StringLatin1", "equals", "([B[B)Z"⟩ : MethodName)) hown (hw _ (List.mem_of_getElem? (i := 77) rfl)) (hw _ (List.mem_of_getElem? (i := 78) rfl)) (hw _ (List.mem_of_getElem? (i := 79) rfl)) (hw _ (List.mem_of_getElem? (i := 80) rfl)) (by decide) 0 [(.ref va), (.ref vb)] [] (own_leq_21len l Z a0 hw [] va vb ka kb x0 x1 y0 h0 n0 Z0 V_va V_vb) e7  (by decide) (by decide) (by decide) (by decide) (g := (mkF m 44 #[.val (.ref a), .val (.ref o), .val (.ref o)] [(.ref vb), (.ref va)])) rfl (by rw [hml]; rfl) own_pd6 rfl rfl (by show 2 * 0 + _ ≤ _; exact Nat.le_of_eq rfl) (hb hby own_jdk_42_method_66_44) ?_
  intro T8 v8 L8 X8 hQ8
  obtain ⟨rfl, N8q, e8⟩ := hQ8
  have N8 := Fr.app N0 N8q
  show own_Goes _ _ _ _ T8 (mkF m 47 #[.val (.ref a), .val (.ref o), .val (.ref o)] [(.int (0 : Int32))])
  refine own_step (fun t k => XS.ifYes X8.here hx rfl (pc0 := 47) (pc' := 54) rfl (hb hby own_jdk_42_method_66_47) rfl ((if0 _ _).trans (teq (show (0 : Int32) = (0 : Int32) from (by decide))).1) (by decide) (by decide) k) ?_
  refine own_step (fun t k => XS.iconst X8.here hx rfl (hb hby own_jdk_42_method_66_54) k) ?_
  show own_Goes _ _ _ _ T8 (mkF m 55 #[.val (.ref a), .val (.ref o), .val (.ref o)] [(.int (0 : Int32))])
  exact own_retN X8 hx hlk (t := .boolean) hrt (by simp) (hb hby own_jdk_42_method_66_55) ⟨rfl, N8, e8⟩ (by decide) (by decide)
set_option maxRecDepth 65536 in
set_option maxHeartbeats 40000000 in
theorem own_is_21len (l : Launch) (Z : State) (a0 : Array Value) (hw : ∀ d ∈ tables_1, d.before a0 Z = true) (ws : List Jvm.Cond) (a : Addr) (tz : Addr) (o : Addr) (ty : Addr) (tx : Addr) (va : Addr) (vb : Addr) (ka : ClassId) (kb : ClassId) (x0 : Int32) (x1 : Int32) (y0 : Int32) (zc : Int32) (h0 : Heap) (n0 : Nat) (Z0 : n0 ≤ h0.size) (F_a_type : Fld Z h0 a "com/example/weaverbird/weaverbird/automaton/HoaLexer$Token" "type" "Lcom/example/weaverbird/weaverbird/automaton/HoaLexer$Type;" (.ref ty)) (F_a_text : Fld Z h0 a "com/example/weaverbird/weaverbird/automaton/HoaLexer$Token" "text" "Ljava/lang/String;" (.ref tx)) (E_tx : Exa Z h0 tx "java/lang/String") (E_o : Exa Z h0 o "java/lang/String") (F_tx_coder : Fld Z h0 tx "java/lang/String" "coder" "B" (.int (0 : Int32))) (F_o_coder : Fld Z h0 o "java/lang/String" "coder" "B" (.int (0 : Int32))) (F_tx_value : Fld Z h0 tx "java/lang/String" "value" "[B" (.ref va)) (F_o_value : Fld Z h0 o "java/lang/String" "value" "[B" (.ref vb)) (V_va : Arv Z h0 va ka .byte (2 : Int32) [(.int x0), (.int x1)] (.int (0 : Int32))) (V_vb : Arv Z h0 vb kb .byte (1 : Int32) [(.int y0)] (.int (0 : Int32))) (S_COMPACT_STRINGS : Sta Z h0 "java/lang/String" "COMPACT_STRINGS" "Z" (.int zc)) (hty : ty = tz) (hz : ¬ (zc = (0 : Int32))) (neto : ¬ (tx = o)) :
    own_Met l Z (⟨"com/example/weaverbird/weaverbird/automaton/HoaLexer$Token", "is", "(Lcom/example/weaverbird/weaverbird/automaton/HoaLexer$Type;Ljava/lang/String;)Z"⟩ : MethodName) prog_16_method_2_code 3 (some .boolean) ws ({ frames := 2, cells := 0, slots := 0, locals := 28 } : Room) #[(.ref a), (.ref tz), (.ref o)] h0 (fun v h L => v = some (.int (0 : Int32)) ∧ Fr n0 L ∧ h = h0) := by
  refine own_body (plainFor_of_name own_pn_com_example_weaverbird_weaverbird_automaton_HoaLexer_Token) (fun p e s m below meth c s₁ hx hby hml0 hrt hlk hown0 hnm hZ X0 e0 => ?_)
  have N0 := Fr.nil n0
  have hown : s.vm.findClass "com/example/weaverbird/weaverbird/automaton/HoaLexer$Token" = some m.cls := hown0
  have hml : c.maxLocals = 3 := hml0
  refine own_castG (own_ef9 m a tz o) ?_
  refine own_step (fun t k => XS.aloadN X0.here hx rfl (hb hby own_prog_16_method_2_0) rfl rfl k) ?_
  show own_Goes _ _ _ _ s₁ (mkF m 1 #[.val (.ref a), .val (.ref tz), .val (.ref o)] [(.ref a)])
  obtain ⟨T1, X1, e1, st1⟩ := getF X0 hx hZ hown (host := "") (Or.inl (hw _ (List.mem_of_getElem? (i := 45) rfl))) Via.refl e0 F_a_type (g := (mkF m 1 #[.val (.ref a), .val (.ref tz), .val (.ref o)] [(.ref a)])) rfl rfl (hb hby own_prog_16_method_2_1)
  refine own_step st1 ?_
  refine own_step (fun t k => XS.aloadN X1.here hx rfl (hb hby own_prog_16_method_2_4) rfl rfl k) ?_
  show own_Goes _ _ _ _ T1 (mkF m 5 #[.val (.ref a), .val (.ref tz), .val (.ref o)] [(.ref tz), (.ref ty)])
  refine own_step (fun t k => Jvm.RoadKit.acmp (g := (mkF m 5 #[.val (.ref a), .val (.ref tz), .val (.ref o)] [(.ref tz), (.ref ty)])) X1 hx rfl rfl rfl (pc0 := 5) (pc' := 8) (same := true) rfl (hb hby own_prog_16_method_2_5) rfl (decide_eq_true (congrArg Value.ref hty)) (by decide) (by decide) k) ?_
  refine own_step (fun t k => XS.aloadN X1.here hx rfl (hb hby own_prog_16_method_2_8) rfl rfl k) ?_
  show own_Goes _ _ _ _ T1 (mkF m 9 #[.val (.ref a), .val (.ref tz), .val (.ref o)] [(.ref a)])
  obtain ⟨T2, X2, e2, st2⟩ := getF X1 hx hZ hown (host := "") (Or.inl (hw _ (List.mem_of_getElem? (i := 47) rfl))) Via.refl e1 F_a_text (g := (mkF m 9 #[.val (.ref a), .val (.ref tz), .val (.ref o)] [(.ref a)])) rfl rfl (hb hby own_prog_16_method_2_9)
  refine own_step st2 ?_
  refine own_step (fun t k => XS.aloadN X2.here hx rfl (hb hby own_prog_16_method_2_12) rfl rfl k) ?_
  show own_Goes _ _ _ _ T2 (mkF m 13 #[.val (.ref a), .val (.ref tz), .val (.ref o)] [(.ref o), (.ref tx)])
  refine own_callV X2 hx hZ (y := (⟨"java/lang/String", "equals", "(Ljava/lang/Object;)Z"⟩ : MethodName)) (z := (⟨"java/lang/String", "equals", "(Ljava/lang/Object;)Z"⟩ : MethodName)) hown (hw _ (List.mem_of_getElem? (i := 71) rfl)) (hw _ (List.mem_of_getElem? (i := 72) rfl)) (notFace_of_selects (args := #[]) (mvT hZ (hw _ (List.mem_of_getElem? (i := 74) rfl)))) (hw _ (List.mem_of_getElem? (i := 74) rfl)) (hw _ (List.mem_of_getElem? (i := 73) rfl)) (hw _ (List.mem_of_getElem? (i := 75) rfl)) (hw _ (List.mem_of_getElem? (i := 16) rfl)) (by decide) 0 E_tx [(.ref o)] [] (own_seq_21len l Z a0 hw [] tx o va vb ka kb x0 x1 y0 zc h0 n0 Z0 E_o F_tx_coder F_o_coder F_tx_value F_o_value V_va V_vb S_COMPACT_STRINGS hz neto) e2  (by decide) (by decide) (by decide) (by decide) (g := (mkF m 13 #[.val (.ref a), .val (.ref tz), .val (.ref o)] [(.ref o), (.ref tx)])) rfl (by rw [hml]; rfl) own_pd7 rfl rfl (by show 2 * 0 + _ ≤ _; exact Nat.le_of_eq rfl) (hb hby own_prog_16_method_2_13) ?_
  intro T3 v3 L3 X3 hQ3
  obtain ⟨rfl, N3q, e3⟩ := hQ3
  have N3 := Fr.app N0 N3q
  show own_Goes _ _ _ _ T3 (mkF m 16 #[.val (.ref a), .val (.ref tz), .val (.ref o)] [(.int (0 : Int32))])
  refine own_step (fun t k => XS.ifYes X3.here hx rfl (pc0 := 16) (pc' := 23) rfl (hb hby own_prog_16_method_2_16) rfl ((if0 _ _).trans (teq (show (0 : Int32) = (0 : Int32) from (by decide))).1) (by decide) (by decide) k) ?_
  refine own_step (fun t k => XS.iconst X3.here hx rfl (hb hby own_prog_16_method_2_23) k) ?_
  show own_Goes _ _ _ _ T3 (mkF m 24 #[.val (.ref a), .val (.ref tz), .val (.ref o)] [(.int (0 : Int32))])
  exact own_retN X3 hx hlk (t := .boolean) hrt (by simp) (hb hby own_prog_16_method_2_24) ⟨rfl, N3, e3⟩ (by decide) (by decide)
set_option maxRecDepth 65536 in
set_option maxHeartbeats 40000000 in
theorem own_leq_22eq (l : Launch) (Z : State) (a0 : Array Value) (hw : ∀ d ∈ tables_1, d.before a0 Z = true) (ws : List Jvm.Cond) (va : Addr) (vb : Addr) (ka : ClassId) (kb : ClassId) (x0 : Int32) (x1 : Int32) (y0 : Int32) (y1 : Int32) (h0 : Heap) (n0 : Nat) (Z0 : n0 ≤ h0.size) (V_va : Arv Z h0 va ka .byte (2 : Int32) [(.int x0), (.int x1)] (.int (0 : Int32))) (V_vb : Arv Z h0 vb kb .byte (2 : Int32) [(.int y0), (.int y1)] (.int (0 : Int32))) (hq0 : x0 = y0) (hq1 : x1 = y1) :
    own_Met l Z (⟨"java/lang/StringLatin1", "equals", "([B[B)Z"⟩ : MethodName) jdk_43_method_13_code 3 (some .boolean) ws ({ frames := 0, cells := 0, slots := 0, locals := 0 } : Room) #[(.ref va), (.ref vb)] h0 (fun v h L => v = some (.int (1 : Int32)) ∧ Fr n0 L ∧ h = h0) := by
  refine own_body (plainFor_of_name own_pn_java_lang_StringLatin1) (fun p e s m below meth c s₁ hx hby hml0 hrt hlk hown0 hnm hZ X0 e0 => ?_)
  have N0 := Fr.nil n0
  have hown : s.vm.findClass "java/lang/StringLatin1" = some m.cls := hown0
  have hml : c.maxLocals = 3 := hml0
  refine own_castG (own_ef10 m va vb) ?_
  refine own_step (fun t k => XS.aloadN X0.here hx rfl (hb hby own_jdk_43_method_13_0) rfl rfl k) ?_
  show own_Goes _ _ _ _ s₁ (mkF m 1 #[.val (.ref va), .val (.ref vb), .unset] [(.ref va)])
  refine own_step (own_alen X0 hx hZ e0 V_va (g := (mkF m 1 #[.val (.ref va), .val (.ref vb), .unset] [(.ref va)])) rfl rfl (hb hby own_jdk_43_method_13_1)) ?_
  refine own_step (fun t k => XS.aloadN X0.here hx rfl (hb hby own_jdk_43_method_13_2) rfl rfl k) ?_
  show own_Goes _ _ _ _ s₁ (mkF m 3 #[.val (.ref va), .val (.ref vb), .unset] [(.ref vb), (.int (2 : Int32))])
  refine own_step (own_alen X0 hx hZ e0 V_vb (g := (mkF m 3 #[.val (.ref va), .val (.ref vb), .unset] [(.ref vb), (.int (2 : Int32))])) rfl rfl (hb hby own_jdk_43_method_13_3)) ?_
  show own_Goes _ _ _ _ s₁ (mkF m 4 #[.val (.ref va), .val (.ref vb), .unset] [(.int (2 : Int32)), (.int (2 : Int32))])
  refine own_step (fun t k => XS.icmpNo X0.here hx rfl (hb hby own_jdk_43_method_13_4) rfl (teq (show (2 : Int32) = (2 : Int32) from (by decide))).2 k) ?_
  refine own_step (fun t k => XS.iconst X0.here hx rfl (hb hby own_jdk_43_method_13_7) k) ?_
  refine own_step (fun t k => XS.istoreN X0.here hx rfl (hb hby own_jdk_43_method_13_8) rfl (l' := #[.val (.ref va), .val (.ref vb), .val (.int (0 : Int32))]) rfl k) ?_
  refine own_step (fun t k => XS.iloadN X0.here hx rfl (hb hby own_jdk_43_method_13_9) rfl k) ?_
  refine own_step (fun t k => XS.aloadN X0.here hx rfl (hb hby own_jdk_43_method_13_10) rfl rfl k) ?_
  show own_Goes _ _ _ _ s₁ (mkF m 11 #[.val (.ref va), .val (.ref vb), .val (.int (0 : Int32))] [(.ref va), (.int (0 : Int32))])
  refine own_step (own_alen X0 hx hZ e0 V_va (g := (mkF m 11 #[.val (.ref va), .val (.ref vb), .val (.int (0 : Int32))] [(.ref va), (.int (0 : Int32))])) rfl rfl (hb hby own_jdk_43_method_13_11)) ?_
  show own_Goes _ _ _ _ s₁ (mkF m 12 #[.val (.ref va), .val (.ref vb), .val (.int (0 : Int32))] [(.int (2 : Int32)), (.int (0 : Int32))])
  refine own_step (fun t k => XS.icmpNo X0.here hx rfl (hb hby own_jdk_43_method_13_12) rfl (tlt (show (0 : Int32) < (2 : Int32) from (by decide))).2.1 k) ?_
  refine own_step (fun t k => XS.aloadN X0.here hx rfl (hb hby own_jdk_43_method_13_15) rfl rfl k) ?_
  refine own_step (fun t k => XS.iloadN X0.here hx rfl (hb hby own_jdk_43_method_13_16) rfl k) ?_
  show own_Goes _ _ _ _ s₁ (mkF m 17 #[.val (.ref va), .val (.ref vb), .val (.int (0 : Int32))] [(.int (0 : Int32)), (.ref va)])
  refine own_step (own_baload X0 hx hZ e0 V_va (.int x0) ⟨by decide, by decide⟩ rfl (g := (mkF m 17 #[.val (.ref va), .val (.ref vb), .val (.int (0 : Int32))] [(.int (0 : Int32)), (.ref va)])) rfl rfl (hb hby own_jdk_43_method_13_17)) ?_
  refine own_step (fun t k => XS.aloadN X0.here hx rfl (hb hby own_jdk_43_method_13_18) rfl rfl k) ?_
  refine own_step (fun t k => XS.iloadN X0.here hx rfl (hb hby own_jdk_43_method_13_19) rfl k) ?_
  show own_Goes _ _ _ _ s₁ (mkF m 20 #[.val (.ref va), .val (.ref vb), .val (.int (0 : Int32))] [(.int (0 : Int32)), (.ref vb), (.int x0)])
  refine own_step (own_baload X0 hx hZ e0 V_vb (.int y0) ⟨by decide, by decide⟩ rfl (g := (mkF m 20 #[.val (.ref va), .val (.ref vb), .val (.int (0 : Int32))] [(.int (0 : Int32)), (.ref vb), (.int x0)])) rfl rfl (hb hby own_jdk_43_method_13_20)) ?_
  show own_Goes _ _ _ _ s₁ (mkF m 21 #[.val (.ref va), .val (.ref vb), .val (.int (0 : Int32))] [(.int y0), (.int x0)])
  refine own_step (fun t k => XS.icmpYes X0.here hx rfl (pc0 := 21) (pc' := 26) rfl (hb hby own_jdk_43_method_13_21) rfl (teq (show x0 = y0 from hq0)).1 (by decide) (by decide) k) ?_
  show own_Goes _ _ _ _ s₁ (mkF m 26 #[.val (.ref va), .val (.ref vb), .val (.int (0 : Int32))] [])
  refine own_step (fun t k => XS.iinc X0.here hx rfl (hb hby own_jdk_43_method_13_26) rfl (l' := #[.val (.ref va), .val (.ref vb), .val (.int (1 : Int32))]) rfl k) ?_
  refine own_step (fun t k => XS.goto X0.here hx rfl (pc0 := 29) (pc' := 9) rfl (hb hby own_jdk_43_method_13_29) (by decide) (by decide) k) ?_
  refine own_step (fun t k => XS.iloadN X0.here hx rfl (hb hby own_jdk_43_method_13_9) rfl k) ?_
  refine own_step (fun t k => XS.aloadN X0.here hx rfl (hb hby own_jdk_43_method_13_10) rfl rfl k) ?_
  show own_Goes _ _ _ _ s₁ (mkF m 11 #[.val (.ref va), .val (.ref vb), .val (.int (1 : Int32))] [(.ref va), (.int (1 : Int32))])
  refine own_step (own_alen X0 hx hZ e0 V_va (g := (mkF m 11 #[.val (.ref va), .val (.ref vb), .val (.int (1 : Int32))] [(.ref va), (.int (1 : Int32))])) rfl rfl (hb hby own_jdk_43_method_13_11)) ?_
  show own_Goes _ _ _ _ s₁ (mkF m 12 #[.val (.ref va), .val (.ref vb), .val (.int (1 : Int32))] [(.int (2 : Int32)), (.int (1 : Int32))])
  refine own_step (fun t k => XS.icmpNo X0.here hx rfl (hb hby own_jdk_43_method_13_12) rfl (tlt (show (1 : Int32) < (2 : Int32) from (by decide))).2.1 k) ?_
  refine own_step (fun t k => XS.aloadN X0.here hx rfl (hb hby own_jdk_43_method_13_15) rfl rfl k) ?_
  refine own_step (fun t k => XS.iloadN X0.here hx rfl (hb hby own_jdk_43_method_13_16) rfl k) ?_
  show own_Goes _ _ _ _ s₁ (mkF m 17 #[.val (.ref va), .val (.ref vb), .val (.int (1 : Int32))] [(.int (1 : Int32)), (.ref va)])
  refine own_step (own_baload X0 hx hZ e0 V_va (.int x1) ⟨by decide, by decide⟩ rfl (g := (mkF m 17 #[.val (.ref va), .val (.ref vb), .val (.int (1 : Int32))] [(.int (1 : Int32)), (.ref va)])) rfl rfl (hb hby own_jdk_43_method_13_17)) ?_
  refine own_step (fun t k => XS.aloadN X0.here hx rfl (hb hby own_jdk_43_method_13_18) rfl rfl k) ?_
  refine own_step (fun t k => XS.iloadN X0.here hx rfl (hb hby own_jdk_43_method_13_19) rfl k) ?_
  show own_Goes _ _ _ _ s₁ (mkF m 20 #[.val (.ref va), .val (.ref vb), .val (.int (1 : Int32))] [(.int (1 : Int32)), (.ref vb), (.int x1)])
  refine own_step (own_baload X0 hx hZ e0 V_vb (.int y1) ⟨by decide, by decide⟩ rfl (g := (mkF m 20 #[.val (.ref va), .val (.ref vb), .val (.int (1 : Int32))] [(.int (1 : Int32)), (.ref vb), (.int x1)])) rfl rfl (hb hby own_jdk_43_method_13_20)) ?_
  show own_Goes _ _ _ _ s₁ (mkF m 21 #[.val (.ref va), .val (.ref vb), .val (.int (1 : Int32))] [(.int y1), (.int x1)])
  refine own_step (fun t k => XS.icmpYes X0.here hx rfl (pc0 := 21) (pc' := 26) rfl (hb hby own_jdk_43_method_13_21) rfl (teq (show x1 = y1 from hq1)).1 (by decide) (by decide) k) ?_
  show own_Goes _ _ _ _ s₁ (mkF m 26 #[.val (.ref va), .val (.ref vb), .val (.int (1 : Int32))] [])
  refine own_step (fun t k => XS.iinc X0.here hx rfl (hb hby own_jdk_43_method_13_26) rfl (l' := #[.val (.ref va), .val (.ref vb), .val (.int (2 : Int32))]) rfl k) ?_
  refine own_step (fun t k => XS.goto X0.here hx rfl (pc0 := 29) (pc' := 9) rfl (hb hby own_jdk_43_method_13_29) (by decide) (by decide) k) ?_
  refine own_step (fun t k => XS.iloadN X0.here hx rfl (hb hby own_jdk_43_method_13_9) rfl k) ?_
  refine own_step (fun t k => XS.aloadN X0.here hx rfl (hb hby own_jdk_43_method_13_10) rfl rfl k) ?_
  show own_Goes _ _ _ _ s₁ (mkF m 11 #[.val (.ref va), .val (.ref vb), .val (.int (2 : Int32))] [(.ref va), (.int (2 : Int32))])
  refine own_step (own_alen X0 hx hZ e0 V_va (g := (mkF m 11 #[.val (.ref va), .val (.ref vb), .val (.int (2 : Int32))] [(.ref va), (.int (2 : Int32))])) rfl rfl (hb hby own_jdk_43_method_13_11)) ?_
  show own_Goes _ _ _ _ s₁ (mkF m 12 #[.val (.ref va), .val (.ref vb), .val (.int (2 : Int32))] [(.int (2 : Int32)), (.int (2 : Int32))])
  refine own_step (fun t k => XS.icmpYes X0.here hx rfl (pc0 := 12) (pc' := 32) rfl (hb hby own_jdk_43_method_13_12) rfl (flt (show ¬ ((2 : Int32) < (2 : Int32)) from (by decide))).2.1 (by decide) (by decide) k) ?_
  refine own_step (fun t k => XS.iconst X0.here hx rfl (hb hby own_jdk_43_method_13_32) k) ?_
  show own_Goes _ _ _ _ s₁ (mkF m 33 #[.val (.ref va), .val (.ref vb), .val (.int (2 : Int32))] [(.int (1 : Int32))])
  exact own_retN X0 hx hlk (t := .boolean) hrt (by simp) (hb hby own_jdk_43_method_13_33) ⟨rfl, N0, e0⟩ (by decide) (by decide)
set_option maxRecDepth 65536 in
set_option maxHeartbeats 40000000 in
theorem own_seq_22eq (l : Launch) (Z : State) (a0 : Array Value) (hw : ∀ d ∈ tables_1, d.before a0 Z = true) (ws : List Jvm.Cond) (a : Addr) (o : Addr) (va : Addr) (vb : Addr) (ka : ClassId) (kb : ClassId) (x0 : Int32) (x1 : Int32) (y0 : Int32) (y1 : Int32) (zc : Int32) (h0 : Heap) (n0 : Nat) (Z0 : n0 ≤ h0.size) (E_o : Exa Z h0 o "java/lang/String") (F_a_coder : Fld Z h0 a "java/lang/String" "coder" "B" (.int (0 : Int32))) (F_o_coder : Fld Z h0 o "java/lang/String" "coder" "B" (.int (0 : Int32))) (F_a_value : Fld Z h0 a "java/lang/String" "value" "[B" (.ref va)) (F_o_value : Fld Z h0 o "java/lang/String" "value" "[B" (.ref vb)) (V_va : Arv Z h0 va ka .byte (2 : Int32) [(.int x0), (.int x1)] (.int (0 : Int32))) (V_vb : Arv Z h0 vb kb .byte (2 : Int32) [(.int y0), (.int y1)] (.int (0 : Int32))) (S_COMPACT_STRINGS : Sta Z h0 "java/lang/String" "COMPACT_STRINGS" "Z" (.int zc)) (hq0 : x0 = y0) (hq1 : x1 = y1) (hz : ¬ (zc = (0 : Int32))) (neao : ¬ (a = o)) :
    own_Met l Z (⟨"java/lang/String", "equals", "(Ljava/lang/Object;)Z"⟩ : MethodName) jdk_42_method_66_code 3 (some .boolean) ws ({ frames := 1, cells := 0, slots := 0, locals := 14 } : Room) #[(.ref a), (.ref o)] h0 (fun v h L => v = some (.int (1 : Int32)) ∧ Fr n0 L ∧ h = h0) := by
  refine own_body (plainFor_of_name own_pn_java_lang_String) (fun p e s m below meth c s₁ hx hby hml0 hrt hlk hown0 hnm hZ X0 e0 => ?_)
  have N0 := Fr.nil n0
  have hown : s.vm.findClass "java/lang/String" = some m.cls := hown0
  have hml : c.maxLocals = 3 := hml0
  refine own_castG (own_ef11 m a o) ?_
  refine own_step (fun t k => XS.aloadN X0.here hx rfl (hb hby own_jdk_42_method_66_0) rfl rfl k) ?_
  refine own_step (fun t k => XS.aloadN X0.here hx rfl (hb hby own_jdk_42_method_66_1) rfl rfl k) ?_
  show own_Goes _ _ _ _ s₁ (mkF m 2 #[.val (.ref a), .val (.ref o), .unset] [(.ref o), (.ref a)])
  refine own_step (fun t k => Jvm.RoadKit.acmp (g := (mkF m 2 #[.val (.ref a), .val (.ref o), .unset] [(.ref o), (.ref a)])) X0 hx rfl rfl rfl (pc0 := 2) (pc' := 7) (same := false) rfl (hb hby own_jdk_42_method_66_2) rfl (decide_eq_false fun q => neao (Value.ref.inj q)) (by decide) (by decide) k) ?_
  refine own_step (fun t k => XS.aloadN X0.here hx rfl (hb hby own_jdk_42_method_66_7) rfl rfl k) ?_
  show own_Goes _ _ _ _ s₁ (mkF m 8 #[.val (.ref a), .val (.ref o), .unset] [(.ref o)])
  obtain ⟨T1, X1, e1, st1⟩ := instY X0 hx hZ hown (hw _ (List.mem_of_getElem? (i := 76) rfl)) e0 (Ins.self E_o) (g := (mkF m 8 #[.val (.ref a), .val (.ref o), .unset] [(.ref o)])) rfl rfl (hb hby own_jdk_42_method_66_8)
  refine own_step st1 ?_
  show own_Goes _ _ _ _ T1 (mkF m 11 #[.val (.ref a), .val (.ref o), .unset] [(.int (1 : Int32))])
  refine own_step (fun t k => XS.ifNo X1.here hx rfl (hb hby own_jdk_42_method_66_11) rfl ((if0 _ _).trans (feq (show ¬ ((1 : Int32) = (0 : Int32)) from (by decide))).1) k) ?_
  refine own_step (fun t k => XS.aloadN X1.here hx rfl (hb hby own_jdk_42_method_66_14) rfl rfl k) ?_
  show own_Goes _ _ _ _ T1 (mkF m 15 #[.val (.ref a), .val (.ref o), .unset] [(.ref o)])
  obtain ⟨T2, X2, e2, st2⟩ := castY X1 hx hZ hown (hw _ (List.mem_of_getElem? (i := 76) rfl)) e1 (Ins.self E_o) (g := (mkF m 15 #[.val (.ref a), .val (.ref o), .unset] [(.ref o)])) rfl rfl (hb hby own_jdk_42_method_66_15)
  refine own_step st2 ?_
  refine own_step (fun t k => XS.astoreN X2.here hx rfl (hb hby own_jdk_42_method_66_18) rfl rfl (l' := #[.val (.ref a), .val (.ref o), .val (.ref o)]) rfl k) ?_
  show own_Goes _ _ _ _ T2 (mkF m 19 #[.val (.ref a), .val (.ref o), .val (.ref o)] [])
  obtain ⟨T3, X3, e3, st3⟩ := getS2 X2 hx hZ hown (host := "") (Or.inl (hw _ (List.mem_of_getElem? (i := 60) rfl))) Via.refl e2 S_COMPACT_STRINGS (g := (mkF m 19 #[.val (.ref a), .val (.ref o), .val (.ref o)] [])) rfl (hb hby own_jdk_42_method_66_19)
  refine own_step st3 ?_
  show own_Goes _ _ _ _ T3 (mkF m 22 #[.val (.ref a), .val (.ref o), .val (.ref o)] [(.int zc)])
  refine own_step (fun t k => XS.ifNo X3.here hx rfl (hb hby own_jdk_42_method_66_22) rfl ((if0 _ _).trans (feq (show ¬ (zc = (0 : Int32)) from hz)).1) k) ?_
  refine own_step (fun t k => XS.aloadN X3.here hx rfl (hb hby own_jdk_42_method_66_25) rfl rfl k) ?_
  show own_Goes _ _ _ _ T3 (mkF m 26 #[.val (.ref a), .val (.ref o), .val (.ref o)] [(.ref a)])
  obtain ⟨T4, X4, e4, st4⟩ := getF X3 hx hZ hown (host := "") (Or.inl (hw _ (List.mem_of_getElem? (i := 35) rfl))) Via.refl e3 F_a_coder (g := (mkF m 26 #[.val (.ref a), .val (.ref o), .val (.ref o)] [(.ref a)])) rfl rfl (hb hby own_jdk_42_method_66_26)
  refine own_step st4 ?_
  refine own_step (fun t k => XS.aloadN X4.here hx rfl (hb hby own_jdk_42_method_66_29) rfl rfl k) ?_
  show own_Goes _ _ _ _ T4 (mkF m 30 #[.val (.ref a), .val (.ref o), .val (.ref o)] [(.ref o), (.int (0 : Int32))])
  obtain ⟨T5, X5, e5, st5⟩ := getF X4 hx hZ hown (host := "") (Or.inl (hw _ (List.mem_of_getElem? (i := 35) rfl))) Via.refl e4 F_o_coder (g := (mkF m 30 #[.val (.ref a), .val (.ref o), .val (.ref o)] [(.ref o), (.int (0 : Int32))])) rfl rfl (hb hby own_jdk_42_method_66_30)
  refine own_step st5 ?_
  show own_Goes _ _ _ _ T5 (mkF m 33 #[.val (.ref a), .val (.ref o), .val (.ref o)] [(.int (0 : Int32)), (.int (0 : Int32))])
  refine own_step (fun t k => XS.icmpNo X5.here hx rfl (hb hby own_jdk_42_method_66_33) rfl (teq (show (0 : Int32) = (0 : Int32) from (by decide))).2 k) ?_
  refine own_step (fun t k => XS.aloadN X5.here hx rfl (hb hby own_jdk_42_method_66_36) rfl rfl k) ?_
  show own_Goes _ _ _ _ T5 (mkF m 37 #[.val (.ref a), .val (.ref o), .val (.ref o)] [(.ref a)])
  obtain ⟨T6, X6, e6, st6⟩ := getF X5 hx hZ hown (host := "") (Or.inl (hw _ (List.mem_of_getElem? (i := 34) rfl))) Via.refl e5 F_a_value (g := (mkF m 37 #[.val (.ref a), .val (.ref o), .val (.ref o)] [(.ref a)])) rfl rfl (hb hby own_jdk_42_method_66_37)
  refine own_step st6 ?_
  refine own_step (fun t k => XS.aloadN X6.here hx rfl (hb hby own_jdk_42_method_66_40) rfl rfl k) ?_
  show own_Goes _ _ _ _ T6 (mkF m 41 #[.val (.ref a), .val (.ref o), .val (.ref o)] [(.ref o), (.ref va)])
  obtain ⟨T7, X7, e7, st7⟩ := getF X6 hx hZ hown (host := "") (Or.inl (hw _ (List.mem_of_getElem? (i := 34) rfl))) Via.refl e6 F_o_value (g := (mkF m 41 #[.val (.ref a), .val (.ref o), .val (.ref o)] [(.ref o), (.ref va)])) rfl rfl (hb hby own_jdk_42_method_66_41)
  refine own_step st7 ?_
  show own_Goes _ _ _ _ T7 (mkF m 44 #[.val (.ref a), .val (.ref o), .val (.ref o)] [(.ref vb), (.ref va)])
  refine own_callS X7 hx hZ (y := (⟨"java/lang/StringLatin1", "equals", "([B[B)Z"⟩ : MethodName)) hown (hw _ (List.mem_of_getElem? (i := 77) rfl)) (hw _ (List.mem_of_getElem? (i := 78) rfl)) (hw _ (List.mem_of_getElem? (i := 79) rfl)) (hw _ (List.mem_of_getElem? (i := 80) rfl)) (by decide) 0 [(.ref va), (.ref vb)] [] (own_leq_22eq l Z a0 hw [] va vb ka kb x0 x1 y0 y1 h0 n0 Z0 V_va V_vb hq0 hq1) e7  (by decide) (by decide) (by decide) (by decide) (g := (mkF m 44 #[.val (.ref a), .val (.ref o), .val (.ref o)] [(.ref vb), (.ref va)])) rfl (by rw [hml]; rfl) own_pd6 rfl rfl (by show 2 * 0 + _ ≤ _; exact Nat.le_of_eq rfl) (hb hby own_jdk_42_method_66_44) ?_
  intro T8 v8 L8 X8 hQ8
  obtain ⟨rfl, N8q, e8⟩ := hQ8
  have N8 := Fr.app N0 N8q
  show own_Goes _ _ _ _ T8 (mkF m 47 #[.val (.ref a), .val (.ref o), .val (.ref o)] [(.int (1 : Int32))])
  refine own_step (fun t k => XS.ifNo X8.here hx rfl (hb hby own_jdk_42_method_66_47) rfl ((if0 _ _).trans (feq (show ¬ ((1 : Int32) = (0 : Int32)) from (by decide))).1) k) ?_
  refine own_step (fun t k => XS.iconst X8.here hx rfl (hb hby own_jdk_42_method_66_50) k) ?_
  refine own_step (fun t k => XS.goto X8.here hx rfl (pc0 := 51) (pc' := 55) rfl (hb hby own_jdk_42_method_66_51) (by decide) (by decide) k) ?_
  show own_Goes _ _ _ _ T8 (mkF m 55 #[.val (.ref a), .val (.ref o), .val (.ref o)] [(.int (1 : Int32))])
  exact own_retN X8 hx hlk (t := .boolean) hrt (by simp) (hb hby own_jdk_42_method_66_55) ⟨rfl, N8, e8⟩ (by decide) (by decide)
set_option maxRecDepth 65536 in
set_option maxHeartbeats 40000000 in
theorem own_is_22eq (l : Launch) (Z : State) (a0 : Array Value) (hw : ∀ d ∈ tables_1, d.before a0 Z = true) (ws : List Jvm.Cond) (a : Addr) (tz : Addr) (o : Addr) (ty : Addr) (tx : Addr) (va : Addr) (vb : Addr) (ka : ClassId) (kb : ClassId) (x0 : Int32) (x1 : Int32) (y0 : Int32) (y1 : Int32) (zc : Int32) (h0 : Heap) (n0 : Nat) (Z0 : n0 ≤ h0.size) (F_a_type : Fld Z h0 a "com/example/weaverbird/weaverbird/automaton/HoaLexer$Token" "type" "Lcom/example/weaverbird/weaverbird/automaton/HoaLexer$Type;" (.ref ty)) (F_a_text : Fld Z h0 a "com/example/weaverbird/weaverbird/automaton/HoaLexer$Token" "text" "Ljava/lang/String;" (.ref tx)) (E_tx : Exa Z h0 tx "java/lang/String") (E_o : Exa Z h0 o "java/lang/String") (F_tx_coder : Fld Z h0 tx "java/lang/String" "coder" "B" (.int (0 : Int32))) (F_o_coder : Fld Z h0 o "java/lang/String" "coder" "B" (.int (0 : Int32))) (F_tx_value : Fld Z h0 tx "java/lang/String" "value" "[B" (.ref va)) (F_o_value : Fld Z h0 o "java/lang/String" "value" "[B" (.ref vb)) (V_va : Arv Z h0 va ka .byte (2 : Int32) [(.int x0), (.int x1)] (.int (0 : Int32))) (V_vb : Arv Z h0 vb kb .byte (2 : Int32) [(.int y0), (.int y1)] (.int (0 : Int32))) (S_COMPACT_STRINGS : Sta Z h0 "java/lang/String" "COMPACT_STRINGS" "Z" (.int zc)) (hty : ty = tz) (hq0 : x0 = y0) (hq1 : x1 = y1) (hz : ¬ (zc = (0 : Int32))) (neto : ¬ (tx = o)) :
    own_Met l Z (⟨"com/example/weaverbird/weaverbird/automaton/HoaLexer$Token", "is", "(Lcom/example/weaverbird/weaverbird/automaton/HoaLexer$Type;Ljava/lang/String;)Z"⟩ : MethodName) prog_16_method_2_code 3 (some .boolean) ws ({ frames := 2, cells := 0, slots := 0, locals := 28 } : Room) #[(.ref a), (.ref tz), (.ref o)] h0 (fun v h L => v = some (.int (1 : Int32)) ∧ Fr n0 L ∧ h = h0) := by
  refine own_body (plainFor_of_name own_pn_com_example_weaverbird_weaverbird_automaton_HoaLexer_Token) (fun p e s m below meth c s₁ hx hby hml0 hrt hlk hown0 hnm hZ X0 e0 => ?_)
  have N0 := Fr.nil n0
  have hown : s.vm.findClass "com/example/weaverbird/weaverbird/automaton/HoaLexer$Token" = some m.cls := hown0
  have hml : c.maxLocals = 3 := hml0
  refine own_castG (own_ef9 m a tz o) ?_
  refine own_step (fun t k => XS.aloadN X0.here hx rfl (hb hby own_prog_16_method_2_0) rfl rfl k) ?_
  show own_Goes _ _ _ _ s₁ (mkF m 1 #[.val (.ref a), .val (.ref tz), .val (.ref o)] [(.ref a)])
  obtain ⟨T1, X1, e1, st1⟩ := getF X0 hx hZ hown (host := "") (Or.inl (hw _ (List.mem_of_getElem? (i := 45) rfl))) Via.refl e0 F_a_type (g := (mkF m 1 #[.val (.ref a), .val (.ref tz), .val (.ref o)] [(.ref a)])) rfl rfl (hb hby own_prog_16_method_2_1)
  refine own_step st1 ?_
  refine own_step (fun t k => XS.aloadN X1.here hx rfl (hb hby own_prog_16_method_2_4) rfl rfl k) ?_
  show own_Goes _ _ _ _ T1 (mkF m 5 #[.val (.ref a), .val (.ref tz), .val (.ref o)] [(.ref tz), (.ref ty)])
  refine own_step (fun t k => Jvm.RoadKit.acmp (g := (mkF m 5 #[.val (.ref a), .val (.ref tz), .val (.ref o)] [(.ref tz), (.ref ty)])) X1 hx rfl rfl rfl (pc0 := 5) (pc' := 8) (same := true) rfl (hb hby own_prog_16_method_2_5) rfl (decide_eq_true (congrArg Value.ref hty)) (by decide) (by decide) k) ?_
  refine own_step (fun t k => XS.aloadN X1.here hx rfl (hb hby own_prog_16_method_2_8) rfl rfl k) ?_
  show own_Goes _ _ _ _ T1 (mkF m 9 #[.val (.ref a), .val (.ref tz), .val (.ref o)] [(.ref a)])
  obtain ⟨T2, X2, e2, st2⟩ := getF X1 hx hZ hown (host := "") (Or.inl (hw _ (List.mem_of_getElem? (i := 47) rfl))) Via.refl e1 F_a_text (g := (mkF m 9 #[.val (.ref a), .val (.ref tz), .val (.ref o)] [(.ref a)])) rfl rfl (hb hby own_prog_16_method_2_9)
  refine own_step st2 ?_
  refine own_step (fun t k => XS.aloadN X2.here hx rfl (hb hby own_prog_16_method_2_12) rfl rfl k) ?_
  show own_Goes _ _ _ _ T2 (mkF m 13 #[.val (.ref a), .val (.ref tz), .val (.ref o)] [(.ref o), (.ref tx)])
  refine own_callV X2 hx hZ (y := (⟨"java/lang/String", "equals", "(Ljava/lang/Object;)Z"⟩ : MethodName)) (z := (⟨"java/lang/String", "equals", "(Ljava/lang/Object;)Z"⟩ : MethodName)) hown (hw _ (List.mem_of_getElem? (i := 71) rfl)) (hw _ (List.mem_of_getElem? (i := 72) rfl)) (notFace_of_selects (args := #[]) (mvT hZ (hw _ (List.mem_of_getElem? (i := 74) rfl)))) (hw _ (List.mem_of_getElem? (i := 74) rfl)) (hw _ (List.mem_of_getElem? (i := 73) rfl)) (hw _ (List.mem_of_getElem? (i := 75) rfl)) (hw _ (List.mem_of_getElem? (i := 16) rfl)) (by decide) 0 E_tx [(.ref o)] [] (own_seq_22eq l Z a0 hw [] tx o va vb ka kb x0 x1 y0 y1 zc h0 n0 Z0 E_o F_tx_coder F_o_coder F_tx_value F_o_value V_va V_vb S_COMPACT_STRINGS hq0 hq1 hz neto) e2  (by decide) (by decide) (by decide) (by decide) (g := (mkF m 13 #[.val (.ref a), .val (.ref tz), .val (.ref o)] [(.ref o), (.ref tx)])) rfl (by rw [hml]; rfl) own_pd7 rfl rfl (by show 2 * 0 + _ ≤ _; exact Nat.le_of_eq rfl) (hb hby own_prog_16_method_2_13) ?_
  intro T3 v3 L3 X3 hQ3
  obtain ⟨rfl, N3q, e3⟩ := hQ3
  have N3 := Fr.app N0 N3q
  show own_Goes _ _ _ _ T3 (mkF m 16 #[.val (.ref a), .val (.ref tz), .val (.ref o)] [(.int (1 : Int32))])
  refine own_step (fun t k => XS.ifNo X3.here hx rfl (hb hby own_prog_16_method_2_16) rfl ((if0 _ _).trans (feq (show ¬ ((1 : Int32) = (0 : Int32)) from (by decide))).1) k) ?_
  refine own_step (fun t k => XS.iconst X3.here hx rfl (hb hby own_prog_16_method_2_19) k) ?_
  refine own_step (fun t k => XS.goto X3.here hx rfl (pc0 := 20) (pc' := 24) rfl (hb hby own_prog_16_method_2_20) (by decide) (by decide) k) ?_
  show own_Goes _ _ _ _ T3 (mkF m 24 #[.val (.ref a), .val (.ref tz), .val (.ref o)] [(.int (1 : Int32))])
  exact own_retN X3 hx hlk (t := .boolean) hrt (by simp) (hb hby own_prog_16_method_2_24) ⟨rfl, N3, e3⟩ (by decide) (by decide)
set_option maxRecDepth 65536 in
set_option maxHeartbeats 40000000 in
theorem own_leq_220 (l : Launch) (Z : State) (a0 : Array Value) (hw : ∀ d ∈ tables_1, d.before a0 Z = true) (ws : List Jvm.Cond) (va : Addr) (vb : Addr) (ka : ClassId) (kb : ClassId) (x0 : Int32) (x1 : Int32) (y0 : Int32) (y1 : Int32) (h0 : Heap) (n0 : Nat) (Z0 : n0 ≤ h0.size) (V_va : Arv Z h0 va ka .byte (2 : Int32) [(.int x0), (.int x1)] (.int (0 : Int32))) (V_vb : Arv Z h0 vb kb .byte (2 : Int32) [(.int y0), (.int y1)] (.int (0 : Int32))) (hq0 : ¬ (x0 = y0)) :
    own_Met l Z (⟨"java/lang/StringLatin1", "equals", "([B[B)Z"⟩ : MethodName) jdk_43_method_13_code 3 (some .boolean) ws ({ frames := 0, cells := 0, slots := 0, locals := 0 } : Room) #[(.ref va), (.ref vb)] h0 (fun v h L => v = some (.int (0 : Int32)) ∧ Fr n0 L ∧ h = h0) := by
  refine own_body (plainFor_of_name own_pn_java_lang_StringLatin1) (fun p e s m below meth c s₁ hx hby hml0 hrt hlk hown0 hnm hZ X0 e0 => ?_)
  have N0 := Fr.nil n0
  have hown : s.vm.findClass "java/lang/StringLatin1" = some m.cls := hown0
  have hml : c.maxLocals = 3 := hml0
  refine own_castG (own_ef10 m va vb) ?_
  refine own_step (fun t k => XS.aloadN X0.here hx rfl (hb hby own_jdk_43_method_13_0) rfl rfl k) ?_
  show own_Goes _ _ _ _ s₁ (mkF m 1 #[.val (.ref va), .val (.ref vb), .unset] [(.ref va)])
  refine own_step (own_alen X0 hx hZ e0 V_va (g := (mkF m 1 #[.val (.ref va), .val (.ref vb), .unset] [(.ref va)])) rfl rfl (hb hby own_jdk_43_method_13_1)) ?_
  refine own_step (fun t k => XS.aloadN X0.here hx rfl (hb hby own_jdk_43_method_13_2) rfl rfl k) ?_
  show own_Goes _ _ _ _ s₁ (mkF m 3 #[.val (.ref va), .val (.ref vb), .unset] [(.ref vb), (.int (2 : Int32))])
  refine own_step (own_alen X0 hx hZ e0 V_vb (g := (mkF m 3 #[.val (.ref va), .val (.ref vb), .unset] [(.ref vb), (.int (2 : Int32))])) rfl rfl (hb hby own_jdk_43_method_13_3)) ?_
  show own_Goes _ _ _ _ s₁ (mkF m 4 #[.val (.ref va), .val (.ref vb), .unset] [(.int (2 : Int32)), (.int (2 : Int32))])
  refine own_step (fun t k => XS.icmpNo X0.here hx rfl (hb hby own_jdk_43_method_13_4) rfl (teq (show (2 : Int32) = (2 : Int32) from (by decide))).2 k) ?_
  refine own_step (fun t k => XS.iconst X0.here hx rfl (hb hby own_jdk_43_method_13_7) k) ?_
  refine own_step (fun t k => XS.istoreN X0.here hx rfl (hb hby own_jdk_43_method_13_8) rfl (l' := #[.val (.ref va), .val (.ref vb), .val (.int (0 : Int32))]) rfl k) ?_
  refine own_step (fun t k => XS.iloadN X0.here hx rfl (hb hby own_jdk_43_method_13_9) rfl k) ?_
  refine own_step (fun t k => XS.aloadN X0.here hx rfl (hb hby own_jdk_43_method_13_10) rfl rfl k) ?_
  show own_Goes _ _ _ _ s₁ (mkF m 11 #[.val (.ref va), .val (.ref vb), .val (.int (0 : Int32))] [(.ref va), (.int (0 : Int32))])
  refine own_step (own_alen X0 hx hZ e0 V_va (g := (mkF m 11 #[.val (.ref va), .val (.ref vb), .val (.int (0 : Int32))] [(.ref va), (.int (0 : Int32))])) rfl rfl (hb hby own_jdk_43_method_13_11)) ?_
  show own_Goes _ _ _ _ s₁ (mkF m 12 #[.val (.ref va), .val (.ref vb), .val (.int (0 : Int32))] [(.int (2 : Int32)), (.int (0 : Int32))])
  refine own_step (fun t k => XS.icmpNo X0.here hx rfl (hb hby own_jdk_43_method_13_12) rfl (tlt (show (0 : Int32) < (2 : Int32) from (by decide))).2.1 k) ?_
  refine own_step (fun t k => XS.aloadN X0.here hx rfl (hb hby own_jdk_43_method_13_15) rfl rfl k) ?_
  refine own_step (fun t k => XS.iloadN X0.here hx rfl (hb hby own_jdk_43_method_13_16) rfl k) ?_
  show own_Goes _ _ _ _ s₁ (mkF m 17 #[.val (.ref va), .val (.ref vb), .val (.int (0 : Int32))] [(.int (0 : Int32)), (.ref va)])
  refine own_step (own_baload X0 hx hZ e0 V_va (.int x0) ⟨by decide, by decide⟩ rfl (g := (mkF m 17 #[.val (.ref va), .val (.ref vb), .val (.int (0 : Int32))] [(.int (0 : Int32)), (.ref va)])) rfl rfl (hb hby own_jdk_43_method_13_17)) ?_
  refine own_step (fun t k => XS.aloadN X0.here hx rfl (hb hby own_jdk_43_method_13_18) rfl rfl k) ?_
  refine own_step (fun t k => XS.iloadN X0.here hx rfl (hb hby own_jdk_43_method_13_19) rfl k) ?_
  show own_Goes _ _ _ _ s₁ (mkF m 20 #[.val (.ref va), .val (.ref vb), .val (.int (0 : Int32))] [(.int (0 : Int32)), (.ref vb), (.int x0)])
  refine own_step (own_baload X0 hx hZ e0 V_vb (.int y0) ⟨by decide, by decide⟩ rfl (g := (mkF m 20 #[.val (.ref va), .val (.ref vb), .val (.int (0 : Int32))] [(.int (0 : Int32)), (.ref vb), (.int x0)])) rfl rfl (hb hby own_jdk_43_method_13_20)) ?_
  show own_Goes _ _ _ _ s₁ (mkF m 21 #[.val (.ref va), .val (.ref vb), .val (.int (0 : Int32))] [(.int y0), (.int x0)])
  refine own_step (fun t k => XS.icmpNo X0.here hx rfl (hb hby own_jdk_43_method_13_21) rfl (feq (show ¬ (x0 = y0) from hq0)).1 k) ?_
  refine own_step (fun t k => XS.iconst X0.here hx rfl (hb hby own_jdk_43_method_13_24) k) ?_
  show own_Goes _ _ _ _ s₁ (mkF m 25 #[.val (.ref va), .val (.ref vb), .val (.int (0 : Int32))] [(.int (0 : Int32))])
  exact own_retN X0 hx hlk (t := .boolean) hrt (by simp) (hb hby own_jdk_43_method_13_25) ⟨rfl, N0, e0⟩ (by decide) (by decide)
set_option maxRecDepth 65536 in
set_option maxHeartbeats 40000000 in
theorem own_seq_220 (l : Launch) (Z : State) (a0 : Array Value) (hw : ∀ d ∈ tables_1, d.before a0 Z = true) (ws : List Jvm.Cond) (a : Addr) (o : Addr) (va : Addr) (vb : Addr) (ka : ClassId) (kb : ClassId) (x0 : Int32) (x1 : Int32) (y0 : Int32) (y1 : Int32) (zc : Int32) (h0 : Heap) (n0 : Nat) (Z0 : n0 ≤ h0.size) (E_o : Exa Z h0 o "java/lang/String") (F_a_coder : Fld Z h0 a "java/lang/String" "coder" "B" (.int (0 : Int32))) (F_o_coder : Fld Z h0 o "java/lang/String" "coder" "B" (.int (0 : Int32))) (F_a_value : Fld Z h0 a "java/lang/String" "value" "[B" (.ref va)) (F_o_value : Fld Z h0 o "java/lang/String" "value" "[B" (.ref vb)) (V_va : Arv Z h0 va ka .byte (2 : Int32) [(.int x0), (.int x1)] (.int (0 : Int32))) (V_vb : Arv Z h0 vb kb .byte (2 : Int32) [(.int y0), (.int y1)] (.int (0 : Int32))) (S_COMPACT_STRINGS : Sta Z h0 "java/lang/String" "COMPACT_STRINGS" "Z" (.int zc)) (hq0 : ¬ (x0 = y0)) (hz : ¬ (zc = (0 : Int32))) (neao : ¬ (a = o)) :
    own_Met l Z (⟨"java/lang/String", "equals", "(Ljava/lang/Object;)Z"⟩ : MethodName) jdk_42_method_66_code 3 (some .boolean) ws ({ frames := 1, cells := 0, slots := 0, locals := 14 } : Room) #[(.ref a), (.ref o)] h0 (fun v h L => v = some (.int (0 : Int32)) ∧ Fr n0 L ∧ h = h0) := by
  refine own_body (plainFor_of_name own_pn_java_lang_String) (fun p e s m below meth c s₁ hx hby hml0 hrt hlk hown0 hnm hZ X0 e0 => ?_)
  have N0 := Fr.nil n0
  have hown : s.vm.findClass "java/lang/String" = some m.cls := hown0
  have hml : c.maxLocals = 3 := hml0
  refine own_castG (own_ef11 m a o) ?_
  refine own_step (fun t k => XS.aloadN X0.here hx rfl (hb hby own_jdk_42_method_66_0) rfl rfl k) ?_
  refine own_step (fun t k => XS.aloadN X0.here hx rfl (hb hby own_jdk_42_method_66_1) rfl rfl k) ?_
  show own_Goes _ _ _ _ s₁ (mkF m 2 #[.val (.ref a), .val (.ref o), .unset] [(.ref o), (.ref a)])
  refine own_step (fun t k => Jvm.RoadKit.acmp (g := (mkF m 2 #[.val (.ref a), .val (.ref o), .unset] [(.ref o), (.ref a)])) X0 hx rfl rfl rfl (pc0 := 2) (pc' := 7) (same := false) rfl (hb hby own_jdk_42_method_66_2) rfl (decide_eq_false fun q => neao (Value.ref.inj q)) (by decide) (by decide) k) ?_
  refine own_step (fun t k => XS.aloadN X0.here hx rfl (hb hby own_jdk_42_method_66_7) rfl rfl k) ?_
  show own_Goes _ _ _ _ s₁ (mkF m 8 #[.val (.ref a), .val (.ref o), .unset] [(.ref o)])
  obtain ⟨T1, X1, e1, st1⟩ := instY X0 hx hZ hown (hw _ (List.mem_of_getElem? (i := 76) rfl)) e0 (Ins.self E_o) (g := (mkF m 8 #[.val (.ref a), .val (.ref o), .unset] [(.ref o)])) rfl rfl (hb hby own_jdk_42_method_66_8)
  refine own_step st1 ?_
  show own_Goes _ _ _ _ T1 (mkF m 11 #[.val (.ref a), .val (.ref o), .unset] [(.int (1 : Int32))])
  refine own_step (fun t k => XS.ifNo X1.here hx rfl (hb hby own_jdk_42_method_66_11) rfl ((if0 _ _).trans (feq (show ¬ ((1 : Int32) = (0 : Int32)) from (by decide))).1) k) ?_
  refine own_step (fun t k => XS.aloadN X1.here hx rfl (hb hby own_jdk_42_method_66_14) rfl rfl k) ?_
  show own_Goes _ _ _ _ T1 (mkF m 15 #[.val (.ref a), .val (.ref o), .unset] [(.ref o)])
  obtain ⟨T2, X2, e2, st2⟩ := castY X1 hx hZ hown (hw _ (List.mem_of_getElem? (i := 76) rfl)) e1 (Ins.self E_o) (g := (mkF m 15 #[.val (.ref a), .val (.ref o), .unset] [(.ref o)])) rfl rfl (hb hby own_jdk_42_method_66_15)
  refine own_step st2 ?_
  refine own_step (fun t k => XS.astoreN X2.here hx rfl (hb hby own_jdk_42_method_66_18) rfl rfl (l' := #[.val (.ref a), .val (.ref o), .val (.ref o)]) rfl k) ?_
  show own_Goes _ _ _ _ T2 (mkF m 19 #[.val (.ref a), .val (.ref o), .val (.ref o)] [])
  obtain ⟨T3, X3, e3, st3⟩ := getS2 X2 hx hZ hown (host := "") (Or.inl (hw _ (List.mem_of_getElem? (i := 60) rfl))) Via.refl e2 S_COMPACT_STRINGS (g := (mkF m 19 #[.val (.ref a), .val (.ref o), .val (.ref o)] [])) rfl (hb hby own_jdk_42_method_66_19)
  refine own_step st3 ?_
  show own_Goes _ _ _ _ T3 (mkF m 22 #[.val (.ref a), .val (.ref o), .val (.ref o)] [(.int zc)])
  refine own_step (fun t k => XS.ifNo X3.here hx rfl (hb hby own_jdk_42_method_66_22) rfl ((if0 _ _).trans (feq (show ¬ (zc = (0 : Int32)) from hz)).1) k) ?_
  refine own_step (fun t k => XS.aloadN X3.here hx rfl (hb hby own_jdk_42_method_66_25) rfl rfl k) ?_
  show own_Goes _ _ _ _ T3 (mkF m 26 #[.val (.ref a), .val (.ref o), .val (.ref o)] [(.ref a)])
  obtain ⟨T4, X4, e4, st4⟩ := getF X3 hx hZ hown (host := "") (Or.inl (hw _ (List.mem_of_getElem? (i := 35) rfl))) Via.refl e3 F_a_coder (g := (mkF m 26 #[.val (.ref a), .val (.ref o), .val (.ref o)] [(.ref a)])) rfl rfl (hb hby own_jdk_42_method_66_26)
  refine own_step st4 ?_
  refine own_step (fun t k => XS.aloadN X4.here hx rfl (hb hby own_jdk_42_method_66_29) rfl rfl k) ?_
  show own_Goes _ _ _ _ T4 (mkF m 30 #[.val (.ref a), .val (.ref o), .val (.ref o)] [(.ref o), (.int (0 : Int32))])
  obtain ⟨T5, X5, e5, st5⟩ := getF X4 hx hZ hown (host := "") (Or.inl (hw _ (List.mem_of_getElem? (i := 35) rfl))) Via.refl e4 F_o_coder (g := (mkF m 30 #[.val (.ref a), .val (.ref o), .val (.ref o)] [(.ref o), (.int (0 : Int32))])) rfl rfl (hb hby own_jdk_42_method_66_30)
  refine own_step st5 ?_
  show own_Goes _ _ _ _ T5 (mkF m 33 #[.val (.ref a), .val (.ref o), .val (.ref o)] [(.int (0 : Int32)), (.int (0 : Int32))])
  refine own_step (fun t k => XS.icmpNo X5.here hx rfl (hb hby own_jdk_42_method_66_33) rfl (teq (show (0 : Int32) = (0 : Int32) from (by decide))).2 k) ?_
  refine own_step (fun t k => XS.aloadN X5.here hx rfl (hb hby own_jdk_42_method_66_36) rfl rfl k) ?_
  show own_Goes _ _ _ _ T5 (mkF m 37 #[.val (.ref a), .val (.ref o), .val (.ref o)] [(.ref a)])
  obtain ⟨T6, X6, e6, st6⟩ := getF X5 hx hZ hown (host := "") (Or.inl (hw _ (List.mem_of_getElem? (i := 34) rfl))) Via.refl e5 F_a_value (g := (mkF m 37 #[.val (.ref a), .val (.ref o), .val (.ref o)] [(.ref a)])) rfl rfl (hb hby own_jdk_42_method_66_37)
  refine own_step st6 ?_
  refine own_step (fun t k => XS.aloadN X6.here hx rfl (hb hby own_jdk_42_method_66_40) rfl rfl k) ?_
  show own_Goes _ _ _ _ T6 (mkF m 41 #[.val (.ref a), .val (.ref o), .val (.ref o)] [(.ref o), (.ref va)])
  obtain ⟨T7, X7, e7, st7⟩ := getF X6 hx hZ hown (host := "") (Or.inl (hw _ (List.mem_of_getElem? (i := 34) rfl))) Via.refl e6 F_o_value (g := (mkF m 41 #[.val (.ref a), .val (.ref o), .val (.ref o)] [(.ref o), (.ref va)])) rfl rfl (hb hby own_jdk_42_method_66_41)
  refine own_step st7 ?_
  show own_Goes _ _ _ _ T7 (mkF m 44 #[.val (.ref a), .val (.ref o), .val (.ref o)] [(.ref vb), (.ref va)])
  refine own_callS X7 hx hZ (y := (⟨"java/lang/StringLatin1", "equals", "([B[B)Z"⟩ : MethodName)) hown (hw _ (List.mem_of_getElem? (i := 77) rfl)) (hw _ (List.mem_of_getElem? (i := 78) rfl)) (hw _ (List.mem_of_getElem? (i := 79) rfl)) (hw _ (List.mem_of_getElem? (i := 80) rfl)) (by decide) 0 [(.ref va), (.ref vb)] [] (own_leq_220 l Z a0 hw [] va vb ka kb x0 x1 y0 y1 h0 n0 Z0 V_va V_vb hq0) e7  (by decide) (by decide) (by decide) (by decide) (g := (mkF m 44 #[.val (.ref a), .val (.ref o), .val (.ref o)] [(.ref vb), (.ref va)])) rfl (by rw [hml]; rfl) own_pd6 rfl rfl (by show 2 * 0 + _ ≤ _; exact Nat.le_of_eq rfl) (hb hby own_jdk_42_method_66_44) ?_
  intro T8 v8 L8 X8 hQ8
  obtain ⟨rfl, N8q, e8⟩ := hQ8
  have N8 := Fr.app N0 N8q
  show own_Goes _ _ _ _ T8 (mkF m 47 #[.val (.ref a), .val (.ref o), .val (.ref o)] [(.int (0 : Int32))])
  refine own_step (fun t k => XS.ifYes X8.here hx rfl (pc0 := 47) (pc' := 54) rfl (hb hby own_jdk_42_method_66_47) rfl ((if0 _ _).trans (teq (show (0 : Int32) = (0 : Int32) from (by decide))).1) (by decide) (by decide) k) ?_
  refine own_step (fun t k => XS.iconst X8.here hx rfl (hb hby own_jdk_42_method_66_54) k) ?_
  show own_Goes _ _ _ _ T8 (mkF m 55 #[.val (.ref a), .val (.ref o), .val (.ref o)] [(.int (0 : Int32))])
  exact own_retN X8 hx hlk (t := .boolean) hrt (by simp) (hb hby own_jdk_42_method_66_55) ⟨rfl, N8, e8⟩ (by decide) (by decide)
set_option maxRecDepth 65536 in
set_option maxHeartbeats 40000000 in
theorem own_is_220 (l : Launch) (Z : State) (a0 : Array Value) (hw : ∀ d ∈ tables_1, d.before a0 Z = true) (ws : List Jvm.Cond) (a : Addr) (tz : Addr) (o : Addr) (ty : Addr) (tx : Addr) (va : Addr) (vb : Addr) (ka : ClassId) (kb : ClassId) (x0 : Int32) (x1 : Int32) (y0 : Int32) (y1 : Int32) (zc : Int32) (h0 : Heap) (n0 : Nat) (Z0 : n0 ≤ h0.size) (F_a_type : Fld Z h0 a "com/example/weaverbird/weaverbird/automaton/HoaLexer$Token" "type" "Lcom/example/weaverbird/weaverbird/automaton/HoaLexer$Type;" (.ref ty)) (F_a_text : Fld Z h0 a "com/example/weaverbird/weaverbird/automaton/HoaLexer$Token" "text" "Ljava/lang/String;" (.ref tx)) (E_tx : Exa Z h0 tx "java/lang/String") (E_o : Exa Z h0 o "java/lang/String") (F_tx_coder : Fld Z h0 tx "java/lang/String" "coder" "B" (.int (0 : Int32))) (F_o_coder : Fld Z h0 o "java/lang/String" "coder" "B" (.int (0 : Int32))) (F_tx_value : Fld Z h0 tx "java/lang/String" "value" "[B" (.ref va)) (F_o_value : Fld Z h0 o "java/lang/String" "value" "[B" (.ref vb)) (V_va : Arv Z h0 va ka .byte (2 : Int32) [(.int x0), (.int x1)] (.int (0 : Int32))) (V_vb : Arv Z h0 vb kb .byte (2 : Int32) [(.int y0), (.int y1)] (.int (0 : Int32))) (S_COMPACT_STRINGS : Sta Z h0 "java/lang/String" "COMPACT_STRINGS" "Z" (.int zc)) (hty : ty = tz) (hq0 : ¬ (x0 = y0)) (hz : ¬ (zc = (0 : Int32))) (neto : ¬ (tx = o)) :
    own_Met l Z (⟨"com/example/weaverbird/weaverbird/automaton/HoaLexer$Token", "is", "(Lcom/example/weaverbird/weaverbird/automaton/HoaLexer$Type;Ljava/lang/String;)Z"⟩ : MethodName) prog_16_method_2_code 3 (some .boolean) ws ({ frames := 2, cells := 0, slots := 0, locals := 28 } : Room) #[(.ref a), (.ref tz), (.ref o)] h0 (fun v h L => v = some (.int (0 : Int32)) ∧ Fr n0 L ∧ h = h0) := by
  refine own_body (plainFor_of_name own_pn_com_example_weaverbird_weaverbird_automaton_HoaLexer_Token) (fun p e s m below meth c s₁ hx hby hml0 hrt hlk hown0 hnm hZ X0 e0 => ?_)
  have N0 := Fr.nil n0
  have hown : s.vm.findClass "com/example/weaverbird/weaverbird/automaton/HoaLexer$Token" = some m.cls := hown0
  have hml : c.maxLocals = 3 := hml0
  refine own_castG (own_ef9 m a tz o) ?_
  refine own_step (fun t k => XS.aloadN X0.here hx rfl (hb hby own_prog_16_method_2_0) rfl rfl k) ?_
  show own_Goes _ _ _ _ s₁ (mkF m 1 #[.val (.ref a), .val (.ref tz), .val (.ref o)] [(.ref a)])
  obtain ⟨T1, X1, e1, st1⟩ := getF X0 hx hZ hown (host := "") (Or.inl (hw _ (List.mem_of_getElem? (i := 45) rfl))) Via.refl e0 F_a_type (g := (mkF m 1 #[.val (.ref a), .val (.ref tz), .val (.ref o)] [(.ref a)])) rfl rfl (hb hby own_prog_16_method_2_1)
  refine own_step st1 ?_
  refine own_step (fun t k => XS.aloadN X1.here hx rfl (hb hby own_prog_16_method_2_4) rfl rfl k) ?_
  show own_Goes _ _ _ _ T1 (mkF m 5 #[.val (.ref a), .val (.ref tz), .val (.ref o)] [(.ref tz), (.ref ty)])
  refine own_step (fun t k => Jvm.RoadKit.acmp (g := (mkF m 5 #[.val (.ref a), .val (.ref tz), .val (.ref o)] [(.ref tz), (.ref ty)])) X1 hx rfl rfl rfl (pc0 := 5) (pc' := 8) (same := true) rfl (hb hby own_prog_16_method_2_5) rfl (decide_eq_true (congrArg Value.ref hty)) (by decide) (by decide) k) ?_
  refine own_step (fun t k => XS.aloadN X1.here hx rfl (hb hby own_prog_16_method_2_8) rfl rfl k) ?_
  show own_Goes _ _ _ _ T1 (mkF m 9 #[.val (.ref a), .val (.ref tz), .val (.ref o)] [(.ref a)])
  obtain ⟨T2, X2, e2, st2⟩ := getF X1 hx hZ hown (host := "") (Or.inl (hw _ (List.mem_of_getElem? (i := 47) rfl))) Via.refl e1 F_a_text (g := (mkF m 9 #[.val (.ref a), .val (.ref tz), .val (.ref o)] [(.ref a)])) rfl rfl (hb hby own_prog_16_method_2_9)
  refine own_step st2 ?_
  refine own_step (fun t k => XS.aloadN X2.here hx rfl (hb hby own_prog_16_method_2_12) rfl rfl k) ?_
  show own_Goes _ _ _ _ T2 (mkF m 13 #[.val (.ref a), .val (.ref tz), .val (.ref o)] [(.ref o), (.ref tx)])
  refine own_callV X2 hx hZ (y := (⟨"java/lang/String", "equals", "(Ljava/lang/Object;)Z"⟩ : MethodName)) (z := (⟨"java/lang/String", "equals", "(Ljava/lang/Object;)Z"⟩ : MethodName)) hown (hw _ (List.mem_of_getElem? (i := 71) rfl)) (hw _ (List.mem_of_getElem? (i := 72) rfl)) (notFace_of_selects (args := #[]) (mvT hZ (hw _ (List.mem_of_getElem? (i := 74) rfl)))) (hw _ (List.mem_of_getElem? (i := 74) rfl)) (hw _ (List.mem_of_getElem? (i := 73) rfl)) (hw _ (List.mem_of_getElem? (i := 75) rfl)) (hw _ (List.mem_of_getElem? (i := 16) rfl)) (by decide) 0 E_tx [(.ref o)] [] (own_seq_220 l Z a0 hw [] tx o va vb ka kb x0 x1 y0 y1 zc h0 n0 Z0 E_o F_tx_coder F_o_coder F_tx_value F_o_value V_va V_vb S_COMPACT_STRINGS hq0 hz neto) e2  (by decide) (by decide) (by decide) (by decide) (g := (mkF m 13 #[.val (.ref a), .val (.ref tz), .val (.ref o)] [(.ref o), (.ref tx)])) rfl (by rw [hml]; rfl) own_pd7 rfl rfl (by show 2 * 0 + _ ≤ _; exact Nat.le_of_eq rfl) (hb hby own_prog_16_method_2_13) ?_
  intro T3 v3 L3 X3 hQ3
  obtain ⟨rfl, N3q, e3⟩ := hQ3
  have N3 := Fr.app N0 N3q
  show own_Goes _ _ _ _ T3 (mkF m 16 #[.val (.ref a), .val (.ref tz), .val (.ref o)] [(.int (0 : Int32))])
  refine own_step (fun t k => XS.ifYes X3.here hx rfl (pc0 := 16) (pc' := 23) rfl (hb hby own_prog_16_method_2_16) rfl ((if0 _ _).trans (teq (show (0 : Int32) = (0 : Int32) from (by decide))).1) (by decide) (by decide) k) ?_
  refine own_step (fun t k => XS.iconst X3.here hx rfl (hb hby own_prog_16_method_2_23) k) ?_
  show own_Goes _ _ _ _ T3 (mkF m 24 #[.val (.ref a), .val (.ref tz), .val (.ref o)] [(.int (0 : Int32))])
  exact own_retN X3 hx hlk (t := .boolean) hrt (by simp) (hb hby own_prog_16_method_2_24) ⟨rfl, N3, e3⟩ (by decide) (by decide)
set_option maxRecDepth 65536 in
set_option maxHeartbeats 40000000 in
theorem own_leq_221 (l : Launch) (Z : State) (a0 : Array Value) (hw : ∀ d ∈ tables_1, d.before a0 Z = true) (ws : List Jvm.Cond) (va : Addr) (vb : Addr) (ka : ClassId) (kb : ClassId) (x0 : Int32) (x1 : Int32) (y0 : Int32) (y1 : Int32) (h0 : Heap) (n0 : Nat) (Z0 : n0 ≤ h0.size) (V_va : Arv Z h0 va ka .byte (2 : Int32) [(.int x0), (.int x1)] (.int (0 : Int32))) (V_vb : Arv Z h0 vb kb .byte (2 : Int32) [(.int y0), (.int y1)] (.int (0 : Int32))) (hq0 : x0 = y0) (hq1 : ¬ (x1 = y1)) :
    own_Met l Z (⟨"java/lang/StringLatin1", "equals", "([B[B)Z"⟩ : MethodName) jdk_43_method_13_code 3 (some .boolean) ws ({ frames := 0, cells := 0, slots := 0, locals := 0 } : Room) #[(.ref va), (.ref vb)] h0 (fun v h L => v = some (.int (0 : Int32)) ∧ Fr n0 L ∧ h = h0) := by
  refine own_body (plainFor_of_name own_pn_java_lang_StringLatin1) (fun p e s m below meth c s₁ hx hby hml0 hrt hlk hown0 hnm hZ X0 e0 => ?_)
  have N0 := Fr.nil n0
  have hown : s.vm.findClass "java/lang/StringLatin1" = some m.cls := hown0
  have hml : c.maxLocals = 3 := hml0
  refine own_castG (own_ef10 m va vb) ?_
  refine own_step (fun t k => XS.aloadN X0.here hx rfl (hb hby own_jdk_43_method_13_0) rfl rfl k) ?_
  show own_Goes _ _ _ _ s₁ (mkF m 1 #[.val (.ref va), .val (.ref vb), .unset] [(.ref va)])
  refine own_step (own_alen X0 hx hZ e0 V_va (g := (mkF m 1 #[.val (.ref va), .val (.ref vb), .unset] [(.ref va)])) rfl rfl (hb hby own_jdk_43_method_13_1)) ?_
  refine own_step (fun t k => XS.aloadN X0.here hx rfl (hb hby own_jdk_43_method_13_2) rfl rfl k) ?_
  show own_Goes _ _ _ _ s₁ (mkF m 3 #[.val (.ref va), .val (.ref vb), .unset] [(.ref vb), (.int (2 : Int32))])
  refine own_step (own_alen X0 hx hZ e0 V_vb (g := (mkF m 3 #[.val (.ref va), .val (.ref vb), .unset] [(.ref vb), (.int (2 : Int32))])) rfl rfl (hb hby own_jdk_43_method_13_3)) ?_
  show own_Goes _ _ _ _ s₁ (mkF m 4 #[.val (.ref va), .val (.ref vb), .unset] [(.int (2 : Int32)), (.int (2 : Int32))])
  refine own_step (fun t k => XS.icmpNo X0.here hx rfl (hb hby own_jdk_43_method_13_4) rfl (teq (show (2 : Int32) = (2 : Int32) from (by decide))).2 k) ?_
  refine own_step (fun t k => XS.iconst X0.here hx rfl (hb hby own_jdk_43_method_13_7) k) ?_
  refine own_step (fun t k => XS.istoreN X0.here hx rfl (hb hby own_jdk_43_method_13_8) rfl (l' := #[.val (.ref va), .val (.ref vb), .val (.int (0 : Int32))]) rfl k) ?_
  refine own_step (fun t k => XS.iloadN X0.here hx rfl (hb hby own_jdk_43_method_13_9) rfl k) ?_
  refine own_step (fun t k => XS.aloadN X0.here hx rfl (hb hby own_jdk_43_method_13_10) rfl rfl k) ?_
  show own_Goes _ _ _ _ s₁ (mkF m 11 #[.val (.ref va), .val (.ref vb), .val (.int (0 : Int32))] [(.ref va), (.int (0 : Int32))])
  refine own_step (own_alen X0 hx hZ e0 V_va (g := (mkF m 11 #[.val (.ref va), .val (.ref vb), .val (.int (0 : Int32))] [(.ref va), (.int (0 : Int32))])) rfl rfl (hb hby own_jdk_43_method_13_11)) ?_
  show own_Goes _ _ _ _ s₁ (mkF m 12 #[.val (.ref va), .val (.ref vb), .val (.int (0 : Int32))] [(.int (2 : Int32)), (.int (0 : Int32))])
  refine own_step (fun t k => XS.icmpNo X0.here hx rfl (hb hby own_jdk_43_method_13_12) rfl (tlt (show (0 : Int32) < (2 : Int32) from (by decide))).2.1 k) ?_
  refine own_step (fun t k => XS.aloadN X0.here hx rfl (hb hby own_jdk_43_method_13_15) rfl rfl k) ?_
  refine own_step (fun t k => XS.iloadN X0.here hx rfl (hb hby own_jdk_43_method_13_16) rfl k) ?_
  show own_Goes _ _ _ _ s₁ (mkF m 17 #[.val (.ref va), .val (.ref vb), .val (.int (0 : Int32))] [(.int (0 : Int32)), (.ref va)])
  refine own_step (own_baload X0 hx hZ e0 V_va (.int x0) ⟨by decide, by decide⟩ rfl (g := (mkF m 17 #[.val (.ref va), .val (.ref vb), .val (.int (0 : Int32))] [(.int (0 : Int32)), (.ref va)])) rfl rfl (hb hby own_jdk_43_method_13_17)) ?_
  refine own_step (fun t k => XS.aloadN X0.here hx rfl (hb hby own_jdk_43_method_13_18) rfl rfl k) ?_
  refine own_step (fun t k => XS.iloadN X0.here hx rfl (hb hby own_jdk_43_method_13_19) rfl k) ?_
  show own_Goes _ _ _ _ s₁ (mkF m 20 #[.val (.ref va), .val (.ref vb), .val (.int (0 : Int32))] [(.int (0 : Int32)), (.ref vb), (.int x0)])
  refine own_step (own_baload X0 hx hZ e0 V_vb (.int y0) ⟨by decide, by decide⟩ rfl (g := (mkF m 20 #[.val (.ref va), .val (.ref vb), .val (.int (0 : Int32))] [(.int (0 : Int32)), (.ref vb), (.int x0)])) rfl rfl (hb hby own_jdk_43_method_13_20)) ?_
  show own_Goes _ _ _ _ s₁ (mkF m 21 #[.val (.ref va), .val (.ref vb), .val (.int (0 : Int32))] [(.int y0), (.int x0)])
  refine own_step (fun t k => XS.icmpYes X0.here hx rfl (pc0 := 21) (pc' := 26) rfl (hb hby own_jdk_43_method_13_21) rfl (teq (show x0 = y0 from hq0)).1 (by decide) (by decide) k) ?_
  show own_Goes _ _ _ _ s₁ (mkF m 26 #[.val (.ref va), .val (.ref vb), .val (.int (0 : Int32))] [])
  refine own_step (fun t k => XS.iinc X0.here hx rfl (hb hby own_jdk_43_method_13_26) rfl (l' := #[.val (.ref va), .val (.ref vb), .val (.int (1 : Int32))]) rfl k) ?_
  refine own_step (fun t k => XS.goto X0.here hx rfl (pc0 := 29) (pc' := 9) rfl (hb hby own_jdk_43_method_13_29) (by decide) (by decide) k) ?_
  refine own_step (fun t k => XS.iloadN X0.here hx rfl (hb hby own_jdk_43_method_13_9) rfl k) ?_
  refine own_step (fun t k => XS.aloadN X0.here hx rfl (hb hby own_jdk_43_method_13_10) rfl rfl k) ?_
  show own_Goes _ _ _ _ s₁ (mkF m 11 #[.val (.ref va), .val (.ref vb), .val (.int (1 : Int32))] [(.ref va), (.int (1 : Int32))])
  refine own_step (own_alen X0 hx hZ e0 V_va (g := (mkF m 11 #[.val (.ref va), .val (.ref vb), .val (.int (1 : Int32))] [(.ref va), (.int (1 : Int32))])) rfl rfl (hb hby own_jdk_43_method_13_11)) ?_
  show own_Goes _ _ _ _ s₁ (mkF m 12 #[.val (.ref va), .val (.ref vb), .val (.int (1 : Int32))] [(.int (2 : Int32)), (.int (1 : Int32))])
  refine own_step (fun t k => XS.icmpNo X0.here hx rfl (hb hby own_jdk_43_method_13_12) rfl (tlt (show (1 : Int32) < (2 : Int32) from (by decide))).2.1 k) ?_
  refine own_step (fun t k => XS.aloadN X0.here hx rfl (hb hby own_jdk_43_method_13_15) rfl rfl k) ?_
  refine own_step (fun t k => XS.iloadN X0.here hx rfl (hb hby own_jdk_43_method_13_16) rfl k) ?_
  show own_Goes _ _ _ _ s₁ (mkF m 17 #[.val (.ref va), .val (.ref vb), .val (.int (1 : Int32))] [(.int (1 : Int32)), (.ref va)])
  refine own_step (own_baload X0 hx hZ e0 V_va (.int x1) ⟨by decide, by decide⟩ rfl (g := (mkF m 17 #[.val (.ref va), .val (.ref vb), .val (.int (1 : Int32))] [(.int (1 : Int32)), (.ref va)])) rfl rfl (hb hby own_jdk_43_method_13_17)) ?_
  refine own_step (fun t k => XS.aloadN X0.here hx rfl (hb hby own_jdk_43_method_13_18) rfl rfl k) ?_
  refine own_step (fun t k => XS.iloadN X0.here hx rfl (hb hby own_jdk_43_method_13_19) rfl k) ?_
  show own_Goes _ _ _ _ s₁ (mkF m 20 #[.val (.ref va), .val (.ref vb), .val (.int (1 : Int32))] [(.int (1 : Int32)), (.ref vb), (.int x1)])
  refine own_step (own_baload X0 hx hZ e0 V_vb (.int y1) ⟨by decide, by decide⟩ rfl (g := (mkF m 20 #[.val (.ref va), .val (.ref vb), .val (.int (1 : Int32))] [(.int (1 : Int32)), (.ref vb), (.int x1)])) rfl rfl (hb hby own_jdk_43_method_13_20)) ?_
  show own_Goes _ _ _ _ s₁ (mkF m 21 #[.val (.ref va), .val (.ref vb), .val (.int (1 : Int32))] [(.int y1), (.int x1)])
  refine own_step (fun t k => XS.icmpNo X0.here hx rfl (hb hby own_jdk_43_method_13_21) rfl (feq (show ¬ (x1 = y1) from hq1)).1 k) ?_
  refine own_step (fun t k => XS.iconst X0.here hx rfl (hb hby own_jdk_43_method_13_24) k) ?_
  show own_Goes _ _ _ _ s₁ (mkF m 25 #[.val (.ref va), .val (.ref vb), .val (.int (1 : Int32))] [(.int (0 : Int32))])
  exact own_retN X0 hx hlk (t := .boolean) hrt (by simp) (hb hby own_jdk_43_method_13_25) ⟨rfl, N0, e0⟩ (by decide) (by decide)
set_option maxRecDepth 65536 in
set_option maxHeartbeats 40000000 in
theorem own_seq_221 (l : Launch) (Z : State) (a0 : Array Value) (hw : ∀ d ∈ tables_1, d.before a0 Z = true) (ws : List Jvm.Cond) (a : Addr) (o : Addr) (va : Addr) (vb : Addr) (ka : ClassId) (kb : ClassId) (x0 : Int32) (x1 : Int32) (y0 : Int32) (y1 : Int32) (zc : Int32) (h0 : Heap) (n0 : Nat) (Z0 : n0 ≤ h0.size) (E_o : Exa Z h0 o "java/lang/String") (F_a_coder : Fld Z h0 a "java/lang/String" "coder" "B" (.int (0 : Int32))) (F_o_coder : Fld Z h0 o "java/lang/String" "coder" "B" (.int (0 : Int32))) (F_a_value : Fld Z h0 a "java/lang/String" "value" "[B" (.ref va)) (F_o_value : Fld Z h0 o "java/lang/String" "value" "[B" (.ref vb)) (V_va : Arv Z h0 va ka .byte (2 : Int32) [(.int x0), (.int x1)] (.int (0 : Int32))) (V_vb : Arv Z h0 vb kb .byte (2 : Int32) [(.int y0), (.int y1)] (.int (0 : Int32))) (S_COMPACT_STRINGS : Sta Z h0 "java/lang/String" "COMPACT_STRINGS" "Z" (.int zc)) (hq0 : x0 = y0) (hq1 : ¬ (x1 = y1)) (hz : ¬ (zc = (0 : Int32))) (neao : ¬ (a = o)) :
    own_Met l Z (⟨"java/lang/String", "equals", "(Ljava/lang/Object;)Z"⟩ : MethodName) jdk_42_method_66_code 3 (some .boolean) ws ({ frames := 1, cells := 0, slots := 0, locals := 14 } : Room) #[(.ref a), (.ref o)] h0 (fun v h L => v = some (.int (0 : Int32)) ∧ Fr n0 L ∧ h = h0) := by
  refine own_body (plainFor_of_name own_pn_java_lang_String) (fun p e s m below meth c s₁ hx hby hml0 hrt hlk hown0 hnm hZ X0 e0 => ?_)
  have N0 := Fr.nil n0
  have hown : s.vm.findClass "java/lang/String" = some m.cls := hown0
  have hml : c.maxLocals = 3 := hml0
  refine own_castG (own_ef11 m a o) ?_
  refine own_step (fun t k => XS.aloadN X0.here hx rfl (hb hby own_jdk_42_method_66_0) rfl rfl k) ?_
  refine own_step (fun t k => XS.aloadN X0.here hx rfl (hb hby own_jdk_42_method_66_1) rfl rfl k) ?_
  show own_Goes _ _ _ _ s₁ (mkF m 2 #[.val (.ref a), .val (.ref o), .unset] [(.ref o), (.ref a)])
  refine own_step (fun t k => Jvm.RoadKit.acmp (g := (mkF m 2 #[.val (.ref a), .val (.ref o), .unset] [(.ref o), (.ref a)])) X0 hx rfl rfl rfl (pc0 := 2) (pc' := 7) (same := false) rfl (hb hby own_jdk_42_method_66_2) rfl (decide_eq_false fun q => neao (Value.ref.inj q)) (by decide) (by decide) k) ?_
  refine own_step (fun t k => XS.aloadN X0.here hx rfl (hb hby own_jdk_42_method_66_7) rfl rfl k) ?_
  show own_Goes _ _ _ _ s₁ (mkF m 8 #[.val (.ref a), .val (.ref o), .unset] [(.ref o)])
  obtain ⟨T1, X1, e1, st1⟩ := instY X0 hx hZ hown (hw _ (List.mem_of_getElem? (i := 76) rfl)) e0 (Ins.self E_o) (g := (mkF m 8 #[.val (.ref a), .val (.ref o), .unset] [(.ref o)])) rfl rfl (hb hby own_jdk_42_method_66_8)
  refine own_step st1 ?_
  show own_Goes _ _ _ _ T1 (mkF m 11 #[.val (.ref a), .val (.ref o), .unset] [(.int (1 : Int32))])
  refine own_step (fun t k => XS.ifNo X1.here hx rfl (hb hby own_jdk_42_method_66_11) rfl ((if0 _ _).trans (feq (show ¬ ((1 : Int32) = (0 : Int32)) from (by decide))).1) k) ?_
  refine own_step (fun t k => XS.aloadN X1.here hx rfl (hb hby own_jdk_42_method_66_14) rfl rfl k) ?_
  show own_Goes _ _ _ _ T1 (mkF m 15 #[.val (.ref a), .val (.ref o), .unset] [(.ref o)])
  obtain ⟨T2, X2, e2, st2⟩ := castY X1 hx hZ hown (hw _ (List.mem_of_getElem? (i := 76) rfl)) e1 (Ins.self E_o) (g := (mkF m 15 #[.val (.ref a), .val (.ref o), .unset] [(.ref o)])) rfl rfl (hb hby own_jdk_42_method_66_15)
  refine own_step st2 ?_
  refine own_step (fun t k => XS.astoreN X2.here hx rfl (hb hby own_jdk_42_method_66_18) rfl rfl (l' := #[.val (.ref a), .val (.ref o), .val (.ref o)]) rfl k) ?_
  show own_Goes _ _ _ _ T2 (mkF m 19 #[.val (.ref a), .val (.ref o), .val (.ref o)] [])
  obtain ⟨T3, X3, e3, st3⟩ := getS2 X2 hx hZ hown (host := "") (Or.inl (hw _ (List.mem_of_getElem? (i := 60) rfl))) Via.refl e2 S_COMPACT_STRINGS (g := (mkF m 19 #[.val (.ref a), .val (.ref o), .val (.ref o)] [])) rfl (hb hby own_jdk_42_method_66_19)
  refine own_step st3 ?_
  show own_Goes _ _ _ _ T3 (mkF m 22 #[.val (.ref a), .val (.ref o), .val (.ref o)] [(.int zc)])
  refine own_step (fun t k => XS.ifNo X3.here hx rfl (hb hby own_jdk_42_method_66_22) rfl ((if0 _ _).trans (feq (show ¬ (zc = (0 : Int32)) from hz)).1) k) ?_
  refine own_step (fun t k => XS.aloadN X3.here hx rfl (hb hby own_jdk_42_method_66_25) rfl rfl k) ?_
  show own_Goes _ _ _ _ T3 (mkF m 26 #[.val (.ref a), .val (.ref o), .val (.ref o)] [(.ref a)])
  obtain ⟨T4, X4, e4, st4⟩ := getF X3 hx hZ hown (host := "") (Or.inl (hw _ (List.mem_of_getElem? (i := 35) rfl))) Via.refl e3 F_a_coder (g := (mkF m 26 #[.val (.ref a), .val (.ref o), .val (.ref o)] [(.ref a)])) rfl rfl (hb hby own_jdk_42_method_66_26)
  refine own_step st4 ?_
  refine own_step (fun t k => XS.aloadN X4.here hx rfl (hb hby own_jdk_42_method_66_29) rfl rfl k) ?_
  show own_Goes _ _ _ _ T4 (mkF m 30 #[.val (.ref a), .val (.ref o), .val (.ref o)] [(.ref o), (.int (0 : Int32))])
  obtain ⟨T5, X5, e5, st5⟩ := getF X4 hx hZ hown (host := "") (Or.inl (hw _ (List.mem_of_getElem? (i := 35) rfl))) Via.refl e4 F_o_coder (g := (mkF m 30 #[.val (.ref a), .val (.ref o), .val (.ref o)] [(.ref o), (.int (0 : Int32))])) rfl rfl (hb hby own_jdk_42_method_66_30)
  refine own_step st5 ?_
  show own_Goes _ _ _ _ T5 (mkF m 33 #[.val (.ref a), .val (.ref o), .val (.ref o)] [(.int (0 : Int32)), (.int (0 : Int32))])
  refine own_step (fun t k => XS.icmpNo X5.here hx rfl (hb hby own_jdk_42_method_66_33) rfl (teq (show (0 : Int32) = (0 : Int32) from (by decide))).2 k) ?_
  refine own_step (fun t k => XS.aloadN X5.here hx rfl (hb hby own_jdk_42_method_66_36) rfl rfl k) ?_
  show own_Goes _ _ _ _ T5 (mkF m 37 #[.val (.ref a), .val (.ref o), .val (.ref o)] [(.ref a)])
  obtain ⟨T6, X6, e6, st6⟩ := getF X5 hx hZ hown (host := "") (Or.inl (hw _ (List.mem_of_getElem? (i := 34) rfl))) Via.refl e5 F_a_value (g := (mkF m 37 #[.val (.ref a), .val (.ref o), .val (.ref o)] [(.ref a)])) rfl rfl (hb hby own_jdk_42_method_66_37)
  refine own_step st6 ?_
  refine own_step (fun t k => XS.aloadN X6.here hx rfl (hb hby own_jdk_42_method_66_40) rfl rfl k) ?_
  show own_Goes _ _ _ _ T6 (mkF m 41 #[.val (.ref a), .val (.ref o), .val (.ref o)] [(.ref o), (.ref va)])
  obtain ⟨T7, X7, e7, st7⟩ := getF X6 hx hZ hown (host := "") (Or.inl (hw _ (List.mem_of_getElem? (i := 34) rfl))) Via.refl e6 F_o_value (g := (mkF m 41 #[.val (.ref a), .val (.ref o), .val (.ref o)] [(.ref o), (.ref va)])) rfl rfl (hb hby own_jdk_42_method_66_41)
  refine own_step st7 ?_
  show own_Goes _ _ _ _ T7 (mkF m 44 #[.val (.ref a), .val (.ref o), .val (.ref o)] [(.ref vb), (.ref va)])
  refine own_callS X7 hx hZ (y := (⟨"java/lang/StringLatin1", "equals", "([B[B)Z"⟩ : MethodName)) hown (hw _ (List.mem_of_getElem? (i := 77) rfl)) (hw _ (List.mem_of_getElem? (i := 78) rfl)) (hw _ (List.mem_of_getElem? (i := 79) rfl)) (hw _ (List.mem_of_getElem? (i := 80) rfl)) (by decide) 0 [(.ref va), (.ref vb)] [] (own_leq_221 l Z a0 hw [] va vb ka kb x0 x1 y0 y1 h0 n0 Z0 V_va V_vb hq0 hq1) e7  (by decide) (by decide) (by decide) (by decide) (g := (mkF m 44 #[.val (.ref a), .val (.ref o), .val (.ref o)] [(.ref vb), (.ref va)])) rfl (by rw [hml]; rfl) own_pd6 rfl rfl (by show 2 * 0 + _ ≤ _; exact Nat.le_of_eq rfl) (hb hby own_jdk_42_method_66_44) ?_
  intro T8 v8 L8 X8 hQ8
  obtain ⟨rfl, N8q, e8⟩ := hQ8
  have N8 := Fr.app N0 N8q
  show own_Goes _ _ _ _ T8 (mkF m 47 #[.val (.ref a), .val (.ref o), .val (.ref o)] [(.int (0 : Int32))])
  refine own_step (fun t k => XS.ifYes X8.here hx rfl (pc0 := 47) (pc' := 54) rfl (hb hby own_jdk_42_method_66_47) rfl ((if0 _ _).trans (teq (show (0 : Int32) = (0 : Int32) from (by decide))).1) (by decide) (by decide) k) ?_
  refine own_step (fun t k => XS.iconst X8.here hx rfl (hb hby own_jdk_42_method_66_54) k) ?_
  show own_Goes _ _ _ _ T8 (mkF m 55 #[.val (.ref a), .val (.ref o), .val (.ref o)] [(.int (0 : Int32))])
  exact own_retN X8 hx hlk (t := .boolean) hrt (by simp) (hb hby own_jdk_42_method_66_55) ⟨rfl, N8, e8⟩ (by decide) (by decide)
set_option maxRecDepth 65536 in
set_option maxHeartbeats 40000000 in
theorem own_is_221 (l : Launch) (Z : State) (a0 : Array Value) (hw : ∀ d ∈ tables_1, d.before a0 Z = true) (ws : List Jvm.Cond) (a : Addr) (tz : Addr) (o : Addr) (ty : Addr) (tx : Addr) (va : Addr) (vb : Addr) (ka : ClassId) (kb : ClassId) (x0 : Int32) (x1 : Int32) (y0 : Int32) (y1 : Int32) (zc : Int32) (h0 : Heap) (n0 : Nat) (Z0 : n0 ≤ h0.size) (F_a_type : Fld Z h0 a "com/example/weaverbird/weaverbird/automaton/HoaLexer$Token" "type" "Lcom/example/weaverbird/weaverbird/automaton/HoaLexer$Type;" (.ref ty)) (F_a_text : Fld Z h0 a "com/example/weaverbird/weaverbird/automaton/HoaLexer$Token" "text" "Ljava/lang/String;" (.ref tx)) (E_tx : Exa Z h0 tx "java/lang/String") (E_o : Exa Z h0 o "java/lang/String") (F_tx_coder : Fld Z h0 tx "java/lang/String" "coder" "B" (.int (0 : Int32))) (F_o_coder : Fld Z h0 o "java/lang/String" "coder" "B" (.int (0 : Int32))) (F_tx_value : Fld Z h0 tx "java/lang/String" "value" "[B" (.ref va)) (F_o_value : Fld Z h0 o "java/lang/String" "value" "[B" (.ref vb)) (V_va : Arv Z h0 va ka .byte (2 : Int32) [(.int x0), (.int x1)] (.int (0 : Int32))) (V_vb : Arv Z h0 vb kb .byte (2 : Int32) [(.int y0), (.int y1)] (.int (0 : Int32))) (S_COMPACT_STRINGS : Sta Z h0 "java/lang/String" "COMPACT_STRINGS" "Z" (.int zc)) (hty : ty = tz) (hq0 : x0 = y0) (hq1 : ¬ (x1 = y1)) (hz : ¬ (zc = (0 : Int32))) (neto : ¬ (tx = o)) :
    own_Met l Z (⟨"com/example/weaverbird/weaverbird/automaton/HoaLexer$Token", "is", "(Lcom/example/weaverbird/weaverbird/automaton/HoaLexer$Type;Ljava/lang/String;)Z"⟩ : MethodName) prog_16_method_2_code 3 (some .boolean) ws ({ frames := 2, cells := 0, slots := 0, locals := 28 } : Room) #[(.ref a), (.ref tz), (.ref o)] h0 (fun v h L => v = some (.int (0 : Int32)) ∧ Fr n0 L ∧ h = h0) := by
  refine own_body (plainFor_of_name own_pn_com_example_weaverbird_weaverbird_automaton_HoaLexer_Token) (fun p e s m below meth c s₁ hx hby hml0 hrt hlk hown0 hnm hZ X0 e0 => ?_)
  have N0 := Fr.nil n0
  have hown : s.vm.findClass "com/example/weaverbird/weaverbird/automaton/HoaLexer$Token" = some m.cls := hown0
  have hml : c.maxLocals = 3 := hml0
  refine own_castG (own_ef9 m a tz o) ?_
  refine own_step (fun t k => XS.aloadN X0.here hx rfl (hb hby own_prog_16_method_2_0) rfl rfl k) ?_
  show own_Goes _ _ _ _ s₁ (mkF m 1 #[.val (.ref a), .val (.ref tz), .val (.ref o)] [(.ref a)])
  obtain ⟨T1, X1, e1, st1⟩ := getF X0 hx hZ hown (host := "") (Or.inl (hw _ (List.mem_of_getElem? (i := 45) rfl))) Via.refl e0 F_a_type (g := (mkF m 1 #[.val (.ref a), .val (.ref tz), .val (.ref o)] [(.ref a)])) rfl rfl (hb hby own_prog_16_method_2_1)
  refine own_step st1 ?_
  refine own_step (fun t k => XS.aloadN X1.here hx rfl (hb hby own_prog_16_method_2_4) rfl rfl k) ?_
  show own_Goes _ _ _ _ T1 (mkF m 5 #[.val (.ref a), .val (.ref tz), .val (.ref o)] [(.ref tz), (.ref ty)])
  refine own_step (fun t k => Jvm.RoadKit.acmp (g := (mkF m 5 #[.val (.ref a), .val (.ref tz), .val (.ref o)] [(.ref tz), (.ref ty)])) X1 hx rfl rfl rfl (pc0 := 5) (pc' := 8) (same := true) rfl (hb hby own_prog_16_method_2_5) rfl (decide_eq_true (congrArg Value.ref hty)) (by decide) (by decide) k) ?_
  refine own_step (fun t k => XS.aloadN X1.here hx rfl (hb hby own_prog_16_method_2_8) rfl rfl k) ?_
  show own_Goes _ _ _ _ T1 (mkF m 9 #[.val (.ref a), .val (.ref tz), .val (.ref o)] [(.ref a)])
  obtain ⟨T2, X2, e2, st2⟩ := getF X1 hx hZ hown (host := "") (Or.inl (hw _ (List.mem_of_getElem? (i := 47) rfl))) Via.refl e1 F_a_text (g := (mkF m 9 #[.val (.ref a), .val (.ref tz), .val (.ref o)] [(.ref a)])) rfl rfl (hb hby own_prog_16_method_2_9)
  refine own_step st2 ?_
  refine own_step (fun t k => XS.aloadN X2.here hx rfl (hb hby own_prog_16_method_2_12) rfl rfl k) ?_
  show own_Goes _ _ _ _ T2 (mkF m 13 #[.val (.ref a), .val (.ref tz), .val (.ref o)] [(.ref o), (.ref tx)])
  refine own_callV X2 hx hZ (y := (⟨"java/lang/String", "equals", "(Ljava/lang/Object;)Z"⟩ : MethodName)) (z := (⟨"java/lang/String", "equals", "(Ljava/lang/Object;)Z"⟩ : MethodName)) hown (hw _ (List.mem_of_getElem? (i := 71) rfl)) (hw _ (List.mem_of_getElem? (i := 72) rfl)) (notFace_of_selects (args := #[]) (mvT hZ (hw _ (List.mem_of_getElem? (i := 74) rfl)))) (hw _ (List.mem_of_getElem? (i := 74) rfl)) (hw _ (List.mem_of_getElem? (i := 73) rfl)) (hw _ (List.mem_of_getElem? (i := 75) rfl)) (hw _ (List.mem_of_getElem? (i := 16) rfl)) (by decide) 0 E_tx [(.ref o)] [] (own_seq_221 l Z a0 hw [] tx o va vb ka kb x0 x1 y0 y1 zc h0 n0 Z0 E_o F_tx_coder F_o_coder F_tx_value F_o_value V_va V_vb S_COMPACT_STRINGS hq0 hq1 hz neto) e2  (by decide) (by decide) (by decide) (by decide) (g := (mkF m 13 #[.val (.ref a), .val (.ref tz), .val (.ref o)] [(.ref o), (.ref tx)])) rfl (by rw [hml]; rfl) own_pd7 rfl rfl (by show 2 * 0 + _ ≤ _; exact Nat.le_of_eq rfl) (hb hby own_prog_16_method_2_13) ?_
  intro T3 v3 L3 X3 hQ3
  obtain ⟨rfl, N3q, e3⟩ := hQ3
  have N3 := Fr.app N0 N3q
  show own_Goes _ _ _ _ T3 (mkF m 16 #[.val (.ref a), .val (.ref tz), .val (.ref o)] [(.int (0 : Int32))])
  refine own_step (fun t k => XS.ifYes X3.here hx rfl (pc0 := 16) (pc' := 23) rfl (hb hby own_prog_16_method_2_16) rfl ((if0 _ _).trans (teq (show (0 : Int32) = (0 : Int32) from (by decide))).1) (by decide) (by decide) k) ?_
  refine own_step (fun t k => XS.iconst X3.here hx rfl (hb hby own_prog_16_method_2_23) k) ?_
  show own_Goes _ _ _ _ T3 (mkF m 24 #[.val (.ref a), .val (.ref tz), .val (.ref o)] [(.int (0 : Int32))])
  exact own_retN X3 hx hlk (t := .boolean) hrt (by simp) (hb hby own_prog_16_method_2_24) ⟨rfl, N3, e3⟩ (by decide) (by decide)
theorem own_ef12 (m : MethodId) (x0 : Int32) (x1 : Int32) (x2 : Int32) (x3 : Int32) (x4 : Int32) (x5 : Int32) : entryFrame m #[(.int x0), (.int x1), (.int x2), (.int x3), (.int x4), (.int x5)] maxLocals = mkF m 0 #[.val (.int x0), .val (.int x1), .val (.int x2), .val (.int x3), .val (.int x4), .val (.int x5), .unset, .unset, .unset, .unset, .unset, .unset, .unset, .unset, .unset, .unset] [] := by first | (simp [entryFrame, mkF, argsToLocals, Value.category, maxLocals]; done) | rfl
theorem own_pd8 : parseMethodDescriptor "(I)Lcom/example/weaverbird/weaverbird/automaton/HoaLexer$Type;" = some ⟨[.int], some (.object "com/example/weaverbird/weaverbird/automaton/HoaLexer$Type")⟩ := by decide +kernel
theorem own_pd9 : parseMethodDescriptor "(ICC)Ljava/lang/String;" = some ⟨[.int, .char, .char], some (.object "java/lang/String")⟩ := by decide +kernel
theorem own_pd10 : parseMethodDescriptor "(Lcom/example/weaverbird/weaverbird/automaton/HoaLexer$Type;Ljava/lang/String;I)V" = some ⟨[(.object "com/example/weaverbird/weaverbird/automaton/HoaLexer$Type"), (.object "java/lang/String"), .int], none⟩ := by decide +kernel
theorem own_pd11 : parseMethodDescriptor "(Lcom/example/weaverbird/weaverbird/automaton/HoaLexer$Type;Ljava/lang/String;)Z" = some ⟨[(.object "com/example/weaverbird/weaverbird/automaton/HoaLexer$Type"), (.object "java/lang/String")], some .boolean⟩ := by decide +kernel
set_option maxRecDepth 65536 in
set_option maxHeartbeats 40000000 in
theorem own_law0 (l : Launch) (Z : State) (a0 : Array Value) (hw : ∀ d ∈ tables_1, d.before a0 Z = true) (ws : List Jvm.Cond) (p1 : Int32) (p2 : Int32) (p3 : Int32) (p4 : Int32) (p5 : Int32) (p6 : Int32) (i1 : Int32) (i2 : Int32) (c0 : Int32) (c1 : Int32) (d0 : Int32) (d1 : Int32) (zc : Int32) (y1 : Addr) (y2 : Addr) (w_HEADER : Addr) (w_IDENTIFIER : Addr) (w_NUMBER : Addr) (w_STRING : Addr) (w_ALIAS : Addr) (w_SYMBOL : Addr) (w_BODY : Addr) (w_END : Addr) (w_ABORT : Addr) (w_EOF : Addr) (la : Int32) (lb : Int32) (h0 : Heap) (n0 : Nat) (Z0 : n0 ≤ h0.size) (S_COMPACT_STRINGS : Sta Z h0 "java/lang/String" "COMPACT_STRINGS" "Z" (.int zc)) (S_HEADER : Sta Z h0 "com/example/weaverbird/weaverbird/automaton/HoaLexer$Type" "HEADER" "Lcom/example/weaverbird/weaverbird/automaton/HoaLexer$Type;" (.ref w_HEADER)) (S_IDENTIFIER : Sta Z h0 "com/example/weaverbird/weaverbird/automaton/HoaLexer$Type" "IDENTIFIER" "Lcom/example/weaverbird/weaverbird/automaton/HoaLexer$Type;" (.ref w_IDENTIFIER)) (S_NUMBER : Sta Z h0 "com/example/weaverbird/weaverbird/automaton/HoaLexer$Type" "NUMBER" "Lcom/example/weaverbird/weaverbird/automaton/HoaLexer$Type;" (.ref w_NUMBER)) (S_STRING : Sta Z h0 "com/example/weaverbird/weaverbird/automaton/HoaLexer$Type" "STRING" "Lcom/example/weaverbird/weaverbird/automaton/HoaLexer$Type;" (.ref w_STRING)) (S_ALIAS : Sta Z h0 "com/example/weaverbird/weaverbird/automaton/HoaLexer$Type" "ALIAS" "Lcom/example/weaverbird/weaverbird/automaton/HoaLexer$Type;" (.ref w_ALIAS)) (S_SYMBOL : Sta Z h0 "com/example/weaverbird/weaverbird/automaton/HoaLexer$Type" "SYMBOL" "Lcom/example/weaverbird/weaverbird/automaton/HoaLexer$Type;" (.ref w_SYMBOL)) (S_BODY : Sta Z h0 "com/example/weaverbird/weaverbird/automaton/HoaLexer$Type" "BODY" "Lcom/example/weaverbird/weaverbird/automaton/HoaLexer$Type;" (.ref w_BODY)) (S_END : Sta Z h0 "com/example/weaverbird/weaverbird/automaton/HoaLexer$Type" "END" "Lcom/example/weaverbird/weaverbird/automaton/HoaLexer$Type;" (.ref w_END)) (S_ABORT : Sta Z h0 "com/example/weaverbird/weaverbird/automaton/HoaLexer$Type" "ABORT" "Lcom/example/weaverbird/weaverbird/automaton/HoaLexer$Type;" (.ref w_ABORT)) (S_EOF : Sta Z h0 "com/example/weaverbird/weaverbird/automaton/HoaLexer$Type" "EOF" "Lcom/example/weaverbird/weaverbird/automaton/HoaLexer$Type;" (.ref w_EOF)) (hz : ¬ (zc = (0 : Int32))) (hi1 : ((p1 &&& (2147483647 : Int32)) - ((p1 &&& (2147483647 : Int32)) / (10 : Int32)) * (10 : Int32)) = i1) (h6t : ¬ ((((p5.toUInt32 >>> ((6 : Int32) &&& 31).toUInt32).toInt32) &&& (1 : Int32)) = (0 : Int32)) → i2 = i1) (h6f : (((p5.toUInt32 >>> ((6 : Int32) &&& 31).toUInt32).toInt32) &&& (1 : Int32)) = (0 : Int32) → i2 = ((p2 &&& (2147483647 : Int32)) - ((p2 &&& (2147483647 : Int32)) / (10 : Int32)) * (10 : Int32))) (hc0e : (p3 &&& (255 : Int32)) = c0) (hc1e : (((p3.toUInt32 >>> ((8 : Int32) &&& 31).toUInt32).toInt32) &&& (255 : Int32)) = c1) (h4t : ¬ ((((p5.toUInt32 >>> ((4 : Int32) &&& 31).toUInt32).toInt32) &&& (1 : Int32)) = (0 : Int32)) → d0 = c0) (h4f : (((p5.toUInt32 >>> ((4 : Int32) &&& 31).toUInt32).toInt32) &&& (1 : Int32)) = (0 : Int32) → d0 = (p4 &&& (255 : Int32))) (h5t : ¬ ((((p5.toUInt32 >>> ((5 : Int32) &&& 31).toUInt32).toInt32) &&& (1 : Int32)) = (0 : Int32)) → d1 = c1) (h5f : (((p5.toUInt32 >>> ((5 : Int32) &&& 31).toUInt32).toInt32) &&& (1 : Int32)) = (0 : Int32) → d1 = (((p4.toUInt32 >>> ((8 : Int32) &&& 31).toUInt32).toInt32) &&& (255 : Int32))) (hc0a : ¬ (c0 < (0 : Int32))) (hc0b : ¬ ((255 : Int32) < c0)) (hc1a : ¬ (c1 < (0 : Int32))) (hc1b : ¬ ((255 : Int32) < c1)) (hd0a : ¬ (d0 < (0 : Int32))) (hd0b : ¬ ((255 : Int32) < d0)) (hd1a : ¬ (d1 < (0 : Int32))) (hd1b : ¬ ((255 : Int32) < d1)) (hy1 : own_typ i1 w_HEADER w_IDENTIFIER w_NUMBER w_STRING w_ALIAS w_SYMBOL w_BODY w_END w_ABORT w_EOF = y1) (hy2 : own_typ i2 w_HEADER w_IDENTIFIER w_NUMBER w_STRING w_ALIAS w_SYMBOL w_BODY w_END w_ABORT w_EOF = y2) (hyeq : i1 = i2 → y1 = y2) (hyne : ¬ (i1 = i2) → ¬ (y1 = y2)) (hla : ((p5 &&& (3 : Int32)) - ((p5 &&& (3 : Int32)) / (3 : Int32)) * (3 : Int32)) = la) (hlb : ((((p5.toUInt32 >>> ((2 : Int32) &&& 31).toUInt32).toInt32) &&& (3 : Int32)) - ((((p5.toUInt32 >>> ((2 : Int32) &&& 31).toUInt32).toInt32) &&& (3 : Int32)) / (3 : Int32)) * (3 : Int32)) = lb) (hlab : (la = (0 : Int32) ∧ lb = (0 : Int32)) ∨ (la = (0 : Int32) ∧ lb = (1 : Int32)) ∨ (la = (0 : Int32) ∧ lb = (2 : Int32)) ∨ (la = (1 : Int32) ∧ lb = (0 : Int32)) ∨ (la = (1 : Int32) ∧ lb = (1 : Int32)) ∨ (la = (1 : Int32) ∧ lb = (2 : Int32)) ∨ (la = (2 : Int32) ∧ lb = (0 : Int32)) ∨ (la = (2 : Int32) ∧ lb = (1 : Int32)) ∨ (la = (2 : Int32) ∧ lb = (2 : Int32))) :
    own_MetW l Z own_EL x code maxLocals ret ws room_1 #[(.int p1), (.int p2), (.int p3), (.int p4), (.int p5), (.int p6)] h0 (fun v h L => v = some (.int 1) ∧ Fr n0 L) := by
  refine own_bodyW (plainFor_of_name own_pn_com_example_weaverbird_weaverbird_automaton_TokenIsPinLaw) (fun p e s m below meth c s₁ hx hby hml0 hrt hlk hown0 hnm hZ X0 e0 HC0 RC0 HS0 => ?_)
  have N0 := Fr.nil n0
  have hown : (s.setVm s.vm).vm.findClass "com/example/weaverbird/weaverbird/automaton/TokenIsPinLaw" = some m.cls := hown0
  have hml : c.maxLocals = 16 := hml0
  refine own_castG (own_ef12 m p1 p2 p3 p4 p5 p6) ?_
  have hEL := own_hEL hw
  refine own_step (fun t k => XS.iloadN X0.here hx rfl (hb hby at_0) rfl k) ?_
  show own_Goes _ _ _ _ s₁ (mkF m 1 #[.val (.int p1), .val (.int p2), .val (.int p3), .val (.int p4), .val (.int p5), .val (.int p6), .unset, .unset, .unset, .unset, .unset, .unset, .unset, .unset, .unset, .unset] [(.int p1)])
  refine own_step (X0.ldcInt hx hown (mvT hZ (hw _ (List.mem_of_getElem? (i := 0) rfl))) (g := (mkF m 1 #[.val (.int p1), .val (.int p2), .val (.int p3), .val (.int p4), .val (.int p5), .val (.int p6), .unset, .unset, .unset, .unset, .unset, .unset, .unset, .unset, .unset, .unset] [(.int p1)])) rfl (hb hby at_1)) ?_
  refine own_step (fun t k => XS.iand X0.here hx rfl (hb hby at_3) rfl k) ?_
  refine own_step (fun t k => XS.bipush X0.here hx rfl (hb hby at_4) k) ?_
  show own_Goes _ _ _ _ s₁ (mkF m 6 #[.val (.int p1), .val (.int p2), .val (.int p3), .val (.int p4), .val (.int p5), .val (.int p6), .unset, .unset, .unset, .unset, .unset, .unset, .unset, .unset, .unset, .unset] [(.int (10 : Int32)), (.int (p1 &&& (2147483647 : Int32)))])
  refine own_step (fun t k => XS.irem X0.here hx rfl (hb hby at_6) rfl (by decide) k) ?_
  show own_Goes _ _ _ _ s₁ (mkF m 7 #[.val (.int p1), .val (.int p2), .val (.int p3), .val (.int p4), .val (.int p5), .val (.int p6), .unset, .unset, .unset, .unset, .unset, .unset, .unset, .unset, .unset, .unset] [(.int ((p1 &&& (2147483647 : Int32)) - ((p1 &&& (2147483647 : Int32)) / (10 : Int32)) * (10 : Int32)))])
  rw [hi1]
  show own_Goes _ _ _ _ s₁ (mkF m 7 #[.val (.int p1), .val (.int p2), .val (.int p3), .val (.int p4), .val (.int p5), .val (.int p6), .unset, .unset, .unset, .unset, .unset, .unset, .unset, .unset, .unset, .unset] [(.int i1)])
  refine own_step (fun t k => XS.istore X0.here hx rfl (hb hby at_7) rfl (l' := #[.val (.int p1), .val (.int p2), .val (.int p3), .val (.int p4), .val (.int p5), .val (.int p6), .val (.int i1), .unset, .unset, .unset, .unset, .unset, .unset, .unset, .unset, .unset]) rfl k) ?_
  refine own_step (fun t k => XS.iload X0.here hx rfl (hb hby at_9) rfl k) ?_
  refine own_step (fun t k => XS.bipush X0.here hx rfl (hb hby at_11) k) ?_
  refine own_step (fun t k => XS.iushr X0.here hx rfl (hb hby at_13) rfl k) ?_
  refine own_step (fun t k => XS.iconst X0.here hx rfl (hb hby at_14) k) ?_
  show own_Goes _ _ _ _ s₁ (mkF m 15 #[.val (.int p1), .val (.int p2), .val (.int p3), .val (.int p4), .val (.int p5), .val (.int p6), .val (.int i1), .unset, .unset, .unset, .unset, .unset, .unset, .unset, .unset, .unset] [(.int (1 : Int32)), (.int ((p5.toUInt32 >>> ((6 : Int32) &&& 31).toUInt32).toInt32))])
  refine own_step (fun t k => XS.iand X0.here hx rfl (hb hby at_15) rfl k) ?_
  show own_Goes _ _ _ _ s₁ (mkF m 16 #[.val (.int p1), .val (.int p2), .val (.int p3), .val (.int p4), .val (.int p5), .val (.int p6), .val (.int i1), .unset, .unset, .unset, .unset, .unset, .unset, .unset, .unset, .unset] [(.int (((p5.toUInt32 >>> ((6 : Int32) &&& 31).toUInt32).toInt32) &&& (1 : Int32)))])
  have tail31 : own_Goes p e below (own_KW s Z own_EL (fun v h L => v = some (.int 1) ∧ Fr n0 L) room_1.cells room_1.slots) s₁ (mkF m 31 #[.val (.int p1), .val (.int p2), .val (.int p3), .val (.int p4), .val (.int p5), .val (.int p6), .val (.int i1), .unset, .unset, .unset, .unset, .unset, .unset, .unset, .unset, .unset] [(.int i2)]) := by
    refine own_step (fun t k => XS.istore X0.here hx rfl (hb hby at_31) rfl (l' := #[.val (.int p1), .val (.int p2), .val (.int p3), .val (.int p4), .val (.int p5), .val (.int p6), .val (.int i1), .val (.int i2), .unset, .unset, .unset, .unset, .unset, .unset, .unset, .unset]) rfl k) ?_
    refine own_step (fun t k => XS.iloadN X0.here hx rfl (hb hby at_33) rfl k) ?_
    refine own_step (fun t k => XS.sipush X0.here hx rfl (hb hby at_34) k) ?_
    refine own_step (fun t k => XS.iand X0.here hx rfl (hb hby at_37) rfl k) ?_
    refine own_step (fun t k => XS.i2c X0.here hx rfl (hb hby at_38) rfl k) ?_
    show own_Goes _ _ _ _ s₁ (mkF m 39 #[.val (.int p1), .val (.int p2), .val (.int p3), .val (.int p4), .val (.int p5), .val (.int p6), .val (.int i1), .val (.int i2), .unset, .unset, .unset, .unset, .unset, .unset, .unset, .unset] [(.int ((p3 &&& (255 : Int32)).toUInt32.toUInt16.toUInt32.toInt32))])
    rw [own_i2c, hc0e]
    show own_Goes _ _ _ _ s₁ (mkF m 39 #[.val (.int p1), .val (.int p2), .val (.int p3), .val (.int p4), .val (.int p5), .val (.int p6), .val (.int i1), .val (.int i2), .unset, .unset, .unset, .unset, .unset, .unset, .unset, .unset] [(.int c0)])
    refine own_step (fun t k => XS.istore X0.here hx rfl (hb hby at_39) rfl (l' := #[.val (.int p1), .val (.int p2), .val (.int p3), .val (.int p4), .val (.int p5), .val (.int p6), .val (.int i1), .val (.int i2), .val (.int c0), .unset, .unset, .unset, .unset, .unset, .unset, .unset]) rfl k) ?_
    refine own_step (fun t k => XS.iloadN X0.here hx rfl (hb hby at_41) rfl k) ?_
    refine own_step (fun t k => XS.bipush X0.here hx rfl (hb hby at_42) k) ?_
    refine own_step (fun t k => XS.iushr X0.here hx rfl (hb hby at_44) rfl k) ?_
    refine own_step (fun t k => XS.sipush X0.here hx rfl (hb hby at_45) k) ?_
    show own_Goes _ _ _ _ s₁ (mkF m 48 #[.val (.int p1), .val (.int p2), .val (.int p3), .val (.int p4), .val (.int p5), .val (.int p6), .val (.int i1), .val (.int i2), .val (.int c0), .unset, .unset, .unset, .unset, .unset, .unset, .unset] [(.int (255 : Int32)), (.int ((p3.toUInt32 >>> ((8 : Int32) &&& 31).toUInt32).toInt32))])
    refine own_step (fun t k => XS.iand X0.here hx rfl (hb hby at_48) rfl k) ?_
    refine own_step (fun t k => XS.i2c X0.here hx rfl (hb hby at_49) rfl k) ?_
    show own_Goes _ _ _ _ s₁ (mkF m 50 #[.val (.int p1), .val (.int p2), .val (.int p3), .val (.int p4), .val (.int p5), .val (.int p6), .val (.int i1), .val (.int i2), .val (.int c0), .unset, .unset, .unset, .unset, .unset, .unset, .unset] [(.int ((((p3.toUInt32 >>> ((8 : Int32) &&& 31).toUInt32).toInt32) &&& (255 : Int32)).toUInt32.toUInt16.toUInt32.toInt32))])
    rw [own_i2c, hc1e]
    show own_Goes _ _ _ _ s₁ (mkF m 50 #[.val (.int p1), .val (.int p2), .val (.int p3), .val (.int p4), .val (.int p5), .val (.int p6), .val (.int i1), .val (.int i2), .val (.int c0), .unset, .unset, .unset, .unset, .unset, .unset, .unset] [(.int c1)])
    refine own_step (fun t k => XS.istore X0.here hx rfl (hb hby at_50) rfl (l' := #[.val (.int p1), .val (.int p2), .val (.int p3), .val (.int p4), .val (.int p5), .val (.int p6), .val (.int i1), .val (.int i2), .val (.int c0), .val (.int c1), .unset, .unset, .unset, .unset, .unset, .unset]) rfl k) ?_
    refine own_step (fun t k => XS.iload X0.here hx rfl (hb hby at_52) rfl k) ?_
    refine own_step (fun t k => XS.iconst X0.here hx rfl (hb hby at_54) k) ?_
    refine own_step (fun t k => XS.iushr X0.here hx rfl (hb hby at_55) rfl k) ?_
    refine own_step (fun t k => XS.iconst X0.here hx rfl (hb hby at_56) k) ?_
    show own_Goes _ _ _ _ s₁ (mkF m 57 #[.val (.int p1), .val (.int p2), .val (.int p3), .val (.int p4), .val (.int p5), .val (.int p6), .val (.int i1), .val (.int i2), .val (.int c0), .val (.int c1), .unset, .unset, .unset, .unset, .unset, .unset] [(.int (1 : Int32)), (.int ((p5.toUInt32 >>> ((4 : Int32) &&& 31).toUInt32).toInt32))])
    refine own_step (fun t k => XS.iand X0.here hx rfl (hb hby at_57) rfl k) ?_
    show own_Goes _ _ _ _ s₁ (mkF m 58 #[.val (.int p1), .val (.int p2), .val (.int p3), .val (.int p4), .val (.int p5), .val (.int p6), .val (.int i1), .val (.int i2), .val (.int c0), .val (.int c1), .unset, .unset, .unset, .unset, .unset, .unset] [(.int (((p5.toUInt32 >>> ((4 : Int32) &&& 31).toUInt32).toInt32) &&& (1 : Int32)))])
    have tail72 : own_Goes p e below (own_KW s Z own_EL (fun v h L => v = some (.int 1) ∧ Fr n0 L) room_1.cells room_1.slots) s₁ (mkF m 72 #[.val (.int p1), .val (.int p2), .val (.int p3), .val (.int p4), .val (.int p5), .val (.int p6), .val (.int i1), .val (.int i2), .val (.int c0), .val (.int c1), .unset, .unset, .unset, .unset, .unset, .unset] [(.int d0)]) := by
      refine own_step (fun t k => XS.istore X0.here hx rfl (hb hby at_72) rfl (l' := #[.val (.int p1), .val (.int p2), .val (.int p3), .val (.int p4), .val (.int p5), .val (.int p6), .val (.int i1), .val (.int i2), .val (.int c0), .val (.int c1), .val (.int d0), .unset, .unset, .unset, .unset, .unset]) rfl k) ?_
      refine own_step (fun t k => XS.iload X0.here hx rfl (hb hby at_74) rfl k) ?_
      refine own_step (fun t k => XS.iconst X0.here hx rfl (hb hby at_76) k) ?_
      refine own_step (fun t k => XS.iushr X0.here hx rfl (hb hby at_77) rfl k) ?_
      refine own_step (fun t k => XS.iconst X0.here hx rfl (hb hby at_78) k) ?_
      show own_Goes _ _ _ _ s₁ (mkF m 79 #[.val (.int p1), .val (.int p2), .val (.int p3), .val (.int p4), .val (.int p5), .val (.int p6), .val (.int i1), .val (.int i2), .val (.int c0), .val (.int c1), .val (.int d0), .unset, .unset, .unset, .unset, .unset] [(.int (1 : Int32)), (.int ((p5.toUInt32 >>> ((5 : Int32) &&& 31).toUInt32).toInt32))])
      refine own_step (fun t k => XS.iand X0.here hx rfl (hb hby at_79) rfl k) ?_
      show own_Goes _ _ _ _ s₁ (mkF m 80 #[.val (.int p1), .val (.int p2), .val (.int p3), .val (.int p4), .val (.int p5), .val (.int p6), .val (.int i1), .val (.int i2), .val (.int c0), .val (.int c1), .val (.int d0), .unset, .unset, .unset, .unset, .unset] [(.int (((p5.toUInt32 >>> ((5 : Int32) &&& 31).toUInt32).toInt32) &&& (1 : Int32)))])
      have tail97 : own_Goes p e below (own_KW s Z own_EL (fun v h L => v = some (.int 1) ∧ Fr n0 L) room_1.cells room_1.slots) s₁ (mkF m 97 #[.val (.int p1), .val (.int p2), .val (.int p3), .val (.int p4), .val (.int p5), .val (.int p6), .val (.int i1), .val (.int i2), .val (.int c0), .val (.int c1), .val (.int d0), .unset, .unset, .unset, .unset, .unset] [(.int d1)]) := by
        refine own_step (fun t k => XS.istore X0.here hx rfl (hb hby at_97) rfl (l' := #[.val (.int p1), .val (.int p2), .val (.int p3), .val (.int p4), .val (.int p5), .val (.int p6), .val (.int i1), .val (.int i2), .val (.int c0), .val (.int c1), .val (.int d0), .val (.int d1), .unset, .unset, .unset, .unset]) rfl k) ?_
        refine own_step (fun t k => XS.iload X0.here hx rfl (hb hby at_99) rfl k) ?_
        refine own_step (fun t k => XS.iconst X0.here hx rfl (hb hby at_101) k) ?_
        refine own_step (fun t k => XS.iand X0.here hx rfl (hb hby at_102) rfl k) ?_
        refine own_step (fun t k => XS.iconst X0.here hx rfl (hb hby at_103) k) ?_
        show own_Goes _ _ _ _ s₁ (mkF m 104 #[.val (.int p1), .val (.int p2), .val (.int p3), .val (.int p4), .val (.int p5), .val (.int p6), .val (.int i1), .val (.int i2), .val (.int c0), .val (.int c1), .val (.int d0), .val (.int d1), .unset, .unset, .unset, .unset] [(.int (3 : Int32)), (.int (p5 &&& (3 : Int32)))])
        refine own_step (fun t k => XS.irem X0.here hx rfl (hb hby at_104) rfl (by decide) k) ?_
        show own_Goes _ _ _ _ s₁ (mkF m 105 #[.val (.int p1), .val (.int p2), .val (.int p3), .val (.int p4), .val (.int p5), .val (.int p6), .val (.int i1), .val (.int i2), .val (.int c0), .val (.int c1), .val (.int d0), .val (.int d1), .unset, .unset, .unset, .unset] [(.int ((p5 &&& (3 : Int32)) - ((p5 &&& (3 : Int32)) / (3 : Int32)) * (3 : Int32)))])
        rw [hla]
        show own_Goes _ _ _ _ s₁ (mkF m 105 #[.val (.int p1), .val (.int p2), .val (.int p3), .val (.int p4), .val (.int p5), .val (.int p6), .val (.int i1), .val (.int i2), .val (.int c0), .val (.int c1), .val (.int d0), .val (.int d1), .unset, .unset, .unset, .unset] [(.int la)])
        refine own_step (fun t k => XS.istore X0.here hx rfl (hb hby at_105) rfl (l' := #[.val (.int p1), .val (.int p2), .val (.int p3), .val (.int p4), .val (.int p5), .val (.int p6), .val (.int i1), .val (.int i2), .val (.int c0), .val (.int c1), .val (.int d0), .val (.int d1), .val (.int la), .unset, .unset, .unset]) rfl k) ?_
        refine own_step (fun t k => XS.iload X0.here hx rfl (hb hby at_107) rfl k) ?_
        refine own_step (fun t k => XS.iconst X0.here hx rfl (hb hby at_109) k) ?_
        refine own_step (fun t k => XS.iushr X0.here hx rfl (hb hby at_110) rfl k) ?_
        refine own_step (fun t k => XS.iconst X0.here hx rfl (hb hby at_111) k) ?_
        show own_Goes _ _ _ _ s₁ (mkF m 112 #[.val (.int p1), .val (.int p2), .val (.int p3), .val (.int p4), .val (.int p5), .val (.int p6), .val (.int i1), .val (.int i2), .val (.int c0), .val (.int c1), .val (.int d0), .val (.int d1), .val (.int la), .unset, .unset, .unset] [(.int (3 : Int32)), (.int ((p5.toUInt32 >>> ((2 : Int32) &&& 31).toUInt32).toInt32))])
        refine own_step (fun t k => XS.iand X0.here hx rfl (hb hby at_112) rfl k) ?_
        refine own_step (fun t k => XS.iconst X0.here hx rfl (hb hby at_113) k) ?_
        show own_Goes _ _ _ _ s₁ (mkF m 114 #[.val (.int p1), .val (.int p2), .val (.int p3), .val (.int p4), .val (.int p5), .val (.int p6), .val (.int i1), .val (.int i2), .val (.int c0), .val (.int c1), .val (.int d0), .val (.int d1), .val (.int la), .unset, .unset, .unset] [(.int (3 : Int32)), (.int (((p5.toUInt32 >>> ((2 : Int32) &&& 31).toUInt32).toInt32) &&& (3 : Int32)))])
        refine own_step (fun t k => XS.irem X0.here hx rfl (hb hby at_114) rfl (by decide) k) ?_
        show own_Goes _ _ _ _ s₁ (mkF m 115 #[.val (.int p1), .val (.int p2), .val (.int p3), .val (.int p4), .val (.int p5), .val (.int p6), .val (.int i1), .val (.int i2), .val (.int c0), .val (.int c1), .val (.int d0), .val (.int d1), .val (.int la), .unset, .unset, .unset] [(.int ((((p5.toUInt32 >>> ((2 : Int32) &&& 31).toUInt32).toInt32) &&& (3 : Int32)) - ((((p5.toUInt32 >>> ((2 : Int32) &&& 31).toUInt32).toInt32) &&& (3 : Int32)) / (3 : Int32)) * (3 : Int32)))])
        rw [hlb]
        show own_Goes _ _ _ _ s₁ (mkF m 115 #[.val (.int p1), .val (.int p2), .val (.int p3), .val (.int p4), .val (.int p5), .val (.int p6), .val (.int i1), .val (.int i2), .val (.int c0), .val (.int c1), .val (.int d0), .val (.int d1), .val (.int la), .unset, .unset, .unset] [(.int lb)])
        refine own_step (fun t k => XS.istore X0.here hx rfl (hb hby at_115) rfl (l' := #[.val (.int p1), .val (.int p2), .val (.int p3), .val (.int p4), .val (.int p5), .val (.int p6), .val (.int i1), .val (.int i2), .val (.int c0), .val (.int c1), .val (.int d0), .val (.int d1), .val (.int la), .val (.int lb), .unset, .unset]) rfl k) ?_
        show own_Goes _ _ _ _ s₁ (mkF m 117 #[.val (.int p1), .val (.int p2), .val (.int p3), .val (.int p4), .val (.int p5), .val (.int p6), .val (.int i1), .val (.int i2), .val (.int c0), .val (.int c1), .val (.int d0), .val (.int d1), .val (.int la), .val (.int lb), .unset, .unset] [])
        rcases hlab with ⟨rfl, rfl⟩ | ⟨rfl, rfl⟩ | ⟨rfl, rfl⟩ | ⟨rfl, rfl⟩ | ⟨rfl, rfl⟩ | ⟨rfl, rfl⟩ | ⟨rfl, rfl⟩ | ⟨rfl, rfl⟩ | ⟨rfl, rfl⟩
        · show own_Goes _ _ _ _ s₁ (mkF m 117 #[.val (.int p1), .val (.int p2), .val (.int p3), .val (.int p4), .val (.int p5), .val (.int p6), .val (.int i1), .val (.int i2), .val (.int c0), .val (.int c1), .val (.int d0), .val (.int d1), .val (.int (0 : Int32)), .val (.int (0 : Int32)), .unset, .unset] [])
          obtain ⟨T1, h1, X1, e1, E1, A1, D1, -, st1⟩ := newO X0 hx hZ hown (hw _ (List.mem_of_getElem? (i := 1) rfl)) (hw _ (List.mem_of_getElem? (i := 2) rfl)) (hw _ (List.mem_of_getElem? (i := 3) rfl)) e0 (g := (mkF m 117 #[.val (.int p1), .val (.int p2), .val (.int p3), .val (.int p4), .val (.int p5), .val (.int p6), .val (.int i1), .val (.int i2), .val (.int c0), .val (.int c1), .val (.int d0), .val (.int d1), .val (.int (0 : Int32)), .val (.int (0 : Int32)), .unset, .unset] [])) rfl (hb hby at_117) (by decide) (by decide)
          obtain ⟨b1, g1⟩ : ∃ z, z = h0.size := ⟨_, rfl⟩
          rw [← g1] at A1 D1 st1
          refine own_step st1 ?_
          have g_b1 : n0 ≤ b1 := Nat.le_trans Z0 (Nat.le_of_eq g1.symm)
          have sz_b1 : h0.size ≤ b1 := Nat.le_trans (Keep.refl h0 []).1 (Nat.le_of_eq g1.symm)
          have K1 := (Keep.refl h0 []).ext E1
          have RC1 := RC0.trans (CHr.ext E1 HC0)
          have HC1 := CHv.ext E1 HC0
          have F_b1_type : Fld Z h1 b1 "com/example/weaverbird/weaverbird/automaton/HoaLexer$Token" "type" "Lcom/example/weaverbird/weaverbird/automaton/HoaLexer$Type;" .null := D1 (Or.inr (hw _ (List.mem_of_getElem? (i := 46) rfl))) (ty := (.object "com/example/weaverbird/weaverbird/automaton/HoaLexer$Type")) (by decide)
          have F_b1_text : Fld Z h1 b1 "com/example/weaverbird/weaverbird/automaton/HoaLexer$Token" "text" "Ljava/lang/String;" .null := D1 (Or.inr (hw _ (List.mem_of_getElem? (i := 48) rfl))) (ty := (.object "java/lang/String")) (by decide)
          have F_b1_line : Fld Z h1 b1 "com/example/weaverbird/weaverbird/automaton/HoaLexer$Token" "line" "I" (.int (0 : Int32)) := D1 (Or.inr (hw _ (List.mem_of_getElem? (i := 50) rfl))) (ty := .int) (by decide)
          refine own_step (fun t k => XS.dup X1.here hx rfl (hb hby at_120) rfl rfl k) ?_
          refine own_step (fun t k => XS.iload X1.here hx rfl (hb hby at_121) rfl k) ?_
          show own_Goes _ _ _ _ T1 (mkF m 123 #[.val (.int p1), .val (.int p2), .val (.int p3), .val (.int p4), .val (.int p5), .val (.int p6), .val (.int i1), .val (.int i2), .val (.int c0), .val (.int c1), .val (.int d0), .val (.int d1), .val (.int (0 : Int32)), .val (.int (0 : Int32)), .unset, .unset] [(.int i1), (.ref b1), (.ref b1)])
          have S_HEADER_v2 := (S_HEADER.ext E1)
          have S_IDENTIFIER_v3 := (S_IDENTIFIER.ext E1)
          have S_NUMBER_v4 := (S_NUMBER.ext E1)
          have S_STRING_v5 := (S_STRING.ext E1)
          have S_ALIAS_v6 := (S_ALIAS.ext E1)
          have S_SYMBOL_v7 := (S_SYMBOL.ext E1)
          have S_BODY_v8 := (S_BODY.ext E1)
          have S_END_v9 := (S_END.ext E1)
          have S_ABORT_v10 := (S_ABORT.ext E1)
          have S_EOF_v11 := (S_EOF.ext E1)
          refine own_callS X1 hx hZ (y := (⟨"com/example/weaverbird/weaverbird/automaton/TokenIsPinLaw", "type", "(I)Lcom/example/weaverbird/weaverbird/automaton/HoaLexer$Type;"⟩ : MethodName)) hown (hw _ (List.mem_of_getElem? (i := 4) rfl)) (hw _ (List.mem_of_getElem? (i := 5) rfl)) (hw _ (List.mem_of_getElem? (i := 6) rfl)) (hw _ (List.mem_of_getElem? (i := 7) rfl)) (by decide) 2 [(.int i1)] [(.ref b1), (.ref b1)] (own_type l Z a0 hw [] i1 y1 w_HEADER w_IDENTIFIER w_NUMBER w_STRING w_ALIAS w_SYMBOL w_BODY w_END w_ABORT w_EOF h1 n0 (Nat.le_trans Z0 K1.1) S_HEADER_v2 S_IDENTIFIER_v3 S_NUMBER_v4 S_STRING_v5 S_ALIAS_v6 S_SYMBOL_v7 S_BODY_v8 S_END_v9 S_ABORT_v10 S_EOF_v11 hy1) e1  (by decide) (by decide) (by decide) (by decide) (g := (mkF m 123 #[.val (.int p1), .val (.int p2), .val (.int p3), .val (.int p4), .val (.int p5), .val (.int p6), .val (.int i1), .val (.int i2), .val (.int c0), .val (.int c1), .val (.int d0), .val (.int d1), .val (.int (0 : Int32)), .val (.int (0 : Int32)), .unset, .unset] [(.int i1), (.ref b1), (.ref b1)])) rfl (by rw [hml]; rfl) own_pd8 rfl rfl (by show 2 * 0 + _ ≤ _; exact Nat.le_of_eq rfl) (hb hby at_123) ?_
          intro T12 v12 L12 X12 hQ12
          obtain ⟨rfl, N12q, e12⟩ := hQ12
          have N12 := Fr.app N0 N12q
          refine own_step (fun t k => XS.iload X12.here hx rfl (hb hby at_126) rfl k) ?_
          refine own_step (fun t k => XS.iload X12.here hx rfl (hb hby at_128) rfl k) ?_
          refine own_step (fun t k => XS.iload X12.here hx rfl (hb hby at_130) rfl k) ?_
          show own_Goes _ _ _ _ T12 (mkF m 132 #[.val (.int p1), .val (.int p2), .val (.int p3), .val (.int p4), .val (.int p5), .val (.int p6), .val (.int i1), .val (.int i2), .val (.int c0), .val (.int c1), .val (.int d0), .val (.int d1), .val (.int (0 : Int32)), .val (.int (0 : Int32)), .unset, .unset] [(.int c1), (.int c0), (.int (0 : Int32)), (.ref y1), (.ref b1), (.ref b1)])
          refine own_callSW X12 hx hZ (y := (⟨"com/example/weaverbird/weaverbird/automaton/TokenIsPinLaw", "str", "(ICC)Ljava/lang/String;"⟩ : MethodName)) hown (hw _ (List.mem_of_getElem? (i := 11) rfl)) (hw _ (List.mem_of_getElem? (i := 12) rfl)) (hw _ (List.mem_of_getElem? (i := 6) rfl)) (hw _ (List.mem_of_getElem? (i := 13) rfl)) (by decide) 3 [(.int (0 : Int32)), (.int c0), (.int c1)] [(.ref y1), (.ref b1), (.ref b1)] (own_str0 l Z a0 hw [] c0 c1 h1 n0 (Nat.le_trans Z0 K1.1) ) e12  hEL HC1 HS0 (Nat.le_trans (Nat.le_refl _) E1.1) (by decide) (by decide) (by decide) (by decide) (g := (mkF m 132 #[.val (.int p1), .val (.int p2), .val (.int p3), .val (.int p4), .val (.int p5), .val (.int p6), .val (.int i1), .val (.int i2), .val (.int c0), .val (.int c1), .val (.int d0), .val (.int d1), .val (.int (0 : Int32)), .val (.int (0 : Int32)), .unset, .unset] [(.int c1), (.int c0), (.int (0 : Int32)), (.ref y1), (.ref b1), (.ref b1)])) rfl (by rw [hml]; rfl) own_pd9 rfl rfl (by show 2 * 0 + _ ≤ _; exact Nat.le_of_eq rfl) (hb hby at_132) ?_
          intro T13 v13 L13 X13 HS13 hZ hown CR13 hQ13
          have RC13 := RC1.trans CR13
          have HC13 := CR13.1
          obtain ⟨b13_0, f13_0, k13_0, rfl, N13q, Kq13, zq13_0, q13_0, q13_1, q13_2, q13_3⟩ := hQ13
          have N13 := Fr.app N12 N13q
          have K13 := K1.trans Kq13 all0
          have g_b13_0 : n0 ≤ b13_0 := Nat.le_trans (Nat.le_trans Z0 K1.1) zq13_0
          have sz_b13_0 : h0.size ≤ b13_0 := Nat.le_trans K1.1 zq13_0
          have ne_b1_b13_0 : b1 ≠ b13_0 := Nat.ne_of_lt (Nat.lt_of_lt_of_le A1.lt zq13_0)
          have q13_0' : Exa Z T13.heap b13_0 "java/lang/String" := q13_0
          have q13_1' : Fld Z T13.heap b13_0 "java/lang/String" "coder" "B" (.int (0 : Int32)) := q13_1
          have q13_2' : Fld Z T13.heap b13_0 "java/lang/String" "value" "[B" (.ref f13_0) := q13_2
          have q13_3' : Arv Z T13.heap f13_0 k13_0 .byte (0 : Int32) [] (.int (0 : Int32)) := q13_3
          have A1_v14 := (A1.keep Kq13)
          have ne_b1_f13_0 : b1 ≠ f13_0 := Exa.neArv A1_v14 q13_3' (hw _ (List.mem_of_getElem? (i := 2) rfl))
          have ne_b13_0_f13_0 : b13_0 ≠ f13_0 := Exa.neArv q13_0' q13_3' (hw _ (List.mem_of_getElem? (i := 15) rfl))
          refine own_step (fun t k => XS.iload X13.here hx rfl (hb hby at_135) rfl k) ?_
          show own_Goes _ _ _ _ T13 (mkF m 137 #[.val (.int p1), .val (.int p2), .val (.int p3), .val (.int p4), .val (.int p5), .val (.int p6), .val (.int i1), .val (.int i2), .val (.int c0), .val (.int c1), .val (.int d0), .val (.int d1), .val (.int (0 : Int32)), .val (.int (0 : Int32)), .unset, .unset] [(.int p6), (.ref b13_0), (.ref y1), (.ref b1), (.ref b1)])
          have F_b1_type_v15 := (F_b1_type.keep Kq13 nin0)
          have F_b1_text_v16 := (F_b1_text.keep Kq13 nin0)
          have F_b1_line_v17 := (F_b1_line.keep Kq13 nin0)
          refine own_callC X13 hx hZ (y := (⟨"com/example/weaverbird/weaverbird/automaton/HoaLexer$Token", "<init>", "(Lcom/example/weaverbird/weaverbird/automaton/HoaLexer$Type;Ljava/lang/String;I)V"⟩ : MethodName)) rfl hown (hw _ (List.mem_of_getElem? (i := 36) rfl)) (hw _ (List.mem_of_getElem? (i := 37) rfl)) (hw _ (List.mem_of_getElem? (i := 38) rfl)) (hw _ (List.mem_of_getElem? (i := 3) rfl)) (by decide) 1 (a := b1) [(.ref y1), (.ref b13_0), (.int p6)] [(.ref b1)] (own_tinit l Z a0 hw [] b1 y1 b13_0 p6 T13.heap n0 (Nat.le_trans Z0 K13.1) A1_v14 F_b1_type_v15 F_b1_text_v16 F_b1_line_v17 g_b1) rfl  (by decide) (by decide) (by decide) (by decide) (g := (mkF m 137 #[.val (.int p1), .val (.int p2), .val (.int p3), .val (.int p4), .val (.int p5), .val (.int p6), .val (.int i1), .val (.int i2), .val (.int c0), .val (.int c1), .val (.int d0), .val (.int d1), .val (.int (0 : Int32)), .val (.int (0 : Int32)), .unset, .unset] [(.int p6), (.ref b13_0), (.ref y1), (.ref b1), (.ref b1)])) rfl (by rw [hml]; rfl) own_pd10 rfl rfl (by show 2 * 0 + _ ≤ _; exact Nat.le_of_eq rfl) (hb hby at_137) ?_
          intro T18 v18 L18 X18 hQ18
          obtain ⟨rfl, N18q, Kq18, q18_0, q18_1, q18_2⟩ := hQ18
          have N18 := Fr.app N13 N18q
          have K18 := K13.trans Kq18 (allS (Or.inr sz_b1) all0)
          have RC18 := RC13.trans (CHr.keep Kq18 (allS (Safe.exa hZ.alike A1_v14 (by decide) (by decide)) all0) HC13)
          have HC18 := CHv.keep Kq18 (allS (Safe.exa hZ.alike A1_v14 (by decide) (by decide)) all0) HC13
          have q18_0' : Exa Z T18.heap b1 "com/example/weaverbird/weaverbird/automaton/HoaLexer$Token" := q18_0
          have q18_1' : Fld Z T18.heap b1 "com/example/weaverbird/weaverbird/automaton/HoaLexer$Token" "type" "Lcom/example/weaverbird/weaverbird/automaton/HoaLexer$Type;" (.ref y1) := q18_1
          have q18_2' : Fld Z T18.heap b1 "com/example/weaverbird/weaverbird/automaton/HoaLexer$Token" "text" "Ljava/lang/String;" (.ref b13_0) := q18_2
          refine own_step (fun t k => XS.astore X18.here hx rfl (hb hby at_140) rfl rfl (l' := #[.val (.int p1), .val (.int p2), .val (.int p3), .val (.int p4), .val (.int p5), .val (.int p6), .val (.int i1), .val (.int i2), .val (.int c0), .val (.int c1), .val (.int d0), .val (.int d1), .val (.int (0 : Int32)), .val (.int (0 : Int32)), .val (.ref b1), .unset]) rfl k) ?_
          refine own_step (fun t k => XS.iload X18.here hx rfl (hb hby at_142) rfl k) ?_
          refine own_step (fun t k => XS.iload X18.here hx rfl (hb hby at_144) rfl k) ?_
          show own_Goes _ _ _ _ T18 (mkF m 146 #[.val (.int p1), .val (.int p2), .val (.int p3), .val (.int p4), .val (.int p5), .val (.int p6), .val (.int i1), .val (.int i2), .val (.int c0), .val (.int c1), .val (.int d0), .val (.int d1), .val (.int (0 : Int32)), .val (.int (0 : Int32)), .val (.ref b1), .unset] [(.int i2), (.int i1)])
          by_cases hc146_19 : i1 = i2
          · refine own_step (fun t k => XS.icmpNo X18.here hx rfl (hb hby at_146) rfl (teq (show i1 = i2 from hc146_19)).2 k) ?_
            refine own_step (fun t k => XS.iload X18.here hx rfl (hb hby at_149) rfl k) ?_
            refine own_step (fun t k => XS.iload X18.here hx rfl (hb hby at_151) rfl k) ?_
            show own_Goes _ _ _ _ T18 (mkF m 153 #[.val (.int p1), .val (.int p2), .val (.int p3), .val (.int p4), .val (.int p5), .val (.int p6), .val (.int i1), .val (.int i2), .val (.int c0), .val (.int c1), .val (.int d0), .val (.int d1), .val (.int (0 : Int32)), .val (.int (0 : Int32)), .val (.ref b1), .unset] [(.int (0 : Int32)), (.int (0 : Int32))])
            refine own_step (fun t k => XS.icmpNo X18.here hx rfl (hb hby at_153) rfl (teq (show (0 : Int32) = (0 : Int32) from (by decide))).2 k) ?_
            refine own_step (fun t k => XS.iload X18.here hx rfl (hb hby at_156) rfl k) ?_
            refine own_step (fun t k => XS.iconst X18.here hx rfl (hb hby at_158) k) ?_
            show own_Goes _ _ _ _ T18 (mkF m 159 #[.val (.int p1), .val (.int p2), .val (.int p3), .val (.int p4), .val (.int p5), .val (.int p6), .val (.int i1), .val (.int i2), .val (.int c0), .val (.int c1), .val (.int d0), .val (.int d1), .val (.int (0 : Int32)), .val (.int (0 : Int32)), .val (.ref b1), .unset] [(.int (1 : Int32)), (.int (0 : Int32))])
            refine own_step (fun t k => XS.icmpYes X18.here hx rfl (pc0 := 159) (pc' := 169) rfl (hb hby at_159) rfl (tlt (show (0 : Int32) < (1 : Int32) from (by decide))).1 (by decide) (by decide) k) ?_
            refine own_step (fun t k => XS.iload X18.here hx rfl (hb hby at_169) rfl k) ?_
            refine own_step (fun t k => XS.iconst X18.here hx rfl (hb hby at_171) k) ?_
            show own_Goes _ _ _ _ T18 (mkF m 172 #[.val (.int p1), .val (.int p2), .val (.int p3), .val (.int p4), .val (.int p5), .val (.int p6), .val (.int i1), .val (.int i2), .val (.int c0), .val (.int c1), .val (.int d0), .val (.int d1), .val (.int (0 : Int32)), .val (.int (0 : Int32)), .val (.ref b1), .unset] [(.int (2 : Int32)), (.int (0 : Int32))])
            refine own_step (fun t k => XS.icmpYes X18.here hx rfl (pc0 := 172) (pc' := 182) rfl (hb hby at_172) rfl (tlt (show (0 : Int32) < (2 : Int32) from (by decide))).1 (by decide) (by decide) k) ?_
            refine own_step (fun t k => XS.iconst X18.here hx rfl (hb hby at_182) k) ?_
            refine own_step (fun t k => XS.goto X18.here hx rfl (pc0 := 183) (pc' := 187) rfl (hb hby at_183) (by decide) (by decide) k) ?_
            refine own_step (fun t k => XS.istore X18.here hx rfl (hb hby at_187) rfl (l' := #[.val (.int p1), .val (.int p2), .val (.int p3), .val (.int p4), .val (.int p5), .val (.int p6), .val (.int i1), .val (.int i2), .val (.int c0), .val (.int c1), .val (.int d0), .val (.int d1), .val (.int (0 : Int32)), .val (.int (0 : Int32)), .val (.ref b1), .val (.int (1 : Int32))]) rfl k) ?_
            refine own_step (fun t k => XS.aload X18.here hx rfl (hb hby at_189) rfl rfl k) ?_
            show own_Goes _ _ _ _ T18 (mkF m 191 #[.val (.int p1), .val (.int p2), .val (.int p3), .val (.int p4), .val (.int p5), .val (.int p6), .val (.int i1), .val (.int i2), .val (.int c0), .val (.int c1), .val (.int d0), .val (.int d1), .val (.int (0 : Int32)), .val (.int (0 : Int32)), .val (.ref b1), .val (.int (1 : Int32))] [(.ref b1)])
            refine own_step (fun t k => XS.iload X18.here hx rfl (hb hby at_191) rfl k) ?_
            show own_Goes _ _ _ _ T18 (mkF m 193 #[.val (.int p1), .val (.int p2), .val (.int p3), .val (.int p4), .val (.int p5), .val (.int p6), .val (.int i1), .val (.int i2), .val (.int c0), .val (.int c1), .val (.int d0), .val (.int d1), .val (.int (0 : Int32)), .val (.int (0 : Int32)), .val (.ref b1), .val (.int (1 : Int32))] [(.int i2), (.ref b1)])
            have S_HEADER_v20 := (own_staKeep (own_staKeep S_HEADER_v2 Kq13 all0) Kq18 (allS (own_plainE A1_v14) all0))
            have S_IDENTIFIER_v21 := (own_staKeep (own_staKeep S_IDENTIFIER_v3 Kq13 all0) Kq18 (allS (own_plainE A1_v14) all0))
            have S_NUMBER_v22 := (own_staKeep (own_staKeep S_NUMBER_v4 Kq13 all0) Kq18 (allS (own_plainE A1_v14) all0))
            have S_STRING_v23 := (own_staKeep (own_staKeep S_STRING_v5 Kq13 all0) Kq18 (allS (own_plainE A1_v14) all0))
            have S_ALIAS_v24 := (own_staKeep (own_staKeep S_ALIAS_v6 Kq13 all0) Kq18 (allS (own_plainE A1_v14) all0))
            have S_SYMBOL_v25 := (own_staKeep (own_staKeep S_SYMBOL_v7 Kq13 all0) Kq18 (allS (own_plainE A1_v14) all0))
            have S_BODY_v26 := (own_staKeep (own_staKeep S_BODY_v8 Kq13 all0) Kq18 (allS (own_plainE A1_v14) all0))
            have S_END_v27 := (own_staKeep (own_staKeep S_END_v9 Kq13 all0) Kq18 (allS (own_plainE A1_v14) all0))
            have S_ABORT_v28 := (own_staKeep (own_staKeep S_ABORT_v10 Kq13 all0) Kq18 (allS (own_plainE A1_v14) all0))
            have S_EOF_v29 := (own_staKeep (own_staKeep S_EOF_v11 Kq13 all0) Kq18 (allS (own_plainE A1_v14) all0))
            refine own_callS X18 hx hZ (y := (⟨"com/example/weaverbird/weaverbird/automaton/TokenIsPinLaw", "type", "(I)Lcom/example/weaverbird/weaverbird/automaton/HoaLexer$Type;"⟩ : MethodName)) hown (hw _ (List.mem_of_getElem? (i := 4) rfl)) (hw _ (List.mem_of_getElem? (i := 5) rfl)) (hw _ (List.mem_of_getElem? (i := 6) rfl)) (hw _ (List.mem_of_getElem? (i := 7) rfl)) (by decide) 1 [(.int i2)] [(.ref b1)] (own_type l Z a0 hw [] i2 y2 w_HEADER w_IDENTIFIER w_NUMBER w_STRING w_ALIAS w_SYMBOL w_BODY w_END w_ABORT w_EOF T18.heap n0 (Nat.le_trans Z0 K18.1) S_HEADER_v20 S_IDENTIFIER_v21 S_NUMBER_v22 S_STRING_v23 S_ALIAS_v24 S_SYMBOL_v25 S_BODY_v26 S_END_v27 S_ABORT_v28 S_EOF_v29 hy2) rfl  (by decide) (by decide) (by decide) (by decide) (g := (mkF m 193 #[.val (.int p1), .val (.int p2), .val (.int p3), .val (.int p4), .val (.int p5), .val (.int p6), .val (.int i1), .val (.int i2), .val (.int c0), .val (.int c1), .val (.int d0), .val (.int d1), .val (.int (0 : Int32)), .val (.int (0 : Int32)), .val (.ref b1), .val (.int (1 : Int32))] [(.int i2), (.ref b1)])) rfl (by rw [hml]; rfl) own_pd8 rfl rfl (by show 2 * 0 + _ ≤ _; exact Nat.le_of_eq rfl) (hb hby at_193) ?_
            intro T30 v30 L30 X30 hQ30
            obtain ⟨rfl, N30q, e30⟩ := hQ30
            have N30 := Fr.app N18 N30q
            refine own_step (fun t k => XS.iload X30.here hx rfl (hb hby at_196) rfl k) ?_
            refine own_step (fun t k => XS.iload X30.here hx rfl (hb hby at_198) rfl k) ?_
            refine own_step (fun t k => XS.iload X30.here hx rfl (hb hby at_200) rfl k) ?_
            show own_Goes _ _ _ _ T30 (mkF m 202 #[.val (.int p1), .val (.int p2), .val (.int p3), .val (.int p4), .val (.int p5), .val (.int p6), .val (.int i1), .val (.int i2), .val (.int c0), .val (.int c1), .val (.int d0), .val (.int d1), .val (.int (0 : Int32)), .val (.int (0 : Int32)), .val (.ref b1), .val (.int (1 : Int32))] [(.int d1), (.int d0), (.int (0 : Int32)), (.ref y2), (.ref b1)])
            refine own_callSW X30 hx hZ (y := (⟨"com/example/weaverbird/weaverbird/automaton/TokenIsPinLaw", "str", "(ICC)Ljava/lang/String;"⟩ : MethodName)) hown (hw _ (List.mem_of_getElem? (i := 11) rfl)) (hw _ (List.mem_of_getElem? (i := 12) rfl)) (hw _ (List.mem_of_getElem? (i := 6) rfl)) (hw _ (List.mem_of_getElem? (i := 13) rfl)) (by decide) 2 [(.int (0 : Int32)), (.int d0), (.int d1)] [(.ref y2), (.ref b1)] (own_str0 l Z a0 hw [] d0 d1 T18.heap n0 (Nat.le_trans Z0 K18.1) ) e30  hEL HC18 HS13 (Nat.le_trans (Nat.le_refl _) Kq18.1) (by decide) (by decide) (by decide) (by decide) (g := (mkF m 202 #[.val (.int p1), .val (.int p2), .val (.int p3), .val (.int p4), .val (.int p5), .val (.int p6), .val (.int i1), .val (.int i2), .val (.int c0), .val (.int c1), .val (.int d0), .val (.int d1), .val (.int (0 : Int32)), .val (.int (0 : Int32)), .val (.ref b1), .val (.int (1 : Int32))] [(.int d1), (.int d0), (.int (0 : Int32)), (.ref y2), (.ref b1)])) rfl (by rw [hml]; rfl) own_pd9 rfl rfl (by show 2 * 0 + _ ≤ _; exact Nat.le_of_eq rfl) (hb hby at_202) ?_
            intro T31 v31 L31 X31 HS31 hZ hown CR31 hQ31
            have RC31 := RC18.trans CR31
            have HC31 := CR31.1
            have q13_0'_v32 := (q13_0'.keep Kq18)
            have q13_3'_v33 := (q13_3'.keep Kq18 (ninS (Ne.symm ne_b1_f13_0) nin0))
            obtain ⟨b31_0, f31_0, k31_0, rfl, N31q, Kq31, zq31_0, q31_0, q31_1, q31_2, q31_3⟩ := hQ31
            have N31 := Fr.app N30 N31q
            have K31 := K18.trans Kq31 all0
            have g_b31_0 : n0 ≤ b31_0 := Nat.le_trans (Nat.le_trans Z0 K18.1) zq31_0
            have sz_b31_0 : h0.size ≤ b31_0 := Nat.le_trans K18.1 zq31_0
            have ne_b1_b31_0 : b1 ≠ b31_0 := Nat.ne_of_lt (Nat.lt_of_lt_of_le q18_0'.lt zq31_0)
            have ne_b13_0_b31_0 : b13_0 ≠ b31_0 := Nat.ne_of_lt (Nat.lt_of_lt_of_le q13_0'_v32.lt zq31_0)
            have ne_f13_0_b31_0 : f13_0 ≠ b31_0 := Nat.ne_of_lt (Nat.lt_of_lt_of_le q13_3'_v33.lt zq31_0)
            have q31_0' : Exa Z T31.heap b31_0 "java/lang/String" := q31_0
            have q31_1' : Fld Z T31.heap b31_0 "java/lang/String" "coder" "B" (.int (0 : Int32)) := q31_1
            have q31_2' : Fld Z T31.heap b31_0 "java/lang/String" "value" "[B" (.ref f31_0) := q31_2
            have q31_3' : Arv Z T31.heap f31_0 k31_0 .byte (0 : Int32) [] (.int (0 : Int32)) := q31_3
            have q18_0'_v34 := (q18_0'.keep Kq31)
            have ne_b1_f31_0 : b1 ≠ f31_0 := Exa.neArv q18_0'_v34 q31_3' (hw _ (List.mem_of_getElem? (i := 2) rfl))
            have q13_0'_v35 := (q13_0'_v32.keep Kq31)
            have ne_b13_0_f31_0 : b13_0 ≠ f31_0 := Exa.neArv q13_0'_v35 q31_3' (hw _ (List.mem_of_getElem? (i := 15) rfl))
            have ne_b31_0_f31_0 : b31_0 ≠ f31_0 := Exa.neArv q31_0' q31_3' (hw _ (List.mem_of_getElem? (i := 15) rfl))
            show own_Goes _ _ _ _ T31 (mkF m 205 #[.val (.int p1), .val (.int p2), .val (.int p3), .val (.int p4), .val (.int p5), .val (.int p6), .val (.int i1), .val (.int i2), .val (.int c0), .val (.int c1), .val (.int d0), .val (.int d1), .val (.int (0 : Int32)), .val (.int (0 : Int32)), .val (.ref b1), .val (.int (1 : Int32))] [(.ref b31_0), (.ref y2), (.ref b1)])
            have q18_1'_v36 := (q18_1'.keep Kq31 nin0)
            have q18_2'_v37 := (q18_2'.keep Kq31 nin0)
            have q13_1'_v38 := ((q13_1'.keep Kq18 (ninS (Ne.symm ne_b1_b13_0) nin0)).keep Kq31 nin0)
            have q13_2'_v39 := ((q13_2'.keep Kq18 (ninS (Ne.symm ne_b1_b13_0) nin0)).keep Kq31 nin0)
            have q13_3'_v40 := (q13_3'_v33.keep Kq31 nin0)
            have S_COMPACT_STRINGS_v41 := (own_staKeep (own_staKeep (own_staKeep (S_COMPACT_STRINGS.ext E1) Kq13 all0) Kq18 (allS (own_plainE A1_v14) all0)) Kq31 all0)
            refine own_callV X31 hx hZ (y := (⟨"com/example/weaverbird/weaverbird/automaton/HoaLexer$Token", "is", "(Lcom/example/weaverbird/weaverbird/automaton/HoaLexer$Type;Ljava/lang/String;)Z"⟩ : MethodName)) (z := (⟨"com/example/weaverbird/weaverbird/automaton/HoaLexer$Token", "is", "(Lcom/example/weaverbird/weaverbird/automaton/HoaLexer$Type;Ljava/lang/String;)Z"⟩ : MethodName)) hown (hw _ (List.mem_of_getElem? (i := 53) rfl)) (hw _ (List.mem_of_getElem? (i := 54) rfl)) (notFace_of_selects (args := #[]) (mvT hZ (hw _ (List.mem_of_getElem? (i := 56) rfl)))) (hw _ (List.mem_of_getElem? (i := 56) rfl)) (hw _ (List.mem_of_getElem? (i := 55) rfl)) (hw _ (List.mem_of_getElem? (i := 57) rfl)) (hw _ (List.mem_of_getElem? (i := 3) rfl)) (by decide) 0 q18_0'_v34 [(.ref y2), (.ref b31_0)] [] (own_is_00eq l Z a0 hw [] b1 y2 b31_0 y1 b13_0 f13_0 f31_0 k13_0 k31_0 zc T31.heap n0 (Nat.le_trans Z0 K31.1) q18_1'_v36 q18_2'_v37 q13_0'_v35 q31_0' q13_1'_v38 q31_1' q13_2'_v39 q31_2' q13_3'_v40 q31_3' S_COMPACT_STRINGS_v41 (hyeq hc146_19) hz ne_b13_0_b31_0) rfl  (by decide) (by decide) (by decide) (by decide) (g := (mkF m 205 #[.val (.int p1), .val (.int p2), .val (.int p3), .val (.int p4), .val (.int p5), .val (.int p6), .val (.int i1), .val (.int i2), .val (.int c0), .val (.int c1), .val (.int d0), .val (.int d1), .val (.int (0 : Int32)), .val (.int (0 : Int32)), .val (.ref b1), .val (.int (1 : Int32))] [(.ref b31_0), (.ref y2), (.ref b1)])) rfl (by rw [hml]; rfl) own_pd11 rfl rfl (by show 2 * 0 + _ ≤ _; exact Nat.le_of_eq rfl) (hb hby at_205) ?_
            intro T42 v42 L42 X42 hQ42
            obtain ⟨rfl, N42q, e42⟩ := hQ42
            have N42 := Fr.app N31 N42q
            refine own_step (fun t k => XS.iload X42.here hx rfl (hb hby at_208) rfl k) ?_
            show own_Goes _ _ _ _ T42 (mkF m 210 #[.val (.int p1), .val (.int p2), .val (.int p3), .val (.int p4), .val (.int p5), .val (.int p6), .val (.int i1), .val (.int i2), .val (.int c0), .val (.int c1), .val (.int d0), .val (.int d1), .val (.int (0 : Int32)), .val (.int (0 : Int32)), .val (.ref b1), .val (.int (1 : Int32))] [(.int (1 : Int32)), (.int (1 : Int32))])
            refine own_step (fun t k => XS.icmpNo X42.here hx rfl (hb hby at_210) rfl (teq (show (1 : Int32) = (1 : Int32) from (by decide))).2 k) ?_
            refine own_step (fun t k => XS.iconst X42.here hx rfl (hb hby at_213) k) ?_
            refine own_step (fun t k => XS.goto X42.here hx rfl (pc0 := 214) (pc' := 218) rfl (hb hby at_214) (by decide) (by decide) k) ?_
            show own_Goes _ _ _ _ T42 (mkF m 218 #[.val (.int p1), .val (.int p2), .val (.int p3), .val (.int p4), .val (.int p5), .val (.int p6), .val (.int i1), .val (.int i2), .val (.int c0), .val (.int c1), .val (.int d0), .val (.int d1), .val (.int (0 : Int32)), .val (.int (0 : Int32)), .val (.ref b1), .val (.int (1 : Int32))] [(.int (1 : Int32))])
            exact own_outW X42 hlk HS31 (Nat.le_refl _) hZ hEL e42 HC31 RC31 (v := some (.int (nar .boolean (1 : Int32)))) (fun q => by rw [hrt] at q; cases q) (fun fs hr => retN X42 hx (t := .boolean) hrt (by simp) (hb hby at_218) hr) ⟨rfl, N42⟩ (by decide) (by decide)
          · refine own_step (fun t k => XS.icmpYes X18.here hx rfl (pc0 := 146) (pc' := 186) rfl (hb hby at_146) rfl (feq (show ¬ (i1 = i2) from hc146_19)).2 (by decide) (by decide) k) ?_
            refine own_step (fun t k => XS.iconst X18.here hx rfl (hb hby at_186) k) ?_
            refine own_step (fun t k => XS.istore X18.here hx rfl (hb hby at_187) rfl (l' := #[.val (.int p1), .val (.int p2), .val (.int p3), .val (.int p4), .val (.int p5), .val (.int p6), .val (.int i1), .val (.int i2), .val (.int c0), .val (.int c1), .val (.int d0), .val (.int d1), .val (.int (0 : Int32)), .val (.int (0 : Int32)), .val (.ref b1), .val (.int (0 : Int32))]) rfl k) ?_
            refine own_step (fun t k => XS.aload X18.here hx rfl (hb hby at_189) rfl rfl k) ?_
            refine own_step (fun t k => XS.iload X18.here hx rfl (hb hby at_191) rfl k) ?_
            show own_Goes _ _ _ _ T18 (mkF m 193 #[.val (.int p1), .val (.int p2), .val (.int p3), .val (.int p4), .val (.int p5), .val (.int p6), .val (.int i1), .val (.int i2), .val (.int c0), .val (.int c1), .val (.int d0), .val (.int d1), .val (.int (0 : Int32)), .val (.int (0 : Int32)), .val (.ref b1), .val (.int (0 : Int32))] [(.int i2), (.ref b1)])
            have S_HEADER_v43 := (own_staKeep (own_staKeep S_HEADER_v2 Kq13 all0) Kq18 (allS (own_plainE A1_v14) all0))
            have S_IDENTIFIER_v44 := (own_staKeep (own_staKeep S_IDENTIFIER_v3 Kq13 all0) Kq18 (allS (own_plainE A1_v14) all0))
            have S_NUMBER_v45 := (own_staKeep (own_staKeep S_NUMBER_v4 Kq13 all0) Kq18 (allS (own_plainE A1_v14) all0))
            have S_STRING_v46 := (own_staKeep (own_staKeep S_STRING_v5 Kq13 all0) Kq18 (allS (own_plainE A1_v14) all0))
            have S_ALIAS_v47 := (own_staKeep (own_staKeep S_ALIAS_v6 Kq13 all0) Kq18 (allS (own_plainE A1_v14) all0))
            have S_SYMBOL_v48 := (own_staKeep (own_staKeep S_SYMBOL_v7 Kq13 all0) Kq18 (allS (own_plainE A1_v14) all0))
            have S_BODY_v49 := (own_staKeep (own_staKeep S_BODY_v8 Kq13 all0) Kq18 (allS (own_plainE A1_v14) all0))
            have S_END_v50 := (own_staKeep (own_staKeep S_END_v9 Kq13 all0) Kq18 (allS (own_plainE A1_v14) all0))
            have S_ABORT_v51 := (own_staKeep (own_staKeep S_ABORT_v10 Kq13 all0) Kq18 (allS (own_plainE A1_v14) all0))
            have S_EOF_v52 := (own_staKeep (own_staKeep S_EOF_v11 Kq13 all0) Kq18 (allS (own_plainE A1_v14) all0))
            refine own_callS X18 hx hZ (y := (⟨"com/example/weaverbird/weaverbird/automaton/TokenIsPinLaw", "type", "(I)Lcom/example/weaverbird/weaverbird/automaton/HoaLexer$Type;"⟩ : MethodName)) hown (hw _ (List.mem_of_getElem? (i := 4) rfl)) (hw _ (List.mem_of_getElem? (i := 5) rfl)) (hw _ (List.mem_of_getElem? (i := 6) rfl)) (hw _ (List.mem_of_getElem? (i := 7) rfl)) (by decide) 1 [(.int i2)] [(.ref b1)] (own_type l Z a0 hw [] i2 y2 w_HEADER w_IDENTIFIER w_NUMBER w_STRING w_ALIAS w_SYMBOL w_BODY w_END w_ABORT w_EOF T18.heap n0 (Nat.le_trans Z0 K18.1) S_HEADER_v43 S_IDENTIFIER_v44 S_NUMBER_v45 S_STRING_v46 S_ALIAS_v47 S_SYMBOL_v48 S_BODY_v49 S_END_v50 S_ABORT_v51 S_EOF_v52 hy2) rfl  (by decide) (by decide) (by decide) (by decide) (g := (mkF m 193 #[.val (.int p1), .val (.int p2), .val (.int p3), .val (.int p4), .val (.int p5), .val (.int p6), .val (.int i1), .val (.int i2), .val (.int c0), .val (.int c1), .val (.int d0), .val (.int d1), .val (.int (0 : Int32)), .val (.int (0 : Int32)), .val (.ref b1), .val (.int (0 : Int32))] [(.int i2), (.ref b1)])) rfl (by rw [hml]; rfl) own_pd8 rfl rfl (by show 2 * 0 + _ ≤ _; exact Nat.le_of_eq rfl) (hb hby at_193) ?_
            intro T53 v53 L53 X53 hQ53
            obtain ⟨rfl, N53q, e53⟩ := hQ53
            have N53 := Fr.app N18 N53q
            refine own_step (fun t k => XS.iload X53.here hx rfl (hb hby at_196) rfl k) ?_
            refine own_step (fun t k => XS.iload X53.here hx rfl (hb hby at_198) rfl k) ?_
            refine own_step (fun t k => XS.iload X53.here hx rfl (hb hby at_200) rfl k) ?_
            show own_Goes _ _ _ _ T53 (mkF m 202 #[.val (.int p1), .val (.int p2), .val (.int p3), .val (.int p4), .val (.int p5), .val (.int p6), .val (.int i1), .val (.int i2), .val (.int c0), .val (.int c1), .val (.int d0), .val (.int d1), .val (.int (0 : Int32)), .val (.int (0 : Int32)), .val (.ref b1), .val (.int (0 : Int32))] [(.int d1), (.int d0), (.int (0 : Int32)), (.ref y2), (.ref b1)])
            refine own_callSW X53 hx hZ (y := (⟨"com/example/weaverbird/weaverbird/automaton/TokenIsPinLaw", "str", "(ICC)Ljava/lang/String;"⟩ : MethodName)) hown (hw _ (List.mem_of_getElem? (i := 11) rfl)) (hw _ (List.mem_of_getElem? (i := 12) rfl)) (hw _ (List.mem_of_getElem? (i := 6) rfl)) (hw _ (List.mem_of_getElem? (i := 13) rfl)) (by decide) 2 [(.int (0 : Int32)), (.int d0), (.int d1)] [(.ref y2), (.ref b1)] (own_str0 l Z a0 hw [] d0 d1 T18.heap n0 (Nat.le_trans Z0 K18.1) ) e53  hEL HC18 HS13 (Nat.le_trans (Nat.le_refl _) Kq18.1) (by decide) (by decide) (by decide) (by decide) (g := (mkF m 202 #[.val (.int p1), .val (.int p2), .val (.int p3), .val (.int p4), .val (.int p5), .val (.int p6), .val (.int i1), .val (.int i2), .val (.int c0), .val (.int c1), .val (.int d0), .val (.int d1), .val (.int (0 : Int32)), .val (.int (0 : Int32)), .val (.ref b1), .val (.int (0 : Int32))] [(.int d1), (.int d0), (.int (0 : Int32)), (.ref y2), (.ref b1)])) rfl (by rw [hml]; rfl) own_pd9 rfl rfl (by show 2 * 0 + _ ≤ _; exact Nat.le_of_eq rfl) (hb hby at_202) ?_
            intro T54 v54 L54 X54 HS54 hZ hown CR54 hQ54
            have RC54 := RC18.trans CR54
            have HC54 := CR54.1
            have q13_0'_v55 := (q13_0'.keep Kq18)
            have q13_3'_v56 := (q13_3'.keep Kq18 (ninS (Ne.symm ne_b1_f13_0) nin0))
            obtain ⟨b54_0, f54_0, k54_0, rfl, N54q, Kq54, zq54_0, q54_0, q54_1, q54_2, q54_3⟩ := hQ54
            have N54 := Fr.app N53 N54q
            have K54 := K18.trans Kq54 all0
            have g_b54_0 : n0 ≤ b54_0 := Nat.le_trans (Nat.le_trans Z0 K18.1) zq54_0
            have sz_b54_0 : h0.size ≤ b54_0 := Nat.le_trans K18.1 zq54_0
            have ne_b1_b54_0 : b1 ≠ b54_0 := Nat.ne_of_lt (Nat.lt_of_lt_of_le q18_0'.lt zq54_0)
            have ne_b13_0_b54_0 : b13_0 ≠ b54_0 := Nat.ne_of_lt (Nat.lt_of_lt_of_le q13_0'_v55.lt zq54_0)
            have ne_f13_0_b54_0 : f13_0 ≠ b54_0 := Nat.ne_of_lt (Nat.lt_of_lt_of_le q13_3'_v56.lt zq54_0)
            have q54_0' : Exa Z T54.heap b54_0 "java/lang/String" := q54_0
            have q54_1' : Fld Z T54.heap b54_0 "java/lang/String" "coder" "B" (.int (0 : Int32)) := q54_1
            have q54_2' : Fld Z T54.heap b54_0 "java/lang/String" "value" "[B" (.ref f54_0) := q54_2
            have q54_3' : Arv Z T54.heap f54_0 k54_0 .byte (0 : Int32) [] (.int (0 : Int32)) := q54_3
            have q18_0'_v57 := (q18_0'.keep Kq54)
            have ne_b1_f54_0 : b1 ≠ f54_0 := Exa.neArv q18_0'_v57 q54_3' (hw _ (List.mem_of_getElem? (i := 2) rfl))
            have q13_0'_v58 := (q13_0'_v55.keep Kq54)
            have ne_b13_0_f54_0 : b13_0 ≠ f54_0 := Exa.neArv q13_0'_v58 q54_3' (hw _ (List.mem_of_getElem? (i := 15) rfl))
            have ne_b54_0_f54_0 : b54_0 ≠ f54_0 := Exa.neArv q54_0' q54_3' (hw _ (List.mem_of_getElem? (i := 15) rfl))
            show own_Goes _ _ _ _ T54 (mkF m 205 #[.val (.int p1), .val (.int p2), .val (.int p3), .val (.int p4), .val (.int p5), .val (.int p6), .val (.int i1), .val (.int i2), .val (.int c0), .val (.int c1), .val (.int d0), .val (.int d1), .val (.int (0 : Int32)), .val (.int (0 : Int32)), .val (.ref b1), .val (.int (0 : Int32))] [(.ref b54_0), (.ref y2), (.ref b1)])
            have q18_1'_v59 := (q18_1'.keep Kq54 nin0)
            refine own_callV X54 hx hZ (y := (⟨"com/example/weaverbird/weaverbird/automaton/HoaLexer$Token", "is", "(Lcom/example/weaverbird/weaverbird/automaton/HoaLexer$Type;Ljava/lang/String;)Z"⟩ : MethodName)) (z := (⟨"com/example/weaverbird/weaverbird/automaton/HoaLexer$Token", "is", "(Lcom/example/weaverbird/weaverbird/automaton/HoaLexer$Type;Ljava/lang/String;)Z"⟩ : MethodName)) hown (hw _ (List.mem_of_getElem? (i := 53) rfl)) (hw _ (List.mem_of_getElem? (i := 54) rfl)) (notFace_of_selects (args := #[]) (mvT hZ (hw _ (List.mem_of_getElem? (i := 56) rfl)))) (hw _ (List.mem_of_getElem? (i := 56) rfl)) (hw _ (List.mem_of_getElem? (i := 55) rfl)) (hw _ (List.mem_of_getElem? (i := 57) rfl)) (hw _ (List.mem_of_getElem? (i := 3) rfl)) (by decide) 0 q18_0'_v57 [(.ref y2), (.ref b54_0)] [] (own_is_ne l Z a0 hw [] b1 y2 b54_0 y1 T54.heap n0 (Nat.le_trans Z0 K54.1) q18_1'_v59 (hyne hc146_19)) rfl  (by decide) (by decide) (by decide) (by decide) (g := (mkF m 205 #[.val (.int p1), .val (.int p2), .val (.int p3), .val (.int p4), .val (.int p5), .val (.int p6), .val (.int i1), .val (.int i2), .val (.int c0), .val (.int c1), .val (.int d0), .val (.int d1), .val (.int (0 : Int32)), .val (.int (0 : Int32)), .val (.ref b1), .val (.int (0 : Int32))] [(.ref b54_0), (.ref y2), (.ref b1)])) rfl (by rw [hml]; rfl) own_pd11 rfl rfl (by show 2 * 0 + _ ≤ _; exact Nat.le_of_eq rfl) (hb hby at_205) ?_
            intro T60 v60 L60 X60 hQ60
            obtain ⟨rfl, N60q, e60⟩ := hQ60
            have N60 := Fr.app N54 N60q
            refine own_step (fun t k => XS.iload X60.here hx rfl (hb hby at_208) rfl k) ?_
            show own_Goes _ _ _ _ T60 (mkF m 210 #[.val (.int p1), .val (.int p2), .val (.int p3), .val (.int p4), .val (.int p5), .val (.int p6), .val (.int i1), .val (.int i2), .val (.int c0), .val (.int c1), .val (.int d0), .val (.int d1), .val (.int (0 : Int32)), .val (.int (0 : Int32)), .val (.ref b1), .val (.int (0 : Int32))] [(.int (0 : Int32)), (.int (0 : Int32))])
            refine own_step (fun t k => XS.icmpNo X60.here hx rfl (hb hby at_210) rfl (teq (show (0 : Int32) = (0 : Int32) from (by decide))).2 k) ?_
            refine own_step (fun t k => XS.iconst X60.here hx rfl (hb hby at_213) k) ?_
            refine own_step (fun t k => XS.goto X60.here hx rfl (pc0 := 214) (pc' := 218) rfl (hb hby at_214) (by decide) (by decide) k) ?_
            show own_Goes _ _ _ _ T60 (mkF m 218 #[.val (.int p1), .val (.int p2), .val (.int p3), .val (.int p4), .val (.int p5), .val (.int p6), .val (.int i1), .val (.int i2), .val (.int c0), .val (.int c1), .val (.int d0), .val (.int d1), .val (.int (0 : Int32)), .val (.int (0 : Int32)), .val (.ref b1), .val (.int (0 : Int32))] [(.int (1 : Int32))])
            exact own_outW X60 hlk HS54 (Nat.le_refl _) hZ hEL e60 HC54 RC54 (v := some (.int (nar .boolean (1 : Int32)))) (fun q => by rw [hrt] at q; cases q) (fun fs hr => retN X60 hx (t := .boolean) hrt (by simp) (hb hby at_218) hr) ⟨rfl, N60⟩ (by decide) (by decide)
        · show own_Goes _ _ _ _ s₁ (mkF m 117 #[.val (.int p1), .val (.int p2), .val (.int p3), .val (.int p4), .val (.int p5), .val (.int p6), .val (.int i1), .val (.int i2), .val (.int c0), .val (.int c1), .val (.int d0), .val (.int d1), .val (.int (0 : Int32)), .val (.int (1 : Int32)), .unset, .unset] [])
          obtain ⟨T61, h61, X61, e61, E61, A61, D61, -, st61⟩ := newO X0 hx hZ hown (hw _ (List.mem_of_getElem? (i := 1) rfl)) (hw _ (List.mem_of_getElem? (i := 2) rfl)) (hw _ (List.mem_of_getElem? (i := 3) rfl)) e0 (g := (mkF m 117 #[.val (.int p1), .val (.int p2), .val (.int p3), .val (.int p4), .val (.int p5), .val (.int p6), .val (.int i1), .val (.int i2), .val (.int c0), .val (.int c1), .val (.int d0), .val (.int d1), .val (.int (0 : Int32)), .val (.int (1 : Int32)), .unset, .unset] [])) rfl (hb hby at_117) (by decide) (by decide)
          obtain ⟨b61, g61⟩ : ∃ z, z = h0.size := ⟨_, rfl⟩
          rw [← g61] at A61 D61 st61
          refine own_step st61 ?_
          have g_b61 : n0 ≤ b61 := Nat.le_trans Z0 (Nat.le_of_eq g61.symm)
          have sz_b61 : h0.size ≤ b61 := Nat.le_trans (Keep.refl h0 []).1 (Nat.le_of_eq g61.symm)
          have K61 := (Keep.refl h0 []).ext E61
          have RC61 := RC0.trans (CHr.ext E61 HC0)
          have HC61 := CHv.ext E61 HC0
          have F_b61_type : Fld Z h61 b61 "com/example/weaverbird/weaverbird/automaton/HoaLexer$Token" "type" "Lcom/example/weaverbird/weaverbird/automaton/HoaLexer$Type;" .null := D61 (Or.inr (hw _ (List.mem_of_getElem? (i := 46) rfl))) (ty := (.object "com/example/weaverbird/weaverbird/automaton/HoaLexer$Type")) (by decide)
          have F_b61_text : Fld Z h61 b61 "com/example/weaverbird/weaverbird/automaton/HoaLexer$Token" "text" "Ljava/lang/String;" .null := D61 (Or.inr (hw _ (List.mem_of_getElem? (i := 48) rfl))) (ty := (.object "java/lang/String")) (by decide)
          have F_b61_line : Fld Z h61 b61 "com/example/weaverbird/weaverbird/automaton/HoaLexer$Token" "line" "I" (.int (0 : Int32)) := D61 (Or.inr (hw _ (List.mem_of_getElem? (i := 50) rfl))) (ty := .int) (by decide)
          refine own_step (fun t k => XS.dup X61.here hx rfl (hb hby at_120) rfl rfl k) ?_
          refine own_step (fun t k => XS.iload X61.here hx rfl (hb hby at_121) rfl k) ?_
          show own_Goes _ _ _ _ T61 (mkF m 123 #[.val (.int p1), .val (.int p2), .val (.int p3), .val (.int p4), .val (.int p5), .val (.int p6), .val (.int i1), .val (.int i2), .val (.int c0), .val (.int c1), .val (.int d0), .val (.int d1), .val (.int (0 : Int32)), .val (.int (1 : Int32)), .unset, .unset] [(.int i1), (.ref b61), (.ref b61)])
          have S_HEADER_v62 := (S_HEADER.ext E61)
          have S_IDENTIFIER_v63 := (S_IDENTIFIER.ext E61)
          have S_NUMBER_v64 := (S_NUMBER.ext E61)
          have S_STRING_v65 := (S_STRING.ext E61)
          have S_ALIAS_v66 := (S_ALIAS.ext E61)
          have S_SYMBOL_v67 := (S_SYMBOL.ext E61)
          have S_BODY_v68 := (S_BODY.ext E61)
          have S_END_v69 := (S_END.ext E61)
          have S_ABORT_v70 := (S_ABORT.ext E61)
          have S_EOF_v71 := (S_EOF.ext E61)
          refine own_callS X61 hx hZ (y := (⟨"com/example/weaverbird/weaverbird/automaton/TokenIsPinLaw", "type", "(I)Lcom/example/weaverbird/weaverbird/automaton/HoaLexer$Type;"⟩ : MethodName)) hown (hw _ (List.mem_of_getElem? (i := 4) rfl)) (hw _ (List.mem_of_getElem? (i := 5) rfl)) (hw _ (List.mem_of_getElem? (i := 6) rfl)) (hw _ (List.mem_of_getElem? (i := 7) rfl)) (by decide) 2 [(.int i1)] [(.ref b61), (.ref b61)] (own_type l Z a0 hw [] i1 y1 w_HEADER w_IDENTIFIER w_NUMBER w_STRING w_ALIAS w_SYMBOL w_BODY w_END w_ABORT w_EOF h61 n0 (Nat.le_trans Z0 K61.1) S_HEADER_v62 S_IDENTIFIER_v63 S_NUMBER_v64 S_STRING_v65 S_ALIAS_v66 S_SYMBOL_v67 S_BODY_v68 S_END_v69 S_ABORT_v70 S_EOF_v71 hy1) e61  (by decide) (by decide) (by decide) (by decide) (g := (mkF m 123 #[.val (.int p1), .val (.int p2), .val (.int p3), .val (.int p4), .val (.int p5), .val (.int p6), .val (.int i1), .val (.int i2), .val (.int c0), .val (.int c1), .val (.int d0), .val (.int d1), .val (.int (0 : Int32)), .val (.int (1 : Int32)), .unset, .unset] [(.int i1), (.ref b61), (.ref b61)])) rfl (by rw [hml]; rfl) own_pd8 rfl rfl (by show 2 * 0 + _ ≤ _; exact Nat.le_of_eq rfl) (hb hby at_123) ?_
          intro T72 v72 L72 X72 hQ72
          obtain ⟨rfl, N72q, e72⟩ := hQ72
          have N72 := Fr.app N0 N72q
          refine own_step (fun t k => XS.iload X72.here hx rfl (hb hby at_126) rfl k) ?_
          refine own_step (fun t k => XS.iload X72.here hx rfl (hb hby at_128) rfl k) ?_
          refine own_step (fun t k => XS.iload X72.here hx rfl (hb hby at_130) rfl k) ?_
          show own_Goes _ _ _ _ T72 (mkF m 132 #[.val (.int p1), .val (.int p2), .val (.int p3), .val (.int p4), .val (.int p5), .val (.int p6), .val (.int i1), .val (.int i2), .val (.int c0), .val (.int c1), .val (.int d0), .val (.int d1), .val (.int (0 : Int32)), .val (.int (1 : Int32)), .unset, .unset] [(.int c1), (.int c0), (.int (0 : Int32)), (.ref y1), (.ref b61), (.ref b61)])
          refine own_callSW X72 hx hZ (y := (⟨"com/example/weaverbird/weaverbird/automaton/TokenIsPinLaw", "str", "(ICC)Ljava/lang/String;"⟩ : MethodName)) hown (hw _ (List.mem_of_getElem? (i := 11) rfl)) (hw _ (List.mem_of_getElem? (i := 12) rfl)) (hw _ (List.mem_of_getElem? (i := 6) rfl)) (hw _ (List.mem_of_getElem? (i := 13) rfl)) (by decide) 3 [(.int (0 : Int32)), (.int c0), (.int c1)] [(.ref y1), (.ref b61), (.ref b61)] (own_str0 l Z a0 hw [] c0 c1 h61 n0 (Nat.le_trans Z0 K61.1) ) e72  hEL HC61 HS0 (Nat.le_trans (Nat.le_refl _) E61.1) (by decide) (by decide) (by decide) (by decide) (g := (mkF m 132 #[.val (.int p1), .val (.int p2), .val (.int p3), .val (.int p4), .val (.int p5), .val (.int p6), .val (.int i1), .val (.int i2), .val (.int c0), .val (.int c1), .val (.int d0), .val (.int d1), .val (.int (0 : Int32)), .val (.int (1 : Int32)), .unset, .unset] [(.int c1), (.int c0), (.int (0 : Int32)), (.ref y1), (.ref b61), (.ref b61)])) rfl (by rw [hml]; rfl) own_pd9 rfl rfl (by show 2 * 0 + _ ≤ _; exact Nat.le_of_eq rfl) (hb hby at_132) ?_
          intro T73 v73 L73 X73 HS73 hZ hown CR73 hQ73
          have RC73 := RC61.trans CR73
          have HC73 := CR73.1
          obtain ⟨b73_0, f73_0, k73_0, rfl, N73q, Kq73, zq73_0, q73_0, q73_1, q73_2, q73_3⟩ := hQ73
          have N73 := Fr.app N72 N73q
          have K73 := K61.trans Kq73 all0
          have g_b73_0 : n0 ≤ b73_0 := Nat.le_trans (Nat.le_trans Z0 K61.1) zq73_0
          have sz_b73_0 : h0.size ≤ b73_0 := Nat.le_trans K61.1 zq73_0
          have ne_b61_b73_0 : b61 ≠ b73_0 := Nat.ne_of_lt (Nat.lt_of_lt_of_le A61.lt zq73_0)
          have q73_0' : Exa Z T73.heap b73_0 "java/lang/String" := q73_0
          have q73_1' : Fld Z T73.heap b73_0 "java/lang/String" "coder" "B" (.int (0 : Int32)) := q73_1
          have q73_2' : Fld Z T73.heap b73_0 "java/lang/String" "value" "[B" (.ref f73_0) := q73_2
          have q73_3' : Arv Z T73.heap f73_0 k73_0 .byte (0 : Int32) [] (.int (0 : Int32)) := q73_3
          have A61_v74 := (A61.keep Kq73)
          have ne_b61_f73_0 : b61 ≠ f73_0 := Exa.neArv A61_v74 q73_3' (hw _ (List.mem_of_getElem? (i := 2) rfl))
          have ne_b73_0_f73_0 : b73_0 ≠ f73_0 := Exa.neArv q73_0' q73_3' (hw _ (List.mem_of_getElem? (i := 15) rfl))
          refine own_step (fun t k => XS.iload X73.here hx rfl (hb hby at_135) rfl k) ?_
          show own_Goes _ _ _ _ T73 (mkF m 137 #[.val (.int p1), .val (.int p2), .val (.int p3), .val (.int p4), .val (.int p5), .val (.int p6), .val (.int i1), .val (.int i2), .val (.int c0), .val (.int c1), .val (.int d0), .val (.int d1), .val (.int (0 : Int32)), .val (.int (1 : Int32)), .unset, .unset] [(.int p6), (.ref b73_0), (.ref y1), (.ref b61), (.ref b61)])
          have F_b61_type_v75 := (F_b61_type.keep Kq73 nin0)
          have F_b61_text_v76 := (F_b61_text.keep Kq73 nin0)
          have F_b61_line_v77 := (F_b61_line.keep Kq73 nin0)
          refine own_callC X73 hx hZ (y := (⟨"com/example/weaverbird/weaverbird/automaton/HoaLexer$Token", "<init>", "(Lcom/example/weaverbird/weaverbird/automaton/HoaLexer$Type;Ljava/lang/String;I)V"⟩ : MethodName)) rfl hown (hw _ (List.mem_of_getElem? (i := 36) rfl)) (hw _ (List.mem_of_getElem? (i := 37) rfl)) (hw _ (List.mem_of_getElem? (i := 38) rfl)) (hw _ (List.mem_of_getElem? (i := 3) rfl)) (by decide) 1 (a := b61) [(.ref y1), (.ref b73_0), (.int p6)] [(.ref b61)] (own_tinit l Z a0 hw [] b61 y1 b73_0 p6 T73.heap n0 (Nat.le_trans Z0 K73.1) A61_v74 F_b61_type_v75 F_b61_text_v76 F_b61_line_v77 g_b61) rfl  (by decide) (by decide) (by decide) (by decide) (g := (mkF m 137 #[.val (.int p1), .val (.int p2), .val (.int p3), .val (.int p4), .val (.int p5), .val (.int p6), .val (.int i1), .val (.int i2), .val (.int c0), .val (.int c1), .val (.int d0), .val (.int d1), .val (.int (0 : Int32)), .val (.int (1 : Int32)), .unset, .unset] [(.int p6), (.ref b73_0), (.ref y1), (.ref b61), (.ref b61)])) rfl (by rw [hml]; rfl) own_pd10 rfl rfl (by show 2 * 0 + _ ≤ _; exact Nat.le_of_eq rfl) (hb hby at_137) ?_
          intro T78 v78 L78 X78 hQ78
          obtain ⟨rfl, N78q, Kq78, q78_0, q78_1, q78_2⟩ := hQ78
          have N78 := Fr.app N73 N78q
          have K78 := K73.trans Kq78 (allS (Or.inr sz_b61) all0)
          have RC78 := RC73.trans (CHr.keep Kq78 (allS (Safe.exa hZ.alike A61_v74 (by decide) (by decide)) all0) HC73)
          have HC78 := CHv.keep Kq78 (allS (Safe.exa hZ.alike A61_v74 (by decide) (by decide)) all0) HC73
          have q78_0' : Exa Z T78.heap b61 "com/example/weaverbird/weaverbird/automaton/HoaLexer$Token" := q78_0
          have q78_1' : Fld Z T78.heap b61 "com/example/weaverbird/weaverbird/automaton/HoaLexer$Token" "type" "Lcom/example/weaverbird/weaverbird/automaton/HoaLexer$Type;" (.ref y1) := q78_1
          have q78_2' : Fld Z T78.heap b61 "com/example/weaverbird/weaverbird/automaton/HoaLexer$Token" "text" "Ljava/lang/String;" (.ref b73_0) := q78_2
          refine own_step (fun t k => XS.astore X78.here hx rfl (hb hby at_140) rfl rfl (l' := #[.val (.int p1), .val (.int p2), .val (.int p3), .val (.int p4), .val (.int p5), .val (.int p6), .val (.int i1), .val (.int i2), .val (.int c0), .val (.int c1), .val (.int d0), .val (.int d1), .val (.int (0 : Int32)), .val (.int (1 : Int32)), .val (.ref b61), .unset]) rfl k) ?_
          refine own_step (fun t k => XS.iload X78.here hx rfl (hb hby at_142) rfl k) ?_
          refine own_step (fun t k => XS.iload X78.here hx rfl (hb hby at_144) rfl k) ?_
          show own_Goes _ _ _ _ T78 (mkF m 146 #[.val (.int p1), .val (.int p2), .val (.int p3), .val (.int p4), .val (.int p5), .val (.int p6), .val (.int i1), .val (.int i2), .val (.int c0), .val (.int c1), .val (.int d0), .val (.int d1), .val (.int (0 : Int32)), .val (.int (1 : Int32)), .val (.ref b61), .unset] [(.int i2), (.int i1)])
          by_cases hc146_79 : i1 = i2
          · refine own_step (fun t k => XS.icmpNo X78.here hx rfl (hb hby at_146) rfl (teq (show i1 = i2 from hc146_79)).2 k) ?_
            refine own_step (fun t k => XS.iload X78.here hx rfl (hb hby at_149) rfl k) ?_
            refine own_step (fun t k => XS.iload X78.here hx rfl (hb hby at_151) rfl k) ?_
            show own_Goes _ _ _ _ T78 (mkF m 153 #[.val (.int p1), .val (.int p2), .val (.int p3), .val (.int p4), .val (.int p5), .val (.int p6), .val (.int i1), .val (.int i2), .val (.int c0), .val (.int c1), .val (.int d0), .val (.int d1), .val (.int (0 : Int32)), .val (.int (1 : Int32)), .val (.ref b61), .unset] [(.int (1 : Int32)), (.int (0 : Int32))])
            refine own_step (fun t k => XS.icmpYes X78.here hx rfl (pc0 := 153) (pc' := 186) rfl (hb hby at_153) rfl (feq (show ¬ ((0 : Int32) = (1 : Int32)) from (by decide))).2 (by decide) (by decide) k) ?_
            refine own_step (fun t k => XS.iconst X78.here hx rfl (hb hby at_186) k) ?_
            refine own_step (fun t k => XS.istore X78.here hx rfl (hb hby at_187) rfl (l' := #[.val (.int p1), .val (.int p2), .val (.int p3), .val (.int p4), .val (.int p5), .val (.int p6), .val (.int i1), .val (.int i2), .val (.int c0), .val (.int c1), .val (.int d0), .val (.int d1), .val (.int (0 : Int32)), .val (.int (1 : Int32)), .val (.ref b61), .val (.int (0 : Int32))]) rfl k) ?_
            refine own_step (fun t k => XS.aload X78.here hx rfl (hb hby at_189) rfl rfl k) ?_
            refine own_step (fun t k => XS.iload X78.here hx rfl (hb hby at_191) rfl k) ?_
            show own_Goes _ _ _ _ T78 (mkF m 193 #[.val (.int p1), .val (.int p2), .val (.int p3), .val (.int p4), .val (.int p5), .val (.int p6), .val (.int i1), .val (.int i2), .val (.int c0), .val (.int c1), .val (.int d0), .val (.int d1), .val (.int (0 : Int32)), .val (.int (1 : Int32)), .val (.ref b61), .val (.int (0 : Int32))] [(.int i2), (.ref b61)])
            have S_HEADER_v80 := (own_staKeep (own_staKeep S_HEADER_v62 Kq73 all0) Kq78 (allS (own_plainE A61_v74) all0))
            have S_IDENTIFIER_v81 := (own_staKeep (own_staKeep S_IDENTIFIER_v63 Kq73 all0) Kq78 (allS (own_plainE A61_v74) all0))
            have S_NUMBER_v82 := (own_staKeep (own_staKeep S_NUMBER_v64 Kq73 all0) Kq78 (allS (own_plainE A61_v74) all0))
            have S_STRING_v83 := (own_staKeep (own_staKeep S_STRING_v65 Kq73 all0) Kq78 (allS (own_plainE A61_v74) all0))
            have S_ALIAS_v84 := (own_staKeep (own_staKeep S_ALIAS_v66 Kq73 all0) Kq78 (allS (own_plainE A61_v74) all0))
            have S_SYMBOL_v85 := (own_staKeep (own_staKeep S_SYMBOL_v67 Kq73 all0) Kq78 (allS (own_plainE A61_v74) all0))
            have S_BODY_v86 := (own_staKeep (own_staKeep S_BODY_v68 Kq73 all0) Kq78 (allS (own_plainE A61_v74) all0))
            have S_END_v87 := (own_staKeep (own_staKeep S_END_v69 Kq73 all0) Kq78 (allS (own_plainE A61_v74) all0))
            have S_ABORT_v88 := (own_staKeep (own_staKeep S_ABORT_v70 Kq73 all0) Kq78 (allS (own_plainE A61_v74) all0))
            have S_EOF_v89 := (own_staKeep (own_staKeep S_EOF_v71 Kq73 all0) Kq78 (allS (own_plainE A61_v74) all0))
            refine own_callS X78 hx hZ (y := (⟨"com/example/weaverbird/weaverbird/automaton/TokenIsPinLaw", "type", "(I)Lcom/example/weaverbird/weaverbird/automaton/HoaLexer$Type;"⟩ : MethodName)) hown (hw _ (List.mem_of_getElem? (i := 4) rfl)) (hw _ (List.mem_of_getElem? (i := 5) rfl)) (hw _ (List.mem_of_getElem? (i := 6) rfl)) (hw _ (List.mem_of_getElem? (i := 7) rfl)) (by decide) 1 [(.int i2)] [(.ref b61)] (own_type l Z a0 hw [] i2 y2 w_HEADER w_IDENTIFIER w_NUMBER w_STRING w_ALIAS w_SYMBOL w_BODY w_END w_ABORT w_EOF T78.heap n0 (Nat.le_trans Z0 K78.1) S_HEADER_v80 S_IDENTIFIER_v81 S_NUMBER_v82 S_STRING_v83 S_ALIAS_v84 S_SYMBOL_v85 S_BODY_v86 S_END_v87 S_ABORT_v88 S_EOF_v89 hy2) rfl  (by decide) (by decide) (by decide) (by decide) (g := (mkF m 193 #[.val (.int p1), .val (.int p2), .val (.int p3), .val (.int p4), .val (.int p5), .val (.int p6), .val (.int i1), .val (.int i2), .val (.int c0), .val (.int c1), .val (.int d0), .val (.int d1), .val (.int (0 : Int32)), .val (.int (1 : Int32)), .val (.ref b61), .val (.int (0 : Int32))] [(.int i2), (.ref b61)])) rfl (by rw [hml]; rfl) own_pd8 rfl rfl (by show 2 * 0 + _ ≤ _; exact Nat.le_of_eq rfl) (hb hby at_193) ?_
            intro T90 v90 L90 X90 hQ90
            obtain ⟨rfl, N90q, e90⟩ := hQ90
            have N90 := Fr.app N78 N90q
            refine own_step (fun t k => XS.iload X90.here hx rfl (hb hby at_196) rfl k) ?_
            refine own_step (fun t k => XS.iload X90.here hx rfl (hb hby at_198) rfl k) ?_
            refine own_step (fun t k => XS.iload X90.here hx rfl (hb hby at_200) rfl k) ?_
            show own_Goes _ _ _ _ T90 (mkF m 202 #[.val (.int p1), .val (.int p2), .val (.int p3), .val (.int p4), .val (.int p5), .val (.int p6), .val (.int i1), .val (.int i2), .val (.int c0), .val (.int c1), .val (.int d0), .val (.int d1), .val (.int (0 : Int32)), .val (.int (1 : Int32)), .val (.ref b61), .val (.int (0 : Int32))] [(.int d1), (.int d0), (.int (1 : Int32)), (.ref y2), (.ref b61)])
            have S_COMPACT_STRINGS_v91 := (own_staKeep (own_staKeep (S_COMPACT_STRINGS.ext E61) Kq73 all0) Kq78 (allS (own_plainE A61_v74) all0))
            refine own_callS X90 hx hZ (y := (⟨"com/example/weaverbird/weaverbird/automaton/TokenIsPinLaw", "str", "(ICC)Ljava/lang/String;"⟩ : MethodName)) hown (hw _ (List.mem_of_getElem? (i := 11) rfl)) (hw _ (List.mem_of_getElem? (i := 12) rfl)) (hw _ (List.mem_of_getElem? (i := 6) rfl)) (hw _ (List.mem_of_getElem? (i := 13) rfl)) (by decide) 2 [(.int (1 : Int32)), (.int d0), (.int d1)] [(.ref y2), (.ref b61)] (own_str1 l Z a0 hw [] d0 d1 zc T78.heap n0 (Nat.le_trans Z0 K78.1) S_COMPACT_STRINGS_v91 hd0a hd0b hz) e90  (by decide) (by decide) (by decide) (by decide) (g := (mkF m 202 #[.val (.int p1), .val (.int p2), .val (.int p3), .val (.int p4), .val (.int p5), .val (.int p6), .val (.int i1), .val (.int i2), .val (.int c0), .val (.int c1), .val (.int d0), .val (.int d1), .val (.int (0 : Int32)), .val (.int (1 : Int32)), .val (.ref b61), .val (.int (0 : Int32))] [(.int d1), (.int d0), (.int (1 : Int32)), (.ref y2), (.ref b61)])) rfl (by rw [hml]; rfl) own_pd9 rfl rfl (by show 2 * 0 + _ ≤ _; exact Nat.le_of_eq rfl) (hb hby at_202) ?_
            intro T92 v92 L92 X92 hQ92
            have q73_0'_v93 := (q73_0'.keep Kq78)
            have q73_3'_v94 := (q73_3'.keep Kq78 (ninS (Ne.symm ne_b61_f73_0) nin0))
            obtain ⟨b92_0, b92_1, k92_0, rfl, N92q, Kq92, zq92_0, zq92_1, q92_0, q92_1, q92_2, q92_3⟩ := hQ92
            have N92 := Fr.app N90 N92q
            have K92 := K78.trans Kq92 all0
            have g_b92_0 : n0 ≤ b92_0 := Nat.le_trans (Nat.le_trans Z0 K78.1) zq92_0
            have sz_b92_0 : h0.size ≤ b92_0 := Nat.le_trans K78.1 zq92_0
            have ne_b61_b92_0 : b61 ≠ b92_0 := Nat.ne_of_lt (Nat.lt_of_lt_of_le q78_0'.lt zq92_0)
            have ne_b73_0_b92_0 : b73_0 ≠ b92_0 := Nat.ne_of_lt (Nat.lt_of_lt_of_le q73_0'_v93.lt zq92_0)
            have ne_f73_0_b92_0 : f73_0 ≠ b92_0 := Nat.ne_of_lt (Nat.lt_of_lt_of_le q73_3'_v94.lt zq92_0)
            have g_b92_1 : n0 ≤ b92_1 := Nat.le_trans (Nat.le_trans Z0 K78.1) zq92_1
            have sz_b92_1 : h0.size ≤ b92_1 := Nat.le_trans K78.1 zq92_1
            have ne_b61_b92_1 : b61 ≠ b92_1 := Nat.ne_of_lt (Nat.lt_of_lt_of_le q78_0'.lt zq92_1)
            have ne_b73_0_b92_1 : b73_0 ≠ b92_1 := Nat.ne_of_lt (Nat.lt_of_lt_of_le q73_0'_v93.lt zq92_1)
            have ne_f73_0_b92_1 : f73_0 ≠ b92_1 := Nat.ne_of_lt (Nat.lt_of_lt_of_le q73_3'_v94.lt zq92_1)
            have RC92 := RC78.trans (CHr.keep Kq92 all0 HC78)
            have HC92 := CHv.keep Kq92 all0 HC78
            have q92_0' : Exa Z T92.heap b92_0 "java/lang/String" := q92_0
            have q92_1' : Fld Z T92.heap b92_0 "java/lang/String" "coder" "B" (.int (0 : Int32)) := q92_1
            have q92_2' : Fld Z T92.heap b92_0 "java/lang/String" "value" "[B" (.ref b92_1) := q92_2
            have q92_3' : Arv Z T92.heap b92_1 k92_0 .byte (1 : Int32) [(.int (d0.toInt8.toInt32))] (.int (0 : Int32)) := q92_3
            show own_Goes _ _ _ _ T92 (mkF m 205 #[.val (.int p1), .val (.int p2), .val (.int p3), .val (.int p4), .val (.int p5), .val (.int p6), .val (.int i1), .val (.int i2), .val (.int c0), .val (.int c1), .val (.int d0), .val (.int d1), .val (.int (0 : Int32)), .val (.int (1 : Int32)), .val (.ref b61), .val (.int (0 : Int32))] [(.ref b92_0), (.ref y2), (.ref b61)])
            have q78_1'_v95 := (q78_1'.keep Kq92 nin0)
            have q78_2'_v96 := (q78_2'.keep Kq92 nin0)
            have q73_0'_v97 := (q73_0'_v93.keep Kq92)
            have q73_1'_v98 := ((q73_1'.keep Kq78 (ninS (Ne.symm ne_b61_b73_0) nin0)).keep Kq92 nin0)
            have q73_2'_v99 := ((q73_2'.keep Kq78 (ninS (Ne.symm ne_b61_b73_0) nin0)).keep Kq92 nin0)
            have q73_3'_v100 := (q73_3'_v94.keep Kq92 nin0)
            have S_COMPACT_STRINGS_v101 := (own_staKeep S_COMPACT_STRINGS_v91 Kq92 all0)
            have q78_0'_v103 := (q78_0'.keep Kq92)
            refine own_callV X92 hx hZ (y := (⟨"com/example/weaverbird/weaverbird/automaton/HoaLexer$Token", "is", "(Lcom/example/weaverbird/weaverbird/automaton/HoaLexer$Type;Ljava/lang/String;)Z"⟩ : MethodName)) (z := (⟨"com/example/weaverbird/weaverbird/automaton/HoaLexer$Token", "is", "(Lcom/example/weaverbird/weaverbird/automaton/HoaLexer$Type;Ljava/lang/String;)Z"⟩ : MethodName)) hown (hw _ (List.mem_of_getElem? (i := 53) rfl)) (hw _ (List.mem_of_getElem? (i := 54) rfl)) (notFace_of_selects (args := #[]) (mvT hZ (hw _ (List.mem_of_getElem? (i := 56) rfl)))) (hw _ (List.mem_of_getElem? (i := 56) rfl)) (hw _ (List.mem_of_getElem? (i := 55) rfl)) (hw _ (List.mem_of_getElem? (i := 57) rfl)) (hw _ (List.mem_of_getElem? (i := 3) rfl)) (by decide) 0 q78_0'_v103 [(.ref y2), (.ref b92_0)] [] (own_is_01len l Z a0 hw [] b61 y2 b92_0 y1 b73_0 f73_0 b92_1 k73_0 k92_0 (d0.toInt8.toInt32) zc T92.heap n0 (Nat.le_trans Z0 K92.1) q78_1'_v95 q78_2'_v96 q73_0'_v97 q92_0' q73_1'_v98 q92_1' q73_2'_v99 q92_2' q73_3'_v100 q92_3' S_COMPACT_STRINGS_v101 (hyeq hc146_79) hz ne_b73_0_b92_0) rfl  (by decide) (by decide) (by decide) (by decide) (g := (mkF m 205 #[.val (.int p1), .val (.int p2), .val (.int p3), .val (.int p4), .val (.int p5), .val (.int p6), .val (.int i1), .val (.int i2), .val (.int c0), .val (.int c1), .val (.int d0), .val (.int d1), .val (.int (0 : Int32)), .val (.int (1 : Int32)), .val (.ref b61), .val (.int (0 : Int32))] [(.ref b92_0), (.ref y2), (.ref b61)])) rfl (by rw [hml]; rfl) own_pd11 rfl rfl (by show 2 * 0 + _ ≤ _; exact Nat.le_of_eq rfl) (hb hby at_205) ?_
            intro T102 v102 L102 X102 hQ102
            obtain ⟨rfl, N102q, e102⟩ := hQ102
            have N102 := Fr.app N92 N102q
            refine own_step (fun t k => XS.iload X102.here hx rfl (hb hby at_208) rfl k) ?_
            show own_Goes _ _ _ _ T102 (mkF m 210 #[.val (.int p1), .val (.int p2), .val (.int p3), .val (.int p4), .val (.int p5), .val (.int p6), .val (.int i1), .val (.int i2), .val (.int c0), .val (.int c1), .val (.int d0), .val (.int d1), .val (.int (0 : Int32)), .val (.int (1 : Int32)), .val (.ref b61), .val (.int (0 : Int32))] [(.int (0 : Int32)), (.int (0 : Int32))])
            refine own_step (fun t k => XS.icmpNo X102.here hx rfl (hb hby at_210) rfl (teq (show (0 : Int32) = (0 : Int32) from (by decide))).2 k) ?_
            refine own_step (fun t k => XS.iconst X102.here hx rfl (hb hby at_213) k) ?_
            refine own_step (fun t k => XS.goto X102.here hx rfl (pc0 := 214) (pc' := 218) rfl (hb hby at_214) (by decide) (by decide) k) ?_
            show own_Goes _ _ _ _ T102 (mkF m 218 #[.val (.int p1), .val (.int p2), .val (.int p3), .val (.int p4), .val (.int p5), .val (.int p6), .val (.int i1), .val (.int i2), .val (.int c0), .val (.int c1), .val (.int d0), .val (.int d1), .val (.int (0 : Int32)), .val (.int (1 : Int32)), .val (.ref b61), .val (.int (0 : Int32))] [(.int (1 : Int32))])
            exact own_outW X102 hlk HS73 (Nat.le_trans (Nat.le_trans (Nat.le_refl _) Kq78.1) Kq92.1) hZ hEL e102 HC92 RC92 (v := some (.int (nar .boolean (1 : Int32)))) (fun q => by rw [hrt] at q; cases q) (fun fs hr => retN X102 hx (t := .boolean) hrt (by simp) (hb hby at_218) hr) ⟨rfl, N102⟩ (by decide) (by decide)
          · refine own_step (fun t k => XS.icmpYes X78.here hx rfl (pc0 := 146) (pc' := 186) rfl (hb hby at_146) rfl (feq (show ¬ (i1 = i2) from hc146_79)).2 (by decide) (by decide) k) ?_
            refine own_step (fun t k => XS.iconst X78.here hx rfl (hb hby at_186) k) ?_
            refine own_step (fun t k => XS.istore X78.here hx rfl (hb hby at_187) rfl (l' := #[.val (.int p1), .val (.int p2), .val (.int p3), .val (.int p4), .val (.int p5), .val (.int p6), .val (.int i1), .val (.int i2), .val (.int c0), .val (.int c1), .val (.int d0), .val (.int d1), .val (.int (0 : Int32)), .val (.int (1 : Int32)), .val (.ref b61), .val (.int (0 : Int32))]) rfl k) ?_
            refine own_step (fun t k => XS.aload X78.here hx rfl (hb hby at_189) rfl rfl k) ?_
            refine own_step (fun t k => XS.iload X78.here hx rfl (hb hby at_191) rfl k) ?_
            show own_Goes _ _ _ _ T78 (mkF m 193 #[.val (.int p1), .val (.int p2), .val (.int p3), .val (.int p4), .val (.int p5), .val (.int p6), .val (.int i1), .val (.int i2), .val (.int c0), .val (.int c1), .val (.int d0), .val (.int d1), .val (.int (0 : Int32)), .val (.int (1 : Int32)), .val (.ref b61), .val (.int (0 : Int32))] [(.int i2), (.ref b61)])
            have S_HEADER_v104 := (own_staKeep (own_staKeep S_HEADER_v62 Kq73 all0) Kq78 (allS (own_plainE A61_v74) all0))
            have S_IDENTIFIER_v105 := (own_staKeep (own_staKeep S_IDENTIFIER_v63 Kq73 all0) Kq78 (allS (own_plainE A61_v74) all0))
            have S_NUMBER_v106 := (own_staKeep (own_staKeep S_NUMBER_v64 Kq73 all0) Kq78 (allS (own_plainE A61_v74) all0))
            have S_STRING_v107 := (own_staKeep (own_staKeep S_STRING_v65 Kq73 all0) Kq78 (allS (own_plainE A61_v74) all0))
            have S_ALIAS_v108 := (own_staKeep (own_staKeep S_ALIAS_v66 Kq73 all0) Kq78 (allS (own_plainE A61_v74) all0))
            have S_SYMBOL_v109 := (own_staKeep (own_staKeep S_SYMBOL_v67 Kq73 all0) Kq78 (allS (own_plainE A61_v74) all0))
            have S_BODY_v110 := (own_staKeep (own_staKeep S_BODY_v68 Kq73 all0) Kq78 (allS (own_plainE A61_v74) all0))
            have S_END_v111 := (own_staKeep (own_staKeep S_END_v69 Kq73 all0) Kq78 (allS (own_plainE A61_v74) all0))
            have S_ABORT_v112 := (own_staKeep (own_staKeep S_ABORT_v70 Kq73 all0) Kq78 (allS (own_plainE A61_v74) all0))
            have S_EOF_v113 := (own_staKeep (own_staKeep S_EOF_v71 Kq73 all0) Kq78 (allS (own_plainE A61_v74) all0))
            refine own_callS X78 hx hZ (y := (⟨"com/example/weaverbird/weaverbird/automaton/TokenIsPinLaw", "type", "(I)Lcom/example/weaverbird/weaverbird/automaton/HoaLexer$Type;"⟩ : MethodName)) hown (hw _ (List.mem_of_getElem? (i := 4) rfl)) (hw _ (List.mem_of_getElem? (i := 5) rfl)) (hw _ (List.mem_of_getElem? (i := 6) rfl)) (hw _ (List.mem_of_getElem? (i := 7) rfl)) (by decide) 1 [(.int i2)] [(.ref b61)] (own_type l Z a0 hw [] i2 y2 w_HEADER w_IDENTIFIER w_NUMBER w_STRING w_ALIAS w_SYMBOL w_BODY w_END w_ABORT w_EOF T78.heap n0 (Nat.le_trans Z0 K78.1) S_HEADER_v104 S_IDENTIFIER_v105 S_NUMBER_v106 S_STRING_v107 S_ALIAS_v108 S_SYMBOL_v109 S_BODY_v110 S_END_v111 S_ABORT_v112 S_EOF_v113 hy2) rfl  (by decide) (by decide) (by decide) (by decide) (g := (mkF m 193 #[.val (.int p1), .val (.int p2), .val (.int p3), .val (.int p4), .val (.int p5), .val (.int p6), .val (.int i1), .val (.int i2), .val (.int c0), .val (.int c1), .val (.int d0), .val (.int d1), .val (.int (0 : Int32)), .val (.int (1 : Int32)), .val (.ref b61), .val (.int (0 : Int32))] [(.int i2), (.ref b61)])) rfl (by rw [hml]; rfl) own_pd8 rfl rfl (by show 2 * 0 + _ ≤ _; exact Nat.le_of_eq rfl) (hb hby at_193) ?_
            intro T114 v114 L114 X114 hQ114
            obtain ⟨rfl, N114q, e114⟩ := hQ114
            have N114 := Fr.app N78 N114q
            refine own_step (fun t k => XS.iload X114.here hx rfl (hb hby at_196) rfl k) ?_
            refine own_step (fun t k => XS.iload X114.here hx rfl (hb hby at_198) rfl k) ?_
            refine own_step (fun t k => XS.iload X114.here hx rfl (hb hby at_200) rfl k) ?_
            show own_Goes _ _ _ _ T114 (mkF m 202 #[.val (.int p1), .val (.int p2), .val (.int p3), .val (.int p4), .val (.int p5), .val (.int p6), .val (.int i1), .val (.int i2), .val (.int c0), .val (.int c1), .val (.int d0), .val (.int d1), .val (.int (0 : Int32)), .val (.int (1 : Int32)), .val (.ref b61), .val (.int (0 : Int32))] [(.int d1), (.int d0), (.int (1 : Int32)), (.ref y2), (.ref b61)])
            have S_COMPACT_STRINGS_v115 := (own_staKeep (own_staKeep (S_COMPACT_STRINGS.ext E61) Kq73 all0) Kq78 (allS (own_plainE A61_v74) all0))
            refine own_callS X114 hx hZ (y := (⟨"com/example/weaverbird/weaverbird/automaton/TokenIsPinLaw", "str", "(ICC)Ljava/lang/String;"⟩ : MethodName)) hown (hw _ (List.mem_of_getElem? (i := 11) rfl)) (hw _ (List.mem_of_getElem? (i := 12) rfl)) (hw _ (List.mem_of_getElem? (i := 6) rfl)) (hw _ (List.mem_of_getElem? (i := 13) rfl)) (by decide) 2 [(.int (1 : Int32)), (.int d0), (.int d1)] [(.ref y2), (.ref b61)] (own_str1 l Z a0 hw [] d0 d1 zc T78.heap n0 (Nat.le_trans Z0 K78.1) S_COMPACT_STRINGS_v115 hd0a hd0b hz) e114  (by decide) (by decide) (by decide) (by decide) (g := (mkF m 202 #[.val (.int p1), .val (.int p2), .val (.int p3), .val (.int p4), .val (.int p5), .val (.int p6), .val (.int i1), .val (.int i2), .val (.int c0), .val (.int c1), .val (.int d0), .val (.int d1), .val (.int (0 : Int32)), .val (.int (1 : Int32)), .val (.ref b61), .val (.int (0 : Int32))] [(.int d1), (.int d0), (.int (1 : Int32)), (.ref y2), (.ref b61)])) rfl (by rw [hml]; rfl) own_pd9 rfl rfl (by show 2 * 0 + _ ≤ _; exact Nat.le_of_eq rfl) (hb hby at_202) ?_
            intro T116 v116 L116 X116 hQ116
            have q73_0'_v117 := (q73_0'.keep Kq78)
            have q73_3'_v118 := (q73_3'.keep Kq78 (ninS (Ne.symm ne_b61_f73_0) nin0))
            obtain ⟨b116_0, b116_1, k116_0, rfl, N116q, Kq116, zq116_0, zq116_1, q116_0, q116_1, q116_2, q116_3⟩ := hQ116
            have N116 := Fr.app N114 N116q
            have K116 := K78.trans Kq116 all0
            have g_b116_0 : n0 ≤ b116_0 := Nat.le_trans (Nat.le_trans Z0 K78.1) zq116_0
            have sz_b116_0 : h0.size ≤ b116_0 := Nat.le_trans K78.1 zq116_0
            have ne_b61_b116_0 : b61 ≠ b116_0 := Nat.ne_of_lt (Nat.lt_of_lt_of_le q78_0'.lt zq116_0)
            have ne_b73_0_b116_0 : b73_0 ≠ b116_0 := Nat.ne_of_lt (Nat.lt_of_lt_of_le q73_0'_v117.lt zq116_0)
            have ne_f73_0_b116_0 : f73_0 ≠ b116_0 := Nat.ne_of_lt (Nat.lt_of_lt_of_le q73_3'_v118.lt zq116_0)
            have g_b116_1 : n0 ≤ b116_1 := Nat.le_trans (Nat.le_trans Z0 K78.1) zq116_1
            have sz_b116_1 : h0.size ≤ b116_1 := Nat.le_trans K78.1 zq116_1
            have ne_b61_b116_1 : b61 ≠ b116_1 := Nat.ne_of_lt (Nat.lt_of_lt_of_le q78_0'.lt zq116_1)
            have ne_b73_0_b116_1 : b73_0 ≠ b116_1 := Nat.ne_of_lt (Nat.lt_of_lt_of_le q73_0'_v117.lt zq116_1)
            have ne_f73_0_b116_1 : f73_0 ≠ b116_1 := Nat.ne_of_lt (Nat.lt_of_lt_of_le q73_3'_v118.lt zq116_1)
            have RC116 := RC78.trans (CHr.keep Kq116 all0 HC78)
            have HC116 := CHv.keep Kq116 all0 HC78
            have q116_0' : Exa Z T116.heap b116_0 "java/lang/String" := q116_0
            have q116_1' : Fld Z T116.heap b116_0 "java/lang/String" "coder" "B" (.int (0 : Int32)) := q116_1
            have q116_2' : Fld Z T116.heap b116_0 "java/lang/String" "value" "[B" (.ref b116_1) := q116_2
            have q116_3' : Arv Z T116.heap b116_1 k116_0 .byte (1 : Int32) [(.int (d0.toInt8.toInt32))] (.int (0 : Int32)) := q116_3
            show own_Goes _ _ _ _ T116 (mkF m 205 #[.val (.int p1), .val (.int p2), .val (.int p3), .val (.int p4), .val (.int p5), .val (.int p6), .val (.int i1), .val (.int i2), .val (.int c0), .val (.int c1), .val (.int d0), .val (.int d1), .val (.int (0 : Int32)), .val (.int (1 : Int32)), .val (.ref b61), .val (.int (0 : Int32))] [(.ref b116_0), (.ref y2), (.ref b61)])
            have q78_1'_v119 := (q78_1'.keep Kq116 nin0)
            have q78_0'_v121 := (q78_0'.keep Kq116)
            refine own_callV X116 hx hZ (y := (⟨"com/example/weaverbird/weaverbird/automaton/HoaLexer$Token", "is", "(Lcom/example/weaverbird/weaverbird/automaton/HoaLexer$Type;Ljava/lang/String;)Z"⟩ : MethodName)) (z := (⟨"com/example/weaverbird/weaverbird/automaton/HoaLexer$Token", "is", "(Lcom/example/weaverbird/weaverbird/automaton/HoaLexer$Type;Ljava/lang/String;)Z"⟩ : MethodName)) hown (hw _ (List.mem_of_getElem? (i := 53) rfl)) (hw _ (List.mem_of_getElem? (i := 54) rfl)) (notFace_of_selects (args := #[]) (mvT hZ (hw _ (List.mem_of_getElem? (i := 56) rfl)))) (hw _ (List.mem_of_getElem? (i := 56) rfl)) (hw _ (List.mem_of_getElem? (i := 55) rfl)) (hw _ (List.mem_of_getElem? (i := 57) rfl)) (hw _ (List.mem_of_getElem? (i := 3) rfl)) (by decide) 0 q78_0'_v121 [(.ref y2), (.ref b116_0)] [] (own_is_ne l Z a0 hw [] b61 y2 b116_0 y1 T116.heap n0 (Nat.le_trans Z0 K116.1) q78_1'_v119 (hyne hc146_79)) rfl  (by decide) (by decide) (by decide) (by decide) (g := (mkF m 205 #[.val (.int p1), .val (.int p2), .val (.int p3), .val (.int p4), .val (.int p5), .val (.int p6), .val (.int i1), .val (.int i2), .val (.int c0), .val (.int c1), .val (.int d0), .val (.int d1), .val (.int (0 : Int32)), .val (.int (1 : Int32)), .val (.ref b61), .val (.int (0 : Int32))] [(.ref b116_0), (.ref y2), (.ref b61)])) rfl (by rw [hml]; rfl) own_pd11 rfl rfl (by show 2 * 0 + _ ≤ _; exact Nat.le_of_eq rfl) (hb hby at_205) ?_
            intro T120 v120 L120 X120 hQ120
            obtain ⟨rfl, N120q, e120⟩ := hQ120
            have N120 := Fr.app N116 N120q
            refine own_step (fun t k => XS.iload X120.here hx rfl (hb hby at_208) rfl k) ?_
            show own_Goes _ _ _ _ T120 (mkF m 210 #[.val (.int p1), .val (.int p2), .val (.int p3), .val (.int p4), .val (.int p5), .val (.int p6), .val (.int i1), .val (.int i2), .val (.int c0), .val (.int c1), .val (.int d0), .val (.int d1), .val (.int (0 : Int32)), .val (.int (1 : Int32)), .val (.ref b61), .val (.int (0 : Int32))] [(.int (0 : Int32)), (.int (0 : Int32))])
            refine own_step (fun t k => XS.icmpNo X120.here hx rfl (hb hby at_210) rfl (teq (show (0 : Int32) = (0 : Int32) from (by decide))).2 k) ?_
            refine own_step (fun t k => XS.iconst X120.here hx rfl (hb hby at_213) k) ?_
            refine own_step (fun t k => XS.goto X120.here hx rfl (pc0 := 214) (pc' := 218) rfl (hb hby at_214) (by decide) (by decide) k) ?_
            show own_Goes _ _ _ _ T120 (mkF m 218 #[.val (.int p1), .val (.int p2), .val (.int p3), .val (.int p4), .val (.int p5), .val (.int p6), .val (.int i1), .val (.int i2), .val (.int c0), .val (.int c1), .val (.int d0), .val (.int d1), .val (.int (0 : Int32)), .val (.int (1 : Int32)), .val (.ref b61), .val (.int (0 : Int32))] [(.int (1 : Int32))])
            exact own_outW X120 hlk HS73 (Nat.le_trans (Nat.le_trans (Nat.le_refl _) Kq78.1) Kq116.1) hZ hEL e120 HC116 RC116 (v := some (.int (nar .boolean (1 : Int32)))) (fun q => by rw [hrt] at q; cases q) (fun fs hr => retN X120 hx (t := .boolean) hrt (by simp) (hb hby at_218) hr) ⟨rfl, N120⟩ (by decide) (by decide)
        · show own_Goes _ _ _ _ s₁ (mkF m 117 #[.val (.int p1), .val (.int p2), .val (.int p3), .val (.int p4), .val (.int p5), .val (.int p6), .val (.int i1), .val (.int i2), .val (.int c0), .val (.int c1), .val (.int d0), .val (.int d1), .val (.int (0 : Int32)), .val (.int (2 : Int32)), .unset, .unset] [])
          obtain ⟨T122, h122, X122, e122, E122, A122, D122, -, st122⟩ := newO X0 hx hZ hown (hw _ (List.mem_of_getElem? (i := 1) rfl)) (hw _ (List.mem_of_getElem? (i := 2) rfl)) (hw _ (List.mem_of_getElem? (i := 3) rfl)) e0 (g := (mkF m 117 #[.val (.int p1), .val (.int p2), .val (.int p3), .val (.int p4), .val (.int p5), .val (.int p6), .val (.int i1), .val (.int i2), .val (.int c0), .val (.int c1), .val (.int d0), .val (.int d1), .val (.int (0 : Int32)), .val (.int (2 : Int32)), .unset, .unset] [])) rfl (hb hby at_117) (by decide) (by decide)
          obtain ⟨b122, g122⟩ : ∃ z, z = h0.size := ⟨_, rfl⟩
          rw [← g122] at A122 D122 st122
          refine own_step st122 ?_
          have g_b122 : n0 ≤ b122 := Nat.le_trans Z0 (Nat.le_of_eq g122.symm)
          have sz_b122 : h0.size ≤ b122 := Nat.le_trans (Keep.refl h0 []).1 (Nat.le_of_eq g122.symm)
          have K122 := (Keep.refl h0 []).ext E122
          have RC122 := RC0.trans (CHr.ext E122 HC0)
          have HC122 := CHv.ext E122 HC0
          have F_b122_type : Fld Z h122 b122 "com/example/weaverbird/weaverbird/automaton/HoaLexer$Token" "type" "Lcom/example/weaverbird/weaverbird/automaton/HoaLexer$Type;" .null := D122 (Or.inr (hw _ (List.mem_of_getElem? (i := 46) rfl))) (ty := (.object "com/example/weaverbird/weaverbird/automaton/HoaLexer$Type")) (by decide)
          have F_b122_text : Fld Z h122 b122 "com/example/weaverbird/weaverbird/automaton/HoaLexer$Token" "text" "Ljava/lang/String;" .null := D122 (Or.inr (hw _ (List.mem_of_getElem? (i := 48) rfl))) (ty := (.object "java/lang/String")) (by decide)
          have F_b122_line : Fld Z h122 b122 "com/example/weaverbird/weaverbird/automaton/HoaLexer$Token" "line" "I" (.int (0 : Int32)) := D122 (Or.inr (hw _ (List.mem_of_getElem? (i := 50) rfl))) (ty := .int) (by decide)
          refine own_step (fun t k => XS.dup X122.here hx rfl (hb hby at_120) rfl rfl k) ?_
          refine own_step (fun t k => XS.iload X122.here hx rfl (hb hby at_121) rfl k) ?_
          show own_Goes _ _ _ _ T122 (mkF m 123 #[.val (.int p1), .val (.int p2), .val (.int p3), .val (.int p4), .val (.int p5), .val (.int p6), .val (.int i1), .val (.int i2), .val (.int c0), .val (.int c1), .val (.int d0), .val (.int d1), .val (.int (0 : Int32)), .val (.int (2 : Int32)), .unset, .unset] [(.int i1), (.ref b122), (.ref b122)])
          have S_HEADER_v123 := (S_HEADER.ext E122)
          have S_IDENTIFIER_v124 := (S_IDENTIFIER.ext E122)
          have S_NUMBER_v125 := (S_NUMBER.ext E122)
          have S_STRING_v126 := (S_STRING.ext E122)
          have S_ALIAS_v127 := (S_ALIAS.ext E122)
          have S_SYMBOL_v128 := (S_SYMBOL.ext E122)
          have S_BODY_v129 := (S_BODY.ext E122)
          have S_END_v130 := (S_END.ext E122)
          have S_ABORT_v131 := (S_ABORT.ext E122)
          have S_EOF_v132 := (S_EOF.ext E122)
          refine own_callS X122 hx hZ (y := (⟨"com/example/weaverbird/weaverbird/automaton/TokenIsPinLaw", "type", "(I)Lcom/example/weaverbird/weaverbird/automaton/HoaLexer$Type;"⟩ : MethodName)) hown (hw _ (List.mem_of_getElem? (i := 4) rfl)) (hw _ (List.mem_of_getElem? (i := 5) rfl)) (hw _ (List.mem_of_getElem? (i := 6) rfl)) (hw _ (List.mem_of_getElem? (i := 7) rfl)) (by decide) 2 [(.int i1)] [(.ref b122), (.ref b122)] (own_type l Z a0 hw [] i1 y1 w_HEADER w_IDENTIFIER w_NUMBER w_STRING w_ALIAS w_SYMBOL w_BODY w_END w_ABORT w_EOF h122 n0 (Nat.le_trans Z0 K122.1) S_HEADER_v123 S_IDENTIFIER_v124 S_NUMBER_v125 S_STRING_v126 S_ALIAS_v127 S_SYMBOL_v128 S_BODY_v129 S_END_v130 S_ABORT_v131 S_EOF_v132 hy1) e122  (by decide) (by decide) (by decide) (by decide) (g := (mkF m 123 #[.val (.int p1), .val (.int p2), .val (.int p3), .val (.int p4), .val (.int p5), .val (.int p6), .val (.int i1), .val (.int i2), .val (.int c0), .val (.int c1), .val (.int d0), .val (.int d1), .val (.int (0 : Int32)), .val (.int (2 : Int32)), .unset, .unset] [(.int i1), (.ref b122), (.ref b122)])) rfl (by rw [hml]; rfl) own_pd8 rfl rfl (by show 2 * 0 + _ ≤ _; exact Nat.le_of_eq rfl) (hb hby at_123) ?_
          intro T133 v133 L133 X133 hQ133
          obtain ⟨rfl, N133q, e133⟩ := hQ133
          have N133 := Fr.app N0 N133q
          refine own_step (fun t k => XS.iload X133.here hx rfl (hb hby at_126) rfl k) ?_
          refine own_step (fun t k => XS.iload X133.here hx rfl (hb hby at_128) rfl k) ?_
          refine own_step (fun t k => XS.iload X133.here hx rfl (hb hby at_130) rfl k) ?_
          show own_Goes _ _ _ _ T133 (mkF m 132 #[.val (.int p1), .val (.int p2), .val (.int p3), .val (.int p4), .val (.int p5), .val (.int p6), .val (.int i1), .val (.int i2), .val (.int c0), .val (.int c1), .val (.int d0), .val (.int d1), .val (.int (0 : Int32)), .val (.int (2 : Int32)), .unset, .unset] [(.int c1), (.int c0), (.int (0 : Int32)), (.ref y1), (.ref b122), (.ref b122)])
          refine own_callSW X133 hx hZ (y := (⟨"com/example/weaverbird/weaverbird/automaton/TokenIsPinLaw", "str", "(ICC)Ljava/lang/String;"⟩ : MethodName)) hown (hw _ (List.mem_of_getElem? (i := 11) rfl)) (hw _ (List.mem_of_getElem? (i := 12) rfl)) (hw _ (List.mem_of_getElem? (i := 6) rfl)) (hw _ (List.mem_of_getElem? (i := 13) rfl)) (by decide) 3 [(.int (0 : Int32)), (.int c0), (.int c1)] [(.ref y1), (.ref b122), (.ref b122)] (own_str0 l Z a0 hw [] c0 c1 h122 n0 (Nat.le_trans Z0 K122.1) ) e133  hEL HC122 HS0 (Nat.le_trans (Nat.le_refl _) E122.1) (by decide) (by decide) (by decide) (by decide) (g := (mkF m 132 #[.val (.int p1), .val (.int p2), .val (.int p3), .val (.int p4), .val (.int p5), .val (.int p6), .val (.int i1), .val (.int i2), .val (.int c0), .val (.int c1), .val (.int d0), .val (.int d1), .val (.int (0 : Int32)), .val (.int (2 : Int32)), .unset, .unset] [(.int c1), (.int c0), (.int (0 : Int32)), (.ref y1), (.ref b122), (.ref b122)])) rfl (by rw [hml]; rfl) own_pd9 rfl rfl (by show 2 * 0 + _ ≤ _; exact Nat.le_of_eq rfl) (hb hby at_132) ?_
          intro T134 v134 L134 X134 HS134 hZ hown CR134 hQ134
          have RC134 := RC122.trans CR134
          have HC134 := CR134.1
          obtain ⟨b134_0, f134_0, k134_0, rfl, N134q, Kq134, zq134_0, q134_0, q134_1, q134_2, q134_3⟩ := hQ134
          have N134 := Fr.app N133 N134q
          have K134 := K122.trans Kq134 all0
          have g_b134_0 : n0 ≤ b134_0 := Nat.le_trans (Nat.le_trans Z0 K122.1) zq134_0
          have sz_b134_0 : h0.size ≤ b134_0 := Nat.le_trans K122.1 zq134_0
          have ne_b122_b134_0 : b122 ≠ b134_0 := Nat.ne_of_lt (Nat.lt_of_lt_of_le A122.lt zq134_0)
          have q134_0' : Exa Z T134.heap b134_0 "java/lang/String" := q134_0
          have q134_1' : Fld Z T134.heap b134_0 "java/lang/String" "coder" "B" (.int (0 : Int32)) := q134_1
          have q134_2' : Fld Z T134.heap b134_0 "java/lang/String" "value" "[B" (.ref f134_0) := q134_2
          have q134_3' : Arv Z T134.heap f134_0 k134_0 .byte (0 : Int32) [] (.int (0 : Int32)) := q134_3
          have A122_v135 := (A122.keep Kq134)
          have ne_b122_f134_0 : b122 ≠ f134_0 := Exa.neArv A122_v135 q134_3' (hw _ (List.mem_of_getElem? (i := 2) rfl))
          have ne_b134_0_f134_0 : b134_0 ≠ f134_0 := Exa.neArv q134_0' q134_3' (hw _ (List.mem_of_getElem? (i := 15) rfl))
          refine own_step (fun t k => XS.iload X134.here hx rfl (hb hby at_135) rfl k) ?_
          show own_Goes _ _ _ _ T134 (mkF m 137 #[.val (.int p1), .val (.int p2), .val (.int p3), .val (.int p4), .val (.int p5), .val (.int p6), .val (.int i1), .val (.int i2), .val (.int c0), .val (.int c1), .val (.int d0), .val (.int d1), .val (.int (0 : Int32)), .val (.int (2 : Int32)), .unset, .unset] [(.int p6), (.ref b134_0), (.ref y1), (.ref b122), (.ref b122)])
          have F_b122_type_v136 := (F_b122_type.keep Kq134 nin0)
          have F_b122_text_v137 := (F_b122_text.keep Kq134 nin0)
          have F_b122_line_v138 := (F_b122_line.keep Kq134 nin0)
          refine own_callC X134 hx hZ (y := (⟨"com/example/weaverbird/weaverbird/automaton/HoaLexer$Token", "<init>", "(Lcom/example/weaverbird/weaverbird/automaton/HoaLexer$Type;Ljava/lang/String;I)V"⟩ : MethodName)) rfl hown (hw _ (List.mem_of_getElem? (i := 36) rfl)) (hw _ (List.mem_of_getElem? (i := 37) rfl)) (hw _ (List.mem_of_getElem? (i := 38) rfl)) (hw _ (List.mem_of_getElem? (i := 3) rfl)) (by decide) 1 (a := b122) [(.ref y1), (.ref b134_0), (.int p6)] [(.ref b122)] (own_tinit l Z a0 hw [] b122 y1 b134_0 p6 T134.heap n0 (Nat.le_trans Z0 K134.1) A122_v135 F_b122_type_v136 F_b122_text_v137 F_b122_line_v138 g_b122) rfl  (by decide) (by decide) (by decide) (by decide) (g := (mkF m 137 #[.val (.int p1), .val (.int p2), .val (.int p3), .val (.int p4), .val (.int p5), .val (.int p6), .val (.int i1), .val (.int i2), .val (.int c0), .val (.int c1), .val (.int d0), .val (.int d1), .val (.int (0 : Int32)), .val (.int (2 : Int32)), .unset, .unset] [(.int p6), (.ref b134_0), (.ref y1), (.ref b122), (.ref b122)])) rfl (by rw [hml]; rfl) own_pd10 rfl rfl (by show 2 * 0 + _ ≤ _; exact Nat.le_of_eq rfl) (hb hby at_137) ?_
          intro T139 v139 L139 X139 hQ139
          obtain ⟨rfl, N139q, Kq139, q139_0, q139_1, q139_2⟩ := hQ139
          have N139 := Fr.app N134 N139q
          have K139 := K134.trans Kq139 (allS (Or.inr sz_b122) all0)
          have RC139 := RC134.trans (CHr.keep Kq139 (allS (Safe.exa hZ.alike A122_v135 (by decide) (by decide)) all0) HC134)
          have HC139 := CHv.keep Kq139 (allS (Safe.exa hZ.alike A122_v135 (by decide) (by decide)) all0) HC134
          have q139_0' : Exa Z T139.heap b122 "com/example/weaverbird/weaverbird/automaton/HoaLexer$Token" := q139_0
          have q139_1' : Fld Z T139.heap b122 "com/example/weaverbird/weaverbird/automaton/HoaLexer$Token" "type" "Lcom/example/weaverbird/weaverbird/automaton/HoaLexer$Type;" (.ref y1) := q139_1
          have q139_2' : Fld Z T139.heap b122 "com/example/weaverbird/weaverbird/automaton/HoaLexer$Token" "text" "Ljava/lang/String;" (.ref b134_0) := q139_2
          refine own_step (fun t k => XS.astore X139.here hx rfl (hb hby at_140) rfl rfl (l' := #[.val (.int p1), .val (.int p2), .val (.int p3), .val (.int p4), .val (.int p5), .val (.int p6), .val (.int i1), .val (.int i2), .val (.int c0), .val (.int c1), .val (.int d0), .val (.int d1), .val (.int (0 : Int32)), .val (.int (2 : Int32)), .val (.ref b122), .unset]) rfl k) ?_
          refine own_step (fun t k => XS.iload X139.here hx rfl (hb hby at_142) rfl k) ?_
          refine own_step (fun t k => XS.iload X139.here hx rfl (hb hby at_144) rfl k) ?_
          show own_Goes _ _ _ _ T139 (mkF m 146 #[.val (.int p1), .val (.int p2), .val (.int p3), .val (.int p4), .val (.int p5), .val (.int p6), .val (.int i1), .val (.int i2), .val (.int c0), .val (.int c1), .val (.int d0), .val (.int d1), .val (.int (0 : Int32)), .val (.int (2 : Int32)), .val (.ref b122), .unset] [(.int i2), (.int i1)])
          by_cases hc146_140 : i1 = i2
          · refine own_step (fun t k => XS.icmpNo X139.here hx rfl (hb hby at_146) rfl (teq (show i1 = i2 from hc146_140)).2 k) ?_
            refine own_step (fun t k => XS.iload X139.here hx rfl (hb hby at_149) rfl k) ?_
            refine own_step (fun t k => XS.iload X139.here hx rfl (hb hby at_151) rfl k) ?_
            show own_Goes _ _ _ _ T139 (mkF m 153 #[.val (.int p1), .val (.int p2), .val (.int p3), .val (.int p4), .val (.int p5), .val (.int p6), .val (.int i1), .val (.int i2), .val (.int c0), .val (.int c1), .val (.int d0), .val (.int d1), .val (.int (0 : Int32)), .val (.int (2 : Int32)), .val (.ref b122), .unset] [(.int (2 : Int32)), (.int (0 : Int32))])
            refine own_step (fun t k => XS.icmpYes X139.here hx rfl (pc0 := 153) (pc' := 186) rfl (hb hby at_153) rfl (feq (show ¬ ((0 : Int32) = (2 : Int32)) from (by decide))).2 (by decide) (by decide) k) ?_
            refine own_step (fun t k => XS.iconst X139.here hx rfl (hb hby at_186) k) ?_
            refine own_step (fun t k => XS.istore X139.here hx rfl (hb hby at_187) rfl (l' := #[.val (.int p1), .val (.int p2), .val (.int p3), .val (.int p4), .val (.int p5), .val (.int p6), .val (.int i1), .val (.int i2), .val (.int c0), .val (.int c1), .val (.int d0), .val (.int d1), .val (.int (0 : Int32)), .val (.int (2 : Int32)), .val (.ref b122), .val (.int (0 : Int32))]) rfl k) ?_
            refine own_step (fun t k => XS.aload X139.here hx rfl (hb hby at_189) rfl rfl k) ?_
            refine own_step (fun t k => XS.iload X139.here hx rfl (hb hby at_191) rfl k) ?_
            show own_Goes _ _ _ _ T139 (mkF m 193 #[.val (.int p1), .val (.int p2), .val (.int p3), .val (.int p4), .val (.int p5), .val (.int p6), .val (.int i1), .val (.int i2), .val (.int c0), .val (.int c1), .val (.int d0), .val (.int d1), .val (.int (0 : Int32)), .val (.int (2 : Int32)), .val (.ref b122), .val (.int (0 : Int32))] [(.int i2), (.ref b122)])
            have S_HEADER_v141 := (own_staKeep (own_staKeep S_HEADER_v123 Kq134 all0) Kq139 (allS (own_plainE A122_v135) all0))
            have S_IDENTIFIER_v142 := (own_staKeep (own_staKeep S_IDENTIFIER_v124 Kq134 all0) Kq139 (allS (own_plainE A122_v135) all0))
            have S_NUMBER_v143 := (own_staKeep (own_staKeep S_NUMBER_v125 Kq134 all0) Kq139 (allS (own_plainE A122_v135) all0))
            have S_STRING_v144 := (own_staKeep (own_staKeep S_STRING_v126 Kq134 all0) Kq139 (allS (own_plainE A122_v135) all0))
            have S_ALIAS_v145 := (own_staKeep (own_staKeep S_ALIAS_v127 Kq134 all0) Kq139 (allS (own_plainE A122_v135) all0))
            have S_SYMBOL_v146 := (own_staKeep (own_staKeep S_SYMBOL_v128 Kq134 all0) Kq139 (allS (own_plainE A122_v135) all0))
            have S_BODY_v147 := (own_staKeep (own_staKeep S_BODY_v129 Kq134 all0) Kq139 (allS (own_plainE A122_v135) all0))
            have S_END_v148 := (own_staKeep (own_staKeep S_END_v130 Kq134 all0) Kq139 (allS (own_plainE A122_v135) all0))
            have S_ABORT_v149 := (own_staKeep (own_staKeep S_ABORT_v131 Kq134 all0) Kq139 (allS (own_plainE A122_v135) all0))
            have S_EOF_v150 := (own_staKeep (own_staKeep S_EOF_v132 Kq134 all0) Kq139 (allS (own_plainE A122_v135) all0))
            refine own_callS X139 hx hZ (y := (⟨"com/example/weaverbird/weaverbird/automaton/TokenIsPinLaw", "type", "(I)Lcom/example/weaverbird/weaverbird/automaton/HoaLexer$Type;"⟩ : MethodName)) hown (hw _ (List.mem_of_getElem? (i := 4) rfl)) (hw _ (List.mem_of_getElem? (i := 5) rfl)) (hw _ (List.mem_of_getElem? (i := 6) rfl)) (hw _ (List.mem_of_getElem? (i := 7) rfl)) (by decide) 1 [(.int i2)] [(.ref b122)] (own_type l Z a0 hw [] i2 y2 w_HEADER w_IDENTIFIER w_NUMBER w_STRING w_ALIAS w_SYMBOL w_BODY w_END w_ABORT w_EOF T139.heap n0 (Nat.le_trans Z0 K139.1) S_HEADER_v141 S_IDENTIFIER_v142 S_NUMBER_v143 S_STRING_v144 S_ALIAS_v145 S_SYMBOL_v146 S_BODY_v147 S_END_v148 S_ABORT_v149 S_EOF_v150 hy2) rfl  (by decide) (by decide) (by decide) (by decide) (g := (mkF m 193 #[.val (.int p1), .val (.int p2), .val (.int p3), .val (.int p4), .val (.int p5), .val (.int p6), .val (.int i1), .val (.int i2), .val (.int c0), .val (.int c1), .val (.int d0), .val (.int d1), .val (.int (0 : Int32)), .val (.int (2 : Int32)), .val (.ref b122), .val (.int (0 : Int32))] [(.int i2), (.ref b122)])) rfl (by rw [hml]; rfl) own_pd8 rfl rfl (by show 2 * 0 + _ ≤ _; exact Nat.le_of_eq rfl) (hb hby at_193) ?_
            intro T151 v151 L151 X151 hQ151
            obtain ⟨rfl, N151q, e151⟩ := hQ151
            have N151 := Fr.app N139 N151q
            refine own_step (fun t k => XS.iload X151.here hx rfl (hb hby at_196) rfl k) ?_
            refine own_step (fun t k => XS.iload X151.here hx rfl (hb hby at_198) rfl k) ?_
            refine own_step (fun t k => XS.iload X151.here hx rfl (hb hby at_200) rfl k) ?_
            show own_Goes _ _ _ _ T151 (mkF m 202 #[.val (.int p1), .val (.int p2), .val (.int p3), .val (.int p4), .val (.int p5), .val (.int p6), .val (.int i1), .val (.int i2), .val (.int c0), .val (.int c1), .val (.int d0), .val (.int d1), .val (.int (0 : Int32)), .val (.int (2 : Int32)), .val (.ref b122), .val (.int (0 : Int32))] [(.int d1), (.int d0), (.int (2 : Int32)), (.ref y2), (.ref b122)])
            have S_COMPACT_STRINGS_v152 := (own_staKeep (own_staKeep (S_COMPACT_STRINGS.ext E122) Kq134 all0) Kq139 (allS (own_plainE A122_v135) all0))
            refine own_callS X151 hx hZ (y := (⟨"com/example/weaverbird/weaverbird/automaton/TokenIsPinLaw", "str", "(ICC)Ljava/lang/String;"⟩ : MethodName)) hown (hw _ (List.mem_of_getElem? (i := 11) rfl)) (hw _ (List.mem_of_getElem? (i := 12) rfl)) (hw _ (List.mem_of_getElem? (i := 6) rfl)) (hw _ (List.mem_of_getElem? (i := 13) rfl)) (by decide) 2 [(.int (2 : Int32)), (.int d0), (.int d1)] [(.ref y2), (.ref b122)] (own_str2 l Z a0 hw [] d0 d1 zc T139.heap n0 (Nat.le_trans Z0 K139.1) S_COMPACT_STRINGS_v152 hd0a hd0b hd1a hd1b hz) e151  (by decide) (by decide) (by decide) (by decide) (g := (mkF m 202 #[.val (.int p1), .val (.int p2), .val (.int p3), .val (.int p4), .val (.int p5), .val (.int p6), .val (.int i1), .val (.int i2), .val (.int c0), .val (.int c1), .val (.int d0), .val (.int d1), .val (.int (0 : Int32)), .val (.int (2 : Int32)), .val (.ref b122), .val (.int (0 : Int32))] [(.int d1), (.int d0), (.int (2 : Int32)), (.ref y2), (.ref b122)])) rfl (by rw [hml]; rfl) own_pd9 rfl rfl (by show 2 * 0 + _ ≤ _; exact Nat.le_of_eq rfl) (hb hby at_202) ?_
            intro T153 v153 L153 X153 hQ153
            have q134_0'_v154 := (q134_0'.keep Kq139)
            have q134_3'_v155 := (q134_3'.keep Kq139 (ninS (Ne.symm ne_b122_f134_0) nin0))
            obtain ⟨b153_0, b153_1, k153_0, rfl, N153q, Kq153, zq153_0, zq153_1, q153_0, q153_1, q153_2, q153_3⟩ := hQ153
            have N153 := Fr.app N151 N153q
            have K153 := K139.trans Kq153 all0
            have g_b153_0 : n0 ≤ b153_0 := Nat.le_trans (Nat.le_trans Z0 K139.1) zq153_0
            have sz_b153_0 : h0.size ≤ b153_0 := Nat.le_trans K139.1 zq153_0
            have ne_b122_b153_0 : b122 ≠ b153_0 := Nat.ne_of_lt (Nat.lt_of_lt_of_le q139_0'.lt zq153_0)
            have ne_b134_0_b153_0 : b134_0 ≠ b153_0 := Nat.ne_of_lt (Nat.lt_of_lt_of_le q134_0'_v154.lt zq153_0)
            have ne_f134_0_b153_0 : f134_0 ≠ b153_0 := Nat.ne_of_lt (Nat.lt_of_lt_of_le q134_3'_v155.lt zq153_0)
            have g_b153_1 : n0 ≤ b153_1 := Nat.le_trans (Nat.le_trans Z0 K139.1) zq153_1
            have sz_b153_1 : h0.size ≤ b153_1 := Nat.le_trans K139.1 zq153_1
            have ne_b122_b153_1 : b122 ≠ b153_1 := Nat.ne_of_lt (Nat.lt_of_lt_of_le q139_0'.lt zq153_1)
            have ne_b134_0_b153_1 : b134_0 ≠ b153_1 := Nat.ne_of_lt (Nat.lt_of_lt_of_le q134_0'_v154.lt zq153_1)
            have ne_f134_0_b153_1 : f134_0 ≠ b153_1 := Nat.ne_of_lt (Nat.lt_of_lt_of_le q134_3'_v155.lt zq153_1)
            have RC153 := RC139.trans (CHr.keep Kq153 all0 HC139)
            have HC153 := CHv.keep Kq153 all0 HC139
            have q153_0' : Exa Z T153.heap b153_0 "java/lang/String" := q153_0
            have q153_1' : Fld Z T153.heap b153_0 "java/lang/String" "coder" "B" (.int (0 : Int32)) := q153_1
            have q153_2' : Fld Z T153.heap b153_0 "java/lang/String" "value" "[B" (.ref b153_1) := q153_2
            have q153_3' : Arv Z T153.heap b153_1 k153_0 .byte (2 : Int32) [(.int (d0.toInt8.toInt32)), (.int (d1.toInt8.toInt32))] (.int (0 : Int32)) := q153_3
            show own_Goes _ _ _ _ T153 (mkF m 205 #[.val (.int p1), .val (.int p2), .val (.int p3), .val (.int p4), .val (.int p5), .val (.int p6), .val (.int i1), .val (.int i2), .val (.int c0), .val (.int c1), .val (.int d0), .val (.int d1), .val (.int (0 : Int32)), .val (.int (2 : Int32)), .val (.ref b122), .val (.int (0 : Int32))] [(.ref b153_0), (.ref y2), (.ref b122)])
            have q139_1'_v156 := (q139_1'.keep Kq153 nin0)
            have q139_2'_v157 := (q139_2'.keep Kq153 nin0)
            have q134_0'_v158 := (q134_0'_v154.keep Kq153)
            have q134_1'_v159 := ((q134_1'.keep Kq139 (ninS (Ne.symm ne_b122_b134_0) nin0)).keep Kq153 nin0)
            have q134_2'_v160 := ((q134_2'.keep Kq139 (ninS (Ne.symm ne_b122_b134_0) nin0)).keep Kq153 nin0)
            have q134_3'_v161 := (q134_3'_v155.keep Kq153 nin0)
            have S_COMPACT_STRINGS_v162 := (own_staKeep S_COMPACT_STRINGS_v152 Kq153 all0)
            have q139_0'_v164 := (q139_0'.keep Kq153)
            refine own_callV X153 hx hZ (y := (⟨"com/example/weaverbird/weaverbird/automaton/HoaLexer$Token", "is", "(Lcom/example/weaverbird/weaverbird/automaton/HoaLexer$Type;Ljava/lang/String;)Z"⟩ : MethodName)) (z := (⟨"com/example/weaverbird/weaverbird/automaton/HoaLexer$Token", "is", "(Lcom/example/weaverbird/weaverbird/automaton/HoaLexer$Type;Ljava/lang/String;)Z"⟩ : MethodName)) hown (hw _ (List.mem_of_getElem? (i := 53) rfl)) (hw _ (List.mem_of_getElem? (i := 54) rfl)) (notFace_of_selects (args := #[]) (mvT hZ (hw _ (List.mem_of_getElem? (i := 56) rfl)))) (hw _ (List.mem_of_getElem? (i := 56) rfl)) (hw _ (List.mem_of_getElem? (i := 55) rfl)) (hw _ (List.mem_of_getElem? (i := 57) rfl)) (hw _ (List.mem_of_getElem? (i := 3) rfl)) (by decide) 0 q139_0'_v164 [(.ref y2), (.ref b153_0)] [] (own_is_02len l Z a0 hw [] b122 y2 b153_0 y1 b134_0 f134_0 b153_1 k134_0 k153_0 (d0.toInt8.toInt32) (d1.toInt8.toInt32) zc T153.heap n0 (Nat.le_trans Z0 K153.1) q139_1'_v156 q139_2'_v157 q134_0'_v158 q153_0' q134_1'_v159 q153_1' q134_2'_v160 q153_2' q134_3'_v161 q153_3' S_COMPACT_STRINGS_v162 (hyeq hc146_140) hz ne_b134_0_b153_0) rfl  (by decide) (by decide) (by decide) (by decide) (g := (mkF m 205 #[.val (.int p1), .val (.int p2), .val (.int p3), .val (.int p4), .val (.int p5), .val (.int p6), .val (.int i1), .val (.int i2), .val (.int c0), .val (.int c1), .val (.int d0), .val (.int d1), .val (.int (0 : Int32)), .val (.int (2 : Int32)), .val (.ref b122), .val (.int (0 : Int32))] [(.ref b153_0), (.ref y2), (.ref b122)])) rfl (by rw [hml]; rfl) own_pd11 rfl rfl (by show 2 * 0 + _ ≤ _; exact Nat.le_of_eq rfl) (hb hby at_205) ?_
            intro T163 v163 L163 X163 hQ163
            obtain ⟨rfl, N163q, e163⟩ := hQ163
            have N163 := Fr.app N153 N163q
            refine own_step (fun t k => XS.iload X163.here hx rfl (hb hby at_208) rfl k) ?_
            show own_Goes _ _ _ _ T163 (mkF m 210 #[.val (.int p1), .val (.int p2), .val (.int p3), .val (.int p4), .val (.int p5), .val (.int p6), .val (.int i1), .val (.int i2), .val (.int c0), .val (.int c1), .val (.int d0), .val (.int d1), .val (.int (0 : Int32)), .val (.int (2 : Int32)), .val (.ref b122), .val (.int (0 : Int32))] [(.int (0 : Int32)), (.int (0 : Int32))])
            refine own_step (fun t k => XS.icmpNo X163.here hx rfl (hb hby at_210) rfl (teq (show (0 : Int32) = (0 : Int32) from (by decide))).2 k) ?_
            refine own_step (fun t k => XS.iconst X163.here hx rfl (hb hby at_213) k) ?_
            refine own_step (fun t k => XS.goto X163.here hx rfl (pc0 := 214) (pc' := 218) rfl (hb hby at_214) (by decide) (by decide) k) ?_
            show own_Goes _ _ _ _ T163 (mkF m 218 #[.val (.int p1), .val (.int p2), .val (.int p3), .val (.int p4), .val (.int p5), .val (.int p6), .val (.int i1), .val (.int i2), .val (.int c0), .val (.int c1), .val (.int d0), .val (.int d1), .val (.int (0 : Int32)), .val (.int (2 : Int32)), .val (.ref b122), .val (.int (0 : Int32))] [(.int (1 : Int32))])
            exact own_outW X163 hlk HS134 (Nat.le_trans (Nat.le_trans (Nat.le_refl _) Kq139.1) Kq153.1) hZ hEL e163 HC153 RC153 (v := some (.int (nar .boolean (1 : Int32)))) (fun q => by rw [hrt] at q; cases q) (fun fs hr => retN X163 hx (t := .boolean) hrt (by simp) (hb hby at_218) hr) ⟨rfl, N163⟩ (by decide) (by decide)
          · refine own_step (fun t k => XS.icmpYes X139.here hx rfl (pc0 := 146) (pc' := 186) rfl (hb hby at_146) rfl (feq (show ¬ (i1 = i2) from hc146_140)).2 (by decide) (by decide) k) ?_
            refine own_step (fun t k => XS.iconst X139.here hx rfl (hb hby at_186) k) ?_
            refine own_step (fun t k => XS.istore X139.here hx rfl (hb hby at_187) rfl (l' := #[.val (.int p1), .val (.int p2), .val (.int p3), .val (.int p4), .val (.int p5), .val (.int p6), .val (.int i1), .val (.int i2), .val (.int c0), .val (.int c1), .val (.int d0), .val (.int d1), .val (.int (0 : Int32)), .val (.int (2 : Int32)), .val (.ref b122), .val (.int (0 : Int32))]) rfl k) ?_
            refine own_step (fun t k => XS.aload X139.here hx rfl (hb hby at_189) rfl rfl k) ?_
            refine own_step (fun t k => XS.iload X139.here hx rfl (hb hby at_191) rfl k) ?_
            show own_Goes _ _ _ _ T139 (mkF m 193 #[.val (.int p1), .val (.int p2), .val (.int p3), .val (.int p4), .val (.int p5), .val (.int p6), .val (.int i1), .val (.int i2), .val (.int c0), .val (.int c1), .val (.int d0), .val (.int d1), .val (.int (0 : Int32)), .val (.int (2 : Int32)), .val (.ref b122), .val (.int (0 : Int32))] [(.int i2), (.ref b122)])
            have S_HEADER_v165 := (own_staKeep (own_staKeep S_HEADER_v123 Kq134 all0) Kq139 (allS (own_plainE A122_v135) all0))
            have S_IDENTIFIER_v166 := (own_staKeep (own_staKeep S_IDENTIFIER_v124 Kq134 all0) Kq139 (allS (own_plainE A122_v135) all0))
            have S_NUMBER_v167 := (own_staKeep (own_staKeep S_NUMBER_v125 Kq134 all0) Kq139 (allS (own_plainE A122_v135) all0))
            have S_STRING_v168 := (own_staKeep (own_staKeep S_STRING_v126 Kq134 all0) Kq139 (allS (own_plainE A122_v135) all0))
            have S_ALIAS_v169 := (own_staKeep (own_staKeep S_ALIAS_v127 Kq134 all0) Kq139 (allS (own_plainE A122_v135) all0))
            have S_SYMBOL_v170 := (own_staKeep (own_staKeep S_SYMBOL_v128 Kq134 all0) Kq139 (allS (own_plainE A122_v135) all0))
            have S_BODY_v171 := (own_staKeep (own_staKeep S_BODY_v129 Kq134 all0) Kq139 (allS (own_plainE A122_v135) all0))
            have S_END_v172 := (own_staKeep (own_staKeep S_END_v130 Kq134 all0) Kq139 (allS (own_plainE A122_v135) all0))
            have S_ABORT_v173 := (own_staKeep (own_staKeep S_ABORT_v131 Kq134 all0) Kq139 (allS (own_plainE A122_v135) all0))
            have S_EOF_v174 := (own_staKeep (own_staKeep S_EOF_v132 Kq134 all0) Kq139 (allS (own_plainE A122_v135) all0))
            refine own_callS X139 hx hZ (y := (⟨"com/example/weaverbird/weaverbird/automaton/TokenIsPinLaw", "type", "(I)Lcom/example/weaverbird/weaverbird/automaton/HoaLexer$Type;"⟩ : MethodName)) hown (hw _ (List.mem_of_getElem? (i := 4) rfl)) (hw _ (List.mem_of_getElem? (i := 5) rfl)) (hw _ (List.mem_of_getElem? (i := 6) rfl)) (hw _ (List.mem_of_getElem? (i := 7) rfl)) (by decide) 1 [(.int i2)] [(.ref b122)] (own_type l Z a0 hw [] i2 y2 w_HEADER w_IDENTIFIER w_NUMBER w_STRING w_ALIAS w_SYMBOL w_BODY w_END w_ABORT w_EOF T139.heap n0 (Nat.le_trans Z0 K139.1) S_HEADER_v165 S_IDENTIFIER_v166 S_NUMBER_v167 S_STRING_v168 S_ALIAS_v169 S_SYMBOL_v170 S_BODY_v171 S_END_v172 S_ABORT_v173 S_EOF_v174 hy2) rfl  (by decide) (by decide) (by decide) (by decide) (g := (mkF m 193 #[.val (.int p1), .val (.int p2), .val (.int p3), .val (.int p4), .val (.int p5), .val (.int p6), .val (.int i1), .val (.int i2), .val (.int c0), .val (.int c1), .val (.int d0), .val (.int d1), .val (.int (0 : Int32)), .val (.int (2 : Int32)), .val (.ref b122), .val (.int (0 : Int32))] [(.int i2), (.ref b122)])) rfl (by rw [hml]; rfl) own_pd8 rfl rfl (by show 2 * 0 + _ ≤ _; exact Nat.le_of_eq rfl) (hb hby at_193) ?_
            intro T175 v175 L175 X175 hQ175
            obtain ⟨rfl, N175q, e175⟩ := hQ175
            have N175 := Fr.app N139 N175q
            refine own_step (fun t k => XS.iload X175.here hx rfl (hb hby at_196) rfl k) ?_
            refine own_step (fun t k => XS.iload X175.here hx rfl (hb hby at_198) rfl k) ?_
            refine own_step (fun t k => XS.iload X175.here hx rfl (hb hby at_200) rfl k) ?_
            show own_Goes _ _ _ _ T175 (mkF m 202 #[.val (.int p1), .val (.int p2), .val (.int p3), .val (.int p4), .val (.int p5), .val (.int p6), .val (.int i1), .val (.int i2), .val (.int c0), .val (.int c1), .val (.int d0), .val (.int d1), .val (.int (0 : Int32)), .val (.int (2 : Int32)), .val (.ref b122), .val (.int (0 : Int32))] [(.int d1), (.int d0), (.int (2 : Int32)), (.ref y2), (.ref b122)])
            have S_COMPACT_STRINGS_v176 := (own_staKeep (own_staKeep (S_COMPACT_STRINGS.ext E122) Kq134 all0) Kq139 (allS (own_plainE A122_v135) all0))
            refine own_callS X175 hx hZ (y := (⟨"com/example/weaverbird/weaverbird/automaton/TokenIsPinLaw", "str", "(ICC)Ljava/lang/String;"⟩ : MethodName)) hown (hw _ (List.mem_of_getElem? (i := 11) rfl)) (hw _ (List.mem_of_getElem? (i := 12) rfl)) (hw _ (List.mem_of_getElem? (i := 6) rfl)) (hw _ (List.mem_of_getElem? (i := 13) rfl)) (by decide) 2 [(.int (2 : Int32)), (.int d0), (.int d1)] [(.ref y2), (.ref b122)] (own_str2 l Z a0 hw [] d0 d1 zc T139.heap n0 (Nat.le_trans Z0 K139.1) S_COMPACT_STRINGS_v176 hd0a hd0b hd1a hd1b hz) e175  (by decide) (by decide) (by decide) (by decide) (g := (mkF m 202 #[.val (.int p1), .val (.int p2), .val (.int p3), .val (.int p4), .val (.int p5), .val (.int p6), .val (.int i1), .val (.int i2), .val (.int c0), .val (.int c1), .val (.int d0), .val (.int d1), .val (.int (0 : Int32)), .val (.int (2 : Int32)), .val (.ref b122), .val (.int (0 : Int32))] [(.int d1), (.int d0), (.int (2 : Int32)), (.ref y2), (.ref b122)])) rfl (by rw [hml]; rfl) own_pd9 rfl rfl (by show 2 * 0 + _ ≤ _; exact Nat.le_of_eq rfl) (hb hby at_202) ?_
            intro T177 v177 L177 X177 hQ177
            have q134_0'_v178 := (q134_0'.keep Kq139)
            have q134_3'_v179 := (q134_3'.keep Kq139 (ninS (Ne.symm ne_b122_f134_0) nin0))
            obtain ⟨b177_0, b177_1, k177_0, rfl, N177q, Kq177, zq177_0, zq177_1, q177_0, q177_1, q177_2, q177_3⟩ := hQ177
            have N177 := Fr.app N175 N177q
            have K177 := K139.trans Kq177 all0
            have g_b177_0 : n0 ≤ b177_0 := Nat.le_trans (Nat.le_trans Z0 K139.1) zq177_0
            have sz_b177_0 : h0.size ≤ b177_0 := Nat.le_trans K139.1 zq177_0
            have ne_b122_b177_0 : b122 ≠ b177_0 := Nat.ne_of_lt (Nat.lt_of_lt_of_le q139_0'.lt zq177_0)
            have ne_b134_0_b177_0 : b134_0 ≠ b177_0 := Nat.ne_of_lt (Nat.lt_of_lt_of_le q134_0'_v178.lt zq177_0)
            have ne_f134_0_b177_0 : f134_0 ≠ b177_0 := Nat.ne_of_lt (Nat.lt_of_lt_of_le q134_3'_v179.lt zq177_0)
            have g_b177_1 : n0 ≤ b177_1 := Nat.le_trans (Nat.le_trans Z0 K139.1) zq177_1
            have sz_b177_1 : h0.size ≤ b177_1 := Nat.le_trans K139.1 zq177_1
            have ne_b122_b177_1 : b122 ≠ b177_1 := Nat.ne_of_lt (Nat.lt_of_lt_of_le q139_0'.lt zq177_1)
            have ne_b134_0_b177_1 : b134_0 ≠ b177_1 := Nat.ne_of_lt (Nat.lt_of_lt_of_le q134_0'_v178.lt zq177_1)
            have ne_f134_0_b177_1 : f134_0 ≠ b177_1 := Nat.ne_of_lt (Nat.lt_of_lt_of_le q134_3'_v179.lt zq177_1)
            have RC177 := RC139.trans (CHr.keep Kq177 all0 HC139)
            have HC177 := CHv.keep Kq177 all0 HC139
            have q177_0' : Exa Z T177.heap b177_0 "java/lang/String" := q177_0
            have q177_1' : Fld Z T177.heap b177_0 "java/lang/String" "coder" "B" (.int (0 : Int32)) := q177_1
            have q177_2' : Fld Z T177.heap b177_0 "java/lang/String" "value" "[B" (.ref b177_1) := q177_2
            have q177_3' : Arv Z T177.heap b177_1 k177_0 .byte (2 : Int32) [(.int (d0.toInt8.toInt32)), (.int (d1.toInt8.toInt32))] (.int (0 : Int32)) := q177_3
            show own_Goes _ _ _ _ T177 (mkF m 205 #[.val (.int p1), .val (.int p2), .val (.int p3), .val (.int p4), .val (.int p5), .val (.int p6), .val (.int i1), .val (.int i2), .val (.int c0), .val (.int c1), .val (.int d0), .val (.int d1), .val (.int (0 : Int32)), .val (.int (2 : Int32)), .val (.ref b122), .val (.int (0 : Int32))] [(.ref b177_0), (.ref y2), (.ref b122)])
            have q139_1'_v180 := (q139_1'.keep Kq177 nin0)
            have q139_0'_v182 := (q139_0'.keep Kq177)
            refine own_callV X177 hx hZ (y := (⟨"com/example/weaverbird/weaverbird/automaton/HoaLexer$Token", "is", "(Lcom/example/weaverbird/weaverbird/automaton/HoaLexer$Type;Ljava/lang/String;)Z"⟩ : MethodName)) (z := (⟨"com/example/weaverbird/weaverbird/automaton/HoaLexer$Token", "is", "(Lcom/example/weaverbird/weaverbird/automaton/HoaLexer$Type;Ljava/lang/String;)Z"⟩ : MethodName)) hown (hw _ (List.mem_of_getElem? (i := 53) rfl)) (hw _ (List.mem_of_getElem? (i := 54) rfl)) (notFace_of_selects (args := #[]) (mvT hZ (hw _ (List.mem_of_getElem? (i := 56) rfl)))) (hw _ (List.mem_of_getElem? (i := 56) rfl)) (hw _ (List.mem_of_getElem? (i := 55) rfl)) (hw _ (List.mem_of_getElem? (i := 57) rfl)) (hw _ (List.mem_of_getElem? (i := 3) rfl)) (by decide) 0 q139_0'_v182 [(.ref y2), (.ref b177_0)] [] (own_is_ne l Z a0 hw [] b122 y2 b177_0 y1 T177.heap n0 (Nat.le_trans Z0 K177.1) q139_1'_v180 (hyne hc146_140)) rfl  (by decide) (by decide) (by decide) (by decide) (g := (mkF m 205 #[.val (.int p1), .val (.int p2), .val (.int p3), .val (.int p4), .val (.int p5), .val (.int p6), .val (.int i1), .val (.int i2), .val (.int c0), .val (.int c1), .val (.int d0), .val (.int d1), .val (.int (0 : Int32)), .val (.int (2 : Int32)), .val (.ref b122), .val (.int (0 : Int32))] [(.ref b177_0), (.ref y2), (.ref b122)])) rfl (by rw [hml]; rfl) own_pd11 rfl rfl (by show 2 * 0 + _ ≤ _; exact Nat.le_of_eq rfl) (hb hby at_205) ?_
            intro T181 v181 L181 X181 hQ181
            obtain ⟨rfl, N181q, e181⟩ := hQ181
            have N181 := Fr.app N177 N181q
            refine own_step (fun t k => XS.iload X181.here hx rfl (hb hby at_208) rfl k) ?_
            show own_Goes _ _ _ _ T181 (mkF m 210 #[.val (.int p1), .val (.int p2), .val (.int p3), .val (.int p4), .val (.int p5), .val (.int p6), .val (.int i1), .val (.int i2), .val (.int c0), .val (.int c1), .val (.int d0), .val (.int d1), .val (.int (0 : Int32)), .val (.int (2 : Int32)), .val (.ref b122), .val (.int (0 : Int32))] [(.int (0 : Int32)), (.int (0 : Int32))])
            refine own_step (fun t k => XS.icmpNo X181.here hx rfl (hb hby at_210) rfl (teq (show (0 : Int32) = (0 : Int32) from (by decide))).2 k) ?_
            refine own_step (fun t k => XS.iconst X181.here hx rfl (hb hby at_213) k) ?_
            refine own_step (fun t k => XS.goto X181.here hx rfl (pc0 := 214) (pc' := 218) rfl (hb hby at_214) (by decide) (by decide) k) ?_
            show own_Goes _ _ _ _ T181 (mkF m 218 #[.val (.int p1), .val (.int p2), .val (.int p3), .val (.int p4), .val (.int p5), .val (.int p6), .val (.int i1), .val (.int i2), .val (.int c0), .val (.int c1), .val (.int d0), .val (.int d1), .val (.int (0 : Int32)), .val (.int (2 : Int32)), .val (.ref b122), .val (.int (0 : Int32))] [(.int (1 : Int32))])
            exact own_outW X181 hlk HS134 (Nat.le_trans (Nat.le_trans (Nat.le_refl _) Kq139.1) Kq177.1) hZ hEL e181 HC177 RC177 (v := some (.int (nar .boolean (1 : Int32)))) (fun q => by rw [hrt] at q; cases q) (fun fs hr => retN X181 hx (t := .boolean) hrt (by simp) (hb hby at_218) hr) ⟨rfl, N181⟩ (by decide) (by decide)
        · show own_Goes _ _ _ _ s₁ (mkF m 117 #[.val (.int p1), .val (.int p2), .val (.int p3), .val (.int p4), .val (.int p5), .val (.int p6), .val (.int i1), .val (.int i2), .val (.int c0), .val (.int c1), .val (.int d0), .val (.int d1), .val (.int (1 : Int32)), .val (.int (0 : Int32)), .unset, .unset] [])
          obtain ⟨T183, h183, X183, e183, E183, A183, D183, -, st183⟩ := newO X0 hx hZ hown (hw _ (List.mem_of_getElem? (i := 1) rfl)) (hw _ (List.mem_of_getElem? (i := 2) rfl)) (hw _ (List.mem_of_getElem? (i := 3) rfl)) e0 (g := (mkF m 117 #[.val (.int p1), .val (.int p2), .val (.int p3), .val (.int p4), .val (.int p5), .val (.int p6), .val (.int i1), .val (.int i2), .val (.int c0), .val (.int c1), .val (.int d0), .val (.int d1), .val (.int (1 : Int32)), .val (.int (0 : Int32)), .unset, .unset] [])) rfl (hb hby at_117) (by decide) (by decide)
          obtain ⟨b183, g183⟩ : ∃ z, z = h0.size := ⟨_, rfl⟩
          rw [← g183] at A183 D183 st183
          refine own_step st183 ?_
          have g_b183 : n0 ≤ b183 := Nat.le_trans Z0 (Nat.le_of_eq g183.symm)
          have sz_b183 : h0.size ≤ b183 := Nat.le_trans (Keep.refl h0 []).1 (Nat.le_of_eq g183.symm)
          have K183 := (Keep.refl h0 []).ext E183
          have RC183 := RC0.trans (CHr.ext E183 HC0)
          have HC183 := CHv.ext E183 HC0
          have F_b183_type : Fld Z h183 b183 "com/example/weaverbird/weaverbird/automaton/HoaLexer$Token" "type" "Lcom/example/weaverbird/weaverbird/automaton/HoaLexer$Type;" .null := D183 (Or.inr (hw _ (List.mem_of_getElem? (i := 46) rfl))) (ty := (.object "com/example/weaverbird/weaverbird/automaton/HoaLexer$Type")) (by decide)
          have F_b183_text : Fld Z h183 b183 "com/example/weaverbird/weaverbird/automaton/HoaLexer$Token" "text" "Ljava/lang/String;" .null := D183 (Or.inr (hw _ (List.mem_of_getElem? (i := 48) rfl))) (ty := (.object "java/lang/String")) (by decide)
          have F_b183_line : Fld Z h183 b183 "com/example/weaverbird/weaverbird/automaton/HoaLexer$Token" "line" "I" (.int (0 : Int32)) := D183 (Or.inr (hw _ (List.mem_of_getElem? (i := 50) rfl))) (ty := .int) (by decide)
          refine own_step (fun t k => XS.dup X183.here hx rfl (hb hby at_120) rfl rfl k) ?_
          refine own_step (fun t k => XS.iload X183.here hx rfl (hb hby at_121) rfl k) ?_
          show own_Goes _ _ _ _ T183 (mkF m 123 #[.val (.int p1), .val (.int p2), .val (.int p3), .val (.int p4), .val (.int p5), .val (.int p6), .val (.int i1), .val (.int i2), .val (.int c0), .val (.int c1), .val (.int d0), .val (.int d1), .val (.int (1 : Int32)), .val (.int (0 : Int32)), .unset, .unset] [(.int i1), (.ref b183), (.ref b183)])
          have S_HEADER_v184 := (S_HEADER.ext E183)
          have S_IDENTIFIER_v185 := (S_IDENTIFIER.ext E183)
          have S_NUMBER_v186 := (S_NUMBER.ext E183)
          have S_STRING_v187 := (S_STRING.ext E183)
          have S_ALIAS_v188 := (S_ALIAS.ext E183)
          have S_SYMBOL_v189 := (S_SYMBOL.ext E183)
          have S_BODY_v190 := (S_BODY.ext E183)
          have S_END_v191 := (S_END.ext E183)
          have S_ABORT_v192 := (S_ABORT.ext E183)
          have S_EOF_v193 := (S_EOF.ext E183)
          refine own_callS X183 hx hZ (y := (⟨"com/example/weaverbird/weaverbird/automaton/TokenIsPinLaw", "type", "(I)Lcom/example/weaverbird/weaverbird/automaton/HoaLexer$Type;"⟩ : MethodName)) hown (hw _ (List.mem_of_getElem? (i := 4) rfl)) (hw _ (List.mem_of_getElem? (i := 5) rfl)) (hw _ (List.mem_of_getElem? (i := 6) rfl)) (hw _ (List.mem_of_getElem? (i := 7) rfl)) (by decide) 2 [(.int i1)] [(.ref b183), (.ref b183)] (own_type l Z a0 hw [] i1 y1 w_HEADER w_IDENTIFIER w_NUMBER w_STRING w_ALIAS w_SYMBOL w_BODY w_END w_ABORT w_EOF h183 n0 (Nat.le_trans Z0 K183.1) S_HEADER_v184 S_IDENTIFIER_v185 S_NUMBER_v186 S_STRING_v187 S_ALIAS_v188 S_SYMBOL_v189 S_BODY_v190 S_END_v191 S_ABORT_v192 S_EOF_v193 hy1) e183  (by decide) (by decide) (by decide) (by decide) (g := (mkF m 123 #[.val (.int p1), .val (.int p2), .val (.int p3), .val (.int p4), .val (.int p5), .val (.int p6), .val (.int i1), .val (.int i2), .val (.int c0), .val (.int c1), .val (.int d0), .val (.int d1), .val (.int (1 : Int32)), .val (.int (0 : Int32)), .unset, .unset] [(.int i1), (.ref b183), (.ref b183)])) rfl (by rw [hml]; rfl) own_pd8 rfl rfl (by show 2 * 0 + _ ≤ _; exact Nat.le_of_eq rfl) (hb hby at_123) ?_
          intro T194 v194 L194 X194 hQ194
          obtain ⟨rfl, N194q, e194⟩ := hQ194
          have N194 := Fr.app N0 N194q
          refine own_step (fun t k => XS.iload X194.here hx rfl (hb hby at_126) rfl k) ?_
          refine own_step (fun t k => XS.iload X194.here hx rfl (hb hby at_128) rfl k) ?_
          refine own_step (fun t k => XS.iload X194.here hx rfl (hb hby at_130) rfl k) ?_
          show own_Goes _ _ _ _ T194 (mkF m 132 #[.val (.int p1), .val (.int p2), .val (.int p3), .val (.int p4), .val (.int p5), .val (.int p6), .val (.int i1), .val (.int i2), .val (.int c0), .val (.int c1), .val (.int d0), .val (.int d1), .val (.int (1 : Int32)), .val (.int (0 : Int32)), .unset, .unset] [(.int c1), (.int c0), (.int (1 : Int32)), (.ref y1), (.ref b183), (.ref b183)])
          have S_COMPACT_STRINGS_v195 := (S_COMPACT_STRINGS.ext E183)
          refine own_callS X194 hx hZ (y := (⟨"com/example/weaverbird/weaverbird/automaton/TokenIsPinLaw", "str", "(ICC)Ljava/lang/String;"⟩ : MethodName)) hown (hw _ (List.mem_of_getElem? (i := 11) rfl)) (hw _ (List.mem_of_getElem? (i := 12) rfl)) (hw _ (List.mem_of_getElem? (i := 6) rfl)) (hw _ (List.mem_of_getElem? (i := 13) rfl)) (by decide) 3 [(.int (1 : Int32)), (.int c0), (.int c1)] [(.ref y1), (.ref b183), (.ref b183)] (own_str1 l Z a0 hw [] c0 c1 zc h183 n0 (Nat.le_trans Z0 K183.1) S_COMPACT_STRINGS_v195 hc0a hc0b hz) e194  (by decide) (by decide) (by decide) (by decide) (g := (mkF m 132 #[.val (.int p1), .val (.int p2), .val (.int p3), .val (.int p4), .val (.int p5), .val (.int p6), .val (.int i1), .val (.int i2), .val (.int c0), .val (.int c1), .val (.int d0), .val (.int d1), .val (.int (1 : Int32)), .val (.int (0 : Int32)), .unset, .unset] [(.int c1), (.int c0), (.int (1 : Int32)), (.ref y1), (.ref b183), (.ref b183)])) rfl (by rw [hml]; rfl) own_pd9 rfl rfl (by show 2 * 0 + _ ≤ _; exact Nat.le_of_eq rfl) (hb hby at_132) ?_
          intro T196 v196 L196 X196 hQ196
          obtain ⟨b196_0, b196_1, k196_0, rfl, N196q, Kq196, zq196_0, zq196_1, q196_0, q196_1, q196_2, q196_3⟩ := hQ196
          have N196 := Fr.app N194 N196q
          have K196 := K183.trans Kq196 all0
          have g_b196_0 : n0 ≤ b196_0 := Nat.le_trans (Nat.le_trans Z0 K183.1) zq196_0
          have sz_b196_0 : h0.size ≤ b196_0 := Nat.le_trans K183.1 zq196_0
          have ne_b183_b196_0 : b183 ≠ b196_0 := Nat.ne_of_lt (Nat.lt_of_lt_of_le A183.lt zq196_0)
          have g_b196_1 : n0 ≤ b196_1 := Nat.le_trans (Nat.le_trans Z0 K183.1) zq196_1
          have sz_b196_1 : h0.size ≤ b196_1 := Nat.le_trans K183.1 zq196_1
          have ne_b183_b196_1 : b183 ≠ b196_1 := Nat.ne_of_lt (Nat.lt_of_lt_of_le A183.lt zq196_1)
          have RC196 := RC183.trans (CHr.keep Kq196 all0 HC183)
          have HC196 := CHv.keep Kq196 all0 HC183
          have q196_0' : Exa Z T196.heap b196_0 "java/lang/String" := q196_0
          have q196_1' : Fld Z T196.heap b196_0 "java/lang/String" "coder" "B" (.int (0 : Int32)) := q196_1
          have q196_2' : Fld Z T196.heap b196_0 "java/lang/String" "value" "[B" (.ref b196_1) := q196_2
          have q196_3' : Arv Z T196.heap b196_1 k196_0 .byte (1 : Int32) [(.int (c0.toInt8.toInt32))] (.int (0 : Int32)) := q196_3
          refine own_step (fun t k => XS.iload X196.here hx rfl (hb hby at_135) rfl k) ?_
          show own_Goes _ _ _ _ T196 (mkF m 137 #[.val (.int p1), .val (.int p2), .val (.int p3), .val (.int p4), .val (.int p5), .val (.int p6), .val (.int i1), .val (.int i2), .val (.int c0), .val (.int c1), .val (.int d0), .val (.int d1), .val (.int (1 : Int32)), .val (.int (0 : Int32)), .unset, .unset] [(.int p6), (.ref b196_0), (.ref y1), (.ref b183), (.ref b183)])
          have A183_v197 := (A183.keep Kq196)
          have F_b183_type_v198 := (F_b183_type.keep Kq196 nin0)
          have F_b183_text_v199 := (F_b183_text.keep Kq196 nin0)
          have F_b183_line_v200 := (F_b183_line.keep Kq196 nin0)
          refine own_callC X196 hx hZ (y := (⟨"com/example/weaverbird/weaverbird/automaton/HoaLexer$Token", "<init>", "(Lcom/example/weaverbird/weaverbird/automaton/HoaLexer$Type;Ljava/lang/String;I)V"⟩ : MethodName)) rfl hown (hw _ (List.mem_of_getElem? (i := 36) rfl)) (hw _ (List.mem_of_getElem? (i := 37) rfl)) (hw _ (List.mem_of_getElem? (i := 38) rfl)) (hw _ (List.mem_of_getElem? (i := 3) rfl)) (by decide) 1 (a := b183) [(.ref y1), (.ref b196_0), (.int p6)] [(.ref b183)] (own_tinit l Z a0 hw [] b183 y1 b196_0 p6 T196.heap n0 (Nat.le_trans Z0 K196.1) A183_v197 F_b183_type_v198 F_b183_text_v199 F_b183_line_v200 g_b183) rfl  (by decide) (by decide) (by decide) (by decide) (g := (mkF m 137 #[.val (.int p1), .val (.int p2), .val (.int p3), .val (.int p4), .val (.int p5), .val (.int p6), .val (.int i1), .val (.int i2), .val (.int c0), .val (.int c1), .val (.int d0), .val (.int d1), .val (.int (1 : Int32)), .val (.int (0 : Int32)), .unset, .unset] [(.int p6), (.ref b196_0), (.ref y1), (.ref b183), (.ref b183)])) rfl (by rw [hml]; rfl) own_pd10 rfl rfl (by show 2 * 0 + _ ≤ _; exact Nat.le_of_eq rfl) (hb hby at_137) ?_
          intro T201 v201 L201 X201 hQ201
          obtain ⟨rfl, N201q, Kq201, q201_0, q201_1, q201_2⟩ := hQ201
          have N201 := Fr.app N196 N201q
          have K201 := K196.trans Kq201 (allS (Or.inr sz_b183) all0)
          have RC201 := RC196.trans (CHr.keep Kq201 (allS (Safe.exa hZ.alike A183_v197 (by decide) (by decide)) all0) HC196)
          have HC201 := CHv.keep Kq201 (allS (Safe.exa hZ.alike A183_v197 (by decide) (by decide)) all0) HC196
          have q201_0' : Exa Z T201.heap b183 "com/example/weaverbird/weaverbird/automaton/HoaLexer$Token" := q201_0
          have q201_1' : Fld Z T201.heap b183 "com/example/weaverbird/weaverbird/automaton/HoaLexer$Token" "type" "Lcom/example/weaverbird/weaverbird/automaton/HoaLexer$Type;" (.ref y1) := q201_1
          have q201_2' : Fld Z T201.heap b183 "com/example/weaverbird/weaverbird/automaton/HoaLexer$Token" "text" "Ljava/lang/String;" (.ref b196_0) := q201_2
          refine own_step (fun t k => XS.astore X201.here hx rfl (hb hby at_140) rfl rfl (l' := #[.val (.int p1), .val (.int p2), .val (.int p3), .val (.int p4), .val (.int p5), .val (.int p6), .val (.int i1), .val (.int i2), .val (.int c0), .val (.int c1), .val (.int d0), .val (.int d1), .val (.int (1 : Int32)), .val (.int (0 : Int32)), .val (.ref b183), .unset]) rfl k) ?_
          refine own_step (fun t k => XS.iload X201.here hx rfl (hb hby at_142) rfl k) ?_
          refine own_step (fun t k => XS.iload X201.here hx rfl (hb hby at_144) rfl k) ?_
          show own_Goes _ _ _ _ T201 (mkF m 146 #[.val (.int p1), .val (.int p2), .val (.int p3), .val (.int p4), .val (.int p5), .val (.int p6), .val (.int i1), .val (.int i2), .val (.int c0), .val (.int c1), .val (.int d0), .val (.int d1), .val (.int (1 : Int32)), .val (.int (0 : Int32)), .val (.ref b183), .unset] [(.int i2), (.int i1)])
          by_cases hc146_202 : i1 = i2
          · refine own_step (fun t k => XS.icmpNo X201.here hx rfl (hb hby at_146) rfl (teq (show i1 = i2 from hc146_202)).2 k) ?_
            refine own_step (fun t k => XS.iload X201.here hx rfl (hb hby at_149) rfl k) ?_
            refine own_step (fun t k => XS.iload X201.here hx rfl (hb hby at_151) rfl k) ?_
            show own_Goes _ _ _ _ T201 (mkF m 153 #[.val (.int p1), .val (.int p2), .val (.int p3), .val (.int p4), .val (.int p5), .val (.int p6), .val (.int i1), .val (.int i2), .val (.int c0), .val (.int c1), .val (.int d0), .val (.int d1), .val (.int (1 : Int32)), .val (.int (0 : Int32)), .val (.ref b183), .unset] [(.int (0 : Int32)), (.int (1 : Int32))])
            refine own_step (fun t k => XS.icmpYes X201.here hx rfl (pc0 := 153) (pc' := 186) rfl (hb hby at_153) rfl (feq (show ¬ ((1 : Int32) = (0 : Int32)) from (by decide))).2 (by decide) (by decide) k) ?_
            refine own_step (fun t k => XS.iconst X201.here hx rfl (hb hby at_186) k) ?_
            refine own_step (fun t k => XS.istore X201.here hx rfl (hb hby at_187) rfl (l' := #[.val (.int p1), .val (.int p2), .val (.int p3), .val (.int p4), .val (.int p5), .val (.int p6), .val (.int i1), .val (.int i2), .val (.int c0), .val (.int c1), .val (.int d0), .val (.int d1), .val (.int (1 : Int32)), .val (.int (0 : Int32)), .val (.ref b183), .val (.int (0 : Int32))]) rfl k) ?_
            refine own_step (fun t k => XS.aload X201.here hx rfl (hb hby at_189) rfl rfl k) ?_
            refine own_step (fun t k => XS.iload X201.here hx rfl (hb hby at_191) rfl k) ?_
            show own_Goes _ _ _ _ T201 (mkF m 193 #[.val (.int p1), .val (.int p2), .val (.int p3), .val (.int p4), .val (.int p5), .val (.int p6), .val (.int i1), .val (.int i2), .val (.int c0), .val (.int c1), .val (.int d0), .val (.int d1), .val (.int (1 : Int32)), .val (.int (0 : Int32)), .val (.ref b183), .val (.int (0 : Int32))] [(.int i2), (.ref b183)])
            have S_HEADER_v203 := (own_staKeep (own_staKeep S_HEADER_v184 Kq196 all0) Kq201 (allS (own_plainE A183_v197) all0))
            have S_IDENTIFIER_v204 := (own_staKeep (own_staKeep S_IDENTIFIER_v185 Kq196 all0) Kq201 (allS (own_plainE A183_v197) all0))
            have S_NUMBER_v205 := (own_staKeep (own_staKeep S_NUMBER_v186 Kq196 all0) Kq201 (allS (own_plainE A183_v197) all0))
            have S_STRING_v206 := (own_staKeep (own_staKeep S_STRING_v187 Kq196 all0) Kq201 (allS (own_plainE A183_v197) all0))
            have S_ALIAS_v207 := (own_staKeep (own_staKeep S_ALIAS_v188 Kq196 all0) Kq201 (allS (own_plainE A183_v197) all0))
            have S_SYMBOL_v208 := (own_staKeep (own_staKeep S_SYMBOL_v189 Kq196 all0) Kq201 (allS (own_plainE A183_v197) all0))
            have S_BODY_v209 := (own_staKeep (own_staKeep S_BODY_v190 Kq196 all0) Kq201 (allS (own_plainE A183_v197) all0))
            have S_END_v210 := (own_staKeep (own_staKeep S_END_v191 Kq196 all0) Kq201 (allS (own_plainE A183_v197) all0))
            have S_ABORT_v211 := (own_staKeep (own_staKeep S_ABORT_v192 Kq196 all0) Kq201 (allS (own_plainE A183_v197) all0))
            have S_EOF_v212 := (own_staKeep (own_staKeep S_EOF_v193 Kq196 all0) Kq201 (allS (own_plainE A183_v197) all0))
            refine own_callS X201 hx hZ (y := (⟨"com/example/weaverbird/weaverbird/automaton/TokenIsPinLaw", "type", "(I)Lcom/example/weaverbird/weaverbird/automaton/HoaLexer$Type;"⟩ : MethodName)) hown (hw _ (List.mem_of_getElem? (i := 4) rfl)) (hw _ (List.mem_of_getElem? (i := 5) rfl)) (hw _ (List.mem_of_getElem? (i := 6) rfl)) (hw _ (List.mem_of_getElem? (i := 7) rfl)) (by decide) 1 [(.int i2)] [(.ref b183)] (own_type l Z a0 hw [] i2 y2 w_HEADER w_IDENTIFIER w_NUMBER w_STRING w_ALIAS w_SYMBOL w_BODY w_END w_ABORT w_EOF T201.heap n0 (Nat.le_trans Z0 K201.1) S_HEADER_v203 S_IDENTIFIER_v204 S_NUMBER_v205 S_STRING_v206 S_ALIAS_v207 S_SYMBOL_v208 S_BODY_v209 S_END_v210 S_ABORT_v211 S_EOF_v212 hy2) rfl  (by decide) (by decide) (by decide) (by decide) (g := (mkF m 193 #[.val (.int p1), .val (.int p2), .val (.int p3), .val (.int p4), .val (.int p5), .val (.int p6), .val (.int i1), .val (.int i2), .val (.int c0), .val (.int c1), .val (.int d0), .val (.int d1), .val (.int (1 : Int32)), .val (.int (0 : Int32)), .val (.ref b183), .val (.int (0 : Int32))] [(.int i2), (.ref b183)])) rfl (by rw [hml]; rfl) own_pd8 rfl rfl (by show 2 * 0 + _ ≤ _; exact Nat.le_of_eq rfl) (hb hby at_193) ?_
            intro T213 v213 L213 X213 hQ213
            obtain ⟨rfl, N213q, e213⟩ := hQ213
            have N213 := Fr.app N201 N213q
            refine own_step (fun t k => XS.iload X213.here hx rfl (hb hby at_196) rfl k) ?_
            refine own_step (fun t k => XS.iload X213.here hx rfl (hb hby at_198) rfl k) ?_
            refine own_step (fun t k => XS.iload X213.here hx rfl (hb hby at_200) rfl k) ?_
            show own_Goes _ _ _ _ T213 (mkF m 202 #[.val (.int p1), .val (.int p2), .val (.int p3), .val (.int p4), .val (.int p5), .val (.int p6), .val (.int i1), .val (.int i2), .val (.int c0), .val (.int c1), .val (.int d0), .val (.int d1), .val (.int (1 : Int32)), .val (.int (0 : Int32)), .val (.ref b183), .val (.int (0 : Int32))] [(.int d1), (.int d0), (.int (0 : Int32)), (.ref y2), (.ref b183)])
            refine own_callSW X213 hx hZ (y := (⟨"com/example/weaverbird/weaverbird/automaton/TokenIsPinLaw", "str", "(ICC)Ljava/lang/String;"⟩ : MethodName)) hown (hw _ (List.mem_of_getElem? (i := 11) rfl)) (hw _ (List.mem_of_getElem? (i := 12) rfl)) (hw _ (List.mem_of_getElem? (i := 6) rfl)) (hw _ (List.mem_of_getElem? (i := 13) rfl)) (by decide) 2 [(.int (0 : Int32)), (.int d0), (.int d1)] [(.ref y2), (.ref b183)] (own_str0 l Z a0 hw [] d0 d1 T201.heap n0 (Nat.le_trans Z0 K201.1) ) e213  hEL HC201 HS0 (Nat.le_trans (Nat.le_trans (Nat.le_trans (Nat.le_refl _) E183.1) Kq196.1) Kq201.1) (by decide) (by decide) (by decide) (by decide) (g := (mkF m 202 #[.val (.int p1), .val (.int p2), .val (.int p3), .val (.int p4), .val (.int p5), .val (.int p6), .val (.int i1), .val (.int i2), .val (.int c0), .val (.int c1), .val (.int d0), .val (.int d1), .val (.int (1 : Int32)), .val (.int (0 : Int32)), .val (.ref b183), .val (.int (0 : Int32))] [(.int d1), (.int d0), (.int (0 : Int32)), (.ref y2), (.ref b183)])) rfl (by rw [hml]; rfl) own_pd9 rfl rfl (by show 2 * 0 + _ ≤ _; exact Nat.le_of_eq rfl) (hb hby at_202) ?_
            intro T214 v214 L214 X214 HS214 hZ hown CR214 hQ214
            have RC214 := RC201.trans CR214
            have HC214 := CR214.1
            have q196_0'_v215 := (q196_0'.keep Kq201)
            have q196_3'_v216 := (q196_3'.keep Kq201 (ninS (Ne.symm ne_b183_b196_1) nin0))
            obtain ⟨b214_0, f214_0, k214_0, rfl, N214q, Kq214, zq214_0, q214_0, q214_1, q214_2, q214_3⟩ := hQ214
            have N214 := Fr.app N213 N214q
            have K214 := K201.trans Kq214 all0
            have g_b214_0 : n0 ≤ b214_0 := Nat.le_trans (Nat.le_trans Z0 K201.1) zq214_0
            have sz_b214_0 : h0.size ≤ b214_0 := Nat.le_trans K201.1 zq214_0
            have ne_b183_b214_0 : b183 ≠ b214_0 := Nat.ne_of_lt (Nat.lt_of_lt_of_le q201_0'.lt zq214_0)
            have ne_b196_0_b214_0 : b196_0 ≠ b214_0 := Nat.ne_of_lt (Nat.lt_of_lt_of_le q196_0'_v215.lt zq214_0)
            have ne_b196_1_b214_0 : b196_1 ≠ b214_0 := Nat.ne_of_lt (Nat.lt_of_lt_of_le q196_3'_v216.lt zq214_0)
            have q214_0' : Exa Z T214.heap b214_0 "java/lang/String" := q214_0
            have q214_1' : Fld Z T214.heap b214_0 "java/lang/String" "coder" "B" (.int (0 : Int32)) := q214_1
            have q214_2' : Fld Z T214.heap b214_0 "java/lang/String" "value" "[B" (.ref f214_0) := q214_2
            have q214_3' : Arv Z T214.heap f214_0 k214_0 .byte (0 : Int32) [] (.int (0 : Int32)) := q214_3
            have q201_0'_v217 := (q201_0'.keep Kq214)
            have ne_b183_f214_0 : b183 ≠ f214_0 := Exa.neArv q201_0'_v217 q214_3' (hw _ (List.mem_of_getElem? (i := 2) rfl))
            have q196_0'_v218 := (q196_0'_v215.keep Kq214)
            have ne_b196_0_f214_0 : b196_0 ≠ f214_0 := Exa.neArv q196_0'_v218 q214_3' (hw _ (List.mem_of_getElem? (i := 15) rfl))
            have ne_b214_0_f214_0 : b214_0 ≠ f214_0 := Exa.neArv q214_0' q214_3' (hw _ (List.mem_of_getElem? (i := 15) rfl))
            show own_Goes _ _ _ _ T214 (mkF m 205 #[.val (.int p1), .val (.int p2), .val (.int p3), .val (.int p4), .val (.int p5), .val (.int p6), .val (.int i1), .val (.int i2), .val (.int c0), .val (.int c1), .val (.int d0), .val (.int d1), .val (.int (1 : Int32)), .val (.int (0 : Int32)), .val (.ref b183), .val (.int (0 : Int32))] [(.ref b214_0), (.ref y2), (.ref b183)])
            have q201_1'_v219 := (q201_1'.keep Kq214 nin0)
            have q201_2'_v220 := (q201_2'.keep Kq214 nin0)
            have q196_1'_v221 := ((q196_1'.keep Kq201 (ninS (Ne.symm ne_b183_b196_0) nin0)).keep Kq214 nin0)
            have q196_2'_v222 := ((q196_2'.keep Kq201 (ninS (Ne.symm ne_b183_b196_0) nin0)).keep Kq214 nin0)
            have q196_3'_v223 := (q196_3'_v216.keep Kq214 nin0)
            have S_COMPACT_STRINGS_v224 := (own_staKeep (own_staKeep (own_staKeep S_COMPACT_STRINGS_v195 Kq196 all0) Kq201 (allS (own_plainE A183_v197) all0)) Kq214 all0)
            refine own_callV X214 hx hZ (y := (⟨"com/example/weaverbird/weaverbird/automaton/HoaLexer$Token", "is", "(Lcom/example/weaverbird/weaverbird/automaton/HoaLexer$Type;Ljava/lang/String;)Z"⟩ : MethodName)) (z := (⟨"com/example/weaverbird/weaverbird/automaton/HoaLexer$Token", "is", "(Lcom/example/weaverbird/weaverbird/automaton/HoaLexer$Type;Ljava/lang/String;)Z"⟩ : MethodName)) hown (hw _ (List.mem_of_getElem? (i := 53) rfl)) (hw _ (List.mem_of_getElem? (i := 54) rfl)) (notFace_of_selects (args := #[]) (mvT hZ (hw _ (List.mem_of_getElem? (i := 56) rfl)))) (hw _ (List.mem_of_getElem? (i := 56) rfl)) (hw _ (List.mem_of_getElem? (i := 55) rfl)) (hw _ (List.mem_of_getElem? (i := 57) rfl)) (hw _ (List.mem_of_getElem? (i := 3) rfl)) (by decide) 0 q201_0'_v217 [(.ref y2), (.ref b214_0)] [] (own_is_10len l Z a0 hw [] b183 y2 b214_0 y1 b196_0 b196_1 f214_0 k196_0 k214_0 (c0.toInt8.toInt32) zc T214.heap n0 (Nat.le_trans Z0 K214.1) q201_1'_v219 q201_2'_v220 q196_0'_v218 q214_0' q196_1'_v221 q214_1' q196_2'_v222 q214_2' q196_3'_v223 q214_3' S_COMPACT_STRINGS_v224 (hyeq hc146_202) hz ne_b196_0_b214_0) rfl  (by decide) (by decide) (by decide) (by decide) (g := (mkF m 205 #[.val (.int p1), .val (.int p2), .val (.int p3), .val (.int p4), .val (.int p5), .val (.int p6), .val (.int i1), .val (.int i2), .val (.int c0), .val (.int c1), .val (.int d0), .val (.int d1), .val (.int (1 : Int32)), .val (.int (0 : Int32)), .val (.ref b183), .val (.int (0 : Int32))] [(.ref b214_0), (.ref y2), (.ref b183)])) rfl (by rw [hml]; rfl) own_pd11 rfl rfl (by show 2 * 0 + _ ≤ _; exact Nat.le_of_eq rfl) (hb hby at_205) ?_
            intro T225 v225 L225 X225 hQ225
            obtain ⟨rfl, N225q, e225⟩ := hQ225
            have N225 := Fr.app N214 N225q
            refine own_step (fun t k => XS.iload X225.here hx rfl (hb hby at_208) rfl k) ?_
            show own_Goes _ _ _ _ T225 (mkF m 210 #[.val (.int p1), .val (.int p2), .val (.int p3), .val (.int p4), .val (.int p5), .val (.int p6), .val (.int i1), .val (.int i2), .val (.int c0), .val (.int c1), .val (.int d0), .val (.int d1), .val (.int (1 : Int32)), .val (.int (0 : Int32)), .val (.ref b183), .val (.int (0 : Int32))] [(.int (0 : Int32)), (.int (0 : Int32))])
            refine own_step (fun t k => XS.icmpNo X225.here hx rfl (hb hby at_210) rfl (teq (show (0 : Int32) = (0 : Int32) from (by decide))).2 k) ?_
            refine own_step (fun t k => XS.iconst X225.here hx rfl (hb hby at_213) k) ?_
            refine own_step (fun t k => XS.goto X225.here hx rfl (pc0 := 214) (pc' := 218) rfl (hb hby at_214) (by decide) (by decide) k) ?_
            show own_Goes _ _ _ _ T225 (mkF m 218 #[.val (.int p1), .val (.int p2), .val (.int p3), .val (.int p4), .val (.int p5), .val (.int p6), .val (.int i1), .val (.int i2), .val (.int c0), .val (.int c1), .val (.int d0), .val (.int d1), .val (.int (1 : Int32)), .val (.int (0 : Int32)), .val (.ref b183), .val (.int (0 : Int32))] [(.int (1 : Int32))])
            exact own_outW X225 hlk HS214 (Nat.le_refl _) hZ hEL e225 HC214 RC214 (v := some (.int (nar .boolean (1 : Int32)))) (fun q => by rw [hrt] at q; cases q) (fun fs hr => retN X225 hx (t := .boolean) hrt (by simp) (hb hby at_218) hr) ⟨rfl, N225⟩ (by decide) (by decide)
          · refine own_step (fun t k => XS.icmpYes X201.here hx rfl (pc0 := 146) (pc' := 186) rfl (hb hby at_146) rfl (feq (show ¬ (i1 = i2) from hc146_202)).2 (by decide) (by decide) k) ?_
            refine own_step (fun t k => XS.iconst X201.here hx rfl (hb hby at_186) k) ?_
            refine own_step (fun t k => XS.istore X201.here hx rfl (hb hby at_187) rfl (l' := #[.val (.int p1), .val (.int p2), .val (.int p3), .val (.int p4), .val (.int p5), .val (.int p6), .val (.int i1), .val (.int i2), .val (.int c0), .val (.int c1), .val (.int d0), .val (.int d1), .val (.int (1 : Int32)), .val (.int (0 : Int32)), .val (.ref b183), .val (.int (0 : Int32))]) rfl k) ?_
            refine own_step (fun t k => XS.aload X201.here hx rfl (hb hby at_189) rfl rfl k) ?_
            refine own_step (fun t k => XS.iload X201.here hx rfl (hb hby at_191) rfl k) ?_
            show own_Goes _ _ _ _ T201 (mkF m 193 #[.val (.int p1), .val (.int p2), .val (.int p3), .val (.int p4), .val (.int p5), .val (.int p6), .val (.int i1), .val (.int i2), .val (.int c0), .val (.int c1), .val (.int d0), .val (.int d1), .val (.int (1 : Int32)), .val (.int (0 : Int32)), .val (.ref b183), .val (.int (0 : Int32))] [(.int i2), (.ref b183)])
            have S_HEADER_v226 := (own_staKeep (own_staKeep S_HEADER_v184 Kq196 all0) Kq201 (allS (own_plainE A183_v197) all0))
            have S_IDENTIFIER_v227 := (own_staKeep (own_staKeep S_IDENTIFIER_v185 Kq196 all0) Kq201 (allS (own_plainE A183_v197) all0))
            have S_NUMBER_v228 := (own_staKeep (own_staKeep S_NUMBER_v186 Kq196 all0) Kq201 (allS (own_plainE A183_v197) all0))
            have S_STRING_v229 := (own_staKeep (own_staKeep S_STRING_v187 Kq196 all0) Kq201 (allS (own_plainE A183_v197) all0))
            have S_ALIAS_v230 := (own_staKeep (own_staKeep S_ALIAS_v188 Kq196 all0) Kq201 (allS (own_plainE A183_v197) all0))
            have S_SYMBOL_v231 := (own_staKeep (own_staKeep S_SYMBOL_v189 Kq196 all0) Kq201 (allS (own_plainE A183_v197) all0))
            have S_BODY_v232 := (own_staKeep (own_staKeep S_BODY_v190 Kq196 all0) Kq201 (allS (own_plainE A183_v197) all0))
            have S_END_v233 := (own_staKeep (own_staKeep S_END_v191 Kq196 all0) Kq201 (allS (own_plainE A183_v197) all0))
            have S_ABORT_v234 := (own_staKeep (own_staKeep S_ABORT_v192 Kq196 all0) Kq201 (allS (own_plainE A183_v197) all0))
            have S_EOF_v235 := (own_staKeep (own_staKeep S_EOF_v193 Kq196 all0) Kq201 (allS (own_plainE A183_v197) all0))
            refine own_callS X201 hx hZ (y := (⟨"com/example/weaverbird/weaverbird/automaton/TokenIsPinLaw", "type", "(I)Lcom/example/weaverbird/weaverbird/automaton/HoaLexer$Type;"⟩ : MethodName)) hown (hw _ (List.mem_of_getElem? (i := 4) rfl)) (hw _ (List.mem_of_getElem? (i := 5) rfl)) (hw _ (List.mem_of_getElem? (i := 6) rfl)) (hw _ (List.mem_of_getElem? (i := 7) rfl)) (by decide) 1 [(.int i2)] [(.ref b183)] (own_type l Z a0 hw [] i2 y2 w_HEADER w_IDENTIFIER w_NUMBER w_STRING w_ALIAS w_SYMBOL w_BODY w_END w_ABORT w_EOF T201.heap n0 (Nat.le_trans Z0 K201.1) S_HEADER_v226 S_IDENTIFIER_v227 S_NUMBER_v228 S_STRING_v229 S_ALIAS_v230 S_SYMBOL_v231 S_BODY_v232 S_END_v233 S_ABORT_v234 S_EOF_v235 hy2) rfl  (by decide) (by decide) (by decide) (by decide) (g := (mkF m 193 #[.val (.int p1), .val (.int p2), .val (.int p3), .val (.int p4), .val (.int p5), .val (.int p6), .val (.int i1), .val (.int i2), .val (.int c0), .val (.int c1), .val (.int d0), .val (.int d1), .val (.int (1 : Int32)), .val (.int (0 : Int32)), .val (.ref b183), .val (.int (0 : Int32))] [(.int i2), (.ref b183)])) rfl (by rw [hml]; rfl) own_pd8 rfl rfl (by show 2 * 0 + _ ≤ _; exact Nat.le_of_eq rfl) (hb hby at_193) ?_
            intro T236 v236 L236 X236 hQ236
            obtain ⟨rfl, N236q, e236⟩ := hQ236
            have N236 := Fr.app N201 N236q
            refine own_step (fun t k => XS.iload X236.here hx rfl (hb hby at_196) rfl k) ?_
            refine own_step (fun t k => XS.iload X236.here hx rfl (hb hby at_198) rfl k) ?_
            refine own_step (fun t k => XS.iload X236.here hx rfl (hb hby at_200) rfl k) ?_
            show own_Goes _ _ _ _ T236 (mkF m 202 #[.val (.int p1), .val (.int p2), .val (.int p3), .val (.int p4), .val (.int p5), .val (.int p6), .val (.int i1), .val (.int i2), .val (.int c0), .val (.int c1), .val (.int d0), .val (.int d1), .val (.int (1 : Int32)), .val (.int (0 : Int32)), .val (.ref b183), .val (.int (0 : Int32))] [(.int d1), (.int d0), (.int (0 : Int32)), (.ref y2), (.ref b183)])
            refine own_callSW X236 hx hZ (y := (⟨"com/example/weaverbird/weaverbird/automaton/TokenIsPinLaw", "str", "(ICC)Ljava/lang/String;"⟩ : MethodName)) hown (hw _ (List.mem_of_getElem? (i := 11) rfl)) (hw _ (List.mem_of_getElem? (i := 12) rfl)) (hw _ (List.mem_of_getElem? (i := 6) rfl)) (hw _ (List.mem_of_getElem? (i := 13) rfl)) (by decide) 2 [(.int (0 : Int32)), (.int d0), (.int d1)] [(.ref y2), (.ref b183)] (own_str0 l Z a0 hw [] d0 d1 T201.heap n0 (Nat.le_trans Z0 K201.1) ) e236  hEL HC201 HS0 (Nat.le_trans (Nat.le_trans (Nat.le_trans (Nat.le_refl _) E183.1) Kq196.1) Kq201.1) (by decide) (by decide) (by decide) (by decide) (g := (mkF m 202 #[.val (.int p1), .val (.int p2), .val (.int p3), .val (.int p4), .val (.int p5), .val (.int p6), .val (.int i1), .val (.int i2), .val (.int c0), .val (.int c1), .val (.int d0), .val (.int d1), .val (.int (1 : Int32)), .val (.int (0 : Int32)), .val (.ref b183), .val (.int (0 : Int32))] [(.int d1), (.int d0), (.int (0 : Int32)), (.ref y2), (.ref b183)])) rfl (by rw [hml]; rfl) own_pd9 rfl rfl (by show 2 * 0 + _ ≤ _; exact Nat.le_of_eq rfl) (hb hby at_202) ?_
            intro T237 v237 L237 X237 HS237 hZ hown CR237 hQ237
            have RC237 := RC201.trans CR237
            have HC237 := CR237.1
            have q196_0'_v238 := (q196_0'.keep Kq201)
            have q196_3'_v239 := (q196_3'.keep Kq201 (ninS (Ne.symm ne_b183_b196_1) nin0))
            obtain ⟨b237_0, f237_0, k237_0, rfl, N237q, Kq237, zq237_0, q237_0, q237_1, q237_2, q237_3⟩ := hQ237
            have N237 := Fr.app N236 N237q
            have K237 := K201.trans Kq237 all0
            have g_b237_0 : n0 ≤ b237_0 := Nat.le_trans (Nat.le_trans Z0 K201.1) zq237_0
            have sz_b237_0 : h0.size ≤ b237_0 := Nat.le_trans K201.1 zq237_0
            have ne_b183_b237_0 : b183 ≠ b237_0 := Nat.ne_of_lt (Nat.lt_of_lt_of_le q201_0'.lt zq237_0)
            have ne_b196_0_b237_0 : b196_0 ≠ b237_0 := Nat.ne_of_lt (Nat.lt_of_lt_of_le q196_0'_v238.lt zq237_0)
            have ne_b196_1_b237_0 : b196_1 ≠ b237_0 := Nat.ne_of_lt (Nat.lt_of_lt_of_le q196_3'_v239.lt zq237_0)
            have q237_0' : Exa Z T237.heap b237_0 "java/lang/String" := q237_0
            have q237_1' : Fld Z T237.heap b237_0 "java/lang/String" "coder" "B" (.int (0 : Int32)) := q237_1
            have q237_2' : Fld Z T237.heap b237_0 "java/lang/String" "value" "[B" (.ref f237_0) := q237_2
            have q237_3' : Arv Z T237.heap f237_0 k237_0 .byte (0 : Int32) [] (.int (0 : Int32)) := q237_3
            have q201_0'_v240 := (q201_0'.keep Kq237)
            have ne_b183_f237_0 : b183 ≠ f237_0 := Exa.neArv q201_0'_v240 q237_3' (hw _ (List.mem_of_getElem? (i := 2) rfl))
            have q196_0'_v241 := (q196_0'_v238.keep Kq237)
            have ne_b196_0_f237_0 : b196_0 ≠ f237_0 := Exa.neArv q196_0'_v241 q237_3' (hw _ (List.mem_of_getElem? (i := 15) rfl))
            have ne_b237_0_f237_0 : b237_0 ≠ f237_0 := Exa.neArv q237_0' q237_3' (hw _ (List.mem_of_getElem? (i := 15) rfl))
            show own_Goes _ _ _ _ T237 (mkF m 205 #[.val (.int p1), .val (.int p2), .val (.int p3), .val (.int p4), .val (.int p5), .val (.int p6), .val (.int i1), .val (.int i2), .val (.int c0), .val (.int c1), .val (.int d0), .val (.int d1), .val (.int (1 : Int32)), .val (.int (0 : Int32)), .val (.ref b183), .val (.int (0 : Int32))] [(.ref b237_0), (.ref y2), (.ref b183)])
            have q201_1'_v242 := (q201_1'.keep Kq237 nin0)
            refine own_callV X237 hx hZ (y := (⟨"com/example/weaverbird/weaverbird/automaton/HoaLexer$Token", "is", "(Lcom/example/weaverbird/weaverbird/automaton/HoaLexer$Type;Ljava/lang/String;)Z"⟩ : MethodName)) (z := (⟨"com/example/weaverbird/weaverbird/automaton/HoaLexer$Token", "is", "(Lcom/example/weaverbird/weaverbird/automaton/HoaLexer$Type;Ljava/lang/String;)Z"⟩ : MethodName)) hown (hw _ (List.mem_of_getElem? (i := 53) rfl)) (hw _ (List.mem_of_getElem? (i := 54) rfl)) (notFace_of_selects (args := #[]) (mvT hZ (hw _ (List.mem_of_getElem? (i := 56) rfl)))) (hw _ (List.mem_of_getElem? (i := 56) rfl)) (hw _ (List.mem_of_getElem? (i := 55) rfl)) (hw _ (List.mem_of_getElem? (i := 57) rfl)) (hw _ (List.mem_of_getElem? (i := 3) rfl)) (by decide) 0 q201_0'_v240 [(.ref y2), (.ref b237_0)] [] (own_is_ne l Z a0 hw [] b183 y2 b237_0 y1 T237.heap n0 (Nat.le_trans Z0 K237.1) q201_1'_v242 (hyne hc146_202)) rfl  (by decide) (by decide) (by decide) (by decide) (g := (mkF m 205 #[.val (.int p1), .val (.int p2), .val (.int p3), .val (.int p4), .val (.int p5), .val (.int p6), .val (.int i1), .val (.int i2), .val (.int c0), .val (.int c1), .val (.int d0), .val (.int d1), .val (.int (1 : Int32)), .val (.int (0 : Int32)), .val (.ref b183), .val (.int (0 : Int32))] [(.ref b237_0), (.ref y2), (.ref b183)])) rfl (by rw [hml]; rfl) own_pd11 rfl rfl (by show 2 * 0 + _ ≤ _; exact Nat.le_of_eq rfl) (hb hby at_205) ?_
            intro T243 v243 L243 X243 hQ243
            obtain ⟨rfl, N243q, e243⟩ := hQ243
            have N243 := Fr.app N237 N243q
            refine own_step (fun t k => XS.iload X243.here hx rfl (hb hby at_208) rfl k) ?_
            show own_Goes _ _ _ _ T243 (mkF m 210 #[.val (.int p1), .val (.int p2), .val (.int p3), .val (.int p4), .val (.int p5), .val (.int p6), .val (.int i1), .val (.int i2), .val (.int c0), .val (.int c1), .val (.int d0), .val (.int d1), .val (.int (1 : Int32)), .val (.int (0 : Int32)), .val (.ref b183), .val (.int (0 : Int32))] [(.int (0 : Int32)), (.int (0 : Int32))])
            refine own_step (fun t k => XS.icmpNo X243.here hx rfl (hb hby at_210) rfl (teq (show (0 : Int32) = (0 : Int32) from (by decide))).2 k) ?_
            refine own_step (fun t k => XS.iconst X243.here hx rfl (hb hby at_213) k) ?_
            refine own_step (fun t k => XS.goto X243.here hx rfl (pc0 := 214) (pc' := 218) rfl (hb hby at_214) (by decide) (by decide) k) ?_
            show own_Goes _ _ _ _ T243 (mkF m 218 #[.val (.int p1), .val (.int p2), .val (.int p3), .val (.int p4), .val (.int p5), .val (.int p6), .val (.int i1), .val (.int i2), .val (.int c0), .val (.int c1), .val (.int d0), .val (.int d1), .val (.int (1 : Int32)), .val (.int (0 : Int32)), .val (.ref b183), .val (.int (0 : Int32))] [(.int (1 : Int32))])
            exact own_outW X243 hlk HS237 (Nat.le_refl _) hZ hEL e243 HC237 RC237 (v := some (.int (nar .boolean (1 : Int32)))) (fun q => by rw [hrt] at q; cases q) (fun fs hr => retN X243 hx (t := .boolean) hrt (by simp) (hb hby at_218) hr) ⟨rfl, N243⟩ (by decide) (by decide)
        · show own_Goes _ _ _ _ s₁ (mkF m 117 #[.val (.int p1), .val (.int p2), .val (.int p3), .val (.int p4), .val (.int p5), .val (.int p6), .val (.int i1), .val (.int i2), .val (.int c0), .val (.int c1), .val (.int d0), .val (.int d1), .val (.int (1 : Int32)), .val (.int (1 : Int32)), .unset, .unset] [])
          obtain ⟨T244, h244, X244, e244, E244, A244, D244, -, st244⟩ := newO X0 hx hZ hown (hw _ (List.mem_of_getElem? (i := 1) rfl)) (hw _ (List.mem_of_getElem? (i := 2) rfl)) (hw _ (List.mem_of_getElem? (i := 3) rfl)) e0 (g := (mkF m 117 #[.val (.int p1), .val (.int p2), .val (.int p3), .val (.int p4), .val (.int p5), .val (.int p6), .val (.int i1), .val (.int i2), .val (.int c0), .val (.int c1), .val (.int d0), .val (.int d1), .val (.int (1 : Int32)), .val (.int (1 : Int32)), .unset, .unset] [])) rfl (hb hby at_117) (by decide) (by decide)
          obtain ⟨b244, g244⟩ : ∃ z, z = h0.size := ⟨_, rfl⟩
          rw [← g244] at A244 D244 st244
          refine own_step st244 ?_
          have g_b244 : n0 ≤ b244 := Nat.le_trans Z0 (Nat.le_of_eq g244.symm)
          have sz_b244 : h0.size ≤ b244 := Nat.le_trans (Keep.refl h0 []).1 (Nat.le_of_eq g244.symm)
          have K244 := (Keep.refl h0 []).ext E244
          have RC244 := RC0.trans (CHr.ext E244 HC0)
          have HC244 := CHv.ext E244 HC0
          have F_b244_type : Fld Z h244 b244 "com/example/weaverbird/weaverbird/automaton/HoaLexer$Token" "type" "Lcom/example/weaverbird/weaverbird/automaton/HoaLexer$Type;" .null := D244 (Or.inr (hw _ (List.mem_of_getElem? (i := 46) rfl))) (ty := (.object "com/example/weaverbird/weaverbird/automaton/HoaLexer$Type")) (by decide)
          have F_b244_text : Fld Z h244 b244 "com/example/weaverbird/weaverbird/automaton/HoaLexer$Token" "text" "Ljava/lang/String;" .null := D244 (Or.inr (hw _ (List.mem_of_getElem? (i := 48) rfl))) (ty := (.object "java/lang/String")) (by decide)
          have F_b244_line : Fld Z h244 b244 "com/example/weaverbird/weaverbird/automaton/HoaLexer$Token" "line" "I" (.int (0 : Int32)) := D244 (Or.inr (hw _ (List.mem_of_getElem? (i := 50) rfl))) (ty := .int) (by decide)
          refine own_step (fun t k => XS.dup X244.here hx rfl (hb hby at_120) rfl rfl k) ?_
          refine own_step (fun t k => XS.iload X244.here hx rfl (hb hby at_121) rfl k) ?_
          show own_Goes _ _ _ _ T244 (mkF m 123 #[.val (.int p1), .val (.int p2), .val (.int p3), .val (.int p4), .val (.int p5), .val (.int p6), .val (.int i1), .val (.int i2), .val (.int c0), .val (.int c1), .val (.int d0), .val (.int d1), .val (.int (1 : Int32)), .val (.int (1 : Int32)), .unset, .unset] [(.int i1), (.ref b244), (.ref b244)])
          have S_HEADER_v245 := (S_HEADER.ext E244)
          have S_IDENTIFIER_v246 := (S_IDENTIFIER.ext E244)
          have S_NUMBER_v247 := (S_NUMBER.ext E244)
          have S_STRING_v248 := (S_STRING.ext E244)
          have S_ALIAS_v249 := (S_ALIAS.ext E244)
          have S_SYMBOL_v250 := (S_SYMBOL.ext E244)
          have S_BODY_v251 := (S_BODY.ext E244)
          have S_END_v252 := (S_END.ext E244)
          have S_ABORT_v253 := (S_ABORT.ext E244)
          have S_EOF_v254 := (S_EOF.ext E244)
          refine own_callS X244 hx hZ (y := (⟨"com/example/weaverbird/weaverbird/automaton/TokenIsPinLaw", "type", "(I)Lcom/example/weaverbird/weaverbird/automaton/HoaLexer$Type;"⟩ : MethodName)) hown (hw _ (List.mem_of_getElem? (i := 4) rfl)) (hw _ (List.mem_of_getElem? (i := 5) rfl)) (hw _ (List.mem_of_getElem? (i := 6) rfl)) (hw _ (List.mem_of_getElem? (i := 7) rfl)) (by decide) 2 [(.int i1)] [(.ref b244), (.ref b244)] (own_type l Z a0 hw [] i1 y1 w_HEADER w_IDENTIFIER w_NUMBER w_STRING w_ALIAS w_SYMBOL w_BODY w_END w_ABORT w_EOF h244 n0 (Nat.le_trans Z0 K244.1) S_HEADER_v245 S_IDENTIFIER_v246 S_NUMBER_v247 S_STRING_v248 S_ALIAS_v249 S_SYMBOL_v250 S_BODY_v251 S_END_v252 S_ABORT_v253 S_EOF_v254 hy1) e244  (by decide) (by decide) (by decide) (by decide) (g := (mkF m 123 #[.val (.int p1), .val (.int p2), .val (.int p3), .val (.int p4), .val (.int p5), .val (.int p6), .val (.int i1), .val (.int i2), .val (.int c0), .val (.int c1), .val (.int d0), .val (.int d1), .val (.int (1 : Int32)), .val (.int (1 : Int32)), .unset, .unset] [(.int i1), (.ref b244), (.ref b244)])) rfl (by rw [hml]; rfl) own_pd8 rfl rfl (by show 2 * 0 + _ ≤ _; exact Nat.le_of_eq rfl) (hb hby at_123) ?_
          intro T255 v255 L255 X255 hQ255
          obtain ⟨rfl, N255q, e255⟩ := hQ255
          have N255 := Fr.app N0 N255q
          refine own_step (fun t k => XS.iload X255.here hx rfl (hb hby at_126) rfl k) ?_
          refine own_step (fun t k => XS.iload X255.here hx rfl (hb hby at_128) rfl k) ?_
          refine own_step (fun t k => XS.iload X255.here hx rfl (hb hby at_130) rfl k) ?_
          show own_Goes _ _ _ _ T255 (mkF m 132 #[.val (.int p1), .val (.int p2), .val (.int p3), .val (.int p4), .val (.int p5), .val (.int p6), .val (.int i1), .val (.int i2), .val (.int c0), .val (.int c1), .val (.int d0), .val (.int d1), .val (.int (1 : Int32)), .val (.int (1 : Int32)), .unset, .unset] [(.int c1), (.int c0), (.int (1 : Int32)), (.ref y1), (.ref b244), (.ref b244)])
          have S_COMPACT_STRINGS_v256 := (S_COMPACT_STRINGS.ext E244)
          refine own_callS X255 hx hZ (y := (⟨"com/example/weaverbird/weaverbird/automaton/TokenIsPinLaw", "str", "(ICC)Ljava/lang/String;"⟩ : MethodName)) hown (hw _ (List.mem_of_getElem? (i := 11) rfl)) (hw _ (List.mem_of_getElem? (i := 12) rfl)) (hw _ (List.mem_of_getElem? (i := 6) rfl)) (hw _ (List.mem_of_getElem? (i := 13) rfl)) (by decide) 3 [(.int (1 : Int32)), (.int c0), (.int c1)] [(.ref y1), (.ref b244), (.ref b244)] (own_str1 l Z a0 hw [] c0 c1 zc h244 n0 (Nat.le_trans Z0 K244.1) S_COMPACT_STRINGS_v256 hc0a hc0b hz) e255  (by decide) (by decide) (by decide) (by decide) (g := (mkF m 132 #[.val (.int p1), .val (.int p2), .val (.int p3), .val (.int p4), .val (.int p5), .val (.int p6), .val (.int i1), .val (.int i2), .val (.int c0), .val (.int c1), .val (.int d0), .val (.int d1), .val (.int (1 : Int32)), .val (.int (1 : Int32)), .unset, .unset] [(.int c1), (.int c0), (.int (1 : Int32)), (.ref y1), (.ref b244), (.ref b244)])) rfl (by rw [hml]; rfl) own_pd9 rfl rfl (by show 2 * 0 + _ ≤ _; exact Nat.le_of_eq rfl) (hb hby at_132) ?_
          intro T257 v257 L257 X257 hQ257
          obtain ⟨b257_0, b257_1, k257_0, rfl, N257q, Kq257, zq257_0, zq257_1, q257_0, q257_1, q257_2, q257_3⟩ := hQ257
          have N257 := Fr.app N255 N257q
          have K257 := K244.trans Kq257 all0
          have g_b257_0 : n0 ≤ b257_0 := Nat.le_trans (Nat.le_trans Z0 K244.1) zq257_0
          have sz_b257_0 : h0.size ≤ b257_0 := Nat.le_trans K244.1 zq257_0
          have ne_b244_b257_0 : b244 ≠ b257_0 := Nat.ne_of_lt (Nat.lt_of_lt_of_le A244.lt zq257_0)
          have g_b257_1 : n0 ≤ b257_1 := Nat.le_trans (Nat.le_trans Z0 K244.1) zq257_1
          have sz_b257_1 : h0.size ≤ b257_1 := Nat.le_trans K244.1 zq257_1
          have ne_b244_b257_1 : b244 ≠ b257_1 := Nat.ne_of_lt (Nat.lt_of_lt_of_le A244.lt zq257_1)
          have RC257 := RC244.trans (CHr.keep Kq257 all0 HC244)
          have HC257 := CHv.keep Kq257 all0 HC244
          have q257_0' : Exa Z T257.heap b257_0 "java/lang/String" := q257_0
          have q257_1' : Fld Z T257.heap b257_0 "java/lang/String" "coder" "B" (.int (0 : Int32)) := q257_1
          have q257_2' : Fld Z T257.heap b257_0 "java/lang/String" "value" "[B" (.ref b257_1) := q257_2
          have q257_3' : Arv Z T257.heap b257_1 k257_0 .byte (1 : Int32) [(.int (c0.toInt8.toInt32))] (.int (0 : Int32)) := q257_3
          refine own_step (fun t k => XS.iload X257.here hx rfl (hb hby at_135) rfl k) ?_
          show own_Goes _ _ _ _ T257 (mkF m 137 #[.val (.int p1), .val (.int p2), .val (.int p3), .val (.int p4), .val (.int p5), .val (.int p6), .val (.int i1), .val (.int i2), .val (.int c0), .val (.int c1), .val (.int d0), .val (.int d1), .val (.int (1 : Int32)), .val (.int (1 : Int32)), .unset, .unset] [(.int p6), (.ref b257_0), (.ref y1), (.ref b244), (.ref b244)])
          have A244_v258 := (A244.keep Kq257)
          have F_b244_type_v259 := (F_b244_type.keep Kq257 nin0)
          have F_b244_text_v260 := (F_b244_text.keep Kq257 nin0)
          have F_b244_line_v261 := (F_b244_line.keep Kq257 nin0)
          refine own_callC X257 hx hZ (y := (⟨"com/example/weaverbird/weaverbird/automaton/HoaLexer$Token", "<init>", "(Lcom/example/weaverbird/weaverbird/automaton/HoaLexer$Type;Ljava/lang/String;I)V"⟩ : MethodName)) rfl hown (hw _ (List.mem_of_getElem? (i := 36) rfl)) (hw _ (List.mem_of_getElem? (i := 37) rfl)) (hw _ (List.mem_of_getElem? (i := 38) rfl)) (hw _ (List.mem_of_getElem? (i := 3) rfl)) (by decide) 1 (a := b244) [(.ref y1), (.ref b257_0), (.int p6)] [(.ref b244)] (own_tinit l Z a0 hw [] b244 y1 b257_0 p6 T257.heap n0 (Nat.le_trans Z0 K257.1) A244_v258 F_b244_type_v259 F_b244_text_v260 F_b244_line_v261 g_b244) rfl  (by decide) (by decide) (by decide) (by decide) (g := (mkF m 137 #[.val (.int p1), .val (.int p2), .val (.int p3), .val (.int p4), .val (.int p5), .val (.int p6), .val (.int i1), .val (.int i2), .val (.int c0), .val (.int c1), .val (.int d0), .val (.int d1), .val (.int (1 : Int32)), .val (.int (1 : Int32)), .unset, .unset] [(.int p6), (.ref b257_0), (.ref y1), (.ref b244), (.ref b244)])) rfl (by rw [hml]; rfl) own_pd10 rfl rfl (by show 2 * 0 + _ ≤ _; exact Nat.le_of_eq rfl) (hb hby at_137) ?_
          intro T262 v262 L262 X262 hQ262
          obtain ⟨rfl, N262q, Kq262, q262_0, q262_1, q262_2⟩ := hQ262
          have N262 := Fr.app N257 N262q
          have K262 := K257.trans Kq262 (allS (Or.inr sz_b244) all0)
          have RC262 := RC257.trans (CHr.keep Kq262 (allS (Safe.exa hZ.alike A244_v258 (by decide) (by decide)) all0) HC257)
          have HC262 := CHv.keep Kq262 (allS (Safe.exa hZ.alike A244_v258 (by decide) (by decide)) all0) HC257
          have q262_0' : Exa Z T262.heap b244 "com/example/weaverbird/weaverbird/automaton/HoaLexer$Token" := q262_0
          have q262_1' : Fld Z T262.heap b244 "com/example/weaverbird/weaverbird/automaton/HoaLexer$Token" "type" "Lcom/example/weaverbird/weaverbird/automaton/HoaLexer$Type;" (.ref y1) := q262_1
          have q262_2' : Fld Z T262.heap b244 "com/example/weaverbird/weaverbird/automaton/HoaLexer$Token" "text" "Ljava/lang/String;" (.ref b257_0) := q262_2
          refine own_step (fun t k => XS.astore X262.here hx rfl (hb hby at_140) rfl rfl (l' := #[.val (.int p1), .val (.int p2), .val (.int p3), .val (.int p4), .val (.int p5), .val (.int p6), .val (.int i1), .val (.int i2), .val (.int c0), .val (.int c1), .val (.int d0), .val (.int d1), .val (.int (1 : Int32)), .val (.int (1 : Int32)), .val (.ref b244), .unset]) rfl k) ?_
          refine own_step (fun t k => XS.iload X262.here hx rfl (hb hby at_142) rfl k) ?_
          refine own_step (fun t k => XS.iload X262.here hx rfl (hb hby at_144) rfl k) ?_
          show own_Goes _ _ _ _ T262 (mkF m 146 #[.val (.int p1), .val (.int p2), .val (.int p3), .val (.int p4), .val (.int p5), .val (.int p6), .val (.int i1), .val (.int i2), .val (.int c0), .val (.int c1), .val (.int d0), .val (.int d1), .val (.int (1 : Int32)), .val (.int (1 : Int32)), .val (.ref b244), .unset] [(.int i2), (.int i1)])
          by_cases hc146_263 : i1 = i2
          · refine own_step (fun t k => XS.icmpNo X262.here hx rfl (hb hby at_146) rfl (teq (show i1 = i2 from hc146_263)).2 k) ?_
            refine own_step (fun t k => XS.iload X262.here hx rfl (hb hby at_149) rfl k) ?_
            refine own_step (fun t k => XS.iload X262.here hx rfl (hb hby at_151) rfl k) ?_
            show own_Goes _ _ _ _ T262 (mkF m 153 #[.val (.int p1), .val (.int p2), .val (.int p3), .val (.int p4), .val (.int p5), .val (.int p6), .val (.int i1), .val (.int i2), .val (.int c0), .val (.int c1), .val (.int d0), .val (.int d1), .val (.int (1 : Int32)), .val (.int (1 : Int32)), .val (.ref b244), .unset] [(.int (1 : Int32)), (.int (1 : Int32))])
            refine own_step (fun t k => XS.icmpNo X262.here hx rfl (hb hby at_153) rfl (teq (show (1 : Int32) = (1 : Int32) from (by decide))).2 k) ?_
            refine own_step (fun t k => XS.iload X262.here hx rfl (hb hby at_156) rfl k) ?_
            refine own_step (fun t k => XS.iconst X262.here hx rfl (hb hby at_158) k) ?_
            show own_Goes _ _ _ _ T262 (mkF m 159 #[.val (.int p1), .val (.int p2), .val (.int p3), .val (.int p4), .val (.int p5), .val (.int p6), .val (.int i1), .val (.int i2), .val (.int c0), .val (.int c1), .val (.int d0), .val (.int d1), .val (.int (1 : Int32)), .val (.int (1 : Int32)), .val (.ref b244), .unset] [(.int (1 : Int32)), (.int (1 : Int32))])
            refine own_step (fun t k => XS.icmpNo X262.here hx rfl (hb hby at_159) rfl (flt (show ¬ ((1 : Int32) < (1 : Int32)) from (by decide))).1 k) ?_
            refine own_step (fun t k => XS.iload X262.here hx rfl (hb hby at_162) rfl k) ?_
            refine own_step (fun t k => XS.iload X262.here hx rfl (hb hby at_164) rfl k) ?_
            show own_Goes _ _ _ _ T262 (mkF m 166 #[.val (.int p1), .val (.int p2), .val (.int p3), .val (.int p4), .val (.int p5), .val (.int p6), .val (.int i1), .val (.int i2), .val (.int c0), .val (.int c1), .val (.int d0), .val (.int d1), .val (.int (1 : Int32)), .val (.int (1 : Int32)), .val (.ref b244), .unset] [(.int d0), (.int c0)])
            by_cases hc166_264 : c0 = d0
            · refine own_step (fun t k => XS.icmpNo X262.here hx rfl (hb hby at_166) rfl (teq (show c0 = d0 from hc166_264)).2 k) ?_
              refine own_step (fun t k => XS.iload X262.here hx rfl (hb hby at_169) rfl k) ?_
              refine own_step (fun t k => XS.iconst X262.here hx rfl (hb hby at_171) k) ?_
              show own_Goes _ _ _ _ T262 (mkF m 172 #[.val (.int p1), .val (.int p2), .val (.int p3), .val (.int p4), .val (.int p5), .val (.int p6), .val (.int i1), .val (.int i2), .val (.int c0), .val (.int c1), .val (.int d0), .val (.int d1), .val (.int (1 : Int32)), .val (.int (1 : Int32)), .val (.ref b244), .unset] [(.int (2 : Int32)), (.int (1 : Int32))])
              refine own_step (fun t k => XS.icmpYes X262.here hx rfl (pc0 := 172) (pc' := 182) rfl (hb hby at_172) rfl (tlt (show (1 : Int32) < (2 : Int32) from (by decide))).1 (by decide) (by decide) k) ?_
              refine own_step (fun t k => XS.iconst X262.here hx rfl (hb hby at_182) k) ?_
              refine own_step (fun t k => XS.goto X262.here hx rfl (pc0 := 183) (pc' := 187) rfl (hb hby at_183) (by decide) (by decide) k) ?_
              refine own_step (fun t k => XS.istore X262.here hx rfl (hb hby at_187) rfl (l' := #[.val (.int p1), .val (.int p2), .val (.int p3), .val (.int p4), .val (.int p5), .val (.int p6), .val (.int i1), .val (.int i2), .val (.int c0), .val (.int c1), .val (.int d0), .val (.int d1), .val (.int (1 : Int32)), .val (.int (1 : Int32)), .val (.ref b244), .val (.int (1 : Int32))]) rfl k) ?_
              refine own_step (fun t k => XS.aload X262.here hx rfl (hb hby at_189) rfl rfl k) ?_
              show own_Goes _ _ _ _ T262 (mkF m 191 #[.val (.int p1), .val (.int p2), .val (.int p3), .val (.int p4), .val (.int p5), .val (.int p6), .val (.int i1), .val (.int i2), .val (.int c0), .val (.int c1), .val (.int d0), .val (.int d1), .val (.int (1 : Int32)), .val (.int (1 : Int32)), .val (.ref b244), .val (.int (1 : Int32))] [(.ref b244)])
              refine own_step (fun t k => XS.iload X262.here hx rfl (hb hby at_191) rfl k) ?_
              show own_Goes _ _ _ _ T262 (mkF m 193 #[.val (.int p1), .val (.int p2), .val (.int p3), .val (.int p4), .val (.int p5), .val (.int p6), .val (.int i1), .val (.int i2), .val (.int c0), .val (.int c1), .val (.int d0), .val (.int d1), .val (.int (1 : Int32)), .val (.int (1 : Int32)), .val (.ref b244), .val (.int (1 : Int32))] [(.int i2), (.ref b244)])
              have S_HEADER_v265 := (own_staKeep (own_staKeep S_HEADER_v245 Kq257 all0) Kq262 (allS (own_plainE A244_v258) all0))
              have S_IDENTIFIER_v266 := (own_staKeep (own_staKeep S_IDENTIFIER_v246 Kq257 all0) Kq262 (allS (own_plainE A244_v258) all0))
              have S_NUMBER_v267 := (own_staKeep (own_staKeep S_NUMBER_v247 Kq257 all0) Kq262 (allS (own_plainE A244_v258) all0))
              have S_STRING_v268 := (own_staKeep (own_staKeep S_STRING_v248 Kq257 all0) Kq262 (allS (own_plainE A244_v258) all0))
              have S_ALIAS_v269 := (own_staKeep (own_staKeep S_ALIAS_v249 Kq257 all0) Kq262 (allS (own_plainE A244_v258) all0))
              have S_SYMBOL_v270 := (own_staKeep (own_staKeep S_SYMBOL_v250 Kq257 all0) Kq262 (allS (own_plainE A244_v258) all0))
              have S_BODY_v271 := (own_staKeep (own_staKeep S_BODY_v251 Kq257 all0) Kq262 (allS (own_plainE A244_v258) all0))
              have S_END_v272 := (own_staKeep (own_staKeep S_END_v252 Kq257 all0) Kq262 (allS (own_plainE A244_v258) all0))
              have S_ABORT_v273 := (own_staKeep (own_staKeep S_ABORT_v253 Kq257 all0) Kq262 (allS (own_plainE A244_v258) all0))
              have S_EOF_v274 := (own_staKeep (own_staKeep S_EOF_v254 Kq257 all0) Kq262 (allS (own_plainE A244_v258) all0))
              refine own_callS X262 hx hZ (y := (⟨"com/example/weaverbird/weaverbird/automaton/TokenIsPinLaw", "type", "(I)Lcom/example/weaverbird/weaverbird/automaton/HoaLexer$Type;"⟩ : MethodName)) hown (hw _ (List.mem_of_getElem? (i := 4) rfl)) (hw _ (List.mem_of_getElem? (i := 5) rfl)) (hw _ (List.mem_of_getElem? (i := 6) rfl)) (hw _ (List.mem_of_getElem? (i := 7) rfl)) (by decide) 1 [(.int i2)] [(.ref b244)] (own_type l Z a0 hw [] i2 y2 w_HEADER w_IDENTIFIER w_NUMBER w_STRING w_ALIAS w_SYMBOL w_BODY w_END w_ABORT w_EOF T262.heap n0 (Nat.le_trans Z0 K262.1) S_HEADER_v265 S_IDENTIFIER_v266 S_NUMBER_v267 S_STRING_v268 S_ALIAS_v269 S_SYMBOL_v270 S_BODY_v271 S_END_v272 S_ABORT_v273 S_EOF_v274 hy2) rfl  (by decide) (by decide) (by decide) (by decide) (g := (mkF m 193 #[.val (.int p1), .val (.int p2), .val (.int p3), .val (.int p4), .val (.int p5), .val (.int p6), .val (.int i1), .val (.int i2), .val (.int c0), .val (.int c1), .val (.int d0), .val (.int d1), .val (.int (1 : Int32)), .val (.int (1 : Int32)), .val (.ref b244), .val (.int (1 : Int32))] [(.int i2), (.ref b244)])) rfl (by rw [hml]; rfl) own_pd8 rfl rfl (by show 2 * 0 + _ ≤ _; exact Nat.le_of_eq rfl) (hb hby at_193) ?_
              intro T275 v275 L275 X275 hQ275
              obtain ⟨rfl, N275q, e275⟩ := hQ275
              have N275 := Fr.app N262 N275q
              refine own_step (fun t k => XS.iload X275.here hx rfl (hb hby at_196) rfl k) ?_
              refine own_step (fun t k => XS.iload X275.here hx rfl (hb hby at_198) rfl k) ?_
              refine own_step (fun t k => XS.iload X275.here hx rfl (hb hby at_200) rfl k) ?_
              show own_Goes _ _ _ _ T275 (mkF m 202 #[.val (.int p1), .val (.int p2), .val (.int p3), .val (.int p4), .val (.int p5), .val (.int p6), .val (.int i1), .val (.int i2), .val (.int c0), .val (.int c1), .val (.int d0), .val (.int d1), .val (.int (1 : Int32)), .val (.int (1 : Int32)), .val (.ref b244), .val (.int (1 : Int32))] [(.int d1), (.int d0), (.int (1 : Int32)), (.ref y2), (.ref b244)])
              have S_COMPACT_STRINGS_v276 := (own_staKeep (own_staKeep S_COMPACT_STRINGS_v256 Kq257 all0) Kq262 (allS (own_plainE A244_v258) all0))
              refine own_callS X275 hx hZ (y := (⟨"com/example/weaverbird/weaverbird/automaton/TokenIsPinLaw", "str", "(ICC)Ljava/lang/String;"⟩ : MethodName)) hown (hw _ (List.mem_of_getElem? (i := 11) rfl)) (hw _ (List.mem_of_getElem? (i := 12) rfl)) (hw _ (List.mem_of_getElem? (i := 6) rfl)) (hw _ (List.mem_of_getElem? (i := 13) rfl)) (by decide) 2 [(.int (1 : Int32)), (.int d0), (.int d1)] [(.ref y2), (.ref b244)] (own_str1 l Z a0 hw [] d0 d1 zc T262.heap n0 (Nat.le_trans Z0 K262.1) S_COMPACT_STRINGS_v276 hd0a hd0b hz) e275  (by decide) (by decide) (by decide) (by decide) (g := (mkF m 202 #[.val (.int p1), .val (.int p2), .val (.int p3), .val (.int p4), .val (.int p5), .val (.int p6), .val (.int i1), .val (.int i2), .val (.int c0), .val (.int c1), .val (.int d0), .val (.int d1), .val (.int (1 : Int32)), .val (.int (1 : Int32)), .val (.ref b244), .val (.int (1 : Int32))] [(.int d1), (.int d0), (.int (1 : Int32)), (.ref y2), (.ref b244)])) rfl (by rw [hml]; rfl) own_pd9 rfl rfl (by show 2 * 0 + _ ≤ _; exact Nat.le_of_eq rfl) (hb hby at_202) ?_
              intro T277 v277 L277 X277 hQ277
              have q257_0'_v278 := (q257_0'.keep Kq262)
              have q257_3'_v279 := (q257_3'.keep Kq262 (ninS (Ne.symm ne_b244_b257_1) nin0))
              obtain ⟨b277_0, b277_1, k277_0, rfl, N277q, Kq277, zq277_0, zq277_1, q277_0, q277_1, q277_2, q277_3⟩ := hQ277
              have N277 := Fr.app N275 N277q
              have K277 := K262.trans Kq277 all0
              have g_b277_0 : n0 ≤ b277_0 := Nat.le_trans (Nat.le_trans Z0 K262.1) zq277_0
              have sz_b277_0 : h0.size ≤ b277_0 := Nat.le_trans K262.1 zq277_0
              have ne_b244_b277_0 : b244 ≠ b277_0 := Nat.ne_of_lt (Nat.lt_of_lt_of_le q262_0'.lt zq277_0)
              have ne_b257_0_b277_0 : b257_0 ≠ b277_0 := Nat.ne_of_lt (Nat.lt_of_lt_of_le q257_0'_v278.lt zq277_0)
              have ne_b257_1_b277_0 : b257_1 ≠ b277_0 := Nat.ne_of_lt (Nat.lt_of_lt_of_le q257_3'_v279.lt zq277_0)
              have g_b277_1 : n0 ≤ b277_1 := Nat.le_trans (Nat.le_trans Z0 K262.1) zq277_1
              have sz_b277_1 : h0.size ≤ b277_1 := Nat.le_trans K262.1 zq277_1
              have ne_b244_b277_1 : b244 ≠ b277_1 := Nat.ne_of_lt (Nat.lt_of_lt_of_le q262_0'.lt zq277_1)
              have ne_b257_0_b277_1 : b257_0 ≠ b277_1 := Nat.ne_of_lt (Nat.lt_of_lt_of_le q257_0'_v278.lt zq277_1)
              have ne_b257_1_b277_1 : b257_1 ≠ b277_1 := Nat.ne_of_lt (Nat.lt_of_lt_of_le q257_3'_v279.lt zq277_1)
              have RC277 := RC262.trans (CHr.keep Kq277 all0 HC262)
              have HC277 := CHv.keep Kq277 all0 HC262
              have q277_0' : Exa Z T277.heap b277_0 "java/lang/String" := q277_0
              have q277_1' : Fld Z T277.heap b277_0 "java/lang/String" "coder" "B" (.int (0 : Int32)) := q277_1
              have q277_2' : Fld Z T277.heap b277_0 "java/lang/String" "value" "[B" (.ref b277_1) := q277_2
              have q277_3' : Arv Z T277.heap b277_1 k277_0 .byte (1 : Int32) [(.int (d0.toInt8.toInt32))] (.int (0 : Int32)) := q277_3
              show own_Goes _ _ _ _ T277 (mkF m 205 #[.val (.int p1), .val (.int p2), .val (.int p3), .val (.int p4), .val (.int p5), .val (.int p6), .val (.int i1), .val (.int i2), .val (.int c0), .val (.int c1), .val (.int d0), .val (.int d1), .val (.int (1 : Int32)), .val (.int (1 : Int32)), .val (.ref b244), .val (.int (1 : Int32))] [(.ref b277_0), (.ref y2), (.ref b244)])
              have q262_1'_v280 := (q262_1'.keep Kq277 nin0)
              have q262_2'_v281 := (q262_2'.keep Kq277 nin0)
              have q257_0'_v282 := (q257_0'_v278.keep Kq277)
              have q257_1'_v283 := ((q257_1'.keep Kq262 (ninS (Ne.symm ne_b244_b257_0) nin0)).keep Kq277 nin0)
              have q257_2'_v284 := ((q257_2'.keep Kq262 (ninS (Ne.symm ne_b244_b257_0) nin0)).keep Kq277 nin0)
              have q257_3'_v285 := (q257_3'_v279.keep Kq277 nin0)
              have S_COMPACT_STRINGS_v286 := (own_staKeep S_COMPACT_STRINGS_v276 Kq277 all0)
              have q262_0'_v288 := (q262_0'.keep Kq277)
              refine own_callV X277 hx hZ (y := (⟨"com/example/weaverbird/weaverbird/automaton/HoaLexer$Token", "is", "(Lcom/example/weaverbird/weaverbird/automaton/HoaLexer$Type;Ljava/lang/String;)Z"⟩ : MethodName)) (z := (⟨"com/example/weaverbird/weaverbird/automaton/HoaLexer$Token", "is", "(Lcom/example/weaverbird/weaverbird/automaton/HoaLexer$Type;Ljava/lang/String;)Z"⟩ : MethodName)) hown (hw _ (List.mem_of_getElem? (i := 53) rfl)) (hw _ (List.mem_of_getElem? (i := 54) rfl)) (notFace_of_selects (args := #[]) (mvT hZ (hw _ (List.mem_of_getElem? (i := 56) rfl)))) (hw _ (List.mem_of_getElem? (i := 56) rfl)) (hw _ (List.mem_of_getElem? (i := 55) rfl)) (hw _ (List.mem_of_getElem? (i := 57) rfl)) (hw _ (List.mem_of_getElem? (i := 3) rfl)) (by decide) 0 q262_0'_v288 [(.ref y2), (.ref b277_0)] [] (own_is_11eq l Z a0 hw [] b244 y2 b277_0 y1 b257_0 b257_1 b277_1 k257_0 k277_0 (c0.toInt8.toInt32) (d0.toInt8.toInt32) zc T277.heap n0 (Nat.le_trans Z0 K277.1) q262_1'_v280 q262_2'_v281 q257_0'_v282 q277_0' q257_1'_v283 q277_1' q257_2'_v284 q277_2' q257_3'_v285 q277_3' S_COMPACT_STRINGS_v286 (hyeq hc146_263) (by rw [hc166_264]) hz ne_b257_0_b277_0) rfl  (by decide) (by decide) (by decide) (by decide) (g := (mkF m 205 #[.val (.int p1), .val (.int p2), .val (.int p3), .val (.int p4), .val (.int p5), .val (.int p6), .val (.int i1), .val (.int i2), .val (.int c0), .val (.int c1), .val (.int d0), .val (.int d1), .val (.int (1 : Int32)), .val (.int (1 : Int32)), .val (.ref b244), .val (.int (1 : Int32))] [(.ref b277_0), (.ref y2), (.ref b244)])) rfl (by rw [hml]; rfl) own_pd11 rfl rfl (by show 2 * 0 + _ ≤ _; exact Nat.le_of_eq rfl) (hb hby at_205) ?_
              intro T287 v287 L287 X287 hQ287
              obtain ⟨rfl, N287q, e287⟩ := hQ287
              have N287 := Fr.app N277 N287q
              refine own_step (fun t k => XS.iload X287.here hx rfl (hb hby at_208) rfl k) ?_
              show own_Goes _ _ _ _ T287 (mkF m 210 #[.val (.int p1), .val (.int p2), .val (.int p3), .val (.int p4), .val (.int p5), .val (.int p6), .val (.int i1), .val (.int i2), .val (.int c0), .val (.int c1), .val (.int d0), .val (.int d1), .val (.int (1 : Int32)), .val (.int (1 : Int32)), .val (.ref b244), .val (.int (1 : Int32))] [(.int (1 : Int32)), (.int (1 : Int32))])
              refine own_step (fun t k => XS.icmpNo X287.here hx rfl (hb hby at_210) rfl (teq (show (1 : Int32) = (1 : Int32) from (by decide))).2 k) ?_
              refine own_step (fun t k => XS.iconst X287.here hx rfl (hb hby at_213) k) ?_
              refine own_step (fun t k => XS.goto X287.here hx rfl (pc0 := 214) (pc' := 218) rfl (hb hby at_214) (by decide) (by decide) k) ?_
              show own_Goes _ _ _ _ T287 (mkF m 218 #[.val (.int p1), .val (.int p2), .val (.int p3), .val (.int p4), .val (.int p5), .val (.int p6), .val (.int i1), .val (.int i2), .val (.int c0), .val (.int c1), .val (.int d0), .val (.int d1), .val (.int (1 : Int32)), .val (.int (1 : Int32)), .val (.ref b244), .val (.int (1 : Int32))] [(.int (1 : Int32))])
              exact own_outW X287 hlk HS0 (Nat.le_trans (Nat.le_trans (Nat.le_trans (Nat.le_trans (Nat.le_refl _) E244.1) Kq257.1) Kq262.1) Kq277.1) hZ hEL e287 HC277 RC277 (v := some (.int (nar .boolean (1 : Int32)))) (fun q => by rw [hrt] at q; cases q) (fun fs hr => retN X287 hx (t := .boolean) hrt (by simp) (hb hby at_218) hr) ⟨rfl, N287⟩ (by decide) (by decide)
            · refine own_step (fun t k => XS.icmpYes X262.here hx rfl (pc0 := 166) (pc' := 186) rfl (hb hby at_166) rfl (feq (show ¬ (c0 = d0) from hc166_264)).2 (by decide) (by decide) k) ?_
              refine own_step (fun t k => XS.iconst X262.here hx rfl (hb hby at_186) k) ?_
              refine own_step (fun t k => XS.istore X262.here hx rfl (hb hby at_187) rfl (l' := #[.val (.int p1), .val (.int p2), .val (.int p3), .val (.int p4), .val (.int p5), .val (.int p6), .val (.int i1), .val (.int i2), .val (.int c0), .val (.int c1), .val (.int d0), .val (.int d1), .val (.int (1 : Int32)), .val (.int (1 : Int32)), .val (.ref b244), .val (.int (0 : Int32))]) rfl k) ?_
              refine own_step (fun t k => XS.aload X262.here hx rfl (hb hby at_189) rfl rfl k) ?_
              refine own_step (fun t k => XS.iload X262.here hx rfl (hb hby at_191) rfl k) ?_
              show own_Goes _ _ _ _ T262 (mkF m 193 #[.val (.int p1), .val (.int p2), .val (.int p3), .val (.int p4), .val (.int p5), .val (.int p6), .val (.int i1), .val (.int i2), .val (.int c0), .val (.int c1), .val (.int d0), .val (.int d1), .val (.int (1 : Int32)), .val (.int (1 : Int32)), .val (.ref b244), .val (.int (0 : Int32))] [(.int i2), (.ref b244)])
              have S_HEADER_v289 := (own_staKeep (own_staKeep S_HEADER_v245 Kq257 all0) Kq262 (allS (own_plainE A244_v258) all0))
              have S_IDENTIFIER_v290 := (own_staKeep (own_staKeep S_IDENTIFIER_v246 Kq257 all0) Kq262 (allS (own_plainE A244_v258) all0))
              have S_NUMBER_v291 := (own_staKeep (own_staKeep S_NUMBER_v247 Kq257 all0) Kq262 (allS (own_plainE A244_v258) all0))
              have S_STRING_v292 := (own_staKeep (own_staKeep S_STRING_v248 Kq257 all0) Kq262 (allS (own_plainE A244_v258) all0))
              have S_ALIAS_v293 := (own_staKeep (own_staKeep S_ALIAS_v249 Kq257 all0) Kq262 (allS (own_plainE A244_v258) all0))
              have S_SYMBOL_v294 := (own_staKeep (own_staKeep S_SYMBOL_v250 Kq257 all0) Kq262 (allS (own_plainE A244_v258) all0))
              have S_BODY_v295 := (own_staKeep (own_staKeep S_BODY_v251 Kq257 all0) Kq262 (allS (own_plainE A244_v258) all0))
              have S_END_v296 := (own_staKeep (own_staKeep S_END_v252 Kq257 all0) Kq262 (allS (own_plainE A244_v258) all0))
              have S_ABORT_v297 := (own_staKeep (own_staKeep S_ABORT_v253 Kq257 all0) Kq262 (allS (own_plainE A244_v258) all0))
              have S_EOF_v298 := (own_staKeep (own_staKeep S_EOF_v254 Kq257 all0) Kq262 (allS (own_plainE A244_v258) all0))
              refine own_callS X262 hx hZ (y := (⟨"com/example/weaverbird/weaverbird/automaton/TokenIsPinLaw", "type", "(I)Lcom/example/weaverbird/weaverbird/automaton/HoaLexer$Type;"⟩ : MethodName)) hown (hw _ (List.mem_of_getElem? (i := 4) rfl)) (hw _ (List.mem_of_getElem? (i := 5) rfl)) (hw _ (List.mem_of_getElem? (i := 6) rfl)) (hw _ (List.mem_of_getElem? (i := 7) rfl)) (by decide) 1 [(.int i2)] [(.ref b244)] (own_type l Z a0 hw [] i2 y2 w_HEADER w_IDENTIFIER w_NUMBER w_STRING w_ALIAS w_SYMBOL w_BODY w_END w_ABORT w_EOF T262.heap n0 (Nat.le_trans Z0 K262.1) S_HEADER_v289 S_IDENTIFIER_v290 S_NUMBER_v291 S_STRING_v292 S_ALIAS_v293 S_SYMBOL_v294 S_BODY_v295 S_END_v296 S_ABORT_v297 S_EOF_v298 hy2) rfl  (by decide) (by decide) (by decide) (by decide) (g := (mkF m 193 #[.val (.int p1), .val (.int p2), .val (.int p3), .val (.int p4), .val (.int p5), .val (.int p6), .val (.int i1), .val (.int i2), .val (.int c0), .val (.int c1), .val (.int d0), .val (.int d1), .val (.int (1 : Int32)), .val (.int (1 : Int32)), .val (.ref b244), .val (.int (0 : Int32))] [(.int i2), (.ref b244)])) rfl (by rw [hml]; rfl) own_pd8 rfl rfl (by show 2 * 0 + _ ≤ _; exact Nat.le_of_eq rfl) (hb hby at_193) ?_
              intro T299 v299 L299 X299 hQ299
              obtain ⟨rfl, N299q, e299⟩ := hQ299
              have N299 := Fr.app N262 N299q
              refine own_step (fun t k => XS.iload X299.here hx rfl (hb hby at_196) rfl k) ?_
              refine own_step (fun t k => XS.iload X299.here hx rfl (hb hby at_198) rfl k) ?_
              refine own_step (fun t k => XS.iload X299.here hx rfl (hb hby at_200) rfl k) ?_
              show own_Goes _ _ _ _ T299 (mkF m 202 #[.val (.int p1), .val (.int p2), .val (.int p3), .val (.int p4), .val (.int p5), .val (.int p6), .val (.int i1), .val (.int i2), .val (.int c0), .val (.int c1), .val (.int d0), .val (.int d1), .val (.int (1 : Int32)), .val (.int (1 : Int32)), .val (.ref b244), .val (.int (0 : Int32))] [(.int d1), (.int d0), (.int (1 : Int32)), (.ref y2), (.ref b244)])
              have S_COMPACT_STRINGS_v300 := (own_staKeep (own_staKeep S_COMPACT_STRINGS_v256 Kq257 all0) Kq262 (allS (own_plainE A244_v258) all0))
              refine own_callS X299 hx hZ (y := (⟨"com/example/weaverbird/weaverbird/automaton/TokenIsPinLaw", "str", "(ICC)Ljava/lang/String;"⟩ : MethodName)) hown (hw _ (List.mem_of_getElem? (i := 11) rfl)) (hw _ (List.mem_of_getElem? (i := 12) rfl)) (hw _ (List.mem_of_getElem? (i := 6) rfl)) (hw _ (List.mem_of_getElem? (i := 13) rfl)) (by decide) 2 [(.int (1 : Int32)), (.int d0), (.int d1)] [(.ref y2), (.ref b244)] (own_str1 l Z a0 hw [] d0 d1 zc T262.heap n0 (Nat.le_trans Z0 K262.1) S_COMPACT_STRINGS_v300 hd0a hd0b hz) e299  (by decide) (by decide) (by decide) (by decide) (g := (mkF m 202 #[.val (.int p1), .val (.int p2), .val (.int p3), .val (.int p4), .val (.int p5), .val (.int p6), .val (.int i1), .val (.int i2), .val (.int c0), .val (.int c1), .val (.int d0), .val (.int d1), .val (.int (1 : Int32)), .val (.int (1 : Int32)), .val (.ref b244), .val (.int (0 : Int32))] [(.int d1), (.int d0), (.int (1 : Int32)), (.ref y2), (.ref b244)])) rfl (by rw [hml]; rfl) own_pd9 rfl rfl (by show 2 * 0 + _ ≤ _; exact Nat.le_of_eq rfl) (hb hby at_202) ?_
              intro T301 v301 L301 X301 hQ301
              have q257_0'_v302 := (q257_0'.keep Kq262)
              have q257_3'_v303 := (q257_3'.keep Kq262 (ninS (Ne.symm ne_b244_b257_1) nin0))
              obtain ⟨b301_0, b301_1, k301_0, rfl, N301q, Kq301, zq301_0, zq301_1, q301_0, q301_1, q301_2, q301_3⟩ := hQ301
              have N301 := Fr.app N299 N301q
              have K301 := K262.trans Kq301 all0
              have g_b301_0 : n0 ≤ b301_0 := Nat.le_trans (Nat.le_trans Z0 K262.1) zq301_0
              have sz_b301_0 : h0.size ≤ b301_0 := Nat.le_trans K262.1 zq301_0
              have ne_b244_b301_0 : b244 ≠ b301_0 := Nat.ne_of_lt (Nat.lt_of_lt_of_le q262_0'.lt zq301_0)
              have ne_b257_0_b301_0 : b257_0 ≠ b301_0 := Nat.ne_of_lt (Nat.lt_of_lt_of_le q257_0'_v302.lt zq301_0)
              have ne_b257_1_b301_0 : b257_1 ≠ b301_0 := Nat.ne_of_lt (Nat.lt_of_lt_of_le q257_3'_v303.lt zq301_0)
              have g_b301_1 : n0 ≤ b301_1 := Nat.le_trans (Nat.le_trans Z0 K262.1) zq301_1
              have sz_b301_1 : h0.size ≤ b301_1 := Nat.le_trans K262.1 zq301_1
              have ne_b244_b301_1 : b244 ≠ b301_1 := Nat.ne_of_lt (Nat.lt_of_lt_of_le q262_0'.lt zq301_1)
              have ne_b257_0_b301_1 : b257_0 ≠ b301_1 := Nat.ne_of_lt (Nat.lt_of_lt_of_le q257_0'_v302.lt zq301_1)
              have ne_b257_1_b301_1 : b257_1 ≠ b301_1 := Nat.ne_of_lt (Nat.lt_of_lt_of_le q257_3'_v303.lt zq301_1)
              have RC301 := RC262.trans (CHr.keep Kq301 all0 HC262)
              have HC301 := CHv.keep Kq301 all0 HC262
              have q301_0' : Exa Z T301.heap b301_0 "java/lang/String" := q301_0
              have q301_1' : Fld Z T301.heap b301_0 "java/lang/String" "coder" "B" (.int (0 : Int32)) := q301_1
              have q301_2' : Fld Z T301.heap b301_0 "java/lang/String" "value" "[B" (.ref b301_1) := q301_2
              have q301_3' : Arv Z T301.heap b301_1 k301_0 .byte (1 : Int32) [(.int (d0.toInt8.toInt32))] (.int (0 : Int32)) := q301_3
              show own_Goes _ _ _ _ T301 (mkF m 205 #[.val (.int p1), .val (.int p2), .val (.int p3), .val (.int p4), .val (.int p5), .val (.int p6), .val (.int i1), .val (.int i2), .val (.int c0), .val (.int c1), .val (.int d0), .val (.int d1), .val (.int (1 : Int32)), .val (.int (1 : Int32)), .val (.ref b244), .val (.int (0 : Int32))] [(.ref b301_0), (.ref y2), (.ref b244)])
              have q262_1'_v304 := (q262_1'.keep Kq301 nin0)
              have q262_2'_v305 := (q262_2'.keep Kq301 nin0)
              have q257_0'_v306 := (q257_0'_v302.keep Kq301)
              have q257_1'_v307 := ((q257_1'.keep Kq262 (ninS (Ne.symm ne_b244_b257_0) nin0)).keep Kq301 nin0)
              have q257_2'_v308 := ((q257_2'.keep Kq262 (ninS (Ne.symm ne_b244_b257_0) nin0)).keep Kq301 nin0)
              have q257_3'_v309 := (q257_3'_v303.keep Kq301 nin0)
              have S_COMPACT_STRINGS_v310 := (own_staKeep S_COMPACT_STRINGS_v300 Kq301 all0)
              have q262_0'_v312 := (q262_0'.keep Kq301)
              refine own_callV X301 hx hZ (y := (⟨"com/example/weaverbird/weaverbird/automaton/HoaLexer$Token", "is", "(Lcom/example/weaverbird/weaverbird/automaton/HoaLexer$Type;Ljava/lang/String;)Z"⟩ : MethodName)) (z := (⟨"com/example/weaverbird/weaverbird/automaton/HoaLexer$Token", "is", "(Lcom/example/weaverbird/weaverbird/automaton/HoaLexer$Type;Ljava/lang/String;)Z"⟩ : MethodName)) hown (hw _ (List.mem_of_getElem? (i := 53) rfl)) (hw _ (List.mem_of_getElem? (i := 54) rfl)) (notFace_of_selects (args := #[]) (mvT hZ (hw _ (List.mem_of_getElem? (i := 56) rfl)))) (hw _ (List.mem_of_getElem? (i := 56) rfl)) (hw _ (List.mem_of_getElem? (i := 55) rfl)) (hw _ (List.mem_of_getElem? (i := 57) rfl)) (hw _ (List.mem_of_getElem? (i := 3) rfl)) (by decide) 0 q262_0'_v312 [(.ref y2), (.ref b301_0)] [] (own_is_110 l Z a0 hw [] b244 y2 b301_0 y1 b257_0 b257_1 b301_1 k257_0 k301_0 (c0.toInt8.toInt32) (d0.toInt8.toInt32) zc T301.heap n0 (Nat.le_trans Z0 K301.1) q262_1'_v304 q262_2'_v305 q257_0'_v306 q301_0' q257_1'_v307 q301_1' q257_2'_v308 q301_2' q257_3'_v309 q301_3' S_COMPACT_STRINGS_v310 (hyeq hc146_263) (fun q => hc166_264 (own_b8inj hc0a hc0b hd0a hd0b q)) hz ne_b257_0_b301_0) rfl  (by decide) (by decide) (by decide) (by decide) (g := (mkF m 205 #[.val (.int p1), .val (.int p2), .val (.int p3), .val (.int p4), .val (.int p5), .val (.int p6), .val (.int i1), .val (.int i2), .val (.int c0), .val (.int c1), .val (.int d0), .val (.int d1), .val (.int (1 : Int32)), .val (.int (1 : Int32)), .val (.ref b244), .val (.int (0 : Int32))] [(.ref b301_0), (.ref y2), (.ref b244)])) rfl (by rw [hml]; rfl) own_pd11 rfl rfl (by show 2 * 0 + _ ≤ _; exact Nat.le_of_eq rfl) (hb hby at_205) ?_
              intro T311 v311 L311 X311 hQ311
              obtain ⟨rfl, N311q, e311⟩ := hQ311
              have N311 := Fr.app N301 N311q
              refine own_step (fun t k => XS.iload X311.here hx rfl (hb hby at_208) rfl k) ?_
              show own_Goes _ _ _ _ T311 (mkF m 210 #[.val (.int p1), .val (.int p2), .val (.int p3), .val (.int p4), .val (.int p5), .val (.int p6), .val (.int i1), .val (.int i2), .val (.int c0), .val (.int c1), .val (.int d0), .val (.int d1), .val (.int (1 : Int32)), .val (.int (1 : Int32)), .val (.ref b244), .val (.int (0 : Int32))] [(.int (0 : Int32)), (.int (0 : Int32))])
              refine own_step (fun t k => XS.icmpNo X311.here hx rfl (hb hby at_210) rfl (teq (show (0 : Int32) = (0 : Int32) from (by decide))).2 k) ?_
              refine own_step (fun t k => XS.iconst X311.here hx rfl (hb hby at_213) k) ?_
              refine own_step (fun t k => XS.goto X311.here hx rfl (pc0 := 214) (pc' := 218) rfl (hb hby at_214) (by decide) (by decide) k) ?_
              show own_Goes _ _ _ _ T311 (mkF m 218 #[.val (.int p1), .val (.int p2), .val (.int p3), .val (.int p4), .val (.int p5), .val (.int p6), .val (.int i1), .val (.int i2), .val (.int c0), .val (.int c1), .val (.int d0), .val (.int d1), .val (.int (1 : Int32)), .val (.int (1 : Int32)), .val (.ref b244), .val (.int (0 : Int32))] [(.int (1 : Int32))])
              exact own_outW X311 hlk HS0 (Nat.le_trans (Nat.le_trans (Nat.le_trans (Nat.le_trans (Nat.le_refl _) E244.1) Kq257.1) Kq262.1) Kq301.1) hZ hEL e311 HC301 RC301 (v := some (.int (nar .boolean (1 : Int32)))) (fun q => by rw [hrt] at q; cases q) (fun fs hr => retN X311 hx (t := .boolean) hrt (by simp) (hb hby at_218) hr) ⟨rfl, N311⟩ (by decide) (by decide)
          · refine own_step (fun t k => XS.icmpYes X262.here hx rfl (pc0 := 146) (pc' := 186) rfl (hb hby at_146) rfl (feq (show ¬ (i1 = i2) from hc146_263)).2 (by decide) (by decide) k) ?_
            refine own_step (fun t k => XS.iconst X262.here hx rfl (hb hby at_186) k) ?_
            refine own_step (fun t k => XS.istore X262.here hx rfl (hb hby at_187) rfl (l' := #[.val (.int p1), .val (.int p2), .val (.int p3), .val (.int p4), .val (.int p5), .val (.int p6), .val (.int i1), .val (.int i2), .val (.int c0), .val (.int c1), .val (.int d0), .val (.int d1), .val (.int (1 : Int32)), .val (.int (1 : Int32)), .val (.ref b244), .val (.int (0 : Int32))]) rfl k) ?_
            refine own_step (fun t k => XS.aload X262.here hx rfl (hb hby at_189) rfl rfl k) ?_
            refine own_step (fun t k => XS.iload X262.here hx rfl (hb hby at_191) rfl k) ?_
            show own_Goes _ _ _ _ T262 (mkF m 193 #[.val (.int p1), .val (.int p2), .val (.int p3), .val (.int p4), .val (.int p5), .val (.int p6), .val (.int i1), .val (.int i2), .val (.int c0), .val (.int c1), .val (.int d0), .val (.int d1), .val (.int (1 : Int32)), .val (.int (1 : Int32)), .val (.ref b244), .val (.int (0 : Int32))] [(.int i2), (.ref b244)])
            have S_HEADER_v313 := (own_staKeep (own_staKeep S_HEADER_v245 Kq257 all0) Kq262 (allS (own_plainE A244_v258) all0))
            have S_IDENTIFIER_v314 := (own_staKeep (own_staKeep S_IDENTIFIER_v246 Kq257 all0) Kq262 (allS (own_plainE A244_v258) all0))
            have S_NUMBER_v315 := (own_staKeep (own_staKeep S_NUMBER_v247 Kq257 all0) Kq262 (allS (own_plainE A244_v258) all0))
            have S_STRING_v316 := (own_staKeep (own_staKeep S_STRING_v248 Kq257 all0) Kq262 (allS (own_plainE A244_v258) all0))
            have S_ALIAS_v317 := (own_staKeep (own_staKeep S_ALIAS_v249 Kq257 all0) Kq262 (allS (own_plainE A244_v258) all0))
            have S_SYMBOL_v318 := (own_staKeep (own_staKeep S_SYMBOL_v250 Kq257 all0) Kq262 (allS (own_plainE A244_v258) all0))
            have S_BODY_v319 := (own_staKeep (own_staKeep S_BODY_v251 Kq257 all0) Kq262 (allS (own_plainE A244_v258) all0))
            have S_END_v320 := (own_staKeep (own_staKeep S_END_v252 Kq257 all0) Kq262 (allS (own_plainE A244_v258) all0))
            have S_ABORT_v321 := (own_staKeep (own_staKeep S_ABORT_v253 Kq257 all0) Kq262 (allS (own_plainE A244_v258) all0))
            have S_EOF_v322 := (own_staKeep (own_staKeep S_EOF_v254 Kq257 all0) Kq262 (allS (own_plainE A244_v258) all0))
            refine own_callS X262 hx hZ (y := (⟨"com/example/weaverbird/weaverbird/automaton/TokenIsPinLaw", "type", "(I)Lcom/example/weaverbird/weaverbird/automaton/HoaLexer$Type;"⟩ : MethodName)) hown (hw _ (List.mem_of_getElem? (i := 4) rfl)) (hw _ (List.mem_of_getElem? (i := 5) rfl)) (hw _ (List.mem_of_getElem? (i := 6) rfl)) (hw _ (List.mem_of_getElem? (i := 7) rfl)) (by decide) 1 [(.int i2)] [(.ref b244)] (own_type l Z a0 hw [] i2 y2 w_HEADER w_IDENTIFIER w_NUMBER w_STRING w_ALIAS w_SYMBOL w_BODY w_END w_ABORT w_EOF T262.heap n0 (Nat.le_trans Z0 K262.1) S_HEADER_v313 S_IDENTIFIER_v314 S_NUMBER_v315 S_STRING_v316 S_ALIAS_v317 S_SYMBOL_v318 S_BODY_v319 S_END_v320 S_ABORT_v321 S_EOF_v322 hy2) rfl  (by decide) (by decide) (by decide) (by decide) (g := (mkF m 193 #[.val (.int p1), .val (.int p2), .val (.int p3), .val (.int p4), .val (.int p5), .val (.int p6), .val (.int i1), .val (.int i2), .val (.int c0), .val (.int c1), .val (.int d0), .val (.int d1), .val (.int (1 : Int32)), .val (.int (1 : Int32)), .val (.ref b244), .val (.int (0 : Int32))] [(.int i2), (.ref b244)])) rfl (by rw [hml]; rfl) own_pd8 rfl rfl (by show 2 * 0 + _ ≤ _; exact Nat.le_of_eq rfl) (hb hby at_193) ?_
            intro T323 v323 L323 X323 hQ323
            obtain ⟨rfl, N323q, e323⟩ := hQ323
            have N323 := Fr.app N262 N323q
            refine own_step (fun t k => XS.iload X323.here hx rfl (hb hby at_196) rfl k) ?_
            refine own_step (fun t k => XS.iload X323.here hx rfl (hb hby at_198) rfl k) ?_
            refine own_step (fun t k => XS.iload X323.here hx rfl (hb hby at_200) rfl k) ?_
            show own_Goes _ _ _ _ T323 (mkF m 202 #[.val (.int p1), .val (.int p2), .val (.int p3), .val (.int p4), .val (.int p5), .val (.int p6), .val (.int i1), .val (.int i2), .val (.int c0), .val (.int c1), .val (.int d0), .val (.int d1), .val (.int (1 : Int32)), .val (.int (1 : Int32)), .val (.ref b244), .val (.int (0 : Int32))] [(.int d1), (.int d0), (.int (1 : Int32)), (.ref y2), (.ref b244)])
            have S_COMPACT_STRINGS_v324 := (own_staKeep (own_staKeep S_COMPACT_STRINGS_v256 Kq257 all0) Kq262 (allS (own_plainE A244_v258) all0))
            refine own_callS X323 hx hZ (y := (⟨"com/example/weaverbird/weaverbird/automaton/TokenIsPinLaw", "str", "(ICC)Ljava/lang/String;"⟩ : MethodName)) hown (hw _ (List.mem_of_getElem? (i := 11) rfl)) (hw _ (List.mem_of_getElem? (i := 12) rfl)) (hw _ (List.mem_of_getElem? (i := 6) rfl)) (hw _ (List.mem_of_getElem? (i := 13) rfl)) (by decide) 2 [(.int (1 : Int32)), (.int d0), (.int d1)] [(.ref y2), (.ref b244)] (own_str1 l Z a0 hw [] d0 d1 zc T262.heap n0 (Nat.le_trans Z0 K262.1) S_COMPACT_STRINGS_v324 hd0a hd0b hz) e323  (by decide) (by decide) (by decide) (by decide) (g := (mkF m 202 #[.val (.int p1), .val (.int p2), .val (.int p3), .val (.int p4), .val (.int p5), .val (.int p6), .val (.int i1), .val (.int i2), .val (.int c0), .val (.int c1), .val (.int d0), .val (.int d1), .val (.int (1 : Int32)), .val (.int (1 : Int32)), .val (.ref b244), .val (.int (0 : Int32))] [(.int d1), (.int d0), (.int (1 : Int32)), (.ref y2), (.ref b244)])) rfl (by rw [hml]; rfl) own_pd9 rfl rfl (by show 2 * 0 + _ ≤ _; exact Nat.le_of_eq rfl) (hb hby at_202) ?_
            intro T325 v325 L325 X325 hQ325
            have q257_0'_v326 := (q257_0'.keep Kq262)
            have q257_3'_v327 := (q257_3'.keep Kq262 (ninS (Ne.symm ne_b244_b257_1) nin0))
            obtain ⟨b325_0, b325_1, k325_0, rfl, N325q, Kq325, zq325_0, zq325_1, q325_0, q325_1, q325_2, q325_3⟩ := hQ325
            have N325 := Fr.app N323 N325q
            have K325 := K262.trans Kq325 all0
            have g_b325_0 : n0 ≤ b325_0 := Nat.le_trans (Nat.le_trans Z0 K262.1) zq325_0
            have sz_b325_0 : h0.size ≤ b325_0 := Nat.le_trans K262.1 zq325_0
            have ne_b244_b325_0 : b244 ≠ b325_0 := Nat.ne_of_lt (Nat.lt_of_lt_of_le q262_0'.lt zq325_0)
            have ne_b257_0_b325_0 : b257_0 ≠ b325_0 := Nat.ne_of_lt (Nat.lt_of_lt_of_le q257_0'_v326.lt zq325_0)
            have ne_b257_1_b325_0 : b257_1 ≠ b325_0 := Nat.ne_of_lt (Nat.lt_of_lt_of_le q257_3'_v327.lt zq325_0)
            have g_b325_1 : n0 ≤ b325_1 := Nat.le_trans (Nat.le_trans Z0 K262.1) zq325_1
            have sz_b325_1 : h0.size ≤ b325_1 := Nat.le_trans K262.1 zq325_1
            have ne_b244_b325_1 : b244 ≠ b325_1 := Nat.ne_of_lt (Nat.lt_of_lt_of_le q262_0'.lt zq325_1)
            have ne_b257_0_b325_1 : b257_0 ≠ b325_1 := Nat.ne_of_lt (Nat.lt_of_lt_of_le q257_0'_v326.lt zq325_1)
            have ne_b257_1_b325_1 : b257_1 ≠ b325_1 := Nat.ne_of_lt (Nat.lt_of_lt_of_le q257_3'_v327.lt zq325_1)
            have RC325 := RC262.trans (CHr.keep Kq325 all0 HC262)
            have HC325 := CHv.keep Kq325 all0 HC262
            have q325_0' : Exa Z T325.heap b325_0 "java/lang/String" := q325_0
            have q325_1' : Fld Z T325.heap b325_0 "java/lang/String" "coder" "B" (.int (0 : Int32)) := q325_1
            have q325_2' : Fld Z T325.heap b325_0 "java/lang/String" "value" "[B" (.ref b325_1) := q325_2
            have q325_3' : Arv Z T325.heap b325_1 k325_0 .byte (1 : Int32) [(.int (d0.toInt8.toInt32))] (.int (0 : Int32)) := q325_3
            show own_Goes _ _ _ _ T325 (mkF m 205 #[.val (.int p1), .val (.int p2), .val (.int p3), .val (.int p4), .val (.int p5), .val (.int p6), .val (.int i1), .val (.int i2), .val (.int c0), .val (.int c1), .val (.int d0), .val (.int d1), .val (.int (1 : Int32)), .val (.int (1 : Int32)), .val (.ref b244), .val (.int (0 : Int32))] [(.ref b325_0), (.ref y2), (.ref b244)])
            have q262_1'_v328 := (q262_1'.keep Kq325 nin0)
            have q262_0'_v330 := (q262_0'.keep Kq325)
            refine own_callV X325 hx hZ (y := (⟨"com/example/weaverbird/weaverbird/automaton/HoaLexer$Token", "is", "(Lcom/example/weaverbird/weaverbird/automaton/HoaLexer$Type;Ljava/lang/String;)Z"⟩ : MethodName)) (z := (⟨"com/example/weaverbird/weaverbird/automaton/HoaLexer$Token", "is", "(Lcom/example/weaverbird/weaverbird/automaton/HoaLexer$Type;Ljava/lang/String;)Z"⟩ : MethodName)) hown (hw _ (List.mem_of_getElem? (i := 53) rfl)) (hw _ (List.mem_of_getElem? (i := 54) rfl)) (notFace_of_selects (args := #[]) (mvT hZ (hw _ (List.mem_of_getElem? (i := 56) rfl)))) (hw _ (List.mem_of_getElem? (i := 56) rfl)) (hw _ (List.mem_of_getElem? (i := 55) rfl)) (hw _ (List.mem_of_getElem? (i := 57) rfl)) (hw _ (List.mem_of_getElem? (i := 3) rfl)) (by decide) 0 q262_0'_v330 [(.ref y2), (.ref b325_0)] [] (own_is_ne l Z a0 hw [] b244 y2 b325_0 y1 T325.heap n0 (Nat.le_trans Z0 K325.1) q262_1'_v328 (hyne hc146_263)) rfl  (by decide) (by decide) (by decide) (by decide) (g := (mkF m 205 #[.val (.int p1), .val (.int p2), .val (.int p3), .val (.int p4), .val (.int p5), .val (.int p6), .val (.int i1), .val (.int i2), .val (.int c0), .val (.int c1), .val (.int d0), .val (.int d1), .val (.int (1 : Int32)), .val (.int (1 : Int32)), .val (.ref b244), .val (.int (0 : Int32))] [(.ref b325_0), (.ref y2), (.ref b244)])) rfl (by rw [hml]; rfl) own_pd11 rfl rfl (by show 2 * 0 + _ ≤ _; exact Nat.le_of_eq rfl) (hb hby at_205) ?_
            intro T329 v329 L329 X329 hQ329
            obtain ⟨rfl, N329q, e329⟩ := hQ329
            have N329 := Fr.app N325 N329q
            refine own_step (fun t k => XS.iload X329.here hx rfl (hb hby at_208) rfl k) ?_
            show own_Goes _ _ _ _ T329 (mkF m 210 #[.val (.int p1), .val (.int p2), .val (.int p3), .val (.int p4), .val (.int p5), .val (.int p6), .val (.int i1), .val (.int i2), .val (.int c0), .val (.int c1), .val (.int d0), .val (.int d1), .val (.int (1 : Int32)), .val (.int (1 : Int32)), .val (.ref b244), .val (.int (0 : Int32))] [(.int (0 : Int32)), (.int (0 : Int32))])
            refine own_step (fun t k => XS.icmpNo X329.here hx rfl (hb hby at_210) rfl (teq (show (0 : Int32) = (0 : Int32) from (by decide))).2 k) ?_
            refine own_step (fun t k => XS.iconst X329.here hx rfl (hb hby at_213) k) ?_
            refine own_step (fun t k => XS.goto X329.here hx rfl (pc0 := 214) (pc' := 218) rfl (hb hby at_214) (by decide) (by decide) k) ?_
            show own_Goes _ _ _ _ T329 (mkF m 218 #[.val (.int p1), .val (.int p2), .val (.int p3), .val (.int p4), .val (.int p5), .val (.int p6), .val (.int i1), .val (.int i2), .val (.int c0), .val (.int c1), .val (.int d0), .val (.int d1), .val (.int (1 : Int32)), .val (.int (1 : Int32)), .val (.ref b244), .val (.int (0 : Int32))] [(.int (1 : Int32))])
            exact own_outW X329 hlk HS0 (Nat.le_trans (Nat.le_trans (Nat.le_trans (Nat.le_trans (Nat.le_refl _) E244.1) Kq257.1) Kq262.1) Kq325.1) hZ hEL e329 HC325 RC325 (v := some (.int (nar .boolean (1 : Int32)))) (fun q => by rw [hrt] at q; cases q) (fun fs hr => retN X329 hx (t := .boolean) hrt (by simp) (hb hby at_218) hr) ⟨rfl, N329⟩ (by decide) (by decide)
        · show own_Goes _ _ _ _ s₁ (mkF m 117 #[.val (.int p1), .val (.int p2), .val (.int p3), .val (.int p4), .val (.int p5), .val (.int p6), .val (.int i1), .val (.int i2), .val (.int c0), .val (.int c1), .val (.int d0), .val (.int d1), .val (.int (1 : Int32)), .val (.int (2 : Int32)), .unset, .unset] [])
          obtain ⟨T331, h331, X331, e331, E331, A331, D331, -, st331⟩ := newO X0 hx hZ hown (hw _ (List.mem_of_getElem? (i := 1) rfl)) (hw _ (List.mem_of_getElem? (i := 2) rfl)) (hw _ (List.mem_of_getElem? (i := 3) rfl)) e0 (g := (mkF m 117 #[.val (.int p1), .val (.int p2), .val (.int p3), .val (.int p4), .val (.int p5), .val (.int p6), .val (.int i1), .val (.int i2), .val (.int c0), .val (.int c1), .val (.int d0), .val (.int d1), .val (.int (1 : Int32)), .val (.int (2 : Int32)), .unset, .unset] [])) rfl (hb hby at_117) (by decide) (by decide)
          obtain ⟨b331, g331⟩ : ∃ z, z = h0.size := ⟨_, rfl⟩
          rw [← g331] at A331 D331 st331
          refine own_step st331 ?_
          have g_b331 : n0 ≤ b331 := Nat.le_trans Z0 (Nat.le_of_eq g331.symm)
          have sz_b331 : h0.size ≤ b331 := Nat.le_trans (Keep.refl h0 []).1 (Nat.le_of_eq g331.symm)
          have K331 := (Keep.refl h0 []).ext E331
          have RC331 := RC0.trans (CHr.ext E331 HC0)
          have HC331 := CHv.ext E331 HC0
          have F_b331_type : Fld Z h331 b331 "com/example/weaverbird/weaverbird/automaton/HoaLexer$Token" "type" "Lcom/example/weaverbird/weaverbird/automaton/HoaLexer$Type;" .null := D331 (Or.inr (hw _ (List.mem_of_getElem? (i := 46) rfl))) (ty := (.object "com/example/weaverbird/weaverbird/automaton/HoaLexer$Type")) (by decide)
          have F_b331_text : Fld Z h331 b331 "com/example/weaverbird/weaverbird/automaton/HoaLexer$Token" "text" "Ljava/lang/String;" .null := D331 (Or.inr (hw _ (List.mem_of_getElem? (i := 48) rfl))) (ty := (.object "java/lang/String")) (by decide)
          have F_b331_line : Fld Z h331 b331 "com/example/weaverbird/weaverbird/automaton/HoaLexer$Token" "line" "I" (.int (0 : Int32)) := D331 (Or.inr (hw _ (List.mem_of_getElem? (i := 50) rfl))) (ty := .int) (by decide)
          refine own_step (fun t k => XS.dup X331.here hx rfl (hb hby at_120) rfl rfl k) ?_
          refine own_step (fun t k => XS.iload X331.here hx rfl (hb hby at_121) rfl k) ?_
          show own_Goes _ _ _ _ T331 (mkF m 123 #[.val (.int p1), .val (.int p2), .val (.int p3), .val (.int p4), .val (.int p5), .val (.int p6), .val (.int i1), .val (.int i2), .val (.int c0), .val (.int c1), .val (.int d0), .val (.int d1), .val (.int (1 : Int32)), .val (.int (2 : Int32)), .unset, .unset] [(.int i1), (.ref b331), (.ref b331)])
          have S_HEADER_v332 := (S_HEADER.ext E331)
          have S_IDENTIFIER_v333 := (S_IDENTIFIER.ext E331)
          have S_NUMBER_v334 := (S_NUMBER.ext E331)
          have S_STRING_v335 := (S_STRING.ext E331)
          have S_ALIAS_v336 := (S_ALIAS.ext E331)
          have S_SYMBOL_v337 := (S_SYMBOL.ext E331)
          have S_BODY_v338 := (S_BODY.ext E331)
          have S_END_v339 := (S_END.ext E331)
          have S_ABORT_v340 := (S_ABORT.ext E331)
          have S_EOF_v341 := (S_EOF.ext E331)
          refine own_callS X331 hx hZ (y := (⟨"com/example/weaverbird/weaverbird/automaton/TokenIsPinLaw", "type", "(I)Lcom/example/weaverbird/weaverbird/automaton/HoaLexer$Type;"⟩ : MethodName)) hown (hw _ (List.mem_of_getElem? (i := 4) rfl)) (hw _ (List.mem_of_getElem? (i := 5) rfl)) (hw _ (List.mem_of_getElem? (i := 6) rfl)) (hw _ (List.mem_of_getElem? (i := 7) rfl)) (by decide) 2 [(.int i1)] [(.ref b331), (.ref b331)] (own_type l Z a0 hw [] i1 y1 w_HEADER w_IDENTIFIER w_NUMBER w_STRING w_ALIAS w_SYMBOL w_BODY w_END w_ABORT w_EOF h331 n0 (Nat.le_trans Z0 K331.1) S_HEADER_v332 S_IDENTIFIER_v333 S_NUMBER_v334 S_STRING_v335 S_ALIAS_v336 S_SYMBOL_v337 S_BODY_v338 S_END_v339 S_ABORT_v340 S_EOF_v341 hy1) e331  (by decide) (by decide) (by decide) (by decide) (g := (mkF m 123 #[.val (.int p1), .val (.int p2), .val (.int p3), .val (.int p4), .val (.int p5), .val (.int p6), .val (.int i1), .val (.int i2), .val (.int c0), .val (.int c1), .val (.int d0), .val (.int d1), .val (.int (1 : Int32)), .val (.int (2 : Int32)), .unset, .unset] [(.int i1), (.ref b331), (.ref b331)])) rfl (by rw [hml]; rfl) own_pd8 rfl rfl (by show 2 * 0 + _ ≤ _; exact Nat.le_of_eq rfl) (hb hby at_123) ?_
          intro T342 v342 L342 X342 hQ342
          obtain ⟨rfl, N342q, e342⟩ := hQ342
          have N342 := Fr.app N0 N342q
          refine own_step (fun t k => XS.iload X342.here hx rfl (hb hby at_126) rfl k) ?_
          refine own_step (fun t k => XS.iload X342.here hx rfl (hb hby at_128) rfl k) ?_
          refine own_step (fun t k => XS.iload X342.here hx rfl (hb hby at_130) rfl k) ?_
          show own_Goes _ _ _ _ T342 (mkF m 132 #[.val (.int p1), .val (.int p2), .val (.int p3), .val (.int p4), .val (.int p5), .val (.int p6), .val (.int i1), .val (.int i2), .val (.int c0), .val (.int c1), .val (.int d0), .val (.int d1), .val (.int (1 : Int32)), .val (.int (2 : Int32)), .unset, .unset] [(.int c1), (.int c0), (.int (1 : Int32)), (.ref y1), (.ref b331), (.ref b331)])
          have S_COMPACT_STRINGS_v343 := (S_COMPACT_STRINGS.ext E331)
          refine own_callS X342 hx hZ (y := (⟨"com/example/weaverbird/weaverbird/automaton/TokenIsPinLaw", "str", "(ICC)Ljava/lang/String;"⟩ : MethodName)) hown (hw _ (List.mem_of_getElem? (i := 11) rfl)) (hw _ (List.mem_of_getElem? (i := 12) rfl)) (hw _ (List.mem_of_getElem? (i := 6) rfl)) (hw _ (List.mem_of_getElem? (i := 13) rfl)) (by decide) 3 [(.int (1 : Int32)), (.int c0), (.int c1)] [(.ref y1), (.ref b331), (.ref b331)] (own_str1 l Z a0 hw [] c0 c1 zc h331 n0 (Nat.le_trans Z0 K331.1) S_COMPACT_STRINGS_v343 hc0a hc0b hz) e342  (by decide) (by decide) (by decide) (by decide) (g := (mkF m 132 #[.val (.int p1), .val (.int p2), .val (.int p3), .val (.int p4), .val (.int p5), .val (.int p6), .val (.int i1), .val (.int i2), .val (.int c0), .val (.int c1), .val (.int d0), .val (.int d1), .val (.int (1 : Int32)), .val (.int (2 : Int32)), .unset, .unset] [(.int c1), (.int c0), (.int (1 : Int32)), (.ref y1), (.ref b331), (.ref b331)])) rfl (by rw [hml]; rfl) own_pd9 rfl rfl (by show 2 * 0 + _ ≤ _; exact Nat.le_of_eq rfl) (hb hby at_132) ?_
          intro T344 v344 L344 X344 hQ344
          obtain ⟨b344_0, b344_1, k344_0, rfl, N344q, Kq344, zq344_0, zq344_1, q344_0, q344_1, q344_2, q344_3⟩ := hQ344
          have N344 := Fr.app N342 N344q
          have K344 := K331.trans Kq344 all0
          have g_b344_0 : n0 ≤ b344_0 := Nat.le_trans (Nat.le_trans Z0 K331.1) zq344_0
          have sz_b344_0 : h0.size ≤ b344_0 := Nat.le_trans K331.1 zq344_0
          have ne_b331_b344_0 : b331 ≠ b344_0 := Nat.ne_of_lt (Nat.lt_of_lt_of_le A331.lt zq344_0)
          have g_b344_1 : n0 ≤ b344_1 := Nat.le_trans (Nat.le_trans Z0 K331.1) zq344_1
          have sz_b344_1 : h0.size ≤ b344_1 := Nat.le_trans K331.1 zq344_1
          have ne_b331_b344_1 : b331 ≠ b344_1 := Nat.ne_of_lt (Nat.lt_of_lt_of_le A331.lt zq344_1)
          have RC344 := RC331.trans (CHr.keep Kq344 all0 HC331)
          have HC344 := CHv.keep Kq344 all0 HC331
          have q344_0' : Exa Z T344.heap b344_0 "java/lang/String" := q344_0
          have q344_1' : Fld Z T344.heap b344_0 "java/lang/String" "coder" "B" (.int (0 : Int32)) := q344_1
          have q344_2' : Fld Z T344.heap b344_0 "java/lang/String" "value" "[B" (.ref b344_1) := q344_2
          have q344_3' : Arv Z T344.heap b344_1 k344_0 .byte (1 : Int32) [(.int (c0.toInt8.toInt32))] (.int (0 : Int32)) := q344_3
          refine own_step (fun t k => XS.iload X344.here hx rfl (hb hby at_135) rfl k) ?_
          show own_Goes _ _ _ _ T344 (mkF m 137 #[.val (.int p1), .val (.int p2), .val (.int p3), .val (.int p4), .val (.int p5), .val (.int p6), .val (.int i1), .val (.int i2), .val (.int c0), .val (.int c1), .val (.int d0), .val (.int d1), .val (.int (1 : Int32)), .val (.int (2 : Int32)), .unset, .unset] [(.int p6), (.ref b344_0), (.ref y1), (.ref b331), (.ref b331)])
          have A331_v345 := (A331.keep Kq344)
          have F_b331_type_v346 := (F_b331_type.keep Kq344 nin0)
          have F_b331_text_v347 := (F_b331_text.keep Kq344 nin0)
          have F_b331_line_v348 := (F_b331_line.keep Kq344 nin0)
          refine own_callC X344 hx hZ (y := (⟨"com/example/weaverbird/weaverbird/automaton/HoaLexer$Token", "<init>", "(Lcom/example/weaverbird/weaverbird/automaton/HoaLexer$Type;Ljava/lang/String;I)V"⟩ : MethodName)) rfl hown (hw _ (List.mem_of_getElem? (i := 36) rfl)) (hw _ (List.mem_of_getElem? (i := 37) rfl)) (hw _ (List.mem_of_getElem? (i := 38) rfl)) (hw _ (List.mem_of_getElem? (i := 3) rfl)) (by decide) 1 (a := b331) [(.ref y1), (.ref b344_0), (.int p6)] [(.ref b331)] (own_tinit l Z a0 hw [] b331 y1 b344_0 p6 T344.heap n0 (Nat.le_trans Z0 K344.1) A331_v345 F_b331_type_v346 F_b331_text_v347 F_b331_line_v348 g_b331) rfl  (by decide) (by decide) (by decide) (by decide) (g := (mkF m 137 #[.val (.int p1), .val (.int p2), .val (.int p3), .val (.int p4), .val (.int p5), .val (.int p6), .val (.int i1), .val (.int i2), .val (.int c0), .val (.int c1), .val (.int d0), .val (.int d1), .val (.int (1 : Int32)), .val (.int (2 : Int32)), .unset, .unset] [(.int p6), (.ref b344_0), (.ref y1), (.ref b331), (.ref b331)])) rfl (by rw [hml]; rfl) own_pd10 rfl rfl (by show 2 * 0 + _ ≤ _; exact Nat.le_of_eq rfl) (hb hby at_137) ?_
          intro T349 v349 L349 X349 hQ349
          obtain ⟨rfl, N349q, Kq349, q349_0, q349_1, q349_2⟩ := hQ349
          have N349 := Fr.app N344 N349q
          have K349 := K344.trans Kq349 (allS (Or.inr sz_b331) all0)
          have RC349 := RC344.trans (CHr.keep Kq349 (allS (Safe.exa hZ.alike A331_v345 (by decide) (by decide)) all0) HC344)
          have HC349 := CHv.keep Kq349 (allS (Safe.exa hZ.alike A331_v345 (by decide) (by decide)) all0) HC344
          have q349_0' : Exa Z T349.heap b331 "com/example/weaverbird/weaverbird/automaton/HoaLexer$Token" := q349_0
          have q349_1' : Fld Z T349.heap b331 "com/example/weaverbird/weaverbird/automaton/HoaLexer$Token" "type" "Lcom/example/weaverbird/weaverbird/automaton/HoaLexer$Type;" (.ref y1) := q349_1
          have q349_2' : Fld Z T349.heap b331 "com/example/weaverbird/weaverbird/automaton/HoaLexer$Token" "text" "Ljava/lang/String;" (.ref b344_0) := q349_2
          refine own_step (fun t k => XS.astore X349.here hx rfl (hb hby at_140) rfl rfl (l' := #[.val (.int p1), .val (.int p2), .val (.int p3), .val (.int p4), .val (.int p5), .val (.int p6), .val (.int i1), .val (.int i2), .val (.int c0), .val (.int c1), .val (.int d0), .val (.int d1), .val (.int (1 : Int32)), .val (.int (2 : Int32)), .val (.ref b331), .unset]) rfl k) ?_
          refine own_step (fun t k => XS.iload X349.here hx rfl (hb hby at_142) rfl k) ?_
          refine own_step (fun t k => XS.iload X349.here hx rfl (hb hby at_144) rfl k) ?_
          show own_Goes _ _ _ _ T349 (mkF m 146 #[.val (.int p1), .val (.int p2), .val (.int p3), .val (.int p4), .val (.int p5), .val (.int p6), .val (.int i1), .val (.int i2), .val (.int c0), .val (.int c1), .val (.int d0), .val (.int d1), .val (.int (1 : Int32)), .val (.int (2 : Int32)), .val (.ref b331), .unset] [(.int i2), (.int i1)])
          by_cases hc146_350 : i1 = i2
          · refine own_step (fun t k => XS.icmpNo X349.here hx rfl (hb hby at_146) rfl (teq (show i1 = i2 from hc146_350)).2 k) ?_
            refine own_step (fun t k => XS.iload X349.here hx rfl (hb hby at_149) rfl k) ?_
            refine own_step (fun t k => XS.iload X349.here hx rfl (hb hby at_151) rfl k) ?_
            show own_Goes _ _ _ _ T349 (mkF m 153 #[.val (.int p1), .val (.int p2), .val (.int p3), .val (.int p4), .val (.int p5), .val (.int p6), .val (.int i1), .val (.int i2), .val (.int c0), .val (.int c1), .val (.int d0), .val (.int d1), .val (.int (1 : Int32)), .val (.int (2 : Int32)), .val (.ref b331), .unset] [(.int (2 : Int32)), (.int (1 : Int32))])
            refine own_step (fun t k => XS.icmpYes X349.here hx rfl (pc0 := 153) (pc' := 186) rfl (hb hby at_153) rfl (feq (show ¬ ((1 : Int32) = (2 : Int32)) from (by decide))).2 (by decide) (by decide) k) ?_
            refine own_step (fun t k => XS.iconst X349.here hx rfl (hb hby at_186) k) ?_
            refine own_step (fun t k => XS.istore X349.here hx rfl (hb hby at_187) rfl (l' := #[.val (.int p1), .val (.int p2), .val (.int p3), .val (.int p4), .val (.int p5), .val (.int p6), .val (.int i1), .val (.int i2), .val (.int c0), .val (.int c1), .val (.int d0), .val (.int d1), .val (.int (1 : Int32)), .val (.int (2 : Int32)), .val (.ref b331), .val (.int (0 : Int32))]) rfl k) ?_
            refine own_step (fun t k => XS.aload X349.here hx rfl (hb hby at_189) rfl rfl k) ?_
            refine own_step (fun t k => XS.iload X349.here hx rfl (hb hby at_191) rfl k) ?_
            show own_Goes _ _ _ _ T349 (mkF m 193 #[.val (.int p1), .val (.int p2), .val (.int p3), .val (.int p4), .val (.int p5), .val (.int p6), .val (.int i1), .val (.int i2), .val (.int c0), .val (.int c1), .val (.int d0), .val (.int d1), .val (.int (1 : Int32)), .val (.int (2 : Int32)), .val (.ref b331), .val (.int (0 : Int32))] [(.int i2), (.ref b331)])
            have S_HEADER_v351 := (own_staKeep (own_staKeep S_HEADER_v332 Kq344 all0) Kq349 (allS (own_plainE A331_v345) all0))
            have S_IDENTIFIER_v352 := (own_staKeep (own_staKeep S_IDENTIFIER_v333 Kq344 all0) Kq349 (allS (own_plainE A331_v345) all0))
            have S_NUMBER_v353 := (own_staKeep (own_staKeep S_NUMBER_v334 Kq344 all0) Kq349 (allS (own_plainE A331_v345) all0))
            have S_STRING_v354 := (own_staKeep (own_staKeep S_STRING_v335 Kq344 all0) Kq349 (allS (own_plainE A331_v345) all0))
            have S_ALIAS_v355 := (own_staKeep (own_staKeep S_ALIAS_v336 Kq344 all0) Kq349 (allS (own_plainE A331_v345) all0))
            have S_SYMBOL_v356 := (own_staKeep (own_staKeep S_SYMBOL_v337 Kq344 all0) Kq349 (allS (own_plainE A331_v345) all0))
            have S_BODY_v357 := (own_staKeep (own_staKeep S_BODY_v338 Kq344 all0) Kq349 (allS (own_plainE A331_v345) all0))
            have S_END_v358 := (own_staKeep (own_staKeep S_END_v339 Kq344 all0) Kq349 (allS (own_plainE A331_v345) all0))
            have S_ABORT_v359 := (own_staKeep (own_staKeep S_ABORT_v340 Kq344 all0) Kq349 (allS (own_plainE A331_v345) all0))
            have S_EOF_v360 := (own_staKeep (own_staKeep S_EOF_v341 Kq344 all0) Kq349 (allS (own_plainE A331_v345) all0))
            refine own_callS X349 hx hZ (y := (⟨"com/example/weaverbird/weaverbird/automaton/TokenIsPinLaw", "type", "(I)Lcom/example/weaverbird/weaverbird/automaton/HoaLexer$Type;"⟩ : MethodName)) hown (hw _ (List.mem_of_getElem? (i := 4) rfl)) (hw _ (List.mem_of_getElem? (i := 5) rfl)) (hw _ (List.mem_of_getElem? (i := 6) rfl)) (hw _ (List.mem_of_getElem? (i := 7) rfl)) (by decide) 1 [(.int i2)] [(.ref b331)] (own_type l Z a0 hw [] i2 y2 w_HEADER w_IDENTIFIER w_NUMBER w_STRING w_ALIAS w_SYMBOL w_BODY w_END w_ABORT w_EOF T349.heap n0 (Nat.le_trans Z0 K349.1) S_HEADER_v351 S_IDENTIFIER_v352 S_NUMBER_v353 S_STRING_v354 S_ALIAS_v355 S_SYMBOL_v356 S_BODY_v357 S_END_v358 S_ABORT_v359 S_EOF_v360 hy2) rfl  (by decide) (by decide) (by decide) (by decide) (g := (mkF m 193 #[.val (.int p1), .val (.int p2), .val (.int p3), .val (.int p4), .val (.int p5), .val (.int p6), .val (.int i1), .val (.int i2), .val (.int c0), .val (.int c1), .val (.int d0), .val (.int d1), .val (.int (1 : Int32)), .val (.int (2 : Int32)), .val (.ref b331), .val (.int (0 : Int32))] [(.int i2), (.ref b331)])) rfl (by rw [hml]; rfl) own_pd8 rfl rfl (by show 2 * 0 + _ ≤ _; exact Nat.le_of_eq rfl) (hb hby at_193) ?_
            intro T361 v361 L361 X361 hQ361
            obtain ⟨rfl, N361q, e361⟩ := hQ361
            have N361 := Fr.app N349 N361q
            refine own_step (fun t k => XS.iload X361.here hx rfl (hb hby at_196) rfl k) ?_
            refine own_step (fun t k => XS.iload X361.here hx rfl (hb hby at_198) rfl k) ?_
            refine own_step (fun t k => XS.iload X361.here hx rfl (hb hby at_200) rfl k) ?_
            show own_Goes _ _ _ _ T361 (mkF m 202 #[.val (.int p1), .val (.int p2), .val (.int p3), .val (.int p4), .val (.int p5), .val (.int p6), .val (.int i1), .val (.int i2), .val (.int c0), .val (.int c1), .val (.int d0), .val (.int d1), .val (.int (1 : Int32)), .val (.int (2 : Int32)), .val (.ref b331), .val (.int (0 : Int32))] [(.int d1), (.int d0), (.int (2 : Int32)), (.ref y2), (.ref b331)])
            have S_COMPACT_STRINGS_v362 := (own_staKeep (own_staKeep S_COMPACT_STRINGS_v343 Kq344 all0) Kq349 (allS (own_plainE A331_v345) all0))
            refine own_callS X361 hx hZ (y := (⟨"com/example/weaverbird/weaverbird/automaton/TokenIsPinLaw", "str", "(ICC)Ljava/lang/String;"⟩ : MethodName)) hown (hw _ (List.mem_of_getElem? (i := 11) rfl)) (hw _ (List.mem_of_getElem? (i := 12) rfl)) (hw _ (List.mem_of_getElem? (i := 6) rfl)) (hw _ (List.mem_of_getElem? (i := 13) rfl)) (by decide) 2 [(.int (2 : Int32)), (.int d0), (.int d1)] [(.ref y2), (.ref b331)] (own_str2 l Z a0 hw [] d0 d1 zc T349.heap n0 (Nat.le_trans Z0 K349.1) S_COMPACT_STRINGS_v362 hd0a hd0b hd1a hd1b hz) e361  (by decide) (by decide) (by decide) (by decide) (g := (mkF m 202 #[.val (.int p1), .val (.int p2), .val (.int p3), .val (.int p4), .val (.int p5), .val (.int p6), .val (.int i1), .val (.int i2), .val (.int c0), .val (.int c1), .val (.int d0), .val (.int d1), .val (.int (1 : Int32)), .val (.int (2 : Int32)), .val (.ref b331), .val (.int (0 : Int32))] [(.int d1), (.int d0), (.int (2 : Int32)), (.ref y2), (.ref b331)])) rfl (by rw [hml]; rfl) own_pd9 rfl rfl (by show 2 * 0 + _ ≤ _; exact Nat.le_of_eq rfl) (hb hby at_202) ?_
            intro T363 v363 L363 X363 hQ363
            have q344_0'_v364 := (q344_0'.keep Kq349)
            have q344_3'_v365 := (q344_3'.keep Kq349 (ninS (Ne.symm ne_b331_b344_1) nin0))
            obtain ⟨b363_0, b363_1, k363_0, rfl, N363q, Kq363, zq363_0, zq363_1, q363_0, q363_1, q363_2, q363_3⟩ := hQ363
            have N363 := Fr.app N361 N363q
            have K363 := K349.trans Kq363 all0
            have g_b363_0 : n0 ≤ b363_0 := Nat.le_trans (Nat.le_trans Z0 K349.1) zq363_0
            have sz_b363_0 : h0.size ≤ b363_0 := Nat.le_trans K349.1 zq363_0
            have ne_b331_b363_0 : b331 ≠ b363_0 := Nat.ne_of_lt (Nat.lt_of_lt_of_le q349_0'.lt zq363_0)
            have ne_b344_0_b363_0 : b344_0 ≠ b363_0 := Nat.ne_of_lt (Nat.lt_of_lt_of_le q344_0'_v364.lt zq363_0)
            have ne_b344_1_b363_0 : b344_1 ≠ b363_0 := Nat.ne_of_lt (Nat.lt_of_lt_of_le q344_3'_v365.lt zq363_0)
            have g_b363_1 : n0 ≤ b363_1 := Nat.le_trans (Nat.le_trans Z0 K349.1) zq363_1
            have sz_b363_1 : h0.size ≤ b363_1 := Nat.le_trans K349.1 zq363_1
            have ne_b331_b363_1 : b331 ≠ b363_1 := Nat.ne_of_lt (Nat.lt_of_lt_of_le q349_0'.lt zq363_1)
            have ne_b344_0_b363_1 : b344_0 ≠ b363_1 := Nat.ne_of_lt (Nat.lt_of_lt_of_le q344_0'_v364.lt zq363_1)
            have ne_b344_1_b363_1 : b344_1 ≠ b363_1 := Nat.ne_of_lt (Nat.lt_of_lt_of_le q344_3'_v365.lt zq363_1)
            have RC363 := RC349.trans (CHr.keep Kq363 all0 HC349)
            have HC363 := CHv.keep Kq363 all0 HC349
            have q363_0' : Exa Z T363.heap b363_0 "java/lang/String" := q363_0
            have q363_1' : Fld Z T363.heap b363_0 "java/lang/String" "coder" "B" (.int (0 : Int32)) := q363_1
            have q363_2' : Fld Z T363.heap b363_0 "java/lang/String" "value" "[B" (.ref b363_1) := q363_2
            have q363_3' : Arv Z T363.heap b363_1 k363_0 .byte (2 : Int32) [(.int (d0.toInt8.toInt32)), (.int (d1.toInt8.toInt32))] (.int (0 : Int32)) := q363_3
            show own_Goes _ _ _ _ T363 (mkF m 205 #[.val (.int p1), .val (.int p2), .val (.int p3), .val (.int p4), .val (.int p5), .val (.int p6), .val (.int i1), .val (.int i2), .val (.int c0), .val (.int c1), .val (.int d0), .val (.int d1), .val (.int (1 : Int32)), .val (.int (2 : Int32)), .val (.ref b331), .val (.int (0 : Int32))] [(.ref b363_0), (.ref y2), (.ref b331)])
            have q349_1'_v366 := (q349_1'.keep Kq363 nin0)
            have q349_2'_v367 := (q349_2'.keep Kq363 nin0)
            have q344_0'_v368 := (q344_0'_v364.keep Kq363)
            have q344_1'_v369 := ((q344_1'.keep Kq349 (ninS (Ne.symm ne_b331_b344_0) nin0)).keep Kq363 nin0)
            have q344_2'_v370 := ((q344_2'.keep Kq349 (ninS (Ne.symm ne_b331_b344_0) nin0)).keep Kq363 nin0)
            have q344_3'_v371 := (q344_3'_v365.keep Kq363 nin0)
            have S_COMPACT_STRINGS_v372 := (own_staKeep S_COMPACT_STRINGS_v362 Kq363 all0)
            have q349_0'_v374 := (q349_0'.keep Kq363)
            refine own_callV X363 hx hZ (y := (⟨"com/example/weaverbird/weaverbird/automaton/HoaLexer$Token", "is", "(Lcom/example/weaverbird/weaverbird/automaton/HoaLexer$Type;Ljava/lang/String;)Z"⟩ : MethodName)) (z := (⟨"com/example/weaverbird/weaverbird/automaton/HoaLexer$Token", "is", "(Lcom/example/weaverbird/weaverbird/automaton/HoaLexer$Type;Ljava/lang/String;)Z"⟩ : MethodName)) hown (hw _ (List.mem_of_getElem? (i := 53) rfl)) (hw _ (List.mem_of_getElem? (i := 54) rfl)) (notFace_of_selects (args := #[]) (mvT hZ (hw _ (List.mem_of_getElem? (i := 56) rfl)))) (hw _ (List.mem_of_getElem? (i := 56) rfl)) (hw _ (List.mem_of_getElem? (i := 55) rfl)) (hw _ (List.mem_of_getElem? (i := 57) rfl)) (hw _ (List.mem_of_getElem? (i := 3) rfl)) (by decide) 0 q349_0'_v374 [(.ref y2), (.ref b363_0)] [] (own_is_12len l Z a0 hw [] b331 y2 b363_0 y1 b344_0 b344_1 b363_1 k344_0 k363_0 (c0.toInt8.toInt32) (d0.toInt8.toInt32) (d1.toInt8.toInt32) zc T363.heap n0 (Nat.le_trans Z0 K363.1) q349_1'_v366 q349_2'_v367 q344_0'_v368 q363_0' q344_1'_v369 q363_1' q344_2'_v370 q363_2' q344_3'_v371 q363_3' S_COMPACT_STRINGS_v372 (hyeq hc146_350) hz ne_b344_0_b363_0) rfl  (by decide) (by decide) (by decide) (by decide) (g := (mkF m 205 #[.val (.int p1), .val (.int p2), .val (.int p3), .val (.int p4), .val (.int p5), .val (.int p6), .val (.int i1), .val (.int i2), .val (.int c0), .val (.int c1), .val (.int d0), .val (.int d1), .val (.int (1 : Int32)), .val (.int (2 : Int32)), .val (.ref b331), .val (.int (0 : Int32))] [(.ref b363_0), (.ref y2), (.ref b331)])) rfl (by rw [hml]; rfl) own_pd11 rfl rfl (by show 2 * 0 + _ ≤ _; exact Nat.le_of_eq rfl) (hb hby at_205) ?_
            intro T373 v373 L373 X373 hQ373
            obtain ⟨rfl, N373q, e373⟩ := hQ373
            have N373 := Fr.app N363 N373q
            refine own_step (fun t k => XS.iload X373.here hx rfl (hb hby at_208) rfl k) ?_
            show own_Goes _ _ _ _ T373 (mkF m 210 #[.val (.int p1), .val (.int p2), .val (.int p3), .val (.int p4), .val (.int p5), .val (.int p6), .val (.int i1), .val (.int i2), .val (.int c0), .val (.int c1), .val (.int d0), .val (.int d1), .val (.int (1 : Int32)), .val (.int (2 : Int32)), .val (.ref b331), .val (.int (0 : Int32))] [(.int (0 : Int32)), (.int (0 : Int32))])
            refine own_step (fun t k => XS.icmpNo X373.here hx rfl (hb hby at_210) rfl (teq (show (0 : Int32) = (0 : Int32) from (by decide))).2 k) ?_
            refine own_step (fun t k => XS.iconst X373.here hx rfl (hb hby at_213) k) ?_
            refine own_step (fun t k => XS.goto X373.here hx rfl (pc0 := 214) (pc' := 218) rfl (hb hby at_214) (by decide) (by decide) k) ?_
            show own_Goes _ _ _ _ T373 (mkF m 218 #[.val (.int p1), .val (.int p2), .val (.int p3), .val (.int p4), .val (.int p5), .val (.int p6), .val (.int i1), .val (.int i2), .val (.int c0), .val (.int c1), .val (.int d0), .val (.int d1), .val (.int (1 : Int32)), .val (.int (2 : Int32)), .val (.ref b331), .val (.int (0 : Int32))] [(.int (1 : Int32))])
            exact own_outW X373 hlk HS0 (Nat.le_trans (Nat.le_trans (Nat.le_trans (Nat.le_trans (Nat.le_refl _) E331.1) Kq344.1) Kq349.1) Kq363.1) hZ hEL e373 HC363 RC363 (v := some (.int (nar .boolean (1 : Int32)))) (fun q => by rw [hrt] at q; cases q) (fun fs hr => retN X373 hx (t := .boolean) hrt (by simp) (hb hby at_218) hr) ⟨rfl, N373⟩ (by decide) (by decide)
          · refine own_step (fun t k => XS.icmpYes X349.here hx rfl (pc0 := 146) (pc' := 186) rfl (hb hby at_146) rfl (feq (show ¬ (i1 = i2) from hc146_350)).2 (by decide) (by decide) k) ?_
            refine own_step (fun t k => XS.iconst X349.here hx rfl (hb hby at_186) k) ?_
            refine own_step (fun t k => XS.istore X349.here hx rfl (hb hby at_187) rfl (l' := #[.val (.int p1), .val (.int p2), .val (.int p3), .val (.int p4), .val (.int p5), .val (.int p6), .val (.int i1), .val (.int i2), .val (.int c0), .val (.int c1), .val (.int d0), .val (.int d1), .val (.int (1 : Int32)), .val (.int (2 : Int32)), .val (.ref b331), .val (.int (0 : Int32))]) rfl k) ?_
            refine own_step (fun t k => XS.aload X349.here hx rfl (hb hby at_189) rfl rfl k) ?_
            refine own_step (fun t k => XS.iload X349.here hx rfl (hb hby at_191) rfl k) ?_
            show own_Goes _ _ _ _ T349 (mkF m 193 #[.val (.int p1), .val (.int p2), .val (.int p3), .val (.int p4), .val (.int p5), .val (.int p6), .val (.int i1), .val (.int i2), .val (.int c0), .val (.int c1), .val (.int d0), .val (.int d1), .val (.int (1 : Int32)), .val (.int (2 : Int32)), .val (.ref b331), .val (.int (0 : Int32))] [(.int i2), (.ref b331)])
            have S_HEADER_v375 := (own_staKeep (own_staKeep S_HEADER_v332 Kq344 all0) Kq349 (allS (own_plainE A331_v345) all0))
            have S_IDENTIFIER_v376 := (own_staKeep (own_staKeep S_IDENTIFIER_v333 Kq344 all0) Kq349 (allS (own_plainE A331_v345) all0))
            have S_NUMBER_v377 := (own_staKeep (own_staKeep S_NUMBER_v334 Kq344 all0) Kq349 (allS (own_plainE A331_v345) all0))
            have S_STRING_v378 := (own_staKeep (own_staKeep S_STRING_v335 Kq344 all0) Kq349 (allS (own_plainE A331_v345) all0))
            have S_ALIAS_v379 := (own_staKeep (own_staKeep S_ALIAS_v336 Kq344 all0) Kq349 (allS (own_plainE A331_v345) all0))
            have S_SYMBOL_v380 := (own_staKeep (own_staKeep S_SYMBOL_v337 Kq344 all0) Kq349 (allS (own_plainE A331_v345) all0))
            have S_BODY_v381 := (own_staKeep (own_staKeep S_BODY_v338 Kq344 all0) Kq349 (allS (own_plainE A331_v345) all0))
            have S_END_v382 := (own_staKeep (own_staKeep S_END_v339 Kq344 all0) Kq349 (allS (own_plainE A331_v345) all0))
            have S_ABORT_v383 := (own_staKeep (own_staKeep S_ABORT_v340 Kq344 all0) Kq349 (allS (own_plainE A331_v345) all0))
            have S_EOF_v384 := (own_staKeep (own_staKeep S_EOF_v341 Kq344 all0) Kq349 (allS (own_plainE A331_v345) all0))
            refine own_callS X349 hx hZ (y := (⟨"com/example/weaverbird/weaverbird/automaton/TokenIsPinLaw", "type", "(I)Lcom/example/weaverbird/weaverbird/automaton/HoaLexer$Type;"⟩ : MethodName)) hown (hw _ (List.mem_of_getElem? (i := 4) rfl)) (hw _ (List.mem_of_getElem? (i := 5) rfl)) (hw _ (List.mem_of_getElem? (i := 6) rfl)) (hw _ (List.mem_of_getElem? (i := 7) rfl)) (by decide) 1 [(.int i2)] [(.ref b331)] (own_type l Z a0 hw [] i2 y2 w_HEADER w_IDENTIFIER w_NUMBER w_STRING w_ALIAS w_SYMBOL w_BODY w_END w_ABORT w_EOF T349.heap n0 (Nat.le_trans Z0 K349.1) S_HEADER_v375 S_IDENTIFIER_v376 S_NUMBER_v377 S_STRING_v378 S_ALIAS_v379 S_SYMBOL_v380 S_BODY_v381 S_END_v382 S_ABORT_v383 S_EOF_v384 hy2) rfl  (by decide) (by decide) (by decide) (by decide) (g := (mkF m 193 #[.val (.int p1), .val (.int p2), .val (.int p3), .val (.int p4), .val (.int p5), .val (.int p6), .val (.int i1), .val (.int i2), .val (.int c0), .val (.int c1), .val (.int d0), .val (.int d1), .val (.int (1 : Int32)), .val (.int (2 : Int32)), .val (.ref b331), .val (.int (0 : Int32))] [(.int i2), (.ref b331)])) rfl (by rw [hml]; rfl) own_pd8 rfl rfl (by show 2 * 0 + _ ≤ _; exact Nat.le_of_eq rfl) (hb hby at_193) ?_
            intro T385 v385 L385 X385 hQ385
            obtain ⟨rfl, N385q, e385⟩ := hQ385
            have N385 := Fr.app N349 N385q
            refine own_step (fun t k => XS.iload X385.here hx rfl (hb hby at_196) rfl k) ?_
            refine own_step (fun t k => XS.iload X385.here hx rfl (hb hby at_198) rfl k) ?_
            refine own_step (fun t k => XS.iload X385.here hx rfl (hb hby at_200) rfl k) ?_
            show own_Goes _ _ _ _ T385 (mkF m 202 #[.val (.int p1), .val (.int p2), .val (.int p3), .val (.int p4), .val (.int p5), .val (.int p6), .val (.int i1), .val (.int i2), .val (.int c0), .val (.int c1), .val (.int d0), .val (.int d1), .val (.int (1 : Int32)), .val (.int (2 : Int32)), .val (.ref b331), .val (.int (0 : Int32))] [(.int d1), (.int d0), (.int (2 : Int32)), (.ref y2), (.ref b331)])
            have S_COMPACT_STRINGS_v386 := (own_staKeep (own_staKeep S_COMPACT_STRINGS_v343 Kq344 all0) Kq349 (allS (own_plainE A331_v345) all0))
            refine own_callS X385 hx hZ (y := (⟨"com/example/weaverbird/weaverbird/automaton/TokenIsPinLaw", "str", "(ICC)Ljava/lang/String;"⟩ : MethodName)) hown (hw _ (List.mem_of_getElem? (i := 11) rfl)) (hw _ (List.mem_of_getElem? (i := 12) rfl)) (hw _ (List.mem_of_getElem? (i := 6) rfl)) (hw _ (List.mem_of_getElem? (i := 13) rfl)) (by decide) 2 [(.int (2 : Int32)), (.int d0), (.int d1)] [(.ref y2), (.ref b331)] (own_str2 l Z a0 hw [] d0 d1 zc T349.heap n0 (Nat.le_trans Z0 K349.1) S_COMPACT_STRINGS_v386 hd0a hd0b hd1a hd1b hz) e385  (by decide) (by decide) (by decide) (by decide) (g := (mkF m 202 #[.val (.int p1), .val (.int p2), .val (.int p3), .val (.int p4), .val (.int p5), .val (.int p6), .val (.int i1), .val (.int i2), .val (.int c0), .val (.int c1), .val (.int d0), .val (.int d1), .val (.int (1 : Int32)), .val (.int (2 : Int32)), .val (.ref b331), .val (.int (0 : Int32))] [(.int d1), (.int d0), (.int (2 : Int32)), (.ref y2), (.ref b331)])) rfl (by rw [hml]; rfl) own_pd9 rfl rfl (by show 2 * 0 + _ ≤ _; exact Nat.le_of_eq rfl) (hb hby at_202) ?_
            intro T387 v387 L387 X387 hQ387
            have q344_0'_v388 := (q344_0'.keep Kq349)
            have q344_3'_v389 := (q344_3'.keep Kq349 (ninS (Ne.symm ne_b331_b344_1) nin0))
            obtain ⟨b387_0, b387_1, k387_0, rfl, N387q, Kq387, zq387_0, zq387_1, q387_0, q387_1, q387_2, q387_3⟩ := hQ387
            have N387 := Fr.app N385 N387q
            have K387 := K349.trans Kq387 all0
            have g_b387_0 : n0 ≤ b387_0 := Nat.le_trans (Nat.le_trans Z0 K349.1) zq387_0
            have sz_b387_0 : h0.size ≤ b387_0 := Nat.le_trans K349.1 zq387_0
            have ne_b331_b387_0 : b331 ≠ b387_0 := Nat.ne_of_lt (Nat.lt_of_lt_of_le q349_0'.lt zq387_0)
            have ne_b344_0_b387_0 : b344_0 ≠ b387_0 := Nat.ne_of_lt (Nat.lt_of_lt_of_le q344_0'_v388.lt zq387_0)
            have ne_b344_1_b387_0 : b344_1 ≠ b387_0 := Nat.ne_of_lt (Nat.lt_of_lt_of_le q344_3'_v389.lt zq387_0)
            have g_b387_1 : n0 ≤ b387_1 := Nat.le_trans (Nat.le_trans Z0 K349.1) zq387_1
            have sz_b387_1 : h0.size ≤ b387_1 := Nat.le_trans K349.1 zq387_1
            have ne_b331_b387_1 : b331 ≠ b387_1 := Nat.ne_of_lt (Nat.lt_of_lt_of_le q349_0'.lt zq387_1)
            have ne_b344_0_b387_1 : b344_0 ≠ b387_1 := Nat.ne_of_lt (Nat.lt_of_lt_of_le q344_0'_v388.lt zq387_1)
            have ne_b344_1_b387_1 : b344_1 ≠ b387_1 := Nat.ne_of_lt (Nat.lt_of_lt_of_le q344_3'_v389.lt zq387_1)
            have RC387 := RC349.trans (CHr.keep Kq387 all0 HC349)
            have HC387 := CHv.keep Kq387 all0 HC349
            have q387_0' : Exa Z T387.heap b387_0 "java/lang/String" := q387_0
            have q387_1' : Fld Z T387.heap b387_0 "java/lang/String" "coder" "B" (.int (0 : Int32)) := q387_1
            have q387_2' : Fld Z T387.heap b387_0 "java/lang/String" "value" "[B" (.ref b387_1) := q387_2
            have q387_3' : Arv Z T387.heap b387_1 k387_0 .byte (2 : Int32) [(.int (d0.toInt8.toInt32)), (.int (d1.toInt8.toInt32))] (.int (0 : Int32)) := q387_3
            show own_Goes _ _ _ _ T387 (mkF m 205 #[.val (.int p1), .val (.int p2), .val (.int p3), .val (.int p4), .val (.int p5), .val (.int p6), .val (.int i1), .val (.int i2), .val (.int c0), .val (.int c1), .val (.int d0), .val (.int d1), .val (.int (1 : Int32)), .val (.int (2 : Int32)), .val (.ref b331), .val (.int (0 : Int32))] [(.ref b387_0), (.ref y2), (.ref b331)])
            have q349_1'_v390 := (q349_1'.keep Kq387 nin0)
            have q349_0'_v392 := (q349_0'.keep Kq387)
            refine own_callV X387 hx hZ (y := (⟨"com/example/weaverbird/weaverbird/automaton/HoaLexer$Token", "is", "(Lcom/example/weaverbird/weaverbird/automaton/HoaLexer$Type;Ljava/lang/String;)Z"⟩ : MethodName)) (z := (⟨"com/example/weaverbird/weaverbird/automaton/HoaLexer$Token", "is", "(Lcom/example/weaverbird/weaverbird/automaton/HoaLexer$Type;Ljava/lang/String;)Z"⟩ : MethodName)) hown (hw _ (List.mem_of_getElem? (i := 53) rfl)) (hw _ (List.mem_of_getElem? (i := 54) rfl)) (notFace_of_selects (args := #[]) (mvT hZ (hw _ (List.mem_of_getElem? (i := 56) rfl)))) (hw _ (List.mem_of_getElem? (i := 56) rfl)) (hw _ (List.mem_of_getElem? (i := 55) rfl)) (hw _ (List.mem_of_getElem? (i := 57) rfl)) (hw _ (List.mem_of_getElem? (i := 3) rfl)) (by decide) 0 q349_0'_v392 [(.ref y2), (.ref b387_0)] [] (own_is_ne l Z a0 hw [] b331 y2 b387_0 y1 T387.heap n0 (Nat.le_trans Z0 K387.1) q349_1'_v390 (hyne hc146_350)) rfl  (by decide) (by decide) (by decide) (by decide) (g := (mkF m 205 #[.val (.int p1), .val (.int p2), .val (.int p3), .val (.int p4), .val (.int p5), .val (.int p6), .val (.int i1), .val (.int i2), .val (.int c0), .val (.int c1), .val (.int d0), .val (.int d1), .val (.int (1 : Int32)), .val (.int (2 : Int32)), .val (.ref b331), .val (.int (0 : Int32))] [(.ref b387_0), (.ref y2), (.ref b331)])) rfl (by rw [hml]; rfl) own_pd11 rfl rfl (by show 2 * 0 + _ ≤ _; exact Nat.le_of_eq rfl) (hb hby at_205) ?_
            intro T391 v391 L391 X391 hQ391
            obtain ⟨rfl, N391q, e391⟩ := hQ391
            have N391 := Fr.app N387 N391q
            refine own_step (fun t k => XS.iload X391.here hx rfl (hb hby at_208) rfl k) ?_
            show own_Goes _ _ _ _ T391 (mkF m 210 #[.val (.int p1), .val (.int p2), .val (.int p3), .val (.int p4), .val (.int p5), .val (.int p6), .val (.int i1), .val (.int i2), .val (.int c0), .val (.int c1), .val (.int d0), .val (.int d1), .val (.int (1 : Int32)), .val (.int (2 : Int32)), .val (.ref b331), .val (.int (0 : Int32))] [(.int (0 : Int32)), (.int (0 : Int32))])
            refine own_step (fun t k => XS.icmpNo X391.here hx rfl (hb hby at_210) rfl (teq (show (0 : Int32) = (0 : Int32) from (by decide))).2 k) ?_
            refine own_step (fun t k => XS.iconst X391.here hx rfl (hb hby at_213) k) ?_
            refine own_step (fun t k => XS.goto X391.here hx rfl (pc0 := 214) (pc' := 218) rfl (hb hby at_214) (by decide) (by decide) k) ?_
            show own_Goes _ _ _ _ T391 (mkF m 218 #[.val (.int p1), .val (.int p2), .val (.int p3), .val (.int p4), .val (.int p5), .val (.int p6), .val (.int i1), .val (.int i2), .val (.int c0), .val (.int c1), .val (.int d0), .val (.int d1), .val (.int (1 : Int32)), .val (.int (2 : Int32)), .val (.ref b331), .val (.int (0 : Int32))] [(.int (1 : Int32))])
            exact own_outW X391 hlk HS0 (Nat.le_trans (Nat.le_trans (Nat.le_trans (Nat.le_trans (Nat.le_refl _) E331.1) Kq344.1) Kq349.1) Kq387.1) hZ hEL e391 HC387 RC387 (v := some (.int (nar .boolean (1 : Int32)))) (fun q => by rw [hrt] at q; cases q) (fun fs hr => retN X391 hx (t := .boolean) hrt (by simp) (hb hby at_218) hr) ⟨rfl, N391⟩ (by decide) (by decide)
        · show own_Goes _ _ _ _ s₁ (mkF m 117 #[.val (.int p1), .val (.int p2), .val (.int p3), .val (.int p4), .val (.int p5), .val (.int p6), .val (.int i1), .val (.int i2), .val (.int c0), .val (.int c1), .val (.int d0), .val (.int d1), .val (.int (2 : Int32)), .val (.int (0 : Int32)), .unset, .unset] [])
          obtain ⟨T393, h393, X393, e393, E393, A393, D393, -, st393⟩ := newO X0 hx hZ hown (hw _ (List.mem_of_getElem? (i := 1) rfl)) (hw _ (List.mem_of_getElem? (i := 2) rfl)) (hw _ (List.mem_of_getElem? (i := 3) rfl)) e0 (g := (mkF m 117 #[.val (.int p1), .val (.int p2), .val (.int p3), .val (.int p4), .val (.int p5), .val (.int p6), .val (.int i1), .val (.int i2), .val (.int c0), .val (.int c1), .val (.int d0), .val (.int d1), .val (.int (2 : Int32)), .val (.int (0 : Int32)), .unset, .unset] [])) rfl (hb hby at_117) (by decide) (by decide)
          obtain ⟨b393, g393⟩ : ∃ z, z = h0.size := ⟨_, rfl⟩
          rw [← g393] at A393 D393 st393
          refine own_step st393 ?_
          have g_b393 : n0 ≤ b393 := Nat.le_trans Z0 (Nat.le_of_eq g393.symm)
          have sz_b393 : h0.size ≤ b393 := Nat.le_trans (Keep.refl h0 []).1 (Nat.le_of_eq g393.symm)
          have K393 := (Keep.refl h0 []).ext E393
          have RC393 := RC0.trans (CHr.ext E393 HC0)
          have HC393 := CHv.ext E393 HC0
          have F_b393_type : Fld Z h393 b393 "com/example/weaverbird/weaverbird/automaton/HoaLexer$Token" "type" "Lcom/example/weaverbird/weaverbird/automaton/HoaLexer$Type;" .null := D393 (Or.inr (hw _ (List.mem_of_getElem? (i := 46) rfl))) (ty := (.object "com/example/weaverbird/weaverbird/automaton/HoaLexer$Type")) (by decide)
          have F_b393_text : Fld Z h393 b393 "com/example/weaverbird/weaverbird/automaton/HoaLexer$Token" "text" "Ljava/lang/String;" .null := D393 (Or.inr (hw _ (List.mem_of_getElem? (i := 48) rfl))) (ty := (.object "java/lang/String")) (by decide)
          have F_b393_line : Fld Z h393 b393 "com/example/weaverbird/weaverbird/automaton/HoaLexer$Token" "line" "I" (.int (0 : Int32)) := D393 (Or.inr (hw _ (List.mem_of_getElem? (i := 50) rfl))) (ty := .int) (by decide)
          refine own_step (fun t k => XS.dup X393.here hx rfl (hb hby at_120) rfl rfl k) ?_
          refine own_step (fun t k => XS.iload X393.here hx rfl (hb hby at_121) rfl k) ?_
          show own_Goes _ _ _ _ T393 (mkF m 123 #[.val (.int p1), .val (.int p2), .val (.int p3), .val (.int p4), .val (.int p5), .val (.int p6), .val (.int i1), .val (.int i2), .val (.int c0), .val (.int c1), .val (.int d0), .val (.int d1), .val (.int (2 : Int32)), .val (.int (0 : Int32)), .unset, .unset] [(.int i1), (.ref b393), (.ref b393)])
          have S_HEADER_v394 := (S_HEADER.ext E393)
          have S_IDENTIFIER_v395 := (S_IDENTIFIER.ext E393)
          have S_NUMBER_v396 := (S_NUMBER.ext E393)
          have S_STRING_v397 := (S_STRING.ext E393)
          have S_ALIAS_v398 := (S_ALIAS.ext E393)
          have S_SYMBOL_v399 := (S_SYMBOL.ext E393)
          have S_BODY_v400 := (S_BODY.ext E393)
          have S_END_v401 := (S_END.ext E393)
          have S_ABORT_v402 := (S_ABORT.ext E393)
          have S_EOF_v403 := (S_EOF.ext E393)
          refine own_callS X393 hx hZ (y := (⟨"com/example/weaverbird/weaverbird/automaton/TokenIsPinLaw", "type", "(I)Lcom/example/weaverbird/weaverbird/automaton/HoaLexer$Type;"⟩ : MethodName)) hown (hw _ (List.mem_of_getElem? (i := 4) rfl)) (hw _ (List.mem_of_getElem? (i := 5) rfl)) (hw _ (List.mem_of_getElem? (i := 6) rfl)) (hw _ (List.mem_of_getElem? (i := 7) rfl)) (by decide) 2 [(.int i1)] [(.ref b393), (.ref b393)] (own_type l Z a0 hw [] i1 y1 w_HEADER w_IDENTIFIER w_NUMBER w_STRING w_ALIAS w_SYMBOL w_BODY w_END w_ABORT w_EOF h393 n0 (Nat.le_trans Z0 K393.1) S_HEADER_v394 S_IDENTIFIER_v395 S_NUMBER_v396 S_STRING_v397 S_ALIAS_v398 S_SYMBOL_v399 S_BODY_v400 S_END_v401 S_ABORT_v402 S_EOF_v403 hy1) e393  (by decide) (by decide) (by decide) (by decide) (g := (mkF m 123 #[.val (.int p1), .val (.int p2), .val (.int p3), .val (.int p4), .val (.int p5), .val (.int p6), .val (.int i1), .val (.int i2), .val (.int c0), .val (.int c1), .val (.int d0), .val (.int d1), .val (.int (2 : Int32)), .val (.int (0 : Int32)), .unset, .unset] [(.int i1), (.ref b393), (.ref b393)])) rfl (by rw [hml]; rfl) own_pd8 rfl rfl (by show 2 * 0 + _ ≤ _; exact Nat.le_of_eq rfl) (hb hby at_123) ?_
          intro T404 v404 L404 X404 hQ404
          obtain ⟨rfl, N404q, e404⟩ := hQ404
          have N404 := Fr.app N0 N404q
          refine own_step (fun t k => XS.iload X404.here hx rfl (hb hby at_126) rfl k) ?_
          refine own_step (fun t k => XS.iload X404.here hx rfl (hb hby at_128) rfl k) ?_
          refine own_step (fun t k => XS.iload X404.here hx rfl (hb hby at_130) rfl k) ?_
          show own_Goes _ _ _ _ T404 (mkF m 132 #[.val (.int p1), .val (.int p2), .val (.int p3), .val (.int p4), .val (.int p5), .val (.int p6), .val (.int i1), .val (.int i2), .val (.int c0), .val (.int c1), .val (.int d0), .val (.int d1), .val (.int (2 : Int32)), .val (.int (0 : Int32)), .unset, .unset] [(.int c1), (.int c0), (.int (2 : Int32)), (.ref y1), (.ref b393), (.ref b393)])
          have S_COMPACT_STRINGS_v405 := (S_COMPACT_STRINGS.ext E393)
          refine own_callS X404 hx hZ (y := (⟨"com/example/weaverbird/weaverbird/automaton/TokenIsPinLaw", "str", "(ICC)Ljava/lang/String;"⟩ : MethodName)) hown (hw _ (List.mem_of_getElem? (i := 11) rfl)) (hw _ (List.mem_of_getElem? (i := 12) rfl)) (hw _ (List.mem_of_getElem? (i := 6) rfl)) (hw _ (List.mem_of_getElem? (i := 13) rfl)) (by decide) 3 [(.int (2 : Int32)), (.int c0), (.int c1)] [(.ref y1), (.ref b393), (.ref b393)] (own_str2 l Z a0 hw [] c0 c1 zc h393 n0 (Nat.le_trans Z0 K393.1) S_COMPACT_STRINGS_v405 hc0a hc0b hc1a hc1b hz) e404  (by decide) (by decide) (by decide) (by decide) (g := (mkF m 132 #[.val (.int p1), .val (.int p2), .val (.int p3), .val (.int p4), .val (.int p5), .val (.int p6), .val (.int i1), .val (.int i2), .val (.int c0), .val (.int c1), .val (.int d0), .val (.int d1), .val (.int (2 : Int32)), .val (.int (0 : Int32)), .unset, .unset] [(.int c1), (.int c0), (.int (2 : Int32)), (.ref y1), (.ref b393), (.ref b393)])) rfl (by rw [hml]; rfl) own_pd9 rfl rfl (by show 2 * 0 + _ ≤ _; exact Nat.le_of_eq rfl) (hb hby at_132) ?_
          intro T406 v406 L406 X406 hQ406
          obtain ⟨b406_0, b406_1, k406_0, rfl, N406q, Kq406, zq406_0, zq406_1, q406_0, q406_1, q406_2, q406_3⟩ := hQ406
          have N406 := Fr.app N404 N406q
          have K406 := K393.trans Kq406 all0
          have g_b406_0 : n0 ≤ b406_0 := Nat.le_trans (Nat.le_trans Z0 K393.1) zq406_0
          have sz_b406_0 : h0.size ≤ b406_0 := Nat.le_trans K393.1 zq406_0
          have ne_b393_b406_0 : b393 ≠ b406_0 := Nat.ne_of_lt (Nat.lt_of_lt_of_le A393.lt zq406_0)
          have g_b406_1 : n0 ≤ b406_1 := Nat.le_trans (Nat.le_trans Z0 K393.1) zq406_1
          have sz_b406_1 : h0.size ≤ b406_1 := Nat.le_trans K393.1 zq406_1
          have ne_b393_b406_1 : b393 ≠ b406_1 := Nat.ne_of_lt (Nat.lt_of_lt_of_le A393.lt zq406_1)
          have RC406 := RC393.trans (CHr.keep Kq406 all0 HC393)
          have HC406 := CHv.keep Kq406 all0 HC393
          have q406_0' : Exa Z T406.heap b406_0 "java/lang/String" := q406_0
          have q406_1' : Fld Z T406.heap b406_0 "java/lang/String" "coder" "B" (.int (0 : Int32)) := q406_1
          have q406_2' : Fld Z T406.heap b406_0 "java/lang/String" "value" "[B" (.ref b406_1) := q406_2
          have q406_3' : Arv Z T406.heap b406_1 k406_0 .byte (2 : Int32) [(.int (c0.toInt8.toInt32)), (.int (c1.toInt8.toInt32))] (.int (0 : Int32)) := q406_3
          refine own_step (fun t k => XS.iload X406.here hx rfl (hb hby at_135) rfl k) ?_
          show own_Goes _ _ _ _ T406 (mkF m 137 #[.val (.int p1), .val (.int p2), .val (.int p3), .val (.int p4), .val (.int p5), .val (.int p6), .val (.int i1), .val (.int i2), .val (.int c0), .val (.int c1), .val (.int d0), .val (.int d1), .val (.int (2 : Int32)), .val (.int (0 : Int32)), .unset, .unset] [(.int p6), (.ref b406_0), (.ref y1), (.ref b393), (.ref b393)])
          have A393_v407 := (A393.keep Kq406)
          have F_b393_type_v408 := (F_b393_type.keep Kq406 nin0)
          have F_b393_text_v409 := (F_b393_text.keep Kq406 nin0)
          have F_b393_line_v410 := (F_b393_line.keep Kq406 nin0)
          refine own_callC X406 hx hZ (y := (⟨"com/example/weaverbird/weaverbird/automaton/HoaLexer$Token", "<init>", "(Lcom/example/weaverbird/weaverbird/automaton/HoaLexer$Type;Ljava/lang/String;I)V"⟩ : MethodName)) rfl hown (hw _ (List.mem_of_getElem? (i := 36) rfl)) (hw _ (List.mem_of_getElem? (i := 37) rfl)) (hw _ (List.mem_of_getElem? (i := 38) rfl)) (hw _ (List.mem_of_getElem? (i := 3) rfl)) (by decide) 1 (a := b393) [(.ref y1), (.ref b406_0), (.int p6)] [(.ref b393)] (own_tinit l Z a0 hw [] b393 y1 b406_0 p6 T406.heap n0 (Nat.le_trans Z0 K406.1) A393_v407 F_b393_type_v408 F_b393_text_v409 F_b393_line_v410 g_b393) rfl  (by decide) (by decide) (by decide) (by decide) (g := (mkF m 137 #[.val (.int p1), .val (.int p2), .val (.int p3), .val (.int p4), .val (.int p5), .val (.int p6), .val (.int i1), .val (.int i2), .val (.int c0), .val (.int c1), .val (.int d0), .val (.int d1), .val (.int (2 : Int32)), .val (.int (0 : Int32)), .unset, .unset] [(.int p6), (.ref b406_0), (.ref y1), (.ref b393), (.ref b393)])) rfl (by rw [hml]; rfl) own_pd10 rfl rfl (by show 2 * 0 + _ ≤ _; exact Nat.le_of_eq rfl) (hb hby at_137) ?_
          intro T411 v411 L411 X411 hQ411
          obtain ⟨rfl, N411q, Kq411, q411_0, q411_1, q411_2⟩ := hQ411
          have N411 := Fr.app N406 N411q
          have K411 := K406.trans Kq411 (allS (Or.inr sz_b393) all0)
          have RC411 := RC406.trans (CHr.keep Kq411 (allS (Safe.exa hZ.alike A393_v407 (by decide) (by decide)) all0) HC406)
          have HC411 := CHv.keep Kq411 (allS (Safe.exa hZ.alike A393_v407 (by decide) (by decide)) all0) HC406
          have q411_0' : Exa Z T411.heap b393 "com/example/weaverbird/weaverbird/automaton/HoaLexer$Token" := q411_0
          have q411_1' : Fld Z T411.heap b393 "com/example/weaverbird/weaverbird/automaton/HoaLexer$Token" "type" "Lcom/example/weaverbird/weaverbird/automaton/HoaLexer$Type;" (.ref y1) := q411_1
          have q411_2' : Fld Z T411.heap b393 "com/example/weaverbird/weaverbird/automaton/HoaLexer$Token" "text" "Ljava/lang/String;" (.ref b406_0) := q411_2
          refine own_step (fun t k => XS.astore X411.here hx rfl (hb hby at_140) rfl rfl (l' := #[.val (.int p1), .val (.int p2), .val (.int p3), .val (.int p4), .val (.int p5), .val (.int p6), .val (.int i1), .val (.int i2), .val (.int c0), .val (.int c1), .val (.int d0), .val (.int d1), .val (.int (2 : Int32)), .val (.int (0 : Int32)), .val (.ref b393), .unset]) rfl k) ?_
          refine own_step (fun t k => XS.iload X411.here hx rfl (hb hby at_142) rfl k) ?_
          refine own_step (fun t k => XS.iload X411.here hx rfl (hb hby at_144) rfl k) ?_
          show own_Goes _ _ _ _ T411 (mkF m 146 #[.val (.int p1), .val (.int p2), .val (.int p3), .val (.int p4), .val (.int p5), .val (.int p6), .val (.int i1), .val (.int i2), .val (.int c0), .val (.int c1), .val (.int d0), .val (.int d1), .val (.int (2 : Int32)), .val (.int (0 : Int32)), .val (.ref b393), .unset] [(.int i2), (.int i1)])
          by_cases hc146_412 : i1 = i2
          · refine own_step (fun t k => XS.icmpNo X411.here hx rfl (hb hby at_146) rfl (teq (show i1 = i2 from hc146_412)).2 k) ?_
            refine own_step (fun t k => XS.iload X411.here hx rfl (hb hby at_149) rfl k) ?_
            refine own_step (fun t k => XS.iload X411.here hx rfl (hb hby at_151) rfl k) ?_
            show own_Goes _ _ _ _ T411 (mkF m 153 #[.val (.int p1), .val (.int p2), .val (.int p3), .val (.int p4), .val (.int p5), .val (.int p6), .val (.int i1), .val (.int i2), .val (.int c0), .val (.int c1), .val (.int d0), .val (.int d1), .val (.int (2 : Int32)), .val (.int (0 : Int32)), .val (.ref b393), .unset] [(.int (0 : Int32)), (.int (2 : Int32))])
            refine own_step (fun t k => XS.icmpYes X411.here hx rfl (pc0 := 153) (pc' := 186) rfl (hb hby at_153) rfl (feq (show ¬ ((2 : Int32) = (0 : Int32)) from (by decide))).2 (by decide) (by decide) k) ?_
            refine own_step (fun t k => XS.iconst X411.here hx rfl (hb hby at_186) k) ?_
            refine own_step (fun t k => XS.istore X411.here hx rfl (hb hby at_187) rfl (l' := #[.val (.int p1), .val (.int p2), .val (.int p3), .val (.int p4), .val (.int p5), .val (.int p6), .val (.int i1), .val (.int i2), .val (.int c0), .val (.int c1), .val (.int d0), .val (.int d1), .val (.int (2 : Int32)), .val (.int (0 : Int32)), .val (.ref b393), .val (.int (0 : Int32))]) rfl k) ?_
            refine own_step (fun t k => XS.aload X411.here hx rfl (hb hby at_189) rfl rfl k) ?_
            refine own_step (fun t k => XS.iload X411.here hx rfl (hb hby at_191) rfl k) ?_
            show own_Goes _ _ _ _ T411 (mkF m 193 #[.val (.int p1), .val (.int p2), .val (.int p3), .val (.int p4), .val (.int p5), .val (.int p6), .val (.int i1), .val (.int i2), .val (.int c0), .val (.int c1), .val (.int d0), .val (.int d1), .val (.int (2 : Int32)), .val (.int (0 : Int32)), .val (.ref b393), .val (.int (0 : Int32))] [(.int i2), (.ref b393)])
            have S_HEADER_v413 := (own_staKeep (own_staKeep S_HEADER_v394 Kq406 all0) Kq411 (allS (own_plainE A393_v407) all0))
            have S_IDENTIFIER_v414 := (own_staKeep (own_staKeep S_IDENTIFIER_v395 Kq406 all0) Kq411 (allS (own_plainE A393_v407) all0))
            have S_NUMBER_v415 := (own_staKeep (own_staKeep S_NUMBER_v396 Kq406 all0) Kq411 (allS (own_plainE A393_v407) all0))
            have S_STRING_v416 := (own_staKeep (own_staKeep S_STRING_v397 Kq406 all0) Kq411 (allS (own_plainE A393_v407) all0))
            have S_ALIAS_v417 := (own_staKeep (own_staKeep S_ALIAS_v398 Kq406 all0) Kq411 (allS (own_plainE A393_v407) all0))
            have S_SYMBOL_v418 := (own_staKeep (own_staKeep S_SYMBOL_v399 Kq406 all0) Kq411 (allS (own_plainE A393_v407) all0))
            have S_BODY_v419 := (own_staKeep (own_staKeep S_BODY_v400 Kq406 all0) Kq411 (allS (own_plainE A393_v407) all0))
            have S_END_v420 := (own_staKeep (own_staKeep S_END_v401 Kq406 all0) Kq411 (allS (own_plainE A393_v407) all0))
            have S_ABORT_v421 := (own_staKeep (own_staKeep S_ABORT_v402 Kq406 all0) Kq411 (allS (own_plainE A393_v407) all0))
            have S_EOF_v422 := (own_staKeep (own_staKeep S_EOF_v403 Kq406 all0) Kq411 (allS (own_plainE A393_v407) all0))
            refine own_callS X411 hx hZ (y := (⟨"com/example/weaverbird/weaverbird/automaton/TokenIsPinLaw", "type", "(I)Lcom/example/weaverbird/weaverbird/automaton/HoaLexer$Type;"⟩ : MethodName)) hown (hw _ (List.mem_of_getElem? (i := 4) rfl)) (hw _ (List.mem_of_getElem? (i := 5) rfl)) (hw _ (List.mem_of_getElem? (i := 6) rfl)) (hw _ (List.mem_of_getElem? (i := 7) rfl)) (by decide) 1 [(.int i2)] [(.ref b393)] (own_type l Z a0 hw [] i2 y2 w_HEADER w_IDENTIFIER w_NUMBER w_STRING w_ALIAS w_SYMBOL w_BODY w_END w_ABORT w_EOF T411.heap n0 (Nat.le_trans Z0 K411.1) S_HEADER_v413 S_IDENTIFIER_v414 S_NUMBER_v415 S_STRING_v416 S_ALIAS_v417 S_SYMBOL_v418 S_BODY_v419 S_END_v420 S_ABORT_v421 S_EOF_v422 hy2) rfl  (by decide) (by decide) (by decide) (by decide) (g := (mkF m 193 #[.val (.int p1), .val (.int p2), .val (.int p3), .val (.int p4), .val (.int p5), .val (.int p6), .val (.int i1), .val (.int i2), .val (.int c0), .val (.int c1), .val (.int d0), .val (.int d1), .val (.int (2 : Int32)), .val (.int (0 : Int32)), .val (.ref b393), .val (.int (0 : Int32))] [(.int i2), (.ref b393)])) rfl (by rw [hml]; rfl) own_pd8 rfl rfl (by show 2 * 0 + _ ≤ _; exact Nat.le_of_eq rfl) (hb hby at_193) ?_
            intro T423 v423 L423 X423 hQ423
            obtain ⟨rfl, N423q, e423⟩ := hQ423
            have N423 := Fr.app N411 N423q
            refine own_step (fun t k => XS.iload X423.here hx rfl (hb hby at_196) rfl k) ?_
            refine own_step (fun t k => XS.iload X423.here hx rfl (hb hby at_198) rfl k) ?_
            refine own_step (fun t k => XS.iload X423.here hx rfl (hb hby at_200) rfl k) ?_
            show own_Goes _ _ _ _ T423 (mkF m 202 #[.val (.int p1), .val (.int p2), .val (.int p3), .val (.int p4), .val (.int p5), .val (.int p6), .val (.int i1), .val (.int i2), .val (.int c0), .val (.int c1), .val (.int d0), .val (.int d1), .val (.int (2 : Int32)), .val (.int (0 : Int32)), .val (.ref b393), .val (.int (0 : Int32))] [(.int d1), (.int d0), (.int (0 : Int32)), (.ref y2), (.ref b393)])
            refine own_callSW X423 hx hZ (y := (⟨"com/example/weaverbird/weaverbird/automaton/TokenIsPinLaw", "str", "(ICC)Ljava/lang/String;"⟩ : MethodName)) hown (hw _ (List.mem_of_getElem? (i := 11) rfl)) (hw _ (List.mem_of_getElem? (i := 12) rfl)) (hw _ (List.mem_of_getElem? (i := 6) rfl)) (hw _ (List.mem_of_getElem? (i := 13) rfl)) (by decide) 2 [(.int (0 : Int32)), (.int d0), (.int d1)] [(.ref y2), (.ref b393)] (own_str0 l Z a0 hw [] d0 d1 T411.heap n0 (Nat.le_trans Z0 K411.1) ) e423  hEL HC411 HS0 (Nat.le_trans (Nat.le_trans (Nat.le_trans (Nat.le_refl _) E393.1) Kq406.1) Kq411.1) (by decide) (by decide) (by decide) (by decide) (g := (mkF m 202 #[.val (.int p1), .val (.int p2), .val (.int p3), .val (.int p4), .val (.int p5), .val (.int p6), .val (.int i1), .val (.int i2), .val (.int c0), .val (.int c1), .val (.int d0), .val (.int d1), .val (.int (2 : Int32)), .val (.int (0 : Int32)), .val (.ref b393), .val (.int (0 : Int32))] [(.int d1), (.int d0), (.int (0 : Int32)), (.ref y2), (.ref b393)])) rfl (by rw [hml]; rfl) own_pd9 rfl rfl (by show 2 * 0 + _ ≤ _; exact Nat.le_of_eq rfl) (hb hby at_202) ?_
            intro T424 v424 L424 X424 HS424 hZ hown CR424 hQ424
            have RC424 := RC411.trans CR424
            have HC424 := CR424.1
            have q406_0'_v425 := (q406_0'.keep Kq411)
            have q406_3'_v426 := (q406_3'.keep Kq411 (ninS (Ne.symm ne_b393_b406_1) nin0))
            obtain ⟨b424_0, f424_0, k424_0, rfl, N424q, Kq424, zq424_0, q424_0, q424_1, q424_2, q424_3⟩ := hQ424
            have N424 := Fr.app N423 N424q
            have K424 := K411.trans Kq424 all0
            have g_b424_0 : n0 ≤ b424_0 := Nat.le_trans (Nat.le_trans Z0 K411.1) zq424_0
            have sz_b424_0 : h0.size ≤ b424_0 := Nat.le_trans K411.1 zq424_0
            have ne_b393_b424_0 : b393 ≠ b424_0 := Nat.ne_of_lt (Nat.lt_of_lt_of_le q411_0'.lt zq424_0)
            have ne_b406_0_b424_0 : b406_0 ≠ b424_0 := Nat.ne_of_lt (Nat.lt_of_lt_of_le q406_0'_v425.lt zq424_0)
            have ne_b406_1_b424_0 : b406_1 ≠ b424_0 := Nat.ne_of_lt (Nat.lt_of_lt_of_le q406_3'_v426.lt zq424_0)
            have q424_0' : Exa Z T424.heap b424_0 "java/lang/String" := q424_0
            have q424_1' : Fld Z T424.heap b424_0 "java/lang/String" "coder" "B" (.int (0 : Int32)) := q424_1
            have q424_2' : Fld Z T424.heap b424_0 "java/lang/String" "value" "[B" (.ref f424_0) := q424_2
            have q424_3' : Arv Z T424.heap f424_0 k424_0 .byte (0 : Int32) [] (.int (0 : Int32)) := q424_3
            have q411_0'_v427 := (q411_0'.keep Kq424)
            have ne_b393_f424_0 : b393 ≠ f424_0 := Exa.neArv q411_0'_v427 q424_3' (hw _ (List.mem_of_getElem? (i := 2) rfl))
            have q406_0'_v428 := (q406_0'_v425.keep Kq424)
            have ne_b406_0_f424_0 : b406_0 ≠ f424_0 := Exa.neArv q406_0'_v428 q424_3' (hw _ (List.mem_of_getElem? (i := 15) rfl))
            have ne_b424_0_f424_0 : b424_0 ≠ f424_0 := Exa.neArv q424_0' q424_3' (hw _ (List.mem_of_getElem? (i := 15) rfl))
            show own_Goes _ _ _ _ T424 (mkF m 205 #[.val (.int p1), .val (.int p2), .val (.int p3), .val (.int p4), .val (.int p5), .val (.int p6), .val (.int i1), .val (.int i2), .val (.int c0), .val (.int c1), .val (.int d0), .val (.int d1), .val (.int (2 : Int32)), .val (.int (0 : Int32)), .val (.ref b393), .val (.int (0 : Int32))] [(.ref b424_0), (.ref y2), (.ref b393)])
            have q411_1'_v429 := (q411_1'.keep Kq424 nin0)
            have q411_2'_v430 := (q411_2'.keep Kq424 nin0)
            have q406_1'_v431 := ((q406_1'.keep Kq411 (ninS (Ne.symm ne_b393_b406_0) nin0)).keep Kq424 nin0)
            have q406_2'_v432 := ((q406_2'.keep Kq411 (ninS (Ne.symm ne_b393_b406_0) nin0)).keep Kq424 nin0)
            have q406_3'_v433 := (q406_3'_v426.keep Kq424 nin0)
            have S_COMPACT_STRINGS_v434 := (own_staKeep (own_staKeep (own_staKeep S_COMPACT_STRINGS_v405 Kq406 all0) Kq411 (allS (own_plainE A393_v407) all0)) Kq424 all0)
            refine own_callV X424 hx hZ (y := (⟨"com/example/weaverbird/weaverbird/automaton/HoaLexer$Token", "is", "(Lcom/example/weaverbird/weaverbird/automaton/HoaLexer$Type;Ljava/lang/String;)Z"⟩ : MethodName)) (z := (⟨"com/example/weaverbird/weaverbird/automaton/HoaLexer$Token", "is", "(Lcom/example/weaverbird/weaverbird/automaton/HoaLexer$Type;Ljava/lang/String;)Z"⟩ : MethodName)) hown (hw _ (List.mem_of_getElem? (i := 53) rfl)) (hw _ (List.mem_of_getElem? (i := 54) rfl)) (notFace_of_selects (args := #[]) (mvT hZ (hw _ (List.mem_of_getElem? (i := 56) rfl)))) (hw _ (List.mem_of_getElem? (i := 56) rfl)) (hw _ (List.mem_of_getElem? (i := 55) rfl)) (hw _ (List.mem_of_getElem? (i := 57) rfl)) (hw _ (List.mem_of_getElem? (i := 3) rfl)) (by decide) 0 q411_0'_v427 [(.ref y2), (.ref b424_0)] [] (own_is_20len l Z a0 hw [] b393 y2 b424_0 y1 b406_0 b406_1 f424_0 k406_0 k424_0 (c0.toInt8.toInt32) (c1.toInt8.toInt32) zc T424.heap n0 (Nat.le_trans Z0 K424.1) q411_1'_v429 q411_2'_v430 q406_0'_v428 q424_0' q406_1'_v431 q424_1' q406_2'_v432 q424_2' q406_3'_v433 q424_3' S_COMPACT_STRINGS_v434 (hyeq hc146_412) hz ne_b406_0_b424_0) rfl  (by decide) (by decide) (by decide) (by decide) (g := (mkF m 205 #[.val (.int p1), .val (.int p2), .val (.int p3), .val (.int p4), .val (.int p5), .val (.int p6), .val (.int i1), .val (.int i2), .val (.int c0), .val (.int c1), .val (.int d0), .val (.int d1), .val (.int (2 : Int32)), .val (.int (0 : Int32)), .val (.ref b393), .val (.int (0 : Int32))] [(.ref b424_0), (.ref y2), (.ref b393)])) rfl (by rw [hml]; rfl) own_pd11 rfl rfl (by show 2 * 0 + _ ≤ _; exact Nat.le_of_eq rfl) (hb hby at_205) ?_
            intro T435 v435 L435 X435 hQ435
            obtain ⟨rfl, N435q, e435⟩ := hQ435
            have N435 := Fr.app N424 N435q
            refine own_step (fun t k => XS.iload X435.here hx rfl (hb hby at_208) rfl k) ?_
            show own_Goes _ _ _ _ T435 (mkF m 210 #[.val (.int p1), .val (.int p2), .val (.int p3), .val (.int p4), .val (.int p5), .val (.int p6), .val (.int i1), .val (.int i2), .val (.int c0), .val (.int c1), .val (.int d0), .val (.int d1), .val (.int (2 : Int32)), .val (.int (0 : Int32)), .val (.ref b393), .val (.int (0 : Int32))] [(.int (0 : Int32)), (.int (0 : Int32))])
            refine own_step (fun t k => XS.icmpNo X435.here hx rfl (hb hby at_210) rfl (teq (show (0 : Int32) = (0 : Int32) from (by decide))).2 k) ?_
            refine own_step (fun t k => XS.iconst X435.here hx rfl (hb hby at_213) k) ?_
            refine own_step (fun t k => XS.goto X435.here hx rfl (pc0 := 214) (pc' := 218) rfl (hb hby at_214) (by decide) (by decide) k) ?_
            show own_Goes _ _ _ _ T435 (mkF m 218 #[.val (.int p1), .val (.int p2), .val (.int p3), .val (.int p4), .val (.int p5), .val (.int p6), .val (.int i1), .val (.int i2), .val (.int c0), .val (.int c1), .val (.int d0), .val (.int d1), .val (.int (2 : Int32)), .val (.int (0 : Int32)), .val (.ref b393), .val (.int (0 : Int32))] [(.int (1 : Int32))])
            exact own_outW X435 hlk HS424 (Nat.le_refl _) hZ hEL e435 HC424 RC424 (v := some (.int (nar .boolean (1 : Int32)))) (fun q => by rw [hrt] at q; cases q) (fun fs hr => retN X435 hx (t := .boolean) hrt (by simp) (hb hby at_218) hr) ⟨rfl, N435⟩ (by decide) (by decide)
          · refine own_step (fun t k => XS.icmpYes X411.here hx rfl (pc0 := 146) (pc' := 186) rfl (hb hby at_146) rfl (feq (show ¬ (i1 = i2) from hc146_412)).2 (by decide) (by decide) k) ?_
            refine own_step (fun t k => XS.iconst X411.here hx rfl (hb hby at_186) k) ?_
            refine own_step (fun t k => XS.istore X411.here hx rfl (hb hby at_187) rfl (l' := #[.val (.int p1), .val (.int p2), .val (.int p3), .val (.int p4), .val (.int p5), .val (.int p6), .val (.int i1), .val (.int i2), .val (.int c0), .val (.int c1), .val (.int d0), .val (.int d1), .val (.int (2 : Int32)), .val (.int (0 : Int32)), .val (.ref b393), .val (.int (0 : Int32))]) rfl k) ?_
            refine own_step (fun t k => XS.aload X411.here hx rfl (hb hby at_189) rfl rfl k) ?_
            refine own_step (fun t k => XS.iload X411.here hx rfl (hb hby at_191) rfl k) ?_
            show own_Goes _ _ _ _ T411 (mkF m 193 #[.val (.int p1), .val (.int p2), .val (.int p3), .val (.int p4), .val (.int p5), .val (.int p6), .val (.int i1), .val (.int i2), .val (.int c0), .val (.int c1), .val (.int d0), .val (.int d1), .val (.int (2 : Int32)), .val (.int (0 : Int32)), .val (.ref b393), .val (.int (0 : Int32))] [(.int i2), (.ref b393)])
            have S_HEADER_v436 := (own_staKeep (own_staKeep S_HEADER_v394 Kq406 all0) Kq411 (allS (own_plainE A393_v407) all0))
            have S_IDENTIFIER_v437 := (own_staKeep (own_staKeep S_IDENTIFIER_v395 Kq406 all0) Kq411 (allS (own_plainE A393_v407) all0))
            have S_NUMBER_v438 := (own_staKeep (own_staKeep S_NUMBER_v396 Kq406 all0) Kq411 (allS (own_plainE A393_v407) all0))
            have S_STRING_v439 := (own_staKeep (own_staKeep S_STRING_v397 Kq406 all0) Kq411 (allS (own_plainE A393_v407) all0))
            have S_ALIAS_v440 := (own_staKeep (own_staKeep S_ALIAS_v398 Kq406 all0) Kq411 (allS (own_plainE A393_v407) all0))
            have S_SYMBOL_v441 := (own_staKeep (own_staKeep S_SYMBOL_v399 Kq406 all0) Kq411 (allS (own_plainE A393_v407) all0))
            have S_BODY_v442 := (own_staKeep (own_staKeep S_BODY_v400 Kq406 all0) Kq411 (allS (own_plainE A393_v407) all0))
            have S_END_v443 := (own_staKeep (own_staKeep S_END_v401 Kq406 all0) Kq411 (allS (own_plainE A393_v407) all0))
            have S_ABORT_v444 := (own_staKeep (own_staKeep S_ABORT_v402 Kq406 all0) Kq411 (allS (own_plainE A393_v407) all0))
            have S_EOF_v445 := (own_staKeep (own_staKeep S_EOF_v403 Kq406 all0) Kq411 (allS (own_plainE A393_v407) all0))
            refine own_callS X411 hx hZ (y := (⟨"com/example/weaverbird/weaverbird/automaton/TokenIsPinLaw", "type", "(I)Lcom/example/weaverbird/weaverbird/automaton/HoaLexer$Type;"⟩ : MethodName)) hown (hw _ (List.mem_of_getElem? (i := 4) rfl)) (hw _ (List.mem_of_getElem? (i := 5) rfl)) (hw _ (List.mem_of_getElem? (i := 6) rfl)) (hw _ (List.mem_of_getElem? (i := 7) rfl)) (by decide) 1 [(.int i2)] [(.ref b393)] (own_type l Z a0 hw [] i2 y2 w_HEADER w_IDENTIFIER w_NUMBER w_STRING w_ALIAS w_SYMBOL w_BODY w_END w_ABORT w_EOF T411.heap n0 (Nat.le_trans Z0 K411.1) S_HEADER_v436 S_IDENTIFIER_v437 S_NUMBER_v438 S_STRING_v439 S_ALIAS_v440 S_SYMBOL_v441 S_BODY_v442 S_END_v443 S_ABORT_v444 S_EOF_v445 hy2) rfl  (by decide) (by decide) (by decide) (by decide) (g := (mkF m 193 #[.val (.int p1), .val (.int p2), .val (.int p3), .val (.int p4), .val (.int p5), .val (.int p6), .val (.int i1), .val (.int i2), .val (.int c0), .val (.int c1), .val (.int d0), .val (.int d1), .val (.int (2 : Int32)), .val (.int (0 : Int32)), .val (.ref b393), .val (.int (0 : Int32))] [(.int i2), (.ref b393)])) rfl (by rw [hml]; rfl) own_pd8 rfl rfl (by show 2 * 0 + _ ≤ _; exact Nat.le_of_eq rfl) (hb hby at_193) ?_
            intro T446 v446 L446 X446 hQ446
            obtain ⟨rfl, N446q, e446⟩ := hQ446
            have N446 := Fr.app N411 N446q
            refine own_step (fun t k => XS.iload X446.here hx rfl (hb hby at_196) rfl k) ?_
            refine own_step (fun t k => XS.iload X446.here hx rfl (hb hby at_198) rfl k) ?_
            refine own_step (fun t k => XS.iload X446.here hx rfl (hb hby at_200) rfl k) ?_
            show own_Goes _ _ _ _ T446 (mkF m 202 #[.val (.int p1), .val (.int p2), .val (.int p3), .val (.int p4), .val (.int p5), .val (.int p6), .val (.int i1), .val (.int i2), .val (.int c0), .val (.int c1), .val (.int d0), .val (.int d1), .val (.int (2 : Int32)), .val (.int (0 : Int32)), .val (.ref b393), .val (.int (0 : Int32))] [(.int d1), (.int d0), (.int (0 : Int32)), (.ref y2), (.ref b393)])
            refine own_callSW X446 hx hZ (y := (⟨"com/example/weaverbird/weaverbird/automaton/TokenIsPinLaw", "str", "(ICC)Ljava/lang/String;"⟩ : MethodName)) hown (hw _ (List.mem_of_getElem? (i := 11) rfl)) (hw _ (List.mem_of_getElem? (i := 12) rfl)) (hw _ (List.mem_of_getElem? (i := 6) rfl)) (hw _ (List.mem_of_getElem? (i := 13) rfl)) (by decide) 2 [(.int (0 : Int32)), (.int d0), (.int d1)] [(.ref y2), (.ref b393)] (own_str0 l Z a0 hw [] d0 d1 T411.heap n0 (Nat.le_trans Z0 K411.1) ) e446  hEL HC411 HS0 (Nat.le_trans (Nat.le_trans (Nat.le_trans (Nat.le_refl _) E393.1) Kq406.1) Kq411.1) (by decide) (by decide) (by decide) (by decide) (g := (mkF m 202 #[.val (.int p1), .val (.int p2), .val (.int p3), .val (.int p4), .val (.int p5), .val (.int p6), .val (.int i1), .val (.int i2), .val (.int c0), .val (.int c1), .val (.int d0), .val (.int d1), .val (.int (2 : Int32)), .val (.int (0 : Int32)), .val (.ref b393), .val (.int (0 : Int32))] [(.int d1), (.int d0), (.int (0 : Int32)), (.ref y2), (.ref b393)])) rfl (by rw [hml]; rfl) own_pd9 rfl rfl (by show 2 * 0 + _ ≤ _; exact Nat.le_of_eq rfl) (hb hby at_202) ?_
            intro T447 v447 L447 X447 HS447 hZ hown CR447 hQ447
            have RC447 := RC411.trans CR447
            have HC447 := CR447.1
            have q406_0'_v448 := (q406_0'.keep Kq411)
            have q406_3'_v449 := (q406_3'.keep Kq411 (ninS (Ne.symm ne_b393_b406_1) nin0))
            obtain ⟨b447_0, f447_0, k447_0, rfl, N447q, Kq447, zq447_0, q447_0, q447_1, q447_2, q447_3⟩ := hQ447
            have N447 := Fr.app N446 N447q
            have K447 := K411.trans Kq447 all0
            have g_b447_0 : n0 ≤ b447_0 := Nat.le_trans (Nat.le_trans Z0 K411.1) zq447_0
            have sz_b447_0 : h0.size ≤ b447_0 := Nat.le_trans K411.1 zq447_0
            have ne_b393_b447_0 : b393 ≠ b447_0 := Nat.ne_of_lt (Nat.lt_of_lt_of_le q411_0'.lt zq447_0)
            have ne_b406_0_b447_0 : b406_0 ≠ b447_0 := Nat.ne_of_lt (Nat.lt_of_lt_of_le q406_0'_v448.lt zq447_0)
            have ne_b406_1_b447_0 : b406_1 ≠ b447_0 := Nat.ne_of_lt (Nat.lt_of_lt_of_le q406_3'_v449.lt zq447_0)
            have q447_0' : Exa Z T447.heap b447_0 "java/lang/String" := q447_0
            have q447_1' : Fld Z T447.heap b447_0 "java/lang/String" "coder" "B" (.int (0 : Int32)) := q447_1
            have q447_2' : Fld Z T447.heap b447_0 "java/lang/String" "value" "[B" (.ref f447_0) := q447_2
            have q447_3' : Arv Z T447.heap f447_0 k447_0 .byte (0 : Int32) [] (.int (0 : Int32)) := q447_3
            have q411_0'_v450 := (q411_0'.keep Kq447)
            have ne_b393_f447_0 : b393 ≠ f447_0 := Exa.neArv q411_0'_v450 q447_3' (hw _ (List.mem_of_getElem? (i := 2) rfl))
            have q406_0'_v451 := (q406_0'_v448.keep Kq447)
            have ne_b406_0_f447_0 : b406_0 ≠ f447_0 := Exa.neArv q406_0'_v451 q447_3' (hw _ (List.mem_of_getElem? (i := 15) rfl))
            have ne_b447_0_f447_0 : b447_0 ≠ f447_0 := Exa.neArv q447_0' q447_3' (hw _ (List.mem_of_getElem? (i := 15) rfl))
            show own_Goes _ _ _ _ T447 (mkF m 205 #[.val (.int p1), .val (.int p2), .val (.int p3), .val (.int p4), .val (.int p5), .val (.int p6), .val (.int i1), .val (.int i2), .val (.int c0), .val (.int c1), .val (.int d0), .val (.int d1), .val (.int (2 : Int32)), .val (.int (0 : Int32)), .val (.ref b393), .val (.int (0 : Int32))] [(.ref b447_0), (.ref y2), (.ref b393)])
            have q411_1'_v452 := (q411_1'.keep Kq447 nin0)
            refine own_callV X447 hx hZ (y := (⟨"com/example/weaverbird/weaverbird/automaton/HoaLexer$Token", "is", "(Lcom/example/weaverbird/weaverbird/automaton/HoaLexer$Type;Ljava/lang/String;)Z"⟩ : MethodName)) (z := (⟨"com/example/weaverbird/weaverbird/automaton/HoaLexer$Token", "is", "(Lcom/example/weaverbird/weaverbird/automaton/HoaLexer$Type;Ljava/lang/String;)Z"⟩ : MethodName)) hown (hw _ (List.mem_of_getElem? (i := 53) rfl)) (hw _ (List.mem_of_getElem? (i := 54) rfl)) (notFace_of_selects (args := #[]) (mvT hZ (hw _ (List.mem_of_getElem? (i := 56) rfl)))) (hw _ (List.mem_of_getElem? (i := 56) rfl)) (hw _ (List.mem_of_getElem? (i := 55) rfl)) (hw _ (List.mem_of_getElem? (i := 57) rfl)) (hw _ (List.mem_of_getElem? (i := 3) rfl)) (by decide) 0 q411_0'_v450 [(.ref y2), (.ref b447_0)] [] (own_is_ne l Z a0 hw [] b393 y2 b447_0 y1 T447.heap n0 (Nat.le_trans Z0 K447.1) q411_1'_v452 (hyne hc146_412)) rfl  (by decide) (by decide) (by decide) (by decide) (g := (mkF m 205 #[.val (.int p1), .val (.int p2), .val (.int p3), .val (.int p4), .val (.int p5), .val (.int p6), .val (.int i1), .val (.int i2), .val (.int c0), .val (.int c1), .val (.int d0), .val (.int d1), .val (.int (2 : Int32)), .val (.int (0 : Int32)), .val (.ref b393), .val (.int (0 : Int32))] [(.ref b447_0), (.ref y2), (.ref b393)])) rfl (by rw [hml]; rfl) own_pd11 rfl rfl (by show 2 * 0 + _ ≤ _; exact Nat.le_of_eq rfl) (hb hby at_205) ?_
            intro T453 v453 L453 X453 hQ453
            obtain ⟨rfl, N453q, e453⟩ := hQ453
            have N453 := Fr.app N447 N453q
            refine own_step (fun t k => XS.iload X453.here hx rfl (hb hby at_208) rfl k) ?_
            show own_Goes _ _ _ _ T453 (mkF m 210 #[.val (.int p1), .val (.int p2), .val (.int p3), .val (.int p4), .val (.int p5), .val (.int p6), .val (.int i1), .val (.int i2), .val (.int c0), .val (.int c1), .val (.int d0), .val (.int d1), .val (.int (2 : Int32)), .val (.int (0 : Int32)), .val (.ref b393), .val (.int (0 : Int32))] [(.int (0 : Int32)), (.int (0 : Int32))])
            refine own_step (fun t k => XS.icmpNo X453.here hx rfl (hb hby at_210) rfl (teq (show (0 : Int32) = (0 : Int32) from (by decide))).2 k) ?_
            refine own_step (fun t k => XS.iconst X453.here hx rfl (hb hby at_213) k) ?_
            refine own_step (fun t k => XS.goto X453.here hx rfl (pc0 := 214) (pc' := 218) rfl (hb hby at_214) (by decide) (by decide) k) ?_
            show own_Goes _ _ _ _ T453 (mkF m 218 #[.val (.int p1), .val (.int p2), .val (.int p3), .val (.int p4), .val (.int p5), .val (.int p6), .val (.int i1), .val (.int i2), .val (.int c0), .val (.int c1), .val (.int d0), .val (.int d1), .val (.int (2 : Int32)), .val (.int (0 : Int32)), .val (.ref b393), .val (.int (0 : Int32))] [(.int (1 : Int32))])
            exact own_outW X453 hlk HS447 (Nat.le_refl _) hZ hEL e453 HC447 RC447 (v := some (.int (nar .boolean (1 : Int32)))) (fun q => by rw [hrt] at q; cases q) (fun fs hr => retN X453 hx (t := .boolean) hrt (by simp) (hb hby at_218) hr) ⟨rfl, N453⟩ (by decide) (by decide)
        · show own_Goes _ _ _ _ s₁ (mkF m 117 #[.val (.int p1), .val (.int p2), .val (.int p3), .val (.int p4), .val (.int p5), .val (.int p6), .val (.int i1), .val (.int i2), .val (.int c0), .val (.int c1), .val (.int d0), .val (.int d1), .val (.int (2 : Int32)), .val (.int (1 : Int32)), .unset, .unset] [])
          obtain ⟨T454, h454, X454, e454, E454, A454, D454, -, st454⟩ := newO X0 hx hZ hown (hw _ (List.mem_of_getElem? (i := 1) rfl)) (hw _ (List.mem_of_getElem? (i := 2) rfl)) (hw _ (List.mem_of_getElem? (i := 3) rfl)) e0 (g := (mkF m 117 #[.val (.int p1), .val (.int p2), .val (.int p3), .val (.int p4), .val (.int p5), .val (.int p6), .val (.int i1), .val (.int i2), .val (.int c0), .val (.int c1), .val (.int d0), .val (.int d1), .val (.int (2 : Int32)), .val (.int (1 : Int32)), .unset, .unset] [])) rfl (hb hby at_117) (by decide) (by decide)
          obtain ⟨b454, g454⟩ : ∃ z, z = h0.size := ⟨_, rfl⟩
          rw [← g454] at A454 D454 st454
          refine own_step st454 ?_
          have g_b454 : n0 ≤ b454 := Nat.le_trans Z0 (Nat.le_of_eq g454.symm)
          have sz_b454 : h0.size ≤ b454 := Nat.le_trans (Keep.refl h0 []).1 (Nat.le_of_eq g454.symm)
          have K454 := (Keep.refl h0 []).ext E454
          have RC454 := RC0.trans (CHr.ext E454 HC0)
          have HC454 := CHv.ext E454 HC0
          have F_b454_type : Fld Z h454 b454 "com/example/weaverbird/weaverbird/automaton/HoaLexer$Token" "type" "Lcom/example/weaverbird/weaverbird/automaton/HoaLexer$Type;" .null := D454 (Or.inr (hw _ (List.mem_of_getElem? (i := 46) rfl))) (ty := (.object "com/example/weaverbird/weaverbird/automaton/HoaLexer$Type")) (by decide)
          have F_b454_text : Fld Z h454 b454 "com/example/weaverbird/weaverbird/automaton/HoaLexer$Token" "text" "Ljava/lang/String;" .null := D454 (Or.inr (hw _ (List.mem_of_getElem? (i := 48) rfl))) (ty := (.object "java/lang/String")) (by decide)
          have F_b454_line : Fld Z h454 b454 "com/example/weaverbird/weaverbird/automaton/HoaLexer$Token" "line" "I" (.int (0 : Int32)) := D454 (Or.inr (hw _ (List.mem_of_getElem? (i := 50) rfl))) (ty := .int) (by decide)
          refine own_step (fun t k => XS.dup X454.here hx rfl (hb hby at_120) rfl rfl k) ?_
          refine own_step (fun t k => XS.iload X454.here hx rfl (hb hby at_121) rfl k) ?_
          show own_Goes _ _ _ _ T454 (mkF m 123 #[.val (.int p1), .val (.int p2), .val (.int p3), .val (.int p4), .val (.int p5), .val (.int p6), .val (.int i1), .val (.int i2), .val (.int c0), .val (.int c1), .val (.int d0), .val (.int d1), .val (.int (2 : Int32)), .val (.int (1 : Int32)), .unset, .unset] [(.int i1), (.ref b454), (.ref b454)])
          have S_HEADER_v455 := (S_HEADER.ext E454)
          have S_IDENTIFIER_v456 := (S_IDENTIFIER.ext E454)
          have S_NUMBER_v457 := (S_NUMBER.ext E454)
          have S_STRING_v458 := (S_STRING.ext E454)
          have S_ALIAS_v459 := (S_ALIAS.ext E454)
          have S_SYMBOL_v460 := (S_SYMBOL.ext E454)
          have S_BODY_v461 := (S_BODY.ext E454)
          have S_END_v462 := (S_END.ext E454)
          have S_ABORT_v463 := (S_ABORT.ext E454)
          have S_EOF_v464 := (S_EOF.ext E454)
          refine own_callS X454 hx hZ (y := (⟨"com/example/weaverbird/weaverbird/automaton/TokenIsPinLaw", "type", "(I)Lcom/example/weaverbird/weaverbird/automaton/HoaLexer$Type;"⟩ : MethodName)) hown (hw _ (List.mem_of_getElem? (i := 4) rfl)) (hw _ (List.mem_of_getElem? (i := 5) rfl)) (hw _ (List.mem_of_getElem? (i := 6) rfl)) (hw _ (List.mem_of_getElem? (i := 7) rfl)) (by decide) 2 [(.int i1)] [(.ref b454), (.ref b454)] (own_type l Z a0 hw [] i1 y1 w_HEADER w_IDENTIFIER w_NUMBER w_STRING w_ALIAS w_SYMBOL w_BODY w_END w_ABORT w_EOF h454 n0 (Nat.le_trans Z0 K454.1) S_HEADER_v455 S_IDENTIFIER_v456 S_NUMBER_v457 S_STRING_v458 S_ALIAS_v459 S_SYMBOL_v460 S_BODY_v461 S_END_v462 S_ABORT_v463 S_EOF_v464 hy1) e454  (by decide) (by decide) (by decide) (by decide) (g := (mkF m 123 #[.val (.int p1), .val (.int p2), .val (.int p3), .val (.int p4), .val (.int p5), .val (.int p6), .val (.int i1), .val (.int i2), .val (.int c0), .val (.int c1), .val (.int d0), .val (.int d1), .val (.int (2 : Int32)), .val (.int (1 : Int32)), .unset, .unset] [(.int i1), (.ref b454), (.ref b454)])) rfl (by rw [hml]; rfl) own_pd8 rfl rfl (by show 2 * 0 + _ ≤ _; exact Nat.le_of_eq rfl) (hb hby at_123) ?_
          intro T465 v465 L465 X465 hQ465
          obtain ⟨rfl, N465q, e465⟩ := hQ465
          have N465 := Fr.app N0 N465q
          refine own_step (fun t k => XS.iload X465.here hx rfl (hb hby at_126) rfl k) ?_
          refine own_step (fun t k => XS.iload X465.here hx rfl (hb hby at_128) rfl k) ?_
          refine own_step (fun t k => XS.iload X465.here hx rfl (hb hby at_130) rfl k) ?_
          show own_Goes _ _ _ _ T465 (mkF m 132 #[.val (.int p1), .val (.int p2), .val (.int p3), .val (.int p4), .val (.int p5), .val (.int p6), .val (.int i1), .val (.int i2), .val (.int c0), .val (.int c1), .val (.int d0), .val (.int d1), .val (.int (2 : Int32)), .val (.int (1 : Int32)), .unset, .unset] [(.int c1), (.int c0), (.int (2 : Int32)), (.ref y1), (.ref b454), (.ref b454)])
          have S_COMPACT_STRINGS_v466 := (S_COMPACT_STRINGS.ext E454)
          refine own_callS X465 hx hZ (y := (⟨"com/example/weaverbird/weaverbird/automaton/TokenIsPinLaw", "str", "(ICC)Ljava/lang/String;"⟩ : MethodName)) hown (hw _ (List.mem_of_getElem? (i := 11) rfl)) (hw _ (List.mem_of_getElem? (i := 12) rfl)) (hw _ (List.mem_of_getElem? (i := 6) rfl)) (hw _ (List.mem_of_getElem? (i := 13) rfl)) (by decide) 3 [(.int (2 : Int32)), (.int c0), (.int c1)] [(.ref y1), (.ref b454), (.ref b454)] (own_str2 l Z a0 hw [] c0 c1 zc h454 n0 (Nat.le_trans Z0 K454.1) S_COMPACT_STRINGS_v466 hc0a hc0b hc1a hc1b hz) e465  (by decide) (by decide) (by decide) (by decide) (g := (mkF m 132 #[.val (.int p1), .val (.int p2), .val (.int p3), .val (.int p4), .val (.int p5), .val (.int p6), .val (.int i1), .val (.int i2), .val (.int c0), .val (.int c1), .val (.int d0), .val (.int d1), .val (.int (2 : Int32)), .val (.int (1 : Int32)), .unset, .unset] [(.int c1), (.int c0), (.int (2 : Int32)), (.ref y1), (.ref b454), (.ref b454)])) rfl (by rw [hml]; rfl) own_pd9 rfl rfl (by show 2 * 0 + _ ≤ _; exact Nat.le_of_eq rfl) (hb hby at_132) ?_
          intro T467 v467 L467 X467 hQ467
          obtain ⟨b467_0, b467_1, k467_0, rfl, N467q, Kq467, zq467_0, zq467_1, q467_0, q467_1, q467_2, q467_3⟩ := hQ467
          have N467 := Fr.app N465 N467q
          have K467 := K454.trans Kq467 all0
          have g_b467_0 : n0 ≤ b467_0 := Nat.le_trans (Nat.le_trans Z0 K454.1) zq467_0
          have sz_b467_0 : h0.size ≤ b467_0 := Nat.le_trans K454.1 zq467_0
          have ne_b454_b467_0 : b454 ≠ b467_0 := Nat.ne_of_lt (Nat.lt_of_lt_of_le A454.lt zq467_0)
          have g_b467_1 : n0 ≤ b467_1 := Nat.le_trans (Nat.le_trans Z0 K454.1) zq467_1
          have sz_b467_1 : h0.size ≤ b467_1 := Nat.le_trans K454.1 zq467_1
          have ne_b454_b467_1 : b454 ≠ b467_1 := Nat.ne_of_lt (Nat.lt_of_lt_of_le A454.lt zq467_1)
          have RC467 := RC454.trans (CHr.keep Kq467 all0 HC454)
          have HC467 := CHv.keep Kq467 all0 HC454
          have q467_0' : Exa Z T467.heap b467_0 "java/lang/String" := q467_0
          have q467_1' : Fld Z T467.heap b467_0 "java/lang/String" "coder" "B" (.int (0 : Int32)) := q467_1
          have q467_2' : Fld Z T467.heap b467_0 "java/lang/String" "value" "[B" (.ref b467_1) := q467_2
          have q467_3' : Arv Z T467.heap b467_1 k467_0 .byte (2 : Int32) [(.int (c0.toInt8.toInt32)), (.int (c1.toInt8.toInt32))] (.int (0 : Int32)) := q467_3
          refine own_step (fun t k => XS.iload X467.here hx rfl (hb hby at_135) rfl k) ?_
          show own_Goes _ _ _ _ T467 (mkF m 137 #[.val (.int p1), .val (.int p2), .val (.int p3), .val (.int p4), .val (.int p5), .val (.int p6), .val (.int i1), .val (.int i2), .val (.int c0), .val (.int c1), .val (.int d0), .val (.int d1), .val (.int (2 : Int32)), .val (.int (1 : Int32)), .unset, .unset] [(.int p6), (.ref b467_0), (.ref y1), (.ref b454), (.ref b454)])
          have A454_v468 := (A454.keep Kq467)
          have F_b454_type_v469 := (F_b454_type.keep Kq467 nin0)
          have F_b454_text_v470 := (F_b454_text.keep Kq467 nin0)
          have F_b454_line_v471 := (F_b454_line.keep Kq467 nin0)
          refine own_callC X467 hx hZ (y := (⟨"com/example/weaverbird/weaverbird/automaton/HoaLexer$Token", "<init>", "(Lcom/example/weaverbird/weaverbird/automaton/HoaLexer$Type;Ljava/lang/String;I)V"⟩ : MethodName)) rfl hown (hw _ (List.mem_of_getElem? (i := 36) rfl)) (hw _ (List.mem_of_getElem? (i := 37) rfl)) (hw _ (List.mem_of_getElem? (i := 38) rfl)) (hw _ (List.mem_of_getElem? (i := 3) rfl)) (by decide) 1 (a := b454) [(.ref y1), (.ref b467_0), (.int p6)] [(.ref b454)] (own_tinit l Z a0 hw [] b454 y1 b467_0 p6 T467.heap n0 (Nat.le_trans Z0 K467.1) A454_v468 F_b454_type_v469 F_b454_text_v470 F_b454_line_v471 g_b454) rfl  (by decide) (by decide) (by decide) (by decide) (g := (mkF m 137 #[.val (.int p1), .val (.int p2), .val (.int p3), .val (.int p4), .val (.int p5), .val (.int p6), .val (.int i1), .val (.int i2), .val (.int c0), .val (.int c1), .val (.int d0), .val (.int d1), .val (.int (2 : Int32)), .val (.int (1 : Int32)), .unset, .unset] [(.int p6), (.ref b467_0), (.ref y1), (.ref b454), (.ref b454)])) rfl (by rw [hml]; rfl) own_pd10 rfl rfl (by show 2 * 0 + _ ≤ _; exact Nat.le_of_eq rfl) (hb hby at_137) ?_
          intro T472 v472 L472 X472 hQ472
          obtain ⟨rfl, N472q, Kq472, q472_0, q472_1, q472_2⟩ := hQ472
          have N472 := Fr.app N467 N472q
          have K472 := K467.trans Kq472 (allS (Or.inr sz_b454) all0)
          have RC472 := RC467.trans (CHr.keep Kq472 (allS (Safe.exa hZ.alike A454_v468 (by decide) (by decide)) all0) HC467)
          have HC472 := CHv.keep Kq472 (allS (Safe.exa hZ.alike A454_v468 (by decide) (by decide)) all0) HC467
          have q472_0' : Exa Z T472.heap b454 "com/example/weaverbird/weaverbird/automaton/HoaLexer$Token" := q472_0
          have q472_1' : Fld Z T472.heap b454 "com/example/weaverbird/weaverbird/automaton/HoaLexer$Token" "type" "Lcom/example/weaverbird/weaverbird/automaton/HoaLexer$Type;" (.ref y1) := q472_1
          have q472_2' : Fld Z T472.heap b454 "com/example/weaverbird/weaverbird/automaton/HoaLexer$Token" "text" "Ljava/lang/String;" (.ref b467_0) := q472_2
          refine own_step (fun t k => XS.astore X472.here hx rfl (hb hby at_140) rfl rfl (l' := #[.val (.int p1), .val (.int p2), .val (.int p3), .val (.int p4), .val (.int p5), .val (.int p6), .val (.int i1), .val (.int i2), .val (.int c0), .val (.int c1), .val (.int d0), .val (.int d1), .val (.int (2 : Int32)), .val (.int (1 : Int32)), .val (.ref b454), .unset]) rfl k) ?_
          refine own_step (fun t k => XS.iload X472.here hx rfl (hb hby at_142) rfl k) ?_
          refine own_step (fun t k => XS.iload X472.here hx rfl (hb hby at_144) rfl k) ?_
          show own_Goes _ _ _ _ T472 (mkF m 146 #[.val (.int p1), .val (.int p2), .val (.int p3), .val (.int p4), .val (.int p5), .val (.int p6), .val (.int i1), .val (.int i2), .val (.int c0), .val (.int c1), .val (.int d0), .val (.int d1), .val (.int (2 : Int32)), .val (.int (1 : Int32)), .val (.ref b454), .unset] [(.int i2), (.int i1)])
          by_cases hc146_473 : i1 = i2
          · refine own_step (fun t k => XS.icmpNo X472.here hx rfl (hb hby at_146) rfl (teq (show i1 = i2 from hc146_473)).2 k) ?_
            refine own_step (fun t k => XS.iload X472.here hx rfl (hb hby at_149) rfl k) ?_
            refine own_step (fun t k => XS.iload X472.here hx rfl (hb hby at_151) rfl k) ?_
            show own_Goes _ _ _ _ T472 (mkF m 153 #[.val (.int p1), .val (.int p2), .val (.int p3), .val (.int p4), .val (.int p5), .val (.int p6), .val (.int i1), .val (.int i2), .val (.int c0), .val (.int c1), .val (.int d0), .val (.int d1), .val (.int (2 : Int32)), .val (.int (1 : Int32)), .val (.ref b454), .unset] [(.int (1 : Int32)), (.int (2 : Int32))])
            refine own_step (fun t k => XS.icmpYes X472.here hx rfl (pc0 := 153) (pc' := 186) rfl (hb hby at_153) rfl (feq (show ¬ ((2 : Int32) = (1 : Int32)) from (by decide))).2 (by decide) (by decide) k) ?_
            refine own_step (fun t k => XS.iconst X472.here hx rfl (hb hby at_186) k) ?_
            refine own_step (fun t k => XS.istore X472.here hx rfl (hb hby at_187) rfl (l' := #[.val (.int p1), .val (.int p2), .val (.int p3), .val (.int p4), .val (.int p5), .val (.int p6), .val (.int i1), .val (.int i2), .val (.int c0), .val (.int c1), .val (.int d0), .val (.int d1), .val (.int (2 : Int32)), .val (.int (1 : Int32)), .val (.ref b454), .val (.int (0 : Int32))]) rfl k) ?_
            refine own_step (fun t k => XS.aload X472.here hx rfl (hb hby at_189) rfl rfl k) ?_
            refine own_step (fun t k => XS.iload X472.here hx rfl (hb hby at_191) rfl k) ?_
            show own_Goes _ _ _ _ T472 (mkF m 193 #[.val (.int p1), .val (.int p2), .val (.int p3), .val (.int p4), .val (.int p5), .val (.int p6), .val (.int i1), .val (.int i2), .val (.int c0), .val (.int c1), .val (.int d0), .val (.int d1), .val (.int (2 : Int32)), .val (.int (1 : Int32)), .val (.ref b454), .val (.int (0 : Int32))] [(.int i2), (.ref b454)])
            have S_HEADER_v474 := (own_staKeep (own_staKeep S_HEADER_v455 Kq467 all0) Kq472 (allS (own_plainE A454_v468) all0))
            have S_IDENTIFIER_v475 := (own_staKeep (own_staKeep S_IDENTIFIER_v456 Kq467 all0) Kq472 (allS (own_plainE A454_v468) all0))
            have S_NUMBER_v476 := (own_staKeep (own_staKeep S_NUMBER_v457 Kq467 all0) Kq472 (allS (own_plainE A454_v468) all0))
            have S_STRING_v477 := (own_staKeep (own_staKeep S_STRING_v458 Kq467 all0) Kq472 (allS (own_plainE A454_v468) all0))
            have S_ALIAS_v478 := (own_staKeep (own_staKeep S_ALIAS_v459 Kq467 all0) Kq472 (allS (own_plainE A454_v468) all0))
            have S_SYMBOL_v479 := (own_staKeep (own_staKeep S_SYMBOL_v460 Kq467 all0) Kq472 (allS (own_plainE A454_v468) all0))
            have S_BODY_v480 := (own_staKeep (own_staKeep S_BODY_v461 Kq467 all0) Kq472 (allS (own_plainE A454_v468) all0))
            have S_END_v481 := (own_staKeep (own_staKeep S_END_v462 Kq467 all0) Kq472 (allS (own_plainE A454_v468) all0))
            have S_ABORT_v482 := (own_staKeep (own_staKeep S_ABORT_v463 Kq467 all0) Kq472 (allS (own_plainE A454_v468) all0))
            have S_EOF_v483 := (own_staKeep (own_staKeep S_EOF_v464 Kq467 all0) Kq472 (allS (own_plainE A454_v468) all0))
            refine own_callS X472 hx hZ (y := (⟨"com/example/weaverbird/weaverbird/automaton/TokenIsPinLaw", "type", "(I)Lcom/example/weaverbird/weaverbird/automaton/HoaLexer$Type;"⟩ : MethodName)) hown (hw _ (List.mem_of_getElem? (i := 4) rfl)) (hw _ (List.mem_of_getElem? (i := 5) rfl)) (hw _ (List.mem_of_getElem? (i := 6) rfl)) (hw _ (List.mem_of_getElem? (i := 7) rfl)) (by decide) 1 [(.int i2)] [(.ref b454)] (own_type l Z a0 hw [] i2 y2 w_HEADER w_IDENTIFIER w_NUMBER w_STRING w_ALIAS w_SYMBOL w_BODY w_END w_ABORT w_EOF T472.heap n0 (Nat.le_trans Z0 K472.1) S_HEADER_v474 S_IDENTIFIER_v475 S_NUMBER_v476 S_STRING_v477 S_ALIAS_v478 S_SYMBOL_v479 S_BODY_v480 S_END_v481 S_ABORT_v482 S_EOF_v483 hy2) rfl  (by decide) (by decide) (by decide) (by decide) (g := (mkF m 193 #[.val (.int p1), .val (.int p2), .val (.int p3), .val (.int p4), .val (.int p5), .val (.int p6), .val (.int i1), .val (.int i2), .val (.int c0), .val (.int c1), .val (.int d0), .val (.int d1), .val (.int (2 : Int32)), .val (.int (1 : Int32)), .val (.ref b454), .val (.int (0 : Int32))] [(.int i2), (.ref b454)])) rfl (by rw [hml]; rfl) own_pd8 rfl rfl (by show 2 * 0 + _ ≤ _; exact Nat.le_of_eq rfl) (hb hby at_193) ?_
            intro T484 v484 L484 X484 hQ484
            obtain ⟨rfl, N484q, e484⟩ := hQ484
            have N484 := Fr.app N472 N484q
            refine own_step (fun t k => XS.iload X484.here hx rfl (hb hby at_196) rfl k) ?_
            refine own_step (fun t k => XS.iload X484.here hx rfl (hb hby at_198) rfl k) ?_
            refine own_step (fun t k => XS.iload X484.here hx rfl (hb hby at_200) rfl k) ?_
            show own_Goes _ _ _ _ T484 (mkF m 202 #[.val (.int p1), .val (.int p2), .val (.int p3), .val (.int p4), .val (.int p5), .val (.int p6), .val (.int i1), .val (.int i2), .val (.int c0), .val (.int c1), .val (.int d0), .val (.int d1), .val (.int (2 : Int32)), .val (.int (1 : Int32)), .val (.ref b454), .val (.int (0 : Int32))] [(.int d1), (.int d0), (.int (1 : Int32)), (.ref y2), (.ref b454)])
            have S_COMPACT_STRINGS_v485 := (own_staKeep (own_staKeep S_COMPACT_STRINGS_v466 Kq467 all0) Kq472 (allS (own_plainE A454_v468) all0))
            refine own_callS X484 hx hZ (y := (⟨"com/example/weaverbird/weaverbird/automaton/TokenIsPinLaw", "str", "(ICC)Ljava/lang/String;"⟩ : MethodName)) hown (hw _ (List.mem_of_getElem? (i := 11) rfl)) (hw _ (List.mem_of_getElem? (i := 12) rfl)) (hw _ (List.mem_of_getElem? (i := 6) rfl)) (hw _ (List.mem_of_getElem? (i := 13) rfl)) (by decide) 2 [(.int (1 : Int32)), (.int d0), (.int d1)] [(.ref y2), (.ref b454)] (own_str1 l Z a0 hw [] d0 d1 zc T472.heap n0 (Nat.le_trans Z0 K472.1) S_COMPACT_STRINGS_v485 hd0a hd0b hz) e484  (by decide) (by decide) (by decide) (by decide) (g := (mkF m 202 #[.val (.int p1), .val (.int p2), .val (.int p3), .val (.int p4), .val (.int p5), .val (.int p6), .val (.int i1), .val (.int i2), .val (.int c0), .val (.int c1), .val (.int d0), .val (.int d1), .val (.int (2 : Int32)), .val (.int (1 : Int32)), .val (.ref b454), .val (.int (0 : Int32))] [(.int d1), (.int d0), (.int (1 : Int32)), (.ref y2), (.ref b454)])) rfl (by rw [hml]; rfl) own_pd9 rfl rfl (by show 2 * 0 + _ ≤ _; exact Nat.le_of_eq rfl) (hb hby at_202) ?_
            intro T486 v486 L486 X486 hQ486
            have q467_0'_v487 := (q467_0'.keep Kq472)
            have q467_3'_v488 := (q467_3'.keep Kq472 (ninS (Ne.symm ne_b454_b467_1) nin0))
            obtain ⟨b486_0, b486_1, k486_0, rfl, N486q, Kq486, zq486_0, zq486_1, q486_0, q486_1, q486_2, q486_3⟩ := hQ486
            have N486 := Fr.app N484 N486q
            have K486 := K472.trans Kq486 all0
            have g_b486_0 : n0 ≤ b486_0 := Nat.le_trans (Nat.le_trans Z0 K472.1) zq486_0
            have sz_b486_0 : h0.size ≤ b486_0 := Nat.le_trans K472.1 zq486_0
            have ne_b454_b486_0 : b454 ≠ b486_0 := Nat.ne_of_lt (Nat.lt_of_lt_of_le q472_0'.lt zq486_0)
            have ne_b467_0_b486_0 : b467_0 ≠ b486_0 := Nat.ne_of_lt (Nat.lt_of_lt_of_le q467_0'_v487.lt zq486_0)
            have ne_b467_1_b486_0 : b467_1 ≠ b486_0 := Nat.ne_of_lt (Nat.lt_of_lt_of_le q467_3'_v488.lt zq486_0)
            have g_b486_1 : n0 ≤ b486_1 := Nat.le_trans (Nat.le_trans Z0 K472.1) zq486_1
            have sz_b486_1 : h0.size ≤ b486_1 := Nat.le_trans K472.1 zq486_1
            have ne_b454_b486_1 : b454 ≠ b486_1 := Nat.ne_of_lt (Nat.lt_of_lt_of_le q472_0'.lt zq486_1)
            have ne_b467_0_b486_1 : b467_0 ≠ b486_1 := Nat.ne_of_lt (Nat.lt_of_lt_of_le q467_0'_v487.lt zq486_1)
            have ne_b467_1_b486_1 : b467_1 ≠ b486_1 := Nat.ne_of_lt (Nat.lt_of_lt_of_le q467_3'_v488.lt zq486_1)
            have RC486 := RC472.trans (CHr.keep Kq486 all0 HC472)
            have HC486 := CHv.keep Kq486 all0 HC472
            have q486_0' : Exa Z T486.heap b486_0 "java/lang/String" := q486_0
            have q486_1' : Fld Z T486.heap b486_0 "java/lang/String" "coder" "B" (.int (0 : Int32)) := q486_1
            have q486_2' : Fld Z T486.heap b486_0 "java/lang/String" "value" "[B" (.ref b486_1) := q486_2
            have q486_3' : Arv Z T486.heap b486_1 k486_0 .byte (1 : Int32) [(.int (d0.toInt8.toInt32))] (.int (0 : Int32)) := q486_3
            show own_Goes _ _ _ _ T486 (mkF m 205 #[.val (.int p1), .val (.int p2), .val (.int p3), .val (.int p4), .val (.int p5), .val (.int p6), .val (.int i1), .val (.int i2), .val (.int c0), .val (.int c1), .val (.int d0), .val (.int d1), .val (.int (2 : Int32)), .val (.int (1 : Int32)), .val (.ref b454), .val (.int (0 : Int32))] [(.ref b486_0), (.ref y2), (.ref b454)])
            have q472_1'_v489 := (q472_1'.keep Kq486 nin0)
            have q472_2'_v490 := (q472_2'.keep Kq486 nin0)
            have q467_0'_v491 := (q467_0'_v487.keep Kq486)
            have q467_1'_v492 := ((q467_1'.keep Kq472 (ninS (Ne.symm ne_b454_b467_0) nin0)).keep Kq486 nin0)
            have q467_2'_v493 := ((q467_2'.keep Kq472 (ninS (Ne.symm ne_b454_b467_0) nin0)).keep Kq486 nin0)
            have q467_3'_v494 := (q467_3'_v488.keep Kq486 nin0)
            have S_COMPACT_STRINGS_v495 := (own_staKeep S_COMPACT_STRINGS_v485 Kq486 all0)
            have q472_0'_v497 := (q472_0'.keep Kq486)
            refine own_callV X486 hx hZ (y := (⟨"com/example/weaverbird/weaverbird/automaton/HoaLexer$Token", "is", "(Lcom/example/weaverbird/weaverbird/automaton/HoaLexer$Type;Ljava/lang/String;)Z"⟩ : MethodName)) (z := (⟨"com/example/weaverbird/weaverbird/automaton/HoaLexer$Token", "is", "(Lcom/example/weaverbird/weaverbird/automaton/HoaLexer$Type;Ljava/lang/String;)Z"⟩ : MethodName)) hown (hw _ (List.mem_of_getElem? (i := 53) rfl)) (hw _ (List.mem_of_getElem? (i := 54) rfl)) (notFace_of_selects (args := #[]) (mvT hZ (hw _ (List.mem_of_getElem? (i := 56) rfl)))) (hw _ (List.mem_of_getElem? (i := 56) rfl)) (hw _ (List.mem_of_getElem? (i := 55) rfl)) (hw _ (List.mem_of_getElem? (i := 57) rfl)) (hw _ (List.mem_of_getElem? (i := 3) rfl)) (by decide) 0 q472_0'_v497 [(.ref y2), (.ref b486_0)] [] (own_is_21len l Z a0 hw [] b454 y2 b486_0 y1 b467_0 b467_1 b486_1 k467_0 k486_0 (c0.toInt8.toInt32) (c1.toInt8.toInt32) (d0.toInt8.toInt32) zc T486.heap n0 (Nat.le_trans Z0 K486.1) q472_1'_v489 q472_2'_v490 q467_0'_v491 q486_0' q467_1'_v492 q486_1' q467_2'_v493 q486_2' q467_3'_v494 q486_3' S_COMPACT_STRINGS_v495 (hyeq hc146_473) hz ne_b467_0_b486_0) rfl  (by decide) (by decide) (by decide) (by decide) (g := (mkF m 205 #[.val (.int p1), .val (.int p2), .val (.int p3), .val (.int p4), .val (.int p5), .val (.int p6), .val (.int i1), .val (.int i2), .val (.int c0), .val (.int c1), .val (.int d0), .val (.int d1), .val (.int (2 : Int32)), .val (.int (1 : Int32)), .val (.ref b454), .val (.int (0 : Int32))] [(.ref b486_0), (.ref y2), (.ref b454)])) rfl (by rw [hml]; rfl) own_pd11 rfl rfl (by show 2 * 0 + _ ≤ _; exact Nat.le_of_eq rfl) (hb hby at_205) ?_
            intro T496 v496 L496 X496 hQ496
            obtain ⟨rfl, N496q, e496⟩ := hQ496
            have N496 := Fr.app N486 N496q
            refine own_step (fun t k => XS.iload X496.here hx rfl (hb hby at_208) rfl k) ?_
            show own_Goes _ _ _ _ T496 (mkF m 210 #[.val (.int p1), .val (.int p2), .val (.int p3), .val (.int p4), .val (.int p5), .val (.int p6), .val (.int i1), .val (.int i2), .val (.int c0), .val (.int c1), .val (.int d0), .val (.int d1), .val (.int (2 : Int32)), .val (.int (1 : Int32)), .val (.ref b454), .val (.int (0 : Int32))] [(.int (0 : Int32)), (.int (0 : Int32))])
            refine own_step (fun t k => XS.icmpNo X496.here hx rfl (hb hby at_210) rfl (teq (show (0 : Int32) = (0 : Int32) from (by decide))).2 k) ?_
            refine own_step (fun t k => XS.iconst X496.here hx rfl (hb hby at_213) k) ?_
            refine own_step (fun t k => XS.goto X496.here hx rfl (pc0 := 214) (pc' := 218) rfl (hb hby at_214) (by decide) (by decide) k) ?_
            show own_Goes _ _ _ _ T496 (mkF m 218 #[.val (.int p1), .val (.int p2), .val (.int p3), .val (.int p4), .val (.int p5), .val (.int p6), .val (.int i1), .val (.int i2), .val (.int c0), .val (.int c1), .val (.int d0), .val (.int d1), .val (.int (2 : Int32)), .val (.int (1 : Int32)), .val (.ref b454), .val (.int (0 : Int32))] [(.int (1 : Int32))])
            exact own_outW X496 hlk HS0 (Nat.le_trans (Nat.le_trans (Nat.le_trans (Nat.le_trans (Nat.le_refl _) E454.1) Kq467.1) Kq472.1) Kq486.1) hZ hEL e496 HC486 RC486 (v := some (.int (nar .boolean (1 : Int32)))) (fun q => by rw [hrt] at q; cases q) (fun fs hr => retN X496 hx (t := .boolean) hrt (by simp) (hb hby at_218) hr) ⟨rfl, N496⟩ (by decide) (by decide)
          · refine own_step (fun t k => XS.icmpYes X472.here hx rfl (pc0 := 146) (pc' := 186) rfl (hb hby at_146) rfl (feq (show ¬ (i1 = i2) from hc146_473)).2 (by decide) (by decide) k) ?_
            refine own_step (fun t k => XS.iconst X472.here hx rfl (hb hby at_186) k) ?_
            refine own_step (fun t k => XS.istore X472.here hx rfl (hb hby at_187) rfl (l' := #[.val (.int p1), .val (.int p2), .val (.int p3), .val (.int p4), .val (.int p5), .val (.int p6), .val (.int i1), .val (.int i2), .val (.int c0), .val (.int c1), .val (.int d0), .val (.int d1), .val (.int (2 : Int32)), .val (.int (1 : Int32)), .val (.ref b454), .val (.int (0 : Int32))]) rfl k) ?_
            refine own_step (fun t k => XS.aload X472.here hx rfl (hb hby at_189) rfl rfl k) ?_
            refine own_step (fun t k => XS.iload X472.here hx rfl (hb hby at_191) rfl k) ?_
            show own_Goes _ _ _ _ T472 (mkF m 193 #[.val (.int p1), .val (.int p2), .val (.int p3), .val (.int p4), .val (.int p5), .val (.int p6), .val (.int i1), .val (.int i2), .val (.int c0), .val (.int c1), .val (.int d0), .val (.int d1), .val (.int (2 : Int32)), .val (.int (1 : Int32)), .val (.ref b454), .val (.int (0 : Int32))] [(.int i2), (.ref b454)])
            have S_HEADER_v498 := (own_staKeep (own_staKeep S_HEADER_v455 Kq467 all0) Kq472 (allS (own_plainE A454_v468) all0))
            have S_IDENTIFIER_v499 := (own_staKeep (own_staKeep S_IDENTIFIER_v456 Kq467 all0) Kq472 (allS (own_plainE A454_v468) all0))
            have S_NUMBER_v500 := (own_staKeep (own_staKeep S_NUMBER_v457 Kq467 all0) Kq472 (allS (own_plainE A454_v468) all0))
            have S_STRING_v501 := (own_staKeep (own_staKeep S_STRING_v458 Kq467 all0) Kq472 (allS (own_plainE A454_v468) all0))
            have S_ALIAS_v502 := (own_staKeep (own_staKeep S_ALIAS_v459 Kq467 all0) Kq472 (allS (own_plainE A454_v468) all0))
            have S_SYMBOL_v503 := (own_staKeep (own_staKeep S_SYMBOL_v460 Kq467 all0) Kq472 (allS (own_plainE A454_v468) all0))
            have S_BODY_v504 := (own_staKeep (own_staKeep S_BODY_v461 Kq467 all0) Kq472 (allS (own_plainE A454_v468) all0))
            have S_END_v505 := (own_staKeep (own_staKeep S_END_v462 Kq467 all0) Kq472 (allS (own_plainE A454_v468) all0))
            have S_ABORT_v506 := (own_staKeep (own_staKeep S_ABORT_v463 Kq467 all0) Kq472 (allS (own_plainE A454_v468) all0))
            have S_EOF_v507 := (own_staKeep (own_staKeep S_EOF_v464 Kq467 all0) Kq472 (allS (own_plainE A454_v468) all0))
            refine own_callS X472 hx hZ (y := (⟨"com/example/weaverbird/weaverbird/automaton/TokenIsPinLaw", "type", "(I)Lcom/example/weaverbird/weaverbird/automaton/HoaLexer$Type;"⟩ : MethodName)) hown (hw _ (List.mem_of_getElem? (i := 4) rfl)) (hw _ (List.mem_of_getElem? (i := 5) rfl)) (hw _ (List.mem_of_getElem? (i := 6) rfl)) (hw _ (List.mem_of_getElem? (i := 7) rfl)) (by decide) 1 [(.int i2)] [(.ref b454)] (own_type l Z a0 hw [] i2 y2 w_HEADER w_IDENTIFIER w_NUMBER w_STRING w_ALIAS w_SYMBOL w_BODY w_END w_ABORT w_EOF T472.heap n0 (Nat.le_trans Z0 K472.1) S_HEADER_v498 S_IDENTIFIER_v499 S_NUMBER_v500 S_STRING_v501 S_ALIAS_v502 S_SYMBOL_v503 S_BODY_v504 S_END_v505 S_ABORT_v506 S_EOF_v507 hy2) rfl  (by decide) (by decide) (by decide) (by decide) (g := (mkF m 193 #[.val (.int p1), .val (.int p2), .val (.int p3), .val (.int p4), .val (.int p5), .val (.int p6), .val (.int i1), .val (.int i2), .val (.int c0), .val (.int c1), .val (.int d0), .val (.int d1), .val (.int (2 : Int32)), .val (.int (1 : Int32)), .val (.ref b454), .val (.int (0 : Int32))] [(.int i2), (.ref b454)])) rfl (by rw [hml]; rfl) own_pd8 rfl rfl (by show 2 * 0 + _ ≤ _; exact Nat.le_of_eq rfl) (hb hby at_193) ?_
            intro T508 v508 L508 X508 hQ508
            obtain ⟨rfl, N508q, e508⟩ := hQ508
            have N508 := Fr.app N472 N508q
            refine own_step (fun t k => XS.iload X508.here hx rfl (hb hby at_196) rfl k) ?_
            refine own_step (fun t k => XS.iload X508.here hx rfl (hb hby at_198) rfl k) ?_
            refine own_step (fun t k => XS.iload X508.here hx rfl (hb hby at_200) rfl k) ?_
            show own_Goes _ _ _ _ T508 (mkF m 202 #[.val (.int p1), .val (.int p2), .val (.int p3), .val (.int p4), .val (.int p5), .val (.int p6), .val (.int i1), .val (.int i2), .val (.int c0), .val (.int c1), .val (.int d0), .val (.int d1), .val (.int (2 : Int32)), .val (.int (1 : Int32)), .val (.ref b454), .val (.int (0 : Int32))] [(.int d1), (.int d0), (.int (1 : Int32)), (.ref y2), (.ref b454)])
            have S_COMPACT_STRINGS_v509 := (own_staKeep (own_staKeep S_COMPACT_STRINGS_v466 Kq467 all0) Kq472 (allS (own_plainE A454_v468) all0))
            refine own_callS X508 hx hZ (y := (⟨"com/example/weaverbird/weaverbird/automaton/TokenIsPinLaw", "str", "(ICC)Ljava/lang/String;"⟩ : MethodName)) hown (hw _ (List.mem_of_getElem? (i := 11) rfl)) (hw _ (List.mem_of_getElem? (i := 12) rfl)) (hw _ (List.mem_of_getElem? (i := 6) rfl)) (hw _ (List.mem_of_getElem? (i := 13) rfl)) (by decide) 2 [(.int (1 : Int32)), (.int d0), (.int d1)] [(.ref y2), (.ref b454)] (own_str1 l Z a0 hw [] d0 d1 zc T472.heap n0 (Nat.le_trans Z0 K472.1) S_COMPACT_STRINGS_v509 hd0a hd0b hz) e508  (by decide) (by decide) (by decide) (by decide) (g := (mkF m 202 #[.val (.int p1), .val (.int p2), .val (.int p3), .val (.int p4), .val (.int p5), .val (.int p6), .val (.int i1), .val (.int i2), .val (.int c0), .val (.int c1), .val (.int d0), .val (.int d1), .val (.int (2 : Int32)), .val (.int (1 : Int32)), .val (.ref b454), .val (.int (0 : Int32))] [(.int d1), (.int d0), (.int (1 : Int32)), (.ref y2), (.ref b454)])) rfl (by rw [hml]; rfl) own_pd9 rfl rfl (by show 2 * 0 + _ ≤ _; exact Nat.le_of_eq rfl) (hb hby at_202) ?_
            intro T510 v510 L510 X510 hQ510
            have q467_0'_v511 := (q467_0'.keep Kq472)
            have q467_3'_v512 := (q467_3'.keep Kq472 (ninS (Ne.symm ne_b454_b467_1) nin0))
            obtain ⟨b510_0, b510_1, k510_0, rfl, N510q, Kq510, zq510_0, zq510_1, q510_0, q510_1, q510_2, q510_3⟩ := hQ510
            have N510 := Fr.app N508 N510q
            have K510 := K472.trans Kq510 all0
            have g_b510_0 : n0 ≤ b510_0 := Nat.le_trans (Nat.le_trans Z0 K472.1) zq510_0
            have sz_b510_0 : h0.size ≤ b510_0 := Nat.le_trans K472.1 zq510_0
            have ne_b454_b510_0 : b454 ≠ b510_0 := Nat.ne_of_lt (Nat.lt_of_lt_of_le q472_0'.lt zq510_0)
            have ne_b467_0_b510_0 : b467_0 ≠ b510_0 := Nat.ne_of_lt (Nat.lt_of_lt_of_le q467_0'_v511.lt zq510_0)
            have ne_b467_1_b510_0 : b467_1 ≠ b510_0 := Nat.ne_of_lt (Nat.lt_of_lt_of_le q467_3'_v512.lt zq510_0)
            have g_b510_1 : n0 ≤ b510_1 := Nat.le_trans (Nat.le_trans Z0 K472.1) zq510_1
            have sz_b510_1 : h0.size ≤ b510_1 := Nat.le_trans K472.1 zq510_1
            have ne_b454_b510_1 : b454 ≠ b510_1 := Nat.ne_of_lt (Nat.lt_of_lt_of_le q472_0'.lt zq510_1)
            have ne_b467_0_b510_1 : b467_0 ≠ b510_1 := Nat.ne_of_lt (Nat.lt_of_lt_of_le q467_0'_v511.lt zq510_1)
            have ne_b467_1_b510_1 : b467_1 ≠ b510_1 := Nat.ne_of_lt (Nat.lt_of_lt_of_le q467_3'_v512.lt zq510_1)
            have RC510 := RC472.trans (CHr.keep Kq510 all0 HC472)
            have HC510 := CHv.keep Kq510 all0 HC472
            have q510_0' : Exa Z T510.heap b510_0 "java/lang/String" := q510_0
            have q510_1' : Fld Z T510.heap b510_0 "java/lang/String" "coder" "B" (.int (0 : Int32)) := q510_1
            have q510_2' : Fld Z T510.heap b510_0 "java/lang/String" "value" "[B" (.ref b510_1) := q510_2
            have q510_3' : Arv Z T510.heap b510_1 k510_0 .byte (1 : Int32) [(.int (d0.toInt8.toInt32))] (.int (0 : Int32)) := q510_3
            show own_Goes _ _ _ _ T510 (mkF m 205 #[.val (.int p1), .val (.int p2), .val (.int p3), .val (.int p4), .val (.int p5), .val (.int p6), .val (.int i1), .val (.int i2), .val (.int c0), .val (.int c1), .val (.int d0), .val (.int d1), .val (.int (2 : Int32)), .val (.int (1 : Int32)), .val (.ref b454), .val (.int (0 : Int32))] [(.ref b510_0), (.ref y2), (.ref b454)])
            have q472_1'_v513 := (q472_1'.keep Kq510 nin0)
            have q472_0'_v515 := (q472_0'.keep Kq510)
            refine own_callV X510 hx hZ (y := (⟨"com/example/weaverbird/weaverbird/automaton/HoaLexer$Token", "is", "(Lcom/example/weaverbird/weaverbird/automaton/HoaLexer$Type;Ljava/lang/String;)Z"⟩ : MethodName)) (z := (⟨"com/example/weaverbird/weaverbird/automaton/HoaLexer$Token", "is", "(Lcom/example/weaverbird/weaverbird/automaton/HoaLexer$Type;Ljava/lang/String;)Z"⟩ : MethodName)) hown (hw _ (List.mem_of_getElem? (i := 53) rfl)) (hw _ (List.mem_of_getElem? (i := 54) rfl)) (notFace_of_selects (args := #[]) (mvT hZ (hw _ (List.mem_of_getElem? (i := 56) rfl)))) (hw _ (List.mem_of_getElem? (i := 56) rfl)) (hw _ (List.mem_of_getElem? (i := 55) rfl)) (hw _ (List.mem_of_getElem? (i := 57) rfl)) (hw _ (List.mem_of_getElem? (i := 3) rfl)) (by decide) 0 q472_0'_v515 [(.ref y2), (.ref b510_0)] [] (own_is_ne l Z a0 hw [] b454 y2 b510_0 y1 T510.heap n0 (Nat.le_trans Z0 K510.1) q472_1'_v513 (hyne hc146_473)) rfl  (by decide) (by decide) (by decide) (by decide) (g := (mkF m 205 #[.val (.int p1), .val (.int p2), .val (.int p3), .val (.int p4), .val (.int p5), .val (.int p6), .val (.int i1), .val (.int i2), .val (.int c0), .val (.int c1), .val (.int d0), .val (.int d1), .val (.int (2 : Int32)), .val (.int (1 : Int32)), .val (.ref b454), .val (.int (0 : Int32))] [(.ref b510_0), (.ref y2), (.ref b454)])) rfl (by rw [hml]; rfl) own_pd11 rfl rfl (by show 2 * 0 + _ ≤ _; exact Nat.le_of_eq rfl) (hb hby at_205) ?_
            intro T514 v514 L514 X514 hQ514
            obtain ⟨rfl, N514q, e514⟩ := hQ514
            have N514 := Fr.app N510 N514q
            refine own_step (fun t k => XS.iload X514.here hx rfl (hb hby at_208) rfl k) ?_
            show own_Goes _ _ _ _ T514 (mkF m 210 #[.val (.int p1), .val (.int p2), .val (.int p3), .val (.int p4), .val (.int p5), .val (.int p6), .val (.int i1), .val (.int i2), .val (.int c0), .val (.int c1), .val (.int d0), .val (.int d1), .val (.int (2 : Int32)), .val (.int (1 : Int32)), .val (.ref b454), .val (.int (0 : Int32))] [(.int (0 : Int32)), (.int (0 : Int32))])
            refine own_step (fun t k => XS.icmpNo X514.here hx rfl (hb hby at_210) rfl (teq (show (0 : Int32) = (0 : Int32) from (by decide))).2 k) ?_
            refine own_step (fun t k => XS.iconst X514.here hx rfl (hb hby at_213) k) ?_
            refine own_step (fun t k => XS.goto X514.here hx rfl (pc0 := 214) (pc' := 218) rfl (hb hby at_214) (by decide) (by decide) k) ?_
            show own_Goes _ _ _ _ T514 (mkF m 218 #[.val (.int p1), .val (.int p2), .val (.int p3), .val (.int p4), .val (.int p5), .val (.int p6), .val (.int i1), .val (.int i2), .val (.int c0), .val (.int c1), .val (.int d0), .val (.int d1), .val (.int (2 : Int32)), .val (.int (1 : Int32)), .val (.ref b454), .val (.int (0 : Int32))] [(.int (1 : Int32))])
            exact own_outW X514 hlk HS0 (Nat.le_trans (Nat.le_trans (Nat.le_trans (Nat.le_trans (Nat.le_refl _) E454.1) Kq467.1) Kq472.1) Kq510.1) hZ hEL e514 HC510 RC510 (v := some (.int (nar .boolean (1 : Int32)))) (fun q => by rw [hrt] at q; cases q) (fun fs hr => retN X514 hx (t := .boolean) hrt (by simp) (hb hby at_218) hr) ⟨rfl, N514⟩ (by decide) (by decide)
        · show own_Goes _ _ _ _ s₁ (mkF m 117 #[.val (.int p1), .val (.int p2), .val (.int p3), .val (.int p4), .val (.int p5), .val (.int p6), .val (.int i1), .val (.int i2), .val (.int c0), .val (.int c1), .val (.int d0), .val (.int d1), .val (.int (2 : Int32)), .val (.int (2 : Int32)), .unset, .unset] [])
          obtain ⟨T516, h516, X516, e516, E516, A516, D516, -, st516⟩ := newO X0 hx hZ hown (hw _ (List.mem_of_getElem? (i := 1) rfl)) (hw _ (List.mem_of_getElem? (i := 2) rfl)) (hw _ (List.mem_of_getElem? (i := 3) rfl)) e0 (g := (mkF m 117 #[.val (.int p1), .val (.int p2), .val (.int p3), .val (.int p4), .val (.int p5), .val (.int p6), .val (.int i1), .val (.int i2), .val (.int c0), .val (.int c1), .val (.int d0), .val (.int d1), .val (.int (2 : Int32)), .val (.int (2 : Int32)), .unset, .unset] [])) rfl (hb hby at_117) (by decide) (by decide)
          obtain ⟨b516, g516⟩ : ∃ z, z = h0.size := ⟨_, rfl⟩
          rw [← g516] at A516 D516 st516
          refine own_step st516 ?_
          have g_b516 : n0 ≤ b516 := Nat.le_trans Z0 (Nat.le_of_eq g516.symm)
          have sz_b516 : h0.size ≤ b516 := Nat.le_trans (Keep.refl h0 []).1 (Nat.le_of_eq g516.symm)
          have K516 := (Keep.refl h0 []).ext E516
          have RC516 := RC0.trans (CHr.ext E516 HC0)
          have HC516 := CHv.ext E516 HC0
          have F_b516_type : Fld Z h516 b516 "com/example/weaverbird/weaverbird/automaton/HoaLexer$Token" "type" "Lcom/example/weaverbird/weaverbird/automaton/HoaLexer$Type;" .null := D516 (Or.inr (hw _ (List.mem_of_getElem? (i := 46) rfl))) (ty := (.object "com/example/weaverbird/weaverbird/automaton/HoaLexer$Type")) (by decide)
          have F_b516_text : Fld Z h516 b516 "com/example/weaverbird/weaverbird/automaton/HoaLexer$Token" "text" "Ljava/lang/String;" .null := D516 (Or.inr (hw _ (List.mem_of_getElem? (i := 48) rfl))) (ty := (.object "java/lang/String")) (by decide)
          have F_b516_line : Fld Z h516 b516 "com/example/weaverbird/weaverbird/automaton/HoaLexer$Token" "line" "I" (.int (0 : Int32)) := D516 (Or.inr (hw _ (List.mem_of_getElem? (i := 50) rfl))) (ty := .int) (by decide)
          refine own_step (fun t k => XS.dup X516.here hx rfl (hb hby at_120) rfl rfl k) ?_
          refine own_step (fun t k => XS.iload X516.here hx rfl (hb hby at_121) rfl k) ?_
          show own_Goes _ _ _ _ T516 (mkF m 123 #[.val (.int p1), .val (.int p2), .val (.int p3), .val (.int p4), .val (.int p5), .val (.int p6), .val (.int i1), .val (.int i2), .val (.int c0), .val (.int c1), .val (.int d0), .val (.int d1), .val (.int (2 : Int32)), .val (.int (2 : Int32)), .unset, .unset] [(.int i1), (.ref b516), (.ref b516)])
          have S_HEADER_v517 := (S_HEADER.ext E516)
          have S_IDENTIFIER_v518 := (S_IDENTIFIER.ext E516)
          have S_NUMBER_v519 := (S_NUMBER.ext E516)
          have S_STRING_v520 := (S_STRING.ext E516)
          have S_ALIAS_v521 := (S_ALIAS.ext E516)
          have S_SYMBOL_v522 := (S_SYMBOL.ext E516)
          have S_BODY_v523 := (S_BODY.ext E516)
          have S_END_v524 := (S_END.ext E516)
          have S_ABORT_v525 := (S_ABORT.ext E516)
          have S_EOF_v526 := (S_EOF.ext E516)
          refine own_callS X516 hx hZ (y := (⟨"com/example/weaverbird/weaverbird/automaton/TokenIsPinLaw", "type", "(I)Lcom/example/weaverbird/weaverbird/automaton/HoaLexer$Type;"⟩ : MethodName)) hown (hw _ (List.mem_of_getElem? (i := 4) rfl)) (hw _ (List.mem_of_getElem? (i := 5) rfl)) (hw _ (List.mem_of_getElem? (i := 6) rfl)) (hw _ (List.mem_of_getElem? (i := 7) rfl)) (by decide) 2 [(.int i1)] [(.ref b516), (.ref b516)] (own_type l Z a0 hw [] i1 y1 w_HEADER w_IDENTIFIER w_NUMBER w_STRING w_ALIAS w_SYMBOL w_BODY w_END w_ABORT w_EOF h516 n0 (Nat.le_trans Z0 K516.1) S_HEADER_v517 S_IDENTIFIER_v518 S_NUMBER_v519 S_STRING_v520 S_ALIAS_v521 S_SYMBOL_v522 S_BODY_v523 S_END_v524 S_ABORT_v525 S_EOF_v526 hy1) e516  (by decide) (by decide) (by decide) (by decide) (g := (mkF m 123 #[.val (.int p1), .val (.int p2), .val (.int p3), .val (.int p4), .val (.int p5), .val (.int p6), .val (.int i1), .val (.int i2), .val (.int c0), .val (.int c1), .val (.int d0), .val (.int d1), .val (.int (2 : Int32)), .val (.int (2 : Int32)), .unset, .unset] [(.int i1), (.ref b516), (.ref b516)])) rfl (by rw [hml]; rfl) own_pd8 rfl rfl (by show 2 * 0 + _ ≤ _; exact Nat.le_of_eq rfl) (hb hby at_123) ?_
          intro T527 v527 L527 X527 hQ527
          obtain ⟨rfl, N527q, e527⟩ := hQ527
          have N527 := Fr.app N0 N527q
          refine own_step (fun t k => XS.iload X527.here hx rfl (hb hby at_126) rfl k) ?_
          refine own_step (fun t k => XS.iload X527.here hx rfl (hb hby at_128) rfl k) ?_
          refine own_step (fun t k => XS.iload X527.here hx rfl (hb hby at_130) rfl k) ?_
          show own_Goes _ _ _ _ T527 (mkF m 132 #[.val (.int p1), .val (.int p2), .val (.int p3), .val (.int p4), .val (.int p5), .val (.int p6), .val (.int i1), .val (.int i2), .val (.int c0), .val (.int c1), .val (.int d0), .val (.int d1), .val (.int (2 : Int32)), .val (.int (2 : Int32)), .unset, .unset] [(.int c1), (.int c0), (.int (2 : Int32)), (.ref y1), (.ref b516), (.ref b516)])
          have S_COMPACT_STRINGS_v528 := (S_COMPACT_STRINGS.ext E516)
          refine own_callS X527 hx hZ (y := (⟨"com/example/weaverbird/weaverbird/automaton/TokenIsPinLaw", "str", "(ICC)Ljava/lang/String;"⟩ : MethodName)) hown (hw _ (List.mem_of_getElem? (i := 11) rfl)) (hw _ (List.mem_of_getElem? (i := 12) rfl)) (hw _ (List.mem_of_getElem? (i := 6) rfl)) (hw _ (List.mem_of_getElem? (i := 13) rfl)) (by decide) 3 [(.int (2 : Int32)), (.int c0), (.int c1)] [(.ref y1), (.ref b516), (.ref b516)] (own_str2 l Z a0 hw [] c0 c1 zc h516 n0 (Nat.le_trans Z0 K516.1) S_COMPACT_STRINGS_v528 hc0a hc0b hc1a hc1b hz) e527  (by decide) (by decide) (by decide) (by decide) (g := (mkF m 132 #[.val (.int p1), .val (.int p2), .val (.int p3), .val (.int p4), .val (.int p5), .val (.int p6), .val (.int i1), .val (.int i2), .val (.int c0), .val (.int c1), .val (.int d0), .val (.int d1), .val (.int (2 : Int32)), .val (.int (2 : Int32)), .unset, .unset] [(.int c1), (.int c0), (.int (2 : Int32)), (.ref y1), (.ref b516), (.ref b516)])) rfl (by rw [hml]; rfl) own_pd9 rfl rfl (by show 2 * 0 + _ ≤ _; exact Nat.le_of_eq rfl) (hb hby at_132) ?_
          intro T529 v529 L529 X529 hQ529
          obtain ⟨b529_0, b529_1, k529_0, rfl, N529q, Kq529, zq529_0, zq529_1, q529_0, q529_1, q529_2, q529_3⟩ := hQ529
          have N529 := Fr.app N527 N529q
          have K529 := K516.trans Kq529 all0
          have g_b529_0 : n0 ≤ b529_0 := Nat.le_trans (Nat.le_trans Z0 K516.1) zq529_0
          have sz_b529_0 : h0.size ≤ b529_0 := Nat.le_trans K516.1 zq529_0
          have ne_b516_b529_0 : b516 ≠ b529_0 := Nat.ne_of_lt (Nat.lt_of_lt_of_le A516.lt zq529_0)
          have g_b529_1 : n0 ≤ b529_1 := Nat.le_trans (Nat.le_trans Z0 K516.1) zq529_1
          have sz_b529_1 : h0.size ≤ b529_1 := Nat.le_trans K516.1 zq529_1
          have ne_b516_b529_1 : b516 ≠ b529_1 := Nat.ne_of_lt (Nat.lt_of_lt_of_le A516.lt zq529_1)
          have RC529 := RC516.trans (CHr.keep Kq529 all0 HC516)
          have HC529 := CHv.keep Kq529 all0 HC516
          have q529_0' : Exa Z T529.heap b529_0 "java/lang/String" := q529_0
          have q529_1' : Fld Z T529.heap b529_0 "java/lang/String" "coder" "B" (.int (0 : Int32)) := q529_1
          have q529_2' : Fld Z T529.heap b529_0 "java/lang/String" "value" "[B" (.ref b529_1) := q529_2
          have q529_3' : Arv Z T529.heap b529_1 k529_0 .byte (2 : Int32) [(.int (c0.toInt8.toInt32)), (.int (c1.toInt8.toInt32))] (.int (0 : Int32)) := q529_3
          refine own_step (fun t k => XS.iload X529.here hx rfl (hb hby at_135) rfl k) ?_
          show own_Goes _ _ _ _ T529 (mkF m 137 #[.val (.int p1), .val (.int p2), .val (.int p3), .val (.int p4), .val (.int p5), .val (.int p6), .val (.int i1), .val (.int i2), .val (.int c0), .val (.int c1), .val (.int d0), .val (.int d1), .val (.int (2 : Int32)), .val (.int (2 : Int32)), .unset, .unset] [(.int p6), (.ref b529_0), (.ref y1), (.ref b516), (.ref b516)])
          have A516_v530 := (A516.keep Kq529)
          have F_b516_type_v531 := (F_b516_type.keep Kq529 nin0)
          have F_b516_text_v532 := (F_b516_text.keep Kq529 nin0)
          have F_b516_line_v533 := (F_b516_line.keep Kq529 nin0)
          refine own_callC X529 hx hZ (y := (⟨"com/example/weaverbird/weaverbird/automaton/HoaLexer$Token", "<init>", "(Lcom/example/weaverbird/weaverbird/automaton/HoaLexer$Type;Ljava/lang/String;I)V"⟩ : MethodName)) rfl hown (hw _ (List.mem_of_getElem? (i := 36) rfl)) (hw _ (List.mem_of_getElem? (i := 37) rfl)) (hw _ (List.mem_of_getElem? (i := 38) rfl)) (hw _ (List.mem_of_getElem? (i := 3) rfl)) (by decide) 1 (a := b516) [(.ref y1), (.ref b529_0), (.int p6)] [(.ref b516)] (own_tinit l Z a0 hw [] b516 y1 b529_0 p6 T529.heap n0 (Nat.le_trans Z0 K529.1) A516_v530 F_b516_type_v531 F_b516_text_v532 F_b516_line_v533 g_b516) rfl  (by decide) (by decide) (by decide) (by decide) (g := (mkF m 137 #[.val (.int p1), .val (.int p2), .val (.int p3), .val (.int p4), .val (.int p5), .val (.int p6), .val (.int i1), .val (.int i2), .val (.int c0), .val (.int c1), .val (.int d0), .val (.int d1), .val (.int (2 : Int32)), .val (.int (2 : Int32)), .unset, .unset] [(.int p6), (.ref b529_0), (.ref y1), (.ref b516), (.ref b516)])) rfl (by rw [hml]; rfl) own_pd10 rfl rfl (by show 2 * 0 + _ ≤ _; exact Nat.le_of_eq rfl) (hb hby at_137) ?_
          intro T534 v534 L534 X534 hQ534
          obtain ⟨rfl, N534q, Kq534, q534_0, q534_1, q534_2⟩ := hQ534
          have N534 := Fr.app N529 N534q
          have K534 := K529.trans Kq534 (allS (Or.inr sz_b516) all0)
          have RC534 := RC529.trans (CHr.keep Kq534 (allS (Safe.exa hZ.alike A516_v530 (by decide) (by decide)) all0) HC529)
          have HC534 := CHv.keep Kq534 (allS (Safe.exa hZ.alike A516_v530 (by decide) (by decide)) all0) HC529
          have q534_0' : Exa Z T534.heap b516 "com/example/weaverbird/weaverbird/automaton/HoaLexer$Token" := q534_0
          have q534_1' : Fld Z T534.heap b516 "com/example/weaverbird/weaverbird/automaton/HoaLexer$Token" "type" "Lcom/example/weaverbird/weaverbird/automaton/HoaLexer$Type;" (.ref y1) := q534_1
          have q534_2' : Fld Z T534.heap b516 "com/example/weaverbird/weaverbird/automaton/HoaLexer$Token" "text" "Ljava/lang/String;" (.ref b529_0) := q534_2
          refine own_step (fun t k => XS.astore X534.here hx rfl (hb hby at_140) rfl rfl (l' := #[.val (.int p1), .val (.int p2), .val (.int p3), .val (.int p4), .val (.int p5), .val (.int p6), .val (.int i1), .val (.int i2), .val (.int c0), .val (.int c1), .val (.int d0), .val (.int d1), .val (.int (2 : Int32)), .val (.int (2 : Int32)), .val (.ref b516), .unset]) rfl k) ?_
          refine own_step (fun t k => XS.iload X534.here hx rfl (hb hby at_142) rfl k) ?_
          refine own_step (fun t k => XS.iload X534.here hx rfl (hb hby at_144) rfl k) ?_
          show own_Goes _ _ _ _ T534 (mkF m 146 #[.val (.int p1), .val (.int p2), .val (.int p3), .val (.int p4), .val (.int p5), .val (.int p6), .val (.int i1), .val (.int i2), .val (.int c0), .val (.int c1), .val (.int d0), .val (.int d1), .val (.int (2 : Int32)), .val (.int (2 : Int32)), .val (.ref b516), .unset] [(.int i2), (.int i1)])
          by_cases hc146_535 : i1 = i2
          · refine own_step (fun t k => XS.icmpNo X534.here hx rfl (hb hby at_146) rfl (teq (show i1 = i2 from hc146_535)).2 k) ?_
            refine own_step (fun t k => XS.iload X534.here hx rfl (hb hby at_149) rfl k) ?_
            refine own_step (fun t k => XS.iload X534.here hx rfl (hb hby at_151) rfl k) ?_
            show own_Goes _ _ _ _ T534 (mkF m 153 #[.val (.int p1), .val (.int p2), .val (.int p3), .val (.int p4), .val (.int p5), .val (.int p6), .val (.int i1), .val (.int i2), .val (.int c0), .val (.int c1), .val (.int d0), .val (.int d1), .val (.int (2 : Int32)), .val (.int (2 : Int32)), .val (.ref b516), .unset] [(.int (2 : Int32)), (.int (2 : Int32))])
            refine own_step (fun t k => XS.icmpNo X534.here hx rfl (hb hby at_153) rfl (teq (show (2 : Int32) = (2 : Int32) from (by decide))).2 k) ?_
            refine own_step (fun t k => XS.iload X534.here hx rfl (hb hby at_156) rfl k) ?_
            refine own_step (fun t k => XS.iconst X534.here hx rfl (hb hby at_158) k) ?_
            show own_Goes _ _ _ _ T534 (mkF m 159 #[.val (.int p1), .val (.int p2), .val (.int p3), .val (.int p4), .val (.int p5), .val (.int p6), .val (.int i1), .val (.int i2), .val (.int c0), .val (.int c1), .val (.int d0), .val (.int d1), .val (.int (2 : Int32)), .val (.int (2 : Int32)), .val (.ref b516), .unset] [(.int (1 : Int32)), (.int (2 : Int32))])
            refine own_step (fun t k => XS.icmpNo X534.here hx rfl (hb hby at_159) rfl (flt (show ¬ ((2 : Int32) < (1 : Int32)) from (by decide))).1 k) ?_
            refine own_step (fun t k => XS.iload X534.here hx rfl (hb hby at_162) rfl k) ?_
            refine own_step (fun t k => XS.iload X534.here hx rfl (hb hby at_164) rfl k) ?_
            show own_Goes _ _ _ _ T534 (mkF m 166 #[.val (.int p1), .val (.int p2), .val (.int p3), .val (.int p4), .val (.int p5), .val (.int p6), .val (.int i1), .val (.int i2), .val (.int c0), .val (.int c1), .val (.int d0), .val (.int d1), .val (.int (2 : Int32)), .val (.int (2 : Int32)), .val (.ref b516), .unset] [(.int d0), (.int c0)])
            by_cases hc166_536 : c0 = d0
            · refine own_step (fun t k => XS.icmpNo X534.here hx rfl (hb hby at_166) rfl (teq (show c0 = d0 from hc166_536)).2 k) ?_
              refine own_step (fun t k => XS.iload X534.here hx rfl (hb hby at_169) rfl k) ?_
              refine own_step (fun t k => XS.iconst X534.here hx rfl (hb hby at_171) k) ?_
              show own_Goes _ _ _ _ T534 (mkF m 172 #[.val (.int p1), .val (.int p2), .val (.int p3), .val (.int p4), .val (.int p5), .val (.int p6), .val (.int i1), .val (.int i2), .val (.int c0), .val (.int c1), .val (.int d0), .val (.int d1), .val (.int (2 : Int32)), .val (.int (2 : Int32)), .val (.ref b516), .unset] [(.int (2 : Int32)), (.int (2 : Int32))])
              refine own_step (fun t k => XS.icmpNo X534.here hx rfl (hb hby at_172) rfl (flt (show ¬ ((2 : Int32) < (2 : Int32)) from (by decide))).1 k) ?_
              refine own_step (fun t k => XS.iload X534.here hx rfl (hb hby at_175) rfl k) ?_
              refine own_step (fun t k => XS.iload X534.here hx rfl (hb hby at_177) rfl k) ?_
              show own_Goes _ _ _ _ T534 (mkF m 179 #[.val (.int p1), .val (.int p2), .val (.int p3), .val (.int p4), .val (.int p5), .val (.int p6), .val (.int i1), .val (.int i2), .val (.int c0), .val (.int c1), .val (.int d0), .val (.int d1), .val (.int (2 : Int32)), .val (.int (2 : Int32)), .val (.ref b516), .unset] [(.int d1), (.int c1)])
              by_cases hc179_537 : c1 = d1
              · refine own_step (fun t k => XS.icmpNo X534.here hx rfl (hb hby at_179) rfl (teq (show c1 = d1 from hc179_537)).2 k) ?_
                refine own_step (fun t k => XS.iconst X534.here hx rfl (hb hby at_182) k) ?_
                refine own_step (fun t k => XS.goto X534.here hx rfl (pc0 := 183) (pc' := 187) rfl (hb hby at_183) (by decide) (by decide) k) ?_
                refine own_step (fun t k => XS.istore X534.here hx rfl (hb hby at_187) rfl (l' := #[.val (.int p1), .val (.int p2), .val (.int p3), .val (.int p4), .val (.int p5), .val (.int p6), .val (.int i1), .val (.int i2), .val (.int c0), .val (.int c1), .val (.int d0), .val (.int d1), .val (.int (2 : Int32)), .val (.int (2 : Int32)), .val (.ref b516), .val (.int (1 : Int32))]) rfl k) ?_
                refine own_step (fun t k => XS.aload X534.here hx rfl (hb hby at_189) rfl rfl k) ?_
                show own_Goes _ _ _ _ T534 (mkF m 191 #[.val (.int p1), .val (.int p2), .val (.int p3), .val (.int p4), .val (.int p5), .val (.int p6), .val (.int i1), .val (.int i2), .val (.int c0), .val (.int c1), .val (.int d0), .val (.int d1), .val (.int (2 : Int32)), .val (.int (2 : Int32)), .val (.ref b516), .val (.int (1 : Int32))] [(.ref b516)])
                refine own_step (fun t k => XS.iload X534.here hx rfl (hb hby at_191) rfl k) ?_
                show own_Goes _ _ _ _ T534 (mkF m 193 #[.val (.int p1), .val (.int p2), .val (.int p3), .val (.int p4), .val (.int p5), .val (.int p6), .val (.int i1), .val (.int i2), .val (.int c0), .val (.int c1), .val (.int d0), .val (.int d1), .val (.int (2 : Int32)), .val (.int (2 : Int32)), .val (.ref b516), .val (.int (1 : Int32))] [(.int i2), (.ref b516)])
                have S_HEADER_v538 := (own_staKeep (own_staKeep S_HEADER_v517 Kq529 all0) Kq534 (allS (own_plainE A516_v530) all0))
                have S_IDENTIFIER_v539 := (own_staKeep (own_staKeep S_IDENTIFIER_v518 Kq529 all0) Kq534 (allS (own_plainE A516_v530) all0))
                have S_NUMBER_v540 := (own_staKeep (own_staKeep S_NUMBER_v519 Kq529 all0) Kq534 (allS (own_plainE A516_v530) all0))
                have S_STRING_v541 := (own_staKeep (own_staKeep S_STRING_v520 Kq529 all0) Kq534 (allS (own_plainE A516_v530) all0))
                have S_ALIAS_v542 := (own_staKeep (own_staKeep S_ALIAS_v521 Kq529 all0) Kq534 (allS (own_plainE A516_v530) all0))
                have S_SYMBOL_v543 := (own_staKeep (own_staKeep S_SYMBOL_v522 Kq529 all0) Kq534 (allS (own_plainE A516_v530) all0))
                have S_BODY_v544 := (own_staKeep (own_staKeep S_BODY_v523 Kq529 all0) Kq534 (allS (own_plainE A516_v530) all0))
                have S_END_v545 := (own_staKeep (own_staKeep S_END_v524 Kq529 all0) Kq534 (allS (own_plainE A516_v530) all0))
                have S_ABORT_v546 := (own_staKeep (own_staKeep S_ABORT_v525 Kq529 all0) Kq534 (allS (own_plainE A516_v530) all0))
                have S_EOF_v547 := (own_staKeep (own_staKeep S_EOF_v526 Kq529 all0) Kq534 (allS (own_plainE A516_v530) all0))
                refine own_callS X534 hx hZ (y := (⟨"com/example/weaverbird/weaverbird/automaton/TokenIsPinLaw", "type", "(I)Lcom/example/weaverbird/weaverbird/automaton/HoaLexer$Type;"⟩ : MethodName)) hown (hw _ (List.mem_of_getElem? (i := 4) rfl)) (hw _ (List.mem_of_getElem? (i := 5) rfl)) (hw _ (List.mem_of_getElem? (i := 6) rfl)) (hw _ (List.mem_of_getElem? (i := 7) rfl)) (by decide) 1 [(.int i2)] [(.ref b516)] (own_type l Z a0 hw [] i2 y2 w_HEADER w_IDENTIFIER w_NUMBER w_STRING w_ALIAS w_SYMBOL w_BODY w_END w_ABORT w_EOF T534.heap n0 (Nat.le_trans Z0 K534.1) S_HEADER_v538 S_IDENTIFIER_v539 S_NUMBER_v540 S_STRING_v541 S_ALIAS_v542 S_SYMBOL_v543 S_BODY_v544 S_END_v545 S_ABORT_v546 S_EOF_v547 hy2) rfl  (by decide) (by decide) (by decide) (by decide) (g := (mkF m 193 #[.val (.int p1), .val (.int p2), .val (.int p3), .val (.int p4), .val (.int p5), .val (.int p6), .val (.int i1), .val (.int i2), .val (.int c0), .val (.int c1), .val (.int d0), .val (.int d1), .val (.int (2 : Int32)), .val (.int (2 : Int32)), .val (.ref b516), .val (.int (1 : Int32))] [(.int i2), (.ref b516)])) rfl (by rw [hml]; rfl) own_pd8 rfl rfl (by show 2 * 0 + _ ≤ _; exact Nat.le_of_eq rfl) (hb hby at_193) ?_
                intro T548 v548 L548 X548 hQ548
                obtain ⟨rfl, N548q, e548⟩ := hQ548
                have N548 := Fr.app N534 N548q
                refine own_step (fun t k => XS.iload X548.here hx rfl (hb hby at_196) rfl k) ?_
                refine own_step (fun t k => XS.iload X548.here hx rfl (hb hby at_198) rfl k) ?_
                refine own_step (fun t k => XS.iload X548.here hx rfl (hb hby at_200) rfl k) ?_
                show own_Goes _ _ _ _ T548 (mkF m 202 #[.val (.int p1), .val (.int p2), .val (.int p3), .val (.int p4), .val (.int p5), .val (.int p6), .val (.int i1), .val (.int i2), .val (.int c0), .val (.int c1), .val (.int d0), .val (.int d1), .val (.int (2 : Int32)), .val (.int (2 : Int32)), .val (.ref b516), .val (.int (1 : Int32))] [(.int d1), (.int d0), (.int (2 : Int32)), (.ref y2), (.ref b516)])
                have S_COMPACT_STRINGS_v549 := (own_staKeep (own_staKeep S_COMPACT_STRINGS_v528 Kq529 all0) Kq534 (allS (own_plainE A516_v530) all0))
                refine own_callS X548 hx hZ (y := (⟨"com/example/weaverbird/weaverbird/automaton/TokenIsPinLaw", "str", "(ICC)Ljava/lang/String;"⟩ : MethodName)) hown (hw _ (List.mem_of_getElem? (i := 11) rfl)) (hw _ (List.mem_of_getElem? (i := 12) rfl)) (hw _ (List.mem_of_getElem? (i := 6) rfl)) (hw _ (List.mem_of_getElem? (i := 13) rfl)) (by decide) 2 [(.int (2 : Int32)), (.int d0), (.int d1)] [(.ref y2), (.ref b516)] (own_str2 l Z a0 hw [] d0 d1 zc T534.heap n0 (Nat.le_trans Z0 K534.1) S_COMPACT_STRINGS_v549 hd0a hd0b hd1a hd1b hz) e548  (by decide) (by decide) (by decide) (by decide) (g := (mkF m 202 #[.val (.int p1), .val (.int p2), .val (.int p3), .val (.int p4), .val (.int p5), .val (.int p6), .val (.int i1), .val (.int i2), .val (.int c0), .val (.int c1), .val (.int d0), .val (.int d1), .val (.int (2 : Int32)), .val (.int (2 : Int32)), .val (.ref b516), .val (.int (1 : Int32))] [(.int d1), (.int d0), (.int (2 : Int32)), (.ref y2), (.ref b516)])) rfl (by rw [hml]; rfl) own_pd9 rfl rfl (by show 2 * 0 + _ ≤ _; exact Nat.le_of_eq rfl) (hb hby at_202) ?_
                intro T550 v550 L550 X550 hQ550
                have q529_0'_v551 := (q529_0'.keep Kq534)
                have q529_3'_v552 := (q529_3'.keep Kq534 (ninS (Ne.symm ne_b516_b529_1) nin0))
                obtain ⟨b550_0, b550_1, k550_0, rfl, N550q, Kq550, zq550_0, zq550_1, q550_0, q550_1, q550_2, q550_3⟩ := hQ550
                have N550 := Fr.app N548 N550q
                have K550 := K534.trans Kq550 all0
                have g_b550_0 : n0 ≤ b550_0 := Nat.le_trans (Nat.le_trans Z0 K534.1) zq550_0
                have sz_b550_0 : h0.size ≤ b550_0 := Nat.le_trans K534.1 zq550_0
                have ne_b516_b550_0 : b516 ≠ b550_0 := Nat.ne_of_lt (Nat.lt_of_lt_of_le q534_0'.lt zq550_0)
                have ne_b529_0_b550_0 : b529_0 ≠ b550_0 := Nat.ne_of_lt (Nat.lt_of_lt_of_le q529_0'_v551.lt zq550_0)
                have ne_b529_1_b550_0 : b529_1 ≠ b550_0 := Nat.ne_of_lt (Nat.lt_of_lt_of_le q529_3'_v552.lt zq550_0)
                have g_b550_1 : n0 ≤ b550_1 := Nat.le_trans (Nat.le_trans Z0 K534.1) zq550_1
                have sz_b550_1 : h0.size ≤ b550_1 := Nat.le_trans K534.1 zq550_1
                have ne_b516_b550_1 : b516 ≠ b550_1 := Nat.ne_of_lt (Nat.lt_of_lt_of_le q534_0'.lt zq550_1)
                have ne_b529_0_b550_1 : b529_0 ≠ b550_1 := Nat.ne_of_lt (Nat.lt_of_lt_of_le q529_0'_v551.lt zq550_1)
                have ne_b529_1_b550_1 : b529_1 ≠ b550_1 := Nat.ne_of_lt (Nat.lt_of_lt_of_le q529_3'_v552.lt zq550_1)
                have RC550 := RC534.trans (CHr.keep Kq550 all0 HC534)
                have HC550 := CHv.keep Kq550 all0 HC534
                have q550_0' : Exa Z T550.heap b550_0 "java/lang/String" := q550_0
                have q550_1' : Fld Z T550.heap b550_0 "java/lang/String" "coder" "B" (.int (0 : Int32)) := q550_1
                have q550_2' : Fld Z T550.heap b550_0 "java/lang/String" "value" "[B" (.ref b550_1) := q550_2
                have q550_3' : Arv Z T550.heap b550_1 k550_0 .byte (2 : Int32) [(.int (d0.toInt8.toInt32)), (.int (d1.toInt8.toInt32))] (.int (0 : Int32)) := q550_3
                show own_Goes _ _ _ _ T550 (mkF m 205 #[.val (.int p1), .val (.int p2), .val (.int p3), .val (.int p4), .val (.int p5), .val (.int p6), .val (.int i1), .val (.int i2), .val (.int c0), .val (.int c1), .val (.int d0), .val (.int d1), .val (.int (2 : Int32)), .val (.int (2 : Int32)), .val (.ref b516), .val (.int (1 : Int32))] [(.ref b550_0), (.ref y2), (.ref b516)])
                have q534_1'_v553 := (q534_1'.keep Kq550 nin0)
                have q534_2'_v554 := (q534_2'.keep Kq550 nin0)
                have q529_0'_v555 := (q529_0'_v551.keep Kq550)
                have q529_1'_v556 := ((q529_1'.keep Kq534 (ninS (Ne.symm ne_b516_b529_0) nin0)).keep Kq550 nin0)
                have q529_2'_v557 := ((q529_2'.keep Kq534 (ninS (Ne.symm ne_b516_b529_0) nin0)).keep Kq550 nin0)
                have q529_3'_v558 := (q529_3'_v552.keep Kq550 nin0)
                have S_COMPACT_STRINGS_v559 := (own_staKeep S_COMPACT_STRINGS_v549 Kq550 all0)
                have q534_0'_v561 := (q534_0'.keep Kq550)
                refine own_callV X550 hx hZ (y := (⟨"com/example/weaverbird/weaverbird/automaton/HoaLexer$Token", "is", "(Lcom/example/weaverbird/weaverbird/automaton/HoaLexer$Type;Ljava/lang/String;)Z"⟩ : MethodName)) (z := (⟨"com/example/weaverbird/weaverbird/automaton/HoaLexer$Token", "is", "(Lcom/example/weaverbird/weaverbird/automaton/HoaLexer$Type;Ljava/lang/String;)Z"⟩ : MethodName)) hown (hw _ (List.mem_of_getElem? (i := 53) rfl)) (hw _ (List.mem_of_getElem? (i := 54) rfl)) (notFace_of_selects (args := #[]) (mvT hZ (hw _ (List.mem_of_getElem? (i := 56) rfl)))) (hw _ (List.mem_of_getElem? (i := 56) rfl)) (hw _ (List.mem_of_getElem? (i := 55) rfl)) (hw _ (List.mem_of_getElem? (i := 57) rfl)) (hw _ (List.mem_of_getElem? (i := 3) rfl)) (by decide) 0 q534_0'_v561 [(.ref y2), (.ref b550_0)] [] (own_is_22eq l Z a0 hw [] b516 y2 b550_0 y1 b529_0 b529_1 b550_1 k529_0 k550_0 (c0.toInt8.toInt32) (c1.toInt8.toInt32) (d0.toInt8.toInt32) (d1.toInt8.toInt32) zc T550.heap n0 (Nat.le_trans Z0 K550.1) q534_1'_v553 q534_2'_v554 q529_0'_v555 q550_0' q529_1'_v556 q550_1' q529_2'_v557 q550_2' q529_3'_v558 q550_3' S_COMPACT_STRINGS_v559 (hyeq hc146_535) (by rw [hc166_536]) (by rw [hc179_537]) hz ne_b529_0_b550_0) rfl  (by decide) (by decide) (by decide) (by decide) (g := (mkF m 205 #[.val (.int p1), .val (.int p2), .val (.int p3), .val (.int p4), .val (.int p5), .val (.int p6), .val (.int i1), .val (.int i2), .val (.int c0), .val (.int c1), .val (.int d0), .val (.int d1), .val (.int (2 : Int32)), .val (.int (2 : Int32)), .val (.ref b516), .val (.int (1 : Int32))] [(.ref b550_0), (.ref y2), (.ref b516)])) rfl (by rw [hml]; rfl) own_pd11 rfl rfl (by show 2 * 0 + _ ≤ _; exact Nat.le_of_eq rfl) (hb hby at_205) ?_
                intro T560 v560 L560 X560 hQ560
                obtain ⟨rfl, N560q, e560⟩ := hQ560
                have N560 := Fr.app N550 N560q
                refine own_step (fun t k => XS.iload X560.here hx rfl (hb hby at_208) rfl k) ?_
                show own_Goes _ _ _ _ T560 (mkF m 210 #[.val (.int p1), .val (.int p2), .val (.int p3), .val (.int p4), .val (.int p5), .val (.int p6), .val (.int i1), .val (.int i2), .val (.int c0), .val (.int c1), .val (.int d0), .val (.int d1), .val (.int (2 : Int32)), .val (.int (2 : Int32)), .val (.ref b516), .val (.int (1 : Int32))] [(.int (1 : Int32)), (.int (1 : Int32))])
                refine own_step (fun t k => XS.icmpNo X560.here hx rfl (hb hby at_210) rfl (teq (show (1 : Int32) = (1 : Int32) from (by decide))).2 k) ?_
                refine own_step (fun t k => XS.iconst X560.here hx rfl (hb hby at_213) k) ?_
                refine own_step (fun t k => XS.goto X560.here hx rfl (pc0 := 214) (pc' := 218) rfl (hb hby at_214) (by decide) (by decide) k) ?_
                show own_Goes _ _ _ _ T560 (mkF m 218 #[.val (.int p1), .val (.int p2), .val (.int p3), .val (.int p4), .val (.int p5), .val (.int p6), .val (.int i1), .val (.int i2), .val (.int c0), .val (.int c1), .val (.int d0), .val (.int d1), .val (.int (2 : Int32)), .val (.int (2 : Int32)), .val (.ref b516), .val (.int (1 : Int32))] [(.int (1 : Int32))])
                exact own_outW X560 hlk HS0 (Nat.le_trans (Nat.le_trans (Nat.le_trans (Nat.le_trans (Nat.le_refl _) E516.1) Kq529.1) Kq534.1) Kq550.1) hZ hEL e560 HC550 RC550 (v := some (.int (nar .boolean (1 : Int32)))) (fun q => by rw [hrt] at q; cases q) (fun fs hr => retN X560 hx (t := .boolean) hrt (by simp) (hb hby at_218) hr) ⟨rfl, N560⟩ (by decide) (by decide)
              · refine own_step (fun t k => XS.icmpYes X534.here hx rfl (pc0 := 179) (pc' := 186) rfl (hb hby at_179) rfl (feq (show ¬ (c1 = d1) from hc179_537)).2 (by decide) (by decide) k) ?_
                refine own_step (fun t k => XS.iconst X534.here hx rfl (hb hby at_186) k) ?_
                refine own_step (fun t k => XS.istore X534.here hx rfl (hb hby at_187) rfl (l' := #[.val (.int p1), .val (.int p2), .val (.int p3), .val (.int p4), .val (.int p5), .val (.int p6), .val (.int i1), .val (.int i2), .val (.int c0), .val (.int c1), .val (.int d0), .val (.int d1), .val (.int (2 : Int32)), .val (.int (2 : Int32)), .val (.ref b516), .val (.int (0 : Int32))]) rfl k) ?_
                refine own_step (fun t k => XS.aload X534.here hx rfl (hb hby at_189) rfl rfl k) ?_
                refine own_step (fun t k => XS.iload X534.here hx rfl (hb hby at_191) rfl k) ?_
                show own_Goes _ _ _ _ T534 (mkF m 193 #[.val (.int p1), .val (.int p2), .val (.int p3), .val (.int p4), .val (.int p5), .val (.int p6), .val (.int i1), .val (.int i2), .val (.int c0), .val (.int c1), .val (.int d0), .val (.int d1), .val (.int (2 : Int32)), .val (.int (2 : Int32)), .val (.ref b516), .val (.int (0 : Int32))] [(.int i2), (.ref b516)])
                have S_HEADER_v562 := (own_staKeep (own_staKeep S_HEADER_v517 Kq529 all0) Kq534 (allS (own_plainE A516_v530) all0))
                have S_IDENTIFIER_v563 := (own_staKeep (own_staKeep S_IDENTIFIER_v518 Kq529 all0) Kq534 (allS (own_plainE A516_v530) all0))
                have S_NUMBER_v564 := (own_staKeep (own_staKeep S_NUMBER_v519 Kq529 all0) Kq534 (allS (own_plainE A516_v530) all0))
                have S_STRING_v565 := (own_staKeep (own_staKeep S_STRING_v520 Kq529 all0) Kq534 (allS (own_plainE A516_v530) all0))
                have S_ALIAS_v566 := (own_staKeep (own_staKeep S_ALIAS_v521 Kq529 all0) Kq534 (allS (own_plainE A516_v530) all0))
                have S_SYMBOL_v567 := (own_staKeep (own_staKeep S_SYMBOL_v522 Kq529 all0) Kq534 (allS (own_plainE A516_v530) all0))
                have S_BODY_v568 := (own_staKeep (own_staKeep S_BODY_v523 Kq529 all0) Kq534 (allS (own_plainE A516_v530) all0))
                have S_END_v569 := (own_staKeep (own_staKeep S_END_v524 Kq529 all0) Kq534 (allS (own_plainE A516_v530) all0))
                have S_ABORT_v570 := (own_staKeep (own_staKeep S_ABORT_v525 Kq529 all0) Kq534 (allS (own_plainE A516_v530) all0))
                have S_EOF_v571 := (own_staKeep (own_staKeep S_EOF_v526 Kq529 all0) Kq534 (allS (own_plainE A516_v530) all0))
                refine own_callS X534 hx hZ (y := (⟨"com/example/weaverbird/weaverbird/automaton/TokenIsPinLaw", "type", "(I)Lcom/example/weaverbird/weaverbird/automaton/HoaLexer$Type;"⟩ : MethodName)) hown (hw _ (List.mem_of_getElem? (i := 4) rfl)) (hw _ (List.mem_of_getElem? (i := 5) rfl)) (hw _ (List.mem_of_getElem? (i := 6) rfl)) (hw _ (List.mem_of_getElem? (i := 7) rfl)) (by decide) 1 [(.int i2)] [(.ref b516)] (own_type l Z a0 hw [] i2 y2 w_HEADER w_IDENTIFIER w_NUMBER w_STRING w_ALIAS w_SYMBOL w_BODY w_END w_ABORT w_EOF T534.heap n0 (Nat.le_trans Z0 K534.1) S_HEADER_v562 S_IDENTIFIER_v563 S_NUMBER_v564 S_STRING_v565 S_ALIAS_v566 S_SYMBOL_v567 S_BODY_v568 S_END_v569 S_ABORT_v570 S_EOF_v571 hy2) rfl  (by decide) (by decide) (by decide) (by decide) (g := (mkF m 193 #[.val (.int p1), .val (.int p2), .val (.int p3), .val (.int p4), .val (.int p5), .val (.int p6), .val (.int i1), .val (.int i2), .val (.int c0), .val (.int c1), .val (.int d0), .val (.int d1), .val (.int (2 : Int32)), .val (.int (2 : Int32)), .val (.ref b516), .val (.int (0 : Int32))] [(.int i2), (.ref b516)])) rfl (by rw [hml]; rfl) own_pd8 rfl rfl (by show 2 * 0 + _ ≤ _; exact Nat.le_of_eq rfl) (hb hby at_193) ?_
                intro T572 v572 L572 X572 hQ572
                obtain ⟨rfl, N572q, e572⟩ := hQ572
                have N572 := Fr.app N534 N572q
                refine own_step (fun t k => XS.iload X572.here hx rfl (hb hby at_196) rfl k) ?_
                refine own_step (fun t k => XS.iload X572.here hx rfl (hb hby at_198) rfl k) ?_
                refine own_step (fun t k => XS.iload X572.here hx rfl (hb hby at_200) rfl k) ?_
                show own_Goes _ _ _ _ T572 (mkF m 202 #[.val (.int p1), .val (.int p2), .val (.int p3), .val (.int p4), .val (.int p5), .val (.int p6), .val (.int i1), .val (.int i2), .val (.int c0), .val (.int c1), .val (.int d0), .val (.int d1), .val (.int (2 : Int32)), .val (.int (2 : Int32)), .val (.ref b516), .val (.int (0 : Int32))] [(.int d1), (.int d0), (.int (2 : Int32)), (.ref y2), (.ref b516)])
                have S_COMPACT_STRINGS_v573 := (own_staKeep (own_staKeep S_COMPACT_STRINGS_v528 Kq529 all0) Kq534 (allS (own_plainE A516_v530) all0))
                refine own_callS X572 hx hZ (y := (⟨"com/example/weaverbird/weaverbird/automaton/TokenIsPinLaw", "str", "(ICC)Ljava/lang/String;"⟩ : MethodName)) hown (hw _ (List.mem_of_getElem? (i := 11) rfl)) (hw _ (List.mem_of_getElem? (i := 12) rfl)) (hw _ (List.mem_of_getElem? (i := 6) rfl)) (hw _ (List.mem_of_getElem? (i := 13) rfl)) (by decide) 2 [(.int (2 : Int32)), (.int d0), (.int d1)] [(.ref y2), (.ref b516)] (own_str2 l Z a0 hw [] d0 d1 zc T534.heap n0 (Nat.le_trans Z0 K534.1) S_COMPACT_STRINGS_v573 hd0a hd0b hd1a hd1b hz) e572  (by decide) (by decide) (by decide) (by decide) (g := (mkF m 202 #[.val (.int p1), .val (.int p2), .val (.int p3), .val (.int p4), .val (.int p5), .val (.int p6), .val (.int i1), .val (.int i2), .val (.int c0), .val (.int c1), .val (.int d0), .val (.int d1), .val (.int (2 : Int32)), .val (.int (2 : Int32)), .val (.ref b516), .val (.int (0 : Int32))] [(.int d1), (.int d0), (.int (2 : Int32)), (.ref y2), (.ref b516)])) rfl (by rw [hml]; rfl) own_pd9 rfl rfl (by show 2 * 0 + _ ≤ _; exact Nat.le_of_eq rfl) (hb hby at_202) ?_
                intro T574 v574 L574 X574 hQ574
                have q529_0'_v575 := (q529_0'.keep Kq534)
                have q529_3'_v576 := (q529_3'.keep Kq534 (ninS (Ne.symm ne_b516_b529_1) nin0))
                obtain ⟨b574_0, b574_1, k574_0, rfl, N574q, Kq574, zq574_0, zq574_1, q574_0, q574_1, q574_2, q574_3⟩ := hQ574
                have N574 := Fr.app N572 N574q
                have K574 := K534.trans Kq574 all0
                have g_b574_0 : n0 ≤ b574_0 := Nat.le_trans (Nat.le_trans Z0 K534.1) zq574_0
                have sz_b574_0 : h0.size ≤ b574_0 := Nat.le_trans K534.1 zq574_0
                have ne_b516_b574_0 : b516 ≠ b574_0 := Nat.ne_of_lt (Nat.lt_of_lt_of_le q534_0'.lt zq574_0)
                have ne_b529_0_b574_0 : b529_0 ≠ b574_0 := Nat.ne_of_lt (Nat.lt_of_lt_of_le q529_0'_v575.lt zq574_0)
                have ne_b529_1_b574_0 : b529_1 ≠ b574_0 := Nat.ne_of_lt (Nat.lt_of_lt_of_le q529_3'_v576.lt zq574_0)
                have g_b574_1 : n0 ≤ b574_1 := Nat.le_trans (Nat.le_trans Z0 K534.1) zq574_1
                have sz_b574_1 : h0.size ≤ b574_1 := Nat.le_trans K534.1 zq574_1
                have ne_b516_b574_1 : b516 ≠ b574_1 := Nat.ne_of_lt (Nat.lt_of_lt_of_le q534_0'.lt zq574_1)
                have ne_b529_0_b574_1 : b529_0 ≠ b574_1 := Nat.ne_of_lt (Nat.lt_of_lt_of_le q529_0'_v575.lt zq574_1)
                have ne_b529_1_b574_1 : b529_1 ≠ b574_1 := Nat.ne_of_lt (Nat.lt_of_lt_of_le q529_3'_v576.lt zq574_1)
                have RC574 := RC534.trans (CHr.keep Kq574 all0 HC534)
                have HC574 := CHv.keep Kq574 all0 HC534
                have q574_0' : Exa Z T574.heap b574_0 "java/lang/String" := q574_0
                have q574_1' : Fld Z T574.heap b574_0 "java/lang/String" "coder" "B" (.int (0 : Int32)) := q574_1
                have q574_2' : Fld Z T574.heap b574_0 "java/lang/String" "value" "[B" (.ref b574_1) := q574_2
                have q574_3' : Arv Z T574.heap b574_1 k574_0 .byte (2 : Int32) [(.int (d0.toInt8.toInt32)), (.int (d1.toInt8.toInt32))] (.int (0 : Int32)) := q574_3
                show own_Goes _ _ _ _ T574 (mkF m 205 #[.val (.int p1), .val (.int p2), .val (.int p3), .val (.int p4), .val (.int p5), .val (.int p6), .val (.int i1), .val (.int i2), .val (.int c0), .val (.int c1), .val (.int d0), .val (.int d1), .val (.int (2 : Int32)), .val (.int (2 : Int32)), .val (.ref b516), .val (.int (0 : Int32))] [(.ref b574_0), (.ref y2), (.ref b516)])
                have q534_1'_v577 := (q534_1'.keep Kq574 nin0)
                have q534_2'_v578 := (q534_2'.keep Kq574 nin0)
                have q529_0'_v579 := (q529_0'_v575.keep Kq574)
                have q529_1'_v580 := ((q529_1'.keep Kq534 (ninS (Ne.symm ne_b516_b529_0) nin0)).keep Kq574 nin0)
                have q529_2'_v581 := ((q529_2'.keep Kq534 (ninS (Ne.symm ne_b516_b529_0) nin0)).keep Kq574 nin0)
                have q529_3'_v582 := (q529_3'_v576.keep Kq574 nin0)
                have S_COMPACT_STRINGS_v583 := (own_staKeep S_COMPACT_STRINGS_v573 Kq574 all0)
                have q534_0'_v585 := (q534_0'.keep Kq574)
                refine own_callV X574 hx hZ (y := (⟨"com/example/weaverbird/weaverbird/automaton/HoaLexer$Token", "is", "(Lcom/example/weaverbird/weaverbird/automaton/HoaLexer$Type;Ljava/lang/String;)Z"⟩ : MethodName)) (z := (⟨"com/example/weaverbird/weaverbird/automaton/HoaLexer$Token", "is", "(Lcom/example/weaverbird/weaverbird/automaton/HoaLexer$Type;Ljava/lang/String;)Z"⟩ : MethodName)) hown (hw _ (List.mem_of_getElem? (i := 53) rfl)) (hw _ (List.mem_of_getElem? (i := 54) rfl)) (notFace_of_selects (args := #[]) (mvT hZ (hw _ (List.mem_of_getElem? (i := 56) rfl)))) (hw _ (List.mem_of_getElem? (i := 56) rfl)) (hw _ (List.mem_of_getElem? (i := 55) rfl)) (hw _ (List.mem_of_getElem? (i := 57) rfl)) (hw _ (List.mem_of_getElem? (i := 3) rfl)) (by decide) 0 q534_0'_v585 [(.ref y2), (.ref b574_0)] [] (own_is_221 l Z a0 hw [] b516 y2 b574_0 y1 b529_0 b529_1 b574_1 k529_0 k574_0 (c0.toInt8.toInt32) (c1.toInt8.toInt32) (d0.toInt8.toInt32) (d1.toInt8.toInt32) zc T574.heap n0 (Nat.le_trans Z0 K574.1) q534_1'_v577 q534_2'_v578 q529_0'_v579 q574_0' q529_1'_v580 q574_1' q529_2'_v581 q574_2' q529_3'_v582 q574_3' S_COMPACT_STRINGS_v583 (hyeq hc146_535) (by rw [hc166_536]) (fun q => hc179_537 (own_b8inj hc1a hc1b hd1a hd1b q)) hz ne_b529_0_b574_0) rfl  (by decide) (by decide) (by decide) (by decide) (g := (mkF m 205 #[.val (.int p1), .val (.int p2), .val (.int p3), .val (.int p4), .val (.int p5), .val (.int p6), .val (.int i1), .val (.int i2), .val (.int c0), .val (.int c1), .val (.int d0), .val (.int d1), .val (.int (2 : Int32)), .val (.int (2 : Int32)), .val (.ref b516), .val (.int (0 : Int32))] [(.ref b574_0), (.ref y2), (.ref b516)])) rfl (by rw [hml]; rfl) own_pd11 rfl rfl (by show 2 * 0 + _ ≤ _; exact Nat.le_of_eq rfl) (hb hby at_205) ?_
                intro T584 v584 L584 X584 hQ584
                obtain ⟨rfl, N584q, e584⟩ := hQ584
                have N584 := Fr.app N574 N584q
                refine own_step (fun t k => XS.iload X584.here hx rfl (hb hby at_208) rfl k) ?_
                show own_Goes _ _ _ _ T584 (mkF m 210 #[.val (.int p1), .val (.int p2), .val (.int p3), .val (.int p4), .val (.int p5), .val (.int p6), .val (.int i1), .val (.int i2), .val (.int c0), .val (.int c1), .val (.int d0), .val (.int d1), .val (.int (2 : Int32)), .val (.int (2 : Int32)), .val (.ref b516), .val (.int (0 : Int32))] [(.int (0 : Int32)), (.int (0 : Int32))])
                refine own_step (fun t k => XS.icmpNo X584.here hx rfl (hb hby at_210) rfl (teq (show (0 : Int32) = (0 : Int32) from (by decide))).2 k) ?_
                refine own_step (fun t k => XS.iconst X584.here hx rfl (hb hby at_213) k) ?_
                refine own_step (fun t k => XS.goto X584.here hx rfl (pc0 := 214) (pc' := 218) rfl (hb hby at_214) (by decide) (by decide) k) ?_
                show own_Goes _ _ _ _ T584 (mkF m 218 #[.val (.int p1), .val (.int p2), .val (.int p3), .val (.int p4), .val (.int p5), .val (.int p6), .val (.int i1), .val (.int i2), .val (.int c0), .val (.int c1), .val (.int d0), .val (.int d1), .val (.int (2 : Int32)), .val (.int (2 : Int32)), .val (.ref b516), .val (.int (0 : Int32))] [(.int (1 : Int32))])
                exact own_outW X584 hlk HS0 (Nat.le_trans (Nat.le_trans (Nat.le_trans (Nat.le_trans (Nat.le_refl _) E516.1) Kq529.1) Kq534.1) Kq574.1) hZ hEL e584 HC574 RC574 (v := some (.int (nar .boolean (1 : Int32)))) (fun q => by rw [hrt] at q; cases q) (fun fs hr => retN X584 hx (t := .boolean) hrt (by simp) (hb hby at_218) hr) ⟨rfl, N584⟩ (by decide) (by decide)
            · refine own_step (fun t k => XS.icmpYes X534.here hx rfl (pc0 := 166) (pc' := 186) rfl (hb hby at_166) rfl (feq (show ¬ (c0 = d0) from hc166_536)).2 (by decide) (by decide) k) ?_
              refine own_step (fun t k => XS.iconst X534.here hx rfl (hb hby at_186) k) ?_
              refine own_step (fun t k => XS.istore X534.here hx rfl (hb hby at_187) rfl (l' := #[.val (.int p1), .val (.int p2), .val (.int p3), .val (.int p4), .val (.int p5), .val (.int p6), .val (.int i1), .val (.int i2), .val (.int c0), .val (.int c1), .val (.int d0), .val (.int d1), .val (.int (2 : Int32)), .val (.int (2 : Int32)), .val (.ref b516), .val (.int (0 : Int32))]) rfl k) ?_
              refine own_step (fun t k => XS.aload X534.here hx rfl (hb hby at_189) rfl rfl k) ?_
              refine own_step (fun t k => XS.iload X534.here hx rfl (hb hby at_191) rfl k) ?_
              show own_Goes _ _ _ _ T534 (mkF m 193 #[.val (.int p1), .val (.int p2), .val (.int p3), .val (.int p4), .val (.int p5), .val (.int p6), .val (.int i1), .val (.int i2), .val (.int c0), .val (.int c1), .val (.int d0), .val (.int d1), .val (.int (2 : Int32)), .val (.int (2 : Int32)), .val (.ref b516), .val (.int (0 : Int32))] [(.int i2), (.ref b516)])
              have S_HEADER_v586 := (own_staKeep (own_staKeep S_HEADER_v517 Kq529 all0) Kq534 (allS (own_plainE A516_v530) all0))
              have S_IDENTIFIER_v587 := (own_staKeep (own_staKeep S_IDENTIFIER_v518 Kq529 all0) Kq534 (allS (own_plainE A516_v530) all0))
              have S_NUMBER_v588 := (own_staKeep (own_staKeep S_NUMBER_v519 Kq529 all0) Kq534 (allS (own_plainE A516_v530) all0))
              have S_STRING_v589 := (own_staKeep (own_staKeep S_STRING_v520 Kq529 all0) Kq534 (allS (own_plainE A516_v530) all0))
              have S_ALIAS_v590 := (own_staKeep (own_staKeep S_ALIAS_v521 Kq529 all0) Kq534 (allS (own_plainE A516_v530) all0))
              have S_SYMBOL_v591 := (own_staKeep (own_staKeep S_SYMBOL_v522 Kq529 all0) Kq534 (allS (own_plainE A516_v530) all0))
              have S_BODY_v592 := (own_staKeep (own_staKeep S_BODY_v523 Kq529 all0) Kq534 (allS (own_plainE A516_v530) all0))
              have S_END_v593 := (own_staKeep (own_staKeep S_END_v524 Kq529 all0) Kq534 (allS (own_plainE A516_v530) all0))
              have S_ABORT_v594 := (own_staKeep (own_staKeep S_ABORT_v525 Kq529 all0) Kq534 (allS (own_plainE A516_v530) all0))
              have S_EOF_v595 := (own_staKeep (own_staKeep S_EOF_v526 Kq529 all0) Kq534 (allS (own_plainE A516_v530) all0))
              refine own_callS X534 hx hZ (y := (⟨"com/example/weaverbird/weaverbird/automaton/TokenIsPinLaw", "type", "(I)Lcom/example/weaverbird/weaverbird/automaton/HoaLexer$Type;"⟩ : MethodName)) hown (hw _ (List.mem_of_getElem? (i := 4) rfl)) (hw _ (List.mem_of_getElem? (i := 5) rfl)) (hw _ (List.mem_of_getElem? (i := 6) rfl)) (hw _ (List.mem_of_getElem? (i := 7) rfl)) (by decide) 1 [(.int i2)] [(.ref b516)] (own_type l Z a0 hw [] i2 y2 w_HEADER w_IDENTIFIER w_NUMBER w_STRING w_ALIAS w_SYMBOL w_BODY w_END w_ABORT w_EOF T534.heap n0 (Nat.le_trans Z0 K534.1) S_HEADER_v586 S_IDENTIFIER_v587 S_NUMBER_v588 S_STRING_v589 S_ALIAS_v590 S_SYMBOL_v591 S_BODY_v592 S_END_v593 S_ABORT_v594 S_EOF_v595 hy2) rfl  (by decide) (by decide) (by decide) (by decide) (g := (mkF m 193 #[.val (.int p1), .val (.int p2), .val (.int p3), .val (.int p4), .val (.int p5), .val (.int p6), .val (.int i1), .val (.int i2), .val (.int c0), .val (.int c1), .val (.int d0), .val (.int d1), .val (.int (2 : Int32)), .val (.int (2 : Int32)), .val (.ref b516), .val (.int (0 : Int32))] [(.int i2), (.ref b516)])) rfl (by rw [hml]; rfl) own_pd8 rfl rfl (by show 2 * 0 + _ ≤ _; exact Nat.le_of_eq rfl) (hb hby at_193) ?_
              intro T596 v596 L596 X596 hQ596
              obtain ⟨rfl, N596q, e596⟩ := hQ596
              have N596 := Fr.app N534 N596q
              refine own_step (fun t k => XS.iload X596.here hx rfl (hb hby at_196) rfl k) ?_
              refine own_step (fun t k => XS.iload X596.here hx rfl (hb hby at_198) rfl k) ?_
              refine own_step (fun t k => XS.iload X596.here hx rfl (hb hby at_200) rfl k) ?_
              show own_Goes _ _ _ _ T596 (mkF m 202 #[.val (.int p1), .val (.int p2), .val (.int p3), .val (.int p4), .val (.int p5), .val (.int p6), .val (.int i1), .val (.int i2), .val (.int c0), .val (.int c1), .val (.int d0), .val (.int d1), .val (.int (2 : Int32)), .val (.int (2 : Int32)), .val (.ref b516), .val (.int (0 : Int32))] [(.int d1), (.int d0), (.int (2 : Int32)), (.ref y2), (.ref b516)])
              have S_COMPACT_STRINGS_v597 := (own_staKeep (own_staKeep S_COMPACT_STRINGS_v528 Kq529 all0) Kq534 (allS (own_plainE A516_v530) all0))
              refine own_callS X596 hx hZ (y := (⟨"com/example/weaverbird/weaverbird/automaton/TokenIsPinLaw", "str", "(ICC)Ljava/lang/String;"⟩ : MethodName)) hown (hw _ (List.mem_of_getElem? (i := 11) rfl)) (hw _ (List.mem_of_getElem? (i := 12) rfl)) (hw _ (List.mem_of_getElem? (i := 6) rfl)) (hw _ (List.mem_of_getElem? (i := 13) rfl)) (by decide) 2 [(.int (2 : Int32)), (.int d0), (.int d1)] [(.ref y2), (.ref b516)] (own_str2 l Z a0 hw [] d0 d1 zc T534.heap n0 (Nat.le_trans Z0 K534.1) S_COMPACT_STRINGS_v597 hd0a hd0b hd1a hd1b hz) e596  (by decide) (by decide) (by decide) (by decide) (g := (mkF m 202 #[.val (.int p1), .val (.int p2), .val (.int p3), .val (.int p4), .val (.int p5), .val (.int p6), .val (.int i1), .val (.int i2), .val (.int c0), .val (.int c1), .val (.int d0), .val (.int d1), .val (.int (2 : Int32)), .val (.int (2 : Int32)), .val (.ref b516), .val (.int (0 : Int32))] [(.int d1), (.int d0), (.int (2 : Int32)), (.ref y2), (.ref b516)])) rfl (by rw [hml]; rfl) own_pd9 rfl rfl (by show 2 * 0 + _ ≤ _; exact Nat.le_of_eq rfl) (hb hby at_202) ?_
              intro T598 v598 L598 X598 hQ598
              have q529_0'_v599 := (q529_0'.keep Kq534)
              have q529_3'_v600 := (q529_3'.keep Kq534 (ninS (Ne.symm ne_b516_b529_1) nin0))
              obtain ⟨b598_0, b598_1, k598_0, rfl, N598q, Kq598, zq598_0, zq598_1, q598_0, q598_1, q598_2, q598_3⟩ := hQ598
              have N598 := Fr.app N596 N598q
              have K598 := K534.trans Kq598 all0
              have g_b598_0 : n0 ≤ b598_0 := Nat.le_trans (Nat.le_trans Z0 K534.1) zq598_0
              have sz_b598_0 : h0.size ≤ b598_0 := Nat.le_trans K534.1 zq598_0
              have ne_b516_b598_0 : b516 ≠ b598_0 := Nat.ne_of_lt (Nat.lt_of_lt_of_le q534_0'.lt zq598_0)
              have ne_b529_0_b598_0 : b529_0 ≠ b598_0 := Nat.ne_of_lt (Nat.lt_of_lt_of_le q529_0'_v599.lt zq598_0)
              have ne_b529_1_b598_0 : b529_1 ≠ b598_0 := Nat.ne_of_lt (Nat.lt_of_lt_of_le q529_3'_v600.lt zq598_0)
              have g_b598_1 : n0 ≤ b598_1 := Nat.le_trans (Nat.le_trans Z0 K534.1) zq598_1
              have sz_b598_1 : h0.size ≤ b598_1 := Nat.le_trans K534.1 zq598_1
              have ne_b516_b598_1 : b516 ≠ b598_1 := Nat.ne_of_lt (Nat.lt_of_lt_of_le q534_0'.lt zq598_1)
              have ne_b529_0_b598_1 : b529_0 ≠ b598_1 := Nat.ne_of_lt (Nat.lt_of_lt_of_le q529_0'_v599.lt zq598_1)
              have ne_b529_1_b598_1 : b529_1 ≠ b598_1 := Nat.ne_of_lt (Nat.lt_of_lt_of_le q529_3'_v600.lt zq598_1)
              have RC598 := RC534.trans (CHr.keep Kq598 all0 HC534)
              have HC598 := CHv.keep Kq598 all0 HC534
              have q598_0' : Exa Z T598.heap b598_0 "java/lang/String" := q598_0
              have q598_1' : Fld Z T598.heap b598_0 "java/lang/String" "coder" "B" (.int (0 : Int32)) := q598_1
              have q598_2' : Fld Z T598.heap b598_0 "java/lang/String" "value" "[B" (.ref b598_1) := q598_2
              have q598_3' : Arv Z T598.heap b598_1 k598_0 .byte (2 : Int32) [(.int (d0.toInt8.toInt32)), (.int (d1.toInt8.toInt32))] (.int (0 : Int32)) := q598_3
              show own_Goes _ _ _ _ T598 (mkF m 205 #[.val (.int p1), .val (.int p2), .val (.int p3), .val (.int p4), .val (.int p5), .val (.int p6), .val (.int i1), .val (.int i2), .val (.int c0), .val (.int c1), .val (.int d0), .val (.int d1), .val (.int (2 : Int32)), .val (.int (2 : Int32)), .val (.ref b516), .val (.int (0 : Int32))] [(.ref b598_0), (.ref y2), (.ref b516)])
              have q534_1'_v601 := (q534_1'.keep Kq598 nin0)
              have q534_2'_v602 := (q534_2'.keep Kq598 nin0)
              have q529_0'_v603 := (q529_0'_v599.keep Kq598)
              have q529_1'_v604 := ((q529_1'.keep Kq534 (ninS (Ne.symm ne_b516_b529_0) nin0)).keep Kq598 nin0)
              have q529_2'_v605 := ((q529_2'.keep Kq534 (ninS (Ne.symm ne_b516_b529_0) nin0)).keep Kq598 nin0)
              have q529_3'_v606 := (q529_3'_v600.keep Kq598 nin0)
              have S_COMPACT_STRINGS_v607 := (own_staKeep S_COMPACT_STRINGS_v597 Kq598 all0)
              have q534_0'_v609 := (q534_0'.keep Kq598)
              refine own_callV X598 hx hZ (y := (⟨"com/example/weaverbird/weaverbird/automaton/HoaLexer$Token", "is", "(Lcom/example/weaverbird/weaverbird/automaton/HoaLexer$Type;Ljava/lang/String;)Z"⟩ : MethodName)) (z := (⟨"com/example/weaverbird/weaverbird/automaton/HoaLexer$Token", "is", "(Lcom/example/weaverbird/weaverbird/automaton/HoaLexer$Type;Ljava/lang/String;)Z"⟩ : MethodName)) hown (hw _ (List.mem_of_getElem? (i := 53) rfl)) (hw _ (List.mem_of_getElem? (i := 54) rfl)) (notFace_of_selects (args := #[]) (mvT hZ (hw _ (List.mem_of_getElem? (i := 56) rfl)))) (hw _ (List.mem_of_getElem? (i := 56) rfl)) (hw _ (List.mem_of_getElem? (i := 55) rfl)) (hw _ (List.mem_of_getElem? (i := 57) rfl)) (hw _ (List.mem_of_getElem? (i := 3) rfl)) (by decide) 0 q534_0'_v609 [(.ref y2), (.ref b598_0)] [] (own_is_220 l Z a0 hw [] b516 y2 b598_0 y1 b529_0 b529_1 b598_1 k529_0 k598_0 (c0.toInt8.toInt32) (c1.toInt8.toInt32) (d0.toInt8.toInt32) (d1.toInt8.toInt32) zc T598.heap n0 (Nat.le_trans Z0 K598.1) q534_1'_v601 q534_2'_v602 q529_0'_v603 q598_0' q529_1'_v604 q598_1' q529_2'_v605 q598_2' q529_3'_v606 q598_3' S_COMPACT_STRINGS_v607 (hyeq hc146_535) (fun q => hc166_536 (own_b8inj hc0a hc0b hd0a hd0b q)) hz ne_b529_0_b598_0) rfl  (by decide) (by decide) (by decide) (by decide) (g := (mkF m 205 #[.val (.int p1), .val (.int p2), .val (.int p3), .val (.int p4), .val (.int p5), .val (.int p6), .val (.int i1), .val (.int i2), .val (.int c0), .val (.int c1), .val (.int d0), .val (.int d1), .val (.int (2 : Int32)), .val (.int (2 : Int32)), .val (.ref b516), .val (.int (0 : Int32))] [(.ref b598_0), (.ref y2), (.ref b516)])) rfl (by rw [hml]; rfl) own_pd11 rfl rfl (by show 2 * 0 + _ ≤ _; exact Nat.le_of_eq rfl) (hb hby at_205) ?_
              intro T608 v608 L608 X608 hQ608
              obtain ⟨rfl, N608q, e608⟩ := hQ608
              have N608 := Fr.app N598 N608q
              refine own_step (fun t k => XS.iload X608.here hx rfl (hb hby at_208) rfl k) ?_
              show own_Goes _ _ _ _ T608 (mkF m 210 #[.val (.int p1), .val (.int p2), .val (.int p3), .val (.int p4), .val (.int p5), .val (.int p6), .val (.int i1), .val (.int i2), .val (.int c0), .val (.int c1), .val (.int d0), .val (.int d1), .val (.int (2 : Int32)), .val (.int (2 : Int32)), .val (.ref b516), .val (.int (0 : Int32))] [(.int (0 : Int32)), (.int (0 : Int32))])
              refine own_step (fun t k => XS.icmpNo X608.here hx rfl (hb hby at_210) rfl (teq (show (0 : Int32) = (0 : Int32) from (by decide))).2 k) ?_
              refine own_step (fun t k => XS.iconst X608.here hx rfl (hb hby at_213) k) ?_
              refine own_step (fun t k => XS.goto X608.here hx rfl (pc0 := 214) (pc' := 218) rfl (hb hby at_214) (by decide) (by decide) k) ?_
              show own_Goes _ _ _ _ T608 (mkF m 218 #[.val (.int p1), .val (.int p2), .val (.int p3), .val (.int p4), .val (.int p5), .val (.int p6), .val (.int i1), .val (.int i2), .val (.int c0), .val (.int c1), .val (.int d0), .val (.int d1), .val (.int (2 : Int32)), .val (.int (2 : Int32)), .val (.ref b516), .val (.int (0 : Int32))] [(.int (1 : Int32))])
              exact own_outW X608 hlk HS0 (Nat.le_trans (Nat.le_trans (Nat.le_trans (Nat.le_trans (Nat.le_refl _) E516.1) Kq529.1) Kq534.1) Kq598.1) hZ hEL e608 HC598 RC598 (v := some (.int (nar .boolean (1 : Int32)))) (fun q => by rw [hrt] at q; cases q) (fun fs hr => retN X608 hx (t := .boolean) hrt (by simp) (hb hby at_218) hr) ⟨rfl, N608⟩ (by decide) (by decide)
          · refine own_step (fun t k => XS.icmpYes X534.here hx rfl (pc0 := 146) (pc' := 186) rfl (hb hby at_146) rfl (feq (show ¬ (i1 = i2) from hc146_535)).2 (by decide) (by decide) k) ?_
            refine own_step (fun t k => XS.iconst X534.here hx rfl (hb hby at_186) k) ?_
            refine own_step (fun t k => XS.istore X534.here hx rfl (hb hby at_187) rfl (l' := #[.val (.int p1), .val (.int p2), .val (.int p3), .val (.int p4), .val (.int p5), .val (.int p6), .val (.int i1), .val (.int i2), .val (.int c0), .val (.int c1), .val (.int d0), .val (.int d1), .val (.int (2 : Int32)), .val (.int (2 : Int32)), .val (.ref b516), .val (.int (0 : Int32))]) rfl k) ?_
            refine own_step (fun t k => XS.aload X534.here hx rfl (hb hby at_189) rfl rfl k) ?_
            refine own_step (fun t k => XS.iload X534.here hx rfl (hb hby at_191) rfl k) ?_
            show own_Goes _ _ _ _ T534 (mkF m 193 #[.val (.int p1), .val (.int p2), .val (.int p3), .val (.int p4), .val (.int p5), .val (.int p6), .val (.int i1), .val (.int i2), .val (.int c0), .val (.int c1), .val (.int d0), .val (.int d1), .val (.int (2 : Int32)), .val (.int (2 : Int32)), .val (.ref b516), .val (.int (0 : Int32))] [(.int i2), (.ref b516)])
            have S_HEADER_v610 := (own_staKeep (own_staKeep S_HEADER_v517 Kq529 all0) Kq534 (allS (own_plainE A516_v530) all0))
            have S_IDENTIFIER_v611 := (own_staKeep (own_staKeep S_IDENTIFIER_v518 Kq529 all0) Kq534 (allS (own_plainE A516_v530) all0))
            have S_NUMBER_v612 := (own_staKeep (own_staKeep S_NUMBER_v519 Kq529 all0) Kq534 (allS (own_plainE A516_v530) all0))
            have S_STRING_v613 := (own_staKeep (own_staKeep S_STRING_v520 Kq529 all0) Kq534 (allS (own_plainE A516_v530) all0))
            have S_ALIAS_v614 := (own_staKeep (own_staKeep S_ALIAS_v521 Kq529 all0) Kq534 (allS (own_plainE A516_v530) all0))
            have S_SYMBOL_v615 := (own_staKeep (own_staKeep S_SYMBOL_v522 Kq529 all0) Kq534 (allS (own_plainE A516_v530) all0))
            have S_BODY_v616 := (own_staKeep (own_staKeep S_BODY_v523 Kq529 all0) Kq534 (allS (own_plainE A516_v530) all0))
            have S_END_v617 := (own_staKeep (own_staKeep S_END_v524 Kq529 all0) Kq534 (allS (own_plainE A516_v530) all0))
            have S_ABORT_v618 := (own_staKeep (own_staKeep S_ABORT_v525 Kq529 all0) Kq534 (allS (own_plainE A516_v530) all0))
            have S_EOF_v619 := (own_staKeep (own_staKeep S_EOF_v526 Kq529 all0) Kq534 (allS (own_plainE A516_v530) all0))
            refine own_callS X534 hx hZ (y := (⟨"com/example/weaverbird/weaverbird/automaton/TokenIsPinLaw", "type", "(I)Lcom/example/weaverbird/weaverbird/automaton/HoaLexer$Type;"⟩ : MethodName)) hown (hw _ (List.mem_of_getElem? (i := 4) rfl)) (hw _ (List.mem_of_getElem? (i := 5) rfl)) (hw _ (List.mem_of_getElem? (i := 6) rfl)) (hw _ (List.mem_of_getElem? (i := 7) rfl)) (by decide) 1 [(.int i2)] [(.ref b516)] (own_type l Z a0 hw [] i2 y2 w_HEADER w_IDENTIFIER w_NUMBER w_STRING w_ALIAS w_SYMBOL w_BODY w_END w_ABORT w_EOF T534.heap n0 (Nat.le_trans Z0 K534.1) S_HEADER_v610 S_IDENTIFIER_v611 S_NUMBER_v612 S_STRING_v613 S_ALIAS_v614 S_SYMBOL_v615 S_BODY_v616 S_END_v617 S_ABORT_v618 S_EOF_v619 hy2) rfl  (by decide) (by decide) (by decide) (by decide) (g := (mkF m 193 #[.val (.int p1), .val (.int p2), .val (.int p3), .val (.int p4), .val (.int p5), .val (.int p6), .val (.int i1), .val (.int i2), .val (.int c0), .val (.int c1), .val (.int d0), .val (.int d1), .val (.int (2 : Int32)), .val (.int (2 : Int32)), .val (.ref b516), .val (.int (0 : Int32))] [(.int i2), (.ref b516)])) rfl (by rw [hml]; rfl) own_pd8 rfl rfl (by show 2 * 0 + _ ≤ _; exact Nat.le_of_eq rfl) (hb hby at_193) ?_
            intro T620 v620 L620 X620 hQ620
            obtain ⟨rfl, N620q, e620⟩ := hQ620
            have N620 := Fr.app N534 N620q
            refine own_step (fun t k => XS.iload X620.here hx rfl (hb hby at_196) rfl k) ?_
            refine own_step (fun t k => XS.iload X620.here hx rfl (hb hby at_198) rfl k) ?_
            refine own_step (fun t k => XS.iload X620.here hx rfl (hb hby at_200) rfl k) ?_
            show own_Goes _ _ _ _ T620 (mkF m 202 #[.val (.int p1), .val (.int p2), .val (.int p3), .val (.int p4), .val (.int p5), .val (.int p6), .val (.int i1), .val (.int i2), .val (.int c0), .val (.int c1), .val (.int d0), .val (.int d1), .val (.int (2 : Int32)), .val (.int (2 : Int32)), .val (.ref b516), .val (.int (0 : Int32))] [(.int d1), (.int d0), (.int (2 : Int32)), (.ref y2), (.ref b516)])
            have S_COMPACT_STRINGS_v621 := (own_staKeep (own_staKeep S_COMPACT_STRINGS_v528 Kq529 all0) Kq534 (allS (own_plainE A516_v530) all0))
            refine own_callS X620 hx hZ (y := (⟨"com/example/weaverbird/weaverbird/automaton/TokenIsPinLaw", "str", "(ICC)Ljava/lang/String;"⟩ : MethodName)) hown (hw _ (List.mem_of_getElem? (i := 11) rfl)) (hw _ (List.mem_of_getElem? (i := 12) rfl)) (hw _ (List.mem_of_getElem? (i := 6) rfl)) (hw _ (List.mem_of_getElem? (i := 13) rfl)) (by decide) 2 [(.int (2 : Int32)), (.int d0), (.int d1)] [(.ref y2), (.ref b516)] (own_str2 l Z a0 hw [] d0 d1 zc T534.heap n0 (Nat.le_trans Z0 K534.1) S_COMPACT_STRINGS_v621 hd0a hd0b hd1a hd1b hz) e620  (by decide) (by decide) (by decide) (by decide) (g := (mkF m 202 #[.val (.int p1), .val (.int p2), .val (.int p3), .val (.int p4), .val (.int p5), .val (.int p6), .val (.int i1), .val (.int i2), .val (.int c0), .val (.int c1), .val (.int d0), .val (.int d1), .val (.int (2 : Int32)), .val (.int (2 : Int32)), .val (.ref b516), .val (.int (0 : Int32))] [(.int d1), (.int d0), (.int (2 : Int32)), (.ref y2), (.ref b516)])) rfl (by rw [hml]; rfl) own_pd9 rfl rfl (by show 2 * 0 + _ ≤ _; exact Nat.le_of_eq rfl) (hb hby at_202) ?_
            intro T622 v622 L622 X622 hQ622
            have q529_0'_v623 := (q529_0'.keep Kq534)
            have q529_3'_v624 := (q529_3'.keep Kq534 (ninS (Ne.symm ne_b516_b529_1) nin0))
            obtain ⟨b622_0, b622_1, k622_0, rfl, N622q, Kq622, zq622_0, zq622_1, q622_0, q622_1, q622_2, q622_3⟩ := hQ622
            have N622 := Fr.app N620 N622q
            have K622 := K534.trans Kq622 all0
            have g_b622_0 : n0 ≤ b622_0 := Nat.le_trans (Nat.le_trans Z0 K534.1) zq622_0
            have sz_b622_0 : h0.size ≤ b622_0 := Nat.le_trans K534.1 zq622_0
            have ne_b516_b622_0 : b516 ≠ b622_0 := Nat.ne_of_lt (Nat.lt_of_lt_of_le q534_0'.lt zq622_0)
            have ne_b529_0_b622_0 : b529_0 ≠ b622_0 := Nat.ne_of_lt (Nat.lt_of_lt_of_le q529_0'_v623.lt zq622_0)
            have ne_b529_1_b622_0 : b529_1 ≠ b622_0 := Nat.ne_of_lt (Nat.lt_of_lt_of_le q529_3'_v624.lt zq622_0)
            have g_b622_1 : n0 ≤ b622_1 := Nat.le_trans (Nat.le_trans Z0 K534.1) zq622_1
            have sz_b622_1 : h0.size ≤ b622_1 := Nat.le_trans K534.1 zq622_1
            have ne_b516_b622_1 : b516 ≠ b622_1 := Nat.ne_of_lt (Nat.lt_of_lt_of_le q534_0'.lt zq622_1)
            have ne_b529_0_b622_1 : b529_0 ≠ b622_1 := Nat.ne_of_lt (Nat.lt_of_lt_of_le q529_0'_v623.lt zq622_1)
            have ne_b529_1_b622_1 : b529_1 ≠ b622_1 := Nat.ne_of_lt (Nat.lt_of_lt_of_le q529_3'_v624.lt zq622_1)
            have RC622 := RC534.trans (CHr.keep Kq622 all0 HC534)
            have HC622 := CHv.keep Kq622 all0 HC534
            have q622_0' : Exa Z T622.heap b622_0 "java/lang/String" := q622_0
            have q622_1' : Fld Z T622.heap b622_0 "java/lang/String" "coder" "B" (.int (0 : Int32)) := q622_1
            have q622_2' : Fld Z T622.heap b622_0 "java/lang/String" "value" "[B" (.ref b622_1) := q622_2
            have q622_3' : Arv Z T622.heap b622_1 k622_0 .byte (2 : Int32) [(.int (d0.toInt8.toInt32)), (.int (d1.toInt8.toInt32))] (.int (0 : Int32)) := q622_3
            show own_Goes _ _ _ _ T622 (mkF m 205 #[.val (.int p1), .val (.int p2), .val (.int p3), .val (.int p4), .val (.int p5), .val (.int p6), .val (.int i1), .val (.int i2), .val (.int c0), .val (.int c1), .val (.int d0), .val (.int d1), .val (.int (2 : Int32)), .val (.int (2 : Int32)), .val (.ref b516), .val (.int (0 : Int32))] [(.ref b622_0), (.ref y2), (.ref b516)])
            have q534_1'_v625 := (q534_1'.keep Kq622 nin0)
            have q534_0'_v627 := (q534_0'.keep Kq622)
            refine own_callV X622 hx hZ (y := (⟨"com/example/weaverbird/weaverbird/automaton/HoaLexer$Token", "is", "(Lcom/example/weaverbird/weaverbird/automaton/HoaLexer$Type;Ljava/lang/String;)Z"⟩ : MethodName)) (z := (⟨"com/example/weaverbird/weaverbird/automaton/HoaLexer$Token", "is", "(Lcom/example/weaverbird/weaverbird/automaton/HoaLexer$Type;Ljava/lang/String;)Z"⟩ : MethodName)) hown (hw _ (List.mem_of_getElem? (i := 53) rfl)) (hw _ (List.mem_of_getElem? (i := 54) rfl)) (notFace_of_selects (args := #[]) (mvT hZ (hw _ (List.mem_of_getElem? (i := 56) rfl)))) (hw _ (List.mem_of_getElem? (i := 56) rfl)) (hw _ (List.mem_of_getElem? (i := 55) rfl)) (hw _ (List.mem_of_getElem? (i := 57) rfl)) (hw _ (List.mem_of_getElem? (i := 3) rfl)) (by decide) 0 q534_0'_v627 [(.ref y2), (.ref b622_0)] [] (own_is_ne l Z a0 hw [] b516 y2 b622_0 y1 T622.heap n0 (Nat.le_trans Z0 K622.1) q534_1'_v625 (hyne hc146_535)) rfl  (by decide) (by decide) (by decide) (by decide) (g := (mkF m 205 #[.val (.int p1), .val (.int p2), .val (.int p3), .val (.int p4), .val (.int p5), .val (.int p6), .val (.int i1), .val (.int i2), .val (.int c0), .val (.int c1), .val (.int d0), .val (.int d1), .val (.int (2 : Int32)), .val (.int (2 : Int32)), .val (.ref b516), .val (.int (0 : Int32))] [(.ref b622_0), (.ref y2), (.ref b516)])) rfl (by rw [hml]; rfl) own_pd11 rfl rfl (by show 2 * 0 + _ ≤ _; exact Nat.le_of_eq rfl) (hb hby at_205) ?_
            intro T626 v626 L626 X626 hQ626
            obtain ⟨rfl, N626q, e626⟩ := hQ626
            have N626 := Fr.app N622 N626q
            refine own_step (fun t k => XS.iload X626.here hx rfl (hb hby at_208) rfl k) ?_
            show own_Goes _ _ _ _ T626 (mkF m 210 #[.val (.int p1), .val (.int p2), .val (.int p3), .val (.int p4), .val (.int p5), .val (.int p6), .val (.int i1), .val (.int i2), .val (.int c0), .val (.int c1), .val (.int d0), .val (.int d1), .val (.int (2 : Int32)), .val (.int (2 : Int32)), .val (.ref b516), .val (.int (0 : Int32))] [(.int (0 : Int32)), (.int (0 : Int32))])
            refine own_step (fun t k => XS.icmpNo X626.here hx rfl (hb hby at_210) rfl (teq (show (0 : Int32) = (0 : Int32) from (by decide))).2 k) ?_
            refine own_step (fun t k => XS.iconst X626.here hx rfl (hb hby at_213) k) ?_
            refine own_step (fun t k => XS.goto X626.here hx rfl (pc0 := 214) (pc' := 218) rfl (hb hby at_214) (by decide) (by decide) k) ?_
            show own_Goes _ _ _ _ T626 (mkF m 218 #[.val (.int p1), .val (.int p2), .val (.int p3), .val (.int p4), .val (.int p5), .val (.int p6), .val (.int i1), .val (.int i2), .val (.int c0), .val (.int c1), .val (.int d0), .val (.int d1), .val (.int (2 : Int32)), .val (.int (2 : Int32)), .val (.ref b516), .val (.int (0 : Int32))] [(.int (1 : Int32))])
            exact own_outW X626 hlk HS0 (Nat.le_trans (Nat.le_trans (Nat.le_trans (Nat.le_trans (Nat.le_refl _) E516.1) Kq529.1) Kq534.1) Kq622.1) hZ hEL e626 HC622 RC622 (v := some (.int (nar .boolean (1 : Int32)))) (fun q => by rw [hrt] at q; cases q) (fun fs hr => retN X626 hx (t := .boolean) hrt (by simp) (hb hby at_218) hr) ⟨rfl, N626⟩ (by decide) (by decide)
      by_cases hc80_628 : (((p5.toUInt32 >>> ((5 : Int32) &&& 31).toUInt32).toInt32) &&& (1 : Int32)) = (0 : Int32)
      · refine own_step (fun t k => XS.ifYes X0.here hx rfl (pc0 := 80) (pc' := 88) rfl (hb hby at_80) rfl ((if0 _ _).trans (teq (show (((p5.toUInt32 >>> ((5 : Int32) &&& 31).toUInt32).toInt32) &&& (1 : Int32)) = (0 : Int32) from hc80_628)).1) (by decide) (by decide) k) ?_
        refine own_step (fun t k => XS.iloadN X0.here hx rfl (hb hby at_88) rfl k) ?_
        refine own_step (fun t k => XS.bipush X0.here hx rfl (hb hby at_89) k) ?_
        refine own_step (fun t k => XS.iushr X0.here hx rfl (hb hby at_91) rfl k) ?_
        refine own_step (fun t k => XS.sipush X0.here hx rfl (hb hby at_92) k) ?_
        show own_Goes _ _ _ _ s₁ (mkF m 95 #[.val (.int p1), .val (.int p2), .val (.int p3), .val (.int p4), .val (.int p5), .val (.int p6), .val (.int i1), .val (.int i2), .val (.int c0), .val (.int c1), .val (.int d0), .unset, .unset, .unset, .unset, .unset] [(.int (255 : Int32)), (.int ((p4.toUInt32 >>> ((8 : Int32) &&& 31).toUInt32).toInt32))])
        refine own_step (fun t k => XS.iand X0.here hx rfl (hb hby at_95) rfl k) ?_
        refine own_step (fun t k => XS.i2c X0.here hx rfl (hb hby at_96) rfl k) ?_
        show own_Goes _ _ _ _ s₁ (mkF m 97 #[.val (.int p1), .val (.int p2), .val (.int p3), .val (.int p4), .val (.int p5), .val (.int p6), .val (.int i1), .val (.int i2), .val (.int c0), .val (.int c1), .val (.int d0), .unset, .unset, .unset, .unset, .unset] [(.int ((((p4.toUInt32 >>> ((8 : Int32) &&& 31).toUInt32).toInt32) &&& (255 : Int32)).toUInt32.toUInt16.toUInt32.toInt32))])
        rw [own_i2c]
        show own_Goes _ _ _ _ s₁ (mkF m 97 #[.val (.int p1), .val (.int p2), .val (.int p3), .val (.int p4), .val (.int p5), .val (.int p6), .val (.int i1), .val (.int i2), .val (.int c0), .val (.int c1), .val (.int d0), .unset, .unset, .unset, .unset, .unset] [(.int (((p4.toUInt32 >>> ((8 : Int32) &&& 31).toUInt32).toInt32) &&& (255 : Int32)))])
        obtain rfl : d1 = (((p4.toUInt32 >>> ((8 : Int32) &&& 31).toUInt32).toInt32) &&& (255 : Int32)) := h5f hc80_628
        exact tail97
      · refine own_step (fun t k => XS.ifNo X0.here hx rfl (hb hby at_80) rfl ((if0 _ _).trans (feq (show ¬ ((((p5.toUInt32 >>> ((5 : Int32) &&& 31).toUInt32).toInt32) &&& (1 : Int32)) = (0 : Int32)) from hc80_628)).1) k) ?_
        refine own_step (fun t k => XS.iload X0.here hx rfl (hb hby at_83) rfl k) ?_
        refine own_step (fun t k => XS.goto X0.here hx rfl (pc0 := 85) (pc' := 97) rfl (hb hby at_85) (by decide) (by decide) k) ?_
        show own_Goes _ _ _ _ s₁ (mkF m 97 #[.val (.int p1), .val (.int p2), .val (.int p3), .val (.int p4), .val (.int p5), .val (.int p6), .val (.int i1), .val (.int i2), .val (.int c0), .val (.int c1), .val (.int d0), .unset, .unset, .unset, .unset, .unset] [(.int c1)])
        obtain rfl : d1 = c1 := h5t hc80_628
        exact tail97
    by_cases hc58_629 : (((p5.toUInt32 >>> ((4 : Int32) &&& 31).toUInt32).toInt32) &&& (1 : Int32)) = (0 : Int32)
    · refine own_step (fun t k => XS.ifYes X0.here hx rfl (pc0 := 58) (pc' := 66) rfl (hb hby at_58) rfl ((if0 _ _).trans (teq (show (((p5.toUInt32 >>> ((4 : Int32) &&& 31).toUInt32).toInt32) &&& (1 : Int32)) = (0 : Int32) from hc58_629)).1) (by decide) (by decide) k) ?_
      refine own_step (fun t k => XS.iloadN X0.here hx rfl (hb hby at_66) rfl k) ?_
      refine own_step (fun t k => XS.sipush X0.here hx rfl (hb hby at_67) k) ?_
      refine own_step (fun t k => XS.iand X0.here hx rfl (hb hby at_70) rfl k) ?_
      refine own_step (fun t k => XS.i2c X0.here hx rfl (hb hby at_71) rfl k) ?_
      show own_Goes _ _ _ _ s₁ (mkF m 72 #[.val (.int p1), .val (.int p2), .val (.int p3), .val (.int p4), .val (.int p5), .val (.int p6), .val (.int i1), .val (.int i2), .val (.int c0), .val (.int c1), .unset, .unset, .unset, .unset, .unset, .unset] [(.int ((p4 &&& (255 : Int32)).toUInt32.toUInt16.toUInt32.toInt32))])
      rw [own_i2c]
      show own_Goes _ _ _ _ s₁ (mkF m 72 #[.val (.int p1), .val (.int p2), .val (.int p3), .val (.int p4), .val (.int p5), .val (.int p6), .val (.int i1), .val (.int i2), .val (.int c0), .val (.int c1), .unset, .unset, .unset, .unset, .unset, .unset] [(.int (p4 &&& (255 : Int32)))])
      obtain rfl : d0 = (p4 &&& (255 : Int32)) := h4f hc58_629
      exact tail72
    · refine own_step (fun t k => XS.ifNo X0.here hx rfl (hb hby at_58) rfl ((if0 _ _).trans (feq (show ¬ ((((p5.toUInt32 >>> ((4 : Int32) &&& 31).toUInt32).toInt32) &&& (1 : Int32)) = (0 : Int32)) from hc58_629)).1) k) ?_
      refine own_step (fun t k => XS.iload X0.here hx rfl (hb hby at_61) rfl k) ?_
      refine own_step (fun t k => XS.goto X0.here hx rfl (pc0 := 63) (pc' := 72) rfl (hb hby at_63) (by decide) (by decide) k) ?_
      show own_Goes _ _ _ _ s₁ (mkF m 72 #[.val (.int p1), .val (.int p2), .val (.int p3), .val (.int p4), .val (.int p5), .val (.int p6), .val (.int i1), .val (.int i2), .val (.int c0), .val (.int c1), .unset, .unset, .unset, .unset, .unset, .unset] [(.int c0)])
      obtain rfl : d0 = c0 := h4t hc58_629
      exact tail72
  by_cases hc16_630 : (((p5.toUInt32 >>> ((6 : Int32) &&& 31).toUInt32).toInt32) &&& (1 : Int32)) = (0 : Int32)
  · refine own_step (fun t k => XS.ifYes X0.here hx rfl (pc0 := 16) (pc' := 24) rfl (hb hby at_16) rfl ((if0 _ _).trans (teq (show (((p5.toUInt32 >>> ((6 : Int32) &&& 31).toUInt32).toInt32) &&& (1 : Int32)) = (0 : Int32) from hc16_630)).1) (by decide) (by decide) k) ?_
    refine own_step (fun t k => XS.iloadN X0.here hx rfl (hb hby at_24) rfl k) ?_
    show own_Goes _ _ _ _ s₁ (mkF m 25 #[.val (.int p1), .val (.int p2), .val (.int p3), .val (.int p4), .val (.int p5), .val (.int p6), .val (.int i1), .unset, .unset, .unset, .unset, .unset, .unset, .unset, .unset, .unset] [(.int p2)])
    refine own_step (X0.ldcInt hx hown (mvT hZ (hw _ (List.mem_of_getElem? (i := 0) rfl))) (g := (mkF m 25 #[.val (.int p1), .val (.int p2), .val (.int p3), .val (.int p4), .val (.int p5), .val (.int p6), .val (.int i1), .unset, .unset, .unset, .unset, .unset, .unset, .unset, .unset, .unset] [(.int p2)])) rfl (hb hby at_25)) ?_
    refine own_step (fun t k => XS.iand X0.here hx rfl (hb hby at_27) rfl k) ?_
    refine own_step (fun t k => XS.bipush X0.here hx rfl (hb hby at_28) k) ?_
    show own_Goes _ _ _ _ s₁ (mkF m 30 #[.val (.int p1), .val (.int p2), .val (.int p3), .val (.int p4), .val (.int p5), .val (.int p6), .val (.int i1), .unset, .unset, .unset, .unset, .unset, .unset, .unset, .unset, .unset] [(.int (10 : Int32)), (.int (p2 &&& (2147483647 : Int32)))])
    refine own_step (fun t k => XS.irem X0.here hx rfl (hb hby at_30) rfl (by decide) k) ?_
    show own_Goes _ _ _ _ s₁ (mkF m 31 #[.val (.int p1), .val (.int p2), .val (.int p3), .val (.int p4), .val (.int p5), .val (.int p6), .val (.int i1), .unset, .unset, .unset, .unset, .unset, .unset, .unset, .unset, .unset] [(.int ((p2 &&& (2147483647 : Int32)) - ((p2 &&& (2147483647 : Int32)) / (10 : Int32)) * (10 : Int32)))])
    obtain rfl : i2 = ((p2 &&& (2147483647 : Int32)) - ((p2 &&& (2147483647 : Int32)) / (10 : Int32)) * (10 : Int32)) := h6f hc16_630
    exact tail31
  · refine own_step (fun t k => XS.ifNo X0.here hx rfl (hb hby at_16) rfl ((if0 _ _).trans (feq (show ¬ ((((p5.toUInt32 >>> ((6 : Int32) &&& 31).toUInt32).toInt32) &&& (1 : Int32)) = (0 : Int32)) from hc16_630)).1) k) ?_
    refine own_step (fun t k => XS.iload X0.here hx rfl (hb hby at_19) rfl k) ?_
    refine own_step (fun t k => XS.goto X0.here hx rfl (pc0 := 21) (pc' := 31) rfl (hb hby at_21) (by decide) (by decide) k) ?_
    show own_Goes _ _ _ _ s₁ (mkF m 31 #[.val (.int p1), .val (.int p2), .val (.int p3), .val (.int p4), .val (.int p5), .val (.int p6), .val (.int i1), .unset, .unset, .unset, .unset, .unset, .unset, .unset, .unset, .unset] [(.int i1)])
    obtain rfl : i2 = i1 := h6t hc16_630
    exact tail31
theorem own_mod (x : Int32) : ((x &&& (2147483647 : Int32)) - ((x &&& (2147483647 : Int32)) / (10 : Int32)) * (10 : Int32)) = (0 : Int32) ∨ ((x &&& (2147483647 : Int32)) - ((x &&& (2147483647 : Int32)) / (10 : Int32)) * (10 : Int32)) = (1 : Int32) ∨ ((x &&& (2147483647 : Int32)) - ((x &&& (2147483647 : Int32)) / (10 : Int32)) * (10 : Int32)) = (2 : Int32) ∨ ((x &&& (2147483647 : Int32)) - ((x &&& (2147483647 : Int32)) / (10 : Int32)) * (10 : Int32)) = (3 : Int32) ∨ ((x &&& (2147483647 : Int32)) - ((x &&& (2147483647 : Int32)) / (10 : Int32)) * (10 : Int32)) = (4 : Int32) ∨ ((x &&& (2147483647 : Int32)) - ((x &&& (2147483647 : Int32)) / (10 : Int32)) * (10 : Int32)) = (5 : Int32) ∨ ((x &&& (2147483647 : Int32)) - ((x &&& (2147483647 : Int32)) / (10 : Int32)) * (10 : Int32)) = (6 : Int32) ∨ ((x &&& (2147483647 : Int32)) - ((x &&& (2147483647 : Int32)) / (10 : Int32)) * (10 : Int32)) = (7 : Int32) ∨ ((x &&& (2147483647 : Int32)) - ((x &&& (2147483647 : Int32)) / (10 : Int32)) * (10 : Int32)) = (8 : Int32) ∨ ((x &&& (2147483647 : Int32)) - ((x &&& (2147483647 : Int32)) / (10 : Int32)) * (10 : Int32)) = (9 : Int32) := by
  rw [irem_eq_mod]
  have h1 := c_mask x (2147483647 : Int32) 31 (by decide) (by decide)
  have h2 := (c_irem (x &&& (2147483647 : Int32)) (10 : Int32) 10 (by decide)).1 (by rw [h1]; omega)
  have h3 : 0 ≤ ((x &&& (2147483647 : Int32)) % (10 : Int32)).toInt ∧ ((x &&& (2147483647 : Int32)) % (10 : Int32)).toInt < 10 := by rw [h2]; omega
  generalize (x &&& (2147483647 : Int32)) % (10 : Int32) = t at *
  have key : ∀ n : Int32, t.toInt = n.toInt → t = n := fun n h => Int32.toInt_inj.mp h
  have e0 : (0 : Int32).toInt = 0 := by decide
  have e1 : (1 : Int32).toInt = 1 := by decide
  have e2 : (2 : Int32).toInt = 2 := by decide
  have e3 : (3 : Int32).toInt = 3 := by decide
  have e4 : (4 : Int32).toInt = 4 := by decide
  have e5 : (5 : Int32).toInt = 5 := by decide
  have e6 : (6 : Int32).toInt = 6 := by decide
  have e7 : (7 : Int32).toInt = 7 := by decide
  have e8 : (8 : Int32).toInt = 8 := by decide
  have e9 : (9 : Int32).toInt = 9 := by decide
  have q : t.toInt = (0 : Int32).toInt ∨ t.toInt = (1 : Int32).toInt ∨ t.toInt = (2 : Int32).toInt ∨ t.toInt = (3 : Int32).toInt ∨ t.toInt = (4 : Int32).toInt ∨ t.toInt = (5 : Int32).toInt ∨ t.toInt = (6 : Int32).toInt ∨ t.toInt = (7 : Int32).toInt ∨ t.toInt = (8 : Int32).toInt ∨ t.toInt = (9 : Int32).toInt := by omega
  rcases q with h | h | h | h | h | h | h | h | h | h
  · exact Or.inl (key _ h)
  · exact Or.inr (Or.inl (key _ h))
  · exact Or.inr (Or.inr (Or.inl (key _ h)))
  · exact Or.inr (Or.inr (Or.inr (Or.inl (key _ h))))
  · exact Or.inr (Or.inr (Or.inr (Or.inr (Or.inl (key _ h)))))
  · exact Or.inr (Or.inr (Or.inr (Or.inr (Or.inr (Or.inl (key _ h))))))
  · exact Or.inr (Or.inr (Or.inr (Or.inr (Or.inr (Or.inr (Or.inl (key _ h)))))))
  · exact Or.inr (Or.inr (Or.inr (Or.inr (Or.inr (Or.inr (Or.inr (Or.inl (key _ h))))))))
  · exact Or.inr (Or.inr (Or.inr (Or.inr (Or.inr (Or.inr (Or.inr (Or.inr (Or.inl (key _ h)))))))))
  · exact Or.inr (Or.inr (Or.inr (Or.inr (Or.inr (Or.inr (Or.inr (Or.inr (Or.inr (key _ h)))))))))
theorem own_la (p5 : Int32) : ((p5 &&& (3 : Int32)) - ((p5 &&& (3 : Int32)) / (3 : Int32)) * (3 : Int32)) = (0 : Int32) ∨ ((p5 &&& (3 : Int32)) - ((p5 &&& (3 : Int32)) / (3 : Int32)) * (3 : Int32)) = (1 : Int32) ∨ ((p5 &&& (3 : Int32)) - ((p5 &&& (3 : Int32)) / (3 : Int32)) * (3 : Int32)) = (2 : Int32) := by
  rw [irem_eq_mod]
  have h1 := c_mask p5 (3 : Int32) 2 (by decide) (by decide)
  have h2 := (c_irem (p5 &&& (3 : Int32)) (3 : Int32) 3 (by decide)).1 (by rw [h1]; omega)
  have h3 : 0 ≤ ((p5 &&& (3 : Int32)) % (3 : Int32)).toInt ∧ ((p5 &&& (3 : Int32)) % (3 : Int32)).toInt < 3 := by rw [h2]; omega
  generalize (p5 &&& (3 : Int32)) % (3 : Int32) = t at *
  have key : ∀ n : Int32, t.toInt = n.toInt → t = n := fun n h => Int32.toInt_inj.mp h
  have d0 : (0 : Int32).toInt = 0 := by decide
  have d1 : (1 : Int32).toInt = 1 := by decide
  have e2 : (2 : Int32).toInt = 2 := by decide
  have q : t.toInt = (0 : Int32).toInt ∨ t.toInt = (1 : Int32).toInt ∨ t.toInt = (2 : Int32).toInt := by omega
  rcases q with h | h | h
  · exact Or.inl (key _ h)
  · exact Or.inr (Or.inl (key _ h))
  · exact Or.inr (Or.inr (key _ h))
theorem own_lb (p5 : Int32) : ((((p5.toUInt32 >>> ((2 : Int32) &&& 31).toUInt32).toInt32) &&& (3 : Int32)) - ((((p5.toUInt32 >>> ((2 : Int32) &&& 31).toUInt32).toInt32) &&& (3 : Int32)) / (3 : Int32)) * (3 : Int32)) = (0 : Int32) ∨ ((((p5.toUInt32 >>> ((2 : Int32) &&& 31).toUInt32).toInt32) &&& (3 : Int32)) - ((((p5.toUInt32 >>> ((2 : Int32) &&& 31).toUInt32).toInt32) &&& (3 : Int32)) / (3 : Int32)) * (3 : Int32)) = (1 : Int32) ∨ ((((p5.toUInt32 >>> ((2 : Int32) &&& 31).toUInt32).toInt32) &&& (3 : Int32)) - ((((p5.toUInt32 >>> ((2 : Int32) &&& 31).toUInt32).toInt32) &&& (3 : Int32)) / (3 : Int32)) * (3 : Int32)) = (2 : Int32) := by
  rw [irem_eq_mod]
  have h1 := c_mask ((p5.toUInt32 >>> ((2 : Int32) &&& 31).toUInt32).toInt32) (3 : Int32) 2 (by decide) (by decide)
  have h2 := (c_irem (((p5.toUInt32 >>> ((2 : Int32) &&& 31).toUInt32).toInt32) &&& (3 : Int32)) (3 : Int32) 3 (by decide)).1 (by rw [h1]; omega)
  have h3 : 0 ≤ ((((p5.toUInt32 >>> ((2 : Int32) &&& 31).toUInt32).toInt32) &&& (3 : Int32)) % (3 : Int32)).toInt ∧ ((((p5.toUInt32 >>> ((2 : Int32) &&& 31).toUInt32).toInt32) &&& (3 : Int32)) % (3 : Int32)).toInt < 3 := by rw [h2]; omega
  generalize (((p5.toUInt32 >>> ((2 : Int32) &&& 31).toUInt32).toInt32) &&& (3 : Int32)) % (3 : Int32) = t at *
  have key : ∀ n : Int32, t.toInt = n.toInt → t = n := fun n h => Int32.toInt_inj.mp h
  have d0 : (0 : Int32).toInt = 0 := by decide
  have d1 : (1 : Int32).toInt = 1 := by decide
  have e2 : (2 : Int32).toInt = 2 := by decide
  have q : t.toInt = (0 : Int32).toInt ∨ t.toInt = (1 : Int32).toInt ∨ t.toInt = (2 : Int32).toInt := by omega
  rcases q with h | h | h
  · exact Or.inl (key _ h)
  · exact Or.inr (Or.inl (key _ h))
  · exact Or.inr (Or.inr (key _ h))
theorem own_law (l : Launch) (Z : State) (a0 : Array Value) (hw : ∀ d ∈ tables_1, d.before a0 Z = true) (ws : List Jvm.Cond) (p1 : Int32) (p2 : Int32) (p3 : Int32) (p4 : Int32) (p5 : Int32) (p6 : Int32) (i1 : Int32) (i2 : Int32) (c0 : Int32) (c1 : Int32) (d0 : Int32) (d1 : Int32) (zc : Int32) (y1 : Addr) (y2 : Addr) (w_HEADER : Addr) (w_IDENTIFIER : Addr) (w_NUMBER : Addr) (w_STRING : Addr) (w_ALIAS : Addr) (w_SYMBOL : Addr) (w_BODY : Addr) (w_END : Addr) (w_ABORT : Addr) (w_EOF : Addr) (h0 : Heap) (n0 : Nat) (Z0 : n0 ≤ h0.size) (S_COMPACT_STRINGS : Sta Z h0 "java/lang/String" "COMPACT_STRINGS" "Z" (.int zc)) (S_HEADER : Sta Z h0 "com/example/weaverbird/weaverbird/automaton/HoaLexer$Type" "HEADER" "Lcom/example/weaverbird/weaverbird/automaton/HoaLexer$Type;" (.ref w_HEADER)) (S_IDENTIFIER : Sta Z h0 "com/example/weaverbird/weaverbird/automaton/HoaLexer$Type" "IDENTIFIER" "Lcom/example/weaverbird/weaverbird/automaton/HoaLexer$Type;" (.ref w_IDENTIFIER)) (S_NUMBER : Sta Z h0 "com/example/weaverbird/weaverbird/automaton/HoaLexer$Type" "NUMBER" "Lcom/example/weaverbird/weaverbird/automaton/HoaLexer$Type;" (.ref w_NUMBER)) (S_STRING : Sta Z h0 "com/example/weaverbird/weaverbird/automaton/HoaLexer$Type" "STRING" "Lcom/example/weaverbird/weaverbird/automaton/HoaLexer$Type;" (.ref w_STRING)) (S_ALIAS : Sta Z h0 "com/example/weaverbird/weaverbird/automaton/HoaLexer$Type" "ALIAS" "Lcom/example/weaverbird/weaverbird/automaton/HoaLexer$Type;" (.ref w_ALIAS)) (S_SYMBOL : Sta Z h0 "com/example/weaverbird/weaverbird/automaton/HoaLexer$Type" "SYMBOL" "Lcom/example/weaverbird/weaverbird/automaton/HoaLexer$Type;" (.ref w_SYMBOL)) (S_BODY : Sta Z h0 "com/example/weaverbird/weaverbird/automaton/HoaLexer$Type" "BODY" "Lcom/example/weaverbird/weaverbird/automaton/HoaLexer$Type;" (.ref w_BODY)) (S_END : Sta Z h0 "com/example/weaverbird/weaverbird/automaton/HoaLexer$Type" "END" "Lcom/example/weaverbird/weaverbird/automaton/HoaLexer$Type;" (.ref w_END)) (S_ABORT : Sta Z h0 "com/example/weaverbird/weaverbird/automaton/HoaLexer$Type" "ABORT" "Lcom/example/weaverbird/weaverbird/automaton/HoaLexer$Type;" (.ref w_ABORT)) (S_EOF : Sta Z h0 "com/example/weaverbird/weaverbird/automaton/HoaLexer$Type" "EOF" "Lcom/example/weaverbird/weaverbird/automaton/HoaLexer$Type;" (.ref w_EOF)) (hz : ¬ (zc = (0 : Int32))) (hi1 : ((p1 &&& (2147483647 : Int32)) - ((p1 &&& (2147483647 : Int32)) / (10 : Int32)) * (10 : Int32)) = i1) (h6t : ¬ ((((p5.toUInt32 >>> ((6 : Int32) &&& 31).toUInt32).toInt32) &&& (1 : Int32)) = (0 : Int32)) → i2 = i1) (h6f : (((p5.toUInt32 >>> ((6 : Int32) &&& 31).toUInt32).toInt32) &&& (1 : Int32)) = (0 : Int32) → i2 = ((p2 &&& (2147483647 : Int32)) - ((p2 &&& (2147483647 : Int32)) / (10 : Int32)) * (10 : Int32))) (hc0e : (p3 &&& (255 : Int32)) = c0) (hc1e : (((p3.toUInt32 >>> ((8 : Int32) &&& 31).toUInt32).toInt32) &&& (255 : Int32)) = c1) (h4t : ¬ ((((p5.toUInt32 >>> ((4 : Int32) &&& 31).toUInt32).toInt32) &&& (1 : Int32)) = (0 : Int32)) → d0 = c0) (h4f : (((p5.toUInt32 >>> ((4 : Int32) &&& 31).toUInt32).toInt32) &&& (1 : Int32)) = (0 : Int32) → d0 = (p4 &&& (255 : Int32))) (h5t : ¬ ((((p5.toUInt32 >>> ((5 : Int32) &&& 31).toUInt32).toInt32) &&& (1 : Int32)) = (0 : Int32)) → d1 = c1) (h5f : (((p5.toUInt32 >>> ((5 : Int32) &&& 31).toUInt32).toInt32) &&& (1 : Int32)) = (0 : Int32) → d1 = (((p4.toUInt32 >>> ((8 : Int32) &&& 31).toUInt32).toInt32) &&& (255 : Int32))) (hc0a : ¬ (c0 < (0 : Int32))) (hc0b : ¬ ((255 : Int32) < c0)) (hc1a : ¬ (c1 < (0 : Int32))) (hc1b : ¬ ((255 : Int32) < c1)) (hd0a : ¬ (d0 < (0 : Int32))) (hd0b : ¬ ((255 : Int32) < d0)) (hd1a : ¬ (d1 < (0 : Int32))) (hd1b : ¬ ((255 : Int32) < d1)) (hy1 : own_typ i1 w_HEADER w_IDENTIFIER w_NUMBER w_STRING w_ALIAS w_SYMBOL w_BODY w_END w_ABORT w_EOF = y1) (hy2 : own_typ i2 w_HEADER w_IDENTIFIER w_NUMBER w_STRING w_ALIAS w_SYMBOL w_BODY w_END w_ABORT w_EOF = y2) (hyeq : i1 = i2 → y1 = y2) (hyne : ¬ (i1 = i2) → ¬ (y1 = y2)) : own_MetW l Z own_EL x code maxLocals ret ws room_1 #[(.int p1), (.int p2), (.int p3), (.int p4), (.int p5), (.int p6)] h0 (fun v h L => v = some (.int 1) ∧ Fr n0 L) := by
  have hlab : ∀ la lb : Int32, (la = (0 : Int32) ∨ la = (1 : Int32) ∨ la = (2 : Int32)) → (lb = (0 : Int32) ∨ lb = (1 : Int32) ∨ lb = (2 : Int32)) → ((la = (0 : Int32) ∧ lb = (0 : Int32)) ∨ (la = (0 : Int32) ∧ lb = (1 : Int32)) ∨ (la = (0 : Int32) ∧ lb = (2 : Int32)) ∨ (la = (1 : Int32) ∧ lb = (0 : Int32)) ∨ (la = (1 : Int32) ∧ lb = (1 : Int32)) ∨ (la = (1 : Int32) ∧ lb = (2 : Int32)) ∨ (la = (2 : Int32) ∧ lb = (0 : Int32)) ∨ (la = (2 : Int32) ∧ lb = (1 : Int32)) ∨ (la = (2 : Int32) ∧ lb = (2 : Int32))) := by
    rintro la lb (rfl | rfl | rfl) (rfl | rfl | rfl) <;> decide
  exact own_law0 l Z a0 hw ws p1 p2 p3 p4 p5 p6 i1 i2 c0 c1 d0 d1 zc y1 y2 w_HEADER w_IDENTIFIER w_NUMBER w_STRING w_ALIAS w_SYMBOL w_BODY w_END w_ABORT w_EOF ((p5 &&& (3 : Int32)) - ((p5 &&& (3 : Int32)) / (3 : Int32)) * (3 : Int32)) ((((p5.toUInt32 >>> ((2 : Int32) &&& 31).toUInt32).toInt32) &&& (3 : Int32)) - ((((p5.toUInt32 >>> ((2 : Int32) &&& 31).toUInt32).toInt32) &&& (3 : Int32)) / (3 : Int32)) * (3 : Int32)) h0 n0 Z0 S_COMPACT_STRINGS S_HEADER S_IDENTIFIER S_NUMBER S_STRING S_ALIAS S_SYMBOL S_BODY S_END S_ABORT S_EOF hz hi1 h6t h6f hc0e hc1e h4t h4f h5t h5f hc0a hc0b hc1a hc1b hd0a hd0b hd1a hd1b hy1 hy2 hyeq hyne rfl rfl (hlab _ _ (own_la p5) (own_lb p5))
set_option maxRecDepth 65536 in
set_option maxHeartbeats 40000000 in
theorem comes_1 {Post : Tables → Env → Array Value → State → Outcome → State → Prop} (hpost : ∀ tb e args s v u, (limb_1_1.after args s (.returned v) u = true ∧ limb_1_2.after args s (.returned v) u = true ∧ True) → ReturnedEndW s (.returned v) u (Jvm.fieldLocs frame_1_writes args s ++ Jvm.arrayLocs frame_1_arrays args s ++ Jvm.staticLocs frame_1_statics s) 24 1152 → Post tb e args s (.returned v) u) :
    ArmFor flags0 classFile x code maxLocals ret World_1 tables_1 room_1 Calls_1 rest_1 Pre_1 Post := by
  intro l hfl _ _ p e ha hc hk s m args below hf hA hF happ hP
  obtain ⟨hcalls, hrest, hpre⟩ := hP
  obtain ⟨-, -, -, hnamed, -, -, -, hat⟩ := (Spec.applies_iff hf).mp happ
  obtain ⟨hg, hn⟩ := and_e (Cond.before_iff.mp (show (Jvm.Cond.and given_1 narrow_1).before args s = true from hpre))
  obtain ⟨q1, q2⟩ := and_e hg
  obtain ⟨q3, q4⟩ := and_e q2
  obtain ⟨q5, q6⟩ := and_e q4
  obtain ⟨q7, q8⟩ := and_e q6
  obtain ⟨q9, q10⟩ := and_e q8
  obtain ⟨q11, q12⟩ := and_e q10
  obtain ⟨q13, q14⟩ := and_e hn
  obtain ⟨q15, q16⟩ := and_e q14
  obtain ⟨q17, q18⟩ := and_e q16
  obtain ⟨q19, q20⟩ := and_e q18
  obtain ⟨q21, q22⟩ := and_e q20
  obtain ⟨q23, q24⟩ := and_e q22
  obtain ⟨q25, q26⟩ := and_e q24
  obtain ⟨q27, q28⟩ := and_e q26
  obtain ⟨q29, q30⟩ := and_e q28
  obtain ⟨q31, q32⟩ := and_e q30
  obtain ⟨q33, q34⟩ := and_e q32
  obtain ⟨q35, q36⟩ := and_e q34
  obtain ⟨q37, q38⟩ := and_e q36
  obtain ⟨q39, q40⟩ := and_e q38
  obtain ⟨q41, q42⟩ := and_e q40
  obtain ⟨q43, q44⟩ := and_e q42
  obtain ⟨q45, q46⟩ := and_e q44
  obtain ⟨q47, q48⟩ := and_e q46
  obtain ⟨q49, q50⟩ := and_e q48
  obtain ⟨w0, w1, w2, w3, w4, w5, rfl⟩ : ∃ w0 w1 w2 w3 w4 w5 : Value, args = #[w0, w1, w2, w3, w4, w5] := by
    have hs : args.size = 6 := by simpa [Cond.value, given_1] using q1
    obtain ⟨L⟩ := args
    match L, hs with
    | [w0, w1, w2, w3, w4, w5], _ => exact ⟨w0, w1, w2, w3, w4, w5, rfl⟩
  have hw := fun d (hd : d ∈ tables_1) => atoms_spec (ws := Jvm.Cond.code x code maxLocals ret :: tables_1) hat d (List.mem_cons_of_mem _ hd)
  have hfit : Fit s := fun {y c} hc i hi => by
    obtain ⟨ha, rfl⟩ := Array.getElem?_eq_some_iff.mp hc
    have q := List.all_eq_true.mp ((Array.all_eq_true_iff_forall_mem.mp hF) _ (Array.getElem_mem ha)) i (List.mem_range.mpr hi)
    simpa [Array.getElem?_eq_getElem hi] using q
  obtain ⟨hsets, hown0⟩ := atoms_of _ (rest_1_c_eq ▸ (show rest_1_c.before _ s = true from hrest))
  have hr0 := Cond.before_iff.mp hown0
  obtain ⟨i0, ei0⟩ := is_v q3
  obtain rfl : w0 = (.int i0) := Option.some.inj ei0
  obtain ⟨i1, ei1⟩ := is_v q5
  obtain rfl : w1 = (.int i1) := Option.some.inj ei1
  obtain ⟨i2, ei2⟩ := is_v q7
  obtain rfl : w2 = (.int i2) := Option.some.inj ei2
  obtain ⟨i3, ei3⟩ := is_v q9
  obtain rfl : w3 = (.int i3) := Option.some.inj ei3
  obtain ⟨i4, ei4⟩ := is_v q11
  obtain rfl : w4 = (.int i4) := Option.some.inj ei4
  obtain ⟨i5, ei5⟩ := is_v q12
  obtain rfl : w5 = (.int i5) := Option.some.inj ei5
  obtain ⟨w_HEADER, ev_HEADER⟩ := exa_v q13
  have S_HEADER : Sta s s.heap "com/example/weaverbird/weaverbird/automaton/HoaLexer$Type" "HEADER" "Lcom/example/weaverbird/weaverbird/automaton/HoaLexer$Type;" (.ref w_HEADER) := Sta.start ev_HEADER (Or.inr ⟨(hw _ (List.mem_of_getElem? (i := 9) rfl)), (hw _ (List.mem_of_getElem? (i := 10) rfl))⟩)
  have E_w_HEADER : Exa s s.heap w_HEADER "com/example/weaverbird/weaverbird/automaton/HoaLexer$Type" := Exa.start ev_HEADER q13
  obtain ⟨w_STRING, ev_STRING⟩ := exa_v q15
  have S_STRING : Sta s s.heap "com/example/weaverbird/weaverbird/automaton/HoaLexer$Type" "STRING" "Lcom/example/weaverbird/weaverbird/automaton/HoaLexer$Type;" (.ref w_STRING) := Sta.start ev_STRING (Or.inr ⟨(hw _ (List.mem_of_getElem? (i := 9) rfl)), (hw _ (List.mem_of_getElem? (i := 52) rfl))⟩)
  have E_w_STRING : Exa s s.heap w_STRING "com/example/weaverbird/weaverbird/automaton/HoaLexer$Type" := Exa.start ev_STRING q15
  obtain ⟨w_ALIAS, ev_ALIAS⟩ := exa_v q21
  have S_ALIAS : Sta s s.heap "com/example/weaverbird/weaverbird/automaton/HoaLexer$Type" "ALIAS" "Lcom/example/weaverbird/weaverbird/automaton/HoaLexer$Type;" (.ref w_ALIAS) := Sta.start ev_ALIAS (Or.inr ⟨(hw _ (List.mem_of_getElem? (i := 9) rfl)), (hw _ (List.mem_of_getElem? (i := 59) rfl))⟩)
  have E_w_ALIAS : Exa s s.heap w_ALIAS "com/example/weaverbird/weaverbird/automaton/HoaLexer$Type" := Exa.start ev_ALIAS q21
  obtain ⟨w_ABORT, ev_ABORT⟩ := exa_v q25
  have S_ABORT : Sta s s.heap "com/example/weaverbird/weaverbird/automaton/HoaLexer$Type" "ABORT" "Lcom/example/weaverbird/weaverbird/automaton/HoaLexer$Type;" (.ref w_ABORT) := Sta.start ev_ABORT (Or.inr ⟨(hw _ (List.mem_of_getElem? (i := 9) rfl)), (hw _ (List.mem_of_getElem? (i := 82) rfl))⟩)
  have E_w_ABORT : Exa s s.heap w_ABORT "com/example/weaverbird/weaverbird/automaton/HoaLexer$Type" := Exa.start ev_ABORT q25
  obtain ⟨w_SYMBOL, ev_SYMBOL⟩ := exa_v q27
  have S_SYMBOL : Sta s s.heap "com/example/weaverbird/weaverbird/automaton/HoaLexer$Type" "SYMBOL" "Lcom/example/weaverbird/weaverbird/automaton/HoaLexer$Type;" (.ref w_SYMBOL) := Sta.start ev_SYMBOL (Or.inr ⟨(hw _ (List.mem_of_getElem? (i := 9) rfl)), (hw _ (List.mem_of_getElem? (i := 84) rfl))⟩)
  have E_w_SYMBOL : Exa s s.heap w_SYMBOL "com/example/weaverbird/weaverbird/automaton/HoaLexer$Type" := Exa.start ev_SYMBOL q27
  obtain ⟨w_NUMBER, ev_NUMBER⟩ := exa_v q31
  have S_NUMBER : Sta s s.heap "com/example/weaverbird/weaverbird/automaton/HoaLexer$Type" "NUMBER" "Lcom/example/weaverbird/weaverbird/automaton/HoaLexer$Type;" (.ref w_NUMBER) := Sta.start ev_NUMBER (Or.inr ⟨(hw _ (List.mem_of_getElem? (i := 9) rfl)), (hw _ (List.mem_of_getElem? (i := 86) rfl))⟩)
  have E_w_NUMBER : Exa s s.heap w_NUMBER "com/example/weaverbird/weaverbird/automaton/HoaLexer$Type" := Exa.start ev_NUMBER q31
  obtain ⟨w_END, ev_END⟩ := exa_v q37
  have S_END : Sta s s.heap "com/example/weaverbird/weaverbird/automaton/HoaLexer$Type" "END" "Lcom/example/weaverbird/weaverbird/automaton/HoaLexer$Type;" (.ref w_END) := Sta.start ev_END (Or.inr ⟨(hw _ (List.mem_of_getElem? (i := 9) rfl)), (hw _ (List.mem_of_getElem? (i := 88) rfl))⟩)
  have E_w_END : Exa s s.heap w_END "com/example/weaverbird/weaverbird/automaton/HoaLexer$Type" := Exa.start ev_END q37
  obtain ⟨w_IDENTIFIER, ev_IDENTIFIER⟩ := exa_v q41
  have S_IDENTIFIER : Sta s s.heap "com/example/weaverbird/weaverbird/automaton/HoaLexer$Type" "IDENTIFIER" "Lcom/example/weaverbird/weaverbird/automaton/HoaLexer$Type;" (.ref w_IDENTIFIER) := Sta.start ev_IDENTIFIER (Or.inr ⟨(hw _ (List.mem_of_getElem? (i := 9) rfl)), (hw _ (List.mem_of_getElem? (i := 90) rfl))⟩)
  have E_w_IDENTIFIER : Exa s s.heap w_IDENTIFIER "com/example/weaverbird/weaverbird/automaton/HoaLexer$Type" := Exa.start ev_IDENTIFIER q41
  obtain ⟨w_BODY, ev_BODY⟩ := exa_v q45
  have S_BODY : Sta s s.heap "com/example/weaverbird/weaverbird/automaton/HoaLexer$Type" "BODY" "Lcom/example/weaverbird/weaverbird/automaton/HoaLexer$Type;" (.ref w_BODY) := Sta.start ev_BODY (Or.inr ⟨(hw _ (List.mem_of_getElem? (i := 9) rfl)), (hw _ (List.mem_of_getElem? (i := 92) rfl))⟩)
  have E_w_BODY : Exa s s.heap w_BODY "com/example/weaverbird/weaverbird/automaton/HoaLexer$Type" := Exa.start ev_BODY q45
  obtain ⟨w_EOF, ev_EOF⟩ := exa_v q49
  have S_EOF : Sta s s.heap "com/example/weaverbird/weaverbird/automaton/HoaLexer$Type" "EOF" "Lcom/example/weaverbird/weaverbird/automaton/HoaLexer$Type;" (.ref w_EOF) := Sta.start ev_EOF (Or.inr ⟨(hw _ (List.mem_of_getElem? (i := 9) rfl)), (hw _ (List.mem_of_getElem? (i := 94) rfl))⟩)
  have E_w_EOF : Exa s s.heap w_EOF "com/example/weaverbird/weaverbird/automaton/HoaLexer$Type" := Exa.start ev_EOF q49
  have F_w_HEADER_ordinal : Fld s s.heap w_HEADER "java/lang/Enum" "ordinal" "I" (.int (0 : Int32)) := own_fldI ev_HEADER q17
  have F_w_STRING_ordinal : Fld s s.heap w_STRING "java/lang/Enum" "ordinal" "I" (.int (3 : Int32)) := own_fldI ev_STRING q19
  have F_w_ALIAS_ordinal : Fld s s.heap w_ALIAS "java/lang/Enum" "ordinal" "I" (.int (4 : Int32)) := own_fldI ev_ALIAS q23
  have F_w_ABORT_ordinal : Fld s s.heap w_ABORT "java/lang/Enum" "ordinal" "I" (.int (8 : Int32)) := own_fldI ev_ABORT q29
  have F_w_NUMBER_ordinal : Fld s s.heap w_NUMBER "java/lang/Enum" "ordinal" "I" (.int (2 : Int32)) := own_fldI ev_NUMBER q33
  have F_w_SYMBOL_ordinal : Fld s s.heap w_SYMBOL "java/lang/Enum" "ordinal" "I" (.int (5 : Int32)) := own_fldI ev_SYMBOL q35
  have F_w_END_ordinal : Fld s s.heap w_END "java/lang/Enum" "ordinal" "I" (.int (7 : Int32)) := own_fldI ev_END q39
  have F_w_IDENTIFIER_ordinal : Fld s s.heap w_IDENTIFIER "java/lang/Enum" "ordinal" "I" (.int (1 : Int32)) := own_fldI ev_IDENTIFIER q43
  have F_w_BODY_ordinal : Fld s s.heap w_BODY "java/lang/Enum" "ordinal" "I" (.int (6 : Int32)) := own_fldI ev_BODY q47
  have F_w_EOF_ordinal : Fld s s.heap w_EOF "java/lang/Enum" "ordinal" "I" (.int (9 : Int32)) := own_fldI ev_EOF q50
  obtain ⟨zc, evc⟩ := is_v (Cond.before_iff.mp (hsets _ (List.mem_of_getElem? (i := 1) rfl)))
  have S_COMPACT_STRINGS : Sta s s.heap "java/lang/String" "COMPACT_STRINGS" "Z" (.int zc) := Sta.start evc (Or.inl (hsets _ (List.mem_of_getElem? (i := 0) rfl)))
  have hz : ¬ (zc = (0 : Int32)) := by
    have q := not_v (Cond.before_iff.mp (hsets _ (List.mem_of_getElem? (i := 2) rfl)))
    intro z
    subst z
    simp [Jvm.Cond.value, evc, Term.int_eval] at q
  have hh : ∀ p ∈ own_EL, Jvm.Lit.constHeld s p.1 p.2 := hcalls.1
  have hCH : CHv s own_EL s.vm s.heap := CHv.start (own_hEL hw) hh (hsets _ (List.mem_of_getElem? (i := 2) rfl)) (hw _ (List.mem_of_getElem? (i := 29) rfl)) (hw _ (List.mem_of_getElem? (i := 15) rfl))
  have FO : ∀ k : Int32, (k = (0 : Int32) ∨ k = (1 : Int32) ∨ k = (2 : Int32) ∨ k = (3 : Int32) ∨ k = (4 : Int32) ∨ k = (5 : Int32) ∨ k = (6 : Int32) ∨ k = (7 : Int32) ∨ k = (8 : Int32) ∨ k = (9 : Int32)) → Fld s s.heap (own_typ k w_HEADER w_IDENTIFIER w_NUMBER w_STRING w_ALIAS w_SYMBOL w_BODY w_END w_ABORT w_EOF) "java/lang/Enum" "ordinal" "I" (.int k) := by
    intro k hk
    rcases hk with rfl | rfl | rfl | rfl | rfl | rfl | rfl | rfl | rfl | rfl
    · exact F_w_HEADER_ordinal
    · exact F_w_IDENTIFIER_ordinal
    · exact F_w_NUMBER_ordinal
    · exact F_w_STRING_ordinal
    · exact F_w_ALIAS_ordinal
    · exact F_w_SYMBOL_ordinal
    · exact F_w_BODY_ordinal
    · exact F_w_END_ordinal
    · exact F_w_ABORT_ordinal
    · exact F_w_EOF_ordinal
  have m1 := own_mod i0
  have m2 := own_mod i1
  obtain ⟨j2, h6t, h6f, m3⟩ : ∃ j2 : Int32, (¬ ((((i4.toUInt32 >>> ((6 : Int32) &&& 31).toUInt32).toInt32) &&& (1 : Int32)) = (0 : Int32)) → j2 = ((i0 &&& (2147483647 : Int32)) - ((i0 &&& (2147483647 : Int32)) / (10 : Int32)) * (10 : Int32))) ∧ ((((i4.toUInt32 >>> ((6 : Int32) &&& 31).toUInt32).toInt32) &&& (1 : Int32)) = (0 : Int32) → j2 = ((i1 &&& (2147483647 : Int32)) - ((i1 &&& (2147483647 : Int32)) / (10 : Int32)) * (10 : Int32))) ∧ (j2 = (0 : Int32) ∨ j2 = (1 : Int32) ∨ j2 = (2 : Int32) ∨ j2 = (3 : Int32) ∨ j2 = (4 : Int32) ∨ j2 = (5 : Int32) ∨ j2 = (6 : Int32) ∨ j2 = (7 : Int32) ∨ j2 = (8 : Int32) ∨ j2 = (9 : Int32)) := by
    by_cases q : (((i4.toUInt32 >>> ((6 : Int32) &&& 31).toUInt32).toInt32) &&& (1 : Int32)) = (0 : Int32)
    · exact ⟨_, fun z => absurd q z, fun _ => rfl, m2⟩
    · exact ⟨_, fun _ => rfl, fun z => absurd z q, m1⟩
  obtain ⟨d0, h4t, h4f, hd0a, hd0b⟩ : ∃ ee : Int32, (¬ ((((i4.toUInt32 >>> ((4 : Int32) &&& 31).toUInt32).toInt32) &&& (1 : Int32)) = (0 : Int32)) → ee = (i2 &&& (255 : Int32))) ∧ ((((i4.toUInt32 >>> ((4 : Int32) &&& 31).toUInt32).toInt32) &&& (1 : Int32)) = (0 : Int32) → ee = (i3 &&& (255 : Int32))) ∧ ¬ (ee < (0 : Int32)) ∧ ¬ ((255 : Int32) < ee) := by
    by_cases q : (((i4.toUInt32 >>> ((4 : Int32) &&& 31).toUInt32).toInt32) &&& (1 : Int32)) = (0 : Int32)
    · exact ⟨_, fun z => absurd q z, fun _ => rfl, (own_m255 _).1, (own_m255 _).2⟩
    · exact ⟨_, fun _ => rfl, fun z => absurd z q, (own_m255 _).1, (own_m255 _).2⟩
  obtain ⟨d1, h5t, h5f, hd1a, hd1b⟩ : ∃ ee : Int32, (¬ ((((i4.toUInt32 >>> ((5 : Int32) &&& 31).toUInt32).toInt32) &&& (1 : Int32)) = (0 : Int32)) → ee = (((i2.toUInt32 >>> ((8 : Int32) &&& 31).toUInt32).toInt32) &&& (255 : Int32))) ∧ ((((i4.toUInt32 >>> ((5 : Int32) &&& 31).toUInt32).toInt32) &&& (1 : Int32)) = (0 : Int32) → ee = (((i3.toUInt32 >>> ((8 : Int32) &&& 31).toUInt32).toInt32) &&& (255 : Int32))) ∧ ¬ (ee < (0 : Int32)) ∧ ¬ ((255 : Int32) < ee) := by
    by_cases q : (((i4.toUInt32 >>> ((5 : Int32) &&& 31).toUInt32).toInt32) &&& (1 : Int32)) = (0 : Int32)
    · exact ⟨_, fun z => absurd q z, fun _ => rfl, (own_m255 _).1, (own_m255 _).2⟩
    · exact ⟨_, fun _ => rfl, fun z => absurd z q, (own_m255 _).1, (own_m255 _).2⟩
  · skip
    obtain ⟨n, o, h1, h2, h3, _, L, rfl, ⟨rfl, N⟩, -, hq⟩ := own_law l s _ hw tables_1 i0 i1 i2 i3 i4 i5 ((i0 &&& (2147483647 : Int32)) - ((i0 &&& (2147483647 : Int32)) / (10 : Int32)) * (10 : Int32)) j2 (i2 &&& (255 : Int32)) (((i2.toUInt32 >>> ((8 : Int32) &&& 31).toUInt32).toInt32) &&& (255 : Int32)) d0 d1 zc (own_typ ((i0 &&& (2147483647 : Int32)) - ((i0 &&& (2147483647 : Int32)) / (10 : Int32)) * (10 : Int32)) w_HEADER w_IDENTIFIER w_NUMBER w_STRING w_ALIAS w_SYMBOL w_BODY w_END w_ABORT w_EOF) (own_typ j2 w_HEADER w_IDENTIFIER w_NUMBER w_STRING w_ALIAS w_SYMBOL w_BODY w_END w_ABORT w_EOF) w_HEADER w_IDENTIFIER w_NUMBER w_STRING w_ALIAS w_SYMBOL w_BODY w_END w_ABORT w_EOF s.heap s.heap.size (Nat.le_refl _) S_COMPACT_STRINGS S_HEADER S_IDENTIFIER S_NUMBER S_STRING S_ALIAS S_SYMBOL S_BODY S_END S_ABORT S_EOF hz rfl h6t h6f rfl rfl h4t h4f h5t h5f (own_m255 _).1 (own_m255 _).2 (own_m255 _).1 (own_m255 _).2 hd0a hd0b hd1a hd1b rfl rfl (fun q => by rw [q]) (fun q => (FO _ m1).ne (FO _ m3) (fun z => q (Value.int.inj z))) p e ha hc hk s m _ below hf ((Spec.applies_iff_loose hf).mp happ).1 ⟨rfl, State.Warmed39.refl s, rfl, hCH⟩ trivial
    exact ⟨n, _, h1, h2, h3, hpost _ _ _ _ _ _ ⟨Cond.after_iff.mpr rfl, Cond.after_iff.mpr (eq_i res_at (Term.int_eval (1)) rfl), trivial⟩ ⟨hq.1, hq.2.1, hq.2.2.1, (hq.2.2.2.sift fun y hy => Or.inr (N y hy)).mono (by decide) (by decide)⟩⟩
theorem main_1_1 : Claimed_1_1 := comes_1 fun _ _ _ _ _ _ h hF => ⟨h.1, hF⟩
theorem main_1_2 : Claimed_1_2 := comes_1 fun _ _ _ _ _ _ h hF => ⟨h.2.1, hF⟩
end Jvm.Pilot.@@N@@
namespace Jvm.Pilot.@@N@@
open Jvm Jvm.ClassFile Sem Op Lib Jvm.Free Jvm.Stand Jvm.Pilot.@@N@@.Jvm.D
/-! MADE BY PROGRAM (witnessworld.py) out of the Statement's table words and the real class files: 23 classes; the members and pool entries that the words name. The judged class is class 1, her method 3. -/
namespace start1
open Jvm.ClassFile
def u (s : String) : CpInfo := .utf8 (stringToUtf16 s)
/-- a pool by its gaps: so many unusable entries, then the entry; so many at the end -/
def gap : Nat → List CpInfo → List CpInfo
  | 0, r => r
  | n + 1, r => .unusable :: gap n r
def poolList (es : List (Nat × CpInfo)) (last : Nat) : List CpInfo := es.foldr (fun e r => gap e.1 (e.2 :: r)) (gap last [])
def pool (es : List (Nat × CpInfo)) (last : Nat) : Array CpInfo := ⟨poolList es last⟩
def fileOf (pool : Array CpInfo) (this : Nat) (attrs : Array Attribute := #[]) (ms : Array MethodInfo := #[]) (fl : Nat := 33) (sup : Nat := 0) (ifs : Array Nat := #[]) (fds : Array FieldInfo := #[]) : ClassFile where
  minorVersion := 0
  majorVersion := 65
  constantPool := pool
  accessFlags := fl
  thisClass := this
  superClass := sup
  interfaces := ifs
  fields := fds
  methods := ms
  attributes := attrs
def plain (name : String) (sup : Option ClassId) : Class where
  name := name
  kind := .ordinary
  loader := none
  accessFlags := 33
  super := sup
  interfaces := #[]
  cf := none
  fields := #[]
  methods := #[]
  instanceTypes := #[]
  staticTypes := #[]
  resolved := #[]
  callSites := []
  init := .initialized
  statics := none
  mirror := none

def pool0 : Array CpInfo := pool [(5, u "<init>"), (0, u "()V"), (1, .class_ 10), (1, u "java/lang/Object")] 113

def k0c0 : Code := { maxStack := 0, maxLocals := 1, code := object_method_1_code, exceptionTable := #[], attributes := #[] }
def k0m0 : Method := { name := "<init>", desc := "()V", sig := { parameters := [], returnType := none }, accessFlags := 1, code := some k0c0 }
/-- java/lang/Object -/
def k0 : Class := { plain "java/lang/Object" none with
  accessFlags := 33
  interfaces := #[]
  cf := some (fileOf pool0 8 #[] #[{ accessFlags := 1, nameIndex := 5, descriptorIndex := 6, attributes := #[] }] 33 0 #[] #[])
  fields := #[]
  methods := #[k0m0]
  instanceTypes := #[]
  staticTypes := #[]
  resolved := Array.replicate 124 none
  statics := none }

def pool1 : Array CpInfo := pool [(2, .class_ 4), (1, u "java/lang/Object"), (0, u "<init>"), (0, u "()V"), (0, .fieldref 8 9), (0, .class_ 10), (0, .nameAndType 11 12), (0, u "com/example/weaverbird/weaverbird/automaton/HoaLexer$Type"), (0, u "HEADER"), (0, u "Lcom/example/weaverbird/weaverbird/automaton/HoaLexer$Type;"), (0, .fieldref 8 14), (0, .nameAndType 15 12), (0, u "IDENTIFIER"), (0, .fieldref 8 17), (0, .nameAndType 18 12), (0, u "NUMBER"), (0, .fieldref 8 20), (0, .nameAndType 21 12), (0, u "STRING"), (0, .fieldref 8 23), (0, .nameAndType 24 12), (0, u "ALIAS"), (0, .fieldref 8 26), (0, .nameAndType 27 12), (0, u "SYMBOL"), (0, .fieldref 8 29), (0, .nameAndType 30 12), (0, u "BODY"), (0, .fieldref 8 32), (0, .nameAndType 33 12), (0, u "END"), (0, .fieldref 8 35), (0, .nameAndType 36 12), (0, u "ABORT"), (0, .fieldref 8 38), (0, .nameAndType 39 12), (0, u "EOF"), (0, .class_ 41), (0, u "java/lang/String"), (0, .methodref 40 43), (0, .nameAndType 5 44), (0, u "([C)V"), (0, .integer 2147483647), (0, .class_ 47), (0, u "com/example/weaverbird/weaverbird/automaton/HoaLexer$Token"), (0, .methodref 49 50), (0, .class_ 51), (0, .nameAndType 52 53), (0, u "com/example/weaverbird/weaverbird/automaton/TokenIsPinLaw"), (0, u "type"), (0, u "(I)Lcom/example/weaverbird/weaverbird/automaton/HoaLexer$Type;"), (0, .methodref 49 55), (0, .nameAndType 56 57), (0, u "str"), (0, u "(ICC)Ljava/lang/String;"), (0, .methodref 46 59), (0, .nameAndType 5 60), (0, u "(Lcom/example/weaverbird/weaverbird/automaton/HoaLexer$Type;Ljava/lang/String;I)V"), (0, .methodref 46 62), (0, .nameAndType 63 64), (0, u "is"), (0, u "(Lcom/example/weaverbird/weaverbird/automaton/HoaLexer$Type;Ljava/lang/String;)Z"), (3, u "law"), (0, u "(IIIIII)Z")] 7

def k1m0 : Method := { name := "<init>", desc := "()V", sig := { parameters := [], returnType := none }, accessFlags := 1, code := none }
def k1c1 : Code := { maxStack := 2, maxLocals := 1, code := method_2_code, exceptionTable := #[], attributes := #[] }
def k1m1 : Method := { name := "type", desc := "(I)Lcom/example/weaverbird/weaverbird/automaton/HoaLexer$Type;", sig := { parameters := [.int], returnType := some (.object "com/example/weaverbird/weaverbird/automaton/HoaLexer$Type") }, accessFlags := 10, code := some k1c1 }
def k1c2 : Code := { maxStack := 6, maxLocals := 3, code := method_3_code, exceptionTable := #[], attributes := #[] }
def k1m2 : Method := { name := "str", desc := "(ICC)Ljava/lang/String;", sig := { parameters := [.int, .char, .char], returnType := some (.object "java/lang/String") }, accessFlags := 10, code := some k1c2 }
def k1c3 : Code := { maxStack := 6, maxLocals := 16, code := code, exceptionTable := #[], attributes := #[] }
def k1m3 : Method := { name := "law", desc := "(IIIIII)Z", sig := { parameters := [.int, .int, .int, .int, .int, .int], returnType := some .boolean }, accessFlags := 9, code := some k1c3 }
/-- com/example/weaverbird/weaverbird/automaton/TokenIsPinLaw -/
def k1 : Class := { plain "com/example/weaverbird/weaverbird/automaton/TokenIsPinLaw" (some 0) with
  accessFlags := 49
  interfaces := #[]
  cf := some (fileOf pool1 49 #[] #[{ accessFlags := 1, nameIndex := 5, descriptorIndex := 6, attributes := #[] }, { accessFlags := 10, nameIndex := 52, descriptorIndex := 53, attributes := #[] }, { accessFlags := 10, nameIndex := 56, descriptorIndex := 57, attributes := #[] }, { accessFlags := 9, nameIndex := 68, descriptorIndex := 69, attributes := #[] }] 49 2 #[] #[])
  fields := #[]
  methods := #[k1m0, k1m1, k1m2, k1m3]
  instanceTypes := #[]
  staticTypes := #[]
  resolved := Array.replicate 77 none
  statics := none }

def pool2 : Array CpInfo := pool [(1, .methodref 2 3), (0, .class_ 4), (0, .nameAndType 5 6), (0, u "java/lang/Object"), (0, u "<init>"), (0, u "()V"), (0, .class_ 8), (0, u "java/lang/Record")] 13

def k2c0 : Code := { maxStack := 1, maxLocals := 1, code := jdk_30_method_1_code, exceptionTable := #[], attributes := #[] }
def k2m0 : Method := { name := "<init>", desc := "()V", sig := { parameters := [], returnType := none }, accessFlags := 4, code := some k2c0 }
/-- java/lang/Record -/
def k2 : Class := { plain "java/lang/Record" (some 0) with
  accessFlags := 1057
  interfaces := #[]
  cf := some (fileOf pool2 7 #[] #[{ accessFlags := 4, nameIndex := 5, descriptorIndex := 6, attributes := #[] }] 1057 2 #[] #[])
  fields := #[]
  methods := #[k2m0]
  instanceTypes := #[]
  staticTypes := #[]
  resolved := Array.replicate 22 none
  statics := none }

def pool3 : Array CpInfo := pool [(1, .methodref 2 3), (0, .class_ 4), (0, .nameAndType 5 6), (0, u "java/lang/Record"), (0, u "<init>"), (0, u "()V"), (0, .fieldref 8 9), (0, .class_ 10), (0, .nameAndType 11 12), (0, u "com/example/weaverbird/weaverbird/automaton/HoaLexer$Token"), (0, u "type"), (0, u "Lcom/example/weaverbird/weaverbird/automaton/HoaLexer$Type;"), (0, .fieldref 8 14), (0, .nameAndType 15 16), (0, u "text"), (0, u "Ljava/lang/String;"), (0, .fieldref 8 18), (0, .nameAndType 19 20), (0, u "line"), (0, u "I"), (0, .methodref 22 23), (0, .class_ 24), (0, .nameAndType 25 26), (0, u "java/lang/String"), (0, u "equals"), (0, u "(Ljava/lang/Object;)Z"), (11, u "(Lcom/example/weaverbird/weaverbird/automaton/HoaLexer$Type;Ljava/lang/String;I)V"), (3, u "is"), (0, u "(Lcom/example/weaverbird/weaverbird/automaton/HoaLexer$Type;Ljava/lang/String;)Z"), (7, .class_ 52), (0, u "com/example/weaverbird/weaverbird/automaton/HoaLexer")] 24

def k3c0 : Code := { maxStack := 2, maxLocals := 4, code := prog_16_method_1_code, exceptionTable := #[], attributes := #[] }
def k3m0 : Method := { name := "<init>", desc := "(Lcom/example/weaverbird/weaverbird/automaton/HoaLexer$Type;Ljava/lang/String;I)V", sig := { parameters := [(.object "com/example/weaverbird/weaverbird/automaton/HoaLexer$Type"), (.object "java/lang/String"), .int], returnType := none }, accessFlags := 0, code := some k3c0 }
def k3c1 : Code := { maxStack := 2, maxLocals := 3, code := prog_16_method_2_code, exceptionTable := #[], attributes := #[] }
def k3m1 : Method := { name := "is", desc := "(Lcom/example/weaverbird/weaverbird/automaton/HoaLexer$Type;Ljava/lang/String;)Z", sig := { parameters := [(.object "com/example/weaverbird/weaverbird/automaton/HoaLexer$Type"), (.object "java/lang/String")], returnType := some .boolean }, accessFlags := 0, code := some k3c1 }
/-- com/example/weaverbird/weaverbird/automaton/HoaLexer$Token -/
def k3 : Class := { plain "com/example/weaverbird/weaverbird/automaton/HoaLexer$Token" (some 2) with
  accessFlags := 48
  interfaces := #[]
  cf := some (fileOf pool3 8 #[.nestHost 51] #[{ accessFlags := 0, nameIndex := 5, descriptorIndex := 38, attributes := #[] }, { accessFlags := 0, nameIndex := 42, descriptorIndex := 43, attributes := #[] }] 48 2 #[] #[{ accessFlags := 18, nameIndex := 11, descriptorIndex := 12, attributes := #[] }, { accessFlags := 18, nameIndex := 15, descriptorIndex := 16, attributes := #[] }, { accessFlags := 18, nameIndex := 19, descriptorIndex := 20, attributes := #[] }])
  fields := #[{ name := "type", type := (.object "com/example/weaverbird/weaverbird/automaton/HoaLexer$Type"), accessFlags := 18, slot := 0, constantValue := 0 }, { name := "text", type := (.object "java/lang/String"), accessFlags := 18, slot := 1, constantValue := 0 }, { name := "line", type := .int, accessFlags := 18, slot := 2, constantValue := 0 }]
  methods := #[k3m0, k3m1]
  instanceTypes := #[(.object "com/example/weaverbird/weaverbird/automaton/HoaLexer$Type"), (.object "java/lang/String"), .int]
  staticTypes := #[]
  resolved := Array.replicate 77 none
  statics := none }

def pool4 : Array CpInfo := pool [(1, .class_ 2), (0, u "java/lang/constant/Constable"), (0, .class_ 4), (0, u "java/lang/Object")] 6

/-- java/lang/constant/Constable -/
def k4 : Class := { plain "java/lang/constant/Constable" (some 0) with
  accessFlags := 1537
  interfaces := #[]
  cf := some (fileOf pool4 1 #[] #[] 1537 3 #[] #[])
  fields := #[]
  methods := #[]
  instanceTypes := #[]
  staticTypes := #[]
  resolved := Array.replicate 11 none
  statics := none }

def pool5 : Array CpInfo := pool [(1, .class_ 2), (0, u "java/lang/Comparable"), (0, .class_ 4), (0, u "java/lang/Object")] 7

/-- java/lang/Comparable -/
def k5 : Class := { plain "java/lang/Comparable" (some 0) with
  accessFlags := 1537
  interfaces := #[]
  cf := some (fileOf pool5 1 #[] #[] 1537 3 #[] #[])
  fields := #[]
  methods := #[]
  instanceTypes := #[]
  staticTypes := #[]
  resolved := Array.replicate 12 none
  statics := none }

def pool6 : Array CpInfo := pool [(1, .class_ 2), (0, u "java/io/Serializable"), (0, .class_ 4), (0, u "java/lang/Object")] 2

/-- java/io/Serializable -/
def k6 : Class := { plain "java/io/Serializable" (some 0) with
  accessFlags := 1537
  interfaces := #[]
  cf := some (fileOf pool6 1 #[] #[] 1537 3 #[] #[])
  fields := #[]
  methods := #[]
  instanceTypes := #[]
  staticTypes := #[]
  resolved := Array.replicate 7 none
  statics := none }

def pool7 : Array CpInfo := pool [(2, .class_ 4), (1, u "java/lang/Enum"), (0, u "name"), (0, u "Ljava/lang/String;"), (2, u "ordinal"), (0, u "I"), (1, .class_ 14), (1, u "java/lang/Object"), (4, u "hash"), (86, .class_ 108), (1, u "java/lang/Enum$EnumDesc"), (2, .class_ 112), (0, u "java/lang/constant/Constable"), (0, .class_ 114), (0, u "java/lang/Comparable"), (0, .class_ 116), (0, u "java/io/Serializable")] 87

/-- java/lang/Enum -/
def k7 : Class := { plain "java/lang/Enum" (some 0) with
  accessFlags := 1057
  interfaces := #[4, 5, 6]
  cf := some (fileOf pool7 2 #[.nestMembers #[106]] #[] 1057 12 #[111, 113, 115] #[{ accessFlags := 18, nameIndex := 5, descriptorIndex := 6, attributes := #[] }, { accessFlags := 18, nameIndex := 9, descriptorIndex := 10, attributes := #[] }, { accessFlags := 2, nameIndex := 19, descriptorIndex := 10, attributes := #[] }])
  fields := #[{ name := "name", type := (.object "java/lang/String"), accessFlags := 18, slot := 0, constantValue := 0 }, { name := "ordinal", type := .int, accessFlags := 18, slot := 1, constantValue := 0 }, { name := "hash", type := .int, accessFlags := 2, slot := 2, constantValue := 0 }]
  methods := #[]
  instanceTypes := #[(.object "java/lang/String"), .int, .int]
  staticTypes := #[]
  resolved := Array.replicate 204 none
  statics := none }

def pool8 : Array CpInfo := pool [(1, .class_ 2), (0, u "com/example/weaverbird/weaverbird/automaton/HoaLexer$Type"), (2, u "HEADER"), (0, u "Lcom/example/weaverbird/weaverbird/automaton/HoaLexer$Type;"), (2, u "IDENTIFIER"), (2, u "NUMBER"), (2, u "STRING"), (2, u "ALIAS"), (2, u "SYMBOL"), (2, u "BODY"), (2, u "END"), (2, u "ABORT"), (2, u "EOF"), (2, u "$VALUES"), (0, u "[Lcom/example/weaverbird/weaverbird/automaton/HoaLexer$Type;"), (6, .class_ 46), (1, u "java/lang/Enum"), (33, .class_ 81), (0, u "com/example/weaverbird/weaverbird/automaton/HoaLexer")] 2

/-- com/example/weaverbird/weaverbird/automaton/HoaLexer$Type -/
def k8 : Class := { plain "com/example/weaverbird/weaverbird/automaton/HoaLexer$Type" (some 7) with
  accessFlags := 16432
  interfaces := #[]
  cf := some (fileOf pool8 1 #[.nestHost 80] #[] 16432 44 #[] #[{ accessFlags := 16409, nameIndex := 5, descriptorIndex := 6, attributes := #[] }, { accessFlags := 16409, nameIndex := 9, descriptorIndex := 6, attributes := #[] }, { accessFlags := 16409, nameIndex := 12, descriptorIndex := 6, attributes := #[] }, { accessFlags := 16409, nameIndex := 15, descriptorIndex := 6, attributes := #[] }, { accessFlags := 16409, nameIndex := 18, descriptorIndex := 6, attributes := #[] }, { accessFlags := 16409, nameIndex := 21, descriptorIndex := 6, attributes := #[] }, { accessFlags := 16409, nameIndex := 24, descriptorIndex := 6, attributes := #[] }, { accessFlags := 16409, nameIndex := 27, descriptorIndex := 6, attributes := #[] }, { accessFlags := 16409, nameIndex := 30, descriptorIndex := 6, attributes := #[] }, { accessFlags := 16409, nameIndex := 33, descriptorIndex := 6, attributes := #[] }, { accessFlags := 4122, nameIndex := 36, descriptorIndex := 37, attributes := #[] }])
  fields := #[{ name := "HEADER", type := (.object "com/example/weaverbird/weaverbird/automaton/HoaLexer$Type"), accessFlags := 16409, slot := 0, constantValue := 0 }, { name := "IDENTIFIER", type := (.object "com/example/weaverbird/weaverbird/automaton/HoaLexer$Type"), accessFlags := 16409, slot := 1, constantValue := 0 }, { name := "NUMBER", type := (.object "com/example/weaverbird/weaverbird/automaton/HoaLexer$Type"), accessFlags := 16409, slot := 2, constantValue := 0 }, { name := "STRING", type := (.object "com/example/weaverbird/weaverbird/automaton/HoaLexer$Type"), accessFlags := 16409, slot := 3, constantValue := 0 }, { name := "ALIAS", type := (.object "com/example/weaverbird/weaverbird/automaton/HoaLexer$Type"), accessFlags := 16409, slot := 4, constantValue := 0 }, { name := "SYMBOL", type := (.object "com/example/weaverbird/weaverbird/automaton/HoaLexer$Type"), accessFlags := 16409, slot := 5, constantValue := 0 }, { name := "BODY", type := (.object "com/example/weaverbird/weaverbird/automaton/HoaLexer$Type"), accessFlags := 16409, slot := 6, constantValue := 0 }, { name := "END", type := (.object "com/example/weaverbird/weaverbird/automaton/HoaLexer$Type"), accessFlags := 16409, slot := 7, constantValue := 0 }, { name := "ABORT", type := (.object "com/example/weaverbird/weaverbird/automaton/HoaLexer$Type"), accessFlags := 16409, slot := 8, constantValue := 0 }, { name := "EOF", type := (.object "com/example/weaverbird/weaverbird/automaton/HoaLexer$Type"), accessFlags := 16409, slot := 9, constantValue := 0 }, { name := "$VALUES", type := (.array (.object "com/example/weaverbird/weaverbird/automaton/HoaLexer$Type")), accessFlags := 4122, slot := 10, constantValue := 0 }]
  methods := #[]
  instanceTypes := #[(.object "java/lang/String"), .int, .int]
  staticTypes := #[(.object "com/example/weaverbird/weaverbird/automaton/HoaLexer$Type"), (.object "com/example/weaverbird/weaverbird/automaton/HoaLexer$Type"), (.object "com/example/weaverbird/weaverbird/automaton/HoaLexer$Type"), (.object "com/example/weaverbird/weaverbird/automaton/HoaLexer$Type"), (.object "com/example/weaverbird/weaverbird/automaton/HoaLexer$Type"), (.object "com/example/weaverbird/weaverbird/automaton/HoaLexer$Type"), (.object "com/example/weaverbird/weaverbird/automaton/HoaLexer$Type"), (.object "com/example/weaverbird/weaverbird/automaton/HoaLexer$Type"), (.object "com/example/weaverbird/weaverbird/automaton/HoaLexer$Type"), (.object "com/example/weaverbird/weaverbird/automaton/HoaLexer$Type"), (.array (.object "com/example/weaverbird/weaverbird/automaton/HoaLexer$Type"))]
  resolved := Array.replicate 84 none
  statics := some 0 }

def pool9 : Array CpInfo := pool [(2, .class_ 4), (1, u "java/lang/CharSequence"), (42, .class_ 48), (0, u "java/lang/CharSequence$1CodePointIterator"), (10, .class_ 60), (0, u "java/lang/CharSequence$1CharIterator"), (5, .class_ 67), (0, u "java/lang/Object")] 63

/-- java/lang/CharSequence -/
def k9 : Class := { plain "java/lang/CharSequence" (some 0) with
  accessFlags := 1537
  interfaces := #[]
  cf := some (fileOf pool9 2 #[.nestMembers #[47, 59]] #[] 1537 66 #[] #[])
  fields := #[]
  methods := #[]
  instanceTypes := #[]
  staticTypes := #[]
  resolved := Array.replicate 131 none
  statics := none }

def pool10 : Array CpInfo := pool [(1, .class_ 2), (0, u "java/lang/constant/ConstantDesc"), (0, .class_ 4), (0, u "java/lang/Object")] 32

/-- java/lang/constant/ConstantDesc -/
def k10 : Class := { plain "java/lang/constant/ConstantDesc" (some 0) with
  accessFlags := 1537
  interfaces := #[]
  cf := some (fileOf pool10 1 #[] #[] 1537 3 #[] #[])
  fields := #[]
  methods := #[]
  instanceTypes := #[]
  staticTypes := #[]
  resolved := Array.replicate 37 none
  statics := none }

def pool11 : Array CpInfo := pool [(1, .methodref 2 3), (0, .class_ 4), (0, .nameAndType 5 6), (0, u "java/lang/Object"), (0, u "<init>"), (0, u "()V"), (0, .string 8), (0, u ""), (0, .fieldref 10 11), (0, .class_ 12), (0, .nameAndType 13 14), (0, u "java/lang/String"), (0, u "value"), (0, u "[B"), (0, .fieldref 10 16), (0, .nameAndType 17 18), (0, u "coder"), (0, u "B"), (2, u "hash"), (0, u "I"), (2, u "hashIsZero"), (0, u "Z"), (0, .methodref 10 28), (0, .nameAndType 5 29), (0, u "([CIILjava/lang/Void;)V"), (8, .fieldref 10 39), (0, .nameAndType 40 26), (0, u "COMPACT_STRINGS"), (1, .class_ 44), (1, u "java/lang/StringUTF16"), (0, u "compress"), (1, .methodref 42 48), (0, .nameAndType 49 50), (0, u "coderFromArrayLen"), (0, u "([BI)B"), (56, .class_ 109), (1, u "java/lang/StringLatin1"), (67, .methodref 42 178), (0, .nameAndType 45 179), (0, u "([CII)[B"), (361, .methodref 107 542), (0, .nameAndType 543 544), (0, u "equals"), (0, u "([B[B)Z"), (28, u "(Ljava/lang/Object;)Z"), (1, .class_ 576), (0, u "java/lang/CharSequence"), (22, u "CASE_INSENSITIVE_ORDER"), (0, u "Ljava/util/Comparator;"), (409, u "([C)V"), (90, u "serialPersistentFields"), (0, u "[Ljava/io/ObjectStreamField;"), (0, .class_ 1104), (0, u "java/lang/String$CaseInsensitiveComparator"), (1, .class_ 1107), (0, u "java/io/Serializable"), (0, .class_ 1109), (0, u "java/lang/Comparable"), (0, .class_ 1111), (0, u "java/lang/constant/Constable"), (0, .class_ 1113), (0, u "java/lang/constant/ConstantDesc"), (2, u "serialVersionUID"), (0, u "J"), (3, u "REPL"), (0, u "C"), (2, u "LATIN1"), (1, u "UTF16")] 323

def k11m0 : Method := { name := "<init>", desc := "()V", sig := { parameters := [], returnType := none }, accessFlags := 1, code := none }
def k11c1 : Code := { maxStack := 5, maxLocals := 2, code := jdk_42_method_3_code, exceptionTable := #[], attributes := #[] }
def k11m1 : Method := { name := "<init>", desc := "([C)V", sig := { parameters := [(.array .char)], returnType := none }, accessFlags := 1, code := some k11c1 }
def k11c2 : Code := { maxStack := 2, maxLocals := 3, code := jdk_42_method_66_code, exceptionTable := #[], attributes := #[] }
def k11m2 : Method := { name := "equals", desc := "(Ljava/lang/Object;)Z", sig := { parameters := [(.object "java/lang/Object")], returnType := some .boolean }, accessFlags := 1, code := some k11c2 }
def k11c3 : Code := { maxStack := 4, maxLocals := 6, code := jdk_42_method_149_code, exceptionTable := #[], attributes := #[] }
def k11m3 : Method := { name := "<init>", desc := "([CIILjava/lang/Void;)V", sig := { parameters := [(.array .char), .int, .int, (.object "java/lang/Void")], returnType := none }, accessFlags := 2, code := some k11c3 }
/-- java/lang/String -/
def k11 : Class := { plain "java/lang/String" (some 0) with
  accessFlags := 49
  interfaces := #[6, 5, 9, 4, 10]
  cf := some (fileOf pool11 10 #[.nestMembers #[1103]] #[{ accessFlags := 1, nameIndex := 5, descriptorIndex := 6, attributes := #[] }, { accessFlags := 1, nameIndex := 5, descriptorIndex := 1010, attributes := #[] }, { accessFlags := 1, nameIndex := 543, descriptorIndex := 573, attributes := #[] }, { accessFlags := 2, nameIndex := 5, descriptorIndex := 29, attributes := #[] }] 49 2 #[1106, 1108, 575, 1110, 1112] #[{ accessFlags := 18, nameIndex := 13, descriptorIndex := 14, attributes := #[] }, { accessFlags := 18, nameIndex := 17, descriptorIndex := 18, attributes := #[] }, { accessFlags := 2, nameIndex := 21, descriptorIndex := 22, attributes := #[] }, { accessFlags := 2, nameIndex := 25, descriptorIndex := 26, attributes := #[] }, { accessFlags := 26, nameIndex := 1116, descriptorIndex := 1117, attributes := #[] }, { accessFlags := 24, nameIndex := 40, descriptorIndex := 26, attributes := #[] }, { accessFlags := 26, nameIndex := 1101, descriptorIndex := 1102, attributes := #[] }, { accessFlags := 26, nameIndex := 1121, descriptorIndex := 1122, attributes := #[] }, { accessFlags := 25, nameIndex := 599, descriptorIndex := 600, attributes := #[] }, { accessFlags := 24, nameIndex := 1125, descriptorIndex := 18, attributes := #[] }, { accessFlags := 24, nameIndex := 1127, descriptorIndex := 18, attributes := #[] }])
  fields := #[{ name := "value", type := (.array .byte), accessFlags := 18, slot := 0, constantValue := 0 }, { name := "coder", type := .byte, accessFlags := 18, slot := 1, constantValue := 0 }, { name := "hash", type := .int, accessFlags := 2, slot := 2, constantValue := 0 }, { name := "hashIsZero", type := .boolean, accessFlags := 2, slot := 3, constantValue := 0 }, { name := "serialVersionUID", type := .long, accessFlags := 26, slot := 0, constantValue := 0 }, { name := "COMPACT_STRINGS", type := .boolean, accessFlags := 24, slot := 1, constantValue := 0 }, { name := "serialPersistentFields", type := (.array (.object "java/io/ObjectStreamField")), accessFlags := 26, slot := 2, constantValue := 0 }, { name := "REPL", type := .char, accessFlags := 26, slot := 3, constantValue := 0 }, { name := "CASE_INSENSITIVE_ORDER", type := (.object "java/util/Comparator"), accessFlags := 25, slot := 4, constantValue := 0 }, { name := "LATIN1", type := .byte, accessFlags := 24, slot := 5, constantValue := 0 }, { name := "UTF16", type := .byte, accessFlags := 24, slot := 6, constantValue := 0 }]
  methods := #[k11m0, k11m1, k11m2, k11m3]
  instanceTypes := #[(.array .byte), .byte, .int, .boolean]
  staticTypes := #[.long, .boolean, (.array (.object "java/io/ObjectStreamField")), .char, (.object "java/util/Comparator"), .byte, .byte]
  resolved := Array.replicate 1451 none
  statics := some 1 }

def pool12 : Array CpInfo := pool [(6, .class_ 8), (1, u "java/lang/Object"), (0, u "<init>"), (0, u "()V"), (1, .class_ 14), (1, u "java/lang/StringUTF16"), (31, u "$assertionsDisabled"), (0, u "Z"), (13, u "HI_BYTE_SHIFT"), (0, u "I"), (2, u "LO_BYTE_SHIFT"), (49, .methodref 12 116), (0, .nameAndType 117 118), (0, u "compress"), (0, u "([CI[BII)I"), (3, u "([CII)[B"), (138, u "coderFromArrayLen"), (0, u "([BI)B"), (106, .class_ 371), (1, u "java/lang/StringUTF16$LinesSpliterator"), (58, u "MAX_LENGTH"), (196, .class_ 628), (0, u "java/lang/StringUTF16$CodePointsSpliterator"), (0, .class_ 630), (0, u "java/lang/StringUTF16$CharsSpliterator")] 4

def k12m0 : Method := { name := "<init>", desc := "()V", sig := { parameters := [], returnType := none }, accessFlags := 0, code := none }
def k12c1 : Code := { maxStack := 2, maxLocals := 2, code := jdk_52_method_15_code, exceptionTable := #[], attributes := #[] }
def k12m1 : Method := { name := "coderFromArrayLen", desc := "([BI)B", sig := { parameters := [(.array .byte), .int], returnType := some .byte }, accessFlags := 8, code := some k12c1 }
def k12c2 : Code := { maxStack := 5, maxLocals := 6, code := jdk_52_method_16_code, exceptionTable := #[], attributes := #[] }
def k12m2 : Method := { name := "compress", desc := "([CII)[B", sig := { parameters := [(.array .char), .int, .int], returnType := some (.array .byte) }, accessFlags := 9, code := some k12c2 }
def k12c3 : Code := { maxStack := 3, maxLocals := 7, code := jdk_52_method_21_code, exceptionTable := #[], attributes := #[] }
def k12m3 : Method := { name := "compress", desc := "([CI[BII)I", sig := { parameters := [(.array .char), .int, (.array .byte), .int, .int], returnType := some .int }, accessFlags := 9, code := some k12c3 }
/-- java/lang/StringUTF16 -/
def k12 : Class := { plain "java/lang/StringUTF16" (some 0) with
  accessFlags := 48
  interfaces := #[]
  cf := some (fileOf pool12 12 #[.nestMembers #[627, 629, 369]] #[{ accessFlags := 0, nameIndex := 9, descriptorIndex := 10, attributes := #[] }, { accessFlags := 8, nameIndex := 261, descriptorIndex := 262, attributes := #[] }, { accessFlags := 9, nameIndex := 117, descriptorIndex := 122, attributes := #[] }, { accessFlags := 9, nameIndex := 117, descriptorIndex := 118, attributes := #[] }] 48 6 #[] #[{ accessFlags := 26, nameIndex := 61, descriptorIndex := 62, attributes := #[] }, { accessFlags := 26, nameIndex := 65, descriptorIndex := 62, attributes := #[] }, { accessFlags := 24, nameIndex := 430, descriptorIndex := 62, attributes := #[] }, { accessFlags := 4120, nameIndex := 46, descriptorIndex := 47, attributes := #[] }])
  fields := #[{ name := "HI_BYTE_SHIFT", type := .int, accessFlags := 26, slot := 0, constantValue := 0 }, { name := "LO_BYTE_SHIFT", type := .int, accessFlags := 26, slot := 1, constantValue := 0 }, { name := "MAX_LENGTH", type := .int, accessFlags := 24, slot := 2, constantValue := 0 }, { name := "$assertionsDisabled", type := .boolean, accessFlags := 4120, slot := 3, constantValue := 0 }]
  methods := #[k12m0, k12m1, k12m2, k12m3]
  instanceTypes := #[]
  staticTypes := #[.int, .int, .int, .boolean]
  resolved := Array.replicate 635 none
  statics := none }

def pool13 : Array CpInfo := pool [(4, .class_ 6), (1, u "java/lang/Object"), (0, u "<init>"), (0, u "()V"), (5, .class_ 16), (1, u "java/lang/StringLatin1"), (104, u "$assertionsDisabled"), (0, u "Z"), (98, .class_ 223), (1, u "java/lang/StringLatin1$LinesSpliterator"), (57, u "equals"), (0, u "([B[B)Z"), (107, .class_ 391), (0, u "java/lang/StringLatin1$CharsSpliterator")] 3

def k13m0 : Method := { name := "<init>", desc := "()V", sig := { parameters := [], returnType := none }, accessFlags := 0, code := none }
def k13c1 : Code := { maxStack := 3, maxLocals := 3, code := jdk_43_method_13_code, exceptionTable := #[], attributes := #[] }
def k13m1 : Method := { name := "equals", desc := "([B[B)Z", sig := { parameters := [(.array .byte), (.array .byte)], returnType := some .boolean }, accessFlags := 9, code := some k13c1 }
/-- java/lang/StringLatin1 -/
def k13 : Class := { plain "java/lang/StringLatin1" (some 0) with
  accessFlags := 48
  interfaces := #[]
  cf := some (fileOf pool13 14 #[.nestMembers #[390, 221]] #[{ accessFlags := 0, nameIndex := 7, descriptorIndex := 8, attributes := #[] }, { accessFlags := 9, nameIndex := 281, descriptorIndex := 282, attributes := #[] }] 48 4 #[] #[{ accessFlags := 4120, nameIndex := 121, descriptorIndex := 122, attributes := #[] }])
  fields := #[{ name := "$assertionsDisabled", type := .boolean, accessFlags := 4120, slot := 0, constantValue := 0 }]
  methods := #[k13m0, k13m1]
  instanceTypes := #[]
  staticTypes := #[.boolean]
  resolved := Array.replicate 395 none
  statics := none }

def pool14 : Array CpInfo := pool [(2, .class_ 4), (1, u "java/lang/Object"), (0, u "<init>"), (0, u "()V"), (17, .class_ 26), (1, u "jdk/internal/util/Preconditions"), (28, .class_ 56), (0, u "jdk/internal/util/Preconditions$4"), (57, .class_ 115), (0, u "jdk/internal/util/Preconditions$1"), (7, u "SIOOBE_FORMATTER"), (0, u "Ljava/util/function/BiFunction;"), (0, .class_ 126), (0, u "jdk/internal/util/Preconditions$2"), (3, u "AIOOBE_FORMATTER"), (0, .class_ 132), (0, u "jdk/internal/util/Preconditions$3"), (3, u "IOOBE_FORMATTER")] 57

def k14m0 : Method := { name := "<init>", desc := "()V", sig := { parameters := [], returnType := none }, accessFlags := 1, code := none }
/-- jdk/internal/util/Preconditions -/
def k14 : Class := { plain "jdk/internal/util/Preconditions" (some 0) with
  accessFlags := 33
  interfaces := #[]
  cf := some (fileOf pool14 24 #[.nestMembers #[55, 131, 125, 114]] #[{ accessFlags := 1, nameIndex := 5, descriptorIndex := 6, attributes := #[] }] 33 2 #[] #[{ accessFlags := 25, nameIndex := 123, descriptorIndex := 124, attributes := #[] }, { accessFlags := 25, nameIndex := 130, descriptorIndex := 124, attributes := #[] }, { accessFlags := 25, nameIndex := 136, descriptorIndex := 124, attributes := #[] }])
  fields := #[{ name := "SIOOBE_FORMATTER", type := (.object "java/util/function/BiFunction"), accessFlags := 25, slot := 0, constantValue := 0 }, { name := "AIOOBE_FORMATTER", type := (.object "java/util/function/BiFunction"), accessFlags := 25, slot := 1, constantValue := 0 }, { name := "IOOBE_FORMATTER", type := (.object "java/util/function/BiFunction"), accessFlags := 25, slot := 2, constantValue := 0 }]
  methods := #[k14m0]
  instanceTypes := #[]
  staticTypes := #[(.object "java/util/function/BiFunction"), (.object "java/util/function/BiFunction"), (.object "java/util/function/BiFunction")]
  resolved := Array.replicate 194 none
  statics := some 2 }

def pool15 : Array CpInfo := pool [(9, u "<init>"), (6, .class_ 18), (1, u "java/lang/Object"), (0, u "()V"), (1, .class_ 23), (1, u "jdk/internal/util/ArraysSupport"), (0, u "LOG2_ARRAY_LONG_INDEX_SCALE"), (0, u "I"), (2, u "U"), (0, u "Ljdk/internal/misc/Unsafe;"), (8, u "BIG_ENDIAN"), (0, u "Z"), (8, u "LOG2_BYTE_BIT_SIZE"), (4, u "LOG2_ARRAY_INT_INDEX_SCALE"), (54, u "JLA"), (0, u "Ljdk/internal/access/JavaLangAccess;"), (11, u "LOG2_ARRAY_BOOLEAN_INDEX_SCALE"), (9, u "LOG2_ARRAY_BYTE_INDEX_SCALE"), (5, u "LOG2_ARRAY_CHAR_INDEX_SCALE"), (5, u "LOG2_ARRAY_SHORT_INDEX_SCALE"), (18, u "LOG2_ARRAY_FLOAT_INDEX_SCALE"), (24, u "LOG2_ARRAY_DOUBLE_INDEX_SCALE"), (89, u "T_BOOLEAN"), (2, u "T_CHAR"), (1, u "T_FLOAT"), (1, u "T_DOUBLE"), (1, u "T_BYTE"), (1, u "T_SHORT"), (1, u "T_INT"), (1, u "T_LONG"), (1, u "SOFT_MAX_ARRAY_LENGTH")] 83

def k15m0 : Method := { name := "<init>", desc := "()V", sig := { parameters := [], returnType := none }, accessFlags := 2, code := none }
/-- jdk/internal/util/ArraysSupport -/
def k15 : Class := { plain "jdk/internal/util/ArraysSupport" (some 0) with
  accessFlags := 33
  interfaces := #[]
  cf := some (fileOf pool15 21 #[] #[{ accessFlags := 2, nameIndex := 9, descriptorIndex := 19, attributes := #[] }] 33 16 #[] #[{ accessFlags := 24, nameIndex := 28, descriptorIndex := 29, attributes := #[] }, { accessFlags := 26, nameIndex := 38, descriptorIndex := 39, attributes := #[] }, { accessFlags := 25, nameIndex := 121, descriptorIndex := 25, attributes := #[] }, { accessFlags := 25, nameIndex := 131, descriptorIndex := 25, attributes := #[] }, { accessFlags := 25, nameIndex := 137, descriptorIndex := 25, attributes := #[] }, { accessFlags := 25, nameIndex := 143, descriptorIndex := 25, attributes := #[] }, { accessFlags := 25, nameIndex := 53, descriptorIndex := 25, attributes := #[] }, { accessFlags := 25, nameIndex := 24, descriptorIndex := 25, attributes := #[] }, { accessFlags := 25, nameIndex := 162, descriptorIndex := 25, attributes := #[] }, { accessFlags := 25, nameIndex := 187, descriptorIndex := 25, attributes := #[] }, { accessFlags := 26, nameIndex := 48, descriptorIndex := 25, attributes := #[] }, { accessFlags := 25, nameIndex := 277, descriptorIndex := 25, attributes := #[] }, { accessFlags := 25, nameIndex := 280, descriptorIndex := 25, attributes := #[] }, { accessFlags := 25, nameIndex := 282, descriptorIndex := 25, attributes := #[] }, { accessFlags := 25, nameIndex := 284, descriptorIndex := 25, attributes := #[] }, { accessFlags := 25, nameIndex := 286, descriptorIndex := 25, attributes := #[] }, { accessFlags := 25, nameIndex := 288, descriptorIndex := 25, attributes := #[] }, { accessFlags := 25, nameIndex := 290, descriptorIndex := 25, attributes := #[] }, { accessFlags := 25, nameIndex := 292, descriptorIndex := 25, attributes := #[] }, { accessFlags := 26, nameIndex := 108, descriptorIndex := 109, attributes := #[] }, { accessFlags := 25, nameIndex := 294, descriptorIndex := 25, attributes := #[] }])
  fields := #[{ name := "U", type := (.object "jdk/internal/misc/Unsafe"), accessFlags := 24, slot := 0, constantValue := 0 }, { name := "BIG_ENDIAN", type := .boolean, accessFlags := 26, slot := 1, constantValue := 0 }, { name := "LOG2_ARRAY_BOOLEAN_INDEX_SCALE", type := .int, accessFlags := 25, slot := 2, constantValue := 0 }, { name := "LOG2_ARRAY_BYTE_INDEX_SCALE", type := .int, accessFlags := 25, slot := 3, constantValue := 0 }, { name := "LOG2_ARRAY_CHAR_INDEX_SCALE", type := .int, accessFlags := 25, slot := 4, constantValue := 0 }, { name := "LOG2_ARRAY_SHORT_INDEX_SCALE", type := .int, accessFlags := 25, slot := 5, constantValue := 0 }, { name := "LOG2_ARRAY_INT_INDEX_SCALE", type := .int, accessFlags := 25, slot := 6, constantValue := 0 }, { name := "LOG2_ARRAY_LONG_INDEX_SCALE", type := .int, accessFlags := 25, slot := 7, constantValue := 0 }, { name := "LOG2_ARRAY_FLOAT_INDEX_SCALE", type := .int, accessFlags := 25, slot := 8, constantValue := 0 }, { name := "LOG2_ARRAY_DOUBLE_INDEX_SCALE", type := .int, accessFlags := 25, slot := 9, constantValue := 0 }, { name := "LOG2_BYTE_BIT_SIZE", type := .int, accessFlags := 26, slot := 10, constantValue := 0 }, { name := "T_BOOLEAN", type := .int, accessFlags := 25, slot := 11, constantValue := 0 }, { name := "T_CHAR", type := .int, accessFlags := 25, slot := 12, constantValue := 0 }, { name := "T_FLOAT", type := .int, accessFlags := 25, slot := 13, constantValue := 0 }, { name := "T_DOUBLE", type := .int, accessFlags := 25, slot := 14, constantValue := 0 }, { name := "T_BYTE", type := .int, accessFlags := 25, slot := 15, constantValue := 0 }, { name := "T_SHORT", type := .int, accessFlags := 25, slot := 16, constantValue := 0 }, { name := "T_INT", type := .int, accessFlags := 25, slot := 17, constantValue := 0 }, { name := "T_LONG", type := .int, accessFlags := 25, slot := 18, constantValue := 0 }, { name := "JLA", type := (.object "jdk/internal/access/JavaLangAccess"), accessFlags := 26, slot := 19, constantValue := 0 }, { name := "SOFT_MAX_ARRAY_LENGTH", type := .int, accessFlags := 25, slot := 20, constantValue := 0 }]
  methods := #[k15m0]
  instanceTypes := #[]
  staticTypes := #[(.object "jdk/internal/misc/Unsafe"), .boolean, .int, .int, .int, .int, .int, .int, .int, .int, .int, .int, .int, .int, .int, .int, .int, .int, .int, (.object "jdk/internal/access/JavaLangAccess"), .int]
  resolved := Array.replicate 378 none
  statics := none }

def pool16 : Array CpInfo := pool [(1, u "java/lang/Cloneable"), (0, .class_ 1), (0, u "java/lang/Object"), (0, .class_ 3)] 3

/-- java/lang/Cloneable -/
def k16 : Class := { plain "java/lang/Cloneable" (some 0) with
  accessFlags := 1537
  interfaces := #[]
  cf := some (fileOf pool16 2 #[] #[] 1537 4 #[] #[])
  fields := #[]
  methods := #[]
  instanceTypes := #[]
  staticTypes := #[]
  resolved := Array.replicate 8 none
  statics := none }

/-- the primitive byte -/
def k17 : Class := { plain "byte" none with kind := .primitive 'B', accessFlags := 0x411 }
/-- [B -/
def k18 : Class := { plain "[B" (some 0) with kind := .array 17 .byte, interfaces := #[16, 6], accessFlags := 1041 }

/-- the primitive char -/
def k19 : Class := { plain "char" none with kind := .primitive 'C', accessFlags := 0x411 }
/-- [C -/
def k20 : Class := { plain "[C" (some 0) with kind := .array 19 .char, interfaces := #[16, 6], accessFlags := 1041 }

/-- the primitive int -/
def k21 : Class := { plain "int" none with kind := .primitive 'I', accessFlags := 0x411 }
/-- [I -/
def k22 : Class := { plain "[I" (some 0) with kind := .array 21 .int, interfaces := #[16, 6], accessFlags := 1041 }

def heap : Heap := #[{ cls := 8, slots := #[.ref 3, .ref 4, .ref 5, .ref 6, .ref 7, .ref 8, .ref 9, .ref 10, .ref 11, .ref 12, .null], vm := .statics 8 },
  { cls := 11, slots := #[.long 0, .int 1, .null, .int 0, .null, .int 0, .int 0], vm := .statics 11 },
  { cls := 14, slots := #[.null, .null, .null], vm := .statics 14 },
  { cls := 8, slots := #[.null, .int 0, .int 0], vm := .none },
  { cls := 8, slots := #[.null, .int 1, .int 0], vm := .none },
  { cls := 8, slots := #[.null, .int 2, .int 0], vm := .none },
  { cls := 8, slots := #[.null, .int 3, .int 0], vm := .none },
  { cls := 8, slots := #[.null, .int 4, .int 0], vm := .none },
  { cls := 8, slots := #[.null, .int 5, .int 0], vm := .none },
  { cls := 8, slots := #[.null, .int 6, .int 0], vm := .none },
  { cls := 8, slots := #[.null, .int 7, .int 0], vm := .none },
  { cls := 8, slots := #[.null, .int 8, .int 0], vm := .none },
  { cls := 8, slots := #[.null, .int 9, .int 0], vm := .none }]
def classes : Array Class := #[k0, k1, k2, k3, k4, k5, k6, k7, k8, k9, k10, k11, k12, k13, k14, k15, k16, k17, k18, k19, k20, k21, k22]
def interned : List (Array UInt16 × Addr) := []
def slotsUsed : Nat := 51
def theMethod : MethodId := ⟨1, 3⟩
def args0 : Array Value := #[.int 5, .int 6, .int 7, .int 8, .int 9, .int 10]
def aboutOver (below : List Frame) : State where
  vm := { classes := classes, interned := interned.toArray }
  heap := heap
  slotsUsed := slotsUsed
  threads := #[{ frames := .invoking theMethod args0 :: below }]
def below0 : List Frame := [.native { method := ⟨0, 0⟩, args := #[] }]
def about1 : State := aboutOver below0
def p0 : Program := .bare "" "" ""
def e0 : Env := launch0.env 0 0 0
theorem w_frames : about1.frames = Frame.invoking theMethod args0 :: below0 := rfl
set_option maxRecDepth 65536 in
theorem w_args : argsFit about1.vm theMethod args0 = true := by decide +kernel
set_option maxRecDepth 65536 in
theorem w_heap : heapFits about1 = true := by decide +kernel
set_option maxRecDepth 65536 in
theorem w_runnable : about1.curStatus? = some .runnable := by decide +kernel
set_option maxRecDepth 65536 in
theorem w_alone : about1.alone = true := by decide +kernel
set_option maxRecDepth 65536 in
theorem w_named : about1.methodNamed? x = some theMethod := by decide +kernel
set_option maxRecDepth 65536 in
theorem w_hears : about1.hears theMethod below0 = true := by decide +kernel
set_option maxRecDepth 65536 in
theorem w_ripe : about1.ripe theMethod args0 below0 = true := by decide +kernel
theorem w_running : about1.status = .running := rfl
set_option maxRecDepth 65536 in
theorem w_room : about1.hasRoom e0.platform room_1 = true :=
  launch0.hasRoom_least _ room_1 (by decide +kernel) (by decide +kernel) (by decide +kernel) (by decide +kernel) (by decide +kernel) (by decide +kernel)
theorem allAtoms_all (ts : List Jvm.Cond) (a : Array Jvm.Value) (st : Jvm.State) : (allAtoms ts).before a st = ts.all (fun c => c.before a st) := by
  induction ts with
  | nil => rfl
  | cons c t ih =>
    show (Jvm.Cond.and c (allAtoms t)).before a st = _
    rw [Jvm.Cond.before_and, ih, List.all_cons]
def words1 : List Jvm.Cond := Jvm.Cond.code x code maxLocals ret :: tables_1
/-- a 'code' word, met by the world's own term for the bytes: nothing is compared byte by byte -/
theorem code_word {y : MethodName} {bytes : ByteArray} {mx : Nat} {rt : Option FieldType} {a : Array Value} {s : State} {m : MethodId} {meth : Method} {c : Code} (h1 : s.methodNamed? y = some m) (h2 : s.vm.method? m = some meth) (h3 : meth.code = some c) (h4 : c.code = bytes)
    (h5 : (c.maxLocals == mx && c.exceptionTable.isEmpty && decide (c.maxStack ≤ mostOperands) && decide (meth.sig.returnType = rt) && !meth.locks && decide (parseMethodDescriptor y.desc = some meth.sig)) = true) : (Jvm.Cond.code y bytes mx rt).before a s = true := by
  simp only [Bool.and_eq_true, beq_iff_eq, Bool.not_eq_true', decide_eq_true_eq] at h5
  obtain ⟨⟨⟨⟨⟨g1, g2⟩, g3⟩, g4⟩, g5⟩, g6⟩ := h5
  simp [Cond.before, Cond.holds, Cond.value, h1, h2, h3, h4, g1, g2, g3, g4, g5, g6]
def isCode : Jvm.Cond → Bool
  | .code _ _ _ _ => true
  | _ => false
theorem all_split {L : List Jvm.Cond} {P : Jvm.Cond → Bool} (h1 : L.all (fun c => isCode c || P c) = true) (h2 : ∀ c ∈ L.filter isCode, P c = true) : L.all P = true := by
  refine List.all_eq_true.mpr fun c hc => ?_
  have h := List.all_eq_true.mp h1 c hc
  rcases Bool.eq_false_or_eq_true (isCode c) with hi | hi
  · exact h2 c (List.mem_filter.mpr ⟨hc, hi⟩)
  · simpa [hi] using h
set_option maxRecDepth 65536 in
theorem w_c0 : (Jvm.Cond.code x code maxLocals ret).before args0 about1 = true := code_word (m := ⟨1, 3⟩) (meth := k1m3) (c := k1c3) (by decide +kernel) rfl rfl rfl (by decide +kernel)
set_option maxRecDepth 65536 in
theorem w_c1 : (Jvm.Cond.code ({ cls := "com/example/weaverbird/weaverbird/automaton/TokenIsPinLaw", name := "type", desc := "(I)Lcom/example/weaverbird/weaverbird/automaton/HoaLexer$Type;" } : Jvm.MethodName) method_2_code (1 : Nat) (Option.some (Jvm.ClassFile.FieldType.object "com/example/weaverbird/weaverbird/automaton/HoaLexer$Type"))).before args0 about1 = true := code_word (m := ⟨1, 1⟩) (meth := k1m1) (c := k1c1) (by decide +kernel) rfl rfl rfl (by decide +kernel)
set_option maxRecDepth 65536 in
theorem w_c2 : (Jvm.Cond.code ({ cls := "com/example/weaverbird/weaverbird/automaton/TokenIsPinLaw", name := "str", desc := "(ICC)Ljava/lang/String;" } : Jvm.MethodName) method_3_code (3 : Nat) (Option.some (Jvm.ClassFile.FieldType.object "java/lang/String"))).before args0 about1 = true := code_word (m := ⟨1, 2⟩) (meth := k1m2) (c := k1c2) (by decide +kernel) rfl rfl rfl (by decide +kernel)
set_option maxRecDepth 65536 in
theorem w_c3 : (Jvm.Cond.code ({ cls := "java/lang/String", name := "<init>", desc := "([C)V" } : Jvm.MethodName) jdk_42_method_3_code (2 : Nat) (Option.none : Option Jvm.ClassFile.FieldType)).before args0 about1 = true := code_word (m := ⟨11, 1⟩) (meth := k11m1) (c := k11c1) (by decide +kernel) rfl rfl rfl (by decide +kernel)
set_option maxRecDepth 65536 in
theorem w_c4 : (Jvm.Cond.code ({ cls := "java/lang/String", name := "<init>", desc := "([CIILjava/lang/Void;)V" } : Jvm.MethodName) jdk_42_method_149_code (6 : Nat) (Option.none : Option Jvm.ClassFile.FieldType)).before args0 about1 = true := code_word (m := ⟨11, 3⟩) (meth := k11m3) (c := k11c3) (by decide +kernel) rfl rfl rfl (by decide +kernel)
set_option maxRecDepth 65536 in
theorem w_c5 : (Jvm.Cond.code ({ cls := "java/lang/Object", name := "<init>", desc := "()V" } : Jvm.MethodName) object_method_1_code (1 : Nat) (Option.none : Option Jvm.ClassFile.FieldType)).before args0 about1 = true := code_word (m := ⟨0, 0⟩) (meth := k0m0) (c := k0c0) (by decide +kernel) rfl rfl rfl (by decide +kernel)
set_option maxRecDepth 65536 in
theorem w_c6 : (Jvm.Cond.code ({ cls := "com/example/weaverbird/weaverbird/automaton/HoaLexer$Token", name := "<init>", desc := "(Lcom/example/weaverbird/weaverbird/automaton/HoaLexer$Type;Ljava/lang/String;I)V" } : Jvm.MethodName) prog_16_method_1_code (4 : Nat) (Option.none : Option Jvm.ClassFile.FieldType)).before args0 about1 = true := code_word (m := ⟨3, 0⟩) (meth := k3m0) (c := k3c0) (by decide +kernel) rfl rfl rfl (by decide +kernel)
set_option maxRecDepth 65536 in
theorem w_c7 : (Jvm.Cond.code ({ cls := "java/lang/Record", name := "<init>", desc := "()V" } : Jvm.MethodName) jdk_30_method_1_code (1 : Nat) (Option.none : Option Jvm.ClassFile.FieldType)).before args0 about1 = true := code_word (m := ⟨2, 0⟩) (meth := k2m0) (c := k2c0) (by decide +kernel) rfl rfl rfl (by decide +kernel)
set_option maxRecDepth 65536 in
theorem w_c8 : (Jvm.Cond.code ({ cls := "com/example/weaverbird/weaverbird/automaton/HoaLexer$Token", name := "is", desc := "(Lcom/example/weaverbird/weaverbird/automaton/HoaLexer$Type;Ljava/lang/String;)Z" } : Jvm.MethodName) prog_16_method_2_code (3 : Nat) (Option.some Jvm.ClassFile.FieldType.boolean)).before args0 about1 = true := code_word (m := ⟨3, 1⟩) (meth := k3m1) (c := k3c1) (by decide +kernel) rfl rfl rfl (by decide +kernel)
set_option maxRecDepth 65536 in
theorem w_c9 : (Jvm.Cond.code ({ cls := "java/lang/StringUTF16", name := "compress", desc := "([CII)[B" } : Jvm.MethodName) jdk_52_method_16_code (6 : Nat) (Option.some (Jvm.ClassFile.FieldType.array Jvm.ClassFile.FieldType.byte))).before args0 about1 = true := code_word (m := ⟨12, 2⟩) (meth := k12m2) (c := k12c2) (by decide +kernel) rfl rfl rfl (by decide +kernel)
set_option maxRecDepth 65536 in
theorem w_c10 : (Jvm.Cond.code ({ cls := "java/lang/StringUTF16", name := "compress", desc := "([CI[BII)I" } : Jvm.MethodName) jdk_52_method_21_code (7 : Nat) (Option.some Jvm.ClassFile.FieldType.int)).before args0 about1 = true := code_word (m := ⟨12, 3⟩) (meth := k12m3) (c := k12c3) (by decide +kernel) rfl rfl rfl (by decide +kernel)
set_option maxRecDepth 65536 in
theorem w_c11 : (Jvm.Cond.code ({ cls := "java/lang/StringUTF16", name := "coderFromArrayLen", desc := "([BI)B" } : Jvm.MethodName) jdk_52_method_15_code (2 : Nat) (Option.some Jvm.ClassFile.FieldType.byte)).before args0 about1 = true := code_word (m := ⟨12, 1⟩) (meth := k12m1) (c := k12c1) (by decide +kernel) rfl rfl rfl (by decide +kernel)
set_option maxRecDepth 65536 in
theorem w_c12 : (Jvm.Cond.code ({ cls := "java/lang/String", name := "equals", desc := "(Ljava/lang/Object;)Z" } : Jvm.MethodName) jdk_42_method_66_code (3 : Nat) (Option.some Jvm.ClassFile.FieldType.boolean)).before args0 about1 = true := code_word (m := ⟨11, 2⟩) (meth := k11m2) (c := k11c2) (by decide +kernel) rfl rfl rfl (by decide +kernel)
set_option maxRecDepth 65536 in
theorem w_c13 : (Jvm.Cond.code ({ cls := "java/lang/StringLatin1", name := "equals", desc := "([B[B)Z" } : Jvm.MethodName) jdk_43_method_13_code (3 : Nat) (Option.some Jvm.ClassFile.FieldType.boolean)).before args0 about1 = true := code_word (m := ⟨13, 1⟩) (meth := k13m1) (c := k13c1) (by decide +kernel) rfl rfl rfl (by decide +kernel)
def codes1 : List Jvm.Cond := [Jvm.Cond.code x code maxLocals ret, Jvm.Cond.code ({ cls := "com/example/weaverbird/weaverbird/automaton/TokenIsPinLaw", name := "type", desc := "(I)Lcom/example/weaverbird/weaverbird/automaton/HoaLexer$Type;" } : Jvm.MethodName) method_2_code (1 : Nat) (Option.some (Jvm.ClassFile.FieldType.object "com/example/weaverbird/weaverbird/automaton/HoaLexer$Type")), Jvm.Cond.code ({ cls := "com/example/weaverbird/weaverbird/automaton/TokenIsPinLaw", name := "str", desc := "(ICC)Ljava/lang/String;" } : Jvm.MethodName) method_3_code (3 : Nat) (Option.some (Jvm.ClassFile.FieldType.object "java/lang/String")), Jvm.Cond.code ({ cls := "java/lang/String", name := "<init>", desc := "([C)V" } : Jvm.MethodName) jdk_42_method_3_code (2 : Nat) (Option.none : Option Jvm.ClassFile.FieldType), Jvm.Cond.code ({ cls := "java/lang/String", name := "<init>", desc := "([CIILjava/lang/Void;)V" } : Jvm.MethodName) jdk_42_method_149_code (6 : Nat) (Option.none : Option Jvm.ClassFile.FieldType), Jvm.Cond.code ({ cls := "java/lang/Object", name := "<init>", desc := "()V" } : Jvm.MethodName) object_method_1_code (1 : Nat) (Option.none : Option Jvm.ClassFile.FieldType), Jvm.Cond.code ({ cls := "com/example/weaverbird/weaverbird/automaton/HoaLexer$Token", name := "<init>", desc := "(Lcom/example/weaverbird/weaverbird/automaton/HoaLexer$Type;Ljava/lang/String;I)V" } : Jvm.MethodName) prog_16_method_1_code (4 : Nat) (Option.none : Option Jvm.ClassFile.FieldType), Jvm.Cond.code ({ cls := "java/lang/Record", name := "<init>", desc := "()V" } : Jvm.MethodName) jdk_30_method_1_code (1 : Nat) (Option.none : Option Jvm.ClassFile.FieldType), Jvm.Cond.code ({ cls := "com/example/weaverbird/weaverbird/automaton/HoaLexer$Token", name := "is", desc := "(Lcom/example/weaverbird/weaverbird/automaton/HoaLexer$Type;Ljava/lang/String;)Z" } : Jvm.MethodName) prog_16_method_2_code (3 : Nat) (Option.some Jvm.ClassFile.FieldType.boolean), Jvm.Cond.code ({ cls := "java/lang/StringUTF16", name := "compress", desc := "([CII)[B" } : Jvm.MethodName) jdk_52_method_16_code (6 : Nat) (Option.some (Jvm.ClassFile.FieldType.array Jvm.ClassFile.FieldType.byte)), Jvm.Cond.code ({ cls := "java/lang/StringUTF16", name := "compress", desc := "([CI[BII)I" } : Jvm.MethodName) jdk_52_method_21_code (7 : Nat) (Option.some Jvm.ClassFile.FieldType.int), Jvm.Cond.code ({ cls := "java/lang/StringUTF16", name := "coderFromArrayLen", desc := "([BI)B" } : Jvm.MethodName) jdk_52_method_15_code (2 : Nat) (Option.some Jvm.ClassFile.FieldType.byte), Jvm.Cond.code ({ cls := "java/lang/String", name := "equals", desc := "(Ljava/lang/Object;)Z" } : Jvm.MethodName) jdk_42_method_66_code (3 : Nat) (Option.some Jvm.ClassFile.FieldType.boolean), Jvm.Cond.code ({ cls := "java/lang/StringLatin1", name := "equals", desc := "([B[B)Z" } : Jvm.MethodName) jdk_43_method_13_code (3 : Nat) (Option.some Jvm.ClassFile.FieldType.boolean)]
set_option maxRecDepth 65536 in
theorem codes_eq : words1.filter isCode = codes1 := rfl
theorem w_codes : ∀ c ∈ words1.filter isCode, c.before args0 about1 = true := by
  rw [codes_eq]
  intro c hc
  simp only [codes1, List.mem_cons, List.not_mem_nil, or_false] at hc
  rcases hc with rfl | rfl | rfl | rfl | rfl | rfl | rfl | rfl | rfl | rfl | rfl | rfl | rfl | rfl
  · exact w_c0
  · exact w_c1
  · exact w_c2
  · exact w_c3
  · exact w_c4
  · exact w_c5
  · exact w_c6
  · exact w_c7
  · exact w_c8
  · exact w_c9
  · exact w_c10
  · exact w_c11
  · exact w_c12
  · exact w_c13
set_option maxRecDepth 65536 in
theorem w_t1 : (words1.take 24).all (fun c => isCode c || c.before args0 about1) = true := by decide +kernel
set_option maxRecDepth 65536 in
theorem w_t2 : ((words1.drop 24).take 24).all (fun c => isCode c || c.before args0 about1) = true := by decide +kernel
set_option maxRecDepth 65536 in
theorem w_t3 : (((words1.drop 24).drop 24).take 24).all (fun c => isCode c || c.before args0 about1) = true := by decide +kernel
set_option maxRecDepth 65536 in
theorem w_t4 : (((words1.drop 24).drop 24).drop 24).all (fun c => isCode c || c.before args0 about1) = true := by decide +kernel
theorem w_tables : (allAtoms (Jvm.Cond.code x code maxLocals ret :: tables_1)).before args0 about1 = true := by
  rw [allAtoms_all]
  show words1.all (fun c => c.before args0 about1) = true
  refine all_split ?_ w_codes
  rw [← List.take_append_drop 24 words1, List.all_append, w_t1, ← List.take_append_drop 24 (words1.drop 24), List.all_append, w_t2, ← List.take_append_drop 24 ((words1.drop 24).drop 24), List.all_append, w_t3, w_t4]
  rfl
set_option maxRecDepth 65536 in
theorem w_rest : rest_1_c.before args0 about1 = true := by decide +kernel
set_option maxRecDepth 65536 in
theorem w_case : (Jvm.Cond.and given_1 narrow_1).before args0 about1 = true := by decide +kernel
set_option maxRecDepth 65536 in
theorem w_consts : constsHeld consts_1 about1 := Jvm.Lit.constsHeldB_iff.mp (by decide +kernel)
theorem w_applies : (headSpec (Jvm.Cond.code x code maxLocals ret :: tables_1) room_1).applies x e0.platform about1 = true :=
  (Spec.applies_iff w_frames).mpr ⟨w_running, w_runnable, w_alone, w_named, w_hears, w_ripe, w_room, w_tables⟩
theorem atStart : AtStart classFile x code maxLocals ret World_1 tables_1 room_1 Calls_1 rest_1 Pre_1 launch0 p0 e0 about1 theMethod args0 below0 :=
  ⟨lists_1, trivial, launch0.admits_env _ _ _, launch0.least_env, fairChoices_fair.cas, fairChoices_fair.clock, w_frames, w_args, w_heap, w_applies, ⟨w_consts, trivial⟩, w_rest, w_case⟩
end start1
theorem witness_1 : WitnessClaimed_1 := ⟨start1.p0, start1.e0, start1.about1, start1.theMethod, start1.args0, start1.below0, start1.atStart⟩
end Jvm.Pilot.@@N@@
