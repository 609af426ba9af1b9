import JvmDerived
import JvmDerived.Pilot.@@N@@Statement
import JvmDerived.Pilot.@@N@@Code
set_option linter.unusedVariables false
set_option linter.unusedSimpArgs false
namespace Jvm.Pilot.@@N@@
open Jvm Jvm.ClassFile Sem Op Lib Jvm.Free Jvm.Stand Jvm.LawKit Jvm.RoadKit Bundle Jvm.Pilot.@@N@@.Jvm.D
section Own
variable {p : Program} {l : Launch} {e : Env} {R : Room} {s : State} {m : MethodId} {args : Array Value} {below : List Frame} {meth : Method} {c : Code} {T T' : State} {locs : List Loc} {cells slots : Nat} {g g' : JFrame} {C S n0 : Nat} {F : Outcome → State → List Loc → Prop} {Q : Option Value → Heap → Prop} {Z : State} {a0 : Array Value} {h h' h0 : Heap} {rest argsL : List Value} {own : String} {index : Nat} {a b : Addr} {k : ClassId} {ty : FieldType} {n j : Int32} {vs : List Value} {dv v : Value}
/-- from here the run comes to its return, and what it leaves is Q -/
def OEnds (p : Program) (e : Env) (below : List Frame) (F : Outcome → State → List Loc → Prop) (n0 : Nat) (Q : Option Value → Heap → Prop) (T : State) (g : JFrame) : Prop :=
  ∃ t o, Steps p.tables e below (T.setTop g) t ∧ t.status = .running ∧ Ended t below o ∧ ∃ v L, o = .returned v ∧ (Fr n0 L ∧ Q v t.heap) ∧ F o t L
/-- a body's contract -/
def OCon (l : Launch) (y : MethodName) (bytes : ByteArray) (ml : Nat) (ret : Option FieldType) (rm : Room) (Z : State) (as : Array Value) (h0 : Heap) (n0 : Nat) (Q : Option Value → Heap → Prop) : Prop :=
  ∀ ws, MetFree l y (head1 (Jvm.Cond.code y bytes ml ret :: ws) rm) (fun a U => a = as ∧ Z.Warmed39 U.vm ∧ U.heap = h0) (fun _ _ _ _ _ => True) (fun _ U o U' => ∃ v L, o = .returned v ∧ (Fr n0 L ∧ Q v U'.heap) ∧ FrameEnd U o U' L rm.cells rm.slots)
theorem own_body {y : MethodName} {bytes : ByteArray} {ml : Nat} {ret : Option FieldType} {rm : Room} {as : Array Value} (hp : plainFor y = true)
    (kk : ∀ (p : Program) (e : Env) (s : State) (m : MethodId) (below : List Frame) (meth : Method) (c : Code) (T : State), p.tables.exec = Jvm.exec → Z.Warmed39 s.vm → c.code = bytes → c.maxLocals = ml → s.vm.findClass y.cls = some m.cls → meth.name = y.name → meth.sig.returnType = ret → meth.locks = false → T.heap = h0 →
      Stand p l e rm s m as below meth c T [] 0 0 → OEnds p e below (fun o t L => FrameEnd s o t L rm.cells rm.slots) n0 Q T (entryFrame m as ml)) : OCon l y bytes ml ret rm Z as h0 n0 Q := by
  intro ws
  refine MetFree.of_bodySF hp hisR ?_
  intro p e s m args below meth c s₁ Bd hml0 hP hK
  obtain ⟨rfl, hZ, hh⟩ := hP
  exact kk p e s m below meth c s₁ Bd.exec hZ Bd.bytes hml0 (findClass_of_methodNamed Bd.named) (name_of_methodNamed Bd.named Bd.method).1 Bd.returns Bd.notSynchronized (by rw [← hh, Bd.state]; rfl) (Stand.of_body Bd)
theorem own_go (kk : ∀ t, Steps p.tables e below (T'.setTop g') t → Steps p.tables e below (T.setTop g) t) (hE : OEnds p e below F n0 Q T' g') : OEnds p e below F n0 Q T g := by
  obtain ⟨t, o, h1, h2⟩ := hE
  exact ⟨t, o, kk t h1, h2⟩
theorem own_at (q : g = g') (hE : OEnds p e below F n0 Q T g') : OEnds p e below F n0 Q T g := q ▸ hE
theorem own_let {α : Sort _} {P : α → Prop} (a : α) (hh : ∀ x, x = a → P x) : P a := hh a rfl
theorem own_cast {α : Sort _} {P : α → Prop} {a b : α} (q : a = b) (hh : P b) : P a := q ▸ hh
theorem own_fin (X : Stand p l e R s m args below meth c T locs cells slots) (hlk : meth.locks = false) {v : Option Value} (hv : meth.sig.returnType = none → v = none)
    (st : ∀ fs, (∀ (f : JFrame) (acts : List Action), f.method = m → f.locked = none → f.entered = [] → (doReturn e (T.setTop f) acts v).1 = T.setFrames fs) → Steps p.tables e below (T.setTop g) (T.setFrames fs))
    (N : Fr n0 locs) (hc : cells ≤ C) (hs : slots ≤ S) (q : Q v T.heap) : OEnds p e below (fun o t L => FrameEnd s o t L C S) n0 Q T g := by
  obtain ⟨fs, hr, hrun, hended, hW, hsame⟩ := X.leave (v := v) hv hlk
  exact ⟨_, _, st fs hr, hrun, hended, _, _, rfl, ⟨N, q⟩, ⟨_, rfl⟩, hW, hsame.mono hc hs⟩
theorem own_retI0 (X : Stand p l e R s m args below meth c T locs cells slots) (hx : p.tables.exec = Jvm.exec) {pc : Nat} {Ls : Array Slot} {z : Int32} {rest : List Value} (hret : meth.sig.returnType = some .int) (hd : decode c.code pc = .ok (.ireturn, 1)) {fs : List Frame}
    (hl : ∀ (f : JFrame) (acts : List Action), f.method = m → f.locked = none → f.entered = [] → (doReturn e (T.setTop f) acts (some (.int z))).1 = T.setFrames fs) : Steps p.tables e below (T.setTop (mkF m pc Ls (.int z :: rest))) (T.setFrames fs) := by
  have hm' : T.vm.method? m = some meth := X.method'
  have hn : narrow .int (.int z) = .int z := rfl
  show Steps p.tables e below (T.setTop { method := m, pc := pc, locals := Ls, stack := _ :: rest, locked := none }) _
  jvm_step X.here [X.here.top, hx, hd, hm', hret, hn]
  first | (intro acts; rw [hl _ acts rfl rfl rfl]) | rw [hl _ _ rfl rfl rfl]
  exact Steps.refl _
theorem own_retI (X : Stand p l e R s m args below meth c T locs cells slots) (hx : p.tables.exec = Jvm.exec) (hlk : meth.locks = false) {pc : Nat} {Ls : Array Slot} {z : Int32} (hret : meth.sig.returnType = some .int) (hd : decode c.code pc = .ok (.ireturn, 1)) (eT : T.heap = h) (N : Fr n0 locs) (hc : cells ≤ C) (hs : slots ≤ S) (q : Q (some (.int z)) h) : OEnds p e below (fun o t L => FrameEnd s o t L C S) n0 Q T (mkF m pc Ls (.int z :: rest)) :=
  own_fin X hlk (fun hn => by rw [hret] at hn; cases hn) (fun fs hl => own_retI0 X hx hret hd hl) N hc hs (eT ▸ q)
theorem own_retN (X : Stand p l e R s m args below meth c T locs cells slots) (hx : p.tables.exec = Jvm.exec) (hlk : meth.locks = false) {t : FieldType} {pc : Nat} {Ls : Array Slot} {z z' : Int32} (hret : meth.sig.returnType = some t) (ht : t = .boolean ∨ t = .byte ∨ t = .char ∨ t = .short) (hd : decode c.code pc = .ok (.ireturn, 1)) (hz : nar t z = z') (eT : T.heap = h) (N : Fr n0 locs) (hc : cells ≤ C) (hs : slots ≤ S) (q : Q (some (.int z')) h) : OEnds p e below (fun o t L => FrameEnd s o t L C S) n0 Q T (mkF m pc Ls (.int z :: rest)) :=
  own_fin X hlk (v := some (.int (nar t z))) (fun hn => by rw [hret] at hn; cases hn) (fun fs hl => retN X hx hret ht hd hl) N hc hs (by rw [hz, eT]; exact q)
theorem own_retJ (X : Stand p l e R s m args below meth c T locs cells slots) (hx : p.tables.exec = Jvm.exec) (hlk : meth.locks = false) {pc : Nat} {Ls : Array Slot} {z : Int64} (hret : meth.sig.returnType = some .long) (hd : decode c.code pc = .ok (.lreturn, 1)) (eT : T.heap = h) (N : Fr n0 locs) (hc : cells ≤ C) (hs : slots ≤ S) (q : Q (some (.long z)) h) : OEnds p e below (fun o t L => FrameEnd s o t L C S) n0 Q T (mkF m pc Ls [.long z]) :=
  own_fin X hlk (fun hn => by rw [hret] at hn; cases hn) (fun fs hl => X.lreturnOut hx hret hd hl) N hc hs (eT ▸ q)
theorem own_retA (X : Stand p l e R s m args below meth c T locs cells slots) (hx : p.tables.exec = Jvm.exec) (hlk : meth.locks = false) {t : FieldType} {pc : Nat} {Ls : Array Slot} {w : Value} (hw : w.isRef = true) (hret : meth.sig.returnType = some t) (ht : t.isReference = true) (hd : decode c.code pc = .ok (.areturn, 1)) (eT : T.heap = h) (N : Fr n0 locs) (hc : cells ≤ C) (hs : slots ≤ S) (q : Q (some w) h) : OEnds p e below (fun o t L => FrameEnd s o t L C S) n0 Q T (mkF m pc Ls [w]) :=
  own_fin X hlk (fun hn => by rw [hret] at hn; cases hn) (fun fs hl => X.areturnOut hx hw hret ht hd hl) N hc hs (eT ▸ q)
theorem own_retV (X : Stand p l e R s m args below meth c T locs cells slots) (hx : p.tables.exec = Jvm.exec) (hlk : meth.locks = false) {pc : Nat} {Ls : Array Slot} (hret : meth.sig.returnType = none) (hd : decode c.code pc = .ok (.return_, 1)) (eT : T.heap = h) (N : Fr n0 locs) (hc : cells ≤ C) (hs : slots ≤ S) (q : Q none h) : OEnds p e below (fun o t L => FrameEnd s o t L C S) n0 Q T (mkF m pc Ls []) :=
  own_fin X hlk (fun _ => rfl) (fun fs hl => X.returnOut hx hret hd hl) N hc hs (eT ▸ q)
/-! calls -/
theorem own_callS (X : Stand p l e R s m args below meth c T locs cells slots) (hx : p.tables.exec = Jvm.exec) (hZ : Z.Warmed39 s.vm) {y : MethodName} {bytes : ByteArray} {maxL W : Nat} {ret : Option FieldType} {rm : Room} {Qc : Option Value → Heap → Prop} (hown : s.vm.findClass own = some m.cls)
    (w1 : (Cond.methodLink own index y).before a0 Z = true) (w2 : (Cond.static y).before a0 Z = true) (w3 : (Cond.initialized y.cls).before a0 Z = true) (w4 : (Cond.code y bytes maxL ret).before a0 Z = true) (hy : y.cls ≠ "java/lang/invoke/MethodHandle" ∧ y.cls ≠ "java/lang/invoke/VarHandle")
    (K : OCon l y bytes maxL ret rm Z argsL.toArray h n0 Qc) (hfr : rm.frames + 1 ≤ R.frames) (hlo : W + (maxL + 11) + rm.locals ≤ R.locals) (hg : g.method = m) (hsize : g.locals.size = c.maxLocals) (hlen : ∀ sig, parseMethodDescriptor y.desc = some sig → argsL.length = sig.parameters.length)
    (hstack : g.stack = argsL.reverse ++ rest) (hW : 2 * g.monitorRoom + (rest.map fun v => v.category).sum ≤ W) (hd : decode c.code g.pc = .ok (.invokestatic index, 3)) (eT : T.heap = h) (N : Fr n0 locs) (hc : cells + rm.cells ≤ R.cells) (hs : slots + rm.slots ≤ R.slots)
    (kk : ∀ (v : Option Value) (T' : State) (locs' : List Loc), Stand p l e R s m args below meth c T' locs' (cells + rm.cells) (slots + rm.slots) → Fr n0 locs' → Qc v T'.heap → OEnds p e below F n0 Q T' { g with pc := g.pc + 3, stack := v.toList ++ rest }) : OEnds p e below F n0 Q T g := by
  obtain ⟨v, vm₁, ⟨T', L', k', n'⟩, -, X', ⟨Lc, ⟨N', hQ⟩, l', y', z'⟩, st⟩ := Jvm.LawKit.callS X hx hown (mvT hZ w1) (mvT hZ w2) (mvT hZ w3) (mvT hZ w4) hy (backOf (W := W) (Q := fun v h L => Fr n0 L ∧ Qc v h) (K []) hZ w4 w3 hfr hlo) hg hsize hlen hstack hW hd (fun _ _ => ⟨rfl, eT, hc, hs⟩)
  dsimp only [Pt.U, Pt.locs, Pt.cells, Pt.slots] at X' l' y' z' st hQ
  subst l' y' z'
  exact own_go st (kk v T' _ X' (Fr.app N N') hQ)
theorem own_callC (X : Stand p l e R s m args below meth c T locs cells slots) (hx : p.tables.exec = Jvm.exec) (hZ : Z.Warmed39 s.vm) {y : MethodName} {bytes : ByteArray} {maxL W : Nat} {rm : Room} {Qc : Option Value → Heap → Prop} (hy1 : y.name = "<init>") (hown : s.vm.findClass own = some m.cls)
    (w1 : (Cond.methodLink own index y).before a0 Z = true) (w2 : (Cond.instanceMethod y).before a0 Z = true) (w3 : (Cond.initialized y.cls).before a0 Z = true) (w4 : (Cond.code y bytes maxL none).before a0 Z = true) (hy : y.cls ≠ "java/lang/invoke/MethodHandle" ∧ y.cls ≠ "java/lang/invoke/VarHandle")
    (K : OCon l y bytes maxL none rm Z (.ref a :: argsL).toArray h n0 Qc) (hfr : rm.frames + 1 ≤ R.frames) (hlo : W + (maxL + 11) + rm.locals ≤ R.locals) (hg : g.method = m) (hsize : g.locals.size = c.maxLocals) (hlen : ∀ sig, parseMethodDescriptor y.desc = some sig → argsL.length = sig.parameters.length)
    (hstack : g.stack = argsL.reverse ++ .ref a :: rest) (hW : 2 * g.monitorRoom + (rest.map fun v => v.category).sum ≤ W) (hd : decode c.code g.pc = .ok (.invokespecial index, 3)) (eT : T.heap = h) (N : Fr n0 locs) (hc : cells + rm.cells ≤ R.cells) (hs : slots + rm.slots ≤ R.slots)
    (kk : ∀ (v : Option Value) (T' : State) (locs' : List Loc), Stand p l e R s m args below meth c T' locs' (cells + rm.cells) (slots + rm.slots) → Fr n0 locs' → Qc v T'.heap → OEnds p e below F n0 Q T' { g with pc := g.pc + 3, stack := v.toList ++ rest }) : OEnds p e below F n0 Q T g := by
  obtain ⟨v, vm₁, ⟨T', L', k', n'⟩, -, X', ⟨Lc, ⟨N', hQ⟩, l', y', z'⟩, st⟩ := X.specialBack hx hy1 hown (mvT hZ w1) (mvT hZ w2) (mvT hZ w4) hy (backOf (W := W) (Q := fun v h L => Fr n0 L ∧ Qc v h) (K []) hZ w4 w3 hfr hlo) hg hsize (Steps.refl _) hlen hstack hW hd (fun _ _ => ⟨rfl, eT, hc, hs⟩)
  dsimp only [Pt.U, Pt.locs, Pt.cells, Pt.slots] at X' l' y' z' st hQ
  subst l' y' z'
  exact own_go (fun t kt => st.trans kt) (kk v T' _ X' (Fr.app N N') hQ)
theorem own_callV (X : Stand p l e R s m args below meth c T locs cells slots) (hx : p.tables.exec = Jvm.exec) (hZ : Z.Warmed39 s.vm) {y : MethodName} {bytes : ByteArray} {maxL W : Nat} {ret : Option FieldType} {rm : Room} {Qc : Option Value → Heap → Prop} {C0 : String} (hown : s.vm.findClass own = some m.cls)
    (w1 : (Cond.methodLink own index y).before a0 Z = true) (wd : (Cond.declares y).before a0 Z = true) (ws : (Cond.selects C0 y y).before a0 Z = true) (w2 : (Cond.instanceMethod y).before a0 Z = true) (w3 : (Cond.initialized y.cls).before a0 Z = true) (w4 : (Cond.code y bytes maxL ret).before a0 Z = true) (hy : y.cls ≠ "java/lang/invoke/MethodHandle" ∧ y.cls ≠ "java/lang/invoke/VarHandle")
    (K : OCon l y bytes maxL ret rm Z (.ref a :: argsL).toArray h n0 Qc) (E : Exa Z h a C0) (hfr : rm.frames + 1 ≤ R.frames) (hlo : W + (maxL + 11) + rm.locals ≤ R.locals) (hg : g.method = m) (hsize : g.locals.size = c.maxLocals) (hlen : ∀ sig, parseMethodDescriptor y.desc = some sig → argsL.length = sig.parameters.length)
    (hstack : g.stack = argsL.reverse ++ .ref a :: rest) (hW : 2 * g.monitorRoom + (rest.map fun v => v.category).sum ≤ W) (hd : decode c.code g.pc = .ok (.invokevirtual index, 3)) (eT : T.heap = h) (N : Fr n0 locs) (hc : cells + rm.cells ≤ R.cells) (hs : slots + rm.slots ≤ R.slots)
    (kk : ∀ (v : Option Value) (T' : State) (locs' : List Loc), Stand p l e R s m args below meth c T' locs' (cells + rm.cells) (slots + rm.slots) → Fr n0 locs' → Qc v T'.heap → OEnds p e below F n0 Q T' { g with pc := g.pc + 3, stack := v.toList ++ rest }) : OEnds p e below F n0 Q T g := by
  obtain ⟨cq, kq, qa, qb, qc⟩ := isOf hZ eT E
  obtain ⟨v, vm₁, ⟨T', L', k', n'⟩, -, X', ⟨Lc, ⟨N', hQ⟩, l', y', z'⟩, st⟩ := X.virtualBack hx hown (mvT hZ w1) (mvT hZ wd) (notFace_of_selects (args := #[]) (mvT hZ ws)) (mvT hZ ws) (mvT hZ w2) hy (backOf (W := W) (Q := fun v h L => Fr n0 L ∧ Qc v h) (K []) hZ w4 w3 hfr hlo) qa qc hg hsize (Steps.refl _) hlen hstack hW hd (fun _ _ => ⟨rfl, eT, hc, hs⟩)
  dsimp only [Pt.U, Pt.locs, Pt.cells, Pt.slots] at X' l' y' z' st hQ
  subst l' y' z'
  exact own_go (fun t kt => st.trans kt) (kk v T' _ X' (Fr.app N N') hQ)
/-! fields -/
theorem own_getF (X : Stand p l e R s m args below meth c T locs cells slots) (hx : p.tables.exec = Jvm.exec) (hZ : Z.Warmed39 s.vm) {O nm d : String} (hown : s.vm.findClass own = some m.cls) (w : (Cond.fieldLink own index O nm d).before a0 Z = true) (eT : T.heap = h) (Fv : Fld Z h a O nm d v) (hg : g.method = m) (hs : g.stack = .ref a :: rest) (hd : decode c.code g.pc = .ok (.getfield index, 3))
    (kk : ∀ T', Stand p l e R s m args below meth c T' locs cells slots → T'.heap = h → OEnds p e below F n0 Q T' { g with pc := g.pc + 3, stack := v :: rest }) : OEnds p e below F n0 Q T g := by
  obtain ⟨T', X', e', st⟩ := getF X hx hZ hown (host := "") (Or.inl w) Via.refl eT Fv hg hs hd
  exact own_go st (kk T' X' e')
theorem own_putF (X : Stand p l e R s m args below meth c T locs cells slots) (hx : p.tables.exec = Jvm.exec) (hZ : Z.Warmed39 s.vm) {O nm d C0 : String} {kk0 : Nat} {v' old : Value} (hown : s.vm.findClass own = some m.cls) (w : (Cond.fieldLink own index O nm d).before a0 Z = true) (eT : T.heap = h) (Fv : Fld Z h a O nm d old) (E : Exa Z h a C0)
    (L : (Cond.lays C0 O nm d).before a0 Z = true ∨ ((Cond.laysFinal C0 O nm d).before a0 Z = true ∧ own = O ∧ meth.name = "<init>")) (wi : (Cond.instantiable C0 kk0).before a0 Z = true) (hty : parseFieldDescriptor d = some ty) (hn : narrow ty v = v') (hf : fits ty v' = true) (N : Fr n0 locs) (ga : n0 ≤ a) (hg : g.method = m) (hs : g.stack = v :: .ref a :: rest) (hd : decode c.code g.pc = .ok (.putfield index, 3))
    (kk : ∀ T' h' locs', Stand p l e R s m args below meth c T' locs' cells slots → T'.heap = h' → Fr n0 locs' → Wr h h' a (RoadKit.slotOf Z O nm d) v' → Fld Z h' a O nm d v' → OEnds p e below F n0 Q T' { g with pc := g.pc + 3, stack := rest }) : OEnds p e below F n0 Q T g := by
  obtain ⟨T', h', X', e', W', st⟩ := putFN X hx hZ hown w Via.refl eT Fv E L wi hty hn hf hg hs hd
  exact own_go st (kk T' h' _ X' e' (Fr.snoc X' N ga) W' (Fv.same W'))
theorem own_initO (X : Stand p l e R s m args below meth c T locs cells slots) (hx : p.tables.exec = Jvm.exec) (hZ : Z.Warmed39 s.vm) {W : Nat} (hown : s.vm.findClass own = some m.cls) (w1 : (Cond.methodLink own index Lib.objectInit).before a0 Z = true) (w2 : (Cond.instanceMethod Lib.objectInit).before a0 Z = true)
    (w3 : (Cond.code Lib.objectInit ⟨#[0xb1]⟩ 1 none).before a0 Z = true) (eT : T.heap = h) (hg : g.method = m) (hsize : g.locals.size = c.maxLocals) (hs : g.stack = .ref a :: rest) (hd : decode c.code g.pc = .ok (.invokespecial index, 3)) (hf : 1 ≤ R.frames) (hW : 2 * g.monitorRoom + (rest.map fun v => v.category).sum ≤ W) (hl : W + 12 ≤ R.locals)
    (kk : ∀ T', Stand p l e R s m args below meth c T' locs cells slots → T'.heap = h → OEnds p e below F n0 Q T' { g with pc := g.pc + 3, stack := rest }) : OEnds p e below F n0 Q T g := by
  obtain ⟨T', X', e', st⟩ := initO X hx hZ hown w1 w2 w3 eT hg hsize hs hd hf hW hl
  exact own_go st (kk T' X' e')
theorem own_new (X : Stand p l e R s m args below meth c T locs cells slots) (hx : p.tables.exec = Jvm.exec) (hZ : Z.Warmed39 s.vm) {C0 : String} {sl : Nat} (hown : s.vm.findClass own = some m.cls) (w : (Cond.classLink own index C0).before a0 Z = true) (wi : (Cond.instantiable C0 sl).before a0 Z = true) (wz : (Cond.initialized C0).before a0 Z = true) (eT : T.heap = h) (hg : g.method = m) (hd : decode c.code g.pc = .ok (.new index, 3)) (hc : cells + 1 ≤ R.cells) (hl : slots + sl ≤ R.slots)
    (kk : ∀ T' h' b, b = h.size → Stand p l e R s m args below meth c T' locs (cells + 1) (slots + sl) → T'.heap = h' → Ext h h' → Exa Z h' b C0 → (∀ {O nm d : String} {ty : FieldType}, Laid Z a0 C0 O nm d → parseFieldDescriptor d = some ty → Fld Z h' b O nm d (defaultValue ty)) → OEnds p e below F n0 Q T' { g with pc := g.pc + 3, stack := .ref b :: g.stack }) : OEnds p e below F n0 Q T g := by
  obtain ⟨T', h', X', e', E', A', D', -, st⟩ := newO X hx hZ hown w wi wz eT hg hd hc hl
  exact own_go st (kk T' h' _ rfl X' e' E' A' D')
/-! arrays -/
theorem own_newarr (X : Stand p l e R s m args below meth c T locs cells slots) (hx : p.tables.exec = Jvm.exec) (hZ : Z.Warmed39 s.vm) {aty : ArrayType} (w : (Cond.arrayClass (newarray.typeOf aty)).before a0 Z = true) (eT : T.heap = h) (hg : g.method = m) (hd : decode c.code g.pc = .ok (.newarray aty, 2)) (hs : g.stack = .int n :: rest) (hn : ¬ n < 0) {cap : Nat} (hcap : n.toNatClampNeg ≤ cap) (hb : cap * 8 ≤ 536870912) (hc : cells + 1 ≤ R.cells) (hl : slots + cap ≤ R.slots)
    (kk : ∀ T' h' b k, b = h.size → Stand p l e R s m args below meth c T' locs (cells + 1) (slots + cap) → T'.heap = h' → Ext h h' → Arv Z h' b k (newarray.typeOf aty) n (List.replicate cap (defaultValue (newarray.typeOf aty))) (defaultValue (newarray.typeOf aty)) → OEnds p e below F n0 Q T' { g with pc := g.pc + 2, stack := .ref b :: rest }) : OEnds p e below F n0 Q T g := by
  obtain ⟨T', h', kA, X', e', E', A', st⟩ := newP X hx hZ w eT hg hd hs hn hcap hb hc hl
  exact own_go st (kk T' h' _ kA rfl X' e' E' ((Arv.new A' hn).pad (pad_rep [] _ cap)))
theorem own_alen (X : Stand p l e R s m args below meth c T locs cells slots) (hx : p.tables.exec = Jvm.exec) (hZ : Z.Warmed39 s.vm) (eT : T.heap = h) (V : Arv Z h a k ty n vs dv) (hg : g.method = m) (hs : g.stack = .ref a :: rest) (hd : decode c.code g.pc = .ok (.arraylength, 1))
    (kk : OEnds p e below F n0 Q T { g with pc := g.pc + 1, stack := .int n :: rest }) : OEnds p e below F n0 Q T g := by
  obtain ⟨cl, Ar, -, Sz, M, H, -⟩ := V
  refine own_go (fun t kt => X.arraylength hx (by rw [eT]; exact Ar.1) (State.isArrayOf_alike hZ.alike Ar.2.1) hg hs hd t kt) ?_
  rw [len_of Sz M]; exact kk
theorem own_iaload (X : Stand p l e R s m args below meth c T locs cells slots) (hx : p.tables.exec = Jvm.exec) (hZ : Z.Warmed39 s.vm) (eT : T.heap = h) (V : Arv Z h a k .int n vs dv) (hj : ¬ j < 0 ∧ j < n) (hv : vs.getD j.toNatClampNeg dv = v) (hg : g.method = m) (hs : g.stack = .int j :: .ref a :: rest) (hd : decode c.code g.pc = .ok (.iaload, 1))
    (kk : OEnds p e below F n0 Q T { g with pc := g.pc + 1, stack := v :: rest }) : OEnds p e below F n0 Q T g := by
  obtain ⟨cl, Ar, -, Sz, M, H, -⟩ := V
  exact own_go (fun t kt => X.iaload hx (by rw [eT]; exact Ar.1) (State.isArrayOf_alike hZ.alike Ar.2.1) Ar.2.2 (inb_of Sz hj) (H.at (inb_of Sz hj) hv) hg hs hd t kt) kk
theorem own_laload (X : Stand p l e R s m args below meth c T locs cells slots) (hx : p.tables.exec = Jvm.exec) (hZ : Z.Warmed39 s.vm) (eT : T.heap = h) (V : Arv Z h a k .long n vs dv) (hj : ¬ j < 0 ∧ j < n) (hv : vs.getD j.toNatClampNeg dv = v) (hg : g.method = m) (hs : g.stack = .int j :: .ref a :: rest) (hd : decode c.code g.pc = .ok (.laload, 1))
    (kk : OEnds p e below F n0 Q T { g with pc := g.pc + 1, stack := v :: rest }) : OEnds p e below F n0 Q T g := by
  obtain ⟨cl, Ar, -, Sz, M, H, -⟩ := V
  exact own_go (fun t kt => X.laload hx (by rw [eT]; exact Ar.1) (State.isArrayOf_alike hZ.alike Ar.2.1) Ar.2.2 (inb_of Sz hj) (H.at (inb_of Sz hj) hv) hg hs hd t kt) kk
theorem own_caload (X : Stand p l e R s m args below meth c T locs cells slots) (hx : p.tables.exec = Jvm.exec) (hZ : Z.Warmed39 s.vm) (eT : T.heap = h) (V : Arv Z h a k .char n vs dv) (hj : ¬ j < 0 ∧ j < n) (hv : vs.getD j.toNatClampNeg dv = v) (hg : g.method = m) (hs : g.stack = .int j :: .ref a :: rest) (hd : decode c.code g.pc = .ok (.caload, 1))
    (kk : OEnds p e below F n0 Q T { g with pc := g.pc + 1, stack := v :: rest }) : OEnds p e below F n0 Q T g := by
  obtain ⟨cl, Ar, -, Sz, M, H, -⟩ := V
  exact own_go (fun t kt => X.caload hx (by rw [eT]; exact Ar.1) (State.isArrayOf_alike hZ.alike Ar.2.1) Ar.2.2 (inb_of Sz hj) (H.at (inb_of Sz hj) hv) hg hs hd t kt) kk
theorem own_baload (X : Stand p l e R s m args below meth c T locs cells slots) (hx : p.tables.exec = Jvm.exec) (hZ : Z.Warmed39 s.vm) (eT : T.heap = h) (V : Arv Z h a k .byte n vs dv) (hj : ¬ j < 0 ∧ j < n) (hv : vs.getD j.toNatClampNeg dv = v) (hg : g.method = m) (hs : g.stack = .int j :: .ref a :: rest) (hd : decode c.code g.pc = .ok (.baload, 1))
    (kk : OEnds p e below F n0 Q T { g with pc := g.pc + 1, stack := v :: rest }) : OEnds p e below F n0 Q T g := by
  obtain ⟨cl, Ar, -, Sz, M, H, -⟩ := V
  exact own_go (fun t kt => X.baloadBytes hx (by rw [eT]; exact Ar.1) (State.isArrayOf_alike hZ.alike Ar.2.1) Ar.2.2 (inb_of Sz hj) (H.at (inb_of Sz hj) hv) hg hs hd t kt) kk
theorem own_iastore (X : Stand p l e R s m args below meth c T locs cells slots) (hx : p.tables.exec = Jvm.exec) (hZ : Z.Warmed39 s.vm) {x : Int32} (eT : T.heap = h) (V : Arv Z h a k .int n vs dv) (hj : ¬ j < 0 ∧ j < n) (i : Nat) (hi : j.toNatClampNeg = i) (hl : i < vs.length) (N : Fr n0 locs) (ga : n0 ≤ a) (hg : g.method = m) (hs : g.stack = .int x :: .int j :: .ref a :: rest) (hd : decode c.code g.pc = .ok (.iastore, 1))
    (kk : ∀ T' h' locs', Stand p l e R s m args below meth c T' locs' cells slots → T'.heap = h' → Fr n0 locs' → Wr h h' a j.toNatClampNeg (.int x) → Arv Z h' a k .int n (vs.set i (.int x)) dv → OEnds p e below F n0 Q T' { g with pc := g.pc + 1, stack := rest }) : OEnds p e below F n0 Q T g := by
  obtain ⟨cl, Ar, q, Sz, M, H, G⟩ := V
  obtain ⟨T', h', X', e', W', st⟩ := stI X hx hZ eT Ar (j := j) (inb_of Sz hj) hg hs hd
  exact own_go st (kk T' h' _ X' e' (Fr.snoc X' N ga) W' (Arv.set Ar q Sz M H G rfl W' i hi hl))
theorem own_lastore (X : Stand p l e R s m args below meth c T locs cells slots) (hx : p.tables.exec = Jvm.exec) (hZ : Z.Warmed39 s.vm) {x : Int64} (eT : T.heap = h) (V : Arv Z h a k .long n vs dv) (hj : ¬ j < 0 ∧ j < n) (i : Nat) (hi : j.toNatClampNeg = i) (hl : i < vs.length) (N : Fr n0 locs) (ga : n0 ≤ a) (hg : g.method = m) (hs : g.stack = .long x :: .int j :: .ref a :: rest) (hd : decode c.code g.pc = .ok (.lastore, 1))
    (kk : ∀ T' h' locs', Stand p l e R s m args below meth c T' locs' cells slots → T'.heap = h' → Fr n0 locs' → Wr h h' a j.toNatClampNeg (.long x) → Arv Z h' a k .long n (vs.set i (.long x)) dv → OEnds p e below F n0 Q T' { g with pc := g.pc + 1, stack := rest }) : OEnds p e below F n0 Q T g := by
  obtain ⟨cl, Ar, q, Sz, M, H, G⟩ := V
  obtain ⟨T', h', X', e', W', st⟩ := stJ X hx hZ eT Ar (j := j) (inb_of Sz hj) hg hs hd
  exact own_go st (kk T' h' _ X' e' (Fr.snoc X' N ga) W' (Arv.set Ar q Sz M H G rfl W' i hi hl))
theorem own_bastore (X : Stand p l e R s m args below meth c T locs cells slots) (hx : p.tables.exec = Jvm.exec) (hZ : Z.Warmed39 s.vm) {x : Int32} (eT : T.heap = h) (V : Arv Z h a k .byte n vs dv) (hj : ¬ j < 0 ∧ j < n) (i : Nat) (hi : j.toNatClampNeg = i) (hl : i < vs.length) (N : Fr n0 locs) (ga : n0 ≤ a) (hg : g.method = m) (hs : g.stack = .int x :: .int j :: .ref a :: rest) (hd : decode c.code g.pc = .ok (.bastore, 1))
    (kk : ∀ T' h' locs', Stand p l e R s m args below meth c T' locs' cells slots → T'.heap = h' → Fr n0 locs' → Wr h h' a j.toNatClampNeg (.int (nar .byte x)) → Arv Z h' a k .byte n (vs.set i (.int (nar .byte x))) dv → OEnds p e below F n0 Q T' { g with pc := g.pc + 1, stack := rest }) : OEnds p e below F n0 Q T g := by
  obtain ⟨cl, Ar, q, Sz, M, H, G⟩ := V
  obtain ⟨T', h', X', e', W', st⟩ := stB X hx hZ eT Ar (j := j) (inb_of Sz hj) hg hs hd
  exact own_go st (kk T' h' _ X' e' (Fr.snoc X' N ga) W' (Arv.set Ar q Sz M H G (fits_nar_byte _) W' i hi hl))
theorem own_castore (X : Stand p l e R s m args below meth c T locs cells slots) (hx : p.tables.exec = Jvm.exec) (hZ : Z.Warmed39 s.vm) {x : Int32} (eT : T.heap = h) (V : Arv Z h a k .char n vs dv) (hj : ¬ j < 0 ∧ j < n) (i : Nat) (hi : j.toNatClampNeg = i) (hl : i < vs.length) (N : Fr n0 locs) (ga : n0 ≤ a) (hg : g.method = m) (hs : g.stack = .int x :: .int j :: .ref a :: rest) (hd : decode c.code g.pc = .ok (.castore, 1))
    (kk : ∀ T' h' locs', Stand p l e R s m args below meth c T' locs' cells slots → T'.heap = h' → Fr n0 locs' → Wr h h' a j.toNatClampNeg (.int (nar .char x)) → Arv Z h' a k .char n (vs.set i (.int (nar .char x))) dv → OEnds p e below F n0 Q T' { g with pc := g.pc + 1, stack := rest }) : OEnds p e below F n0 Q T g := by
  obtain ⟨cl, Ar, q, Sz, M, H, G⟩ := V
  obtain ⟨T', h', X', e', W', st⟩ := stC X hx hZ eT Ar (j := j) (inb_of Sz hj) hg hs hd
  exact own_go st (kk T' h' _ X' e' (Fr.snoc X' N ga) W' (Arv.set Ar q Sz M H G (fits_nar_char _) W' i hi hl))
/-! numbers -/
theorem own_lT {x y : Int64} (hh : x < y) : ifCond.holds .lt (lcmpW x y) = true ∧ ifCond.holds .ge (lcmpW x y) = false ∧ ifCond.holds .gt (lcmpW y x) = true ∧ ifCond.holds .le (lcmpW y x) = false := by
  simp only [if0]
  exact ⟨(tlt ((lw_lt x y).mpr hh)).1, (tlt ((lw_lt x y).mpr hh)).2.1, (tlt ((lw_gt y x).mpr hh)).2.2.1, (tlt ((lw_gt y x).mpr hh)).2.2.2⟩
theorem own_lF {x y : Int64} (hh : ¬ x < y) : ifCond.holds .lt (lcmpW x y) = false ∧ ifCond.holds .ge (lcmpW x y) = true ∧ ifCond.holds .gt (lcmpW y x) = false ∧ ifCond.holds .le (lcmpW y x) = true := by
  simp only [if0]
  have h1 : ¬ lcmpW x y < 0 := fun q => hh ((lw_lt x y).mp q)
  have h2 : ¬ 0 < lcmpW y x := fun q => hh ((lw_gt y x).mp q)
  exact ⟨(flt h1).1, (flt h1).2.1, (flt h2).2.2.1, (flt h2).2.2.2⟩
theorem own_eT {x y : Int64} (hh : x = y) : ifCond.holds .eq (lcmpW x y) = true ∧ ifCond.holds .ne (lcmpW x y) = false := by
  simp only [if0]
  exact teq ((lw_eq x y).mpr hh)
theorem own_eF {x y : Int64} (hh : ¬ x = y) : ifCond.holds .eq (lcmpW x y) = false ∧ ifCond.holds .ne (lcmpW x y) = true := by
  simp only [if0]
  exact feq (fun q => hh ((lw_eq x y).mp q))
end Own
section OwnW
variable {p : Program} {l : Launch} {e : Env} {R : Room} {s : State} {m : MethodId} {args : Array Value} {below : List Frame} {meth : Method} {c : Code} {T T' : State} {locs : List Loc} {cells slots : Nat} {g g' : JFrame} {C S n0 : Nat} {F : Outcome → State → List Loc → Prop} {Q : Option Value → Heap → Prop} {Z : State} {a0 : Array Value} {h h' h0 : Heap} {rest argsL : List Value} {own text : String} {index : Nat} {Ts : List String} {vm0 vm1 : Vm}
/-- a body's contract at the case's start itself; it may intern -/
def OConW (l : Launch) (y : MethodName) (bytes : ByteArray) (ml : Nat) (ret : Option FieldType) (rm : Room) (Z : State) (as : Array Value) (n0 : Nat) (Q : Option Value → Heap → Prop) : Prop :=
  ∀ ws, MetFree l y (head1 (Jvm.Cond.code y bytes ml ret :: ws) rm) (fun a U => a = as ∧ U = Z) (fun _ _ _ _ _ => True) (fun _ U o U' => ∃ v L, o = .returned v ∧ (Fr n0 L ∧ Q v U'.heap) ∧ ReturnedEndW Z o U' L rm.cells rm.slots)
theorem own_bodyW {y : MethodName} {bytes : ByteArray} {ml : Nat} {ret : Option FieldType} {rm : Room} {as : Array Value} (hp : plainFor y = true) (eh : h0 = Z.heap)
    (kk : ∀ (p : Program) (e : Env) (m : MethodId) (below : List Frame) (meth : Method) (c : Code) (T : State), p.tables.exec = Jvm.exec → c.code = bytes → c.maxLocals = ml → (Z.setVm Z.vm).vm.findClass y.cls = some m.cls → meth.name = y.name → meth.sig.returnType = ret → meth.locks = false → T.heap = h0 →
      Stand p l e rm (Z.setVm Z.vm) m as below meth c T [] 0 0 → OEnds p e below (fun o t L => ReturnedEndW Z o t L rm.cells rm.slots) n0 Q T (entryFrame m as ml)) : OConW l y bytes ml ret rm Z as n0 Q := by
  intro ws
  refine MetFree.of_bodySF hp hisR ?_
  intro p e s m args below meth c s₁ Bd hml0 hP hK
  obtain ⟨rfl, rfl⟩ := hP
  exact kk p e m below meth c s₁ Bd.exec Bd.bytes hml0 (findClass_of_methodNamed Bd.named) (name_of_methodNamed Bd.named Bd.method).1 Bd.returns Bd.notSynchronized (by rw [eh, Bd.state]; rfl) (Stand.of_body Bd)
theorem own_retNW (X : Stand p l e R (Z.setVm vm1) m args below meth c T locs cells slots) (hx : p.tables.exec = Jvm.exec) (hlk : meth.locks = false) {k1 : Nat} (hS : Z.Since vm1 k1) (hk : k1 ≤ h.size) {t : FieldType} {pc : Nat} {Ls : Array Slot} {z z' : Int32} (hret : meth.sig.returnType = some t) (ht : t = .boolean ∨ t = .byte ∨ t = .char ∨ t = .short) (hd : decode c.code pc = .ok (.ireturn, 1)) (hz : nar t z = z') (eT : T.heap = h) (N : Fr n0 locs) (hc : cells ≤ C) (hs : slots ≤ S) (q : Q (some (.int z')) h) : OEnds p e below (fun o t L => ReturnedEndW Z o t L C S) n0 Q T (mkF m pc Ls (.int z :: rest)) := by
  obtain ⟨fs, hr, hrun, hended, hE⟩ := X.leaveW hS (by rw [eT]; exact hk) (v := some (.int (nar t z))) (fun hn => by rw [hret] at hn; cases hn) hlk
  exact ⟨_, _, retN X hx hret ht hd hr, hrun, hended, _, _, rfl, ⟨N, by show Q (some (.int (nar t z))) T.heap; rw [hz, eT]; exact q⟩, hE.1, hE.2.1, hE.2.2.1, hE.2.2.2.mono hc hs⟩
theorem own_ldcS (X : Stand p l e R (Z.setVm vm0) m args below meth c T locs cells slots) (hx : p.tables.exec = Jvm.exec) (hZ : Z.Warmed39 (Z.setVm vm0).vm) (hown : (Z.setVm vm0).vm.findClass own = some m.cls) (w : (Cond.stringLink own index text).before a0 Z = true) (wS : ∀ a ∈ Bundle.stringAtoms, a.before a0 Z = true)
    (eT : T.heap = h) {k0 : Nat} (hS : Z.Since vm0 k0) (hk : k0 ≤ h.size) (N : Fr n0 locs) (hn0 : n0 = Z.heap.size) (I : IB Z vm0 Ts) (hnot : text ∉ Ts) (hh : Jvm.Lit.constHeld Z own index) (hcw : Jvm.Lit.compactW.before a0 Z = true)
    {vs : List Value} {z : Int32} (ht : (∀ c ∈ text.toList, c.toNat < 256) ∧ text.toList.map (fun c => Value.int (Jvm.Lit.byteI c.toNat.toUInt16)) = vs) (hz : ¬ z < 0) (hl : z.toNatClampNeg = vs.length)
    (hg : g.method = m) (hd : decode c.code g.pc = .ok (.ldc index, 2)) {n : Nat} (hn : 4 * text.toList.length ≤ n) (hbig : n ≤ 536870912) (hc : cells + 2 ≤ R.cells) (hl' : slots + (n + 4) ≤ R.slots)
    (kk : ∀ (a : Addr) (T' : State) (h' : Heap) (k1 : Nat) (b : Addr) (k : ClassId), Stand p l e R (Z.setVm T'.vm) m args below meth c T' locs (cells + 2) (slots + (n + 4)) → T'.heap = h' → Ext h h' → Z.Since T'.vm k1 → k1 ≤ h'.size → Z.Warmed39 (Z.setVm T'.vm).vm → (Z.setVm T'.vm).vm.findClass own = some m.cls →
      Exa Z h' a "java/lang/String" → Fld Z h' a "java/lang/String" "coder" "B" (.int 0) → Fld Z h' a "java/lang/String" "value" "[B" (.ref b) → Arv Z h' b k .byte z vs (.int 0) → IB Z T'.vm (text :: Ts) → OEnds p e below F n0 Q T' { g with pc := g.pc + 2, stack := .ref a :: g.stack }) : OEnds p e below F n0 Q T g := by
  subst hn0
  obtain ⟨a, T', h', k1, b, k, X', e', E', hS', hk', hZ', hown', f1, f2, f3, f4, -, -, I', st⟩ := ldcSV X hx hZ hown w wS eT hS hk N (fun _ _ q => q) I hnot hh hcw ht hz hl hg hd hn hbig hc hl'
  exact own_go st (kk a T' h' k1 b k X' e' E' hS' hk' hZ' hown' f1 f2 f3 f4 I')
end OwnW
def own_txt (w : Option Jvm.Cond) : String := match w with | some (.stringLink _ _ t) => t | _ => ""
def own_tA : String := own_txt tables_1[0]?
def own_tB : String := own_txt tables_1[8]?
def own_vA : List Value := own_tA.toList.map (fun c => Value.int (Jvm.Lit.byteI c.toNat.toUInt16))
def own_vB : List Value := own_tB.toList.map (fun c => Value.int (Jvm.Lit.byteI c.toNat.toUInt16))
def own_at1 (vs : List Value) (k : Int32) : Int32 := match vs.getD k.toNatClampNeg (.int 0) with | .int y => y | _ => 0
def own_ch (y : Int32) : Int32 := nar .char ((y &&& (255 : Int32)).toUInt32.toUInt16.toUInt32.toInt32)
def own_chr (y : Int32) : Int32 := nar .char (own_ch y)
def own_v3 (c : Int32) : Int32 := if c < 65 then -1 else if 70 < c then -1 else c - 65 + 10
def own_v2 (c : Int32) : Int32 := if c < 97 then own_v3 c else if 102 < c then own_v3 c else c - 97 + 10
def own_value (c : Int32) : Int32 := if c < 48 then own_v2 c else if 57 < c then own_v2 c else c - 48
theorem own_latA : (∀ c ∈ own_tA.toList, c.toNat < 256) := by decide +kernel
theorem own_latB : (∀ c ∈ own_tB.toList, c.toNat < 256) := by decide +kernel
theorem own_diff : own_tB ∉ [own_tA] := by decide +kernel
theorem own_lenA : (16 : Int32).toNatClampNeg = own_vA.length := by decide +kernel
theorem own_lenB : (16 : Int32).toNatClampNeg = own_vB.length := by decide +kernel
theorem own_l4A : 4 * own_tA.toList.length ≤ 64 := by decide +kernel
theorem own_l4B : 4 * own_tB.toList.length ≤ 64 := by decide +kernel
theorem own_getA : ∀ k : Fin 16, own_vA.getD (Int32.ofNat k.1).toNatClampNeg (.int 0) = .int (own_at1 own_vA (Int32.ofNat k.1)) := by decide +kernel
theorem own_getB : ∀ k : Fin 16, own_vB.getD (Int32.ofNat k.1).toNatClampNeg (.int 0) = .int (own_at1 own_vB (Int32.ofNat k.1)) := by decide +kernel
theorem own_valA : ∀ k : Fin 16, own_value (own_chr (own_at1 own_vA (Int32.ofNat k.1))) = Int32.ofNat k.1 := by decide +kernel
theorem own_valB : ∀ k : Fin 16, own_value (own_chr (own_at1 own_vB (Int32.ofNat k.1))) = Int32.ofNat k.1 := by decide +kernel
theorem own_rngk : ∀ k : Fin 16, ¬ (Int32.ofNat k.1) < 0 ∧ (Int32.ofNat k.1) < 16 ∧ ¬ (15 < (Int32.ofNat k.1)) := by decide +kernel
theorem own_tab : ∀ k : Fin 128, own_value (Int32.ofNat k.1) = -1 ∨ ∃ j : Fin 16, own_value (Int32.ofNat k.1) = Int32.ofNat j.1 ∧ (Int32.ofNat k.1 = own_chr (own_at1 own_vA (Int32.ofNat j.1)) ∨ Int32.ofNat k.1 = own_chr (own_at1 own_vB (Int32.ofNat j.1))) := by decide +kernel
theorem own_ofk {b : Int32} {n : Nat} (h1 : 0 ≤ b.toInt) (h2 : b.toInt ≤ n) : ∃ k : Fin (n + 1), b = Int32.ofNat k.1 := by
  refine ⟨⟨b.toInt.toNat, by omega⟩, ?_⟩
  have := Int32.ofInt_toInt b
  conv => lhs; rw [← this]
  show Int32.ofInt b.toInt = Int32.ofNat b.toInt.toNat
  have e2 : b.toInt = ((b.toInt.toNat : Nat) : Int) := by omega
  conv => lhs; rw [e2]
  rfl
theorem own_m15 (d : Int32) : ∃ k : Fin 16, d &&& 15 = Int32.ofNat k.1 := by
  have h := c_and d 15 (by decide)
  have e : (15 : Int32).toInt = 15 := rfl
  exact own_ofk (n := 15) h.1 (by omega)
theorem own_out (c : Int32) (h : c < 0 ∨ 127 < c) : own_value c = -1 := by
  have e : ∀ n : Int32, True := fun _ => trivial
  simp only [Int32.lt_iff_toInt_lt] at h
  have e0 : (0 : Int32).toInt = 0 := rfl
  have e1 : (127 : Int32).toInt = 127 := rfl
  have a1 : (48 : Int32).toInt = 48 := rfl
  have a2 : (57 : Int32).toInt = 57 := rfl
  have a3 : (97 : Int32).toInt = 97 := rfl
  have a4 : (102 : Int32).toInt = 102 := rfl
  have a5 : (65 : Int32).toInt = 65 := rfl
  have a6 : (70 : Int32).toInt = 70 := rfl
  unfold own_value own_v2 own_v3
  simp only [Int32.lt_iff_toInt_lt, a1, a2, a3, a4, a5, a6]
  rcases h with h | h
  · rw [if_pos (by omega), if_pos (by omega), if_pos (by omega)]
  · rw [if_neg (by omega), if_pos (by omega), if_neg (by omega), if_pos (by omega), if_neg (by omega), if_pos (by omega)]
theorem own_hit (c : Int32) (h : ¬ own_value c = -1) : ∃ j : Fin 16, own_value c = Int32.ofNat j.1 ∧ (c = own_chr (own_at1 own_vA (Int32.ofNat j.1)) ∨ c = own_chr (own_at1 own_vB (Int32.ofNat j.1))) := by
  by_cases h1 : c < 0
  · exact absurd (own_out c (Or.inl h1)) h
  · by_cases h2 : 127 < c
    · exact absurd (own_out c (Or.inr h2)) h
    · rw [Int32.lt_iff_toInt_lt] at h1 h2
      have e0 : (0 : Int32).toInt = 0 := rfl
      have e1 : (127 : Int32).toInt = 127 := rfl
      obtain ⟨k, rfl⟩ := own_ofk (b := c) (n := 127) (by omega) (by omega)
      exact (own_tab k).resolve_left h
theorem own_d5_0 : decode jdk_41_method_11_code 0 = .ok (.iload_n 0, 1) := by decide +kernel
theorem own_d5_1 : decode jdk_41_method_11_code 1 = .ok (.ifCond .lt 8, 3) := by decide +kernel
theorem own_d5_4 : decode jdk_41_method_11_code 4 = .ok (.iload_n 0, 1) := by decide +kernel
theorem own_d5_5 : decode jdk_41_method_11_code 5 = .ok (.iload_n 1, 1) := by decide +kernel
theorem own_d5_6 : decode jdk_41_method_11_code 6 = .ok (.if_icmp .lt 10, 3) := by decide +kernel
theorem own_d5_16 : decode jdk_41_method_11_code 16 = .ok (.iload_n 0, 1) := by decide +kernel
theorem own_d5_17 : decode jdk_41_method_11_code 17 = .ok (.ireturn, 1) := by decide +kernel
theorem own_pn_5 : plainFor (⟨"jdk/internal/util/Preconditions", "checkIndex", "(IILjava/util/function/BiFunction;)I"⟩ : MethodName) = true := by first | exact plainFor_of_name (by first | (simp [plainName, overriddenIn]; done) | decide +kernel) | decide +kernel
theorem own_ef_own_preR (m : MethodId) (x0 : Int32) (x1 : Int32) (x2 : Addr) : entryFrame m #[(.int x0), (.int x1), (.ref x2)] 3 = mkF m 0 #[.val (.int x0), .val (.int x1), .val (.ref x2)] [] := by first | (simp [entryFrame, mkF, argsToLocals, Value.category]; done) | rfl
set_option maxRecDepth 65536 in
set_option maxHeartbeats 40000000 in
theorem own_preR (l : Launch) (Z : State) (a0 : Array Value) (hw : ∀ d ∈ tables_1, d.before a0 Z = true) (p1 p2 : Int32) (sf : Addr) (h0 : Heap) (n0 : Nat) (Z0 : n0 ≤ h0.size) (hin : ¬ p1 < 0 ∧ p1 < p2) :
    OCon l (⟨"jdk/internal/util/Preconditions", "checkIndex", "(IILjava/util/function/BiFunction;)I"⟩ : MethodName) jdk_41_method_11_code 3 (some .int) ({ frames := 0, cells := 0, slots := 0, locals := 0 } : Room) Z #[(.int p1), (.int p2), (.ref sf)] h0 n0 (fun v h => v = some (.int p1) ∧ h = h0) := by
  refine own_body own_pn_5 ?_
  intro p e s m below meth c T0 hx hZ hby hml hown hnm hret hlk e0 X0
  replace hown : s.vm.findClass "jdk/internal/util/Preconditions" = some m.cls := hown
  replace hnm : meth.name = "checkIndex" := hnm
  have N0 := Fr.nil n0
  have K0 : Keep h0 h0 [] := Keep.refl _ _
  refine own_at (own_ef_own_preR m p1 p2 sf) ?_
  refine own_go (g' := (mkF m 1 #[.val (.int p1), .val (.int p2), .val (.ref sf)] [(.int p1)])) (fun t kt => XS.iloadN X0.here hx rfl (hb hby own_d5_0) rfl kt) ?_
  refine own_go (g' := (mkF m 4 #[.val (.int p1), .val (.int p2), .val (.ref sf)] [])) (fun t kt => XS.ifNo X0.here hx rfl (hb hby own_d5_1) rfl ((if0 _ _).trans (flt (hin.1 : ¬ (p1 < (0 : Int32)))).1) kt) ?_
  refine own_go (g' := (mkF m 5 #[.val (.int p1), .val (.int p2), .val (.ref sf)] [(.int p1)])) (fun t kt => XS.iloadN X0.here hx rfl (hb hby own_d5_4) rfl kt) ?_
  refine own_go (g' := (mkF m 6 #[.val (.int p1), .val (.int p2), .val (.ref sf)] [(.int p2), (.int p1)])) (fun t kt => XS.iloadN X0.here hx rfl (hb hby own_d5_5) rfl kt) ?_
  refine own_go (g' := (mkF m 16 #[.val (.int p1), .val (.int p2), .val (.ref sf)] [])) (fun t kt => XS.icmpYes X0.here hx rfl (pc0 := 6) (pc' := 16) rfl (hb hby own_d5_6) rfl (tlt (hin.2 : p1 < p2)).1 (by decide) (by decide) kt) ?_
  refine own_go (g' := (mkF m 17 #[.val (.int p1), .val (.int p2), .val (.ref sf)] [(.int p1)])) (fun t kt => XS.iloadN X0.here hx rfl (hb hby own_d5_16) rfl kt) ?_
  exact own_retI X0 hx hlk hret (hb hby own_d5_17) e0 N0 (by decide) (by decide) (⟨rfl, rfl⟩)
theorem own_d4_0 : decode jdk_42_method_155_code 0 = .ok (.iload_n 0, 1) := by decide +kernel
theorem own_d4_1 : decode jdk_42_method_155_code 1 = .ok (.iload_n 1, 1) := by decide +kernel
theorem own_d4_2 : decode jdk_42_method_155_code 2 = .ok (.getstatic 1053, 3) := by decide +kernel
theorem own_d4_5 : decode jdk_42_method_155_code 5 = .ok (.invokestatic 1059, 3) := by decide +kernel
theorem own_d4_8 : decode jdk_42_method_155_code 8 = .ok (.pop, 1) := by decide +kernel
theorem own_d4_9 : decode jdk_42_method_155_code 9 = .ok (.return_, 1) := by decide +kernel
theorem own_pd0 : parseMethodDescriptor "(IILjava/util/function/BiFunction;)I" = some ⟨[.int, .int, (.object "java/util/function/BiFunction")], some .int⟩ := by decide +kernel
theorem own_pn_4 : plainFor (⟨"java/lang/String", "checkIndex", "(II)V"⟩ : MethodName) = true := by first | exact plainFor_of_name (by first | (simp [plainName, overriddenIn]; done) | decide +kernel) | decide +kernel
theorem own_ef_own_chkR (m : MethodId) (x0 : Int32) (x1 : Int32) : entryFrame m #[(.int x0), (.int x1)] 2 = mkF m 0 #[.val (.int x0), .val (.int x1)] [] := by first | (simp [entryFrame, mkF, argsToLocals, Value.category]; done) | rfl
set_option maxRecDepth 65536 in
set_option maxHeartbeats 40000000 in
theorem own_chkR (l : Launch) (Z : State) (a0 : Array Value) (hw : ∀ d ∈ tables_1, d.before a0 Z = true) (p1 p2 : Int32) (sf : Addr) (h0 : Heap) (n0 : Nat) (Z0 : n0 ≤ h0.size) (S_f : Sta Z h0 "jdk/internal/util/Preconditions" "SIOOBE_FORMATTER" "Ljava/util/function/BiFunction;" (.ref sf)) (hin : ¬ p1 < 0 ∧ p1 < p2) :
    OCon l (⟨"java/lang/String", "checkIndex", "(II)V"⟩ : MethodName) jdk_42_method_155_code 2 none ({ frames := 1, cells := 0, slots := 0, locals := 14 } : Room) Z #[(.int p1), (.int p2)] h0 n0 (fun v h => v = none ∧ h = h0) := by
  refine own_body own_pn_4 ?_
  intro p e s m below meth c T0 hx hZ hby hml hown hnm hret hlk e0 X0
  replace hown : s.vm.findClass "java/lang/String" = some m.cls := hown
  replace hnm : meth.name = "checkIndex" := hnm
  have N0 := Fr.nil n0
  have K0 : Keep h0 h0 [] := Keep.refl _ _
  refine own_at (own_ef_own_chkR m p1 p2) ?_
  refine own_go (g' := (mkF m 1 #[.val (.int p1), .val (.int p2)] [(.int p1)])) (fun t kt => XS.iloadN X0.here hx rfl (hb hby own_d4_0) rfl kt) ?_
  refine own_go (g' := (mkF m 2 #[.val (.int p1), .val (.int p2)] [(.int p2), (.int p1)])) (fun t kt => XS.iloadN X0.here hx rfl (hb hby own_d4_1) rfl kt) ?_
  obtain ⟨T1, X1, e1, st1⟩ := getS2 X0 hx hZ hown (host := "") (Or.inl (hw _ (List.mem_of_getElem? (i := 29) rfl))) Via.refl e0 S_f (g := (mkF m 2 #[.val (.int p1), .val (.int p2)] [(.int p2), (.int p1)])) rfl (hb hby own_d4_2)
  refine own_go (T' := T1) (g' := (mkF m 5 #[.val (.int p1), .val (.int p2)] [(.ref sf), (.int p2), (.int p1)])) st1 ?_
  refine own_callS X1 hx hZ (W := 0) (argsL := [(.int p1), (.int p2), (.ref sf)]) (rest := []) hown (hw _ (List.mem_of_getElem? (i := 31) rfl)) (hw _ (List.mem_of_getElem? (i := 32) rfl)) (hw _ (List.mem_of_getElem? (i := 30) rfl)) (hw _ (List.mem_of_getElem? (i := 33) rfl)) (by decide) (own_preR l Z a0 hw p1 p2 sf h0 n0 Z0 hin) (by decide) (by decide) (g := (mkF m 5 #[.val (.int p1), .val (.int p2)] [(.ref sf), (.int p2), (.int p1)])) rfl (by rw [hml]; rfl) (lenOf own_pd0 rfl) rfl (by show 2 * 0 + _ ≤ _; exact Nat.le_of_eq rfl) (hb hby own_d4_5) e1 N0 (by decide) (by decide) (fun v2 T2 L2 X2 N2 hq2 => ?_)
  obtain ⟨rfl, e2⟩ := hq2
  show OEnds _ _ _ _ _ _ T2 (mkF m 8 #[.val (.int p1), .val (.int p2)] [(.int p1)])
  refine own_go (g' := (mkF m 9 #[.val (.int p1), .val (.int p2)] [])) (fun t kt => XS.pop X2.here hx rfl (hb hby own_d4_8) rfl rfl kt) ?_
  exact own_retV X2 hx hlk hret (hb hby own_d4_9) e2 N2 (by decide) (by decide) (⟨rfl, rfl⟩)
theorem own_d3_0 : decode jdk_43_method_2_code 0 = .ok (.iload_n 1, 1) := by decide +kernel
theorem own_d3_1 : decode jdk_43_method_2_code 1 = .ok (.aload_n 0, 1) := by decide +kernel
theorem own_d3_2 : decode jdk_43_method_2_code 2 = .ok (.arraylength, 1) := by decide +kernel
theorem own_d3_3 : decode jdk_43_method_2_code 3 = .ok (.invokestatic 9, 3) := by decide +kernel
theorem own_d3_6 : decode jdk_43_method_2_code 6 = .ok (.aload_n 0, 1) := by decide +kernel
theorem own_d3_7 : decode jdk_43_method_2_code 7 = .ok (.iload_n 1, 1) := by decide +kernel
theorem own_d3_8 : decode jdk_43_method_2_code 8 = .ok (.baload, 1) := by decide +kernel
theorem own_d3_9 : decode jdk_43_method_2_code 9 = .ok (.sipush 255, 3) := by decide +kernel
theorem own_d3_12 : decode jdk_43_method_2_code 12 = .ok (.iand, 1) := by decide +kernel
theorem own_d3_13 : decode jdk_43_method_2_code 13 = .ok (.i2c, 1) := by decide +kernel
theorem own_d3_14 : decode jdk_43_method_2_code 14 = .ok (.ireturn, 1) := by decide +kernel
theorem own_pd1 : parseMethodDescriptor "(II)V" = some ⟨[.int, .int], none⟩ := by decide +kernel
theorem own_pn_3 : plainFor (⟨"java/lang/StringLatin1", "charAt", "([BI)C"⟩ : MethodName) = true := by first | exact plainFor_of_name (by first | (simp [plainName, overriddenIn]; done) | decide +kernel) | decide +kernel
theorem own_ef_own_lchR (m : MethodId) (x0 : Addr) (x1 : Int32) : entryFrame m #[(.ref x0), (.int x1)] 2 = mkF m 0 #[.val (.ref x0), .val (.int x1)] [] := by first | (simp [entryFrame, mkF, argsToLocals, Value.category]; done) | rfl
set_option maxRecDepth 65536 in
set_option maxHeartbeats 40000000 in
theorem own_lchR (l : Launch) (Z : State) (a0 : Array Value) (hw : ∀ d ∈ tables_1, d.before a0 Z = true) (a1 : Addr) (kb : ClassId) (vs : List Value) (p1 y0 : Int32) (sf : Addr) (h0 : Heap) (n0 : Nat) (Z0 : n0 ≤ h0.size) (Vb : Arv Z h0 a1 kb .byte (16 : Int32) vs (.int (0 : Int32))) (S_f : Sta Z h0 "jdk/internal/util/Preconditions" "SIOOBE_FORMATTER" "Ljava/util/function/BiFunction;" (.ref sf)) (hin : ¬ p1 < 0 ∧ p1 < 16) (hat : vs.getD p1.toNatClampNeg (.int (0 : Int32)) = .int y0) :
    OCon l (⟨"java/lang/StringLatin1", "charAt", "([BI)C"⟩ : MethodName) jdk_43_method_2_code 2 (some .char) ({ frames := 2, cells := 0, slots := 0, locals := 27 } : Room) Z #[(.ref a1), (.int p1)] h0 n0 (fun v h => v = some (.int (own_ch y0)) ∧ h = h0) := by
  refine own_body own_pn_3 ?_
  intro p e s m below meth c T0 hx hZ hby hml hown hnm hret hlk e0 X0
  replace hown : s.vm.findClass "java/lang/StringLatin1" = some m.cls := hown
  replace hnm : meth.name = "charAt" := hnm
  have N0 := Fr.nil n0
  have K0 : Keep h0 h0 [] := Keep.refl _ _
  refine own_at (own_ef_own_lchR m a1 p1) ?_
  refine own_go (g' := (mkF m 1 #[.val (.ref a1), .val (.int p1)] [(.int p1)])) (fun t kt => XS.iloadN X0.here hx rfl (hb hby own_d3_0) rfl kt) ?_
  refine own_go (g' := (mkF m 2 #[.val (.ref a1), .val (.int p1)] [(.ref a1), (.int p1)])) (fun t kt => XS.aloadN X0.here hx rfl (hb hby own_d3_1) rfl rfl kt) ?_
  refine own_alen X0 hx hZ e0 Vb (g := (mkF m 2 #[.val (.ref a1), .val (.int p1)] [(.ref a1), (.int p1)])) rfl rfl (hb hby own_d3_2) ?_
  show OEnds _ _ _ _ _ _ T0 (mkF m 3 #[.val (.ref a1), .val (.int p1)] [(.int (16 : Int32)), (.int p1)])
  refine own_callS X0 hx hZ (W := 0) (argsL := [(.int p1), (.int (16 : Int32))]) (rest := []) hown (hw _ (List.mem_of_getElem? (i := 26) rfl)) (hw _ (List.mem_of_getElem? (i := 27) rfl)) (hw _ (List.mem_of_getElem? (i := 1) rfl)) (hw _ (List.mem_of_getElem? (i := 28) rfl)) (by decide) (own_chkR l Z a0 hw p1 (16 : Int32) sf h0 n0 Z0 S_f hin) (by decide) (by decide) (g := (mkF m 3 #[.val (.ref a1), .val (.int p1)] [(.int (16 : Int32)), (.int p1)])) rfl (by rw [hml]; rfl) (lenOf own_pd1 rfl) rfl (by show 2 * 0 + _ ≤ _; exact Nat.le_of_eq rfl) (hb hby own_d3_3) e0 N0 (by decide) (by decide) (fun v1 T1 L1 X1 N1 hq1 => ?_)
  obtain ⟨rfl, e1⟩ := hq1
  show OEnds _ _ _ _ _ _ T1 (mkF m 6 #[.val (.ref a1), .val (.int p1)] [])
  refine own_go (g' := (mkF m 7 #[.val (.ref a1), .val (.int p1)] [(.ref a1)])) (fun t kt => XS.aloadN X1.here hx rfl (hb hby own_d3_6) rfl rfl kt) ?_
  refine own_go (g' := (mkF m 8 #[.val (.ref a1), .val (.int p1)] [(.int p1), (.ref a1)])) (fun t kt => XS.iloadN X1.here hx rfl (hb hby own_d3_7) rfl kt) ?_
  refine own_baload X1 hx hZ e1 Vb hin (v := (.int y0)) hat (g := (mkF m 8 #[.val (.ref a1), .val (.int p1)] [(.int p1), (.ref a1)])) rfl rfl (hb hby own_d3_8) ?_
  show OEnds _ _ _ _ _ _ T1 (mkF m 9 #[.val (.ref a1), .val (.int p1)] [(.int y0)])
  refine own_go (g' := (mkF m 12 #[.val (.ref a1), .val (.int p1)] [(.int (255 : Int32)), (.int y0)])) (fun t kt => XS.sipush X1.here hx rfl (hb hby own_d3_9) kt) ?_
  refine own_go (g' := (mkF m 13 #[.val (.ref a1), .val (.int p1)] [(.int (y0 &&& (255 : Int32)))])) (fun t kt => XS.iand X1.here hx rfl (hb hby own_d3_12) rfl kt) ?_
  refine own_go (g' := (mkF m 14 #[.val (.ref a1), .val (.int p1)] [(.int ((y0 &&& (255 : Int32)).toUInt32.toUInt16.toUInt32.toInt32))])) (fun t kt => XS.i2c X1.here hx rfl (hb hby own_d3_13) rfl kt) ?_
  exact own_retN X1 hx hlk (t := .char) (z' := (nar .char ((y0 &&& (255 : Int32)).toUInt32.toUInt16.toUInt32.toInt32))) hret (by simp) (hb hby own_d3_14) rfl e1 N1 (by decide) (by decide) (⟨rfl, rfl⟩)
theorem own_d2_0 : decode jdk_42_method_154_code 0 = .ok (.getstatic 38, 3) := by decide +kernel
theorem own_d2_3 : decode jdk_42_method_154_code 3 = .ok (.ifCond .eq 14, 3) := by decide +kernel
theorem own_d2_6 : decode jdk_42_method_154_code 6 = .ok (.aload_n 0, 1) := by decide +kernel
theorem own_d2_7 : decode jdk_42_method_154_code 7 = .ok (.getfield 15, 3) := by decide +kernel
theorem own_d2_10 : decode jdk_42_method_154_code 10 = .ok (.ifCond .ne 7, 3) := by decide +kernel
theorem own_d2_13 : decode jdk_42_method_154_code 13 = .ok (.iconst 1, 1) := by decide +kernel
theorem own_d2_14 : decode jdk_42_method_154_code 14 = .ok (.goto 4, 3) := by decide +kernel
theorem own_d2_18 : decode jdk_42_method_154_code 18 = .ok (.ireturn, 1) := by decide +kernel
theorem own_pn_2 : plainFor (⟨"java/lang/String", "isLatin1", "()Z"⟩ : MethodName) = true := by first | exact plainFor_of_name (by first | (simp [plainName, overriddenIn]; done) | decide +kernel) | decide +kernel
theorem own_ef_own_isl (m : MethodId) (x0 : Addr) : entryFrame m #[(.ref x0)] 1 = mkF m 0 #[.val (.ref x0)] [] := by first | (simp [entryFrame, mkF, argsToLocals, Value.category]; done) | rfl
set_option maxRecDepth 65536 in
set_option maxHeartbeats 40000000 in
theorem own_isl (l : Launch) (Z : State) (a0 : Array Value) (hw : ∀ d ∈ tables_1, d.before a0 Z = true) (a1 : Addr) (cs : Int32) (h0 : Heap) (n0 : Nat) (Z0 : n0 ≤ h0.size) (S_c : Sta Z h0 "java/lang/String" "COMPACT_STRINGS" "Z" (.int cs)) (Fc : Fld Z h0 a1 "java/lang/String" "coder" "B" (.int (0 : Int32))) (hcs : ¬ cs = 0) :
    OCon l (⟨"java/lang/String", "isLatin1", "()Z"⟩ : MethodName) jdk_42_method_154_code 1 (some .boolean) ({ frames := 0, cells := 0, slots := 0, locals := 0 } : Room) Z #[(.ref a1)] h0 n0 (fun v h => v = some (.int (1 : Int32)) ∧ h = h0) := by
  refine own_body own_pn_2 ?_
  intro p e s m below meth c T0 hx hZ hby hml hown hnm hret hlk e0 X0
  replace hown : s.vm.findClass "java/lang/String" = some m.cls := hown
  replace hnm : meth.name = "isLatin1" := hnm
  have N0 := Fr.nil n0
  have K0 : Keep h0 h0 [] := Keep.refl _ _
  refine own_at (own_ef_own_isl m a1) ?_
  obtain ⟨T1, X1, e1, st1⟩ := getS2 X0 hx hZ hown (host := "") (Or.inl (hw _ (List.mem_of_getElem? (i := 19) rfl))) Via.refl e0 S_c (g := (mkF m 0 #[.val (.ref a1)] [])) rfl (hb hby own_d2_0)
  refine own_go (T' := T1) (g' := (mkF m 3 #[.val (.ref a1)] [(.int cs)])) st1 ?_
  refine own_go (g' := (mkF m 6 #[.val (.ref a1)] [])) (fun t kt => XS.ifNo X1.here hx rfl (hb hby own_d2_3) rfl ((if0 _ _).trans (feq (hcs : ¬ (cs = (0 : Int32)))).1) kt) ?_
  refine own_go (g' := (mkF m 7 #[.val (.ref a1)] [(.ref a1)])) (fun t kt => XS.aloadN X1.here hx rfl (hb hby own_d2_6) rfl rfl kt) ?_
  refine own_getF X1 hx hZ hown (hw _ (List.mem_of_getElem? (i := 20) rfl)) e1 Fc (g := (mkF m 7 #[.val (.ref a1)] [(.ref a1)])) rfl rfl (hb hby own_d2_7) (fun T2 X2 e2 => ?_)
  show OEnds _ _ _ _ _ _ T2 (mkF m 10 #[.val (.ref a1)] [(.int (0 : Int32))])
  refine own_go (g' := (mkF m 13 #[.val (.ref a1)] [])) (fun t kt => XS.ifNo X2.here hx rfl (hb hby own_d2_10) rfl ((if0 _ _).trans (teq ((by decide) : (0 : Int32) = (0 : Int32))).2) kt) ?_
  refine own_go (g' := (mkF m 14 #[.val (.ref a1)] [(.int (1 : Int32))])) (fun t kt => XS.iconst X2.here hx rfl (hb hby own_d2_13) kt) ?_
  refine own_go (g' := (mkF m 18 #[.val (.ref a1)] [(.int (1 : Int32))])) (fun t kt => XS.goto X2.here hx rfl (pc0 := 14) (pc' := 18) rfl (hb hby own_d2_14) (by decide) (by decide) kt) ?_
  exact own_retN X2 hx hlk (t := .boolean) (z' := (1 : Int32)) hret (by simp) (hb hby own_d2_18) rfl e2 N0 (by decide) (by decide) (⟨rfl, rfl⟩)
theorem own_d1_0 : decode jdk_42_method_56_code 0 = .ok (.aload_n 0, 1) := by decide +kernel
theorem own_d1_1 : decode jdk_42_method_56_code 1 = .ok (.invokevirtual 492, 3) := by decide +kernel
theorem own_d1_4 : decode jdk_42_method_56_code 4 = .ok (.ifCond .eq 12, 3) := by decide +kernel
theorem own_d1_7 : decode jdk_42_method_56_code 7 = .ok (.aload_n 0, 1) := by decide +kernel
theorem own_d1_8 : decode jdk_42_method_56_code 8 = .ok (.getfield 9, 3) := by decide +kernel
theorem own_d1_11 : decode jdk_42_method_56_code 11 = .ok (.iload_n 1, 1) := by decide +kernel
theorem own_d1_12 : decode jdk_42_method_56_code 12 = .ok (.invokestatic 495, 3) := by decide +kernel
theorem own_d1_15 : decode jdk_42_method_56_code 15 = .ok (.ireturn, 1) := by decide +kernel
theorem own_pd2 : parseMethodDescriptor "()Z" = some ⟨[], some .boolean⟩ := by decide +kernel
theorem own_pd3 : parseMethodDescriptor "([BI)C" = some ⟨[(.array .byte), .int], some .char⟩ := by decide +kernel
theorem own_pn_1 : plainFor (⟨"java/lang/String", "charAt", "(I)C"⟩ : MethodName) = true := by first | exact plainFor_of_name (by first | (simp [plainName, overriddenIn]; done) | decide +kernel) | decide +kernel
theorem own_ef_own_chaR (m : MethodId) (x0 : Addr) (x1 : Int32) : entryFrame m #[(.ref x0), (.int x1)] 2 = mkF m 0 #[.val (.ref x0), .val (.int x1)] [] := by first | (simp [entryFrame, mkF, argsToLocals, Value.category]; done) | rfl
set_option maxRecDepth 65536 in
set_option maxHeartbeats 40000000 in
theorem own_chaR (l : Launch) (Z : State) (a0 : Array Value) (hw : ∀ d ∈ tables_1, d.before a0 Z = true) (a1 ab : Addr) (kb : ClassId) (vs : List Value) (p1 y0 cs : Int32) (sf : Addr) (h0 : Heap) (n0 : Nat) (Z0 : n0 ≤ h0.size) (E1 : Exa Z h0 a1 "java/lang/String") (Fc : Fld Z h0 a1 "java/lang/String" "coder" "B" (.int (0 : Int32))) (Fv : Fld Z h0 a1 "java/lang/String" "value" "[B" (.ref ab)) (Vb : Arv Z h0 ab kb .byte (16 : Int32) vs (.int (0 : Int32))) (S_c : Sta Z h0 "java/lang/String" "COMPACT_STRINGS" "Z" (.int cs)) (S_f : Sta Z h0 "jdk/internal/util/Preconditions" "SIOOBE_FORMATTER" "Ljava/util/function/BiFunction;" (.ref sf)) (hcs : ¬ cs = 0) (hin : ¬ p1 < 0 ∧ p1 < 16) (hat : vs.getD p1.toNatClampNeg (.int (0 : Int32)) = .int y0) :
    OCon l (⟨"java/lang/String", "charAt", "(I)C"⟩ : MethodName) jdk_42_method_56_code 2 (some .char) ({ frames := 3, cells := 0, slots := 0, locals := 40 } : Room) Z #[(.ref a1), (.int p1)] h0 n0 (fun v h => v = some (.int (own_chr y0)) ∧ h = h0) := by
  refine own_body own_pn_1 ?_
  intro p e s m below meth c T0 hx hZ hby hml hown hnm hret hlk e0 X0
  replace hown : s.vm.findClass "java/lang/String" = some m.cls := hown
  replace hnm : meth.name = "charAt" := hnm
  have N0 := Fr.nil n0
  have K0 : Keep h0 h0 [] := Keep.refl _ _
  refine own_at (own_ef_own_chaR m a1 p1) ?_
  refine own_go (g' := (mkF m 1 #[.val (.ref a1), .val (.int p1)] [(.ref a1)])) (fun t kt => XS.aloadN X0.here hx rfl (hb hby own_d1_0) rfl rfl kt) ?_
  refine own_callV X0 hx hZ (W := 0) (argsL := []) (rest := []) hown (hw _ (List.mem_of_getElem? (i := 14) rfl)) (hw _ (List.mem_of_getElem? (i := 15) rfl)) (hw _ (List.mem_of_getElem? (i := 17) rfl)) (hw _ (List.mem_of_getElem? (i := 16) rfl)) (hw _ (List.mem_of_getElem? (i := 1) rfl)) (hw _ (List.mem_of_getElem? (i := 18) rfl)) (by decide) (own_isl l Z a0 hw a1 cs h0 n0 Z0 S_c Fc hcs) E1 (by decide) (by decide) (g := (mkF m 1 #[.val (.ref a1), .val (.int p1)] [(.ref a1)])) rfl (by rw [hml]; rfl) (lenOf own_pd2 rfl) rfl (by show 2 * 0 + _ ≤ _; exact Nat.le_of_eq rfl) (hb hby own_d1_1) e0 N0 (by decide) (by decide) (fun v1 T1 L1 X1 N1 hq1 => ?_)
  obtain ⟨rfl, e1⟩ := hq1
  show OEnds _ _ _ _ _ _ T1 (mkF m 4 #[.val (.ref a1), .val (.int p1)] [(.int (1 : Int32))])
  refine own_go (g' := (mkF m 7 #[.val (.ref a1), .val (.int p1)] [])) (fun t kt => XS.ifNo X1.here hx rfl (hb hby own_d1_4) rfl ((if0 _ _).trans (feq ((by decide) : ¬ ((1 : Int32) = (0 : Int32)))).1) kt) ?_
  refine own_go (g' := (mkF m 8 #[.val (.ref a1), .val (.int p1)] [(.ref a1)])) (fun t kt => XS.aloadN X1.here hx rfl (hb hby own_d1_7) rfl rfl kt) ?_
  refine own_getF X1 hx hZ hown (hw _ (List.mem_of_getElem? (i := 21) rfl)) e1 Fv (g := (mkF m 8 #[.val (.ref a1), .val (.int p1)] [(.ref a1)])) rfl rfl (hb hby own_d1_8) (fun T2 X2 e2 => ?_)
  show OEnds _ _ _ _ _ _ T2 (mkF m 11 #[.val (.ref a1), .val (.int p1)] [(.ref ab)])
  refine own_go (g' := (mkF m 12 #[.val (.ref a1), .val (.int p1)] [(.int p1), (.ref ab)])) (fun t kt => XS.iloadN X2.here hx rfl (hb hby own_d1_11) rfl kt) ?_
  refine own_callS X2 hx hZ (W := 0) (argsL := [(.ref ab), (.int p1)]) (rest := []) hown (hw _ (List.mem_of_getElem? (i := 22) rfl)) (hw _ (List.mem_of_getElem? (i := 23) rfl)) (hw _ (List.mem_of_getElem? (i := 24) rfl)) (hw _ (List.mem_of_getElem? (i := 25) rfl)) (by decide) (own_lchR l Z a0 hw ab kb vs p1 y0 sf h0 n0 Z0 Vb S_f hin hat) (by decide) (by decide) (g := (mkF m 12 #[.val (.ref a1), .val (.int p1)] [(.int p1), (.ref ab)])) rfl (by rw [hml]; rfl) (lenOf own_pd3 rfl) rfl (by show 2 * 0 + _ ≤ _; exact Nat.le_of_eq rfl) (hb hby own_d1_12) e2 N1 (by decide) (by decide) (fun v3 T3 L3 X3 N3 hq3 => ?_)
  obtain ⟨rfl, e3⟩ := hq3
  show OEnds _ _ _ _ _ _ T3 (mkF m 15 #[.val (.ref a1), .val (.int p1)] [(.int (own_ch y0))])
  exact own_retN X3 hx hlk (t := .char) (z' := (nar .char (own_ch y0))) hret (by simp) (hb hby own_d1_15) rfl e3 N3 (by decide) (by decide) (⟨rfl, rfl⟩)
theorem own_ef_own_preN (m : MethodId) (x0 : Int32) (x1 : Int32) : entryFrame m #[(.int x0), (.int x1), .null] 3 = mkF m 0 #[.val (.int x0), .val (.int x1), .val .null] [] := by first | (simp [entryFrame, mkF, argsToLocals, Value.category]; done) | rfl
set_option maxRecDepth 65536 in
set_option maxHeartbeats 40000000 in
theorem own_preN (l : Launch) (Z : State) (a0 : Array Value) (hw : ∀ d ∈ tables_1, d.before a0 Z = true) (p1 p2 : Int32)  (h0 : Heap) (n0 : Nat) (Z0 : n0 ≤ h0.size) (hin : ¬ p1 < 0 ∧ p1 < p2) :
    OCon l (⟨"jdk/internal/util/Preconditions", "checkIndex", "(IILjava/util/function/BiFunction;)I"⟩ : MethodName) jdk_41_method_11_code 3 (some .int) ({ frames := 0, cells := 0, slots := 0, locals := 0 } : Room) Z #[(.int p1), (.int p2), .null] h0 n0 (fun v h => v = some (.int p1) ∧ h = h0) := by
  refine own_body own_pn_5 ?_
  intro p e s m below meth c T0 hx hZ hby hml hown hnm hret hlk e0 X0
  replace hown : s.vm.findClass "jdk/internal/util/Preconditions" = some m.cls := hown
  replace hnm : meth.name = "checkIndex" := hnm
  have N0 := Fr.nil n0
  have K0 : Keep h0 h0 [] := Keep.refl _ _
  refine own_at (own_ef_own_preN m p1 p2) ?_
  refine own_go (g' := (mkF m 1 #[.val (.int p1), .val (.int p2), .val .null] [(.int p1)])) (fun t kt => XS.iloadN X0.here hx rfl (hb hby own_d5_0) rfl kt) ?_
  refine own_go (g' := (mkF m 4 #[.val (.int p1), .val (.int p2), .val .null] [])) (fun t kt => XS.ifNo X0.here hx rfl (hb hby own_d5_1) rfl ((if0 _ _).trans (flt (hin.1 : ¬ (p1 < (0 : Int32)))).1) kt) ?_
  refine own_go (g' := (mkF m 5 #[.val (.int p1), .val (.int p2), .val .null] [(.int p1)])) (fun t kt => XS.iloadN X0.here hx rfl (hb hby own_d5_4) rfl kt) ?_
  refine own_go (g' := (mkF m 6 #[.val (.int p1), .val (.int p2), .val .null] [(.int p2), (.int p1)])) (fun t kt => XS.iloadN X0.here hx rfl (hb hby own_d5_5) rfl kt) ?_
  refine own_go (g' := (mkF m 16 #[.val (.int p1), .val (.int p2), .val .null] [])) (fun t kt => XS.icmpYes X0.here hx rfl (pc0 := 6) (pc' := 16) rfl (hb hby own_d5_6) rfl (tlt (hin.2 : p1 < p2)).1 (by decide) (by decide) kt) ?_
  refine own_go (g' := (mkF m 17 #[.val (.int p1), .val (.int p2), .val .null] [(.int p1)])) (fun t kt => XS.iloadN X0.here hx rfl (hb hby own_d5_16) rfl kt) ?_
  exact own_retI X0 hx hlk hret (hb hby own_d5_17) e0 N0 (by decide) (by decide) (⟨rfl, rfl⟩)
theorem own_ef_own_chkN (m : MethodId) (x0 : Int32) (x1 : Int32) : entryFrame m #[(.int x0), (.int x1)] 2 = mkF m 0 #[.val (.int x0), .val (.int x1)] [] := by first | (simp [entryFrame, mkF, argsToLocals, Value.category]; done) | rfl
set_option maxRecDepth 65536 in
set_option maxHeartbeats 40000000 in
theorem own_chkN (l : Launch) (Z : State) (a0 : Array Value) (hw : ∀ d ∈ tables_1, d.before a0 Z = true) (p1 p2 : Int32)  (h0 : Heap) (n0 : Nat) (Z0 : n0 ≤ h0.size) (S_f : Sta Z h0 "jdk/internal/util/Preconditions" "SIOOBE_FORMATTER" "Ljava/util/function/BiFunction;" .null) (hin : ¬ p1 < 0 ∧ p1 < p2) :
    OCon l (⟨"java/lang/String", "checkIndex", "(II)V"⟩ : MethodName) jdk_42_method_155_code 2 none ({ frames := 1, cells := 0, slots := 0, locals := 14 } : Room) Z #[(.int p1), (.int p2)] h0 n0 (fun v h => v = none ∧ h = h0) := by
  refine own_body own_pn_4 ?_
  intro p e s m below meth c T0 hx hZ hby hml hown hnm hret hlk e0 X0
  replace hown : s.vm.findClass "java/lang/String" = some m.cls := hown
  replace hnm : meth.name = "checkIndex" := hnm
  have N0 := Fr.nil n0
  have K0 : Keep h0 h0 [] := Keep.refl _ _
  refine own_at (own_ef_own_chkN m p1 p2) ?_
  refine own_go (g' := (mkF m 1 #[.val (.int p1), .val (.int p2)] [(.int p1)])) (fun t kt => XS.iloadN X0.here hx rfl (hb hby own_d4_0) rfl kt) ?_
  refine own_go (g' := (mkF m 2 #[.val (.int p1), .val (.int p2)] [(.int p2), (.int p1)])) (fun t kt => XS.iloadN X0.here hx rfl (hb hby own_d4_1) rfl kt) ?_
  obtain ⟨T1, X1, e1, st1⟩ := getS2 X0 hx hZ hown (host := "") (Or.inl (hw _ (List.mem_of_getElem? (i := 29) rfl))) Via.refl e0 S_f (g := (mkF m 2 #[.val (.int p1), .val (.int p2)] [(.int p2), (.int p1)])) rfl (hb hby own_d4_2)
  refine own_go (T' := T1) (g' := (mkF m 5 #[.val (.int p1), .val (.int p2)] [.null, (.int p2), (.int p1)])) st1 ?_
  refine own_callS X1 hx hZ (W := 0) (argsL := [(.int p1), (.int p2), .null]) (rest := []) hown (hw _ (List.mem_of_getElem? (i := 31) rfl)) (hw _ (List.mem_of_getElem? (i := 32) rfl)) (hw _ (List.mem_of_getElem? (i := 30) rfl)) (hw _ (List.mem_of_getElem? (i := 33) rfl)) (by decide) (own_preN l Z a0 hw p1 p2  h0 n0 Z0 hin) (by decide) (by decide) (g := (mkF m 5 #[.val (.int p1), .val (.int p2)] [.null, (.int p2), (.int p1)])) rfl (by rw [hml]; rfl) (lenOf own_pd0 rfl) rfl (by show 2 * 0 + _ ≤ _; exact Nat.le_of_eq rfl) (hb hby own_d4_5) e1 N0 (by decide) (by decide) (fun v2 T2 L2 X2 N2 hq2 => ?_)
  obtain ⟨rfl, e2⟩ := hq2
  show OEnds _ _ _ _ _ _ T2 (mkF m 8 #[.val (.int p1), .val (.int p2)] [(.int p1)])
  refine own_go (g' := (mkF m 9 #[.val (.int p1), .val (.int p2)] [])) (fun t kt => XS.pop X2.here hx rfl (hb hby own_d4_8) rfl rfl kt) ?_
  exact own_retV X2 hx hlk hret (hb hby own_d4_9) e2 N2 (by decide) (by decide) (⟨rfl, rfl⟩)
theorem own_ef_own_lchN (m : MethodId) (x0 : Addr) (x1 : Int32) : entryFrame m #[(.ref x0), (.int x1)] 2 = mkF m 0 #[.val (.ref x0), .val (.int x1)] [] := by first | (simp [entryFrame, mkF, argsToLocals, Value.category]; done) | rfl
set_option maxRecDepth 65536 in
set_option maxHeartbeats 40000000 in
theorem own_lchN (l : Launch) (Z : State) (a0 : Array Value) (hw : ∀ d ∈ tables_1, d.before a0 Z = true) (a1 : Addr) (kb : ClassId) (vs : List Value) (p1 y0 : Int32)  (h0 : Heap) (n0 : Nat) (Z0 : n0 ≤ h0.size) (Vb : Arv Z h0 a1 kb .byte (16 : Int32) vs (.int (0 : Int32))) (S_f : Sta Z h0 "jdk/internal/util/Preconditions" "SIOOBE_FORMATTER" "Ljava/util/function/BiFunction;" .null) (hin : ¬ p1 < 0 ∧ p1 < 16) (hat : vs.getD p1.toNatClampNeg (.int (0 : Int32)) = .int y0) :
    OCon l (⟨"java/lang/StringLatin1", "charAt", "([BI)C"⟩ : MethodName) jdk_43_method_2_code 2 (some .char) ({ frames := 2, cells := 0, slots := 0, locals := 27 } : Room) Z #[(.ref a1), (.int p1)] h0 n0 (fun v h => v = some (.int (own_ch y0)) ∧ h = h0) := by
  refine own_body own_pn_3 ?_
  intro p e s m below meth c T0 hx hZ hby hml hown hnm hret hlk e0 X0
  replace hown : s.vm.findClass "java/lang/StringLatin1" = some m.cls := hown
  replace hnm : meth.name = "charAt" := hnm
  have N0 := Fr.nil n0
  have K0 : Keep h0 h0 [] := Keep.refl _ _
  refine own_at (own_ef_own_lchN m a1 p1) ?_
  refine own_go (g' := (mkF m 1 #[.val (.ref a1), .val (.int p1)] [(.int p1)])) (fun t kt => XS.iloadN X0.here hx rfl (hb hby own_d3_0) rfl kt) ?_
  refine own_go (g' := (mkF m 2 #[.val (.ref a1), .val (.int p1)] [(.ref a1), (.int p1)])) (fun t kt => XS.aloadN X0.here hx rfl (hb hby own_d3_1) rfl rfl kt) ?_
  refine own_alen X0 hx hZ e0 Vb (g := (mkF m 2 #[.val (.ref a1), .val (.int p1)] [(.ref a1), (.int p1)])) rfl rfl (hb hby own_d3_2) ?_
  show OEnds _ _ _ _ _ _ T0 (mkF m 3 #[.val (.ref a1), .val (.int p1)] [(.int (16 : Int32)), (.int p1)])
  refine own_callS X0 hx hZ (W := 0) (argsL := [(.int p1), (.int (16 : Int32))]) (rest := []) hown (hw _ (List.mem_of_getElem? (i := 26) rfl)) (hw _ (List.mem_of_getElem? (i := 27) rfl)) (hw _ (List.mem_of_getElem? (i := 1) rfl)) (hw _ (List.mem_of_getElem? (i := 28) rfl)) (by decide) (own_chkN l Z a0 hw p1 (16 : Int32)  h0 n0 Z0 S_f hin) (by decide) (by decide) (g := (mkF m 3 #[.val (.ref a1), .val (.int p1)] [(.int (16 : Int32)), (.int p1)])) rfl (by rw [hml]; rfl) (lenOf own_pd1 rfl) rfl (by show 2 * 0 + _ ≤ _; exact Nat.le_of_eq rfl) (hb hby own_d3_3) e0 N0 (by decide) (by decide) (fun v1 T1 L1 X1 N1 hq1 => ?_)
  obtain ⟨rfl, e1⟩ := hq1
  show OEnds _ _ _ _ _ _ T1 (mkF m 6 #[.val (.ref a1), .val (.int p1)] [])
  refine own_go (g' := (mkF m 7 #[.val (.ref a1), .val (.int p1)] [(.ref a1)])) (fun t kt => XS.aloadN X1.here hx rfl (hb hby own_d3_6) rfl rfl kt) ?_
  refine own_go (g' := (mkF m 8 #[.val (.ref a1), .val (.int p1)] [(.int p1), (.ref a1)])) (fun t kt => XS.iloadN X1.here hx rfl (hb hby own_d3_7) rfl kt) ?_
  refine own_baload X1 hx hZ e1 Vb hin (v := (.int y0)) hat (g := (mkF m 8 #[.val (.ref a1), .val (.int p1)] [(.int p1), (.ref a1)])) rfl rfl (hb hby own_d3_8) ?_
  show OEnds _ _ _ _ _ _ T1 (mkF m 9 #[.val (.ref a1), .val (.int p1)] [(.int y0)])
  refine own_go (g' := (mkF m 12 #[.val (.ref a1), .val (.int p1)] [(.int (255 : Int32)), (.int y0)])) (fun t kt => XS.sipush X1.here hx rfl (hb hby own_d3_9) kt) ?_
  refine own_go (g' := (mkF m 13 #[.val (.ref a1), .val (.int p1)] [(.int (y0 &&& (255 : Int32)))])) (fun t kt => XS.iand X1.here hx rfl (hb hby own_d3_12) rfl kt) ?_
  refine own_go (g' := (mkF m 14 #[.val (.ref a1), .val (.int p1)] [(.int ((y0 &&& (255 : Int32)).toUInt32.toUInt16.toUInt32.toInt32))])) (fun t kt => XS.i2c X1.here hx rfl (hb hby own_d3_13) rfl kt) ?_
  exact own_retN X1 hx hlk (t := .char) (z' := (nar .char ((y0 &&& (255 : Int32)).toUInt32.toUInt16.toUInt32.toInt32))) hret (by simp) (hb hby own_d3_14) rfl e1 N1 (by decide) (by decide) (⟨rfl, rfl⟩)
theorem own_ef_own_chaN (m : MethodId) (x0 : Addr) (x1 : Int32) : entryFrame m #[(.ref x0), (.int x1)] 2 = mkF m 0 #[.val (.ref x0), .val (.int x1)] [] := by first | (simp [entryFrame, mkF, argsToLocals, Value.category]; done) | rfl
set_option maxRecDepth 65536 in
set_option maxHeartbeats 40000000 in
theorem own_chaN (l : Launch) (Z : State) (a0 : Array Value) (hw : ∀ d ∈ tables_1, d.before a0 Z = true) (a1 ab : Addr) (kb : ClassId) (vs : List Value) (p1 y0 cs : Int32)  (h0 : Heap) (n0 : Nat) (Z0 : n0 ≤ h0.size) (E1 : Exa Z h0 a1 "java/lang/String") (Fc : Fld Z h0 a1 "java/lang/String" "coder" "B" (.int (0 : Int32))) (Fv : Fld Z h0 a1 "java/lang/String" "value" "[B" (.ref ab)) (Vb : Arv Z h0 ab kb .byte (16 : Int32) vs (.int (0 : Int32))) (S_c : Sta Z h0 "java/lang/String" "COMPACT_STRINGS" "Z" (.int cs)) (S_f : Sta Z h0 "jdk/internal/util/Preconditions" "SIOOBE_FORMATTER" "Ljava/util/function/BiFunction;" .null) (hcs : ¬ cs = 0) (hin : ¬ p1 < 0 ∧ p1 < 16) (hat : vs.getD p1.toNatClampNeg (.int (0 : Int32)) = .int y0) :
    OCon l (⟨"java/lang/String", "charAt", "(I)C"⟩ : MethodName) jdk_42_method_56_code 2 (some .char) ({ frames := 3, cells := 0, slots := 0, locals := 40 } : Room) Z #[(.ref a1), (.int p1)] h0 n0 (fun v h => v = some (.int (own_chr y0)) ∧ h = h0) := by
  refine own_body own_pn_1 ?_
  intro p e s m below meth c T0 hx hZ hby hml hown hnm hret hlk e0 X0
  replace hown : s.vm.findClass "java/lang/String" = some m.cls := hown
  replace hnm : meth.name = "charAt" := hnm
  have N0 := Fr.nil n0
  have K0 : Keep h0 h0 [] := Keep.refl _ _
  refine own_at (own_ef_own_chaN m a1 p1) ?_
  refine own_go (g' := (mkF m 1 #[.val (.ref a1), .val (.int p1)] [(.ref a1)])) (fun t kt => XS.aloadN X0.here hx rfl (hb hby own_d1_0) rfl rfl kt) ?_
  refine own_callV X0 hx hZ (W := 0) (argsL := []) (rest := []) hown (hw _ (List.mem_of_getElem? (i := 14) rfl)) (hw _ (List.mem_of_getElem? (i := 15) rfl)) (hw _ (List.mem_of_getElem? (i := 17) rfl)) (hw _ (List.mem_of_getElem? (i := 16) rfl)) (hw _ (List.mem_of_getElem? (i := 1) rfl)) (hw _ (List.mem_of_getElem? (i := 18) rfl)) (by decide) (own_isl l Z a0 hw a1 cs h0 n0 Z0 S_c Fc hcs) E1 (by decide) (by decide) (g := (mkF m 1 #[.val (.ref a1), .val (.int p1)] [(.ref a1)])) rfl (by rw [hml]; rfl) (lenOf own_pd2 rfl) rfl (by show 2 * 0 + _ ≤ _; exact Nat.le_of_eq rfl) (hb hby own_d1_1) e0 N0 (by decide) (by decide) (fun v1 T1 L1 X1 N1 hq1 => ?_)
  obtain ⟨rfl, e1⟩ := hq1
  show OEnds _ _ _ _ _ _ T1 (mkF m 4 #[.val (.ref a1), .val (.int p1)] [(.int (1 : Int32))])
  refine own_go (g' := (mkF m 7 #[.val (.ref a1), .val (.int p1)] [])) (fun t kt => XS.ifNo X1.here hx rfl (hb hby own_d1_4) rfl ((if0 _ _).trans (feq ((by decide) : ¬ ((1 : Int32) = (0 : Int32)))).1) kt) ?_
  refine own_go (g' := (mkF m 8 #[.val (.ref a1), .val (.int p1)] [(.ref a1)])) (fun t kt => XS.aloadN X1.here hx rfl (hb hby own_d1_7) rfl rfl kt) ?_
  refine own_getF X1 hx hZ hown (hw _ (List.mem_of_getElem? (i := 21) rfl)) e1 Fv (g := (mkF m 8 #[.val (.ref a1), .val (.int p1)] [(.ref a1)])) rfl rfl (hb hby own_d1_8) (fun T2 X2 e2 => ?_)
  show OEnds _ _ _ _ _ _ T2 (mkF m 11 #[.val (.ref a1), .val (.int p1)] [(.ref ab)])
  refine own_go (g' := (mkF m 12 #[.val (.ref a1), .val (.int p1)] [(.int p1), (.ref ab)])) (fun t kt => XS.iloadN X2.here hx rfl (hb hby own_d1_11) rfl kt) ?_
  refine own_callS X2 hx hZ (W := 0) (argsL := [(.ref ab), (.int p1)]) (rest := []) hown (hw _ (List.mem_of_getElem? (i := 22) rfl)) (hw _ (List.mem_of_getElem? (i := 23) rfl)) (hw _ (List.mem_of_getElem? (i := 24) rfl)) (hw _ (List.mem_of_getElem? (i := 25) rfl)) (by decide) (own_lchN l Z a0 hw ab kb vs p1 y0  h0 n0 Z0 Vb S_f hin hat) (by decide) (by decide) (g := (mkF m 12 #[.val (.ref a1), .val (.int p1)] [(.int p1), (.ref ab)])) rfl (by rw [hml]; rfl) (lenOf own_pd3 rfl) rfl (by show 2 * 0 + _ ≤ _; exact Nat.le_of_eq rfl) (hb hby own_d1_12) e2 N1 (by decide) (by decide) (fun v3 T3 L3 X3 N3 hq3 => ?_)
  obtain ⟨rfl, e3⟩ := hq3
  show OEnds _ _ _ _ _ _ T3 (mkF m 15 #[.val (.ref a1), .val (.int p1)] [(.int (own_ch y0))])
  exact own_retN X3 hx hlk (t := .char) (z' := (nar .char (own_ch y0))) hret (by simp) (hb hby own_d1_15) rfl e3 N3 (by decide) (by decide) (⟨rfl, rfl⟩)
theorem own_cha (l : Launch) (Z : State) (a0 : Array Value) (hw : ∀ d ∈ tables_1, d.before a0 Z = true) (a1 ab : Addr) (kb : ClassId) (vs : List Value) (p1 y0 cs : Int32) (sv : Value) (hsv : sv.isRef = true) (h0 : Heap) (n0 : Nat) (Z0 : n0 ≤ h0.size) (E1 : Exa Z h0 a1 "java/lang/String") (Fc : Fld Z h0 a1 "java/lang/String" "coder" "B" (.int (0 : Int32))) (Fv : Fld Z h0 a1 "java/lang/String" "value" "[B" (.ref ab)) (Vb : Arv Z h0 ab kb .byte (16 : Int32) vs (.int (0 : Int32))) (S_c : Sta Z h0 "java/lang/String" "COMPACT_STRINGS" "Z" (.int cs)) (S_f : Sta Z h0 "jdk/internal/util/Preconditions" "SIOOBE_FORMATTER" "Ljava/util/function/BiFunction;" sv) (hcs : ¬ cs = 0) (hin : ¬ p1 < 0 ∧ p1 < 16) (hat : vs.getD p1.toNatClampNeg (.int (0 : Int32)) = .int y0) :
    OCon l (⟨"java/lang/String", "charAt", "(I)C"⟩ : MethodName) jdk_42_method_56_code 2 (some .char) ({ frames := 3, cells := 0, slots := 0, locals := 40 } : Room) Z #[(.ref a1), (.int p1)] h0 n0 (fun v h => v = some (.int (own_chr y0)) ∧ h = h0) := by
  rcases ref_cases hsv with rfl | ⟨sf, rfl⟩
  · exact own_chaN l Z a0 hw a1 ab kb vs p1 y0 cs  h0 n0 Z0 E1 Fc Fv Vb S_c S_f hcs hin hat
  · exact own_chaR l Z a0 hw a1 ab kb vs p1 y0 cs sf h0 n0 Z0 E1 Fc Fv Vb S_c S_f hcs hin hat
theorem own_d6_0 : decode prog_7_method_2_code 0 = .ok (.iload_n 0, 1) := by decide +kernel
theorem own_d6_1 : decode prog_7_method_2_code 1 = .ok (.bipush 48, 2) := by decide +kernel
theorem own_d6_3 : decode prog_7_method_2_code 3 = .ok (.if_icmp .lt 14, 3) := by decide +kernel
theorem own_d6_6 : decode prog_7_method_2_code 6 = .ok (.iload_n 0, 1) := by decide +kernel
theorem own_d6_7 : decode prog_7_method_2_code 7 = .ok (.bipush 57, 2) := by decide +kernel
theorem own_d6_9 : decode prog_7_method_2_code 9 = .ok (.if_icmp .gt 8, 3) := by decide +kernel
theorem own_d6_12 : decode prog_7_method_2_code 12 = .ok (.iload_n 0, 1) := by decide +kernel
theorem own_d6_13 : decode prog_7_method_2_code 13 = .ok (.bipush 48, 2) := by decide +kernel
theorem own_d6_15 : decode prog_7_method_2_code 15 = .ok (.isub, 1) := by decide +kernel
theorem own_d6_16 : decode prog_7_method_2_code 16 = .ok (.ireturn, 1) := by decide +kernel
theorem own_d6_17 : decode prog_7_method_2_code 17 = .ok (.iload_n 0, 1) := by decide +kernel
theorem own_d6_18 : decode prog_7_method_2_code 18 = .ok (.bipush 97, 2) := by decide +kernel
theorem own_d6_20 : decode prog_7_method_2_code 20 = .ok (.if_icmp .lt 17, 3) := by decide +kernel
theorem own_d6_23 : decode prog_7_method_2_code 23 = .ok (.iload_n 0, 1) := by decide +kernel
theorem own_d6_24 : decode prog_7_method_2_code 24 = .ok (.bipush 102, 2) := by decide +kernel
theorem own_d6_26 : decode prog_7_method_2_code 26 = .ok (.if_icmp .gt 11, 3) := by decide +kernel
theorem own_d6_29 : decode prog_7_method_2_code 29 = .ok (.iload_n 0, 1) := by decide +kernel
theorem own_d6_30 : decode prog_7_method_2_code 30 = .ok (.bipush 97, 2) := by decide +kernel
theorem own_d6_32 : decode prog_7_method_2_code 32 = .ok (.isub, 1) := by decide +kernel
theorem own_d6_33 : decode prog_7_method_2_code 33 = .ok (.bipush 10, 2) := by decide +kernel
theorem own_d6_35 : decode prog_7_method_2_code 35 = .ok (.iadd, 1) := by decide +kernel
theorem own_d6_36 : decode prog_7_method_2_code 36 = .ok (.ireturn, 1) := by decide +kernel
theorem own_d6_37 : decode prog_7_method_2_code 37 = .ok (.iload_n 0, 1) := by decide +kernel
theorem own_d6_38 : decode prog_7_method_2_code 38 = .ok (.bipush 65, 2) := by decide +kernel
theorem own_d6_40 : decode prog_7_method_2_code 40 = .ok (.if_icmp .lt 17, 3) := by decide +kernel
theorem own_d6_43 : decode prog_7_method_2_code 43 = .ok (.iload_n 0, 1) := by decide +kernel
theorem own_d6_44 : decode prog_7_method_2_code 44 = .ok (.bipush 70, 2) := by decide +kernel
theorem own_d6_46 : decode prog_7_method_2_code 46 = .ok (.if_icmp .gt 11, 3) := by decide +kernel
theorem own_d6_49 : decode prog_7_method_2_code 49 = .ok (.iload_n 0, 1) := by decide +kernel
theorem own_d6_50 : decode prog_7_method_2_code 50 = .ok (.bipush 65, 2) := by decide +kernel
theorem own_d6_52 : decode prog_7_method_2_code 52 = .ok (.isub, 1) := by decide +kernel
theorem own_d6_53 : decode prog_7_method_2_code 53 = .ok (.bipush 10, 2) := by decide +kernel
theorem own_d6_55 : decode prog_7_method_2_code 55 = .ok (.iadd, 1) := by decide +kernel
theorem own_d6_56 : decode prog_7_method_2_code 56 = .ok (.ireturn, 1) := by decide +kernel
theorem own_d6_57 : decode prog_7_method_2_code 57 = .ok (.iconst (-1), 1) := by decide +kernel
theorem own_d6_58 : decode prog_7_method_2_code 58 = .ok (.ireturn, 1) := by decide +kernel
theorem own_pn_6 : plainFor (⟨"com/example/uniform_shape/uniformshape/HexDigits", "value", "(I)I"⟩ : MethodName) = true := by first | exact plainFor_of_name (by first | (simp [plainName, overriddenIn]; done) | decide +kernel) | decide +kernel
theorem own_ef_own_val (m : MethodId) (x0 : Int32) : entryFrame m #[(.int x0)] 1 = mkF m 0 #[.val (.int x0)] [] := by first | (simp [entryFrame, mkF, argsToLocals, Value.category]; done) | rfl
set_option maxRecDepth 65536 in
set_option maxHeartbeats 40000000 in
theorem own_val (l : Launch) (Z : State) (a0 : Array Value) (hw : ∀ d ∈ tables_1, d.before a0 Z = true) (p1 : Int32) (h0 : Heap) (n0 : Nat) (Z0 : n0 ≤ h0.size)  :
    OCon l (⟨"com/example/uniform_shape/uniformshape/HexDigits", "value", "(I)I"⟩ : MethodName) prog_7_method_2_code 1 (some .int) ({ frames := 0, cells := 0, slots := 0, locals := 0 } : Room) Z #[(.int p1)] h0 n0 (fun v h => v = some (.int (own_value p1)) ∧ h = h0) := by
  refine own_body own_pn_6 ?_
  intro p e s m below meth c T0 hx hZ hby hml hown hnm hret hlk e0 X0
  replace hown : s.vm.findClass "com/example/uniform_shape/uniformshape/HexDigits" = some m.cls := hown
  replace hnm : meth.name = "value" := hnm
  have N0 := Fr.nil n0
  have K0 : Keep h0 h0 [] := Keep.refl _ _
  refine own_at (own_ef_own_val m p1) ?_
  refine own_go (g' := (mkF m 1 #[.val (.int p1)] [(.int p1)])) (fun t kt => XS.iloadN X0.here hx rfl (hb hby own_d6_0) rfl kt) ?_
  refine own_go (g' := (mkF m 3 #[.val (.int p1)] [(.int (48 : Int32)), (.int p1)])) (fun t kt => XS.bipush X0.here hx rfl (hb hby own_d6_1) kt) ?_
  by_cases hc1 : p1 < (48 : Int32)
  · refine own_go (g' := (mkF m 17 #[.val (.int p1)] [])) (fun t kt => XS.icmpYes X0.here hx rfl (pc0 := 3) (pc' := 17) rfl (hb hby own_d6_3) rfl (tlt hc1).1 (by decide) (by decide) kt) ?_
    refine own_go (g' := (mkF m 18 #[.val (.int p1)] [(.int p1)])) (fun t kt => XS.iloadN X0.here hx rfl (hb hby own_d6_17) rfl kt) ?_
    refine own_go (g' := (mkF m 20 #[.val (.int p1)] [(.int (97 : Int32)), (.int p1)])) (fun t kt => XS.bipush X0.here hx rfl (hb hby own_d6_18) kt) ?_
    by_cases hc2 : p1 < (97 : Int32)
    · refine own_go (g' := (mkF m 37 #[.val (.int p1)] [])) (fun t kt => XS.icmpYes X0.here hx rfl (pc0 := 20) (pc' := 37) rfl (hb hby own_d6_20) rfl (tlt hc2).1 (by decide) (by decide) kt) ?_
      refine own_go (g' := (mkF m 38 #[.val (.int p1)] [(.int p1)])) (fun t kt => XS.iloadN X0.here hx rfl (hb hby own_d6_37) rfl kt) ?_
      refine own_go (g' := (mkF m 40 #[.val (.int p1)] [(.int (65 : Int32)), (.int p1)])) (fun t kt => XS.bipush X0.here hx rfl (hb hby own_d6_38) kt) ?_
      by_cases hc3 : p1 < (65 : Int32)
      · refine own_go (g' := (mkF m 57 #[.val (.int p1)] [])) (fun t kt => XS.icmpYes X0.here hx rfl (pc0 := 40) (pc' := 57) rfl (hb hby own_d6_40) rfl (tlt hc3).1 (by decide) (by decide) kt) ?_
        refine own_go (g' := (mkF m 58 #[.val (.int p1)] [(.int (-1 : Int32))])) (fun t kt => XS.iconst X0.here hx rfl (hb hby own_d6_57) kt) ?_
        exact own_retI X0 hx hlk hret (hb hby own_d6_58) e0 N0 (by decide) (by decide) (⟨by simp [own_value, own_v2, own_v3, hc1, hc2, hc3], rfl⟩)
      · refine own_go (g' := (mkF m 43 #[.val (.int p1)] [])) (fun t kt => XS.icmpNo X0.here hx rfl (hb hby own_d6_40) rfl (flt hc3).1 kt) ?_
        refine own_go (g' := (mkF m 44 #[.val (.int p1)] [(.int p1)])) (fun t kt => XS.iloadN X0.here hx rfl (hb hby own_d6_43) rfl kt) ?_
        refine own_go (g' := (mkF m 46 #[.val (.int p1)] [(.int (70 : Int32)), (.int p1)])) (fun t kt => XS.bipush X0.here hx rfl (hb hby own_d6_44) kt) ?_
        by_cases hc4 : (70 : Int32) < p1
        · refine own_go (g' := (mkF m 57 #[.val (.int p1)] [])) (fun t kt => XS.icmpYes X0.here hx rfl (pc0 := 46) (pc' := 57) rfl (hb hby own_d6_46) rfl (tlt hc4).2.2.1 (by decide) (by decide) kt) ?_
          refine own_go (g' := (mkF m 58 #[.val (.int p1)] [(.int (-1 : Int32))])) (fun t kt => XS.iconst X0.here hx rfl (hb hby own_d6_57) kt) ?_
          exact own_retI X0 hx hlk hret (hb hby own_d6_58) e0 N0 (by decide) (by decide) (⟨by simp [own_value, own_v2, own_v3, hc1, hc2, hc3, hc4], rfl⟩)
        · refine own_go (g' := (mkF m 49 #[.val (.int p1)] [])) (fun t kt => XS.icmpNo X0.here hx rfl (hb hby own_d6_46) rfl (flt hc4).2.2.1 kt) ?_
          refine own_go (g' := (mkF m 50 #[.val (.int p1)] [(.int p1)])) (fun t kt => XS.iloadN X0.here hx rfl (hb hby own_d6_49) rfl kt) ?_
          refine own_go (g' := (mkF m 52 #[.val (.int p1)] [(.int (65 : Int32)), (.int p1)])) (fun t kt => XS.bipush X0.here hx rfl (hb hby own_d6_50) kt) ?_
          refine own_go (g' := (mkF m 53 #[.val (.int p1)] [(.int (p1 - (65 : Int32)))])) (fun t kt => XS.isub X0.here hx rfl (hb hby own_d6_52) rfl kt) ?_
          refine own_go (g' := (mkF m 55 #[.val (.int p1)] [(.int (10 : Int32)), (.int (p1 - (65 : Int32)))])) (fun t kt => XS.bipush X0.here hx rfl (hb hby own_d6_53) kt) ?_
          refine own_go (g' := (mkF m 56 #[.val (.int p1)] [(.int ((p1 - (65 : Int32)) + (10 : Int32)))])) (fun t kt => XS.iadd X0.here hx rfl (hb hby own_d6_55) rfl kt) ?_
          exact own_retI X0 hx hlk hret (hb hby own_d6_56) e0 N0 (by decide) (by decide) (⟨by simp [own_value, own_v2, own_v3, hc1, hc2, hc3, hc4], rfl⟩)
    · refine own_go (g' := (mkF m 23 #[.val (.int p1)] [])) (fun t kt => XS.icmpNo X0.here hx rfl (hb hby own_d6_20) rfl (flt hc2).1 kt) ?_
      refine own_go (g' := (mkF m 24 #[.val (.int p1)] [(.int p1)])) (fun t kt => XS.iloadN X0.here hx rfl (hb hby own_d6_23) rfl kt) ?_
      refine own_go (g' := (mkF m 26 #[.val (.int p1)] [(.int (102 : Int32)), (.int p1)])) (fun t kt => XS.bipush X0.here hx rfl (hb hby own_d6_24) kt) ?_
      by_cases hc5 : (102 : Int32) < p1
      · refine own_go (g' := (mkF m 37 #[.val (.int p1)] [])) (fun t kt => XS.icmpYes X0.here hx rfl (pc0 := 26) (pc' := 37) rfl (hb hby own_d6_26) rfl (tlt hc5).2.2.1 (by decide) (by decide) kt) ?_
        refine own_go (g' := (mkF m 38 #[.val (.int p1)] [(.int p1)])) (fun t kt => XS.iloadN X0.here hx rfl (hb hby own_d6_37) rfl kt) ?_
        refine own_go (g' := (mkF m 40 #[.val (.int p1)] [(.int (65 : Int32)), (.int p1)])) (fun t kt => XS.bipush X0.here hx rfl (hb hby own_d6_38) kt) ?_
        by_cases hc6 : p1 < (65 : Int32)
        · refine own_go (g' := (mkF m 57 #[.val (.int p1)] [])) (fun t kt => XS.icmpYes X0.here hx rfl (pc0 := 40) (pc' := 57) rfl (hb hby own_d6_40) rfl (tlt hc6).1 (by decide) (by decide) kt) ?_
          refine own_go (g' := (mkF m 58 #[.val (.int p1)] [(.int (-1 : Int32))])) (fun t kt => XS.iconst X0.here hx rfl (hb hby own_d6_57) kt) ?_
          exact own_retI X0 hx hlk hret (hb hby own_d6_58) e0 N0 (by decide) (by decide) (⟨by simp [own_value, own_v2, own_v3, hc1, hc2, hc5, hc6], rfl⟩)
        · refine own_go (g' := (mkF m 43 #[.val (.int p1)] [])) (fun t kt => XS.icmpNo X0.here hx rfl (hb hby own_d6_40) rfl (flt hc6).1 kt) ?_
          refine own_go (g' := (mkF m 44 #[.val (.int p1)] [(.int p1)])) (fun t kt => XS.iloadN X0.here hx rfl (hb hby own_d6_43) rfl kt) ?_
          refine own_go (g' := (mkF m 46 #[.val (.int p1)] [(.int (70 : Int32)), (.int p1)])) (fun t kt => XS.bipush X0.here hx rfl (hb hby own_d6_44) kt) ?_
          by_cases hc7 : (70 : Int32) < p1
          · refine own_go (g' := (mkF m 57 #[.val (.int p1)] [])) (fun t kt => XS.icmpYes X0.here hx rfl (pc0 := 46) (pc' := 57) rfl (hb hby own_d6_46) rfl (tlt hc7).2.2.1 (by decide) (by decide) kt) ?_
            refine own_go (g' := (mkF m 58 #[.val (.int p1)] [(.int (-1 : Int32))])) (fun t kt => XS.iconst X0.here hx rfl (hb hby own_d6_57) kt) ?_
            exact own_retI X0 hx hlk hret (hb hby own_d6_58) e0 N0 (by decide) (by decide) (⟨by simp [own_value, own_v2, own_v3, hc1, hc2, hc5, hc6, hc7], rfl⟩)
          · refine own_go (g' := (mkF m 49 #[.val (.int p1)] [])) (fun t kt => XS.icmpNo X0.here hx rfl (hb hby own_d6_46) rfl (flt hc7).2.2.1 kt) ?_
            refine own_go (g' := (mkF m 50 #[.val (.int p1)] [(.int p1)])) (fun t kt => XS.iloadN X0.here hx rfl (hb hby own_d6_49) rfl kt) ?_
            refine own_go (g' := (mkF m 52 #[.val (.int p1)] [(.int (65 : Int32)), (.int p1)])) (fun t kt => XS.bipush X0.here hx rfl (hb hby own_d6_50) kt) ?_
            refine own_go (g' := (mkF m 53 #[.val (.int p1)] [(.int (p1 - (65 : Int32)))])) (fun t kt => XS.isub X0.here hx rfl (hb hby own_d6_52) rfl kt) ?_
            refine own_go (g' := (mkF m 55 #[.val (.int p1)] [(.int (10 : Int32)), (.int (p1 - (65 : Int32)))])) (fun t kt => XS.bipush X0.here hx rfl (hb hby own_d6_53) kt) ?_
            refine own_go (g' := (mkF m 56 #[.val (.int p1)] [(.int ((p1 - (65 : Int32)) + (10 : Int32)))])) (fun t kt => XS.iadd X0.here hx rfl (hb hby own_d6_55) rfl kt) ?_
            exact own_retI X0 hx hlk hret (hb hby own_d6_56) e0 N0 (by decide) (by decide) (⟨by simp [own_value, own_v2, own_v3, hc1, hc2, hc5, hc6, hc7], rfl⟩)
      · refine own_go (g' := (mkF m 29 #[.val (.int p1)] [])) (fun t kt => XS.icmpNo X0.here hx rfl (hb hby own_d6_26) rfl (flt hc5).2.2.1 kt) ?_
        refine own_go (g' := (mkF m 30 #[.val (.int p1)] [(.int p1)])) (fun t kt => XS.iloadN X0.here hx rfl (hb hby own_d6_29) rfl kt) ?_
        refine own_go (g' := (mkF m 32 #[.val (.int p1)] [(.int (97 : Int32)), (.int p1)])) (fun t kt => XS.bipush X0.here hx rfl (hb hby own_d6_30) kt) ?_
        refine own_go (g' := (mkF m 33 #[.val (.int p1)] [(.int (p1 - (97 : Int32)))])) (fun t kt => XS.isub X0.here hx rfl (hb hby own_d6_32) rfl kt) ?_
        refine own_go (g' := (mkF m 35 #[.val (.int p1)] [(.int (10 : Int32)), (.int (p1 - (97 : Int32)))])) (fun t kt => XS.bipush X0.here hx rfl (hb hby own_d6_33) kt) ?_
        refine own_go (g' := (mkF m 36 #[.val (.int p1)] [(.int ((p1 - (97 : Int32)) + (10 : Int32)))])) (fun t kt => XS.iadd X0.here hx rfl (hb hby own_d6_35) rfl kt) ?_
        exact own_retI X0 hx hlk hret (hb hby own_d6_36) e0 N0 (by decide) (by decide) (⟨by simp [own_value, own_v2, own_v3, hc1, hc2, hc5], rfl⟩)
  · refine own_go (g' := (mkF m 6 #[.val (.int p1)] [])) (fun t kt => XS.icmpNo X0.here hx rfl (hb hby own_d6_3) rfl (flt hc1).1 kt) ?_
    refine own_go (g' := (mkF m 7 #[.val (.int p1)] [(.int p1)])) (fun t kt => XS.iloadN X0.here hx rfl (hb hby own_d6_6) rfl kt) ?_
    refine own_go (g' := (mkF m 9 #[.val (.int p1)] [(.int (57 : Int32)), (.int p1)])) (fun t kt => XS.bipush X0.here hx rfl (hb hby own_d6_7) kt) ?_
    by_cases hc8 : (57 : Int32) < p1
    · refine own_go (g' := (mkF m 17 #[.val (.int p1)] [])) (fun t kt => XS.icmpYes X0.here hx rfl (pc0 := 9) (pc' := 17) rfl (hb hby own_d6_9) rfl (tlt hc8).2.2.1 (by decide) (by decide) kt) ?_
      refine own_go (g' := (mkF m 18 #[.val (.int p1)] [(.int p1)])) (fun t kt => XS.iloadN X0.here hx rfl (hb hby own_d6_17) rfl kt) ?_
      refine own_go (g' := (mkF m 20 #[.val (.int p1)] [(.int (97 : Int32)), (.int p1)])) (fun t kt => XS.bipush X0.here hx rfl (hb hby own_d6_18) kt) ?_
      by_cases hc9 : p1 < (97 : Int32)
      · refine own_go (g' := (mkF m 37 #[.val (.int p1)] [])) (fun t kt => XS.icmpYes X0.here hx rfl (pc0 := 20) (pc' := 37) rfl (hb hby own_d6_20) rfl (tlt hc9).1 (by decide) (by decide) kt) ?_
        refine own_go (g' := (mkF m 38 #[.val (.int p1)] [(.int p1)])) (fun t kt => XS.iloadN X0.here hx rfl (hb hby own_d6_37) rfl kt) ?_
        refine own_go (g' := (mkF m 40 #[.val (.int p1)] [(.int (65 : Int32)), (.int p1)])) (fun t kt => XS.bipush X0.here hx rfl (hb hby own_d6_38) kt) ?_
        by_cases hc10 : p1 < (65 : Int32)
        · refine own_go (g' := (mkF m 57 #[.val (.int p1)] [])) (fun t kt => XS.icmpYes X0.here hx rfl (pc0 := 40) (pc' := 57) rfl (hb hby own_d6_40) rfl (tlt hc10).1 (by decide) (by decide) kt) ?_
          refine own_go (g' := (mkF m 58 #[.val (.int p1)] [(.int (-1 : Int32))])) (fun t kt => XS.iconst X0.here hx rfl (hb hby own_d6_57) kt) ?_
          exact own_retI X0 hx hlk hret (hb hby own_d6_58) e0 N0 (by decide) (by decide) (⟨by simp [own_value, own_v2, own_v3, hc1, hc8, hc9, hc10], rfl⟩)
        · refine own_go (g' := (mkF m 43 #[.val (.int p1)] [])) (fun t kt => XS.icmpNo X0.here hx rfl (hb hby own_d6_40) rfl (flt hc10).1 kt) ?_
          refine own_go (g' := (mkF m 44 #[.val (.int p1)] [(.int p1)])) (fun t kt => XS.iloadN X0.here hx rfl (hb hby own_d6_43) rfl kt) ?_
          refine own_go (g' := (mkF m 46 #[.val (.int p1)] [(.int (70 : Int32)), (.int p1)])) (fun t kt => XS.bipush X0.here hx rfl (hb hby own_d6_44) kt) ?_
          by_cases hc11 : (70 : Int32) < p1
          · refine own_go (g' := (mkF m 57 #[.val (.int p1)] [])) (fun t kt => XS.icmpYes X0.here hx rfl (pc0 := 46) (pc' := 57) rfl (hb hby own_d6_46) rfl (tlt hc11).2.2.1 (by decide) (by decide) kt) ?_
            refine own_go (g' := (mkF m 58 #[.val (.int p1)] [(.int (-1 : Int32))])) (fun t kt => XS.iconst X0.here hx rfl (hb hby own_d6_57) kt) ?_
            exact own_retI X0 hx hlk hret (hb hby own_d6_58) e0 N0 (by decide) (by decide) (⟨by simp [own_value, own_v2, own_v3, hc1, hc8, hc9, hc10, hc11], rfl⟩)
          · refine own_go (g' := (mkF m 49 #[.val (.int p1)] [])) (fun t kt => XS.icmpNo X0.here hx rfl (hb hby own_d6_46) rfl (flt hc11).2.2.1 kt) ?_
            refine own_go (g' := (mkF m 50 #[.val (.int p1)] [(.int p1)])) (fun t kt => XS.iloadN X0.here hx rfl (hb hby own_d6_49) rfl kt) ?_
            refine own_go (g' := (mkF m 52 #[.val (.int p1)] [(.int (65 : Int32)), (.int p1)])) (fun t kt => XS.bipush X0.here hx rfl (hb hby own_d6_50) kt) ?_
            refine own_go (g' := (mkF m 53 #[.val (.int p1)] [(.int (p1 - (65 : Int32)))])) (fun t kt => XS.isub X0.here hx rfl (hb hby own_d6_52) rfl kt) ?_
            refine own_go (g' := (mkF m 55 #[.val (.int p1)] [(.int (10 : Int32)), (.int (p1 - (65 : Int32)))])) (fun t kt => XS.bipush X0.here hx rfl (hb hby own_d6_53) kt) ?_
            refine own_go (g' := (mkF m 56 #[.val (.int p1)] [(.int ((p1 - (65 : Int32)) + (10 : Int32)))])) (fun t kt => XS.iadd X0.here hx rfl (hb hby own_d6_55) rfl kt) ?_
            exact own_retI X0 hx hlk hret (hb hby own_d6_56) e0 N0 (by decide) (by decide) (⟨by simp [own_value, own_v2, own_v3, hc1, hc8, hc9, hc10, hc11], rfl⟩)
      · refine own_go (g' := (mkF m 23 #[.val (.int p1)] [])) (fun t kt => XS.icmpNo X0.here hx rfl (hb hby own_d6_20) rfl (flt hc9).1 kt) ?_
        refine own_go (g' := (mkF m 24 #[.val (.int p1)] [(.int p1)])) (fun t kt => XS.iloadN X0.here hx rfl (hb hby own_d6_23) rfl kt) ?_
        refine own_go (g' := (mkF m 26 #[.val (.int p1)] [(.int (102 : Int32)), (.int p1)])) (fun t kt => XS.bipush X0.here hx rfl (hb hby own_d6_24) kt) ?_
        by_cases hc12 : (102 : Int32) < p1
        · refine own_go (g' := (mkF m 37 #[.val (.int p1)] [])) (fun t kt => XS.icmpYes X0.here hx rfl (pc0 := 26) (pc' := 37) rfl (hb hby own_d6_26) rfl (tlt hc12).2.2.1 (by decide) (by decide) kt) ?_
          refine own_go (g' := (mkF m 38 #[.val (.int p1)] [(.int p1)])) (fun t kt => XS.iloadN X0.here hx rfl (hb hby own_d6_37) rfl kt) ?_
          refine own_go (g' := (mkF m 40 #[.val (.int p1)] [(.int (65 : Int32)), (.int p1)])) (fun t kt => XS.bipush X0.here hx rfl (hb hby own_d6_38) kt) ?_
          by_cases hc13 : p1 < (65 : Int32)
          · refine own_go (g' := (mkF m 57 #[.val (.int p1)] [])) (fun t kt => XS.icmpYes X0.here hx rfl (pc0 := 40) (pc' := 57) rfl (hb hby own_d6_40) rfl (tlt hc13).1 (by decide) (by decide) kt) ?_
            refine own_go (g' := (mkF m 58 #[.val (.int p1)] [(.int (-1 : Int32))])) (fun t kt => XS.iconst X0.here hx rfl (hb hby own_d6_57) kt) ?_
            exact own_retI X0 hx hlk hret (hb hby own_d6_58) e0 N0 (by decide) (by decide) (⟨by simp [own_value, own_v2, own_v3, hc1, hc8, hc9, hc12, hc13], rfl⟩)
          · refine own_go (g' := (mkF m 43 #[.val (.int p1)] [])) (fun t kt => XS.icmpNo X0.here hx rfl (hb hby own_d6_40) rfl (flt hc13).1 kt) ?_
            refine own_go (g' := (mkF m 44 #[.val (.int p1)] [(.int p1)])) (fun t kt => XS.iloadN X0.here hx rfl (hb hby own_d6_43) rfl kt) ?_
            refine own_go (g' := (mkF m 46 #[.val (.int p1)] [(.int (70 : Int32)), (.int p1)])) (fun t kt => XS.bipush X0.here hx rfl (hb hby own_d6_44) kt) ?_
            by_cases hc14 : (70 : Int32) < p1
            · refine own_go (g' := (mkF m 57 #[.val (.int p1)] [])) (fun t kt => XS.icmpYes X0.here hx rfl (pc0 := 46) (pc' := 57) rfl (hb hby own_d6_46) rfl (tlt hc14).2.2.1 (by decide) (by decide) kt) ?_
              refine own_go (g' := (mkF m 58 #[.val (.int p1)] [(.int (-1 : Int32))])) (fun t kt => XS.iconst X0.here hx rfl (hb hby own_d6_57) kt) ?_
              exact own_retI X0 hx hlk hret (hb hby own_d6_58) e0 N0 (by decide) (by decide) (⟨by simp [own_value, own_v2, own_v3, hc1, hc8, hc9, hc12, hc13, hc14], rfl⟩)
            · refine own_go (g' := (mkF m 49 #[.val (.int p1)] [])) (fun t kt => XS.icmpNo X0.here hx rfl (hb hby own_d6_46) rfl (flt hc14).2.2.1 kt) ?_
              refine own_go (g' := (mkF m 50 #[.val (.int p1)] [(.int p1)])) (fun t kt => XS.iloadN X0.here hx rfl (hb hby own_d6_49) rfl kt) ?_
              refine own_go (g' := (mkF m 52 #[.val (.int p1)] [(.int (65 : Int32)), (.int p1)])) (fun t kt => XS.bipush X0.here hx rfl (hb hby own_d6_50) kt) ?_
              refine own_go (g' := (mkF m 53 #[.val (.int p1)] [(.int (p1 - (65 : Int32)))])) (fun t kt => XS.isub X0.here hx rfl (hb hby own_d6_52) rfl kt) ?_
              refine own_go (g' := (mkF m 55 #[.val (.int p1)] [(.int (10 : Int32)), (.int (p1 - (65 : Int32)))])) (fun t kt => XS.bipush X0.here hx rfl (hb hby own_d6_53) kt) ?_
              refine own_go (g' := (mkF m 56 #[.val (.int p1)] [(.int ((p1 - (65 : Int32)) + (10 : Int32)))])) (fun t kt => XS.iadd X0.here hx rfl (hb hby own_d6_55) rfl kt) ?_
              exact own_retI X0 hx hlk hret (hb hby own_d6_56) e0 N0 (by decide) (by decide) (⟨by simp [own_value, own_v2, own_v3, hc1, hc8, hc9, hc12, hc13, hc14], rfl⟩)
        · refine own_go (g' := (mkF m 29 #[.val (.int p1)] [])) (fun t kt => XS.icmpNo X0.here hx rfl (hb hby own_d6_26) rfl (flt hc12).2.2.1 kt) ?_
          refine own_go (g' := (mkF m 30 #[.val (.int p1)] [(.int p1)])) (fun t kt => XS.iloadN X0.here hx rfl (hb hby own_d6_29) rfl kt) ?_
          refine own_go (g' := (mkF m 32 #[.val (.int p1)] [(.int (97 : Int32)), (.int p1)])) (fun t kt => XS.bipush X0.here hx rfl (hb hby own_d6_30) kt) ?_
          refine own_go (g' := (mkF m 33 #[.val (.int p1)] [(.int (p1 - (97 : Int32)))])) (fun t kt => XS.isub X0.here hx rfl (hb hby own_d6_32) rfl kt) ?_
          refine own_go (g' := (mkF m 35 #[.val (.int p1)] [(.int (10 : Int32)), (.int (p1 - (97 : Int32)))])) (fun t kt => XS.bipush X0.here hx rfl (hb hby own_d6_33) kt) ?_
          refine own_go (g' := (mkF m 36 #[.val (.int p1)] [(.int ((p1 - (97 : Int32)) + (10 : Int32)))])) (fun t kt => XS.iadd X0.here hx rfl (hb hby own_d6_35) rfl kt) ?_
          exact own_retI X0 hx hlk hret (hb hby own_d6_36) e0 N0 (by decide) (by decide) (⟨by simp [own_value, own_v2, own_v3, hc1, hc8, hc9, hc12], rfl⟩)
    · refine own_go (g' := (mkF m 12 #[.val (.int p1)] [])) (fun t kt => XS.icmpNo X0.here hx rfl (hb hby own_d6_9) rfl (flt hc8).2.2.1 kt) ?_
      refine own_go (g' := (mkF m 13 #[.val (.int p1)] [(.int p1)])) (fun t kt => XS.iloadN X0.here hx rfl (hb hby own_d6_12) rfl kt) ?_
      refine own_go (g' := (mkF m 15 #[.val (.int p1)] [(.int (48 : Int32)), (.int p1)])) (fun t kt => XS.bipush X0.here hx rfl (hb hby own_d6_13) kt) ?_
      refine own_go (g' := (mkF m 16 #[.val (.int p1)] [(.int (p1 - (48 : Int32)))])) (fun t kt => XS.isub X0.here hx rfl (hb hby own_d6_15) rfl kt) ?_
      exact own_retI X0 hx hlk hret (hb hby own_d6_16) e0 N0 (by decide) (by decide) (⟨by simp [own_value, own_v2, own_v3, hc1, hc8], rfl⟩)
theorem own_pd4 : parseMethodDescriptor "(I)C" = some ⟨[.int], some .char⟩ := by decide +kernel
theorem own_pd5 : parseMethodDescriptor "(I)I" = some ⟨[.int], some .int⟩ := by decide +kernel
theorem own_pn_0 : plainFor x = true := by first | exact plainFor_of_name (by first | (simp [plainName, overriddenIn]; done) | decide +kernel) | decide +kernel
theorem own_ef_own_law (m : MethodId) (x0 : Int32) (x1 : Int32) : entryFrame m #[(.int x0), (.int x1)] maxLocals = mkF m 0 #[.val (.int x0), .val (.int x1), .unset, .unset, .unset, .unset] [] := by first | (simp [entryFrame, mkF, argsToLocals, Value.category, maxLocals]; done) | rfl
set_option maxRecDepth 65536 in
set_option maxHeartbeats 40000000 in
theorem own_law (l : Launch) (Z : State) (a0 : Array Value) (hw : ∀ d ∈ tables_1, d.before a0 Z = true) (p1 p2 cs : Int32) (sv : Value) (hsv : sv.isRef = true) (h0 : Heap) (eh0 : h0 = Z.heap) (n0 : Nat) (en0 : n0 = Z.heap.size) (Z0 : n0 ≤ h0.size) (S_c : Sta Z h0 "java/lang/String" "COMPACT_STRINGS" "Z" (.int cs)) (S_f : Sta Z h0 "jdk/internal/util/Preconditions" "SIOOBE_FORMATTER" "Ljava/util/function/BiFunction;" sv) (hcs : ¬ cs = 0) (hwS : ∀ a ∈ Bundle.stringAtoms, a.before a0 Z = true) (hcw : Jvm.Lit.compactW.before a0 Z = true) (hhA : Jvm.Lit.constHeld Z "com/example/uniform_shape/uniformshape/HexDigitsValuePinLaw" 7) (hhB : Jvm.Lit.constHeld Z "com/example/uniform_shape/uniformshape/HexDigitsValuePinLaw" 9) :
    OConW l x code maxLocals ret room_1 Z #[(.int p1), (.int p2)] n0 (fun v h => v = some (.int 1)) := by
  refine own_bodyW own_pn_0 eh0 ?_
  intro p e m below meth c T0 hx hby hml hown hnm hret hlk e0 X0
  replace hml : c.maxLocals = 6 := hml
  replace hown : (Z.setVm Z.vm).vm.findClass "com/example/uniform_shape/uniformshape/HexDigitsValuePinLaw" = some m.cls := hown
  have hZ : Z.Warmed39 (Z.setVm Z.vm).vm := State.Warmed39.refl Z
  have hS : Z.Since Z.vm n0 := (State.WarmedH.refl Z).since n0
  have hk := Z0
  have hI : IB Z Z.vm [] := IB.start
  replace hnm : meth.name = "law" := hnm
  have N0 := Fr.nil n0
  have K0 : Keep h0 h0 [] := Keep.refl _ _
  refine own_at (own_ef_own_law m p1 p2) ?_
  refine own_ldcS X0 hx hZ hown (text := own_tA) (hw _ (List.mem_of_getElem? (i := 0) rfl)) hwS e0 hS hk N0 en0 hI (by simp) hhA hcw (vs := own_vA) (z := (16 : Int32)) ⟨own_latA, rfl⟩ (by decide) own_lenA (g := (mkF m 0 #[.val (.int p1), .val (.int p2), .unset, .unset, .unset, .unset] [])) rfl (hb hby at_0) (n := 64) own_l4A (by decide) (by decide) (by decide) (fun b1 T1 h1 k1 d1 c1 X1 e1 E1 hS hk hZ hown A1 G1 F1 V1 hI => ?_)
  show OEnds _ _ _ _ _ _ T1 (mkF m 2 #[.val (.int p1), .val (.int p2), .unset, .unset, .unset, .unset] [(.ref b1)])
  have S_c_h1 := S_c.ext E1
  have S_f_h1 := S_f.ext E1
  have K1 := K0.ext E1
  refine own_go (g' := (mkF m 3 #[.val (.int p1), .val (.int p2), .val (.ref b1), .unset, .unset, .unset] [])) (fun t kt => XS.astoreN X1.here hx rfl (hb hby at_2) rfl rfl (l' := #[.val (.int p1), .val (.int p2), .val (.ref b1), .unset, .unset, .unset]) rfl kt) ?_
  refine own_ldcS X1 hx hZ hown (text := own_tB) (hw _ (List.mem_of_getElem? (i := 8) rfl)) hwS e1 hS hk N0 en0 hI own_diff hhB hcw (vs := own_vB) (z := (16 : Int32)) ⟨own_latB, rfl⟩ (by decide) own_lenB (g := (mkF m 3 #[.val (.int p1), .val (.int p2), .val (.ref b1), .unset, .unset, .unset] [])) rfl (hb hby at_3) (n := 64) own_l4B (by decide) (by decide) (by decide) (fun b2 T2 h2 k2 d2 c2 X2 e2 E2 hS hk hZ hown A2 G2 F2 V2 hI => ?_)
  show OEnds _ _ _ _ _ _ T2 (mkF m 5 #[.val (.int p1), .val (.int p2), .val (.ref b1), .unset, .unset, .unset] [(.ref b2)])
  have S_c_h2 := S_c_h1.ext E2
  have S_f_h2 := S_f_h1.ext E2
  have A1_h2 := A1.ext E2
  have G1_h2 := G1.ext E2
  have F1_h2 := F1.ext E2
  have V1_h2 := V1.ext E2
  have K2 := K1.ext E2
  refine own_go (g' := (mkF m 6 #[.val (.int p1), .val (.int p2), .val (.ref b1), .val (.ref b2), .unset, .unset] [])) (fun t kt => XS.astoreN X2.here hx rfl (hb hby at_5) rfl rfl (l' := #[.val (.int p1), .val (.int p2), .val (.ref b1), .val (.ref b2), .unset, .unset]) rfl kt) ?_
  refine own_go (g' := (mkF m 7 #[.val (.int p1), .val (.int p2), .val (.ref b1), .val (.ref b2), .unset, .unset] [(.int p2)])) (fun t kt => XS.iloadN X2.here hx rfl (hb hby at_6) rfl kt) ?_
  refine own_go (g' := (mkF m 9 #[.val (.int p1), .val (.int p2), .val (.ref b1), .val (.ref b2), .unset, .unset] [(.int (15 : Int32)), (.int p2)])) (fun t kt => XS.bipush X2.here hx rfl (hb hby at_7) kt) ?_
  refine own_go (g' := (mkF m 10 #[.val (.int p1), .val (.int p2), .val (.ref b1), .val (.ref b2), .unset, .unset] [(.int (p2 &&& (15 : Int32)))])) (fun t kt => XS.iand X2.here hx rfl (hb hby at_9) rfl kt) ?_
  refine own_go (g' := (mkF m 12 #[.val (.int p1), .val (.int p2), .val (.ref b1), .val (.ref b2), .val (.int (p2 &&& (15 : Int32))), .unset] [])) (fun t kt => XS.istore X2.here hx rfl (hb hby at_10) rfl (l' := #[.val (.int p1), .val (.int p2), .val (.ref b1), .val (.ref b2), .val (.int (p2 &&& (15 : Int32))), .unset]) rfl kt) ?_
  refine own_let (P := fun y3 => OEnds _ _ _ _ _ _ T2 (mkF m 12 #[.val (.int p1), .val (.int p2), .val (.ref b1), .val (.ref b2), .val (.int y3), .unset] [])) (p2 &&& (15 : Int32)) (fun y3 hv_y3 => ?_)
  obtain ⟨kk, hkk⟩ := own_m15 p2
  rw [← hv_y3] at hkk
  have hr_y3 := own_rngk kk
  rw [← hkk] at hr_y3
  have hgA_y3 := own_getA kk
  have hgB_y3 := own_getB kk
  rw [← hkk] at hgA_y3 hgB_y3
  have hvA := own_valA kk
  have hvB := own_valB kk
  rw [← hkk] at hvA hvB
  refine own_go (g' := (mkF m 13 #[.val (.int p1), .val (.int p2), .val (.ref b1), .val (.ref b2), .val (.int y3), .unset] [(.ref b1)])) (fun t kt => XS.aloadN X2.here hx rfl (hb hby at_12) rfl rfl kt) ?_
  refine own_go (g' := (mkF m 15 #[.val (.int p1), .val (.int p2), .val (.ref b1), .val (.ref b2), .val (.int y3), .unset] [(.int y3), (.ref b1)])) (fun t kt => XS.iload X2.here hx rfl (hb hby at_13) rfl kt) ?_
  refine own_callV X2 hx hZ (W := 0) (argsL := [(.int y3)]) (rest := []) hown (hw _ (List.mem_of_getElem? (i := 9) rfl)) (hw _ (List.mem_of_getElem? (i := 10) rfl)) (hw _ (List.mem_of_getElem? (i := 12) rfl)) (hw _ (List.mem_of_getElem? (i := 11) rfl)) (hw _ (List.mem_of_getElem? (i := 1) rfl)) (hw _ (List.mem_of_getElem? (i := 13) rfl)) (by decide) (own_cha l Z a0 hw b1 d1 c1 own_vA y3 (own_at1 own_vA y3) cs sv hsv h2 n0 (Nat.le_trans Z0 K2.1) A1_h2 G1_h2 F1_h2 V1_h2 S_c_h2 S_f_h2 hcs ⟨hr_y3.1, hr_y3.2.1⟩ hgA_y3) A1_h2 (by decide) (by decide) (g := (mkF m 15 #[.val (.int p1), .val (.int p2), .val (.ref b1), .val (.ref b2), .val (.int y3), .unset] [(.int y3), (.ref b1)])) rfl (by rw [hml]; rfl) (lenOf own_pd4 rfl) rfl (by show 2 * 0 + _ ≤ _; exact Nat.le_of_eq rfl) (hb hby at_15) e2 N0 (by decide) (by decide) (fun v4 T4 L4 X4 N4 hq4 => ?_)
  obtain ⟨rfl, e4⟩ := hq4
  show OEnds _ _ _ _ _ _ T4 (mkF m 18 #[.val (.int p1), .val (.int p2), .val (.ref b1), .val (.ref b2), .val (.int y3), .unset] [(.int (own_chr (own_at1 own_vA y3)))])
  refine own_callS X4 hx hZ (W := 0) (argsL := [(.int (own_chr (own_at1 own_vA y3)))]) (rest := []) hown (hw _ (List.mem_of_getElem? (i := 34) rfl)) (hw _ (List.mem_of_getElem? (i := 35) rfl)) (hw _ (List.mem_of_getElem? (i := 36) rfl)) (hw _ (List.mem_of_getElem? (i := 37) rfl)) (by decide) (own_val l Z a0 hw (own_chr (own_at1 own_vA y3)) h2 n0 (Nat.le_trans Z0 K2.1)) (by decide) (by decide) (g := (mkF m 18 #[.val (.int p1), .val (.int p2), .val (.ref b1), .val (.ref b2), .val (.int y3), .unset] [(.int (own_chr (own_at1 own_vA y3)))])) rfl (by rw [hml]; rfl) (lenOf own_pd5 rfl) rfl (by show 2 * 0 + _ ≤ _; exact Nat.le_of_eq rfl) (hb hby at_18) e4 N4 (by decide) (by decide) (fun v5 T5 L5 X5 N5 hq5 => ?_)
  obtain ⟨rfl, e5⟩ := hq5
  show OEnds _ _ _ _ _ _ T5 (mkF m 21 #[.val (.int p1), .val (.int p2), .val (.ref b1), .val (.ref b2), .val (.int y3), .unset] [(.int (own_value (own_chr (own_at1 own_vA y3))))])
  refine own_go (g' := (mkF m 23 #[.val (.int p1), .val (.int p2), .val (.ref b1), .val (.ref b2), .val (.int y3), .unset] [(.int y3), (.int (own_value (own_chr (own_at1 own_vA y3))))])) (fun t kt => XS.iload X5.here hx rfl (hb hby at_21) rfl kt) ?_
  refine own_go (g' := (mkF m 28 #[.val (.int p1), .val (.int p2), .val (.ref b1), .val (.ref b2), .val (.int y3), .unset] [])) (fun t kt => XS.icmpYes X5.here hx rfl (pc0 := 23) (pc' := 28) rfl (hb hby at_23) rfl (teq (hvA : (own_value (own_chr (own_at1 own_vA y3))) = y3)).1 (by decide) (by decide) kt) ?_
  refine own_go (g' := (mkF m 29 #[.val (.int p1), .val (.int p2), .val (.ref b1), .val (.ref b2), .val (.int y3), .unset] [(.ref b2)])) (fun t kt => XS.aloadN X5.here hx rfl (hb hby at_28) rfl rfl kt) ?_
  refine own_go (g' := (mkF m 31 #[.val (.int p1), .val (.int p2), .val (.ref b1), .val (.ref b2), .val (.int y3), .unset] [(.int y3), (.ref b2)])) (fun t kt => XS.iload X5.here hx rfl (hb hby at_29) rfl kt) ?_
  refine own_callV X5 hx hZ (W := 0) (argsL := [(.int y3)]) (rest := []) hown (hw _ (List.mem_of_getElem? (i := 9) rfl)) (hw _ (List.mem_of_getElem? (i := 10) rfl)) (hw _ (List.mem_of_getElem? (i := 12) rfl)) (hw _ (List.mem_of_getElem? (i := 11) rfl)) (hw _ (List.mem_of_getElem? (i := 1) rfl)) (hw _ (List.mem_of_getElem? (i := 13) rfl)) (by decide) (own_cha l Z a0 hw b2 d2 c2 own_vB y3 (own_at1 own_vB y3) cs sv hsv h2 n0 (Nat.le_trans Z0 K2.1) A2 G2 F2 V2 S_c_h2 S_f_h2 hcs ⟨hr_y3.1, hr_y3.2.1⟩ hgB_y3) A2 (by decide) (by decide) (g := (mkF m 31 #[.val (.int p1), .val (.int p2), .val (.ref b1), .val (.ref b2), .val (.int y3), .unset] [(.int y3), (.ref b2)])) rfl (by rw [hml]; rfl) (lenOf own_pd4 rfl) rfl (by show 2 * 0 + _ ≤ _; exact Nat.le_of_eq rfl) (hb hby at_31) e5 N5 (by decide) (by decide) (fun v6 T6 L6 X6 N6 hq6 => ?_)
  obtain ⟨rfl, e6⟩ := hq6
  show OEnds _ _ _ _ _ _ T6 (mkF m 34 #[.val (.int p1), .val (.int p2), .val (.ref b1), .val (.ref b2), .val (.int y3), .unset] [(.int (own_chr (own_at1 own_vB y3)))])
  refine own_callS X6 hx hZ (W := 0) (argsL := [(.int (own_chr (own_at1 own_vB y3)))]) (rest := []) hown (hw _ (List.mem_of_getElem? (i := 34) rfl)) (hw _ (List.mem_of_getElem? (i := 35) rfl)) (hw _ (List.mem_of_getElem? (i := 36) rfl)) (hw _ (List.mem_of_getElem? (i := 37) rfl)) (by decide) (own_val l Z a0 hw (own_chr (own_at1 own_vB y3)) h2 n0 (Nat.le_trans Z0 K2.1)) (by decide) (by decide) (g := (mkF m 34 #[.val (.int p1), .val (.int p2), .val (.ref b1), .val (.ref b2), .val (.int y3), .unset] [(.int (own_chr (own_at1 own_vB y3)))])) rfl (by rw [hml]; rfl) (lenOf own_pd5 rfl) rfl (by show 2 * 0 + _ ≤ _; exact Nat.le_of_eq rfl) (hb hby at_34) e6 N6 (by decide) (by decide) (fun v7 T7 L7 X7 N7 hq7 => ?_)
  obtain ⟨rfl, e7⟩ := hq7
  show OEnds _ _ _ _ _ _ T7 (mkF m 37 #[.val (.int p1), .val (.int p2), .val (.ref b1), .val (.ref b2), .val (.int y3), .unset] [(.int (own_value (own_chr (own_at1 own_vB y3))))])
  refine own_go (g' := (mkF m 39 #[.val (.int p1), .val (.int p2), .val (.ref b1), .val (.ref b2), .val (.int y3), .unset] [(.int y3), (.int (own_value (own_chr (own_at1 own_vB y3))))])) (fun t kt => XS.iload X7.here hx rfl (hb hby at_37) rfl kt) ?_
  refine own_go (g' := (mkF m 44 #[.val (.int p1), .val (.int p2), .val (.ref b1), .val (.ref b2), .val (.int y3), .unset] [])) (fun t kt => XS.icmpYes X7.here hx rfl (pc0 := 39) (pc' := 44) rfl (hb hby at_39) rfl (teq (hvB : (own_value (own_chr (own_at1 own_vB y3))) = y3)).1 (by decide) (by decide) kt) ?_
  refine own_go (g' := (mkF m 45 #[.val (.int p1), .val (.int p2), .val (.ref b1), .val (.ref b2), .val (.int y3), .unset] [(.int p1)])) (fun t kt => XS.iloadN X7.here hx rfl (hb hby at_44) rfl kt) ?_
  refine own_callS X7 hx hZ (W := 0) (argsL := [(.int p1)]) (rest := []) hown (hw _ (List.mem_of_getElem? (i := 34) rfl)) (hw _ (List.mem_of_getElem? (i := 35) rfl)) (hw _ (List.mem_of_getElem? (i := 36) rfl)) (hw _ (List.mem_of_getElem? (i := 37) rfl)) (by decide) (own_val l Z a0 hw p1 h2 n0 (Nat.le_trans Z0 K2.1)) (by decide) (by decide) (g := (mkF m 45 #[.val (.int p1), .val (.int p2), .val (.ref b1), .val (.ref b2), .val (.int y3), .unset] [(.int p1)])) rfl (by rw [hml]; rfl) (lenOf own_pd5 rfl) rfl (by show 2 * 0 + _ ≤ _; exact Nat.le_of_eq rfl) (hb hby at_45) e7 N7 (by decide) (by decide) (fun v8 T8 L8 X8 N8 hq8 => ?_)
  obtain ⟨rfl, e8⟩ := hq8
  show OEnds _ _ _ _ _ _ T8 (mkF m 48 #[.val (.int p1), .val (.int p2), .val (.ref b1), .val (.ref b2), .val (.int y3), .unset] [(.int (own_value p1))])
  refine own_go (g' := (mkF m 50 #[.val (.int p1), .val (.int p2), .val (.ref b1), .val (.ref b2), .val (.int y3), .val (.int (own_value p1))] [])) (fun t kt => XS.istore X8.here hx rfl (hb hby at_48) rfl (l' := #[.val (.int p1), .val (.int p2), .val (.ref b1), .val (.ref b2), .val (.int y3), .val (.int (own_value p1))]) rfl kt) ?_
  refine own_let (P := fun y9 => OEnds _ _ _ _ _ _ T8 (mkF m 50 #[.val (.int p1), .val (.int p2), .val (.ref b1), .val (.ref b2), .val (.int y3), .val (.int y9)] [])) (own_value p1) (fun y9 hv_y9 => ?_)
  refine own_go (g' := (mkF m 52 #[.val (.int p1), .val (.int p2), .val (.ref b1), .val (.ref b2), .val (.int y3), .val (.int y9)] [(.int y9)])) (fun t kt => XS.iload X8.here hx rfl (hb hby at_50) rfl kt) ?_
  refine own_go (g' := (mkF m 53 #[.val (.int p1), .val (.int p2), .val (.ref b1), .val (.ref b2), .val (.int y3), .val (.int y9)] [(.int (-1 : Int32)), (.int y9)])) (fun t kt => XS.iconst X8.here hx rfl (hb hby at_52) kt) ?_
  by_cases hc10 : y9 = (-1 : Int32)
  · refine own_go (g' := (mkF m 56 #[.val (.int p1), .val (.int p2), .val (.ref b1), .val (.ref b2), .val (.int y3), .val (.int y9)] [])) (fun t kt => XS.icmpNo X8.here hx rfl (hb hby at_53) rfl (teq hc10).2 kt) ?_
    refine own_go (g' := (mkF m 57 #[.val (.int p1), .val (.int p2), .val (.ref b1), .val (.ref b2), .val (.int y3), .val (.int y9)] [(.int (1 : Int32))])) (fun t kt => XS.iconst X8.here hx rfl (hb hby at_56) kt) ?_
    exact own_retNW X8 hx hlk hS hk (t := .boolean) (z' := (1 : Int32)) hret (by simp) (hb hby at_57) rfl e8 N8 (by decide) (by decide) (rfl)
  · refine own_go (g' := (mkF m 58 #[.val (.int p1), .val (.int p2), .val (.ref b1), .val (.ref b2), .val (.int y3), .val (.int y9)] [])) (fun t kt => XS.icmpYes X8.here hx rfl (pc0 := 53) (pc' := 58) rfl (hb hby at_53) rfl (feq hc10).2 (by decide) (by decide) kt) ?_
    have hne : ¬ own_value p1 = -1 := by rw [← hv_y9]; exact hc10
    obtain ⟨jj, hjj, hor⟩ := own_hit p1 hne
    rw [← hv_y9] at hjj
    rw [← hjj] at hor
    have hr_y9 := own_rngk jj
    rw [← hjj] at hr_y9
    have hgA_y9 := own_getA jj
    have hgB_y9 := own_getB jj
    rw [← hjj] at hgA_y9 hgB_y9
    refine own_go (g' := (mkF m 60 #[.val (.int p1), .val (.int p2), .val (.ref b1), .val (.ref b2), .val (.int y3), .val (.int y9)] [(.int y9)])) (fun t kt => XS.iload X8.here hx rfl (hb hby at_58) rfl kt) ?_
    refine own_go (g' := (mkF m 63 #[.val (.int p1), .val (.int p2), .val (.ref b1), .val (.ref b2), .val (.int y3), .val (.int y9)] [])) (fun t kt => XS.ifNo X8.here hx rfl (hb hby at_60) rfl ((if0 _ _).trans (flt (hr_y9.1 : ¬ (y9 < (0 : Int32)))).1) kt) ?_
    refine own_go (g' := (mkF m 65 #[.val (.int p1), .val (.int p2), .val (.ref b1), .val (.ref b2), .val (.int y3), .val (.int y9)] [(.int y9)])) (fun t kt => XS.iload X8.here hx rfl (hb hby at_63) rfl kt) ?_
    refine own_go (g' := (mkF m 67 #[.val (.int p1), .val (.int p2), .val (.ref b1), .val (.ref b2), .val (.int y3), .val (.int y9)] [(.int (15 : Int32)), (.int y9)])) (fun t kt => XS.bipush X8.here hx rfl (hb hby at_65) kt) ?_
    refine own_go (g' := (mkF m 72 #[.val (.int p1), .val (.int p2), .val (.ref b1), .val (.ref b2), .val (.int y3), .val (.int y9)] [])) (fun t kt => XS.icmpYes X8.here hx rfl (pc0 := 67) (pc' := 72) rfl (hb hby at_67) rfl (flt (hr_y9.2.2 : ¬ ((15 : Int32) < y9))).2.2.2 (by decide) (by decide) kt) ?_
    refine own_go (g' := (mkF m 73 #[.val (.int p1), .val (.int p2), .val (.ref b1), .val (.ref b2), .val (.int y3), .val (.int y9)] [(.int p1)])) (fun t kt => XS.iloadN X8.here hx rfl (hb hby at_72) rfl kt) ?_
    refine own_go (g' := (mkF m 74 #[.val (.int p1), .val (.int p2), .val (.ref b1), .val (.ref b2), .val (.int y3), .val (.int y9)] [(.ref b1), (.int p1)])) (fun t kt => XS.aloadN X8.here hx rfl (hb hby at_73) rfl rfl kt) ?_
    refine own_go (g' := (mkF m 76 #[.val (.int p1), .val (.int p2), .val (.ref b1), .val (.ref b2), .val (.int y3), .val (.int y9)] [(.int y9), (.ref b1), (.int p1)])) (fun t kt => XS.iload X8.here hx rfl (hb hby at_74) rfl kt) ?_
    refine own_callV X8 hx hZ (W := 1) (argsL := [(.int y9)]) (rest := [(.int p1)]) hown (hw _ (List.mem_of_getElem? (i := 9) rfl)) (hw _ (List.mem_of_getElem? (i := 10) rfl)) (hw _ (List.mem_of_getElem? (i := 12) rfl)) (hw _ (List.mem_of_getElem? (i := 11) rfl)) (hw _ (List.mem_of_getElem? (i := 1) rfl)) (hw _ (List.mem_of_getElem? (i := 13) rfl)) (by decide) (own_cha l Z a0 hw b1 d1 c1 own_vA y9 (own_at1 own_vA y9) cs sv hsv h2 n0 (Nat.le_trans Z0 K2.1) A1_h2 G1_h2 F1_h2 V1_h2 S_c_h2 S_f_h2 hcs ⟨hr_y9.1, hr_y9.2.1⟩ hgA_y9) A1_h2 (by decide) (by decide) (g := (mkF m 76 #[.val (.int p1), .val (.int p2), .val (.ref b1), .val (.ref b2), .val (.int y3), .val (.int y9)] [(.int y9), (.ref b1), (.int p1)])) rfl (by rw [hml]; rfl) (lenOf own_pd4 rfl) rfl (by show 2 * 0 + _ ≤ _; exact Nat.le_of_eq rfl) (hb hby at_76) e8 N8 (by decide) (by decide) (fun v11 T11 L11 X11 N11 hq11 => ?_)
    obtain ⟨rfl, e11⟩ := hq11
    show OEnds _ _ _ _ _ _ T11 (mkF m 79 #[.val (.int p1), .val (.int p2), .val (.ref b1), .val (.ref b2), .val (.int y3), .val (.int y9)] [(.int (own_chr (own_at1 own_vA y9))), (.int p1)])
    by_cases hc12 : p1 = (own_chr (own_at1 own_vA y9))
    · refine own_go (g' := (mkF m 92 #[.val (.int p1), .val (.int p2), .val (.ref b1), .val (.ref b2), .val (.int y3), .val (.int y9)] [])) (fun t kt => XS.icmpYes X11.here hx rfl (pc0 := 79) (pc' := 92) rfl (hb hby at_79) rfl (teq hc12).1 (by decide) (by decide) kt) ?_
      refine own_go (g' := (mkF m 93 #[.val (.int p1), .val (.int p2), .val (.ref b1), .val (.ref b2), .val (.int y3), .val (.int y9)] [(.int (1 : Int32))])) (fun t kt => XS.iconst X11.here hx rfl (hb hby at_92) kt) ?_
      refine own_go (g' := (mkF m 97 #[.val (.int p1), .val (.int p2), .val (.ref b1), .val (.ref b2), .val (.int y3), .val (.int y9)] [(.int (1 : Int32))])) (fun t kt => XS.goto X11.here hx rfl (pc0 := 93) (pc' := 97) rfl (hb hby at_93) (by decide) (by decide) kt) ?_
      exact own_retNW X11 hx hlk hS hk (t := .boolean) (z' := (1 : Int32)) hret (by simp) (hb hby at_97) rfl e11 N11 (by decide) (by decide) (rfl)
    · refine own_go (g' := (mkF m 82 #[.val (.int p1), .val (.int p2), .val (.ref b1), .val (.ref b2), .val (.int y3), .val (.int y9)] [])) (fun t kt => XS.icmpNo X11.here hx rfl (hb hby at_79) rfl (feq hc12).1 kt) ?_
      refine own_go (g' := (mkF m 83 #[.val (.int p1), .val (.int p2), .val (.ref b1), .val (.ref b2), .val (.int y3), .val (.int y9)] [(.int p1)])) (fun t kt => XS.iloadN X11.here hx rfl (hb hby at_82) rfl kt) ?_
      refine own_go (g' := (mkF m 84 #[.val (.int p1), .val (.int p2), .val (.ref b1), .val (.ref b2), .val (.int y3), .val (.int y9)] [(.ref b2), (.int p1)])) (fun t kt => XS.aloadN X11.here hx rfl (hb hby at_83) rfl rfl kt) ?_
      refine own_go (g' := (mkF m 86 #[.val (.int p1), .val (.int p2), .val (.ref b1), .val (.ref b2), .val (.int y3), .val (.int y9)] [(.int y9), (.ref b2), (.int p1)])) (fun t kt => XS.iload X11.here hx rfl (hb hby at_84) rfl kt) ?_
      refine own_callV X11 hx hZ (W := 1) (argsL := [(.int y9)]) (rest := [(.int p1)]) hown (hw _ (List.mem_of_getElem? (i := 9) rfl)) (hw _ (List.mem_of_getElem? (i := 10) rfl)) (hw _ (List.mem_of_getElem? (i := 12) rfl)) (hw _ (List.mem_of_getElem? (i := 11) rfl)) (hw _ (List.mem_of_getElem? (i := 1) rfl)) (hw _ (List.mem_of_getElem? (i := 13) rfl)) (by decide) (own_cha l Z a0 hw b2 d2 c2 own_vB y9 (own_at1 own_vB y9) cs sv hsv h2 n0 (Nat.le_trans Z0 K2.1) A2 G2 F2 V2 S_c_h2 S_f_h2 hcs ⟨hr_y9.1, hr_y9.2.1⟩ hgB_y9) A2 (by decide) (by decide) (g := (mkF m 86 #[.val (.int p1), .val (.int p2), .val (.ref b1), .val (.ref b2), .val (.int y3), .val (.int y9)] [(.int y9), (.ref b2), (.int p1)])) rfl (by rw [hml]; rfl) (lenOf own_pd4 rfl) rfl (by show 2 * 0 + _ ≤ _; exact Nat.le_of_eq rfl) (hb hby at_86) e11 N11 (by decide) (by decide) (fun v13 T13 L13 X13 N13 hq13 => ?_)
      obtain ⟨rfl, e13⟩ := hq13
      show OEnds _ _ _ _ _ _ T13 (mkF m 89 #[.val (.int p1), .val (.int p2), .val (.ref b1), .val (.ref b2), .val (.int y3), .val (.int y9)] [(.int (own_chr (own_at1 own_vB y9))), (.int p1)])
      refine own_go (g' := (mkF m 92 #[.val (.int p1), .val (.int p2), .val (.ref b1), .val (.ref b2), .val (.int y3), .val (.int y9)] [])) (fun t kt => XS.icmpNo X13.here hx rfl (hb hby at_89) rfl (teq ((hor.resolve_left hc12) : p1 = (own_chr (own_at1 own_vB y9)))).2 kt) ?_
      refine own_go (g' := (mkF m 93 #[.val (.int p1), .val (.int p2), .val (.ref b1), .val (.ref b2), .val (.int y3), .val (.int y9)] [(.int (1 : Int32))])) (fun t kt => XS.iconst X13.here hx rfl (hb hby at_92) kt) ?_
      refine own_go (g' := (mkF m 97 #[.val (.int p1), .val (.int p2), .val (.ref b1), .val (.ref b2), .val (.int y3), .val (.int y9)] [(.int (1 : Int32))])) (fun t kt => XS.goto X13.here hx rfl (pc0 := 93) (pc' := 97) rfl (hb hby at_93) (by decide) (by decide) kt) ?_
      exact own_retNW X13 hx hlk hS hk (t := .boolean) (z' := (1 : Int32)) hret (by simp) (hb hby at_97) rfl e13 N13 (by decide) (by decide) (rfl)
theorem own_cs0 {args : Array Value} {s : State} (e : (Term.static "java/lang/String" "COMPACT_STRINGS" "Z").eval args s none [] s = some (.int 0)) (h : Jvm.Lit.compactW.before args s = true) : False := by
  have q : (Jvm.Cond.eq (Term.static "java/lang/String" "COMPACT_STRINGS" "Z") (Term.int 0)).value args s none s [] = some true := eq_i e (Term.int_eval 0) rfl
  have h2 := Cond.before_iff.mp h
  simp only [Jvm.Lit.compactW, Cond.value] at h2
  simp only [Cond.value] at q
  rw [q] at h2
  simp at h2
theorem own_refv {t : Term} {args : Array Value} {s : State} (h : (Jvm.Cond.isRef t).value args s none s [] = some true) : ∃ v, t.eval args s none [] s = some v ∧ v.isRef = true := by
  simp only [Cond.value] at h
  cases q : t.eval args s none [] s with
  | none => rw [q] at h; simp at h
  | some v => exact ⟨v, rfl, by rw [q] at h; cases v <;> simp_all [Value.isRef]⟩
set_option maxRecDepth 65536 in
set_option maxHeartbeats 40000000 in
theorem comes_1 {Post : Tables → Env → Array Value → State → Outcome → State → Prop} (hpost : ∀ tb e args s v u, (limb_1_1.after args s (.returned v) u = true ∧ limb_1_2.after args s (.returned v) u = true ∧ True) → ReturnedEndW s (.returned v) u (Jvm.fieldLocs frame_1_writes args s ++ Jvm.arrayLocs frame_1_arrays args s ++ Jvm.staticLocs frame_1_statics s) 8 2112 → Post tb e args s (.returned v) u) :
    ArmFor flags0 classFile x code maxLocals ret World_1 tables_1 room_1 Calls_1 rest_1 Pre_1 Post := by
  intro l hfl _ _ p e ha hc hk s m args below hf hA hF happ hP
  obtain ⟨hcalls, hrest, hpre⟩ := hP
  obtain ⟨-, -, -, hnamed, -, -, -, hat⟩ := (Spec.applies_iff hf).mp happ
  obtain ⟨hg, hn⟩ := and_e (Cond.before_iff.mp (show (Jvm.Cond.and given_1 narrow_1).before args s = true from hpre))
  obtain ⟨g0, r0⟩ := and_e hg
  obtain ⟨k0, k1⟩ := and_e r0
  obtain ⟨w0, w1, rfl⟩ : ∃ w0 w1 : Value, args = #[w0, w1] := by
    have hs : args.size = 2 := by simpa [Cond.value, given_1] using g0
    obtain ⟨L⟩ := args
    match L, hs with
    | [w0, w1], _ => exact ⟨w0, w1, rfl⟩
  have hw := fun d (hd : d ∈ tables_1) => atoms_spec (ws := Jvm.Cond.code x code maxLocals ret :: tables_1) hat d (List.mem_cons_of_mem _ hd)
  have hfit : Fit s := fun {y c} hc i hi => by
    obtain ⟨ha, rfl⟩ := Array.getElem?_eq_some_iff.mp hc
    have q := List.all_eq_true.mp ((Array.all_eq_true_iff_forall_mem.mp hF) _ (Array.getElem_mem ha)) i (List.mem_range.mpr hi)
    simpa [Array.getElem?_eq_getElem hi] using q
  obtain ⟨hsets, hown0⟩ := atoms_of _ (rest_1_c_eq ▸ (show rest_1_c.before _ s = true from hrest))
  have hr0 := Cond.before_iff.mp hown0
  obtain ⟨i0, ei0⟩ := is_v k0
  obtain rfl : w0 = (.int i0) := Option.some.inj ei0
  obtain ⟨i1, ei1⟩ := is_v k1
  obtain rfl : w1 = (.int i1) := Option.some.inj ei1
  have hwS : ∀ a ∈ Bundle.stringAtoms, a.before _ s = true := fun d hd => by
    simp only [Bundle.stringAtoms, List.mem_cons, List.not_mem_nil, or_false] at hd
    rcases hd with rfl | rfl | rfl | rfl | rfl | rfl | rfl
    · exact (hw _ (List.mem_of_getElem? (i := 1) rfl))
    · exact (hw _ (List.mem_of_getElem? (i := 2) rfl))
    · exact (hw _ (List.mem_of_getElem? (i := 3) rfl))
    · exact (hw _ (List.mem_of_getElem? (i := 4) rfl))
    · exact (hw _ (List.mem_of_getElem? (i := 5) rfl))
    · exact (hw _ (List.mem_of_getElem? (i := 6) rfl))
    · exact (hw _ (List.mem_of_getElem? (i := 7) rfl))
  obtain ⟨cs, ecs⟩ := is_v (Cond.before_iff.mp (hsets _ (List.mem_of_getElem? (i := 1) rfl)))
  have S_c := Sta.start ecs (Or.inl (hsets _ (List.mem_of_getElem? (i := 0) rfl)))
  have hcw : Jvm.Lit.compactW.before _ s = true := (hsets _ (List.mem_of_getElem? (i := 2) rfl))
  have hcs : ¬ cs = 0 := fun q => by
    subst q
    exact own_cs0 ecs hcw
  obtain ⟨sv, esv, hsv⟩ := own_refv (Cond.before_iff.mp (hsets _ (List.mem_of_getElem? (i := 8) rfl)))
  have S_f := Sta.start esv (Or.inl (hsets _ (List.mem_of_getElem? (i := 7) rfl)))
  obtain ⟨n, o, h1, h2, h3, _, L, rfl, ⟨N, rfl⟩, hq⟩ := own_law l s _ hw i0 i1 cs sv hsv s.heap rfl s.heap.size rfl (Nat.le_refl _) S_c S_f hcs hwS hcw (hcalls.1 _ (List.mem_of_getElem? (i := 0) rfl)) (hcalls.1 _ (List.mem_of_getElem? (i := 1) rfl)) tables_1 p e ha hc hk s m _ below hf ((Spec.applies_iff_loose hf).mp happ).1 ⟨rfl, rfl⟩ trivial
  refine ⟨n, _, h1, h2, h3, hpost _ _ _ _ _ _ ⟨Cond.after_iff.mpr rfl, Cond.after_iff.mpr (eq_i res_at (Term.int_eval (1)) rfl), trivial⟩ ⟨hq.1, hq.2.1, hq.2.2.1, (hq.2.2.2.sift fun y hy => Or.inr (N y hy)).mono (by decide) (by decide)⟩⟩
theorem main_1_1 : Claimed_1_1 := comes_1 fun _ _ _ _ _ _ h hF => ⟨h.1, hF⟩
theorem main_1_2 : Claimed_1_2 := comes_1 fun _ _ _ _ _ _ h hF => ⟨h.2.1, hF⟩
end Jvm.Pilot.@@N@@
namespace Jvm.Pilot.@@N@@
open Jvm Jvm.ClassFile Sem Op Lib Jvm.Free Jvm.Stand Jvm.Pilot.@@N@@.Jvm.D
/-! MADE BY PROGRAM (witnessworld.py) out of the Statement's table words and the real class files: 17 classes; the members and pool entries that the words name. The judged class is class 1, her method 1. -/
namespace start1
open Jvm.ClassFile
def u (s : String) : CpInfo := .utf8 (stringToUtf16 s)
/-- a pool by its gaps: so many unusable entries, then the entry; so many at the end -/
def gap : Nat → List CpInfo → List CpInfo
  | 0, r => r
  | n + 1, r => .unusable :: gap n r
def poolList (es : List (Nat × CpInfo)) (last : Nat) : List CpInfo := es.foldr (fun e r => gap e.1 (e.2 :: r)) (gap last [])
def pool (es : List (Nat × CpInfo)) (last : Nat) : Array CpInfo := ⟨poolList es last⟩
def fileOf (pool : Array CpInfo) (this : Nat) (attrs : Array Attribute := #[]) (ms : Array MethodInfo := #[]) (fl : Nat := 33) (sup : Nat := 0) (ifs : Array Nat := #[]) (fds : Array FieldInfo := #[]) : ClassFile where
  minorVersion := 0
  majorVersion := 65
  constantPool := pool
  accessFlags := fl
  thisClass := this
  superClass := sup
  interfaces := ifs
  fields := fds
  methods := ms
  attributes := attrs
def plain (name : String) (sup : Option ClassId) : Class where
  name := name
  kind := .ordinary
  loader := none
  accessFlags := 33
  super := sup
  interfaces := #[]
  cf := none
  fields := #[]
  methods := #[]
  instanceTypes := #[]
  staticTypes := #[]
  resolved := #[]
  callSites := []
  init := .initialized
  statics := none
  mirror := none

def pool0 : Array CpInfo := pool [(5, u "<init>"), (0, u "()V"), (1, .class_ 10), (1, u "java/lang/Object")] 113

def k0m0 : Method := { name := "<init>", desc := "()V", sig := { parameters := [], returnType := none }, accessFlags := 1, code := none }
/-- java/lang/Object -/
def k0 : Class := { plain "java/lang/Object" none with
  accessFlags := 33
  interfaces := #[]
  cf := some (fileOf pool0 8 #[] #[{ accessFlags := 1, nameIndex := 5, descriptorIndex := 6, attributes := #[] }] 33 0 #[] #[])
  fields := #[]
  methods := #[k0m0]
  instanceTypes := #[]
  staticTypes := #[]
  resolved := Array.replicate 124 none
  statics := none }

def pool1 : Array CpInfo := pool [(2, .class_ 4), (1, u "java/lang/Object"), (0, u "<init>"), (0, u "()V"), (0, .string 8), (0, u "0123456789abcdef"), (0, .string 10), (0, u "0123456789ABCDEF"), (0, .methodref 12 13), (0, .class_ 14), (0, .nameAndType 15 16), (0, u "java/lang/String"), (0, u "charAt"), (0, u "(I)C"), (0, .methodref 18 19), (0, .class_ 20), (0, .nameAndType 21 22), (0, u "com/example/uniform_shape/uniformshape/HexDigits"), (0, u "value"), (0, u "(I)I"), (0, .class_ 24), (0, u "com/example/uniform_shape/uniformshape/HexDigitsValuePinLaw"), (2, u "law"), (0, u "(II)Z")] 3

def k1m0 : Method := { name := "<init>", desc := "()V", sig := { parameters := [], returnType := none }, accessFlags := 2, code := none }
def k1c1 : Code := { maxStack := 3, maxLocals := 6, code := code, exceptionTable := #[], attributes := #[] }
def k1m1 : Method := { name := "law", desc := "(II)Z", sig := { parameters := [.int, .int], returnType := some .boolean }, accessFlags := 9, code := some k1c1 }
/-- com/example/uniform_shape/uniformshape/HexDigitsValuePinLaw -/
def k1 : Class := { plain "com/example/uniform_shape/uniformshape/HexDigitsValuePinLaw" (some 0) with
  accessFlags := 49
  interfaces := #[]
  cf := some (fileOf pool1 23 #[] #[{ accessFlags := 2, nameIndex := 5, descriptorIndex := 6, attributes := #[] }, { accessFlags := 9, nameIndex := 27, descriptorIndex := 28, attributes := #[] }] 49 2 #[] #[])
  fields := #[]
  methods := #[k1m0, k1m1]
  instanceTypes := #[]
  staticTypes := #[]
  resolved := Array.replicate 32 none
  statics := none }

def pool2 : Array CpInfo := pool [(1, .class_ 2), (0, u "java/io/Serializable"), (0, .class_ 4), (0, u "java/lang/Object")] 2

/-- java/io/Serializable -/
def k2 : Class := { plain "java/io/Serializable" (some 0) with
  accessFlags := 1537
  interfaces := #[]
  cf := some (fileOf pool2 1 #[] #[] 1537 3 #[] #[])
  fields := #[]
  methods := #[]
  instanceTypes := #[]
  staticTypes := #[]
  resolved := Array.replicate 7 none
  statics := none }

def pool3 : Array CpInfo := pool [(1, .class_ 2), (0, u "java/lang/Comparable"), (0, .class_ 4), (0, u "java/lang/Object")] 7

/-- java/lang/Comparable -/
def k3 : Class := { plain "java/lang/Comparable" (some 0) with
  accessFlags := 1537
  interfaces := #[]
  cf := some (fileOf pool3 1 #[] #[] 1537 3 #[] #[])
  fields := #[]
  methods := #[]
  instanceTypes := #[]
  staticTypes := #[]
  resolved := Array.replicate 12 none
  statics := none }

def pool4 : Array CpInfo := pool [(2, .class_ 4), (1, u "java/lang/CharSequence"), (42, .class_ 48), (0, u "java/lang/CharSequence$1CodePointIterator"), (10, .class_ 60), (0, u "java/lang/CharSequence$1CharIterator"), (5, .class_ 67), (0, u "java/lang/Object")] 63

/-- java/lang/CharSequence -/
def k4 : Class := { plain "java/lang/CharSequence" (some 0) with
  accessFlags := 1537
  interfaces := #[]
  cf := some (fileOf pool4 2 #[.nestMembers #[47, 59]] #[] 1537 66 #[] #[])
  fields := #[]
  methods := #[]
  instanceTypes := #[]
  staticTypes := #[]
  resolved := Array.replicate 131 none
  statics := none }

def pool5 : Array CpInfo := pool [(1, .class_ 2), (0, u "java/lang/constant/Constable"), (0, .class_ 4), (0, u "java/lang/Object")] 6

/-- java/lang/constant/Constable -/
def k5 : Class := { plain "java/lang/constant/Constable" (some 0) with
  accessFlags := 1537
  interfaces := #[]
  cf := some (fileOf pool5 1 #[] #[] 1537 3 #[] #[])
  fields := #[]
  methods := #[]
  instanceTypes := #[]
  staticTypes := #[]
  resolved := Array.replicate 11 none
  statics := none }

def pool6 : Array CpInfo := pool [(1, .class_ 2), (0, u "java/lang/constant/ConstantDesc"), (0, .class_ 4), (0, u "java/lang/Object")] 32

/-- java/lang/constant/ConstantDesc -/
def k6 : Class := { plain "java/lang/constant/ConstantDesc" (some 0) with
  accessFlags := 1537
  interfaces := #[]
  cf := some (fileOf pool6 1 #[] #[] 1537 3 #[] #[])
  fields := #[]
  methods := #[]
  instanceTypes := #[]
  staticTypes := #[]
  resolved := Array.replicate 37 none
  statics := none }

def pool7 : Array CpInfo := pool [(2, .class_ 4), (1, u "java/lang/Object"), (0, u "<init>"), (0, u "()V"), (2, .fieldref 10 11), (0, .class_ 12), (0, .nameAndType 13 14), (0, u "java/lang/String"), (0, u "value"), (0, u "[B"), (0, .fieldref 10 16), (0, .nameAndType 17 18), (0, u "coder"), (0, u "B"), (2, u "hash"), (0, u "I"), (2, u "hashIsZero"), (0, u "Z"), (11, .fieldref 10 39), (0, .nameAndType 40 26), (0, u "COMPACT_STRINGS"), (66, .class_ 109), (1, u "java/lang/StringLatin1"), (32, u "()Z"), (220, u "([BI)C"), (27, u "(II)V"), (35, u "(I)C"), (64, .methodref 10 493), (0, .nameAndType 494 142), (0, u "isLatin1"), (0, .methodref 107 496), (0, .nameAndType 497 363), (0, u "charAt"), (3, u "checkIndex"), (73, .class_ 576), (0, u "java/lang/CharSequence"), (22, u "CASE_INSENSITIVE_ORDER"), (0, u "Ljava/util/Comparator;"), (452, .fieldref 1054 1055), (0, .class_ 1056), (0, .nameAndType 1057 1058), (0, u "jdk/internal/util/Preconditions"), (0, u "SIOOBE_FORMATTER"), (0, u "Ljava/util/function/BiFunction;"), (0, .methodref 1054 1060), (0, .nameAndType 501 1061), (0, u "(IILjava/util/function/BiFunction;)I"), (39, u "serialPersistentFields"), (0, u "[Ljava/io/ObjectStreamField;"), (0, .class_ 1104), (0, u "java/lang/String$CaseInsensitiveComparator"), (1, .class_ 1107), (0, u "java/io/Serializable"), (0, .class_ 1109), (0, u "java/lang/Comparable"), (0, .class_ 1111), (0, u "java/lang/constant/Constable"), (0, .class_ 1113), (0, u "java/lang/constant/ConstantDesc"), (2, u "serialVersionUID"), (0, u "J"), (3, u "REPL"), (0, u "C"), (2, u "LATIN1"), (1, u "UTF16")] 323

def k7m0 : Method := { name := "<init>", desc := "()V", sig := { parameters := [], returnType := none }, accessFlags := 1, code := none }
def k7c1 : Code := { maxStack := 2, maxLocals := 2, code := jdk_42_method_56_code, exceptionTable := #[], attributes := #[] }
def k7m1 : Method := { name := "charAt", desc := "(I)C", sig := { parameters := [.int], returnType := some .char }, accessFlags := 1, code := some k7c1 }
def k7c2 : Code := { maxStack := 1, maxLocals := 1, code := jdk_42_method_154_code, exceptionTable := #[], attributes := #[] }
def k7m2 : Method := { name := "isLatin1", desc := "()Z", sig := { parameters := [], returnType := some .boolean }, accessFlags := 0, code := some k7c2 }
def k7c3 : Code := { maxStack := 3, maxLocals := 2, code := jdk_42_method_155_code, exceptionTable := #[], attributes := #[] }
def k7m3 : Method := { name := "checkIndex", desc := "(II)V", sig := { parameters := [.int, .int], returnType := none }, accessFlags := 8, code := some k7c3 }
/-- java/lang/String -/
def k7 : Class := { plain "java/lang/String" (some 0) with
  accessFlags := 49
  interfaces := #[2, 3, 4, 5, 6]
  cf := some (fileOf pool7 10 #[.nestMembers #[1103]] #[{ accessFlags := 1, nameIndex := 5, descriptorIndex := 6, attributes := #[] }, { accessFlags := 1, nameIndex := 497, descriptorIndex := 427, attributes := #[] }, { accessFlags := 0, nameIndex := 494, descriptorIndex := 142, attributes := #[] }, { accessFlags := 8, nameIndex := 501, descriptorIndex := 391, attributes := #[] }] 49 2 #[1106, 1108, 575, 1110, 1112] #[{ accessFlags := 18, nameIndex := 13, descriptorIndex := 14, attributes := #[] }, { accessFlags := 18, nameIndex := 17, descriptorIndex := 18, attributes := #[] }, { accessFlags := 2, nameIndex := 21, descriptorIndex := 22, attributes := #[] }, { accessFlags := 2, nameIndex := 25, descriptorIndex := 26, attributes := #[] }, { accessFlags := 26, nameIndex := 1116, descriptorIndex := 1117, attributes := #[] }, { accessFlags := 24, nameIndex := 40, descriptorIndex := 26, attributes := #[] }, { accessFlags := 26, nameIndex := 1101, descriptorIndex := 1102, attributes := #[] }, { accessFlags := 26, nameIndex := 1121, descriptorIndex := 1122, attributes := #[] }, { accessFlags := 25, nameIndex := 599, descriptorIndex := 600, attributes := #[] }, { accessFlags := 24, nameIndex := 1125, descriptorIndex := 18, attributes := #[] }, { accessFlags := 24, nameIndex := 1127, descriptorIndex := 18, attributes := #[] }])
  fields := #[{ name := "value", type := (.array .byte), accessFlags := 18, slot := 0, constantValue := 0 }, { name := "coder", type := .byte, accessFlags := 18, slot := 1, constantValue := 0 }, { name := "hash", type := .int, accessFlags := 2, slot := 2, constantValue := 0 }, { name := "hashIsZero", type := .boolean, accessFlags := 2, slot := 3, constantValue := 0 }, { name := "serialVersionUID", type := .long, accessFlags := 26, slot := 0, constantValue := 0 }, { name := "COMPACT_STRINGS", type := .boolean, accessFlags := 24, slot := 1, constantValue := 0 }, { name := "serialPersistentFields", type := (.array (.object "java/io/ObjectStreamField")), accessFlags := 26, slot := 2, constantValue := 0 }, { name := "REPL", type := .char, accessFlags := 26, slot := 3, constantValue := 0 }, { name := "CASE_INSENSITIVE_ORDER", type := (.object "java/util/Comparator"), accessFlags := 25, slot := 4, constantValue := 0 }, { name := "LATIN1", type := .byte, accessFlags := 24, slot := 5, constantValue := 0 }, { name := "UTF16", type := .byte, accessFlags := 24, slot := 6, constantValue := 0 }]
  methods := #[k7m0, k7m1, k7m2, k7m3]
  instanceTypes := #[(.array .byte), .byte, .int, .boolean]
  staticTypes := #[.long, .boolean, (.array (.object "java/io/ObjectStreamField")), .char, (.object "java/util/Comparator"), .byte, .byte]
  resolved := Array.replicate 1451 none
  statics := some 0 }

def pool8 : Array CpInfo := pool [(1, .class_ 2), (0, u "java/lang/String"), (1, .class_ 6), (1, u "java/lang/Object"), (0, u "<init>"), (0, u "()V"), (0, .methodref 1 10), (0, .nameAndType 11 12), (0, u "checkIndex"), (0, u "(II)V"), (1, .class_ 16), (1, u "java/lang/StringLatin1"), (36, u "([BI)C"), (67, u "$assertionsDisabled"), (0, u "Z"), (98, .class_ 223), (1, u "java/lang/StringLatin1$LinesSpliterator"), (28, u "charAt"), (137, .class_ 391), (0, u "java/lang/StringLatin1$CharsSpliterator")] 3

def k8m0 : Method := { name := "<init>", desc := "()V", sig := { parameters := [], returnType := none }, accessFlags := 0, code := none }
def k8c1 : Code := { maxStack := 2, maxLocals := 2, code := jdk_43_method_2_code, exceptionTable := #[], attributes := #[] }
def k8m1 : Method := { name := "charAt", desc := "([BI)C", sig := { parameters := [(.array .byte), .int], returnType := some .char }, accessFlags := 9, code := some k8c1 }
/-- java/lang/StringLatin1 -/
def k8 : Class := { plain "java/lang/StringLatin1" (some 0) with
  accessFlags := 48
  interfaces := #[]
  cf := some (fileOf pool8 14 #[.nestMembers #[390, 221]] #[{ accessFlags := 0, nameIndex := 7, descriptorIndex := 8, attributes := #[] }, { accessFlags := 9, nameIndex := 252, descriptorIndex := 53, attributes := #[] }] 48 4 #[] #[{ accessFlags := 4120, nameIndex := 121, descriptorIndex := 122, attributes := #[] }])
  fields := #[{ name := "$assertionsDisabled", type := .boolean, accessFlags := 4120, slot := 0, constantValue := 0 }]
  methods := #[k8m0, k8m1]
  instanceTypes := #[]
  staticTypes := #[.boolean]
  resolved := Array.replicate 395 none
  statics := none }

def pool9 : Array CpInfo := pool [(2, .class_ 4), (1, u "java/lang/Object"), (0, u "<init>"), (0, u "()V"), (17, .class_ 26), (1, u "jdk/internal/util/Preconditions"), (6, u "checkIndex"), (21, .class_ 56), (0, u "jdk/internal/util/Preconditions$4"), (57, .class_ 115), (0, u "jdk/internal/util/Preconditions$1"), (7, u "SIOOBE_FORMATTER"), (0, u "Ljava/util/function/BiFunction;"), (0, .class_ 126), (0, u "jdk/internal/util/Preconditions$2"), (3, u "AIOOBE_FORMATTER"), (0, .class_ 132), (0, u "jdk/internal/util/Preconditions$3"), (3, u "IOOBE_FORMATTER"), (41, u "(IILjava/util/function/BiFunction;)I")] 15

def k9m0 : Method := { name := "<init>", desc := "()V", sig := { parameters := [], returnType := none }, accessFlags := 1, code := none }
def k9c1 : Code := { maxStack := 3, maxLocals := 3, code := jdk_41_method_11_code, exceptionTable := #[], attributes := #[] }
def k9m1 : Method := { name := "checkIndex", desc := "(IILjava/util/function/BiFunction;)I", sig := { parameters := [.int, .int, (.object "java/util/function/BiFunction")], returnType := some .int }, accessFlags := 9, code := some k9c1 }
/-- jdk/internal/util/Preconditions -/
def k9 : Class := { plain "jdk/internal/util/Preconditions" (some 0) with
  accessFlags := 33
  interfaces := #[]
  cf := some (fileOf pool9 24 #[.nestMembers #[55, 131, 125, 114]] #[{ accessFlags := 1, nameIndex := 5, descriptorIndex := 6, attributes := #[] }, { accessFlags := 9, nameIndex := 33, descriptorIndex := 178, attributes := #[] }] 33 2 #[] #[{ accessFlags := 25, nameIndex := 123, descriptorIndex := 124, attributes := #[] }, { accessFlags := 25, nameIndex := 130, descriptorIndex := 124, attributes := #[] }, { accessFlags := 25, nameIndex := 136, descriptorIndex := 124, attributes := #[] }])
  fields := #[{ name := "SIOOBE_FORMATTER", type := (.object "java/util/function/BiFunction"), accessFlags := 25, slot := 0, constantValue := 0 }, { name := "AIOOBE_FORMATTER", type := (.object "java/util/function/BiFunction"), accessFlags := 25, slot := 1, constantValue := 0 }, { name := "IOOBE_FORMATTER", type := (.object "java/util/function/BiFunction"), accessFlags := 25, slot := 2, constantValue := 0 }]
  methods := #[k9m0, k9m1]
  instanceTypes := #[]
  staticTypes := #[(.object "java/util/function/BiFunction"), (.object "java/util/function/BiFunction"), (.object "java/util/function/BiFunction")]
  resolved := Array.replicate 194 none
  statics := some 1 }

def pool10 : Array CpInfo := pool [(2, .class_ 4), (1, u "java/lang/Object"), (0, u "<init>"), (0, u "()V"), (0, .class_ 8), (0, u "com/example/uniform_shape/uniformshape/HexDigits"), (2, u "value"), (0, u "(I)I")] 3

def k10m0 : Method := { name := "<init>", desc := "()V", sig := { parameters := [], returnType := none }, accessFlags := 2, code := none }
def k10c1 : Code := { maxStack := 2, maxLocals := 1, code := prog_7_method_2_code, exceptionTable := #[], attributes := #[] }
def k10m1 : Method := { name := "value", desc := "(I)I", sig := { parameters := [.int], returnType := some .int }, accessFlags := 8, code := some k10c1 }
/-- com/example/uniform_shape/uniformshape/HexDigits -/
def k10 : Class := { plain "com/example/uniform_shape/uniformshape/HexDigits" (some 0) with
  accessFlags := 32
  interfaces := #[]
  cf := some (fileOf pool10 7 #[] #[{ accessFlags := 2, nameIndex := 5, descriptorIndex := 6, attributes := #[] }, { accessFlags := 8, nameIndex := 11, descriptorIndex := 12, attributes := #[] }] 32 2 #[] #[])
  fields := #[]
  methods := #[k10m0, k10m1]
  instanceTypes := #[]
  staticTypes := #[]
  resolved := Array.replicate 16 none
  statics := none }

def pool11 : Array CpInfo := pool [(9, u "<init>"), (6, .class_ 18), (1, u "java/lang/Object"), (0, u "()V"), (1, .class_ 23), (1, u "jdk/internal/util/ArraysSupport"), (0, u "LOG2_ARRAY_LONG_INDEX_SCALE"), (0, u "I"), (2, u "U"), (0, u "Ljdk/internal/misc/Unsafe;"), (8, u "BIG_ENDIAN"), (0, u "Z"), (8, u "LOG2_BYTE_BIT_SIZE"), (4, u "LOG2_ARRAY_INT_INDEX_SCALE"), (54, u "JLA"), (0, u "Ljdk/internal/access/JavaLangAccess;"), (11, u "LOG2_ARRAY_BOOLEAN_INDEX_SCALE"), (9, u "LOG2_ARRAY_BYTE_INDEX_SCALE"), (5, u "LOG2_ARRAY_CHAR_INDEX_SCALE"), (5, u "LOG2_ARRAY_SHORT_INDEX_SCALE"), (18, u "LOG2_ARRAY_FLOAT_INDEX_SCALE"), (24, u "LOG2_ARRAY_DOUBLE_INDEX_SCALE"), (89, u "T_BOOLEAN"), (2, u "T_CHAR"), (1, u "T_FLOAT"), (1, u "T_DOUBLE"), (1, u "T_BYTE"), (1, u "T_SHORT"), (1, u "T_INT"), (1, u "T_LONG"), (1, u "SOFT_MAX_ARRAY_LENGTH")] 83

def k11m0 : Method := { name := "<init>", desc := "()V", sig := { parameters := [], returnType := none }, accessFlags := 2, code := none }
/-- jdk/internal/util/ArraysSupport -/
def k11 : Class := { plain "jdk/internal/util/ArraysSupport" (some 0) with
  accessFlags := 33
  interfaces := #[]
  cf := some (fileOf pool11 21 #[] #[{ accessFlags := 2, nameIndex := 9, descriptorIndex := 19, attributes := #[] }] 33 16 #[] #[{ accessFlags := 24, nameIndex := 28, descriptorIndex := 29, attributes := #[] }, { accessFlags := 26, nameIndex := 38, descriptorIndex := 39, attributes := #[] }, { accessFlags := 25, nameIndex := 121, descriptorIndex := 25, attributes := #[] }, { accessFlags := 25, nameIndex := 131, descriptorIndex := 25, attributes := #[] }, { accessFlags := 25, nameIndex := 137, descriptorIndex := 25, attributes := #[] }, { accessFlags := 25, nameIndex := 143, descriptorIndex := 25, attributes := #[] }, { accessFlags := 25, nameIndex := 53, descriptorIndex := 25, attributes := #[] }, { accessFlags := 25, nameIndex := 24, descriptorIndex := 25, attributes := #[] }, { accessFlags := 25, nameIndex := 162, descriptorIndex := 25, attributes := #[] }, { accessFlags := 25, nameIndex := 187, descriptorIndex := 25, attributes := #[] }, { accessFlags := 26, nameIndex := 48, descriptorIndex := 25, attributes := #[] }, { accessFlags := 25, nameIndex := 277, descriptorIndex := 25, attributes := #[] }, { accessFlags := 25, nameIndex := 280, descriptorIndex := 25, attributes := #[] }, { accessFlags := 25, nameIndex := 282, descriptorIndex := 25, attributes := #[] }, { accessFlags := 25, nameIndex := 284, descriptorIndex := 25, attributes := #[] }, { accessFlags := 25, nameIndex := 286, descriptorIndex := 25, attributes := #[] }, { accessFlags := 25, nameIndex := 288, descriptorIndex := 25, attributes := #[] }, { accessFlags := 25, nameIndex := 290, descriptorIndex := 25, attributes := #[] }, { accessFlags := 25, nameIndex := 292, descriptorIndex := 25, attributes := #[] }, { accessFlags := 26, nameIndex := 108, descriptorIndex := 109, attributes := #[] }, { accessFlags := 25, nameIndex := 294, descriptorIndex := 25, attributes := #[] }])
  fields := #[{ name := "U", type := (.object "jdk/internal/misc/Unsafe"), accessFlags := 24, slot := 0, constantValue := 0 }, { name := "BIG_ENDIAN", type := .boolean, accessFlags := 26, slot := 1, constantValue := 0 }, { name := "LOG2_ARRAY_BOOLEAN_INDEX_SCALE", type := .int, accessFlags := 25, slot := 2, constantValue := 0 }, { name := "LOG2_ARRAY_BYTE_INDEX_SCALE", type := .int, accessFlags := 25, slot := 3, constantValue := 0 }, { name := "LOG2_ARRAY_CHAR_INDEX_SCALE", type := .int, accessFlags := 25, slot := 4, constantValue := 0 }, { name := "LOG2_ARRAY_SHORT_INDEX_SCALE", type := .int, accessFlags := 25, slot := 5, constantValue := 0 }, { name := "LOG2_ARRAY_INT_INDEX_SCALE", type := .int, accessFlags := 25, slot := 6, constantValue := 0 }, { name := "LOG2_ARRAY_LONG_INDEX_SCALE", type := .int, accessFlags := 25, slot := 7, constantValue := 0 }, { name := "LOG2_ARRAY_FLOAT_INDEX_SCALE", type := .int, accessFlags := 25, slot := 8, constantValue := 0 }, { name := "LOG2_ARRAY_DOUBLE_INDEX_SCALE", type := .int, accessFlags := 25, slot := 9, constantValue := 0 }, { name := "LOG2_BYTE_BIT_SIZE", type := .int, accessFlags := 26, slot := 10, constantValue := 0 }, { name := "T_BOOLEAN", type := .int, accessFlags := 25, slot := 11, constantValue := 0 }, { name := "T_CHAR", type := .int, accessFlags := 25, slot := 12, constantValue := 0 }, { name := "T_FLOAT", type := .int, accessFlags := 25, slot := 13, constantValue := 0 }, { name := "T_DOUBLE", type := .int, accessFlags := 25, slot := 14, constantValue := 0 }, { name := "T_BYTE", type := .int, accessFlags := 25, slot := 15, constantValue := 0 }, { name := "T_SHORT", type := .int, accessFlags := 25, slot := 16, constantValue := 0 }, { name := "T_INT", type := .int, accessFlags := 25, slot := 17, constantValue := 0 }, { name := "T_LONG", type := .int, accessFlags := 25, slot := 18, constantValue := 0 }, { name := "JLA", type := (.object "jdk/internal/access/JavaLangAccess"), accessFlags := 26, slot := 19, constantValue := 0 }, { name := "SOFT_MAX_ARRAY_LENGTH", type := .int, accessFlags := 25, slot := 20, constantValue := 0 }]
  methods := #[k11m0]
  instanceTypes := #[]
  staticTypes := #[(.object "jdk/internal/misc/Unsafe"), .boolean, .int, .int, .int, .int, .int, .int, .int, .int, .int, .int, .int, .int, .int, .int, .int, .int, .int, (.object "jdk/internal/access/JavaLangAccess"), .int]
  resolved := Array.replicate 378 none
  statics := none }

def pool12 : Array CpInfo := pool [(1, u "java/lang/Cloneable"), (0, .class_ 1), (0, u "java/lang/Object"), (0, .class_ 3)] 3

/-- java/lang/Cloneable -/
def k12 : Class := { plain "java/lang/Cloneable" (some 0) with
  accessFlags := 1537
  interfaces := #[]
  cf := some (fileOf pool12 2 #[] #[] 1537 4 #[] #[])
  fields := #[]
  methods := #[]
  instanceTypes := #[]
  staticTypes := #[]
  resolved := Array.replicate 8 none
  statics := none }

/-- the primitive byte -/
def k13 : Class := { plain "byte" none with kind := .primitive 'B', accessFlags := 0x411 }
/-- [B -/
def k14 : Class := { plain "[B" (some 0) with kind := .array 13 .byte, interfaces := #[12, 2], accessFlags := 1041 }

/-- the primitive int -/
def k15 : Class := { plain "int" none with kind := .primitive 'I', accessFlags := 0x411 }
/-- [I -/
def k16 : Class := { plain "[I" (some 0) with kind := .array 15 .int, interfaces := #[12, 2], accessFlags := 1041 }

def heap : Heap := #[{ cls := 7, slots := #[.long 0, .int 1, .null, .int 0, .null, .int 0, .int 0], vm := .statics 7 },
  { cls := 9, slots := #[.null, .null, .null], vm := .statics 9 }]
def classes : Array Class := #[k0, k1, k2, k3, k4, k5, k6, k7, k8, k9, k10, k11, k12, k13, k14, k15, k16]
def interned : List (Array UInt16 × Addr) := []
def slotsUsed : Nat := 10
def theMethod : MethodId := ⟨1, 1⟩
def args0 : Array Value := #[.int 5, .int 7]
def aboutOver (below : List Frame) : State where
  vm := { classes := classes, interned := interned.toArray }
  heap := heap
  slotsUsed := slotsUsed
  threads := #[{ frames := .invoking theMethod args0 :: below }]
def below0 : List Frame := [.native { method := ⟨0, 0⟩, args := #[] }]
def about1 : State := aboutOver below0
def p0 : Program := .bare "" "" ""
def e0 : Env := launch0.env 0 0 0
theorem w_frames : about1.frames = Frame.invoking theMethod args0 :: below0 := rfl
set_option maxRecDepth 65536 in
theorem w_args : argsFit about1.vm theMethod args0 = true := by decide +kernel
set_option maxRecDepth 65536 in
theorem w_heap : heapFits about1 = true := by decide +kernel
set_option maxRecDepth 65536 in
theorem w_runnable : about1.curStatus? = some .runnable := by decide +kernel
set_option maxRecDepth 65536 in
theorem w_alone : about1.alone = true := by decide +kernel
set_option maxRecDepth 65536 in
theorem w_named : about1.methodNamed? x = some theMethod := by decide +kernel
set_option maxRecDepth 65536 in
theorem w_hears : about1.hears theMethod below0 = true := by decide +kernel
set_option maxRecDepth 65536 in
theorem w_ripe : about1.ripe theMethod args0 below0 = true := by decide +kernel
theorem w_running : about1.status = .running := rfl
set_option maxRecDepth 65536 in
theorem w_room : about1.hasRoom e0.platform room_1 = true :=
  launch0.hasRoom_least _ room_1 (by decide +kernel) (by decide +kernel) (by decide +kernel) (by decide +kernel) (by decide +kernel) (by decide +kernel)
theorem allAtoms_all (ts : List Jvm.Cond) (a : Array Jvm.Value) (st : Jvm.State) : (allAtoms ts).before a st = ts.all (fun c => c.before a st) := by
  induction ts with
  | nil => rfl
  | cons c t ih =>
    show (Jvm.Cond.and c (allAtoms t)).before a st = _
    rw [Jvm.Cond.before_and, ih, List.all_cons]
def words1 : List Jvm.Cond := Jvm.Cond.code x code maxLocals ret :: tables_1
/-- a 'code' word, met by the world's own term for the bytes: nothing is compared byte by byte -/
theorem code_word {y : MethodName} {bytes : ByteArray} {mx : Nat} {rt : Option FieldType} {a : Array Value} {s : State} {m : MethodId} {meth : Method} {c : Code} (h1 : s.methodNamed? y = some m) (h2 : s.vm.method? m = some meth) (h3 : meth.code = some c) (h4 : c.code = bytes)
    (h5 : (c.maxLocals == mx && c.exceptionTable.isEmpty && decide (c.maxStack ≤ mostOperands) && decide (meth.sig.returnType = rt) && !meth.locks && decide (parseMethodDescriptor y.desc = some meth.sig)) = true) : (Jvm.Cond.code y bytes mx rt).before a s = true := by
  simp only [Bool.and_eq_true, beq_iff_eq, Bool.not_eq_true', decide_eq_true_eq] at h5
  obtain ⟨⟨⟨⟨⟨g1, g2⟩, g3⟩, g4⟩, g5⟩, g6⟩ := h5
  simp [Cond.before, Cond.holds, Cond.value, h1, h2, h3, h4, g1, g2, g3, g4, g5, g6]
def isCode : Jvm.Cond → Bool
  | .code _ _ _ _ => true
  | _ => false
theorem all_split {L : List Jvm.Cond} {P : Jvm.Cond → Bool} (h1 : L.all (fun c => isCode c || P c) = true) (h2 : ∀ c ∈ L.filter isCode, P c = true) : L.all P = true := by
  refine List.all_eq_true.mpr fun c hc => ?_
  have h := List.all_eq_true.mp h1 c hc
  rcases Bool.eq_false_or_eq_true (isCode c) with hi | hi
  · exact h2 c (List.mem_filter.mpr ⟨hc, hi⟩)
  · simpa [hi] using h
set_option maxRecDepth 65536 in
theorem w_c0 : (Jvm.Cond.code x code maxLocals ret).before args0 about1 = true := code_word (m := ⟨1, 1⟩) (meth := k1m1) (c := k1c1) (by decide +kernel) rfl rfl rfl (by decide +kernel)
set_option maxRecDepth 65536 in
theorem w_c1 : (Jvm.Cond.code ({ cls := "java/lang/String", name := "charAt", desc := "(I)C" } : Jvm.MethodName) jdk_42_method_56_code (2 : Nat) (Option.some Jvm.ClassFile.FieldType.char)).before args0 about1 = true := code_word (m := ⟨7, 1⟩) (meth := k7m1) (c := k7c1) (by decide +kernel) rfl rfl rfl (by decide +kernel)
set_option maxRecDepth 65536 in
theorem w_c2 : (Jvm.Cond.code ({ cls := "java/lang/String", name := "isLatin1", desc := "()Z" } : Jvm.MethodName) jdk_42_method_154_code (1 : Nat) (Option.some Jvm.ClassFile.FieldType.boolean)).before args0 about1 = true := code_word (m := ⟨7, 2⟩) (meth := k7m2) (c := k7c2) (by decide +kernel) rfl rfl rfl (by decide +kernel)
set_option maxRecDepth 65536 in
theorem w_c3 : (Jvm.Cond.code ({ cls := "java/lang/StringLatin1", name := "charAt", desc := "([BI)C" } : Jvm.MethodName) jdk_43_method_2_code (2 : Nat) (Option.some Jvm.ClassFile.FieldType.char)).before args0 about1 = true := code_word (m := ⟨8, 1⟩) (meth := k8m1) (c := k8c1) (by decide +kernel) rfl rfl rfl (by decide +kernel)
set_option maxRecDepth 65536 in
theorem w_c4 : (Jvm.Cond.code ({ cls := "java/lang/String", name := "checkIndex", desc := "(II)V" } : Jvm.MethodName) jdk_42_method_155_code (2 : Nat) (Option.none : Option Jvm.ClassFile.FieldType)).before args0 about1 = true := code_word (m := ⟨7, 3⟩) (meth := k7m3) (c := k7c3) (by decide +kernel) rfl rfl rfl (by decide +kernel)
set_option maxRecDepth 65536 in
theorem w_c5 : (Jvm.Cond.code ({ cls := "jdk/internal/util/Preconditions", name := "checkIndex", desc := "(IILjava/util/function/BiFunction;)I" } : Jvm.MethodName) jdk_41_method_11_code (3 : Nat) (Option.some Jvm.ClassFile.FieldType.int)).before args0 about1 = true := code_word (m := ⟨9, 1⟩) (meth := k9m1) (c := k9c1) (by decide +kernel) rfl rfl rfl (by decide +kernel)
set_option maxRecDepth 65536 in
theorem w_c6 : (Jvm.Cond.code ({ cls := "com/example/uniform_shape/uniformshape/HexDigits", name := "value", desc := "(I)I" } : Jvm.MethodName) prog_7_method_2_code (1 : Nat) (Option.some Jvm.ClassFile.FieldType.int)).before args0 about1 = true := code_word (m := ⟨10, 1⟩) (meth := k10m1) (c := k10c1) (by decide +kernel) rfl rfl rfl (by decide +kernel)
def codes1 : List Jvm.Cond := [Jvm.Cond.code x code maxLocals ret, Jvm.Cond.code ({ cls := "java/lang/String", name := "charAt", desc := "(I)C" } : Jvm.MethodName) jdk_42_method_56_code (2 : Nat) (Option.some Jvm.ClassFile.FieldType.char), Jvm.Cond.code ({ cls := "java/lang/String", name := "isLatin1", desc := "()Z" } : Jvm.MethodName) jdk_42_method_154_code (1 : Nat) (Option.some Jvm.ClassFile.FieldType.boolean), Jvm.Cond.code ({ cls := "java/lang/StringLatin1", name := "charAt", desc := "([BI)C" } : Jvm.MethodName) jdk_43_method_2_code (2 : Nat) (Option.some Jvm.ClassFile.FieldType.char), Jvm.Cond.code ({ cls := "java/lang/String", name := "checkIndex", desc := "(II)V" } : Jvm.MethodName) jdk_42_method_155_code (2 : Nat) (Option.none : Option Jvm.ClassFile.FieldType), Jvm.Cond.code ({ cls := "jdk/internal/util/Preconditions", name := "checkIndex", desc := "(IILjava/util/function/BiFunction;)I" } : Jvm.MethodName) jdk_41_method_11_code (3 : Nat) (Option.some Jvm.ClassFile.FieldType.int), Jvm.Cond.code ({ cls := "com/example/uniform_shape/uniformshape/HexDigits", name := "value", desc := "(I)I" } : Jvm.MethodName) prog_7_method_2_code (1 : Nat) (Option.some Jvm.ClassFile.FieldType.int)]
set_option maxRecDepth 65536 in
theorem codes_eq : words1.filter isCode = codes1 := rfl
theorem w_codes : ∀ c ∈ words1.filter isCode, c.before args0 about1 = true := by
  rw [codes_eq]
  intro c hc
  simp only [codes1, List.mem_cons, List.not_mem_nil, or_false] at hc
  rcases hc with rfl | rfl | rfl | rfl | rfl | rfl | rfl
  · exact w_c0
  · exact w_c1
  · exact w_c2
  · exact w_c3
  · exact w_c4
  · exact w_c5
  · exact w_c6
set_option maxRecDepth 65536 in
theorem w_t1 : (words1.take 24).all (fun c => isCode c || c.before args0 about1) = true := by decide +kernel
set_option maxRecDepth 65536 in
theorem w_t2 : (words1.drop 24).all (fun c => isCode c || c.before args0 about1) = true := by decide +kernel
theorem w_tables : (allAtoms (Jvm.Cond.code x code maxLocals ret :: tables_1)).before args0 about1 = true := by
  rw [allAtoms_all]
  show words1.all (fun c => c.before args0 about1) = true
  refine all_split ?_ w_codes
  rw [← List.take_append_drop 24 words1, List.all_append, w_t1, w_t2]
  rfl
set_option maxRecDepth 65536 in
theorem w_rest : rest_1_c.before args0 about1 = true := by decide +kernel
set_option maxRecDepth 65536 in
theorem w_case : (Jvm.Cond.and given_1 narrow_1).before args0 about1 = true := by decide +kernel
set_option maxRecDepth 65536 in
theorem w_consts : constsHeld consts_1 about1 := Jvm.Lit.constsHeldB_iff.mp (by decide +kernel)
theorem w_applies : (headSpec (Jvm.Cond.code x code maxLocals ret :: tables_1) room_1).applies x e0.platform about1 = true :=
  (Spec.applies_iff w_frames).mpr ⟨w_running, w_runnable, w_alone, w_named, w_hears, w_ripe, w_room, w_tables⟩
theorem atStart : AtStart classFile x code maxLocals ret World_1 tables_1 room_1 Calls_1 rest_1 Pre_1 launch0 p0 e0 about1 theMethod args0 below0 :=
  ⟨lists_1, trivial, launch0.admits_env _ _ _, launch0.least_env, fairChoices_fair.cas, fairChoices_fair.clock, w_frames, w_args, w_heap, w_applies, ⟨w_consts, trivial⟩, w_rest, w_case⟩
end start1
theorem witness_1 : WitnessClaimed_1 := ⟨start1.p0, start1.e0, start1.about1, start1.theMethod, start1.args0, start1.below0, start1.atStart⟩
end Jvm.Pilot.@@N@@
