import JvmDerived
import JvmDerived.Pilot.@@N@@Statement
import JvmDerived.Pilot.@@N@@Code
set_option linter.unusedVariables false
set_option linter.unusedSimpArgs false
namespace Jvm.Pilot.@@N@@
open Jvm Jvm.ClassFile Sem Op Lib Jvm.Free Jvm.Stand Jvm.LawKit Jvm.RoadKit Bundle Jvm.Pilot.@@N@@.Jvm.D
section Own
variable {p : Program} {l : Launch} {e : Env} {R : Room} {s : State} {m : MethodId} {args : Array Value} {below : List Frame} {meth : Method} {c : Code} {T T' : State} {locs : List Loc} {cells slots : Nat} {g g' : JFrame} {C S n0 : Nat} {F : Outcome → State → List Loc → Prop} {Q : Option Value → Heap → Prop} {Z : State} {a0 : Array Value} {h h' h0 : Heap} {rest argsL : List Value} {own : String} {index : Nat} {a b : Addr} {k : ClassId} {ty : FieldType} {n j : Int32} {vs : List Value} {dv v : Value}
/-- from here the run comes to its return, and what it leaves is Q -/
def OEnds (p : Program) (e : Env) (below : List Frame) (F : Outcome → State → List Loc → Prop) (n0 : Nat) (Q : Option Value → Heap → Prop) (T : State) (g : JFrame) : Prop :=
  ∃ t o, Steps p.tables e below (T.setTop g) t ∧ t.status = .running ∧ Ended t below o ∧ ∃ v L, o = .returned v ∧ (Fr n0 L ∧ Q v t.heap) ∧ F o t L
/-- a body's contract -/
def OCon (l : Launch) (y : MethodName) (bytes : ByteArray) (ml : Nat) (ret : Option FieldType) (rm : Room) (Z : State) (as : Array Value) (h0 : Heap) (n0 : Nat) (Q : Option Value → Heap → Prop) : Prop :=
  ∀ ws, MetFree l y (head1 (Jvm.Cond.code y bytes ml ret :: ws) rm) (fun a U => a = as ∧ Z.Warmed39 U.vm ∧ U.heap = h0) (fun _ _ _ _ _ => True) (fun _ U o U' => ∃ v L, o = .returned v ∧ (Fr n0 L ∧ Q v U'.heap) ∧ FrameEnd U o U' L rm.cells rm.slots)
theorem own_body {y : MethodName} {bytes : ByteArray} {ml : Nat} {ret : Option FieldType} {rm : Room} {as : Array Value} (hp : plainFor y = true)
    (kk : ∀ (p : Program) (e : Env) (s : State) (m : MethodId) (below : List Frame) (meth : Method) (c : Code) (T : State), p.tables.exec = Jvm.exec → Z.Warmed39 s.vm → c.code = bytes → c.maxLocals = ml → s.vm.findClass y.cls = some m.cls → meth.name = y.name → meth.sig.returnType = ret → meth.locks = false → T.heap = h0 →
      Stand p l e rm s m as below meth c T [] 0 0 → OEnds p e below (fun o t L => FrameEnd s o t L rm.cells rm.slots) n0 Q T (entryFrame m as ml)) : OCon l y bytes ml ret rm Z as h0 n0 Q := by
  intro ws
  refine MetFree.of_bodySF hp hisR ?_
  intro p e s m args below meth c s₁ Bd hml0 hP hK
  obtain ⟨rfl, hZ, hh⟩ := hP
  exact kk p e s m below meth c s₁ Bd.exec hZ Bd.bytes hml0 (findClass_of_methodNamed Bd.named) (name_of_methodNamed Bd.named Bd.method).1 Bd.returns Bd.notSynchronized (by rw [← hh, Bd.state]; rfl) (Stand.of_body Bd)
theorem own_go (kk : ∀ t, Steps p.tables e below (T'.setTop g') t → Steps p.tables e below (T.setTop g) t) (hE : OEnds p e below F n0 Q T' g') : OEnds p e below F n0 Q T g := by
  obtain ⟨t, o, h1, h2⟩ := hE
  exact ⟨t, o, kk t h1, h2⟩
theorem own_at (q : g = g') (hE : OEnds p e below F n0 Q T g') : OEnds p e below F n0 Q T g := q ▸ hE
theorem own_let {α : Sort _} {P : α → Prop} (a : α) (hh : ∀ x, x = a → P x) : P a := hh a rfl
theorem own_cast {α : Sort _} {P : α → Prop} {a b : α} (q : a = b) (hh : P b) : P a := q ▸ hh
theorem own_fin (X : Stand p l e R s m args below meth c T locs cells slots) (hlk : meth.locks = false) {v : Option Value} (hv : meth.sig.returnType = none → v = none)
    (st : ∀ fs, (∀ (f : JFrame) (acts : List Action), f.method = m → f.locked = none → f.entered = [] → (doReturn e (T.setTop f) acts v).1 = T.setFrames fs) → Steps p.tables e below (T.setTop g) (T.setFrames fs))
    (N : Fr n0 locs) (hc : cells ≤ C) (hs : slots ≤ S) (q : Q v T.heap) : OEnds p e below (fun o t L => FrameEnd s o t L C S) n0 Q T g := by
  obtain ⟨fs, hr, hrun, hended, hW, hsame⟩ := X.leave (v := v) hv hlk
  exact ⟨_, _, st fs hr, hrun, hended, _, _, rfl, ⟨N, q⟩, ⟨_, rfl⟩, hW, hsame.mono hc hs⟩
theorem own_retI0 (X : Stand p l e R s m args below meth c T locs cells slots) (hx : p.tables.exec = Jvm.exec) {pc : Nat} {Ls : Array Slot} {z : Int32} {rest : List Value} (hret : meth.sig.returnType = some .int) (hd : decode c.code pc = .ok (.ireturn, 1)) {fs : List Frame}
    (hl : ∀ (f : JFrame) (acts : List Action), f.method = m → f.locked = none → f.entered = [] → (doReturn e (T.setTop f) acts (some (.int z))).1 = T.setFrames fs) : Steps p.tables e below (T.setTop (mkF m pc Ls (.int z :: rest))) (T.setFrames fs) := by
  have hm' : T.vm.method? m = some meth := X.method'
  have hn : narrow .int (.int z) = .int z := rfl
  show Steps p.tables e below (T.setTop { method := m, pc := pc, locals := Ls, stack := _ :: rest, locked := none }) _
  jvm_step X.here [X.here.top, hx, hd, hm', hret, hn]
  first | (intro acts; rw [hl _ acts rfl rfl rfl]) | rw [hl _ _ rfl rfl rfl]
  exact Steps.refl _
theorem own_retI (X : Stand p l e R s m args below meth c T locs cells slots) (hx : p.tables.exec = Jvm.exec) (hlk : meth.locks = false) {pc : Nat} {Ls : Array Slot} {z : Int32} (hret : meth.sig.returnType = some .int) (hd : decode c.code pc = .ok (.ireturn, 1)) (eT : T.heap = h) (N : Fr n0 locs) (hc : cells ≤ C) (hs : slots ≤ S) (q : Q (some (.int z)) h) : OEnds p e below (fun o t L => FrameEnd s o t L C S) n0 Q T (mkF m pc Ls (.int z :: rest)) :=
  own_fin X hlk (fun hn => by rw [hret] at hn; cases hn) (fun fs hl => own_retI0 X hx hret hd hl) N hc hs (eT ▸ q)
theorem own_retN (X : Stand p l e R s m args below meth c T locs cells slots) (hx : p.tables.exec = Jvm.exec) (hlk : meth.locks = false) {t : FieldType} {pc : Nat} {Ls : Array Slot} {z z' : Int32} (hret : meth.sig.returnType = some t) (ht : t = .boolean ∨ t = .byte ∨ t = .char ∨ t = .short) (hd : decode c.code pc = .ok (.ireturn, 1)) (hz : nar t z = z') (eT : T.heap = h) (N : Fr n0 locs) (hc : cells ≤ C) (hs : slots ≤ S) (q : Q (some (.int z')) h) : OEnds p e below (fun o t L => FrameEnd s o t L C S) n0 Q T (mkF m pc Ls (.int z :: rest)) :=
  own_fin X hlk (v := some (.int (nar t z))) (fun hn => by rw [hret] at hn; cases hn) (fun fs hl => retN X hx hret ht hd hl) N hc hs (by rw [hz, eT]; exact q)
theorem own_retJ (X : Stand p l e R s m args below meth c T locs cells slots) (hx : p.tables.exec = Jvm.exec) (hlk : meth.locks = false) {pc : Nat} {Ls : Array Slot} {z : Int64} (hret : meth.sig.returnType = some .long) (hd : decode c.code pc = .ok (.lreturn, 1)) (eT : T.heap = h) (N : Fr n0 locs) (hc : cells ≤ C) (hs : slots ≤ S) (q : Q (some (.long z)) h) : OEnds p e below (fun o t L => FrameEnd s o t L C S) n0 Q T (mkF m pc Ls [.long z]) :=
  own_fin X hlk (fun hn => by rw [hret] at hn; cases hn) (fun fs hl => X.lreturnOut hx hret hd hl) N hc hs (eT ▸ q)
theorem own_retA (X : Stand p l e R s m args below meth c T locs cells slots) (hx : p.tables.exec = Jvm.exec) (hlk : meth.locks = false) {t : FieldType} {pc : Nat} {Ls : Array Slot} {w : Value} (hw : w.isRef = true) (hret : meth.sig.returnType = some t) (ht : t.isReference = true) (hd : decode c.code pc = .ok (.areturn, 1)) (eT : T.heap = h) (N : Fr n0 locs) (hc : cells ≤ C) (hs : slots ≤ S) (q : Q (some w) h) : OEnds p e below (fun o t L => FrameEnd s o t L C S) n0 Q T (mkF m pc Ls [w]) :=
  own_fin X hlk (fun hn => by rw [hret] at hn; cases hn) (fun fs hl => X.areturnOut hx hw hret ht hd hl) N hc hs (eT ▸ q)
theorem own_retV (X : Stand p l e R s m args below meth c T locs cells slots) (hx : p.tables.exec = Jvm.exec) (hlk : meth.locks = false) {pc : Nat} {Ls : Array Slot} (hret : meth.sig.returnType = none) (hd : decode c.code pc = .ok (.return_, 1)) (eT : T.heap = h) (N : Fr n0 locs) (hc : cells ≤ C) (hs : slots ≤ S) (q : Q none h) : OEnds p e below (fun o t L => FrameEnd s o t L C S) n0 Q T (mkF m pc Ls []) :=
  own_fin X hlk (fun _ => rfl) (fun fs hl => X.returnOut hx hret hd hl) N hc hs (eT ▸ q)
/-! calls -/
theorem own_callS (X : Stand p l e R s m args below meth c T locs cells slots) (hx : p.tables.exec = Jvm.exec) (hZ : Z.Warmed39 s.vm) {y : MethodName} {bytes : ByteArray} {maxL W : Nat} {ret : Option FieldType} {rm : Room} {Qc : Option Value → Heap → Prop} (hown : s.vm.findClass own = some m.cls)
    (w1 : (Cond.methodLink own index y).before a0 Z = true) (w2 : (Cond.static y).before a0 Z = true) (w3 : (Cond.initialized y.cls).before a0 Z = true) (w4 : (Cond.code y bytes maxL ret).before a0 Z = true) (hy : y.cls ≠ "java/lang/invoke/MethodHandle" ∧ y.cls ≠ "java/lang/invoke/VarHandle")
    (K : OCon l y bytes maxL ret rm Z argsL.toArray h n0 Qc) (hfr : rm.frames + 1 ≤ R.frames) (hlo : W + (maxL + 11) + rm.locals ≤ R.locals) (hg : g.method = m) (hsize : g.locals.size = c.maxLocals) (hlen : ∀ sig, parseMethodDescriptor y.desc = some sig → argsL.length = sig.parameters.length)
    (hstack : g.stack = argsL.reverse ++ rest) (hW : 2 * g.monitorRoom + (rest.map fun v => v.category).sum ≤ W) (hd : decode c.code g.pc = .ok (.invokestatic index, 3)) (eT : T.heap = h) (N : Fr n0 locs) (hc : cells + rm.cells ≤ R.cells) (hs : slots + rm.slots ≤ R.slots)
    (kk : ∀ (v : Option Value) (T' : State) (locs' : List Loc), Stand p l e R s m args below meth c T' locs' (cells + rm.cells) (slots + rm.slots) → Fr n0 locs' → Qc v T'.heap → OEnds p e below F n0 Q T' { g with pc := g.pc + 3, stack := v.toList ++ rest }) : OEnds p e below F n0 Q T g := by
  obtain ⟨v, vm₁, ⟨T', L', k', n'⟩, -, X', ⟨Lc, ⟨N', hQ⟩, l', y', z'⟩, st⟩ := Jvm.LawKit.callS X hx hown (mvT hZ w1) (mvT hZ w2) (mvT hZ w3) (mvT hZ w4) hy (backOf (W := W) (Q := fun v h L => Fr n0 L ∧ Qc v h) (K []) hZ w4 w3 hfr hlo) hg hsize hlen hstack hW hd (fun _ _ => ⟨rfl, eT, hc, hs⟩)
  dsimp only [Pt.U, Pt.locs, Pt.cells, Pt.slots] at X' l' y' z' st hQ
  subst l' y' z'
  exact own_go st (kk v T' _ X' (Fr.app N N') hQ)
theorem own_callC (X : Stand p l e R s m args below meth c T locs cells slots) (hx : p.tables.exec = Jvm.exec) (hZ : Z.Warmed39 s.vm) {y : MethodName} {bytes : ByteArray} {maxL W : Nat} {rm : Room} {Qc : Option Value → Heap → Prop} (hy1 : y.name = "<init>") (hown : s.vm.findClass own = some m.cls)
    (w1 : (Cond.methodLink own index y).before a0 Z = true) (w2 : (Cond.instanceMethod y).before a0 Z = true) (w3 : (Cond.initialized y.cls).before a0 Z = true) (w4 : (Cond.code y bytes maxL none).before a0 Z = true) (hy : y.cls ≠ "java/lang/invoke/MethodHandle" ∧ y.cls ≠ "java/lang/invoke/VarHandle")
    (K : OCon l y bytes maxL none rm Z (.ref a :: argsL).toArray h n0 Qc) (hfr : rm.frames + 1 ≤ R.frames) (hlo : W + (maxL + 11) + rm.locals ≤ R.locals) (hg : g.method = m) (hsize : g.locals.size = c.maxLocals) (hlen : ∀ sig, parseMethodDescriptor y.desc = some sig → argsL.length = sig.parameters.length)
    (hstack : g.stack = argsL.reverse ++ .ref a :: rest) (hW : 2 * g.monitorRoom + (rest.map fun v => v.category).sum ≤ W) (hd : decode c.code g.pc = .ok (.invokespecial index, 3)) (eT : T.heap = h) (N : Fr n0 locs) (hc : cells + rm.cells ≤ R.cells) (hs : slots + rm.slots ≤ R.slots)
    (kk : ∀ (v : Option Value) (T' : State) (locs' : List Loc), Stand p l e R s m args below meth c T' locs' (cells + rm.cells) (slots + rm.slots) → Fr n0 locs' → Qc v T'.heap → OEnds p e below F n0 Q T' { g with pc := g.pc + 3, stack := v.toList ++ rest }) : OEnds p e below F n0 Q T g := by
  obtain ⟨v, vm₁, ⟨T', L', k', n'⟩, -, X', ⟨Lc, ⟨N', hQ⟩, l', y', z'⟩, st⟩ := X.specialBack hx hy1 hown (mvT hZ w1) (mvT hZ w2) (mvT hZ w4) hy (backOf (W := W) (Q := fun v h L => Fr n0 L ∧ Qc v h) (K []) hZ w4 w3 hfr hlo) hg hsize (Steps.refl _) hlen hstack hW hd (fun _ _ => ⟨rfl, eT, hc, hs⟩)
  dsimp only [Pt.U, Pt.locs, Pt.cells, Pt.slots] at X' l' y' z' st hQ
  subst l' y' z'
  exact own_go (fun t kt => st.trans kt) (kk v T' _ X' (Fr.app N N') hQ)
theorem own_callV (X : Stand p l e R s m args below meth c T locs cells slots) (hx : p.tables.exec = Jvm.exec) (hZ : Z.Warmed39 s.vm) {y : MethodName} {bytes : ByteArray} {maxL W : Nat} {ret : Option FieldType} {rm : Room} {Qc : Option Value → Heap → Prop} {C0 : String} (hown : s.vm.findClass own = some m.cls)
    (w1 : (Cond.methodLink own index y).before a0 Z = true) (wd : (Cond.declares y).before a0 Z = true) (ws : (Cond.selects C0 y y).before a0 Z = true) (w2 : (Cond.instanceMethod y).before a0 Z = true) (w3 : (Cond.initialized y.cls).before a0 Z = true) (w4 : (Cond.code y bytes maxL ret).before a0 Z = true) (hy : y.cls ≠ "java/lang/invoke/MethodHandle" ∧ y.cls ≠ "java/lang/invoke/VarHandle")
    (K : OCon l y bytes maxL ret rm Z (.ref a :: argsL).toArray h n0 Qc) (E : Exa Z h a C0) (hfr : rm.frames + 1 ≤ R.frames) (hlo : W + (maxL + 11) + rm.locals ≤ R.locals) (hg : g.method = m) (hsize : g.locals.size = c.maxLocals) (hlen : ∀ sig, parseMethodDescriptor y.desc = some sig → argsL.length = sig.parameters.length)
    (hstack : g.stack = argsL.reverse ++ .ref a :: rest) (hW : 2 * g.monitorRoom + (rest.map fun v => v.category).sum ≤ W) (hd : decode c.code g.pc = .ok (.invokevirtual index, 3)) (eT : T.heap = h) (N : Fr n0 locs) (hc : cells + rm.cells ≤ R.cells) (hs : slots + rm.slots ≤ R.slots)
    (kk : ∀ (v : Option Value) (T' : State) (locs' : List Loc), Stand p l e R s m args below meth c T' locs' (cells + rm.cells) (slots + rm.slots) → Fr n0 locs' → Qc v T'.heap → OEnds p e below F n0 Q T' { g with pc := g.pc + 3, stack := v.toList ++ rest }) : OEnds p e below F n0 Q T g := by
  obtain ⟨cq, kq, qa, qb, qc⟩ := isOf hZ eT E
  obtain ⟨v, vm₁, ⟨T', L', k', n'⟩, -, X', ⟨Lc, ⟨N', hQ⟩, l', y', z'⟩, st⟩ := X.virtualBack hx hown (mvT hZ w1) (mvT hZ wd) (notFace_of_selects (args := #[]) (mvT hZ ws)) (mvT hZ ws) (mvT hZ w2) hy (backOf (W := W) (Q := fun v h L => Fr n0 L ∧ Qc v h) (K []) hZ w4 w3 hfr hlo) qa qc hg hsize (Steps.refl _) hlen hstack hW hd (fun _ _ => ⟨rfl, eT, hc, hs⟩)
  dsimp only [Pt.U, Pt.locs, Pt.cells, Pt.slots] at X' l' y' z' st hQ
  subst l' y' z'
  exact own_go (fun t kt => st.trans kt) (kk v T' _ X' (Fr.app N N') hQ)
/-! fields -/
theorem own_getF (X : Stand p l e R s m args below meth c T locs cells slots) (hx : p.tables.exec = Jvm.exec) (hZ : Z.Warmed39 s.vm) {O nm d : String} (hown : s.vm.findClass own = some m.cls) (w : (Cond.fieldLink own index O nm d).before a0 Z = true) (eT : T.heap = h) (Fv : Fld Z h a O nm d v) (hg : g.method = m) (hs : g.stack = .ref a :: rest) (hd : decode c.code g.pc = .ok (.getfield index, 3))
    (kk : ∀ T', Stand p l e R s m args below meth c T' locs cells slots → T'.heap = h → OEnds p e below F n0 Q T' { g with pc := g.pc + 3, stack := v :: rest }) : OEnds p e below F n0 Q T g := by
  obtain ⟨T', X', e', st⟩ := getF X hx hZ hown (host := "") (Or.inl w) Via.refl eT Fv hg hs hd
  exact own_go st (kk T' X' e')
theorem own_putF (X : Stand p l e R s m args below meth c T locs cells slots) (hx : p.tables.exec = Jvm.exec) (hZ : Z.Warmed39 s.vm) {O nm d C0 : String} {kk0 : Nat} {v' old : Value} (hown : s.vm.findClass own = some m.cls) (w : (Cond.fieldLink own index O nm d).before a0 Z = true) (eT : T.heap = h) (Fv : Fld Z h a O nm d old) (E : Exa Z h a C0)
    (L : (Cond.lays C0 O nm d).before a0 Z = true ∨ ((Cond.laysFinal C0 O nm d).before a0 Z = true ∧ own = O ∧ meth.name = "<init>")) (wi : (Cond.instantiable C0 kk0).before a0 Z = true) (hty : parseFieldDescriptor d = some ty) (hn : narrow ty v = v') (hf : fits ty v' = true) (N : Fr n0 locs) (ga : n0 ≤ a) (hg : g.method = m) (hs : g.stack = v :: .ref a :: rest) (hd : decode c.code g.pc = .ok (.putfield index, 3))
    (kk : ∀ T' h' locs', Stand p l e R s m args below meth c T' locs' cells slots → T'.heap = h' → Fr n0 locs' → Wr h h' a (RoadKit.slotOf Z O nm d) v' → Fld Z h' a O nm d v' → OEnds p e below F n0 Q T' { g with pc := g.pc + 3, stack := rest }) : OEnds p e below F n0 Q T g := by
  obtain ⟨T', h', X', e', W', st⟩ := putFN X hx hZ hown w Via.refl eT Fv E L wi hty hn hf hg hs hd
  exact own_go st (kk T' h' _ X' e' (Fr.snoc X' N ga) W' (Fv.same W'))
theorem own_initO (X : Stand p l e R s m args below meth c T locs cells slots) (hx : p.tables.exec = Jvm.exec) (hZ : Z.Warmed39 s.vm) {W : Nat} (hown : s.vm.findClass own = some m.cls) (w1 : (Cond.methodLink own index Lib.objectInit).before a0 Z = true) (w2 : (Cond.instanceMethod Lib.objectInit).before a0 Z = true)
    (w3 : (Cond.code Lib.objectInit ⟨#[0xb1]⟩ 1 none).before a0 Z = true) (eT : T.heap = h) (hg : g.method = m) (hsize : g.locals.size = c.maxLocals) (hs : g.stack = .ref a :: rest) (hd : decode c.code g.pc = .ok (.invokespecial index, 3)) (hf : 1 ≤ R.frames) (hW : 2 * g.monitorRoom + (rest.map fun v => v.category).sum ≤ W) (hl : W + 12 ≤ R.locals)
    (kk : ∀ T', Stand p l e R s m args below meth c T' locs cells slots → T'.heap = h → OEnds p e below F n0 Q T' { g with pc := g.pc + 3, stack := rest }) : OEnds p e below F n0 Q T g := by
  obtain ⟨T', X', e', st⟩ := initO X hx hZ hown w1 w2 w3 eT hg hsize hs hd hf hW hl
  exact own_go st (kk T' X' e')
theorem own_new (X : Stand p l e R s m args below meth c T locs cells slots) (hx : p.tables.exec = Jvm.exec) (hZ : Z.Warmed39 s.vm) {C0 : String} {sl : Nat} (hown : s.vm.findClass own = some m.cls) (w : (Cond.classLink own index C0).before a0 Z = true) (wi : (Cond.instantiable C0 sl).before a0 Z = true) (wz : (Cond.initialized C0).before a0 Z = true) (eT : T.heap = h) (hg : g.method = m) (hd : decode c.code g.pc = .ok (.new index, 3)) (hc : cells + 1 ≤ R.cells) (hl : slots + sl ≤ R.slots)
    (kk : ∀ T' h' b, b = h.size → Stand p l e R s m args below meth c T' locs (cells + 1) (slots + sl) → T'.heap = h' → Ext h h' → Exa Z h' b C0 → (∀ {O nm d : String} {ty : FieldType}, Laid Z a0 C0 O nm d → parseFieldDescriptor d = some ty → Fld Z h' b O nm d (defaultValue ty)) → OEnds p e below F n0 Q T' { g with pc := g.pc + 3, stack := .ref b :: g.stack }) : OEnds p e below F n0 Q T g := by
  obtain ⟨T', h', X', e', E', A', D', -, st⟩ := newO X hx hZ hown w wi wz eT hg hd hc hl
  exact own_go st (kk T' h' _ rfl X' e' E' A' D')
/-! arrays -/
theorem own_newarr (X : Stand p l e R s m args below meth c T locs cells slots) (hx : p.tables.exec = Jvm.exec) (hZ : Z.Warmed39 s.vm) {aty : ArrayType} (w : (Cond.arrayClass (newarray.typeOf aty)).before a0 Z = true) (eT : T.heap = h) (hg : g.method = m) (hd : decode c.code g.pc = .ok (.newarray aty, 2)) (hs : g.stack = .int n :: rest) (hn : ¬ n < 0) {cap : Nat} (hcap : n.toNatClampNeg ≤ cap) (hb : cap * 8 ≤ 536870912) (hc : cells + 1 ≤ R.cells) (hl : slots + cap ≤ R.slots)
    (kk : ∀ T' h' b k, b = h.size → Stand p l e R s m args below meth c T' locs (cells + 1) (slots + cap) → T'.heap = h' → Ext h h' → Arv Z h' b k (newarray.typeOf aty) n (List.replicate cap (defaultValue (newarray.typeOf aty))) (defaultValue (newarray.typeOf aty)) → OEnds p e below F n0 Q T' { g with pc := g.pc + 2, stack := .ref b :: rest }) : OEnds p e below F n0 Q T g := by
  obtain ⟨T', h', kA, X', e', E', A', st⟩ := newP X hx hZ w eT hg hd hs hn hcap hb hc hl
  exact own_go st (kk T' h' _ kA rfl X' e' E' ((Arv.new A' hn).pad (pad_rep [] _ cap)))
theorem own_alen (X : Stand p l e R s m args below meth c T locs cells slots) (hx : p.tables.exec = Jvm.exec) (hZ : Z.Warmed39 s.vm) (eT : T.heap = h) (V : Arv Z h a k ty n vs dv) (hg : g.method = m) (hs : g.stack = .ref a :: rest) (hd : decode c.code g.pc = .ok (.arraylength, 1))
    (kk : OEnds p e below F n0 Q T { g with pc := g.pc + 1, stack := .int n :: rest }) : OEnds p e below F n0 Q T g := by
  obtain ⟨cl, Ar, -, Sz, M, H, -⟩ := V
  refine own_go (fun t kt => X.arraylength hx (by rw [eT]; exact Ar.1) (State.isArrayOf_alike hZ.alike Ar.2.1) hg hs hd t kt) ?_
  rw [len_of Sz M]; exact kk
theorem own_iaload (X : Stand p l e R s m args below meth c T locs cells slots) (hx : p.tables.exec = Jvm.exec) (hZ : Z.Warmed39 s.vm) (eT : T.heap = h) (V : Arv Z h a k .int n vs dv) (hj : ¬ j < 0 ∧ j < n) (hv : vs.getD j.toNatClampNeg dv = v) (hg : g.method = m) (hs : g.stack = .int j :: .ref a :: rest) (hd : decode c.code g.pc = .ok (.iaload, 1))
    (kk : OEnds p e below F n0 Q T { g with pc := g.pc + 1, stack := v :: rest }) : OEnds p e below F n0 Q T g := by
  obtain ⟨cl, Ar, -, Sz, M, H, -⟩ := V
  exact own_go (fun t kt => X.iaload hx (by rw [eT]; exact Ar.1) (State.isArrayOf_alike hZ.alike Ar.2.1) Ar.2.2 (inb_of Sz hj) (H.at (inb_of Sz hj) hv) hg hs hd t kt) kk
theorem own_laload (X : Stand p l e R s m args below meth c T locs cells slots) (hx : p.tables.exec = Jvm.exec) (hZ : Z.Warmed39 s.vm) (eT : T.heap = h) (V : Arv Z h a k .long n vs dv) (hj : ¬ j < 0 ∧ j < n) (hv : vs.getD j.toNatClampNeg dv = v) (hg : g.method = m) (hs : g.stack = .int j :: .ref a :: rest) (hd : decode c.code g.pc = .ok (.laload, 1))
    (kk : OEnds p e below F n0 Q T { g with pc := g.pc + 1, stack := v :: rest }) : OEnds p e below F n0 Q T g := by
  obtain ⟨cl, Ar, -, Sz, M, H, -⟩ := V
  exact own_go (fun t kt => X.laload hx (by rw [eT]; exact Ar.1) (State.isArrayOf_alike hZ.alike Ar.2.1) Ar.2.2 (inb_of Sz hj) (H.at (inb_of Sz hj) hv) hg hs hd t kt) kk
theorem own_caload (X : Stand p l e R s m args below meth c T locs cells slots) (hx : p.tables.exec = Jvm.exec) (hZ : Z.Warmed39 s.vm) (eT : T.heap = h) (V : Arv Z h a k .char n vs dv) (hj : ¬ j < 0 ∧ j < n) (hv : vs.getD j.toNatClampNeg dv = v) (hg : g.method = m) (hs : g.stack = .int j :: .ref a :: rest) (hd : decode c.code g.pc = .ok (.caload, 1))
    (kk : OEnds p e below F n0 Q T { g with pc := g.pc + 1, stack := v :: rest }) : OEnds p e below F n0 Q T g := by
  obtain ⟨cl, Ar, -, Sz, M, H, -⟩ := V
  exact own_go (fun t kt => X.caload hx (by rw [eT]; exact Ar.1) (State.isArrayOf_alike hZ.alike Ar.2.1) Ar.2.2 (inb_of Sz hj) (H.at (inb_of Sz hj) hv) hg hs hd t kt) kk
theorem own_baload (X : Stand p l e R s m args below meth c T locs cells slots) (hx : p.tables.exec = Jvm.exec) (hZ : Z.Warmed39 s.vm) (eT : T.heap = h) (V : Arv Z h a k .byte n vs dv) (hj : ¬ j < 0 ∧ j < n) (hv : vs.getD j.toNatClampNeg dv = v) (hg : g.method = m) (hs : g.stack = .int j :: .ref a :: rest) (hd : decode c.code g.pc = .ok (.baload, 1))
    (kk : OEnds p e below F n0 Q T { g with pc := g.pc + 1, stack := v :: rest }) : OEnds p e below F n0 Q T g := by
  obtain ⟨cl, Ar, -, Sz, M, H, -⟩ := V
  exact own_go (fun t kt => X.baloadBytes hx (by rw [eT]; exact Ar.1) (State.isArrayOf_alike hZ.alike Ar.2.1) Ar.2.2 (inb_of Sz hj) (H.at (inb_of Sz hj) hv) hg hs hd t kt) kk
theorem own_iastore (X : Stand p l e R s m args below meth c T locs cells slots) (hx : p.tables.exec = Jvm.exec) (hZ : Z.Warmed39 s.vm) {x : Int32} (eT : T.heap = h) (V : Arv Z h a k .int n vs dv) (hj : ¬ j < 0 ∧ j < n) (i : Nat) (hi : j.toNatClampNeg = i) (hl : i < vs.length) (N : Fr n0 locs) (ga : n0 ≤ a) (hg : g.method = m) (hs : g.stack = .int x :: .int j :: .ref a :: rest) (hd : decode c.code g.pc = .ok (.iastore, 1))
    (kk : ∀ T' h' locs', Stand p l e R s m args below meth c T' locs' cells slots → T'.heap = h' → Fr n0 locs' → Wr h h' a j.toNatClampNeg (.int x) → Arv Z h' a k .int n (vs.set i (.int x)) dv → OEnds p e below F n0 Q T' { g with pc := g.pc + 1, stack := rest }) : OEnds p e below F n0 Q T g := by
  obtain ⟨cl, Ar, q, Sz, M, H, G⟩ := V
  obtain ⟨T', h', X', e', W', st⟩ := stI X hx hZ eT Ar (j := j) (inb_of Sz hj) hg hs hd
  exact own_go st (kk T' h' _ X' e' (Fr.snoc X' N ga) W' (Arv.set Ar q Sz M H G rfl W' i hi hl))
theorem own_lastore (X : Stand p l e R s m args below meth c T locs cells slots) (hx : p.tables.exec = Jvm.exec) (hZ : Z.Warmed39 s.vm) {x : Int64} (eT : T.heap = h) (V : Arv Z h a k .long n vs dv) (hj : ¬ j < 0 ∧ j < n) (i : Nat) (hi : j.toNatClampNeg = i) (hl : i < vs.length) (N : Fr n0 locs) (ga : n0 ≤ a) (hg : g.method = m) (hs : g.stack = .long x :: .int j :: .ref a :: rest) (hd : decode c.code g.pc = .ok (.lastore, 1))
    (kk : ∀ T' h' locs', Stand p l e R s m args below meth c T' locs' cells slots → T'.heap = h' → Fr n0 locs' → Wr h h' a j.toNatClampNeg (.long x) → Arv Z h' a k .long n (vs.set i (.long x)) dv → OEnds p e below F n0 Q T' { g with pc := g.pc + 1, stack := rest }) : OEnds p e below F n0 Q T g := by
  obtain ⟨cl, Ar, q, Sz, M, H, G⟩ := V
  obtain ⟨T', h', X', e', W', st⟩ := stJ X hx hZ eT Ar (j := j) (inb_of Sz hj) hg hs hd
  exact own_go st (kk T' h' _ X' e' (Fr.snoc X' N ga) W' (Arv.set Ar q Sz M H G rfl W' i hi hl))
theorem own_bastore (X : Stand p l e R s m args below meth c T locs cells slots) (hx : p.tables.exec = Jvm.exec) (hZ : Z.Warmed39 s.vm) {x : Int32} (eT : T.heap = h) (V : Arv Z h a k .byte n vs dv) (hj : ¬ j < 0 ∧ j < n) (i : Nat) (hi : j.toNatClampNeg = i) (hl : i < vs.length) (N : Fr n0 locs) (ga : n0 ≤ a) (hg : g.method = m) (hs : g.stack = .int x :: .int j :: .ref a :: rest) (hd : decode c.code g.pc = .ok (.bastore, 1))
    (kk : ∀ T' h' locs', Stand p l e R s m args below meth c T' locs' cells slots → T'.heap = h' → Fr n0 locs' → Wr h h' a j.toNatClampNeg (.int (nar .byte x)) → Arv Z h' a k .byte n (vs.set i (.int (nar .byte x))) dv → OEnds p e below F n0 Q T' { g with pc := g.pc + 1, stack := rest }) : OEnds p e below F n0 Q T g := by
  obtain ⟨cl, Ar, q, Sz, M, H, G⟩ := V
  obtain ⟨T', h', X', e', W', st⟩ := stB X hx hZ eT Ar (j := j) (inb_of Sz hj) hg hs hd
  exact own_go st (kk T' h' _ X' e' (Fr.snoc X' N ga) W' (Arv.set Ar q Sz M H G (fits_nar_byte _) W' i hi hl))
theorem own_castore (X : Stand p l e R s m args below meth c T locs cells slots) (hx : p.tables.exec = Jvm.exec) (hZ : Z.Warmed39 s.vm) {x : Int32} (eT : T.heap = h) (V : Arv Z h a k .char n vs dv) (hj : ¬ j < 0 ∧ j < n) (i : Nat) (hi : j.toNatClampNeg = i) (hl : i < vs.length) (N : Fr n0 locs) (ga : n0 ≤ a) (hg : g.method = m) (hs : g.stack = .int x :: .int j :: .ref a :: rest) (hd : decode c.code g.pc = .ok (.castore, 1))
    (kk : ∀ T' h' locs', Stand p l e R s m args below meth c T' locs' cells slots → T'.heap = h' → Fr n0 locs' → Wr h h' a j.toNatClampNeg (.int (nar .char x)) → Arv Z h' a k .char n (vs.set i (.int (nar .char x))) dv → OEnds p e below F n0 Q T' { g with pc := g.pc + 1, stack := rest }) : OEnds p e below F n0 Q T g := by
  obtain ⟨cl, Ar, q, Sz, M, H, G⟩ := V
  obtain ⟨T', h', X', e', W', st⟩ := stC X hx hZ eT Ar (j := j) (inb_of Sz hj) hg hs hd
  exact own_go st (kk T' h' _ X' e' (Fr.snoc X' N ga) W' (Arv.set Ar q Sz M H G (fits_nar_char _) W' i hi hl))
/-! numbers -/
theorem own_lT {x y : Int64} (hh : x < y) : ifCond.holds .lt (lcmpW x y) = true ∧ ifCond.holds .ge (lcmpW x y) = false ∧ ifCond.holds .gt (lcmpW y x) = true ∧ ifCond.holds .le (lcmpW y x) = false := by
  simp only [if0]
  exact ⟨(tlt ((lw_lt x y).mpr hh)).1, (tlt ((lw_lt x y).mpr hh)).2.1, (tlt ((lw_gt y x).mpr hh)).2.2.1, (tlt ((lw_gt y x).mpr hh)).2.2.2⟩
theorem own_lF {x y : Int64} (hh : ¬ x < y) : ifCond.holds .lt (lcmpW x y) = false ∧ ifCond.holds .ge (lcmpW x y) = true ∧ ifCond.holds .gt (lcmpW y x) = false ∧ ifCond.holds .le (lcmpW y x) = true := by
  simp only [if0]
  have h1 : ¬ lcmpW x y < 0 := fun q => hh ((lw_lt x y).mp q)
  have h2 : ¬ 0 < lcmpW y x := fun q => hh ((lw_gt y x).mp q)
  exact ⟨(flt h1).1, (flt h1).2.1, (flt h2).2.2.1, (flt h2).2.2.2⟩
theorem own_eT {x y : Int64} (hh : x = y) : ifCond.holds .eq (lcmpW x y) = true ∧ ifCond.holds .ne (lcmpW x y) = false := by
  simp only [if0]
  exact teq ((lw_eq x y).mpr hh)
theorem own_eF {x y : Int64} (hh : ¬ x = y) : ifCond.holds .eq (lcmpW x y) = false ∧ ifCond.holds .ne (lcmpW x y) = true := by
  simp only [if0]
  exact feq (fun q => hh ((lw_eq x y).mp q))
end Own
theorem own_rng (x : Int64) : -9223372036854775808 ≤ x.toInt ∧ x.toInt ≤ 9223372036854775807 := by
  have h1 := Int64.le_toInt x; have h2 := Int64.toInt_lt x
  omega
theorem own_rngI (x : Int32) : -2147483648 ≤ x.toInt ∧ x.toInt ≤ 2147483647 := by
  have h1 := Int32.le_toInt x; have h2 := Int32.toInt_lt x
  omega
theorem own_ladd {x y : Int64} (h1 : -9223372036854775808 ≤ x.toInt + y.toInt) (h2 : x.toInt + y.toInt ≤ 9223372036854775807) : (x + y).toInt = x.toInt + y.toInt := by
  have := c_ladd x y; have := own_rng (x + y); omega
theorem own_lsub {x y : Int64} (h1 : -9223372036854775808 ≤ x.toInt - y.toInt) (h2 : x.toInt - y.toInt ≤ 9223372036854775807) : (x - y).toInt = x.toInt - y.toInt := by
  have := c_lsub x y; have := own_rng (x - y); omega
theorem own_l2i {x : Int64} (h1 : -2147483648 ≤ x.toInt) (h2 : x.toInt ≤ 2147483647) : x.toInt32.toInt = x.toInt := by
  have := c_l2i x; have := own_rngI x.toInt32; omega
theorem own_and_le (x m : Int64) (h : 0 ≤ x.toInt) : 0 ≤ (x &&& m).toInt ∧ (x &&& m).toInt ≤ x.toInt := by
  have q := (c_andSL x m).2.1 h
  refine ⟨q, ?_⟩
  have e1 : (x &&& m).toBitVec.toNat = x.toBitVec.toNat &&& m.toBitVec.toNat := by rw [Int64.toBitVec_and, BitVec.toNat_and]
  have e2 : x.toBitVec.toNat &&& m.toBitVec.toNat ≤ x.toBitVec.toNat := Nat.and_le_left
  change 0 ≤ x.toBitVec.toInt at h
  have f0 := x.toBitVec.isLt
  have f1 : 2 * x.toBitVec.toNat < 2 ^ 64 := by
    rw [BitVec.toInt_eq_toNat_cond] at h
    split at h
    · assumption
    · omega
  show (x &&& m).toBitVec.toInt ≤ x.toBitVec.toInt
  rw [BitVec.toInt_eq_toNat_cond, BitVec.toInt_eq_toNat_cond, if_pos (by omega), if_pos f1]
  omega
theorem own_shl0 (x : Int64) : x <<< ((0 : Int32) &&& 0x3f).toInt64 = x := by
  have e : ((0 : Int32) &&& 0x3f).toInt64 = 0 := by decide
  rw [e]; simp
def own_mask (b : Int32) : Int64 := ((1 : Int64) <<< (b &&& 0x3f).toInt64) - 1
def own_off (v : Int32) (r m : Int64) : Int64 := if v.toInt64 - (r &&& m) < -2147483648 then v.toInt64 + 2147483648 else r &&& m
def own_u (w : Int64) (sh : Int32) (m : Int64) (lo : Int32) : Int32 := (lo.toInt64 + (((w.toUInt64 >>> (sh &&& 0x3f).toInt64.toUInt64).toInt64) &&& m)).toInt32
theorem own_r33 {z b : Int32} (e : b = (z &&& 255) % 33) : 0 ≤ b.toInt ∧ b.toInt ≤ 32 := by
  have h1 := c_and z 255 (by decide)
  have h2 := (c_irem (z &&& 255) 33 33 rfl).1 h1.1
  rw [e, h2]; omega
theorem own_nz {z b : Int32} (e : b = (z &&& 255) % 33) : (65 : Int32) - b ≠ 0 := by
  have h1 := own_r33 e
  intro q
  have h2 := c_isub 65 b
  rw [q] at h2
  have e1 : (65 : Int32).toInt = 65 := rfl
  have e0 : (0 : Int32).toInt = 0 := rfl
  omega
theorem own_three (r : Int64) (y : Int32) (e : y = ((r &&& 2147483647).toInt32 % 3)) : y = 0 ∨ y = 1 ∨ y = 2 := by
  have h1 := c_maskL r 2147483647 31 (by decide) (by decide)
  have e1 : ((2 ^ 31 : Nat) : Int) = 2147483648 := by decide
  rw [e1] at h1
  have h2 : (r &&& 2147483647).toInt32.toInt = (r &&& 2147483647).toInt := own_l2i (by omega) (by omega)
  have h3 := (c_irem (r &&& 2147483647).toInt32 3 3 rfl).1 (by omega)
  rw [← e] at h3
  have h4 : y.toInt = 0 ∨ y.toInt = 1 ∨ y.toInt = 2 := by omega
  rcases h4 with q | q | q
  · exact Or.inl (Int32.toInt_inj.mp (q.trans rfl))
  · exact Or.inr (Or.inl (Int32.toInt_inj.mp (q.trans rfl)))
  · exact Or.inr (Or.inr (Int32.toInt_inj.mp (q.trans rfl)))
theorem own_ofk {b : Int32} {n : Nat} (h1 : 0 ≤ b.toInt) (h2 : b.toInt ≤ n) : ∃ k : Fin (n + 1), b = Int32.ofNat k.1 ∧ b.toInt = (k.1 : Int) := by
  refine ⟨⟨b.toInt.toNat, by omega⟩, ?_, by show b.toInt = ((b.toInt.toNat : Nat) : Int); omega⟩
  have := Int32.ofInt_toInt b
  conv => lhs; rw [← this]
  show Int32.ofInt b.toInt = Int32.ofNat b.toInt.toNat
  have e2 : b.toInt = ((b.toInt.toNat : Nat) : Int) := by omega
  conv => lhs; rw [e2]
  rfl
theorem own_mbits : ∀ k : Fin 33, ∀ i : Fin 64, (own_mask (Int32.ofNat k.1)).toBitVec.getLsbD i.1 = decide (i.1 < k.1) := by decide +kernel
theorem own_mint : ∀ k : Fin 33, (own_mask (Int32.ofNat k.1)).toInt = ((2 ^ k.1 : Nat) : Int) - 1 := by decide +kernel
theorem own_kmod : ∀ k : Fin 65, (Int32.ofNat k.1).toBitVec.toNat % 64 = k.1 % 64 := by decide +kernel
theorem own_ob {o : Int64} {k : Nat} (h0 : 0 ≤ o.toInt) (h1 : o.toInt < ((2 ^ k : Nat) : Int)) (i : Nat) (hi : k ≤ i) : o.toBitVec.getLsbD i = false := by
  have q : o.toBitVec.toNat < 2 ^ k := by
    change 0 ≤ o.toBitVec.toInt at h0; change o.toBitVec.toInt < _ at h1
    have := o.toBitVec.isLt
    rw [BitVec.toInt_eq_toNat_cond] at h0 h1
    split at h0 <;> omega
  rw [BitVec.getLsbD]; exact Nat.testBit_lt_two_pow (Nat.lt_of_lt_of_le q (Nat.pow_le_pow_right (by decide) hi))
theorem own_shlB (x : Int64) (q : Int32) (k : Nat) (hk : q.toBitVec.toNat % 64 = k) : (x <<< (q &&& 0x3f).toInt64).toBitVec = x.toBitVec <<< k := by
  show (x.toBitVec <<< ((q &&& 0x3f).toInt64.toBitVec.smod 64)) = _
  rw [BitVec.shiftLeft_eq', (sm64 q k hk).1, smod64 k (sm64 q k hk).2]
theorem own_shrB (x : Int64) (q : Int32) (k : Nat) (hk : q.toBitVec.toNat % 64 = k) : ((x.toUInt64 >>> (q &&& 0x3f).toInt64.toUInt64).toInt64).toBitVec = x.toBitVec >>> k := by
  have h5 := (sm64 q k hk).2
  show (x.toBitVec >>> ((q &&& 0x3f).toInt64.toBitVec % 64)) = _
  rw [BitVec.ushiftRight_eq', (sm64 q k hk).1, BitVec.toNat_umod, BitVec.toNat_ofNat]
  congr 1
  show k % 2 ^ 64 % 64 = k
  omega
theorem own_m1 : (-1 : Int64).toBitVec = BitVec.allOnes 64 := by decide
theorem own_bv0 (o0 o1 j m0 m1 : BitVec 64) (k : Nat) (hm : ∀ i, i < 64 → m0.getLsbD i = decide (i < k)) (ho : ∀ i, k ≤ i → o0.getLsbD i = false) : ((((o0 ||| (o1 <<< k)) ||| (j &&& ((m0 ||| (m1 <<< k)) ^^^ BitVec.allOnes 64))) >>> 0) &&& m0) = o0 := by
  apply BitVec.eq_of_getLsbD_eq; intro i hi
  simp only [BitVec.getLsbD_and, BitVec.getLsbD_or, BitVec.getLsbD_xor, BitVec.getLsbD_shiftLeft, BitVec.getLsbD_ushiftRight, BitVec.getLsbD_allOnes, Nat.zero_add, hm i hi]
  by_cases c : i < k
  · simp [c, hi]
  · simp [c, ho i (by omega)]
theorem own_bv1 (o0 o1 j m0 m1 : BitVec 64) (k k1 : Nat) (hk : k ≤ 32) (hk1 : k1 ≤ 32) (hm1 : ∀ i, i < 64 → m1.getLsbD i = decide (i < k1)) (ho : ∀ i, k ≤ i → o0.getLsbD i = false) (ho1 : ∀ i, k1 ≤ i → o1.getLsbD i = false) : ((((o0 ||| (o1 <<< k)) ||| (j &&& ((m0 ||| (m1 <<< k)) ^^^ BitVec.allOnes 64))) >>> k) &&& m1) = o1 := by
  apply BitVec.eq_of_getLsbD_eq; intro i hi
  simp only [BitVec.getLsbD_and, BitVec.getLsbD_or, BitVec.getLsbD_xor, BitVec.getLsbD_shiftLeft, BitVec.getLsbD_ushiftRight, BitVec.getLsbD_allOnes, hm1 i hi, ho (k + i) (by omega), Nat.add_sub_cancel_left]
  by_cases c : i < k1
  · have c2 : k + i < 64 := by omega
    have c4 : ¬ (k + i < k) := by omega
    simp [c, c2, c4]
  · simp [c, ho1 i (by omega)]
theorem own_bv2 (o j m : BitVec 64) (k kb : Nat) (hk : 0 < kb → k + kb ≤ 64) (hm : ∀ i, i < 64 → m.getLsbD i = decide (i < kb)) (ho : ∀ i, kb ≤ i → o.getLsbD i = false) : ((((o <<< k) ||| (j &&& ((m <<< k) ^^^ BitVec.allOnes 64))) >>> k) &&& m) = o := by
  apply BitVec.eq_of_getLsbD_eq; intro i hi
  simp only [BitVec.getLsbD_and, BitVec.getLsbD_or, BitVec.getLsbD_xor, BitVec.getLsbD_shiftLeft, BitVec.getLsbD_ushiftRight, BitVec.getLsbD_allOnes, hm i hi, Nat.add_sub_cancel_left]
  by_cases c : i < kb
  · have c2 : k + i < 64 := by have := hk (by omega); omega
    have c3 := hm (k + i - k) (by omega)
    rw [Nat.add_sub_cancel_left] at c3
    have c4 : ¬ (k + i < k) := by omega
    simp [c, c2, c4, hm i hi]
  · simp [c, ho i (by omega)]
theorem own_offr {v : Int32} {r m o : Int64} {b : Int32} {k : Fin 33} (hb : b = Int32.ofNat k.1) (em : m = own_mask b) (eo : o = own_off v r m) : 0 ≤ o.toInt ∧ o.toInt < ((2 ^ k.1 : Nat) : Int) ∧ -2147483648 ≤ v.toInt - o.toInt := by
  have hm : m.toInt = ((2 ^ k.1 : Nat) : Int) - 1 := by rw [em, hb]; exact own_mint k
  have hp : ((2 ^ k.1 : Nat) : Int) ≤ 4294967296 := by
    have := Nat.pow_le_pow_right (show 0 < 2 by decide) (show k.1 ≤ 32 by omega)
    have e : 2 ^ 32 = 4294967296 := by decide
    omega
  have hp0 : 0 < 2 ^ k.1 := Nat.pow_pos (by decide)
  have h1 := own_and_le m r (by omega)
  rw [Int64.and_comm] at h1
  have hv := own_rngI v
  have h2 : (v.toInt64 - (r &&& m)).toInt = v.toInt - (r &&& m).toInt := by rw [own_lsub (by rw [c_i2l]; omega) (by rw [c_i2l]; omega), c_i2l]
  have eM : (-2147483648 : Int64).toInt = -2147483648 := rfl
  have eP : (2147483648 : Int64).toInt = 2147483648 := rfl
  unfold own_off at eo
  by_cases c : v.toInt64 - (r &&& m) < -2147483648
  · rw [if_pos c] at eo
    rw [Int64.lt_iff_toInt_lt, h2, eM] at c
    have h3 : o.toInt = v.toInt + 2147483648 := by rw [eo, own_ladd (by rw [c_i2l]; omega) (by rw [c_i2l]; omega), c_i2l, eP]
    omega
  · rw [if_neg c] at eo
    rw [Int64.lt_iff_toInt_lt, h2, eM] at c
    rw [eo]; omega
theorem own_endv {v low : Int32} {o : Int64} (h0 : 0 ≤ o.toInt) (h1 : -2147483648 ≤ v.toInt - o.toInt) (e : low = (v.toInt64 - o).toInt32) : (low.toInt64 + o).toInt32 = v := by
  have hv := own_rngI v
  have ho : o.toInt ≤ 4294967295 := by omega
  have h2 : (v.toInt64 - o).toInt = v.toInt - o.toInt := by rw [own_lsub (by rw [c_i2l]; omega) (by rw [c_i2l]; omega), c_i2l]
  have h3 : low.toInt = v.toInt - o.toInt := by rw [e, own_l2i (by omega) (by omega), h2]
  have h4 : (low.toInt64 + o).toInt = v.toInt := by rw [own_ladd (by rw [c_i2l]; omega) (by rw [c_i2l]; omega), c_i2l]; omega
  apply Int32.toInt_inj.mp
  rw [own_l2i (by omega) (by omega), h4]
theorem own_f0 {z b0 v0 low0 : Int32} {m0 o0 r0 m1 o1 fld w0 j : Int64} (e10 : b0 = (z &&& 255) % 33) (e15 : m0 = own_mask b0) (e24 : o0 = own_off v0 r0 m0) (e30 : low0 = (v0.toInt64 - o0).toInt32) (e33 : fld = m0 ||| (m1 <<< (b0 &&& 0x3f).toInt64)) (e35 : w0 = (o0 ||| (o1 <<< (b0 &&& 0x3f).toInt64)) ||| (j &&& (fld ^^^ -1))) : own_u w0 0 m0 low0 = v0 := by
  have hb := own_r33 e10
  obtain ⟨k, hk, hki⟩ := own_ofk (n := 32) hb.1 hb.2
  have ho := own_offr hk e15 e24
  have hkm : b0.toBitVec.toNat % 64 = k.1 := by rw [hk]; exact (own_kmod ⟨k.1, by omega⟩).trans (Nat.mod_eq_of_lt (show k.1 < 64 by omega))
  have key : ((w0.toUInt64 >>> ((0 : Int32) &&& 0x3f).toInt64.toUInt64).toInt64) &&& m0 = o0 := by
    apply Int64.toBitVec_inj.mp
    rw [Int64.toBitVec_and, own_shrB w0 0 0 (by decide), e35, e33, Int64.toBitVec_or, Int64.toBitVec_or, Int64.toBitVec_and, Int64.toBitVec_xor, Int64.toBitVec_or, own_shlB o1 b0 k.1 hkm, own_shlB m1 b0 k.1 hkm, own_m1]
    exact own_bv0 _ _ _ _ _ k.1 (fun i hi => by rw [e15, hk]; exact own_mbits k ⟨i, hi⟩) (own_ob ho.1 ho.2.1)
  unfold own_u
  rw [key]
  exact own_endv ho.1 ho.2.2 e30
theorem own_f1 {z z1 b0 b1 v0 v1 low1 : Int32} {m0 o0 r0 m1 o1 r1 fld w0 j : Int64} (e10 : b0 = (z &&& 255) % 33) (e11 : b1 = (z1 &&& 255) % 33) (e15 : m0 = own_mask b0) (e17 : m1 = own_mask b1) (e24 : o0 = own_off v0 r0 m0) (e26 : o1 = own_off v1 r1 m1) (e31 : low1 = (v1.toInt64 - o1).toInt32) (e33 : fld = m0 ||| (m1 <<< (b0 &&& 0x3f).toInt64)) (e35 : w0 = (o0 ||| (o1 <<< (b0 &&& 0x3f).toInt64)) ||| (j &&& (fld ^^^ -1))) : own_u w0 b0 m1 low1 = v1 := by
  have hb := own_r33 e10; have hb1 := own_r33 e11
  obtain ⟨k, hk, hki⟩ := own_ofk (n := 32) hb.1 hb.2
  obtain ⟨k1, hk1, hki1⟩ := own_ofk (n := 32) hb1.1 hb1.2
  have ho := own_offr hk e15 e24
  have ho1 := own_offr hk1 e17 e26
  have hkm : b0.toBitVec.toNat % 64 = k.1 := by rw [hk]; exact (own_kmod ⟨k.1, by omega⟩).trans (Nat.mod_eq_of_lt (show k.1 < 64 by omega))
  have key : ((w0.toUInt64 >>> (b0 &&& 0x3f).toInt64.toUInt64).toInt64) &&& m1 = o1 := by
    apply Int64.toBitVec_inj.mp
    rw [Int64.toBitVec_and, own_shrB w0 b0 k.1 hkm, e35, e33, Int64.toBitVec_or, Int64.toBitVec_or, Int64.toBitVec_and, Int64.toBitVec_xor, Int64.toBitVec_or, own_shlB o1 b0 k.1 hkm, own_shlB m1 b0 k.1 hkm, own_m1]
    exact own_bv1 _ _ _ _ _ k.1 k1.1 (by omega) (by omega) (fun i hi => by rw [e17, hk1]; exact own_mbits k1 ⟨i, hi⟩) (own_ob ho.1 ho.2.1) (own_ob ho1.1 ho1.2.1)
  unfold own_u
  rw [key]
  exact own_endv ho1.1 ho1.2.2 e31
theorem own_f2 {z z3 b s v low : Int32} {m o r fld w j : Int64} (e12 : b = (z &&& 255) % 33) (e13 : s = (z3 &&& 127) % (65 - b)) (e19 : m = own_mask b) (e28 : o = own_off v r m) (e32 : low = (v.toInt64 - o).toInt32) (e37 : fld = m <<< (s &&& 0x3f).toInt64) (e39 : w = (o <<< (s &&& 0x3f).toInt64) ||| ((j ^^^ -1) &&& (fld ^^^ -1))) : own_u w s m low = v := by
  have hb := own_r33 e12
  obtain ⟨k, hk, hki⟩ := own_ofk (n := 32) hb.1 hb.2
  have ho := own_offr hk e19 e28
  have e65 : (65 : Int32).toInt = 65 := rfl
  have h65 : ((65 : Int32) - b).toInt = 65 - b.toInt := by have := c_isub 65 b; have := own_rngI (65 - b); omega
  have h1 := c_and z3 127 (by decide)
  have hs := (c_iremV (z3 &&& 127) (65 - b)).1 h1.1 (by omega)
  rw [← e13] at hs
  obtain ⟨t, ht, hti⟩ := own_ofk (b := s) (n := 64) hs.1 (by omega)
  have hkm : s.toBitVec.toNat % 64 = t.1 % 64 := by rw [ht]; exact own_kmod t
  have key : ((w.toUInt64 >>> (s &&& 0x3f).toInt64.toUInt64).toInt64) &&& m = o := by
    apply Int64.toBitVec_inj.mp
    rw [Int64.toBitVec_and, own_shrB w s _ hkm, e39, e37, Int64.toBitVec_or, Int64.toBitVec_and, Int64.toBitVec_xor _ (-1), own_shlB o s _ hkm, Int64.toBitVec_xor (m <<< _), own_shlB m s _ hkm, own_m1]
    exact own_bv2 _ _ _ _ k.1 (fun q => by omega) (fun i hi => by rw [e19, hk]; exact own_mbits k ⟨i, hi⟩) (own_ob ho.1 ho.2.1)
  unfold own_u
  rw [key]
  exact own_endv ho.1 ho.2.2 e32
theorem own_d4_0 : decode jdk_30_method_1_code 0 = .ok (.aload_n 0, 1) := by decide +kernel
theorem own_d4_1 : decode jdk_30_method_1_code 1 = .ok (.invokespecial 1, 3) := by decide +kernel
theorem own_d4_4 : decode jdk_30_method_1_code 4 = .ok (.return_, 1) := by decide +kernel
theorem own_pn_4 : plainFor (⟨"java/lang/Record", "<init>", "()V"⟩ : MethodName) = true := by first | exact plainFor_of_name (by first | (simp [plainName, overriddenIn]; done) | decide +kernel) | decide +kernel
theorem own_ef_own_rec (m : MethodId) (x0 : Addr) : entryFrame m #[(.ref x0)] 1 = mkF m 0 #[.val (.ref x0)] [] := by first | (simp [entryFrame, mkF, argsToLocals, Value.category]; done) | rfl
set_option maxRecDepth 65536 in
set_option maxHeartbeats 40000000 in
theorem own_rec (l : Launch) (Z : State) (a0 : Array Value) (hw : ∀ d ∈ tables_1, d.before a0 Z = true) (a1 : Addr) (h0 : Heap) (n0 : Nat) (Z0 : n0 ≤ h0.size)  :
    OCon l (⟨"java/lang/Record", "<init>", "()V"⟩ : MethodName) jdk_30_method_1_code 1 none ({ frames := 1, cells := 0, slots := 0, locals := 12 } : Room) Z #[(.ref a1)] h0 n0 (fun v h => v = none ∧ h = h0) := by
  refine own_body own_pn_4 ?_
  intro p e s m below meth c T0 hx hZ hby hml hown hnm hret hlk e0 X0
  replace hown : s.vm.findClass "java/lang/Record" = some m.cls := hown
  replace hnm : meth.name = "<init>" := hnm
  have N0 := Fr.nil n0
  have K0 : Keep h0 h0 [] := Keep.refl _ _
  refine own_at (own_ef_own_rec m a1) ?_
  refine own_go (fun t kt => XS.aloadN X0.here hx rfl (hb hby own_d4_0) rfl rfl kt) ?_
  refine own_initO X0 hx hZ (W := 0) hown (hw _ (List.mem_of_getElem? (i := 26) rfl)) (hw _ (List.mem_of_getElem? (i := 27) rfl)) (hw _ (List.mem_of_getElem? (i := 28) rfl)) e0 (g := (mkF m 1 #[.val (.ref a1)] [(.ref a1)])) rfl (by rw [hml]; rfl) rfl (hb hby own_d4_1) (by decide) (by show 2 * 0 + _ ≤ _; exact Nat.le_of_eq rfl) (by decide) (fun T1 X1 e1 => ?_)
  show OEnds _ _ _ _ _ _ T1 (mkF m 4 #[.val (.ref a1)] [])
  exact own_retV X1 hx hlk hret (hb hby own_d4_4) e1 N0 (by decide) (by decide) (⟨rfl, rfl⟩)
theorem own_d3_0 : decode prog_44_method_1_code 0 = .ok (.aload_n 0, 1) := by decide +kernel
theorem own_d3_1 : decode prog_44_method_1_code 1 = .ok (.invokespecial 1, 3) := by decide +kernel
theorem own_d3_4 : decode prog_44_method_1_code 4 = .ok (.aload_n 0, 1) := by decide +kernel
theorem own_d3_5 : decode prog_44_method_1_code 5 = .ok (.iload_n 1, 1) := by decide +kernel
theorem own_d3_6 : decode prog_44_method_1_code 6 = .ok (.putfield 7, 3) := by decide +kernel
theorem own_d3_9 : decode prog_44_method_1_code 9 = .ok (.aload_n 0, 1) := by decide +kernel
theorem own_d3_10 : decode prog_44_method_1_code 10 = .ok (.aload_n 2, 1) := by decide +kernel
theorem own_d3_11 : decode prog_44_method_1_code 11 = .ok (.putfield 13, 3) := by decide +kernel
theorem own_d3_14 : decode prog_44_method_1_code 14 = .ok (.aload_n 0, 1) := by decide +kernel
theorem own_d3_15 : decode prog_44_method_1_code 15 = .ok (.aload_n 3, 1) := by decide +kernel
theorem own_d3_16 : decode prog_44_method_1_code 16 = .ok (.putfield 17, 3) := by decide +kernel
theorem own_d3_19 : decode prog_44_method_1_code 19 = .ok (.aload_n 0, 1) := by decide +kernel
theorem own_d3_20 : decode prog_44_method_1_code 20 = .ok (.aload 4, 2) := by decide +kernel
theorem own_d3_22 : decode prog_44_method_1_code 22 = .ok (.putfield 20, 3) := by decide +kernel
theorem own_d3_25 : decode prog_44_method_1_code 25 = .ok (.aload_n 0, 1) := by decide +kernel
theorem own_d3_26 : decode prog_44_method_1_code 26 = .ok (.aload 5, 2) := by decide +kernel
theorem own_d3_28 : decode prog_44_method_1_code 28 = .ok (.putfield 24, 3) := by decide +kernel
theorem own_d3_31 : decode prog_44_method_1_code 31 = .ok (.return_, 1) := by decide +kernel
theorem own_pd0 : parseMethodDescriptor "()V" = some ⟨[], none⟩ := by decide +kernel
theorem own_pn_3 : plainFor (⟨"com/example/keen_odds/keenodds/io/GclStateSpace$Layout", "<init>", "(I[I[I[J[I)V"⟩ : MethodName) = true := by first | exact plainFor_of_name (by first | (simp [plainName, overriddenIn]; done) | decide +kernel) | decide +kernel
theorem own_ef_own_ini (m : MethodId) (x0 : Addr) (x2 : Addr) (x3 : Addr) (x4 : Addr) (x5 : Addr) : entryFrame m #[(.ref x0), (.int (2 : Int32)), (.ref x2), (.ref x3), (.ref x4), (.ref x5)] 6 = mkF m 0 #[.val (.ref x0), .val (.int (2 : Int32)), .val (.ref x2), .val (.ref x3), .val (.ref x4), .val (.ref x5)] [] := by first | (simp [entryFrame, mkF, argsToLocals, Value.category]; done) | rfl
set_option maxRecDepth 65536 in
set_option maxHeartbeats 40000000 in
theorem own_ini (l : Launch) (Z : State) (a0 : Array Value) (hw : ∀ d ∈ tables_1, d.before a0 Z = true) (a1 r2 r3 r4 r5 : Addr) (h0 : Heap) (n0 : Nat) (Z0 : n0 ≤ h0.size) (E_a1 : Exa Z h0 a1 "com/example/keen_odds/keenodds/io/GclStateSpace$Layout") (F_width : Fld Z h0 a1 "com/example/keen_odds/keenodds/io/GclStateSpace$Layout" "width" "I" (.int (0 : Int32))) (F_word : Fld Z h0 a1 "com/example/keen_odds/keenodds/io/GclStateSpace$Layout" "word" "[I" .null) (F_shift : Fld Z h0 a1 "com/example/keen_odds/keenodds/io/GclStateSpace$Layout" "shift" "[I" .null) (F_mask : Fld Z h0 a1 "com/example/keen_odds/keenodds/io/GclStateSpace$Layout" "mask" "[J" .null) (F_low : Fld Z h0 a1 "com/example/keen_odds/keenodds/io/GclStateSpace$Layout" "low" "[I" .null) (ge_a1 : n0 ≤ a1) :
    OCon l (⟨"com/example/keen_odds/keenodds/io/GclStateSpace$Layout", "<init>", "(I[I[I[J[I)V"⟩ : MethodName) prog_44_method_1_code 6 none ({ frames := 2, cells := 0, slots := 0, locals := 24 } : Room) Z #[(.ref a1), (.int (2 : Int32)), (.ref r2), (.ref r3), (.ref r4), (.ref r5)] h0 n0 (fun v h => v = none ∧ Keep h0 h [a1] ∧ Exa Z h a1 "com/example/keen_odds/keenodds/io/GclStateSpace$Layout" ∧ Fld Z h a1 "com/example/keen_odds/keenodds/io/GclStateSpace$Layout" "width" "I" (.int (2 : Int32)) ∧ Fld Z h a1 "com/example/keen_odds/keenodds/io/GclStateSpace$Layout" "word" "[I" (.ref r2) ∧ Fld Z h a1 "com/example/keen_odds/keenodds/io/GclStateSpace$Layout" "shift" "[I" (.ref r3) ∧ Fld Z h a1 "com/example/keen_odds/keenodds/io/GclStateSpace$Layout" "mask" "[J" (.ref r4) ∧ Fld Z h a1 "com/example/keen_odds/keenodds/io/GclStateSpace$Layout" "low" "[I" (.ref r5)) := by
  refine own_body own_pn_3 ?_
  intro p e s m below meth c T0 hx hZ hby hml hown hnm hret hlk e0 X0
  replace hown : s.vm.findClass "com/example/keen_odds/keenodds/io/GclStateSpace$Layout" = some m.cls := hown
  replace hnm : meth.name = "<init>" := hnm
  have N0 := Fr.nil n0
  have K0 : Keep h0 h0 [a1] := Keep.refl _ _
  refine own_at (own_ef_own_ini m a1 r2 r3 r4 r5) ?_
  refine own_go (fun t kt => XS.aloadN X0.here hx rfl (hb hby own_d3_0) rfl rfl kt) ?_
  refine own_callC X0 hx hZ (W := 0) (argsL := []) (rest := []) rfl hown (hw _ (List.mem_of_getElem? (i := 21) rfl)) (hw _ (List.mem_of_getElem? (i := 22) rfl)) (hw _ (List.mem_of_getElem? (i := 24) rfl)) (hw _ (List.mem_of_getElem? (i := 25) rfl)) (by decide) (own_rec l Z a0 hw a1 h0 n0 Z0) (by decide) (by decide) (g := (mkF m 1 #[.val (.ref a1), .val (.int (2 : Int32)), .val (.ref r2), .val (.ref r3), .val (.ref r4), .val (.ref r5)] [(.ref a1)])) rfl (by rw [hml]; rfl) (lenOf own_pd0 rfl) rfl (by show 2 * 0 + _ ≤ _; exact Nat.le_of_eq rfl) (hb hby own_d3_1) e0 N0 (by decide) (by decide) (fun v1 T1 L1 X1 N1 hq1 => ?_)
  obtain ⟨rfl, e1⟩ := hq1
  show OEnds _ _ _ _ _ _ T1 (mkF m 4 #[.val (.ref a1), .val (.int (2 : Int32)), .val (.ref r2), .val (.ref r3), .val (.ref r4), .val (.ref r5)] [])
  refine own_go (fun t kt => XS.aloadN X1.here hx rfl (hb hby own_d3_4) rfl rfl kt) ?_
  refine own_go (fun t kt => XS.iloadN X1.here hx rfl (hb hby own_d3_5) rfl kt) ?_
  refine own_putF X1 hx hZ (v' := (.int (2 : Int32))) hown (hw _ (List.mem_of_getElem? (i := 29) rfl)) e1 F_width E_a1 (Or.inr ⟨(hw _ (List.mem_of_getElem? (i := 30) rfl)), rfl, hnm⟩) (hw _ (List.mem_of_getElem? (i := 16) rfl)) (ty := .int) (by decide) rfl rfl N1 ge_a1 (g := (mkF m 6 #[.val (.ref a1), .val (.int (2 : Int32)), .val (.ref r2), .val (.ref r3), .val (.ref r4), .val (.ref r5)] [(.int (2 : Int32)), (.ref a1)])) rfl rfl (hb hby own_d3_6) (fun T2 h2 L2 X2 e2 N2 W2 F2 => ?_)
  show OEnds _ _ _ _ _ _ T2 (mkF m 9 #[.val (.ref a1), .val (.int (2 : Int32)), .val (.ref r2), .val (.ref r3), .val (.ref r4), .val (.ref r5)] [])
  have E_a1_h2 := E_a1.wr W2
  have F_word_h2 := F_word.other W2 (Or.inr (slot_ne (Or.inr (hw _ (List.mem_of_getElem? (i := 32) rfl))) (Or.inr (hw _ (List.mem_of_getElem? (i := 30) rfl))) (by decide) (t := (.array .int)) (t' := .int) (by decide) (by decide)))
  have F_shift_h2 := F_shift.other W2 (Or.inr (slot_ne (Or.inr (hw _ (List.mem_of_getElem? (i := 34) rfl))) (Or.inr (hw _ (List.mem_of_getElem? (i := 30) rfl))) (by decide) (t := (.array .int)) (t' := .int) (by decide) (by decide)))
  have F_mask_h2 := F_mask.other W2 (Or.inr (slot_ne (Or.inr (hw _ (List.mem_of_getElem? (i := 36) rfl))) (Or.inr (hw _ (List.mem_of_getElem? (i := 30) rfl))) (by decide) (t := (.array .long)) (t' := .int) (by decide) (by decide)))
  have F_low_h2 := F_low.other W2 (Or.inr (slot_ne (Or.inr (hw _ (List.mem_of_getElem? (i := 38) rfl))) (Or.inr (hw _ (List.mem_of_getElem? (i := 30) rfl))) (by decide) (t := (.array .int)) (t' := .int) (by decide) (by decide)))
  have K2 := K0.wr W2 (Or.inl (List.mem_of_getElem? (i := 0) rfl))
  refine own_go (fun t kt => XS.aloadN X2.here hx rfl (hb hby own_d3_9) rfl rfl kt) ?_
  refine own_go (fun t kt => XS.aloadN X2.here hx rfl (hb hby own_d3_10) rfl rfl kt) ?_
  refine own_putF X2 hx hZ (v' := (.ref r2)) hown (hw _ (List.mem_of_getElem? (i := 31) rfl)) e2 F_word_h2 E_a1_h2 (Or.inr ⟨(hw _ (List.mem_of_getElem? (i := 32) rfl)), rfl, hnm⟩) (hw _ (List.mem_of_getElem? (i := 16) rfl)) (ty := (.array .int)) (by decide) rfl rfl N2 ge_a1 (g := (mkF m 11 #[.val (.ref a1), .val (.int (2 : Int32)), .val (.ref r2), .val (.ref r3), .val (.ref r4), .val (.ref r5)] [(.ref r2), (.ref a1)])) rfl rfl (hb hby own_d3_11) (fun T3 h3 L3 X3 e3 N3 W3 F3 => ?_)
  show OEnds _ _ _ _ _ _ T3 (mkF m 14 #[.val (.ref a1), .val (.int (2 : Int32)), .val (.ref r2), .val (.ref r3), .val (.ref r4), .val (.ref r5)] [])
  have E_a1_h3 := E_a1_h2.wr W3
  have F_shift_h3 := F_shift_h2.other W3 (Or.inr (slot_ne (Or.inr (hw _ (List.mem_of_getElem? (i := 34) rfl))) (Or.inr (hw _ (List.mem_of_getElem? (i := 32) rfl))) (by decide) (t := (.array .int)) (t' := (.array .int)) (by decide) (by decide)))
  have F_mask_h3 := F_mask_h2.other W3 (Or.inr (slot_ne (Or.inr (hw _ (List.mem_of_getElem? (i := 36) rfl))) (Or.inr (hw _ (List.mem_of_getElem? (i := 32) rfl))) (by decide) (t := (.array .long)) (t' := (.array .int)) (by decide) (by decide)))
  have F_low_h3 := F_low_h2.other W3 (Or.inr (slot_ne (Or.inr (hw _ (List.mem_of_getElem? (i := 38) rfl))) (Or.inr (hw _ (List.mem_of_getElem? (i := 32) rfl))) (by decide) (t := (.array .int)) (t' := (.array .int)) (by decide) (by decide)))
  have F2_h3 := F2.other W3 (Or.inr (slot_ne (Or.inr (hw _ (List.mem_of_getElem? (i := 30) rfl))) (Or.inr (hw _ (List.mem_of_getElem? (i := 32) rfl))) (by decide) (t := .int) (t' := (.array .int)) (by decide) (by decide)))
  have K3 := K2.wr W3 (Or.inl (List.mem_of_getElem? (i := 0) rfl))
  refine own_go (fun t kt => XS.aloadN X3.here hx rfl (hb hby own_d3_14) rfl rfl kt) ?_
  refine own_go (fun t kt => XS.aloadN X3.here hx rfl (hb hby own_d3_15) rfl rfl kt) ?_
  refine own_putF X3 hx hZ (v' := (.ref r3)) hown (hw _ (List.mem_of_getElem? (i := 33) rfl)) e3 F_shift_h3 E_a1_h3 (Or.inr ⟨(hw _ (List.mem_of_getElem? (i := 34) rfl)), rfl, hnm⟩) (hw _ (List.mem_of_getElem? (i := 16) rfl)) (ty := (.array .int)) (by decide) rfl rfl N3 ge_a1 (g := (mkF m 16 #[.val (.ref a1), .val (.int (2 : Int32)), .val (.ref r2), .val (.ref r3), .val (.ref r4), .val (.ref r5)] [(.ref r3), (.ref a1)])) rfl rfl (hb hby own_d3_16) (fun T4 h4 L4 X4 e4 N4 W4 F4 => ?_)
  show OEnds _ _ _ _ _ _ T4 (mkF m 19 #[.val (.ref a1), .val (.int (2 : Int32)), .val (.ref r2), .val (.ref r3), .val (.ref r4), .val (.ref r5)] [])
  have E_a1_h4 := E_a1_h3.wr W4
  have F_mask_h4 := F_mask_h3.other W4 (Or.inr (slot_ne (Or.inr (hw _ (List.mem_of_getElem? (i := 36) rfl))) (Or.inr (hw _ (List.mem_of_getElem? (i := 34) rfl))) (by decide) (t := (.array .long)) (t' := (.array .int)) (by decide) (by decide)))
  have F_low_h4 := F_low_h3.other W4 (Or.inr (slot_ne (Or.inr (hw _ (List.mem_of_getElem? (i := 38) rfl))) (Or.inr (hw _ (List.mem_of_getElem? (i := 34) rfl))) (by decide) (t := (.array .int)) (t' := (.array .int)) (by decide) (by decide)))
  have F2_h4 := F2_h3.other W4 (Or.inr (slot_ne (Or.inr (hw _ (List.mem_of_getElem? (i := 30) rfl))) (Or.inr (hw _ (List.mem_of_getElem? (i := 34) rfl))) (by decide) (t := .int) (t' := (.array .int)) (by decide) (by decide)))
  have F3_h4 := F3.other W4 (Or.inr (slot_ne (Or.inr (hw _ (List.mem_of_getElem? (i := 32) rfl))) (Or.inr (hw _ (List.mem_of_getElem? (i := 34) rfl))) (by decide) (t := (.array .int)) (t' := (.array .int)) (by decide) (by decide)))
  have K4 := K3.wr W4 (Or.inl (List.mem_of_getElem? (i := 0) rfl))
  refine own_go (g' := (mkF m 20 #[.val (.ref a1), .val (.int (2 : Int32)), .val (.ref r2), .val (.ref r3), .val (.ref r4), .val (.ref r5)] [(.ref a1)])) (fun t kt => XS.aloadN X4.here hx rfl (hb hby own_d3_19) rfl rfl kt) ?_
  refine own_go (fun t kt => XS.aload X4.here hx rfl (hb hby own_d3_20) rfl rfl kt) ?_
  refine own_putF X4 hx hZ (v' := (.ref r4)) hown (hw _ (List.mem_of_getElem? (i := 35) rfl)) e4 F_mask_h4 E_a1_h4 (Or.inr ⟨(hw _ (List.mem_of_getElem? (i := 36) rfl)), rfl, hnm⟩) (hw _ (List.mem_of_getElem? (i := 16) rfl)) (ty := (.array .long)) (by decide) rfl rfl N4 ge_a1 (g := (mkF m 22 #[.val (.ref a1), .val (.int (2 : Int32)), .val (.ref r2), .val (.ref r3), .val (.ref r4), .val (.ref r5)] [(.ref r4), (.ref a1)])) rfl rfl (hb hby own_d3_22) (fun T5 h5 L5 X5 e5 N5 W5 F5 => ?_)
  show OEnds _ _ _ _ _ _ T5 (mkF m 25 #[.val (.ref a1), .val (.int (2 : Int32)), .val (.ref r2), .val (.ref r3), .val (.ref r4), .val (.ref r5)] [])
  have E_a1_h5 := E_a1_h4.wr W5
  have F_low_h5 := F_low_h4.other W5 (Or.inr (slot_ne (Or.inr (hw _ (List.mem_of_getElem? (i := 38) rfl))) (Or.inr (hw _ (List.mem_of_getElem? (i := 36) rfl))) (by decide) (t := (.array .int)) (t' := (.array .long)) (by decide) (by decide)))
  have F2_h5 := F2_h4.other W5 (Or.inr (slot_ne (Or.inr (hw _ (List.mem_of_getElem? (i := 30) rfl))) (Or.inr (hw _ (List.mem_of_getElem? (i := 36) rfl))) (by decide) (t := .int) (t' := (.array .long)) (by decide) (by decide)))
  have F3_h5 := F3_h4.other W5 (Or.inr (slot_ne (Or.inr (hw _ (List.mem_of_getElem? (i := 32) rfl))) (Or.inr (hw _ (List.mem_of_getElem? (i := 36) rfl))) (by decide) (t := (.array .int)) (t' := (.array .long)) (by decide) (by decide)))
  have F4_h5 := F4.other W5 (Or.inr (slot_ne (Or.inr (hw _ (List.mem_of_getElem? (i := 34) rfl))) (Or.inr (hw _ (List.mem_of_getElem? (i := 36) rfl))) (by decide) (t := (.array .int)) (t' := (.array .long)) (by decide) (by decide)))
  have K5 := K4.wr W5 (Or.inl (List.mem_of_getElem? (i := 0) rfl))
  refine own_go (fun t kt => XS.aloadN X5.here hx rfl (hb hby own_d3_25) rfl rfl kt) ?_
  refine own_go (fun t kt => XS.aload X5.here hx rfl (hb hby own_d3_26) rfl rfl kt) ?_
  refine own_putF X5 hx hZ (v' := (.ref r5)) hown (hw _ (List.mem_of_getElem? (i := 37) rfl)) e5 F_low_h5 E_a1_h5 (Or.inr ⟨(hw _ (List.mem_of_getElem? (i := 38) rfl)), rfl, hnm⟩) (hw _ (List.mem_of_getElem? (i := 16) rfl)) (ty := (.array .int)) (by decide) rfl rfl N5 ge_a1 (g := (mkF m 28 #[.val (.ref a1), .val (.int (2 : Int32)), .val (.ref r2), .val (.ref r3), .val (.ref r4), .val (.ref r5)] [(.ref r5), (.ref a1)])) rfl rfl (hb hby own_d3_28) (fun T6 h6 L6 X6 e6 N6 W6 F6 => ?_)
  show OEnds _ _ _ _ _ _ T6 (mkF m 31 #[.val (.ref a1), .val (.int (2 : Int32)), .val (.ref r2), .val (.ref r3), .val (.ref r4), .val (.ref r5)] [])
  have E_a1_h6 := E_a1_h5.wr W6
  have F2_h6 := F2_h5.other W6 (Or.inr (slot_ne (Or.inr (hw _ (List.mem_of_getElem? (i := 30) rfl))) (Or.inr (hw _ (List.mem_of_getElem? (i := 38) rfl))) (by decide) (t := .int) (t' := (.array .int)) (by decide) (by decide)))
  have F3_h6 := F3_h5.other W6 (Or.inr (slot_ne (Or.inr (hw _ (List.mem_of_getElem? (i := 32) rfl))) (Or.inr (hw _ (List.mem_of_getElem? (i := 38) rfl))) (by decide) (t := (.array .int)) (t' := (.array .int)) (by decide) (by decide)))
  have F4_h6 := F4_h5.other W6 (Or.inr (slot_ne (Or.inr (hw _ (List.mem_of_getElem? (i := 34) rfl))) (Or.inr (hw _ (List.mem_of_getElem? (i := 38) rfl))) (by decide) (t := (.array .int)) (t' := (.array .int)) (by decide) (by decide)))
  have F5_h6 := F5.other W6 (Or.inr (slot_ne (Or.inr (hw _ (List.mem_of_getElem? (i := 36) rfl))) (Or.inr (hw _ (List.mem_of_getElem? (i := 38) rfl))) (by decide) (t := (.array .long)) (t' := (.array .int)) (by decide) (by decide)))
  have K6 := K5.wr W6 (Or.inl (List.mem_of_getElem? (i := 0) rfl))
  exact own_retV X6 hx hlk hret (hb hby own_d3_31) e6 N6 (by decide) (by decide) (⟨rfl, K6, E_a1_h6, F2_h6, F3_h6, F4_h6, F5_h6, F6⟩)
theorem own_d1_0 : decode method_2_code 0 = .ok (.lconst 1, 1) := by decide +kernel
theorem own_d1_1 : decode method_2_code 1 = .ok (.iload_n 0, 1) := by decide +kernel
theorem own_d1_2 : decode method_2_code 2 = .ok (.lshl, 1) := by decide +kernel
theorem own_d1_3 : decode method_2_code 3 = .ok (.lconst 1, 1) := by decide +kernel
theorem own_d1_4 : decode method_2_code 4 = .ok (.lsub, 1) := by decide +kernel
theorem own_d1_5 : decode method_2_code 5 = .ok (.lreturn, 1) := by decide +kernel
theorem own_pn_1 : plainFor (⟨"com/example/keen_odds/keenodds/io/LayoutUnpackPinLaw", "maskOf", "(I)J"⟩ : MethodName) = true := by first | exact plainFor_of_name (by first | (simp [plainName, overriddenIn]; done) | decide +kernel) | decide +kernel
theorem own_ef_own_maskm (m : MethodId) (x0 : Int32) : entryFrame m #[(.int x0)] 1 = mkF m 0 #[.val (.int x0)] [] := by first | (simp [entryFrame, mkF, argsToLocals, Value.category]; done) | rfl
set_option maxRecDepth 65536 in
set_option maxHeartbeats 40000000 in
theorem own_maskm (l : Launch) (Z : State) (a0 : Array Value) (hw : ∀ d ∈ tables_1, d.before a0 Z = true) (p1 : Int32) (h0 : Heap) (n0 : Nat) (Z0 : n0 ≤ h0.size)  :
    OCon l (⟨"com/example/keen_odds/keenodds/io/LayoutUnpackPinLaw", "maskOf", "(I)J"⟩ : MethodName) method_2_code 1 (some .long) ({ frames := 0, cells := 0, slots := 0, locals := 0 } : Room) Z #[(.int p1)] h0 n0 (fun v h => v = some (.long (own_mask p1)) ∧ h = h0) := by
  refine own_body own_pn_1 ?_
  intro p e s m below meth c T0 hx hZ hby hml hown hnm hret hlk e0 X0
  replace hown : s.vm.findClass "com/example/keen_odds/keenodds/io/LayoutUnpackPinLaw" = some m.cls := hown
  replace hnm : meth.name = "maskOf" := hnm
  have N0 := Fr.nil n0
  have K0 : Keep h0 h0 [] := Keep.refl _ _
  refine own_at (own_ef_own_maskm m p1) ?_
  refine own_go (fun t kt => XS.lconst X0.here hx rfl (hb hby own_d1_0) kt) ?_
  refine own_go (fun t kt => XS.iloadN X0.here hx rfl (hb hby own_d1_1) rfl kt) ?_
  refine own_go (fun t kt => XS.lshl X0.here hx rfl (hb hby own_d1_2) rfl kt) ?_
  refine own_go (fun t kt => XS.lconst X0.here hx rfl (hb hby own_d1_3) kt) ?_
  refine own_go (fun t kt => XS.lsub X0.here hx rfl (hb hby own_d1_4) rfl kt) ?_
  exact own_retJ X0 hx hlk hret (hb hby own_d1_5) e0 N0 (by decide) (by decide) (⟨rfl, rfl⟩)
theorem own_d2_0 : decode method_3_code 0 = .ok (.lload_n 1, 1) := by decide +kernel
theorem own_d2_1 : decode method_3_code 1 = .ok (.lload_n 3, 1) := by decide +kernel
theorem own_d2_2 : decode method_3_code 2 = .ok (.land, 1) := by decide +kernel
theorem own_d2_3 : decode method_3_code 3 = .ok (.lstore 5, 2) := by decide +kernel
theorem own_d2_5 : decode method_3_code 5 = .ok (.iload_n 0, 1) := by decide +kernel
theorem own_d2_6 : decode method_3_code 6 = .ok (.i2l, 1) := by decide +kernel
theorem own_d2_7 : decode method_3_code 7 = .ok (.lload 5, 2) := by decide +kernel
theorem own_d2_9 : decode method_3_code 9 = .ok (.lsub, 1) := by decide +kernel
theorem own_d2_10 : decode method_3_code 10 = .ok (.ldc2_w 7, 3) := by decide +kernel
theorem own_d2_13 : decode method_3_code 13 = .ok (.lcmp, 1) := by decide +kernel
theorem own_d2_14 : decode method_3_code 14 = .ok (.ifCond .ge 11, 3) := by decide +kernel
theorem own_d2_17 : decode method_3_code 17 = .ok (.iload_n 0, 1) := by decide +kernel
theorem own_d2_18 : decode method_3_code 18 = .ok (.i2l, 1) := by decide +kernel
theorem own_d2_19 : decode method_3_code 19 = .ok (.ldc2_w 9, 3) := by decide +kernel
theorem own_d2_22 : decode method_3_code 22 = .ok (.ladd, 1) := by decide +kernel
theorem own_d2_23 : decode method_3_code 23 = .ok (.lstore 5, 2) := by decide +kernel
theorem own_d2_25 : decode method_3_code 25 = .ok (.lload 5, 2) := by decide +kernel
theorem own_d2_27 : decode method_3_code 27 = .ok (.lreturn, 1) := by decide +kernel
theorem own_pn_2 : plainFor (⟨"com/example/keen_odds/keenodds/io/LayoutUnpackPinLaw", "offset", "(IJJ)J"⟩ : MethodName) = true := by first | exact plainFor_of_name (by first | (simp [plainName, overriddenIn]; done) | decide +kernel) | decide +kernel
theorem own_ef_own_offm (m : MethodId) (x0 : Int32) (x1 : Int64) (x2 : Int64) : entryFrame m #[(.int x0), (.long x1), (.long x2)] 7 = mkF m 0 #[.val (.int x0), .val (.long x1), .second, .val (.long x2), .second, .unset, .unset] [] := by first | (simp [entryFrame, mkF, argsToLocals, Value.category]; done) | rfl
set_option maxRecDepth 65536 in
set_option maxHeartbeats 40000000 in
theorem own_offm (l : Launch) (Z : State) (a0 : Array Value) (hw : ∀ d ∈ tables_1, d.before a0 Z = true) (p1 : Int32) (q2 q3 : Int64) (h0 : Heap) (n0 : Nat) (Z0 : n0 ≤ h0.size)  :
    OCon l (⟨"com/example/keen_odds/keenodds/io/LayoutUnpackPinLaw", "offset", "(IJJ)J"⟩ : MethodName) method_3_code 7 (some .long) ({ frames := 0, cells := 0, slots := 0, locals := 0 } : Room) Z #[(.int p1), (.long q2), (.long q3)] h0 n0 (fun v h => v = some (.long (own_off p1 q2 q3)) ∧ h = h0) := by
  refine own_body own_pn_2 ?_
  intro p e s m below meth c T0 hx hZ hby hml hown hnm hret hlk e0 X0
  replace hown : s.vm.findClass "com/example/keen_odds/keenodds/io/LayoutUnpackPinLaw" = some m.cls := hown
  replace hnm : meth.name = "offset" := hnm
  have N0 := Fr.nil n0
  have K0 : Keep h0 h0 [] := Keep.refl _ _
  refine own_at (own_ef_own_offm m p1 q2 q3) ?_
  refine own_go (fun t kt => XS.lloadN X0.here hx rfl (hb hby own_d2_0) rfl kt) ?_
  refine own_go (fun t kt => XS.lloadN X0.here hx rfl (hb hby own_d2_1) rfl kt) ?_
  refine own_go (fun t kt => XS.land X0.here hx rfl (hb hby own_d2_2) rfl kt) ?_
  refine own_go (fun t kt => XS.lstore X0.here hx rfl (hb hby own_d2_3) rfl (l' := #[.val (.int p1), .val (.long q2), .second, .val (.long q3), .second, .val (.long (q2 &&& q3)), .second]) rfl kt) ?_
  refine own_go (fun t kt => XS.iloadN X0.here hx rfl (hb hby own_d2_5) rfl kt) ?_
  refine own_go (fun t kt => XS.i2l X0.here hx rfl (hb hby own_d2_6) rfl kt) ?_
  refine own_go (fun t kt => XS.lload X0.here hx rfl (hb hby own_d2_7) rfl kt) ?_
  refine own_go (g' := (mkF m 10 #[.val (.int p1), .val (.long q2), .second, .val (.long q3), .second, .val (.long (q2 &&& q3)), .second] [(.long ((p1.toInt64) - (q2 &&& q3)))])) (fun t kt => XS.lsub X0.here hx rfl (hb hby own_d2_9) rfl kt) ?_
  refine own_go (fun t kt => X0.ldc2Long hx hown (mvT hZ (hw _ (List.mem_of_getElem? (i := 8) rfl))) (g := (mkF m 10 #[.val (.int p1), .val (.long q2), .second, .val (.long q3), .second, .val (.long (q2 &&& q3)), .second] [(.long ((p1.toInt64) - (q2 &&& q3)))])) rfl (hb hby own_d2_10) t kt) ?_
  refine own_go (fun t kt => XS.lcmp X0.here hx rfl (hb hby own_d2_13) rfl kt) ?_
  by_cases hc1 : ((p1.toInt64) - (q2 &&& q3)) < (-2147483648 : Int64)
  · refine own_go (fun t kt => XS.ifNo X0.here hx rfl (hb hby own_d2_14) rfl (own_lT hc1).2.1 kt) ?_
    refine own_go (fun t kt => XS.iloadN X0.here hx rfl (hb hby own_d2_17) rfl kt) ?_
    refine own_go (fun t kt => XS.i2l X0.here hx rfl (hb hby own_d2_18) rfl kt) ?_
    refine own_go (fun t kt => X0.ldc2Long hx hown (mvT hZ (hw _ (List.mem_of_getElem? (i := 44) rfl))) (g := (mkF m 19 #[.val (.int p1), .val (.long q2), .second, .val (.long q3), .second, .val (.long (q2 &&& q3)), .second] [(.long (p1.toInt64))])) rfl (hb hby own_d2_19) t kt) ?_
    refine own_go (fun t kt => XS.ladd X0.here hx rfl (hb hby own_d2_22) rfl kt) ?_
    refine own_go (g' := (mkF m 25 #[.val (.int p1), .val (.long q2), .second, .val (.long q3), .second, .val (.long ((p1.toInt64) + (2147483648 : Int64))), .second] [])) (fun t kt => XS.lstore X0.here hx rfl (hb hby own_d2_23) rfl (l' := #[.val (.int p1), .val (.long q2), .second, .val (.long q3), .second, .val (.long ((p1.toInt64) + (2147483648 : Int64))), .second]) rfl kt) ?_
    refine own_go (fun t kt => XS.lload X0.here hx rfl (hb hby own_d2_25) rfl kt) ?_
    exact own_retJ X0 hx hlk hret (hb hby own_d2_27) e0 N0 (by decide) (by decide) (⟨by simp [own_off, hc1], rfl⟩)
  · refine own_go (fun t kt => XS.ifYes X0.here hx rfl (pc0 := 14) (pc' := 25) rfl (hb hby own_d2_14) rfl (own_lF hc1).2.1 (by decide) (by decide) kt) ?_
    refine own_go (fun t kt => XS.lload X0.here hx rfl (hb hby own_d2_25) rfl kt) ?_
    exact own_retJ X0 hx hlk hret (hb hby own_d2_27) e0 N0 (by decide) (by decide) (⟨by simp [own_off, hc1], rfl⟩)
theorem own_d6_0 : decode prog_44_method_3_code 0 = .ok (.iconst 0, 1) := by decide +kernel
theorem own_d6_1 : decode prog_44_method_3_code 1 = .ok (.istore 4, 2) := by decide +kernel
theorem own_d6_3 : decode prog_44_method_3_code 3 = .ok (.iload 4, 2) := by decide +kernel
theorem own_d6_5 : decode prog_44_method_3_code 5 = .ok (.aload_n 3, 1) := by decide +kernel
theorem own_d6_6 : decode prog_44_method_3_code 6 = .ok (.arraylength, 1) := by decide +kernel
theorem own_d6_7 : decode prog_44_method_3_code 7 = .ok (.if_icmp .ge 59, 3) := by decide +kernel
theorem own_d6_10 : decode prog_44_method_3_code 10 = .ok (.aload_n 1, 1) := by decide +kernel
theorem own_d6_11 : decode prog_44_method_3_code 11 = .ok (.iload_n 2, 1) := by decide +kernel
theorem own_d6_12 : decode prog_44_method_3_code 12 = .ok (.aload_n 0, 1) := by decide +kernel
theorem own_d6_13 : decode prog_44_method_3_code 13 = .ok (.getfield 7, 3) := by decide +kernel
theorem own_d6_16 : decode prog_44_method_3_code 16 = .ok (.imul, 1) := by decide +kernel
theorem own_d6_17 : decode prog_44_method_3_code 17 = .ok (.aload_n 0, 1) := by decide +kernel
theorem own_d6_18 : decode prog_44_method_3_code 18 = .ok (.getfield 13, 3) := by decide +kernel
theorem own_d6_21 : decode prog_44_method_3_code 21 = .ok (.iload 4, 2) := by decide +kernel
theorem own_d6_23 : decode prog_44_method_3_code 23 = .ok (.iaload, 1) := by decide +kernel
theorem own_d6_24 : decode prog_44_method_3_code 24 = .ok (.iadd, 1) := by decide +kernel
theorem own_d6_25 : decode prog_44_method_3_code 25 = .ok (.laload, 1) := by decide +kernel
theorem own_d6_26 : decode prog_44_method_3_code 26 = .ok (.aload_n 0, 1) := by decide +kernel
theorem own_d6_27 : decode prog_44_method_3_code 27 = .ok (.getfield 17, 3) := by decide +kernel
theorem own_d6_30 : decode prog_44_method_3_code 30 = .ok (.iload 4, 2) := by decide +kernel
theorem own_d6_32 : decode prog_44_method_3_code 32 = .ok (.iaload, 1) := by decide +kernel
theorem own_d6_33 : decode prog_44_method_3_code 33 = .ok (.lushr, 1) := by decide +kernel
theorem own_d6_34 : decode prog_44_method_3_code 34 = .ok (.aload_n 0, 1) := by decide +kernel
theorem own_d6_35 : decode prog_44_method_3_code 35 = .ok (.getfield 20, 3) := by decide +kernel
theorem own_d6_38 : decode prog_44_method_3_code 38 = .ok (.iload 4, 2) := by decide +kernel
theorem own_d6_40 : decode prog_44_method_3_code 40 = .ok (.laload, 1) := by decide +kernel
theorem own_d6_41 : decode prog_44_method_3_code 41 = .ok (.land, 1) := by decide +kernel
theorem own_d6_42 : decode prog_44_method_3_code 42 = .ok (.lstore 5, 2) := by decide +kernel
theorem own_d6_44 : decode prog_44_method_3_code 44 = .ok (.aload_n 3, 1) := by decide +kernel
theorem own_d6_45 : decode prog_44_method_3_code 45 = .ok (.iload 4, 2) := by decide +kernel
theorem own_d6_47 : decode prog_44_method_3_code 47 = .ok (.aload_n 0, 1) := by decide +kernel
theorem own_d6_48 : decode prog_44_method_3_code 48 = .ok (.getfield 24, 3) := by decide +kernel
theorem own_d6_51 : decode prog_44_method_3_code 51 = .ok (.iload 4, 2) := by decide +kernel
theorem own_d6_53 : decode prog_44_method_3_code 53 = .ok (.iaload, 1) := by decide +kernel
theorem own_d6_54 : decode prog_44_method_3_code 54 = .ok (.i2l, 1) := by decide +kernel
theorem own_d6_55 : decode prog_44_method_3_code 55 = .ok (.lload 5, 2) := by decide +kernel
theorem own_d6_57 : decode prog_44_method_3_code 57 = .ok (.ladd, 1) := by decide +kernel
theorem own_d6_58 : decode prog_44_method_3_code 58 = .ok (.l2i, 1) := by decide +kernel
theorem own_d6_59 : decode prog_44_method_3_code 59 = .ok (.iastore, 1) := by decide +kernel
theorem own_d6_60 : decode prog_44_method_3_code 60 = .ok (.iinc 4 1, 3) := by decide +kernel
theorem own_d6_63 : decode prog_44_method_3_code 63 = .ok (.goto (-60), 3) := by decide +kernel
theorem own_d6_66 : decode prog_44_method_3_code 66 = .ok (.return_, 1) := by decide +kernel
theorem own_pn_6 : plainFor (⟨"com/example/keen_odds/keenodds/io/GclStateSpace$Layout", "unpack", "([JI[I)V"⟩ : MethodName) = true := by first | exact plainFor_of_name (by first | (simp [plainName, overriddenIn]; done) | decide +kernel) | decide +kernel
theorem own_ef_own_unp (m : MethodId) (x0 : Addr) (x1 : Addr) (x2 : Int32) (x3 : Addr) : entryFrame m #[(.ref x0), (.ref x1), (.int x2), (.ref x3)] 7 = mkF m 0 #[.val (.ref x0), .val (.ref x1), .val (.int x2), .val (.ref x3), .unset, .unset, .unset] [] := by first | (simp [entryFrame, mkF, argsToLocals, Value.category]; done) | rfl
set_option maxRecDepth 65536 in
set_option maxHeartbeats 40000000 in
theorem own_unp (l : Launch) (Z : State) (a0 : Array Value) (hw : ∀ d ∈ tables_1, d.before a0 Z = true) (a1 aw as am al a2 a4 : Addr) (kw ks km kl kk ki : ClassId) (p3 t u l0 l1 l2 i0 i1 i2 : Int32) (m0 m1 m2 w0 w1 : Int64) (ks0 : List Value) (h0 : Heap) (n0 : Nat) (Z0 : n0 ≤ h0.size) (F_width : Fld Z h0 a1 "com/example/keen_odds/keenodds/io/GclStateSpace$Layout" "width" "I" (.int (2 : Int32))) (F_word : Fld Z h0 a1 "com/example/keen_odds/keenodds/io/GclStateSpace$Layout" "word" "[I" (.ref aw)) (F_shift : Fld Z h0 a1 "com/example/keen_odds/keenodds/io/GclStateSpace$Layout" "shift" "[I" (.ref as)) (F_mask : Fld Z h0 a1 "com/example/keen_odds/keenodds/io/GclStateSpace$Layout" "mask" "[J" (.ref am)) (F_low : Fld Z h0 a1 "com/example/keen_odds/keenodds/io/GclStateSpace$Layout" "low" "[I" (.ref al)) (Vw : Arv Z h0 aw kw .int (3 : Int32) [(.int (0 : Int32)), (.int (0 : Int32)), (.int (1 : Int32))] (.int (0 : Int32))) (Vs : Arv Z h0 as ks .int (3 : Int32) [(.int (0 : Int32)), (.int t), (.int u)] (.int (0 : Int32))) (Vm : Arv Z h0 am km .long (3 : Int32) [(.long m0), (.long m1), (.long m2)] (.long (0 : Int64))) (Vl : Arv Z h0 al kl .int (3 : Int32) [(.int l0), (.int l1), (.int l2)] (.int (0 : Int32))) (Vk : Arv Z h0 a2 kk .long (6 : Int32) ks0 (.long (0 : Int64))) (Vi : Arv Z h0 a4 ki .int (3 : Int32) [(.int i0), (.int i1), (.int i2)] (.int (0 : Int32))) (ne_a1_a4 : a1 ≠ a4) (ne_aw_a4 : aw ≠ a4) (ne_as_a4 : as ≠ a4) (ne_am_a4 : am ≠ a4) (ne_al_a4 : al ≠ a4) (ne_a2_a4 : a2 ≠ a4) (ge_a4 : n0 ≤ a4) (hin0 : ¬ ((p3 * (2 : Int32)) + (0 : Int32)) < 0 ∧ ((p3 * (2 : Int32)) + (0 : Int32)) < 6) (hk0 : ks0.getD ((p3 * (2 : Int32)) + (0 : Int32)).toNatClampNeg (.long (0 : Int64)) = .long w0) (hin1 : ¬ ((p3 * (2 : Int32)) + (1 : Int32)) < 0 ∧ ((p3 * (2 : Int32)) + (1 : Int32)) < 6) (hk1 : ks0.getD ((p3 * (2 : Int32)) + (1 : Int32)).toNatClampNeg (.long (0 : Int64)) = .long w1) :
    OCon l (⟨"com/example/keen_odds/keenodds/io/GclStateSpace$Layout", "unpack", "([JI[I)V"⟩ : MethodName) prog_44_method_3_code 7 none ({ frames := 0, cells := 0, slots := 0, locals := 0 } : Room) Z #[(.ref a1), (.ref a2), (.int p3), (.ref a4)] h0 n0 (fun v h => v = none ∧ Keep h0 h [a4] ∧ Arv Z h a4 ki .int (3 : Int32) [(.int (own_u w0 (0 : Int32) m0 l0)), (.int (own_u w0 t m1 l1)), (.int (own_u w1 u m2 l2))] (.int (0 : Int32))) := by
  refine own_body own_pn_6 ?_
  intro p e s m below meth c T0 hx hZ hby hml hown hnm hret hlk e0 X0
  replace hown : s.vm.findClass "com/example/keen_odds/keenodds/io/GclStateSpace$Layout" = some m.cls := hown
  replace hnm : meth.name = "unpack" := hnm
  have N0 := Fr.nil n0
  have K0 : Keep h0 h0 [a4] := Keep.refl _ _
  refine own_at (own_ef_own_unp m a1 a2 p3 a4) ?_
  refine own_go (fun t kt => XS.iconst X0.here hx rfl (hb hby own_d6_0) kt) ?_
  refine own_go (fun t kt => XS.istore X0.here hx rfl (hb hby own_d6_1) rfl (l' := #[.val (.ref a1), .val (.ref a2), .val (.int p3), .val (.ref a4), .val (.int (0 : Int32)), .unset, .unset]) rfl kt) ?_
  refine own_go (fun t kt => XS.iload X0.here hx rfl (hb hby own_d6_3) rfl kt) ?_
  refine own_go (fun t kt => XS.aloadN X0.here hx rfl (hb hby own_d6_5) rfl rfl kt) ?_
  refine own_alen X0 hx hZ e0 Vi (g := (mkF m 6 #[.val (.ref a1), .val (.ref a2), .val (.int p3), .val (.ref a4), .val (.int (0 : Int32)), .unset, .unset] [(.ref a4), (.int (0 : Int32))])) rfl rfl (hb hby own_d6_6) ?_
  show OEnds _ _ _ _ _ _ T0 (mkF m 7 #[.val (.ref a1), .val (.ref a2), .val (.int p3), .val (.ref a4), .val (.int (0 : Int32)), .unset, .unset] [(.int (3 : Int32)), (.int (0 : Int32))])
  refine own_go (fun t kt => XS.icmpNo X0.here hx rfl (hb hby own_d6_7) rfl (tlt ((by decide) : (0 : Int32) < (3 : Int32))).2.1 kt) ?_
  refine own_go (fun t kt => XS.aloadN X0.here hx rfl (hb hby own_d6_10) rfl rfl kt) ?_
  refine own_go (fun t kt => XS.iloadN X0.here hx rfl (hb hby own_d6_11) rfl kt) ?_
  refine own_go (g' := (mkF m 13 #[.val (.ref a1), .val (.ref a2), .val (.int p3), .val (.ref a4), .val (.int (0 : Int32)), .unset, .unset] [(.ref a1), (.int p3), (.ref a2)])) (fun t kt => XS.aloadN X0.here hx rfl (hb hby own_d6_12) rfl rfl kt) ?_
  refine own_getF X0 hx hZ hown (hw _ (List.mem_of_getElem? (i := 29) rfl)) e0 F_width (g := (mkF m 13 #[.val (.ref a1), .val (.ref a2), .val (.int p3), .val (.ref a4), .val (.int (0 : Int32)), .unset, .unset] [(.ref a1), (.int p3), (.ref a2)])) rfl rfl (hb hby own_d6_13) (fun T1 X1 e1 => ?_)
  show OEnds _ _ _ _ _ _ T1 (mkF m 16 #[.val (.ref a1), .val (.ref a2), .val (.int p3), .val (.ref a4), .val (.int (0 : Int32)), .unset, .unset] [(.int (2 : Int32)), (.int p3), (.ref a2)])
  refine own_go (fun t kt => XS.imul X1.here hx rfl (hb hby own_d6_16) rfl kt) ?_
  refine own_go (fun t kt => XS.aloadN X1.here hx rfl (hb hby own_d6_17) rfl rfl kt) ?_
  refine own_getF X1 hx hZ hown (hw _ (List.mem_of_getElem? (i := 31) rfl)) e1 F_word (g := (mkF m 18 #[.val (.ref a1), .val (.ref a2), .val (.int p3), .val (.ref a4), .val (.int (0 : Int32)), .unset, .unset] [(.ref a1), (.int (p3 * (2 : Int32))), (.ref a2)])) rfl rfl (hb hby own_d6_18) (fun T2 X2 e2 => ?_)
  show OEnds _ _ _ _ _ _ T2 (mkF m 21 #[.val (.ref a1), .val (.ref a2), .val (.int p3), .val (.ref a4), .val (.int (0 : Int32)), .unset, .unset] [(.ref aw), (.int (p3 * (2 : Int32))), (.ref a2)])
  refine own_go (fun t kt => XS.iload X2.here hx rfl (hb hby own_d6_21) rfl kt) ?_
  refine own_iaload X2 hx hZ e2 Vw ⟨by decide, by decide⟩ (v := (.int (0 : Int32))) rfl (g := (mkF m 23 #[.val (.ref a1), .val (.ref a2), .val (.int p3), .val (.ref a4), .val (.int (0 : Int32)), .unset, .unset] [(.int (0 : Int32)), (.ref aw), (.int (p3 * (2 : Int32))), (.ref a2)])) rfl rfl (hb hby own_d6_23) ?_
  show OEnds _ _ _ _ _ _ T2 (mkF m 24 #[.val (.ref a1), .val (.ref a2), .val (.int p3), .val (.ref a4), .val (.int (0 : Int32)), .unset, .unset] [(.int (0 : Int32)), (.int (p3 * (2 : Int32))), (.ref a2)])
  refine own_go (fun t kt => XS.iadd X2.here hx rfl (hb hby own_d6_24) rfl kt) ?_
  refine own_laload X2 hx hZ e2 Vk hin0 (v := (.long w0)) hk0 (g := (mkF m 25 #[.val (.ref a1), .val (.ref a2), .val (.int p3), .val (.ref a4), .val (.int (0 : Int32)), .unset, .unset] [(.int ((p3 * (2 : Int32)) + (0 : Int32))), (.ref a2)])) rfl rfl (hb hby own_d6_25) ?_
  show OEnds _ _ _ _ _ _ T2 (mkF m 26 #[.val (.ref a1), .val (.ref a2), .val (.int p3), .val (.ref a4), .val (.int (0 : Int32)), .unset, .unset] [(.long w0)])
  refine own_go (fun t kt => XS.aloadN X2.here hx rfl (hb hby own_d6_26) rfl rfl kt) ?_
  refine own_getF X2 hx hZ hown (hw _ (List.mem_of_getElem? (i := 33) rfl)) e2 F_shift (g := (mkF m 27 #[.val (.ref a1), .val (.ref a2), .val (.int p3), .val (.ref a4), .val (.int (0 : Int32)), .unset, .unset] [(.ref a1), (.long w0)])) rfl rfl (hb hby own_d6_27) (fun T3 X3 e3 => ?_)
  show OEnds _ _ _ _ _ _ T3 (mkF m 30 #[.val (.ref a1), .val (.ref a2), .val (.int p3), .val (.ref a4), .val (.int (0 : Int32)), .unset, .unset] [(.ref as), (.long w0)])
  refine own_go (fun t kt => XS.iload X3.here hx rfl (hb hby own_d6_30) rfl kt) ?_
  refine own_iaload X3 hx hZ e3 Vs ⟨by decide, by decide⟩ (v := (.int (0 : Int32))) rfl (g := (mkF m 32 #[.val (.ref a1), .val (.ref a2), .val (.int p3), .val (.ref a4), .val (.int (0 : Int32)), .unset, .unset] [(.int (0 : Int32)), (.ref as), (.long w0)])) rfl rfl (hb hby own_d6_32) ?_
  show OEnds _ _ _ _ _ _ T3 (mkF m 33 #[.val (.ref a1), .val (.ref a2), .val (.int p3), .val (.ref a4), .val (.int (0 : Int32)), .unset, .unset] [(.int (0 : Int32)), (.long w0)])
  refine own_go (fun t kt => XS.lushr X3.here hx rfl (hb hby own_d6_33) rfl kt) ?_
  refine own_go (g' := (mkF m 35 #[.val (.ref a1), .val (.ref a2), .val (.int p3), .val (.ref a4), .val (.int (0 : Int32)), .unset, .unset] [(.ref a1), (.long ((w0.toUInt64 >>> ((0 : Int32) &&& 0x3f).toInt64.toUInt64).toInt64))])) (fun t kt => XS.aloadN X3.here hx rfl (hb hby own_d6_34) rfl rfl kt) ?_
  refine own_getF X3 hx hZ hown (hw _ (List.mem_of_getElem? (i := 35) rfl)) e3 F_mask (g := (mkF m 35 #[.val (.ref a1), .val (.ref a2), .val (.int p3), .val (.ref a4), .val (.int (0 : Int32)), .unset, .unset] [(.ref a1), (.long ((w0.toUInt64 >>> ((0 : Int32) &&& 0x3f).toInt64.toUInt64).toInt64))])) rfl rfl (hb hby own_d6_35) (fun T4 X4 e4 => ?_)
  show OEnds _ _ _ _ _ _ T4 (mkF m 38 #[.val (.ref a1), .val (.ref a2), .val (.int p3), .val (.ref a4), .val (.int (0 : Int32)), .unset, .unset] [(.ref am), (.long ((w0.toUInt64 >>> ((0 : Int32) &&& 0x3f).toInt64.toUInt64).toInt64))])
  refine own_go (fun t kt => XS.iload X4.here hx rfl (hb hby own_d6_38) rfl kt) ?_
  refine own_laload X4 hx hZ e4 Vm ⟨by decide, by decide⟩ (v := (.long m0)) rfl (g := (mkF m 40 #[.val (.ref a1), .val (.ref a2), .val (.int p3), .val (.ref a4), .val (.int (0 : Int32)), .unset, .unset] [(.int (0 : Int32)), (.ref am), (.long ((w0.toUInt64 >>> ((0 : Int32) &&& 0x3f).toInt64.toUInt64).toInt64))])) rfl rfl (hb hby own_d6_40) ?_
  show OEnds _ _ _ _ _ _ T4 (mkF m 41 #[.val (.ref a1), .val (.ref a2), .val (.int p3), .val (.ref a4), .val (.int (0 : Int32)), .unset, .unset] [(.long m0), (.long ((w0.toUInt64 >>> ((0 : Int32) &&& 0x3f).toInt64.toUInt64).toInt64))])
  refine own_go (fun t kt => XS.land X4.here hx rfl (hb hby own_d6_41) rfl kt) ?_
  refine own_let (P := fun y5 => OEnds _ _ _ _ _ _ T4 (mkF m 42 #[.val (.ref a1), .val (.ref a2), .val (.int p3), .val (.ref a4), .val (.int (0 : Int32)), .unset, .unset] [(.long y5)])) (((w0.toUInt64 >>> ((0 : Int32) &&& 0x3f).toInt64.toUInt64).toInt64) &&& m0) (fun y5 hv_y5 => ?_)
  refine own_go (fun t kt => XS.lstore X4.here hx rfl (hb hby own_d6_42) rfl (l' := #[.val (.ref a1), .val (.ref a2), .val (.int p3), .val (.ref a4), .val (.int (0 : Int32)), .val (.long y5), .second]) rfl kt) ?_
  refine own_go (fun t kt => XS.aloadN X4.here hx rfl (hb hby own_d6_44) rfl rfl kt) ?_
  refine own_go (fun t kt => XS.iload X4.here hx rfl (hb hby own_d6_45) rfl kt) ?_
  refine own_go (fun t kt => XS.aloadN X4.here hx rfl (hb hby own_d6_47) rfl rfl kt) ?_
  refine own_getF X4 hx hZ hown (hw _ (List.mem_of_getElem? (i := 37) rfl)) e4 F_low (g := (mkF m 48 #[.val (.ref a1), .val (.ref a2), .val (.int p3), .val (.ref a4), .val (.int (0 : Int32)), .val (.long y5), .second] [(.ref a1), (.int (0 : Int32)), (.ref a4)])) rfl rfl (hb hby own_d6_48) (fun T6 X6 e6 => ?_)
  show OEnds _ _ _ _ _ _ T6 (mkF m 51 #[.val (.ref a1), .val (.ref a2), .val (.int p3), .val (.ref a4), .val (.int (0 : Int32)), .val (.long y5), .second] [(.ref al), (.int (0 : Int32)), (.ref a4)])
  refine own_go (fun t kt => XS.iload X6.here hx rfl (hb hby own_d6_51) rfl kt) ?_
  refine own_iaload X6 hx hZ e6 Vl ⟨by decide, by decide⟩ (v := (.int l0)) rfl (g := (mkF m 53 #[.val (.ref a1), .val (.ref a2), .val (.int p3), .val (.ref a4), .val (.int (0 : Int32)), .val (.long y5), .second] [(.int (0 : Int32)), (.ref al), (.int (0 : Int32)), (.ref a4)])) rfl rfl (hb hby own_d6_53) ?_
  show OEnds _ _ _ _ _ _ T6 (mkF m 54 #[.val (.ref a1), .val (.ref a2), .val (.int p3), .val (.ref a4), .val (.int (0 : Int32)), .val (.long y5), .second] [(.int l0), (.int (0 : Int32)), (.ref a4)])
  refine own_go (g' := (mkF m 55 #[.val (.ref a1), .val (.ref a2), .val (.int p3), .val (.ref a4), .val (.int (0 : Int32)), .val (.long y5), .second] [(.long (l0.toInt64)), (.int (0 : Int32)), (.ref a4)])) (fun t kt => XS.i2l X6.here hx rfl (hb hby own_d6_54) rfl kt) ?_
  refine own_go (fun t kt => XS.lload X6.here hx rfl (hb hby own_d6_55) rfl kt) ?_
  refine own_go (fun t kt => XS.ladd X6.here hx rfl (hb hby own_d6_57) rfl kt) ?_
  refine own_go (fun t kt => XS.l2i X6.here hx rfl (hb hby own_d6_58) rfl kt) ?_
  refine own_iastore X6 hx hZ e6 Vi ⟨by decide, by decide⟩ 0 rfl (Nat.le_of_ble_eq_true rfl) N0 ge_a4 (g := (mkF m 59 #[.val (.ref a1), .val (.ref a2), .val (.int p3), .val (.ref a4), .val (.int (0 : Int32)), .val (.long y5), .second] [(.int (((l0.toInt64) + y5).toInt32)), (.int (0 : Int32)), (.ref a4)])) rfl rfl (hb hby own_d6_59) (fun T7 h7 L7 X7 e7 N7 W7 V7 => ?_)
  show OEnds _ _ _ _ _ _ T7 (mkF m 60 #[.val (.ref a1), .val (.ref a2), .val (.int p3), .val (.ref a4), .val (.int (0 : Int32)), .val (.long y5), .second] [])
  have F_width_h7 := F_width.other W7 (Or.inl ne_a1_a4)
  have F_word_h7 := F_word.other W7 (Or.inl ne_a1_a4)
  have F_shift_h7 := F_shift.other W7 (Or.inl ne_a1_a4)
  have F_mask_h7 := F_mask.other W7 (Or.inl ne_a1_a4)
  have F_low_h7 := F_low.other W7 (Or.inl ne_a1_a4)
  have Vw_h7 := Vw.other W7 ne_aw_a4
  have Vs_h7 := Vs.other W7 ne_as_a4
  have Vm_h7 := Vm.other W7 ne_am_a4
  have Vl_h7 := Vl.other W7 ne_al_a4
  have Vk_h7 := Vk.other W7 ne_a2_a4
  have K7 := K0.wr W7 (Or.inl (List.mem_of_getElem? (i := 0) rfl))
  replace V7 : Arv Z h7 a4 ki .int (3 : Int32) [(.int (((l0.toInt64) + y5).toInt32)), (.int i1), (.int i2)] (.int (0 : Int32)) := V7
  refine own_go (fun t kt => XS.iinc X7.here hx rfl (hb hby own_d6_60) rfl (l' := #[.val (.ref a1), .val (.ref a2), .val (.int p3), .val (.ref a4), .val (.int (1 : Int32)), .val (.long y5), .second]) rfl kt) ?_
  refine own_go (fun t kt => XS.goto X7.here hx rfl (pc0 := 63) (pc' := 3) rfl (hb hby own_d6_63) (by decide) (by decide) kt) ?_
  refine own_go (fun t kt => XS.iload X7.here hx rfl (hb hby own_d6_3) rfl kt) ?_
  refine own_go (fun t kt => XS.aloadN X7.here hx rfl (hb hby own_d6_5) rfl rfl kt) ?_
  refine own_alen X7 hx hZ e7 V7 (g := (mkF m 6 #[.val (.ref a1), .val (.ref a2), .val (.int p3), .val (.ref a4), .val (.int (1 : Int32)), .val (.long y5), .second] [(.ref a4), (.int (1 : Int32))])) rfl rfl (hb hby own_d6_6) ?_
  show OEnds _ _ _ _ _ _ T7 (mkF m 7 #[.val (.ref a1), .val (.ref a2), .val (.int p3), .val (.ref a4), .val (.int (1 : Int32)), .val (.long y5), .second] [(.int (3 : Int32)), (.int (1 : Int32))])
  refine own_go (g' := (mkF m 10 #[.val (.ref a1), .val (.ref a2), .val (.int p3), .val (.ref a4), .val (.int (1 : Int32)), .val (.long y5), .second] [])) (fun t kt => XS.icmpNo X7.here hx rfl (hb hby own_d6_7) rfl (tlt ((by decide) : (1 : Int32) < (3 : Int32))).2.1 kt) ?_
  refine own_go (fun t kt => XS.aloadN X7.here hx rfl (hb hby own_d6_10) rfl rfl kt) ?_
  refine own_go (fun t kt => XS.iloadN X7.here hx rfl (hb hby own_d6_11) rfl kt) ?_
  refine own_go (fun t kt => XS.aloadN X7.here hx rfl (hb hby own_d6_12) rfl rfl kt) ?_
  refine own_getF X7 hx hZ hown (hw _ (List.mem_of_getElem? (i := 29) rfl)) e7 F_width_h7 (g := (mkF m 13 #[.val (.ref a1), .val (.ref a2), .val (.int p3), .val (.ref a4), .val (.int (1 : Int32)), .val (.long y5), .second] [(.ref a1), (.int p3), (.ref a2)])) rfl rfl (hb hby own_d6_13) (fun T8 X8 e8 => ?_)
  show OEnds _ _ _ _ _ _ T8 (mkF m 16 #[.val (.ref a1), .val (.ref a2), .val (.int p3), .val (.ref a4), .val (.int (1 : Int32)), .val (.long y5), .second] [(.int (2 : Int32)), (.int p3), (.ref a2)])
  refine own_go (fun t kt => XS.imul X8.here hx rfl (hb hby own_d6_16) rfl kt) ?_
  refine own_go (fun t kt => XS.aloadN X8.here hx rfl (hb hby own_d6_17) rfl rfl kt) ?_
  refine own_getF X8 hx hZ hown (hw _ (List.mem_of_getElem? (i := 31) rfl)) e8 F_word_h7 (g := (mkF m 18 #[.val (.ref a1), .val (.ref a2), .val (.int p3), .val (.ref a4), .val (.int (1 : Int32)), .val (.long y5), .second] [(.ref a1), (.int (p3 * (2 : Int32))), (.ref a2)])) rfl rfl (hb hby own_d6_18) (fun T9 X9 e9 => ?_)
  show OEnds _ _ _ _ _ _ T9 (mkF m 21 #[.val (.ref a1), .val (.ref a2), .val (.int p3), .val (.ref a4), .val (.int (1 : Int32)), .val (.long y5), .second] [(.ref aw), (.int (p3 * (2 : Int32))), (.ref a2)])
  refine own_go (fun t kt => XS.iload X9.here hx rfl (hb hby own_d6_21) rfl kt) ?_
  refine own_iaload X9 hx hZ e9 Vw_h7 ⟨by decide, by decide⟩ (v := (.int (0 : Int32))) rfl (g := (mkF m 23 #[.val (.ref a1), .val (.ref a2), .val (.int p3), .val (.ref a4), .val (.int (1 : Int32)), .val (.long y5), .second] [(.int (1 : Int32)), (.ref aw), (.int (p3 * (2 : Int32))), (.ref a2)])) rfl rfl (hb hby own_d6_23) ?_
  show OEnds _ _ _ _ _ _ T9 (mkF m 24 #[.val (.ref a1), .val (.ref a2), .val (.int p3), .val (.ref a4), .val (.int (1 : Int32)), .val (.long y5), .second] [(.int (0 : Int32)), (.int (p3 * (2 : Int32))), (.ref a2)])
  refine own_go (fun t kt => XS.iadd X9.here hx rfl (hb hby own_d6_24) rfl kt) ?_
  refine own_laload X9 hx hZ e9 Vk_h7 hin0 (v := (.long w0)) hk0 (g := (mkF m 25 #[.val (.ref a1), .val (.ref a2), .val (.int p3), .val (.ref a4), .val (.int (1 : Int32)), .val (.long y5), .second] [(.int ((p3 * (2 : Int32)) + (0 : Int32))), (.ref a2)])) rfl rfl (hb hby own_d6_25) ?_
  show OEnds _ _ _ _ _ _ T9 (mkF m 26 #[.val (.ref a1), .val (.ref a2), .val (.int p3), .val (.ref a4), .val (.int (1 : Int32)), .val (.long y5), .second] [(.long w0)])
  refine own_go (g' := (mkF m 27 #[.val (.ref a1), .val (.ref a2), .val (.int p3), .val (.ref a4), .val (.int (1 : Int32)), .val (.long y5), .second] [(.ref a1), (.long w0)])) (fun t kt => XS.aloadN X9.here hx rfl (hb hby own_d6_26) rfl rfl kt) ?_
  refine own_getF X9 hx hZ hown (hw _ (List.mem_of_getElem? (i := 33) rfl)) e9 F_shift_h7 (g := (mkF m 27 #[.val (.ref a1), .val (.ref a2), .val (.int p3), .val (.ref a4), .val (.int (1 : Int32)), .val (.long y5), .second] [(.ref a1), (.long w0)])) rfl rfl (hb hby own_d6_27) (fun T10 X10 e10 => ?_)
  show OEnds _ _ _ _ _ _ T10 (mkF m 30 #[.val (.ref a1), .val (.ref a2), .val (.int p3), .val (.ref a4), .val (.int (1 : Int32)), .val (.long y5), .second] [(.ref as), (.long w0)])
  refine own_go (fun t kt => XS.iload X10.here hx rfl (hb hby own_d6_30) rfl kt) ?_
  refine own_iaload X10 hx hZ e10 Vs_h7 ⟨by decide, by decide⟩ (v := (.int t)) rfl (g := (mkF m 32 #[.val (.ref a1), .val (.ref a2), .val (.int p3), .val (.ref a4), .val (.int (1 : Int32)), .val (.long y5), .second] [(.int (1 : Int32)), (.ref as), (.long w0)])) rfl rfl (hb hby own_d6_32) ?_
  show OEnds _ _ _ _ _ _ T10 (mkF m 33 #[.val (.ref a1), .val (.ref a2), .val (.int p3), .val (.ref a4), .val (.int (1 : Int32)), .val (.long y5), .second] [(.int t), (.long w0)])
  refine own_go (fun t kt => XS.lushr X10.here hx rfl (hb hby own_d6_33) rfl kt) ?_
  refine own_go (fun t kt => XS.aloadN X10.here hx rfl (hb hby own_d6_34) rfl rfl kt) ?_
  refine own_getF X10 hx hZ hown (hw _ (List.mem_of_getElem? (i := 35) rfl)) e10 F_mask_h7 (g := (mkF m 35 #[.val (.ref a1), .val (.ref a2), .val (.int p3), .val (.ref a4), .val (.int (1 : Int32)), .val (.long y5), .second] [(.ref a1), (.long ((w0.toUInt64 >>> (t &&& 0x3f).toInt64.toUInt64).toInt64))])) rfl rfl (hb hby own_d6_35) (fun T11 X11 e11 => ?_)
  show OEnds _ _ _ _ _ _ T11 (mkF m 38 #[.val (.ref a1), .val (.ref a2), .val (.int p3), .val (.ref a4), .val (.int (1 : Int32)), .val (.long y5), .second] [(.ref am), (.long ((w0.toUInt64 >>> (t &&& 0x3f).toInt64.toUInt64).toInt64))])
  refine own_go (fun t kt => XS.iload X11.here hx rfl (hb hby own_d6_38) rfl kt) ?_
  refine own_laload X11 hx hZ e11 Vm_h7 ⟨by decide, by decide⟩ (v := (.long m1)) rfl (g := (mkF m 40 #[.val (.ref a1), .val (.ref a2), .val (.int p3), .val (.ref a4), .val (.int (1 : Int32)), .val (.long y5), .second] [(.int (1 : Int32)), (.ref am), (.long ((w0.toUInt64 >>> (t &&& 0x3f).toInt64.toUInt64).toInt64))])) rfl rfl (hb hby own_d6_40) ?_
  show OEnds _ _ _ _ _ _ T11 (mkF m 41 #[.val (.ref a1), .val (.ref a2), .val (.int p3), .val (.ref a4), .val (.int (1 : Int32)), .val (.long y5), .second] [(.long m1), (.long ((w0.toUInt64 >>> (t &&& 0x3f).toInt64.toUInt64).toInt64))])
  refine own_go (fun t kt => XS.land X11.here hx rfl (hb hby own_d6_41) rfl kt) ?_
  refine own_let (P := fun y12 => OEnds _ _ _ _ _ _ T11 (mkF m 42 #[.val (.ref a1), .val (.ref a2), .val (.int p3), .val (.ref a4), .val (.int (1 : Int32)), .val (.long y5), .second] [(.long y12)])) (((w0.toUInt64 >>> (t &&& 0x3f).toInt64.toUInt64).toInt64) &&& m1) (fun y12 hv_y12 => ?_)
  refine own_go (fun t kt => XS.lstore X11.here hx rfl (hb hby own_d6_42) rfl (l' := #[.val (.ref a1), .val (.ref a2), .val (.int p3), .val (.ref a4), .val (.int (1 : Int32)), .val (.long y12), .second]) rfl kt) ?_
  refine own_go (fun t kt => XS.aloadN X11.here hx rfl (hb hby own_d6_44) rfl rfl kt) ?_
  refine own_go (g' := (mkF m 47 #[.val (.ref a1), .val (.ref a2), .val (.int p3), .val (.ref a4), .val (.int (1 : Int32)), .val (.long y12), .second] [(.int (1 : Int32)), (.ref a4)])) (fun t kt => XS.iload X11.here hx rfl (hb hby own_d6_45) rfl kt) ?_
  refine own_go (fun t kt => XS.aloadN X11.here hx rfl (hb hby own_d6_47) rfl rfl kt) ?_
  refine own_getF X11 hx hZ hown (hw _ (List.mem_of_getElem? (i := 37) rfl)) e11 F_low_h7 (g := (mkF m 48 #[.val (.ref a1), .val (.ref a2), .val (.int p3), .val (.ref a4), .val (.int (1 : Int32)), .val (.long y12), .second] [(.ref a1), (.int (1 : Int32)), (.ref a4)])) rfl rfl (hb hby own_d6_48) (fun T13 X13 e13 => ?_)
  show OEnds _ _ _ _ _ _ T13 (mkF m 51 #[.val (.ref a1), .val (.ref a2), .val (.int p3), .val (.ref a4), .val (.int (1 : Int32)), .val (.long y12), .second] [(.ref al), (.int (1 : Int32)), (.ref a4)])
  refine own_go (fun t kt => XS.iload X13.here hx rfl (hb hby own_d6_51) rfl kt) ?_
  refine own_iaload X13 hx hZ e13 Vl_h7 ⟨by decide, by decide⟩ (v := (.int l1)) rfl (g := (mkF m 53 #[.val (.ref a1), .val (.ref a2), .val (.int p3), .val (.ref a4), .val (.int (1 : Int32)), .val (.long y12), .second] [(.int (1 : Int32)), (.ref al), (.int (1 : Int32)), (.ref a4)])) rfl rfl (hb hby own_d6_53) ?_
  show OEnds _ _ _ _ _ _ T13 (mkF m 54 #[.val (.ref a1), .val (.ref a2), .val (.int p3), .val (.ref a4), .val (.int (1 : Int32)), .val (.long y12), .second] [(.int l1), (.int (1 : Int32)), (.ref a4)])
  refine own_go (fun t kt => XS.i2l X13.here hx rfl (hb hby own_d6_54) rfl kt) ?_
  refine own_go (fun t kt => XS.lload X13.here hx rfl (hb hby own_d6_55) rfl kt) ?_
  refine own_go (fun t kt => XS.ladd X13.here hx rfl (hb hby own_d6_57) rfl kt) ?_
  refine own_go (fun t kt => XS.l2i X13.here hx rfl (hb hby own_d6_58) rfl kt) ?_
  refine own_iastore X13 hx hZ e13 V7 ⟨by decide, by decide⟩ 1 rfl (Nat.le_of_ble_eq_true rfl) N7 ge_a4 (g := (mkF m 59 #[.val (.ref a1), .val (.ref a2), .val (.int p3), .val (.ref a4), .val (.int (1 : Int32)), .val (.long y12), .second] [(.int (((l1.toInt64) + y12).toInt32)), (.int (1 : Int32)), (.ref a4)])) rfl rfl (hb hby own_d6_59) (fun T14 h14 L14 X14 e14 N14 W14 V14 => ?_)
  show OEnds _ _ _ _ _ _ T14 (mkF m 60 #[.val (.ref a1), .val (.ref a2), .val (.int p3), .val (.ref a4), .val (.int (1 : Int32)), .val (.long y12), .second] [])
  have F_width_h14 := F_width_h7.other W14 (Or.inl ne_a1_a4)
  have F_word_h14 := F_word_h7.other W14 (Or.inl ne_a1_a4)
  have F_shift_h14 := F_shift_h7.other W14 (Or.inl ne_a1_a4)
  have F_mask_h14 := F_mask_h7.other W14 (Or.inl ne_a1_a4)
  have F_low_h14 := F_low_h7.other W14 (Or.inl ne_a1_a4)
  have Vw_h14 := Vw_h7.other W14 ne_aw_a4
  have Vs_h14 := Vs_h7.other W14 ne_as_a4
  have Vm_h14 := Vm_h7.other W14 ne_am_a4
  have Vl_h14 := Vl_h7.other W14 ne_al_a4
  have Vk_h14 := Vk_h7.other W14 ne_a2_a4
  have K14 := K7.wr W14 (Or.inl (List.mem_of_getElem? (i := 0) rfl))
  replace V14 : Arv Z h14 a4 ki .int (3 : Int32) [(.int (((l0.toInt64) + y5).toInt32)), (.int (((l1.toInt64) + y12).toInt32)), (.int i2)] (.int (0 : Int32)) := V14
  refine own_go (fun t kt => XS.iinc X14.here hx rfl (hb hby own_d6_60) rfl (l' := #[.val (.ref a1), .val (.ref a2), .val (.int p3), .val (.ref a4), .val (.int (2 : Int32)), .val (.long y12), .second]) rfl kt) ?_
  refine own_go (g' := (mkF m 3 #[.val (.ref a1), .val (.ref a2), .val (.int p3), .val (.ref a4), .val (.int (2 : Int32)), .val (.long y12), .second] [])) (fun t kt => XS.goto X14.here hx rfl (pc0 := 63) (pc' := 3) rfl (hb hby own_d6_63) (by decide) (by decide) kt) ?_
  refine own_go (fun t kt => XS.iload X14.here hx rfl (hb hby own_d6_3) rfl kt) ?_
  refine own_go (fun t kt => XS.aloadN X14.here hx rfl (hb hby own_d6_5) rfl rfl kt) ?_
  refine own_alen X14 hx hZ e14 V14 (g := (mkF m 6 #[.val (.ref a1), .val (.ref a2), .val (.int p3), .val (.ref a4), .val (.int (2 : Int32)), .val (.long y12), .second] [(.ref a4), (.int (2 : Int32))])) rfl rfl (hb hby own_d6_6) ?_
  show OEnds _ _ _ _ _ _ T14 (mkF m 7 #[.val (.ref a1), .val (.ref a2), .val (.int p3), .val (.ref a4), .val (.int (2 : Int32)), .val (.long y12), .second] [(.int (3 : Int32)), (.int (2 : Int32))])
  refine own_go (fun t kt => XS.icmpNo X14.here hx rfl (hb hby own_d6_7) rfl (tlt ((by decide) : (2 : Int32) < (3 : Int32))).2.1 kt) ?_
  refine own_go (fun t kt => XS.aloadN X14.here hx rfl (hb hby own_d6_10) rfl rfl kt) ?_
  refine own_go (fun t kt => XS.iloadN X14.here hx rfl (hb hby own_d6_11) rfl kt) ?_
  refine own_go (fun t kt => XS.aloadN X14.here hx rfl (hb hby own_d6_12) rfl rfl kt) ?_
  refine own_getF X14 hx hZ hown (hw _ (List.mem_of_getElem? (i := 29) rfl)) e14 F_width_h14 (g := (mkF m 13 #[.val (.ref a1), .val (.ref a2), .val (.int p3), .val (.ref a4), .val (.int (2 : Int32)), .val (.long y12), .second] [(.ref a1), (.int p3), (.ref a2)])) rfl rfl (hb hby own_d6_13) (fun T15 X15 e15 => ?_)
  show OEnds _ _ _ _ _ _ T15 (mkF m 16 #[.val (.ref a1), .val (.ref a2), .val (.int p3), .val (.ref a4), .val (.int (2 : Int32)), .val (.long y12), .second] [(.int (2 : Int32)), (.int p3), (.ref a2)])
  refine own_go (fun t kt => XS.imul X15.here hx rfl (hb hby own_d6_16) rfl kt) ?_
  refine own_go (g' := (mkF m 18 #[.val (.ref a1), .val (.ref a2), .val (.int p3), .val (.ref a4), .val (.int (2 : Int32)), .val (.long y12), .second] [(.ref a1), (.int (p3 * (2 : Int32))), (.ref a2)])) (fun t kt => XS.aloadN X15.here hx rfl (hb hby own_d6_17) rfl rfl kt) ?_
  refine own_getF X15 hx hZ hown (hw _ (List.mem_of_getElem? (i := 31) rfl)) e15 F_word_h14 (g := (mkF m 18 #[.val (.ref a1), .val (.ref a2), .val (.int p3), .val (.ref a4), .val (.int (2 : Int32)), .val (.long y12), .second] [(.ref a1), (.int (p3 * (2 : Int32))), (.ref a2)])) rfl rfl (hb hby own_d6_18) (fun T16 X16 e16 => ?_)
  show OEnds _ _ _ _ _ _ T16 (mkF m 21 #[.val (.ref a1), .val (.ref a2), .val (.int p3), .val (.ref a4), .val (.int (2 : Int32)), .val (.long y12), .second] [(.ref aw), (.int (p3 * (2 : Int32))), (.ref a2)])
  refine own_go (fun t kt => XS.iload X16.here hx rfl (hb hby own_d6_21) rfl kt) ?_
  refine own_iaload X16 hx hZ e16 Vw_h14 ⟨by decide, by decide⟩ (v := (.int (1 : Int32))) rfl (g := (mkF m 23 #[.val (.ref a1), .val (.ref a2), .val (.int p3), .val (.ref a4), .val (.int (2 : Int32)), .val (.long y12), .second] [(.int (2 : Int32)), (.ref aw), (.int (p3 * (2 : Int32))), (.ref a2)])) rfl rfl (hb hby own_d6_23) ?_
  show OEnds _ _ _ _ _ _ T16 (mkF m 24 #[.val (.ref a1), .val (.ref a2), .val (.int p3), .val (.ref a4), .val (.int (2 : Int32)), .val (.long y12), .second] [(.int (1 : Int32)), (.int (p3 * (2 : Int32))), (.ref a2)])
  refine own_go (fun t kt => XS.iadd X16.here hx rfl (hb hby own_d6_24) rfl kt) ?_
  refine own_laload X16 hx hZ e16 Vk_h14 hin1 (v := (.long w1)) hk1 (g := (mkF m 25 #[.val (.ref a1), .val (.ref a2), .val (.int p3), .val (.ref a4), .val (.int (2 : Int32)), .val (.long y12), .second] [(.int ((p3 * (2 : Int32)) + (1 : Int32))), (.ref a2)])) rfl rfl (hb hby own_d6_25) ?_
  show OEnds _ _ _ _ _ _ T16 (mkF m 26 #[.val (.ref a1), .val (.ref a2), .val (.int p3), .val (.ref a4), .val (.int (2 : Int32)), .val (.long y12), .second] [(.long w1)])
  refine own_go (fun t kt => XS.aloadN X16.here hx rfl (hb hby own_d6_26) rfl rfl kt) ?_
  refine own_getF X16 hx hZ hown (hw _ (List.mem_of_getElem? (i := 33) rfl)) e16 F_shift_h14 (g := (mkF m 27 #[.val (.ref a1), .val (.ref a2), .val (.int p3), .val (.ref a4), .val (.int (2 : Int32)), .val (.long y12), .second] [(.ref a1), (.long w1)])) rfl rfl (hb hby own_d6_27) (fun T17 X17 e17 => ?_)
  show OEnds _ _ _ _ _ _ T17 (mkF m 30 #[.val (.ref a1), .val (.ref a2), .val (.int p3), .val (.ref a4), .val (.int (2 : Int32)), .val (.long y12), .second] [(.ref as), (.long w1)])
  refine own_go (fun t kt => XS.iload X17.here hx rfl (hb hby own_d6_30) rfl kt) ?_
  refine own_iaload X17 hx hZ e17 Vs_h14 ⟨by decide, by decide⟩ (v := (.int u)) rfl (g := (mkF m 32 #[.val (.ref a1), .val (.ref a2), .val (.int p3), .val (.ref a4), .val (.int (2 : Int32)), .val (.long y12), .second] [(.int (2 : Int32)), (.ref as), (.long w1)])) rfl rfl (hb hby own_d6_32) ?_
  show OEnds _ _ _ _ _ _ T17 (mkF m 33 #[.val (.ref a1), .val (.ref a2), .val (.int p3), .val (.ref a4), .val (.int (2 : Int32)), .val (.long y12), .second] [(.int u), (.long w1)])
  refine own_go (fun t kt => XS.lushr X17.here hx rfl (hb hby own_d6_33) rfl kt) ?_
  refine own_go (fun t kt => XS.aloadN X17.here hx rfl (hb hby own_d6_34) rfl rfl kt) ?_
  refine own_getF X17 hx hZ hown (hw _ (List.mem_of_getElem? (i := 35) rfl)) e17 F_mask_h14 (g := (mkF m 35 #[.val (.ref a1), .val (.ref a2), .val (.int p3), .val (.ref a4), .val (.int (2 : Int32)), .val (.long y12), .second] [(.ref a1), (.long ((w1.toUInt64 >>> (u &&& 0x3f).toInt64.toUInt64).toInt64))])) rfl rfl (hb hby own_d6_35) (fun T18 X18 e18 => ?_)
  show OEnds _ _ _ _ _ _ T18 (mkF m 38 #[.val (.ref a1), .val (.ref a2), .val (.int p3), .val (.ref a4), .val (.int (2 : Int32)), .val (.long y12), .second] [(.ref am), (.long ((w1.toUInt64 >>> (u &&& 0x3f).toInt64.toUInt64).toInt64))])
  refine own_go (fun t kt => XS.iload X18.here hx rfl (hb hby own_d6_38) rfl kt) ?_
  refine own_laload X18 hx hZ e18 Vm_h14 ⟨by decide, by decide⟩ (v := (.long m2)) rfl (g := (mkF m 40 #[.val (.ref a1), .val (.ref a2), .val (.int p3), .val (.ref a4), .val (.int (2 : Int32)), .val (.long y12), .second] [(.int (2 : Int32)), (.ref am), (.long ((w1.toUInt64 >>> (u &&& 0x3f).toInt64.toUInt64).toInt64))])) rfl rfl (hb hby own_d6_40) ?_
  show OEnds _ _ _ _ _ _ T18 (mkF m 41 #[.val (.ref a1), .val (.ref a2), .val (.int p3), .val (.ref a4), .val (.int (2 : Int32)), .val (.long y12), .second] [(.long m2), (.long ((w1.toUInt64 >>> (u &&& 0x3f).toInt64.toUInt64).toInt64))])
  refine own_go (g' := (mkF m 42 #[.val (.ref a1), .val (.ref a2), .val (.int p3), .val (.ref a4), .val (.int (2 : Int32)), .val (.long y12), .second] [(.long (((w1.toUInt64 >>> (u &&& 0x3f).toInt64.toUInt64).toInt64) &&& m2))])) (fun t kt => XS.land X18.here hx rfl (hb hby own_d6_41) rfl kt) ?_
  refine own_let (P := fun y19 => OEnds _ _ _ _ _ _ T18 (mkF m 42 #[.val (.ref a1), .val (.ref a2), .val (.int p3), .val (.ref a4), .val (.int (2 : Int32)), .val (.long y12), .second] [(.long y19)])) (((w1.toUInt64 >>> (u &&& 0x3f).toInt64.toUInt64).toInt64) &&& m2) (fun y19 hv_y19 => ?_)
  refine own_go (fun t kt => XS.lstore X18.here hx rfl (hb hby own_d6_42) rfl (l' := #[.val (.ref a1), .val (.ref a2), .val (.int p3), .val (.ref a4), .val (.int (2 : Int32)), .val (.long y19), .second]) rfl kt) ?_
  refine own_go (fun t kt => XS.aloadN X18.here hx rfl (hb hby own_d6_44) rfl rfl kt) ?_
  refine own_go (fun t kt => XS.iload X18.here hx rfl (hb hby own_d6_45) rfl kt) ?_
  refine own_go (fun t kt => XS.aloadN X18.here hx rfl (hb hby own_d6_47) rfl rfl kt) ?_
  refine own_getF X18 hx hZ hown (hw _ (List.mem_of_getElem? (i := 37) rfl)) e18 F_low_h14 (g := (mkF m 48 #[.val (.ref a1), .val (.ref a2), .val (.int p3), .val (.ref a4), .val (.int (2 : Int32)), .val (.long y19), .second] [(.ref a1), (.int (2 : Int32)), (.ref a4)])) rfl rfl (hb hby own_d6_48) (fun T20 X20 e20 => ?_)
  show OEnds _ _ _ _ _ _ T20 (mkF m 51 #[.val (.ref a1), .val (.ref a2), .val (.int p3), .val (.ref a4), .val (.int (2 : Int32)), .val (.long y19), .second] [(.ref al), (.int (2 : Int32)), (.ref a4)])
  refine own_go (fun t kt => XS.iload X20.here hx rfl (hb hby own_d6_51) rfl kt) ?_
  refine own_iaload X20 hx hZ e20 Vl_h14 ⟨by decide, by decide⟩ (v := (.int l2)) rfl (g := (mkF m 53 #[.val (.ref a1), .val (.ref a2), .val (.int p3), .val (.ref a4), .val (.int (2 : Int32)), .val (.long y19), .second] [(.int (2 : Int32)), (.ref al), (.int (2 : Int32)), (.ref a4)])) rfl rfl (hb hby own_d6_53) ?_
  show OEnds _ _ _ _ _ _ T20 (mkF m 54 #[.val (.ref a1), .val (.ref a2), .val (.int p3), .val (.ref a4), .val (.int (2 : Int32)), .val (.long y19), .second] [(.int l2), (.int (2 : Int32)), (.ref a4)])
  refine own_go (fun t kt => XS.i2l X20.here hx rfl (hb hby own_d6_54) rfl kt) ?_
  refine own_go (fun t kt => XS.lload X20.here hx rfl (hb hby own_d6_55) rfl kt) ?_
  refine own_go (g' := (mkF m 58 #[.val (.ref a1), .val (.ref a2), .val (.int p3), .val (.ref a4), .val (.int (2 : Int32)), .val (.long y19), .second] [(.long ((l2.toInt64) + y19)), (.int (2 : Int32)), (.ref a4)])) (fun t kt => XS.ladd X20.here hx rfl (hb hby own_d6_57) rfl kt) ?_
  refine own_go (fun t kt => XS.l2i X20.here hx rfl (hb hby own_d6_58) rfl kt) ?_
  refine own_iastore X20 hx hZ e20 V14 ⟨by decide, by decide⟩ 2 rfl (Nat.le_of_ble_eq_true rfl) N14 ge_a4 (g := (mkF m 59 #[.val (.ref a1), .val (.ref a2), .val (.int p3), .val (.ref a4), .val (.int (2 : Int32)), .val (.long y19), .second] [(.int (((l2.toInt64) + y19).toInt32)), (.int (2 : Int32)), (.ref a4)])) rfl rfl (hb hby own_d6_59) (fun T21 h21 L21 X21 e21 N21 W21 V21 => ?_)
  show OEnds _ _ _ _ _ _ T21 (mkF m 60 #[.val (.ref a1), .val (.ref a2), .val (.int p3), .val (.ref a4), .val (.int (2 : Int32)), .val (.long y19), .second] [])
  have F_width_h21 := F_width_h14.other W21 (Or.inl ne_a1_a4)
  have F_word_h21 := F_word_h14.other W21 (Or.inl ne_a1_a4)
  have F_shift_h21 := F_shift_h14.other W21 (Or.inl ne_a1_a4)
  have F_mask_h21 := F_mask_h14.other W21 (Or.inl ne_a1_a4)
  have F_low_h21 := F_low_h14.other W21 (Or.inl ne_a1_a4)
  have Vw_h21 := Vw_h14.other W21 ne_aw_a4
  have Vs_h21 := Vs_h14.other W21 ne_as_a4
  have Vm_h21 := Vm_h14.other W21 ne_am_a4
  have Vl_h21 := Vl_h14.other W21 ne_al_a4
  have Vk_h21 := Vk_h14.other W21 ne_a2_a4
  have K21 := K14.wr W21 (Or.inl (List.mem_of_getElem? (i := 0) rfl))
  replace V21 : Arv Z h21 a4 ki .int (3 : Int32) [(.int (((l0.toInt64) + y5).toInt32)), (.int (((l1.toInt64) + y12).toInt32)), (.int (((l2.toInt64) + y19).toInt32))] (.int (0 : Int32)) := V21
  refine own_go (fun t kt => XS.iinc X21.here hx rfl (hb hby own_d6_60) rfl (l' := #[.val (.ref a1), .val (.ref a2), .val (.int p3), .val (.ref a4), .val (.int (3 : Int32)), .val (.long y19), .second]) rfl kt) ?_
  refine own_go (fun t kt => XS.goto X21.here hx rfl (pc0 := 63) (pc' := 3) rfl (hb hby own_d6_63) (by decide) (by decide) kt) ?_
  refine own_go (fun t kt => XS.iload X21.here hx rfl (hb hby own_d6_3) rfl kt) ?_
  refine own_go (fun t kt => XS.aloadN X21.here hx rfl (hb hby own_d6_5) rfl rfl kt) ?_
  refine own_alen X21 hx hZ e21 V21 (g := (mkF m 6 #[.val (.ref a1), .val (.ref a2), .val (.int p3), .val (.ref a4), .val (.int (3 : Int32)), .val (.long y19), .second] [(.ref a4), (.int (3 : Int32))])) rfl rfl (hb hby own_d6_6) ?_
  show OEnds _ _ _ _ _ _ T21 (mkF m 7 #[.val (.ref a1), .val (.ref a2), .val (.int p3), .val (.ref a4), .val (.int (3 : Int32)), .val (.long y19), .second] [(.int (3 : Int32)), (.int (3 : Int32))])
  refine own_go (fun t kt => XS.icmpYes X21.here hx rfl (pc0 := 7) (pc' := 66) rfl (hb hby own_d6_7) rfl (flt ((by decide) : ¬ ((3 : Int32) < (3 : Int32)))).2.1 (by decide) (by decide) kt) ?_
  exact own_retV X21 hx hlk hret (hb hby own_d6_66) e21 N21 (by decide) (by decide) (⟨rfl, K21, by have q := V21; rw [hv_y5, hv_y12, hv_y19] at q; exact q⟩)
theorem own_pd1 : parseMethodDescriptor "(I)J" = some ⟨[.int], some .long⟩ := by decide +kernel
theorem own_pd2 : parseMethodDescriptor "(IJJ)J" = some ⟨[.int, .long, .long], some .long⟩ := by decide +kernel
theorem own_pd3 : parseMethodDescriptor "(I[I[I[J[I)V" = some ⟨[.int, (.array .int), (.array .int), (.array .long), (.array .int)], none⟩ := by decide +kernel
theorem own_pd4 : parseMethodDescriptor "([JI[I)V" = some ⟨[(.array .long), .int, (.array .int)], none⟩ := by decide +kernel
theorem own_pn_0 : plainFor x = true := by first | exact plainFor_of_name (by first | (simp [plainName, overriddenIn]; done) | decide +kernel) | decide +kernel
theorem own_ef_own_law (m : MethodId) (x0 : Int64) (x1 : Int32) (x2 : Int64) (x3 : Int64) (x4 : Int32) (x5 : Int64) : entryFrame m #[(.long x0), (.int x1), (.long x2), (.long x3), (.int x4), (.long x5)] maxLocals = mkF m 0 #[.val (.long x0), .second, .val (.int x1), .val (.long x2), .second, .val (.long x3), .second, .val (.int x4), .val (.long x5), .second, .unset, .unset, .unset, .unset, .unset, .unset, .unset, .unset, .unset, .unset, .unset, .unset, .unset, .unset, .unset, .unset, .unset, .unset, .unset, .unset, .unset, .unset, .unset, .unset, .unset, .unset, .unset, .unset, .unset, .unset, .unset, .unset, .unset, .unset, .unset, .unset, .unset, .unset] [] := by first | (simp [entryFrame, mkF, argsToLocals, Value.category, maxLocals]; done) | rfl
set_option maxRecDepth 65536 in
set_option maxHeartbeats 40000000 in
theorem own_law (l : Launch) (Z : State) (a0 : Array Value) (hw : ∀ d ∈ tables_1, d.before a0 Z = true) (q1 : Int64) (p2 : Int32) (q3 q4 : Int64) (p5 : Int32) (q6 : Int64) (h0 : Heap) (n0 : Nat) (Z0 : n0 ≤ h0.size)  :
    OCon l x code maxLocals ret room_1 Z #[(.long q1), (.int p2), (.long q3), (.long q4), (.int p5), (.long q6)] h0 n0 (fun v h => v = some (.int 1)) := by
  refine own_body own_pn_0 ?_
  intro p e s m below meth c T0 hx hZ hby hml hown hnm hret hlk e0 X0
  replace hml : c.maxLocals = 48 := hml
  replace hown : s.vm.findClass "com/example/keen_odds/keenodds/io/LayoutUnpackPinLaw" = some m.cls := hown
  replace hnm : meth.name = "law" := hnm
  have N0 := Fr.nil n0
  have K0 : Keep h0 h0 [] := Keep.refl _ _
  refine own_at (own_ef_own_law m q1 p2 q3 q4 p5 q6) ?_
  refine own_go (fun t kt => XS.iload X0.here hx rfl (hb hby at_0) rfl kt) ?_
  refine own_go (fun t kt => XS.sipush X0.here hx rfl (hb hby at_2) kt) ?_
  refine own_go (fun t kt => XS.iand X0.here hx rfl (hb hby at_5) rfl kt) ?_
  refine own_go (fun t kt => XS.bipush X0.here hx rfl (hb hby at_6) kt) ?_
  refine own_go (fun t kt => iremM X0 hx rfl (hb hby at_8) rfl (by decide) kt) ?_
  refine own_let (P := fun y1 => OEnds _ _ _ _ _ _ T0 (mkF m 9 #[.val (.long q1), .second, .val (.int p2), .val (.long q3), .second, .val (.long q4), .second, .val (.int p5), .val (.long q6), .second, .unset, .unset, .unset, .unset, .unset, .unset, .unset, .unset, .unset, .unset, .unset, .unset, .unset, .unset, .unset, .unset, .unset, .unset, .unset, .unset, .unset, .unset, .unset, .unset, .unset, .unset, .unset, .unset, .unset, .unset, .unset, .unset, .unset, .unset, .unset, .unset, .unset, .unset] [(.int y1)])) ((p5 &&& (255 : Int32)) % (33 : Int32)) (fun y1 hv_y1 => ?_)
  refine own_go (fun t kt => XS.istore X0.here hx rfl (hb hby at_9) rfl (l' := #[.val (.long q1), .second, .val (.int p2), .val (.long q3), .second, .val (.long q4), .second, .val (.int p5), .val (.long q6), .second, .val (.int y1), .unset, .unset, .unset, .unset, .unset, .unset, .unset, .unset, .unset, .unset, .unset, .unset, .unset, .unset, .unset, .unset, .unset, .unset, .unset, .unset, .unset, .unset, .unset, .unset, .unset, .unset, .unset, .unset, .unset, .unset, .unset, .unset, .unset, .unset, .unset, .unset, .unset]) rfl kt) ?_
  refine own_go (fun t kt => XS.iload X0.here hx rfl (hb hby at_11) rfl kt) ?_
  refine own_go (g' := (mkF m 15 #[.val (.long q1), .second, .val (.int p2), .val (.long q3), .second, .val (.long q4), .second, .val (.int p5), .val (.long q6), .second, .val (.int y1), .unset, .unset, .unset, .unset, .unset, .unset, .unset, .unset, .unset, .unset, .unset, .unset, .unset, .unset, .unset, .unset, .unset, .unset, .unset, .unset, .unset, .unset, .unset, .unset, .unset, .unset, .unset, .unset, .unset, .unset, .unset, .unset, .unset, .unset, .unset, .unset, .unset] [(.int (8 : Int32)), (.int p5)])) (fun t kt => XS.bipush X0.here hx rfl (hb hby at_13) kt) ?_
  refine own_go (fun t kt => XS.iushr X0.here hx rfl (hb hby at_15) rfl kt) ?_
  refine own_go (fun t kt => XS.sipush X0.here hx rfl (hb hby at_16) kt) ?_
  refine own_go (fun t kt => XS.iand X0.here hx rfl (hb hby at_19) rfl kt) ?_
  refine own_go (fun t kt => XS.bipush X0.here hx rfl (hb hby at_20) kt) ?_
  refine own_go (fun t kt => iremM X0 hx rfl (hb hby at_22) rfl (by decide) kt) ?_
  refine own_let (P := fun y2 => OEnds _ _ _ _ _ _ T0 (mkF m 23 #[.val (.long q1), .second, .val (.int p2), .val (.long q3), .second, .val (.long q4), .second, .val (.int p5), .val (.long q6), .second, .val (.int y1), .unset, .unset, .unset, .unset, .unset, .unset, .unset, .unset, .unset, .unset, .unset, .unset, .unset, .unset, .unset, .unset, .unset, .unset, .unset, .unset, .unset, .unset, .unset, .unset, .unset, .unset, .unset, .unset, .unset, .unset, .unset, .unset, .unset, .unset, .unset, .unset, .unset] [(.int y2)])) ((((p5.toUInt32 >>> ((8 : Int32) &&& 31).toUInt32).toInt32) &&& (255 : Int32)) % (33 : Int32)) (fun y2 hv_y2 => ?_)
  refine own_go (fun t kt => XS.istore X0.here hx rfl (hb hby at_23) rfl (l' := #[.val (.long q1), .second, .val (.int p2), .val (.long q3), .second, .val (.long q4), .second, .val (.int p5), .val (.long q6), .second, .val (.int y1), .val (.int y2), .unset, .unset, .unset, .unset, .unset, .unset, .unset, .unset, .unset, .unset, .unset, .unset, .unset, .unset, .unset, .unset, .unset, .unset, .unset, .unset, .unset, .unset, .unset, .unset, .unset, .unset, .unset, .unset, .unset, .unset, .unset, .unset, .unset, .unset, .unset, .unset]) rfl kt) ?_
  refine own_go (fun t kt => XS.iload X0.here hx rfl (hb hby at_25) rfl kt) ?_
  refine own_go (g' := (mkF m 29 #[.val (.long q1), .second, .val (.int p2), .val (.long q3), .second, .val (.long q4), .second, .val (.int p5), .val (.long q6), .second, .val (.int y1), .val (.int y2), .unset, .unset, .unset, .unset, .unset, .unset, .unset, .unset, .unset, .unset, .unset, .unset, .unset, .unset, .unset, .unset, .unset, .unset, .unset, .unset, .unset, .unset, .unset, .unset, .unset, .unset, .unset, .unset, .unset, .unset, .unset, .unset, .unset, .unset, .unset, .unset] [(.int (16 : Int32)), (.int p5)])) (fun t kt => XS.bipush X0.here hx rfl (hb hby at_27) kt) ?_
  refine own_go (fun t kt => XS.iushr X0.here hx rfl (hb hby at_29) rfl kt) ?_
  refine own_go (fun t kt => XS.sipush X0.here hx rfl (hb hby at_30) kt) ?_
  refine own_go (fun t kt => XS.iand X0.here hx rfl (hb hby at_33) rfl kt) ?_
  refine own_go (fun t kt => XS.bipush X0.here hx rfl (hb hby at_34) kt) ?_
  refine own_go (fun t kt => iremM X0 hx rfl (hb hby at_36) rfl (by decide) kt) ?_
  refine own_let (P := fun y3 => OEnds _ _ _ _ _ _ T0 (mkF m 37 #[.val (.long q1), .second, .val (.int p2), .val (.long q3), .second, .val (.long q4), .second, .val (.int p5), .val (.long q6), .second, .val (.int y1), .val (.int y2), .unset, .unset, .unset, .unset, .unset, .unset, .unset, .unset, .unset, .unset, .unset, .unset, .unset, .unset, .unset, .unset, .unset, .unset, .unset, .unset, .unset, .unset, .unset, .unset, .unset, .unset, .unset, .unset, .unset, .unset, .unset, .unset, .unset, .unset, .unset, .unset] [(.int y3)])) ((((p5.toUInt32 >>> ((16 : Int32) &&& 31).toUInt32).toInt32) &&& (255 : Int32)) % (33 : Int32)) (fun y3 hv_y3 => ?_)
  refine own_go (fun t kt => XS.istore X0.here hx rfl (hb hby at_37) rfl (l' := #[.val (.long q1), .second, .val (.int p2), .val (.long q3), .second, .val (.long q4), .second, .val (.int p5), .val (.long q6), .second, .val (.int y1), .val (.int y2), .val (.int y3), .unset, .unset, .unset, .unset, .unset, .unset, .unset, .unset, .unset, .unset, .unset, .unset, .unset, .unset, .unset, .unset, .unset, .unset, .unset, .unset, .unset, .unset, .unset, .unset, .unset, .unset, .unset, .unset, .unset, .unset, .unset, .unset, .unset, .unset, .unset]) rfl kt) ?_
  refine own_go (fun t kt => XS.iload X0.here hx rfl (hb hby at_39) rfl kt) ?_
  refine own_go (g' := (mkF m 43 #[.val (.long q1), .second, .val (.int p2), .val (.long q3), .second, .val (.long q4), .second, .val (.int p5), .val (.long q6), .second, .val (.int y1), .val (.int y2), .val (.int y3), .unset, .unset, .unset, .unset, .unset, .unset, .unset, .unset, .unset, .unset, .unset, .unset, .unset, .unset, .unset, .unset, .unset, .unset, .unset, .unset, .unset, .unset, .unset, .unset, .unset, .unset, .unset, .unset, .unset, .unset, .unset, .unset, .unset, .unset, .unset] [(.int (24 : Int32)), (.int p5)])) (fun t kt => XS.bipush X0.here hx rfl (hb hby at_41) kt) ?_
  refine own_go (fun t kt => XS.iushr X0.here hx rfl (hb hby at_43) rfl kt) ?_
  refine own_go (fun t kt => XS.bipush X0.here hx rfl (hb hby at_44) kt) ?_
  refine own_go (fun t kt => XS.iand X0.here hx rfl (hb hby at_46) rfl kt) ?_
  refine own_go (fun t kt => XS.bipush X0.here hx rfl (hb hby at_47) kt) ?_
  refine own_go (fun t kt => XS.iload X0.here hx rfl (hb hby at_49) rfl kt) ?_
  refine own_go (fun t kt => XS.isub X0.here hx rfl (hb hby at_51) rfl kt) ?_
  refine own_go (fun t kt => iremM X0 hx rfl (hb hby at_52) rfl (own_nz hv_y3) kt) ?_
  refine own_let (P := fun y4 => OEnds _ _ _ _ _ _ T0 (mkF m 53 #[.val (.long q1), .second, .val (.int p2), .val (.long q3), .second, .val (.long q4), .second, .val (.int p5), .val (.long q6), .second, .val (.int y1), .val (.int y2), .val (.int y3), .unset, .unset, .unset, .unset, .unset, .unset, .unset, .unset, .unset, .unset, .unset, .unset, .unset, .unset, .unset, .unset, .unset, .unset, .unset, .unset, .unset, .unset, .unset, .unset, .unset, .unset, .unset, .unset, .unset, .unset, .unset, .unset, .unset, .unset, .unset] [(.int y4)])) ((((p5.toUInt32 >>> ((24 : Int32) &&& 31).toUInt32).toInt32) &&& (127 : Int32)) % ((65 : Int32) - y3)) (fun y4 hv_y4 => ?_)
  refine own_go (g' := (mkF m 55 #[.val (.long q1), .second, .val (.int p2), .val (.long q3), .second, .val (.long q4), .second, .val (.int p5), .val (.long q6), .second, .val (.int y1), .val (.int y2), .val (.int y3), .val (.int y4), .unset, .unset, .unset, .unset, .unset, .unset, .unset, .unset, .unset, .unset, .unset, .unset, .unset, .unset, .unset, .unset, .unset, .unset, .unset, .unset, .unset, .unset, .unset, .unset, .unset, .unset, .unset, .unset, .unset, .unset, .unset, .unset, .unset, .unset] [])) (fun t kt => XS.istore X0.here hx rfl (hb hby at_53) rfl (l' := #[.val (.long q1), .second, .val (.int p2), .val (.long q3), .second, .val (.long q4), .second, .val (.int p5), .val (.long q6), .second, .val (.int y1), .val (.int y2), .val (.int y3), .val (.int y4), .unset, .unset, .unset, .unset, .unset, .unset, .unset, .unset, .unset, .unset, .unset, .unset, .unset, .unset, .unset, .unset, .unset, .unset, .unset, .unset, .unset, .unset, .unset, .unset, .unset, .unset, .unset, .unset, .unset, .unset, .unset, .unset, .unset, .unset]) rfl kt) ?_
  refine own_go (fun t kt => XS.lload X0.here hx rfl (hb hby at_55) rfl kt) ?_
  refine own_go (fun t kt => XS.bipush X0.here hx rfl (hb hby at_57) kt) ?_
  refine own_go (fun t kt => XS.lushr X0.here hx rfl (hb hby at_59) rfl kt) ?_
  refine own_go (fun t kt => X0.ldc2Long hx hown (mvT hZ (hw _ (List.mem_of_getElem? (i := 0) rfl))) (g := (mkF m 60 #[.val (.long q1), .second, .val (.int p2), .val (.long q3), .second, .val (.long q4), .second, .val (.int p5), .val (.long q6), .second, .val (.int y1), .val (.int y2), .val (.int y3), .val (.int y4), .unset, .unset, .unset, .unset, .unset, .unset, .unset, .unset, .unset, .unset, .unset, .unset, .unset, .unset, .unset, .unset, .unset, .unset, .unset, .unset, .unset, .unset, .unset, .unset, .unset, .unset, .unset, .unset, .unset, .unset, .unset, .unset, .unset, .unset] [(.long ((q4.toUInt64 >>> ((32 : Int32) &&& 0x3f).toInt64.toUInt64).toInt64))])) rfl (hb hby at_60) t kt) ?_
  refine own_go (fun t kt => XS.land X0.here hx rfl (hb hby at_63) rfl kt) ?_
  refine own_go (fun t kt => XS.l2i X0.here hx rfl (hb hby at_64) rfl kt) ?_
  refine own_go (fun t kt => XS.iconst X0.here hx rfl (hb hby at_65) kt) ?_
  refine own_go (g' := (mkF m 67 #[.val (.long q1), .second, .val (.int p2), .val (.long q3), .second, .val (.long q4), .second, .val (.int p5), .val (.long q6), .second, .val (.int y1), .val (.int y2), .val (.int y3), .val (.int y4), .unset, .unset, .unset, .unset, .unset, .unset, .unset, .unset, .unset, .unset, .unset, .unset, .unset, .unset, .unset, .unset, .unset, .unset, .unset, .unset, .unset, .unset, .unset, .unset, .unset, .unset, .unset, .unset, .unset, .unset, .unset, .unset, .unset, .unset] [(.int (((((q4.toUInt64 >>> ((32 : Int32) &&& 0x3f).toInt64.toUInt64).toInt64) &&& (2147483647 : Int64)).toInt32) % (3 : Int32)))])) (fun t kt => iremM X0 hx rfl (hb hby at_66) rfl (by decide) kt) ?_
  refine own_let (P := fun y5 => OEnds _ _ _ _ _ _ T0 (mkF m 67 #[.val (.long q1), .second, .val (.int p2), .val (.long q3), .second, .val (.long q4), .second, .val (.int p5), .val (.long q6), .second, .val (.int y1), .val (.int y2), .val (.int y3), .val (.int y4), .unset, .unset, .unset, .unset, .unset, .unset, .unset, .unset, .unset, .unset, .unset, .unset, .unset, .unset, .unset, .unset, .unset, .unset, .unset, .unset, .unset, .unset, .unset, .unset, .unset, .unset, .unset, .unset, .unset, .unset, .unset, .unset, .unset, .unset] [(.int y5)])) (((((q4.toUInt64 >>> ((32 : Int32) &&& 0x3f).toInt64.toUInt64).toInt64) &&& (2147483647 : Int64)).toInt32) % (3 : Int32)) (fun y5 hv_y5 => ?_)
  refine own_go (fun t kt => XS.istore X0.here hx rfl (hb hby at_67) rfl (l' := #[.val (.long q1), .second, .val (.int p2), .val (.long q3), .second, .val (.long q4), .second, .val (.int p5), .val (.long q6), .second, .val (.int y1), .val (.int y2), .val (.int y3), .val (.int y4), .val (.int y5), .unset, .unset, .unset, .unset, .unset, .unset, .unset, .unset, .unset, .unset, .unset, .unset, .unset, .unset, .unset, .unset, .unset, .unset, .unset, .unset, .unset, .unset, .unset, .unset, .unset, .unset, .unset, .unset, .unset, .unset, .unset, .unset, .unset]) rfl kt) ?_
  refine own_go (fun t kt => XS.iload X0.here hx rfl (hb hby at_69) rfl kt) ?_
  refine own_callS X0 hx hZ (W := 0) (argsL := [(.int y1)]) (rest := []) hown (hw _ (List.mem_of_getElem? (i := 1) rfl)) (hw _ (List.mem_of_getElem? (i := 2) rfl)) (hw _ (List.mem_of_getElem? (i := 3) rfl)) (hw _ (List.mem_of_getElem? (i := 4) rfl)) (by decide) (own_maskm l Z a0 hw y1 h0 n0 (Nat.le_trans Z0 K0.1)) (by decide) (by decide) (g := (mkF m 71 #[.val (.long q1), .second, .val (.int p2), .val (.long q3), .second, .val (.long q4), .second, .val (.int p5), .val (.long q6), .second, .val (.int y1), .val (.int y2), .val (.int y3), .val (.int y4), .val (.int y5), .unset, .unset, .unset, .unset, .unset, .unset, .unset, .unset, .unset, .unset, .unset, .unset, .unset, .unset, .unset, .unset, .unset, .unset, .unset, .unset, .unset, .unset, .unset, .unset, .unset, .unset, .unset, .unset, .unset, .unset, .unset, .unset, .unset] [(.int y1)])) rfl (by rw [hml]; rfl) (lenOf own_pd1 rfl) rfl (by show 2 * 0 + _ ≤ _; exact Nat.le_of_eq rfl) (hb hby at_71) e0 N0 (by decide) (by decide) (fun v6 T6 L6 X6 N6 hq6 => ?_)
  obtain ⟨rfl, e6⟩ := hq6
  show OEnds _ _ _ _ _ _ T6 (mkF m 74 #[.val (.long q1), .second, .val (.int p2), .val (.long q3), .second, .val (.long q4), .second, .val (.int p5), .val (.long q6), .second, .val (.int y1), .val (.int y2), .val (.int y3), .val (.int y4), .val (.int y5), .unset, .unset, .unset, .unset, .unset, .unset, .unset, .unset, .unset, .unset, .unset, .unset, .unset, .unset, .unset, .unset, .unset, .unset, .unset, .unset, .unset, .unset, .unset, .unset, .unset, .unset, .unset, .unset, .unset, .unset, .unset, .unset, .unset] [(.long (own_mask y1))])
  refine own_let (P := fun y7 => OEnds _ _ _ _ _ _ T6 (mkF m 74 #[.val (.long q1), .second, .val (.int p2), .val (.long q3), .second, .val (.long q4), .second, .val (.int p5), .val (.long q6), .second, .val (.int y1), .val (.int y2), .val (.int y3), .val (.int y4), .val (.int y5), .unset, .unset, .unset, .unset, .unset, .unset, .unset, .unset, .unset, .unset, .unset, .unset, .unset, .unset, .unset, .unset, .unset, .unset, .unset, .unset, .unset, .unset, .unset, .unset, .unset, .unset, .unset, .unset, .unset, .unset, .unset, .unset, .unset] [(.long y7)])) (own_mask y1) (fun y7 hv_y7 => ?_)
  refine own_go (fun t kt => XS.lstore X6.here hx rfl (hb hby at_74) rfl (l' := #[.val (.long q1), .second, .val (.int p2), .val (.long q3), .second, .val (.long q4), .second, .val (.int p5), .val (.long q6), .second, .val (.int y1), .val (.int y2), .val (.int y3), .val (.int y4), .val (.int y5), .val (.long y7), .second, .unset, .unset, .unset, .unset, .unset, .unset, .unset, .unset, .unset, .unset, .unset, .unset, .unset, .unset, .unset, .unset, .unset, .unset, .unset, .unset, .unset, .unset, .unset, .unset, .unset, .unset, .unset, .unset, .unset, .unset, .unset]) rfl kt) ?_
  refine own_go (fun t kt => XS.iload X6.here hx rfl (hb hby at_76) rfl kt) ?_
  refine own_callS X6 hx hZ (W := 0) (argsL := [(.int y2)]) (rest := []) hown (hw _ (List.mem_of_getElem? (i := 1) rfl)) (hw _ (List.mem_of_getElem? (i := 2) rfl)) (hw _ (List.mem_of_getElem? (i := 3) rfl)) (hw _ (List.mem_of_getElem? (i := 4) rfl)) (by decide) (own_maskm l Z a0 hw y2 h0 n0 (Nat.le_trans Z0 K0.1)) (by decide) (by decide) (g := (mkF m 78 #[.val (.long q1), .second, .val (.int p2), .val (.long q3), .second, .val (.long q4), .second, .val (.int p5), .val (.long q6), .second, .val (.int y1), .val (.int y2), .val (.int y3), .val (.int y4), .val (.int y5), .val (.long y7), .second, .unset, .unset, .unset, .unset, .unset, .unset, .unset, .unset, .unset, .unset, .unset, .unset, .unset, .unset, .unset, .unset, .unset, .unset, .unset, .unset, .unset, .unset, .unset, .unset, .unset, .unset, .unset, .unset, .unset, .unset, .unset] [(.int y2)])) rfl (by rw [hml]; rfl) (lenOf own_pd1 rfl) rfl (by show 2 * 0 + _ ≤ _; exact Nat.le_of_eq rfl) (hb hby at_78) e6 N6 (by decide) (by decide) (fun v8 T8 L8 X8 N8 hq8 => ?_)
  obtain ⟨rfl, e8⟩ := hq8
  show OEnds _ _ _ _ _ _ T8 (mkF m 81 #[.val (.long q1), .second, .val (.int p2), .val (.long q3), .second, .val (.long q4), .second, .val (.int p5), .val (.long q6), .second, .val (.int y1), .val (.int y2), .val (.int y3), .val (.int y4), .val (.int y5), .val (.long y7), .second, .unset, .unset, .unset, .unset, .unset, .unset, .unset, .unset, .unset, .unset, .unset, .unset, .unset, .unset, .unset, .unset, .unset, .unset, .unset, .unset, .unset, .unset, .unset, .unset, .unset, .unset, .unset, .unset, .unset, .unset, .unset] [(.long (own_mask y2))])
  refine own_let (P := fun y9 => OEnds _ _ _ _ _ _ T8 (mkF m 81 #[.val (.long q1), .second, .val (.int p2), .val (.long q3), .second, .val (.long q4), .second, .val (.int p5), .val (.long q6), .second, .val (.int y1), .val (.int y2), .val (.int y3), .val (.int y4), .val (.int y5), .val (.long y7), .second, .unset, .unset, .unset, .unset, .unset, .unset, .unset, .unset, .unset, .unset, .unset, .unset, .unset, .unset, .unset, .unset, .unset, .unset, .unset, .unset, .unset, .unset, .unset, .unset, .unset, .unset, .unset, .unset, .unset, .unset, .unset] [(.long y9)])) (own_mask y2) (fun y9 hv_y9 => ?_)
  refine own_go (fun t kt => XS.lstore X8.here hx rfl (hb hby at_81) rfl (l' := #[.val (.long q1), .second, .val (.int p2), .val (.long q3), .second, .val (.long q4), .second, .val (.int p5), .val (.long q6), .second, .val (.int y1), .val (.int y2), .val (.int y3), .val (.int y4), .val (.int y5), .val (.long y7), .second, .val (.long y9), .second, .unset, .unset, .unset, .unset, .unset, .unset, .unset, .unset, .unset, .unset, .unset, .unset, .unset, .unset, .unset, .unset, .unset, .unset, .unset, .unset, .unset, .unset, .unset, .unset, .unset, .unset, .unset, .unset, .unset]) rfl kt) ?_
  refine own_go (fun t kt => XS.iload X8.here hx rfl (hb hby at_83) rfl kt) ?_
  refine own_callS X8 hx hZ (W := 0) (argsL := [(.int y3)]) (rest := []) hown (hw _ (List.mem_of_getElem? (i := 1) rfl)) (hw _ (List.mem_of_getElem? (i := 2) rfl)) (hw _ (List.mem_of_getElem? (i := 3) rfl)) (hw _ (List.mem_of_getElem? (i := 4) rfl)) (by decide) (own_maskm l Z a0 hw y3 h0 n0 (Nat.le_trans Z0 K0.1)) (by decide) (by decide) (g := (mkF m 85 #[.val (.long q1), .second, .val (.int p2), .val (.long q3), .second, .val (.long q4), .second, .val (.int p5), .val (.long q6), .second, .val (.int y1), .val (.int y2), .val (.int y3), .val (.int y4), .val (.int y5), .val (.long y7), .second, .val (.long y9), .second, .unset, .unset, .unset, .unset, .unset, .unset, .unset, .unset, .unset, .unset, .unset, .unset, .unset, .unset, .unset, .unset, .unset, .unset, .unset, .unset, .unset, .unset, .unset, .unset, .unset, .unset, .unset, .unset, .unset] [(.int y3)])) rfl (by rw [hml]; rfl) (lenOf own_pd1 rfl) rfl (by show 2 * 0 + _ ≤ _; exact Nat.le_of_eq rfl) (hb hby at_85) e8 N8 (by decide) (by decide) (fun v10 T10 L10 X10 N10 hq10 => ?_)
  obtain ⟨rfl, e10⟩ := hq10
  show OEnds _ _ _ _ _ _ T10 (mkF m 88 #[.val (.long q1), .second, .val (.int p2), .val (.long q3), .second, .val (.long q4), .second, .val (.int p5), .val (.long q6), .second, .val (.int y1), .val (.int y2), .val (.int y3), .val (.int y4), .val (.int y5), .val (.long y7), .second, .val (.long y9), .second, .unset, .unset, .unset, .unset, .unset, .unset, .unset, .unset, .unset, .unset, .unset, .unset, .unset, .unset, .unset, .unset, .unset, .unset, .unset, .unset, .unset, .unset, .unset, .unset, .unset, .unset, .unset, .unset, .unset] [(.long (own_mask y3))])
  refine own_let (P := fun y11 => OEnds _ _ _ _ _ _ T10 (mkF m 88 #[.val (.long q1), .second, .val (.int p2), .val (.long q3), .second, .val (.long q4), .second, .val (.int p5), .val (.long q6), .second, .val (.int y1), .val (.int y2), .val (.int y3), .val (.int y4), .val (.int y5), .val (.long y7), .second, .val (.long y9), .second, .unset, .unset, .unset, .unset, .unset, .unset, .unset, .unset, .unset, .unset, .unset, .unset, .unset, .unset, .unset, .unset, .unset, .unset, .unset, .unset, .unset, .unset, .unset, .unset, .unset, .unset, .unset, .unset, .unset] [(.long y11)])) (own_mask y3) (fun y11 hv_y11 => ?_)
  refine own_go (fun t kt => XS.lstore X10.here hx rfl (hb hby at_88) rfl (l' := #[.val (.long q1), .second, .val (.int p2), .val (.long q3), .second, .val (.long q4), .second, .val (.int p5), .val (.long q6), .second, .val (.int y1), .val (.int y2), .val (.int y3), .val (.int y4), .val (.int y5), .val (.long y7), .second, .val (.long y9), .second, .val (.long y11), .second, .unset, .unset, .unset, .unset, .unset, .unset, .unset, .unset, .unset, .unset, .unset, .unset, .unset, .unset, .unset, .unset, .unset, .unset, .unset, .unset, .unset, .unset, .unset, .unset, .unset, .unset, .unset]) rfl kt) ?_
  refine own_go (g' := (mkF m 91 #[.val (.long q1), .second, .val (.int p2), .val (.long q3), .second, .val (.long q4), .second, .val (.int p5), .val (.long q6), .second, .val (.int y1), .val (.int y2), .val (.int y3), .val (.int y4), .val (.int y5), .val (.long y7), .second, .val (.long y9), .second, .val (.long y11), .second, .unset, .unset, .unset, .unset, .unset, .unset, .unset, .unset, .unset, .unset, .unset, .unset, .unset, .unset, .unset, .unset, .unset, .unset, .unset, .unset, .unset, .unset, .unset, .unset, .unset, .unset, .unset] [(.long q1)])) (fun t kt => XS.lloadN X10.here hx rfl (hb hby at_90) rfl kt) ?_
  refine own_go (fun t kt => XS.l2i X10.here hx rfl (hb hby at_91) rfl kt) ?_
  refine own_let (P := fun y12 => OEnds _ _ _ _ _ _ T10 (mkF m 92 #[.val (.long q1), .second, .val (.int p2), .val (.long q3), .second, .val (.long q4), .second, .val (.int p5), .val (.long q6), .second, .val (.int y1), .val (.int y2), .val (.int y3), .val (.int y4), .val (.int y5), .val (.long y7), .second, .val (.long y9), .second, .val (.long y11), .second, .unset, .unset, .unset, .unset, .unset, .unset, .unset, .unset, .unset, .unset, .unset, .unset, .unset, .unset, .unset, .unset, .unset, .unset, .unset, .unset, .unset, .unset, .unset, .unset, .unset, .unset, .unset] [(.int y12)])) (q1.toInt32) (fun y12 hv_y12 => ?_)
  refine own_go (fun t kt => XS.istore X10.here hx rfl (hb hby at_92) rfl (l' := #[.val (.long q1), .second, .val (.int p2), .val (.long q3), .second, .val (.long q4), .second, .val (.int p5), .val (.long q6), .second, .val (.int y1), .val (.int y2), .val (.int y3), .val (.int y4), .val (.int y5), .val (.long y7), .second, .val (.long y9), .second, .val (.long y11), .second, .val (.int y12), .unset, .unset, .unset, .unset, .unset, .unset, .unset, .unset, .unset, .unset, .unset, .unset, .unset, .unset, .unset, .unset, .unset, .unset, .unset, .unset, .unset, .unset, .unset, .unset, .unset, .unset]) rfl kt) ?_
  refine own_go (fun t kt => XS.lloadN X10.here hx rfl (hb hby at_94) rfl kt) ?_
  refine own_go (fun t kt => XS.bipush X10.here hx rfl (hb hby at_95) kt) ?_
  refine own_go (fun t kt => XS.lushr X10.here hx rfl (hb hby at_97) rfl kt) ?_
  refine own_go (fun t kt => XS.l2i X10.here hx rfl (hb hby at_98) rfl kt) ?_
  refine own_let (P := fun y13 => OEnds _ _ _ _ _ _ T10 (mkF m 99 #[.val (.long q1), .second, .val (.int p2), .val (.long q3), .second, .val (.long q4), .second, .val (.int p5), .val (.long q6), .second, .val (.int y1), .val (.int y2), .val (.int y3), .val (.int y4), .val (.int y5), .val (.long y7), .second, .val (.long y9), .second, .val (.long y11), .second, .val (.int y12), .unset, .unset, .unset, .unset, .unset, .unset, .unset, .unset, .unset, .unset, .unset, .unset, .unset, .unset, .unset, .unset, .unset, .unset, .unset, .unset, .unset, .unset, .unset, .unset, .unset, .unset] [(.int y13)])) (((q1.toUInt64 >>> ((32 : Int32) &&& 0x3f).toInt64.toUInt64).toInt64).toInt32) (fun y13 hv_y13 => ?_)
  refine own_go (fun t kt => XS.istore X10.here hx rfl (hb hby at_99) rfl (l' := #[.val (.long q1), .second, .val (.int p2), .val (.long q3), .second, .val (.long q4), .second, .val (.int p5), .val (.long q6), .second, .val (.int y1), .val (.int y2), .val (.int y3), .val (.int y4), .val (.int y5), .val (.long y7), .second, .val (.long y9), .second, .val (.long y11), .second, .val (.int y12), .val (.int y13), .unset, .unset, .unset, .unset, .unset, .unset, .unset, .unset, .unset, .unset, .unset, .unset, .unset, .unset, .unset, .unset, .unset, .unset, .unset, .unset, .unset, .unset, .unset, .unset, .unset]) rfl kt) ?_
  refine own_go (g' := (mkF m 102 #[.val (.long q1), .second, .val (.int p2), .val (.long q3), .second, .val (.long q4), .second, .val (.int p5), .val (.long q6), .second, .val (.int y1), .val (.int y2), .val (.int y3), .val (.int y4), .val (.int y5), .val (.long y7), .second, .val (.long y9), .second, .val (.long y11), .second, .val (.int y12), .val (.int y13), .unset, .unset, .unset, .unset, .unset, .unset, .unset, .unset, .unset, .unset, .unset, .unset, .unset, .unset, .unset, .unset, .unset, .unset, .unset, .unset, .unset, .unset, .unset, .unset, .unset] [(.int p2)])) (fun t kt => XS.iloadN X10.here hx rfl (hb hby at_101) rfl kt) ?_
  refine own_go (fun t kt => XS.istore X10.here hx rfl (hb hby at_102) rfl (l' := #[.val (.long q1), .second, .val (.int p2), .val (.long q3), .second, .val (.long q4), .second, .val (.int p5), .val (.long q6), .second, .val (.int y1), .val (.int y2), .val (.int y3), .val (.int y4), .val (.int y5), .val (.long y7), .second, .val (.long y9), .second, .val (.long y11), .second, .val (.int y12), .val (.int y13), .val (.int p2), .unset, .unset, .unset, .unset, .unset, .unset, .unset, .unset, .unset, .unset, .unset, .unset, .unset, .unset, .unset, .unset, .unset, .unset, .unset, .unset, .unset, .unset, .unset, .unset]) rfl kt) ?_
  refine own_go (fun t kt => XS.iload X10.here hx rfl (hb hby at_104) rfl kt) ?_
  refine own_go (fun t kt => XS.lloadN X10.here hx rfl (hb hby at_106) rfl kt) ?_
  refine own_go (fun t kt => XS.lload X10.here hx rfl (hb hby at_107) rfl kt) ?_
  refine own_callS X10 hx hZ (W := 0) (argsL := [(.int y12), (.long q3), (.long y7)]) (rest := []) hown (hw _ (List.mem_of_getElem? (i := 5) rfl)) (hw _ (List.mem_of_getElem? (i := 6) rfl)) (hw _ (List.mem_of_getElem? (i := 3) rfl)) (hw _ (List.mem_of_getElem? (i := 7) rfl)) (by decide) (own_offm l Z a0 hw y12 q3 y7 h0 n0 (Nat.le_trans Z0 K0.1)) (by decide) (by decide) (g := (mkF m 109 #[.val (.long q1), .second, .val (.int p2), .val (.long q3), .second, .val (.long q4), .second, .val (.int p5), .val (.long q6), .second, .val (.int y1), .val (.int y2), .val (.int y3), .val (.int y4), .val (.int y5), .val (.long y7), .second, .val (.long y9), .second, .val (.long y11), .second, .val (.int y12), .val (.int y13), .val (.int p2), .unset, .unset, .unset, .unset, .unset, .unset, .unset, .unset, .unset, .unset, .unset, .unset, .unset, .unset, .unset, .unset, .unset, .unset, .unset, .unset, .unset, .unset, .unset, .unset] [(.long y7), (.long q3), (.int y12)])) rfl (by rw [hml]; rfl) (lenOf own_pd2 rfl) rfl (by show 2 * 0 + _ ≤ _; exact Nat.le_of_eq rfl) (hb hby at_109) e10 N10 (by decide) (by decide) (fun v14 T14 L14 X14 N14 hq14 => ?_)
  obtain ⟨rfl, e14⟩ := hq14
  show OEnds _ _ _ _ _ _ T14 (mkF m 112 #[.val (.long q1), .second, .val (.int p2), .val (.long q3), .second, .val (.long q4), .second, .val (.int p5), .val (.long q6), .second, .val (.int y1), .val (.int y2), .val (.int y3), .val (.int y4), .val (.int y5), .val (.long y7), .second, .val (.long y9), .second, .val (.long y11), .second, .val (.int y12), .val (.int y13), .val (.int p2), .unset, .unset, .unset, .unset, .unset, .unset, .unset, .unset, .unset, .unset, .unset, .unset, .unset, .unset, .unset, .unset, .unset, .unset, .unset, .unset, .unset, .unset, .unset, .unset] [(.long (own_off y12 q3 y7))])
  refine own_let (P := fun y15 => OEnds _ _ _ _ _ _ T14 (mkF m 112 #[.val (.long q1), .second, .val (.int p2), .val (.long q3), .second, .val (.long q4), .second, .val (.int p5), .val (.long q6), .second, .val (.int y1), .val (.int y2), .val (.int y3), .val (.int y4), .val (.int y5), .val (.long y7), .second, .val (.long y9), .second, .val (.long y11), .second, .val (.int y12), .val (.int y13), .val (.int p2), .unset, .unset, .unset, .unset, .unset, .unset, .unset, .unset, .unset, .unset, .unset, .unset, .unset, .unset, .unset, .unset, .unset, .unset, .unset, .unset, .unset, .unset, .unset, .unset] [(.long y15)])) (own_off y12 q3 y7) (fun y15 hv_y15 => ?_)
  refine own_go (fun t kt => XS.lstore X14.here hx rfl (hb hby at_112) rfl (l' := #[.val (.long q1), .second, .val (.int p2), .val (.long q3), .second, .val (.long q4), .second, .val (.int p5), .val (.long q6), .second, .val (.int y1), .val (.int y2), .val (.int y3), .val (.int y4), .val (.int y5), .val (.long y7), .second, .val (.long y9), .second, .val (.long y11), .second, .val (.int y12), .val (.int y13), .val (.int p2), .val (.long y15), .second, .unset, .unset, .unset, .unset, .unset, .unset, .unset, .unset, .unset, .unset, .unset, .unset, .unset, .unset, .unset, .unset, .unset, .unset, .unset, .unset, .unset, .unset]) rfl kt) ?_
  refine own_go (fun t kt => XS.iload X14.here hx rfl (hb hby at_114) rfl kt) ?_
  refine own_go (fun t kt => XS.lloadN X14.here hx rfl (hb hby at_116) rfl kt) ?_
  refine own_go (g' := (mkF m 119 #[.val (.long q1), .second, .val (.int p2), .val (.long q3), .second, .val (.long q4), .second, .val (.int p5), .val (.long q6), .second, .val (.int y1), .val (.int y2), .val (.int y3), .val (.int y4), .val (.int y5), .val (.long y7), .second, .val (.long y9), .second, .val (.long y11), .second, .val (.int y12), .val (.int y13), .val (.int p2), .val (.long y15), .second, .unset, .unset, .unset, .unset, .unset, .unset, .unset, .unset, .unset, .unset, .unset, .unset, .unset, .unset, .unset, .unset, .unset, .unset, .unset, .unset, .unset, .unset] [(.int (32 : Int32)), (.long q3), (.int y13)])) (fun t kt => XS.bipush X14.here hx rfl (hb hby at_117) kt) ?_
  refine own_go (fun t kt => XS.lushr X14.here hx rfl (hb hby at_119) rfl kt) ?_
  refine own_go (fun t kt => XS.lload X14.here hx rfl (hb hby at_120) rfl kt) ?_
  refine own_callS X14 hx hZ (W := 0) (argsL := [(.int y13), (.long ((q3.toUInt64 >>> ((32 : Int32) &&& 0x3f).toInt64.toUInt64).toInt64)), (.long y9)]) (rest := []) hown (hw _ (List.mem_of_getElem? (i := 5) rfl)) (hw _ (List.mem_of_getElem? (i := 6) rfl)) (hw _ (List.mem_of_getElem? (i := 3) rfl)) (hw _ (List.mem_of_getElem? (i := 7) rfl)) (by decide) (own_offm l Z a0 hw y13 ((q3.toUInt64 >>> ((32 : Int32) &&& 0x3f).toInt64.toUInt64).toInt64) y9 h0 n0 (Nat.le_trans Z0 K0.1)) (by decide) (by decide) (g := (mkF m 122 #[.val (.long q1), .second, .val (.int p2), .val (.long q3), .second, .val (.long q4), .second, .val (.int p5), .val (.long q6), .second, .val (.int y1), .val (.int y2), .val (.int y3), .val (.int y4), .val (.int y5), .val (.long y7), .second, .val (.long y9), .second, .val (.long y11), .second, .val (.int y12), .val (.int y13), .val (.int p2), .val (.long y15), .second, .unset, .unset, .unset, .unset, .unset, .unset, .unset, .unset, .unset, .unset, .unset, .unset, .unset, .unset, .unset, .unset, .unset, .unset, .unset, .unset, .unset, .unset] [(.long y9), (.long ((q3.toUInt64 >>> ((32 : Int32) &&& 0x3f).toInt64.toUInt64).toInt64)), (.int y13)])) rfl (by rw [hml]; rfl) (lenOf own_pd2 rfl) rfl (by show 2 * 0 + _ ≤ _; exact Nat.le_of_eq rfl) (hb hby at_122) e14 N14 (by decide) (by decide) (fun v16 T16 L16 X16 N16 hq16 => ?_)
  obtain ⟨rfl, e16⟩ := hq16
  show OEnds _ _ _ _ _ _ T16 (mkF m 125 #[.val (.long q1), .second, .val (.int p2), .val (.long q3), .second, .val (.long q4), .second, .val (.int p5), .val (.long q6), .second, .val (.int y1), .val (.int y2), .val (.int y3), .val (.int y4), .val (.int y5), .val (.long y7), .second, .val (.long y9), .second, .val (.long y11), .second, .val (.int y12), .val (.int y13), .val (.int p2), .val (.long y15), .second, .unset, .unset, .unset, .unset, .unset, .unset, .unset, .unset, .unset, .unset, .unset, .unset, .unset, .unset, .unset, .unset, .unset, .unset, .unset, .unset, .unset, .unset] [(.long (own_off y13 ((q3.toUInt64 >>> ((32 : Int32) &&& 0x3f).toInt64.toUInt64).toInt64) y9))])
  refine own_let (P := fun y17 => OEnds _ _ _ _ _ _ T16 (mkF m 125 #[.val (.long q1), .second, .val (.int p2), .val (.long q3), .second, .val (.long q4), .second, .val (.int p5), .val (.long q6), .second, .val (.int y1), .val (.int y2), .val (.int y3), .val (.int y4), .val (.int y5), .val (.long y7), .second, .val (.long y9), .second, .val (.long y11), .second, .val (.int y12), .val (.int y13), .val (.int p2), .val (.long y15), .second, .unset, .unset, .unset, .unset, .unset, .unset, .unset, .unset, .unset, .unset, .unset, .unset, .unset, .unset, .unset, .unset, .unset, .unset, .unset, .unset, .unset, .unset] [(.long y17)])) (own_off y13 ((q3.toUInt64 >>> ((32 : Int32) &&& 0x3f).toInt64.toUInt64).toInt64) y9) (fun y17 hv_y17 => ?_)
  refine own_go (fun t kt => XS.lstore X16.here hx rfl (hb hby at_125) rfl (l' := #[.val (.long q1), .second, .val (.int p2), .val (.long q3), .second, .val (.long q4), .second, .val (.int p5), .val (.long q6), .second, .val (.int y1), .val (.int y2), .val (.int y3), .val (.int y4), .val (.int y5), .val (.long y7), .second, .val (.long y9), .second, .val (.long y11), .second, .val (.int y12), .val (.int y13), .val (.int p2), .val (.long y15), .second, .val (.long y17), .second, .unset, .unset, .unset, .unset, .unset, .unset, .unset, .unset, .unset, .unset, .unset, .unset, .unset, .unset, .unset, .unset, .unset, .unset, .unset, .unset]) rfl kt) ?_
  refine own_go (fun t kt => XS.iload X16.here hx rfl (hb hby at_127) rfl kt) ?_
  refine own_go (fun t kt => XS.lload X16.here hx rfl (hb hby at_129) rfl kt) ?_
  refine own_go (fun t kt => XS.lload X16.here hx rfl (hb hby at_131) rfl kt) ?_
  refine own_callS X16 hx hZ (W := 0) (argsL := [(.int p2), (.long q4), (.long y11)]) (rest := []) hown (hw _ (List.mem_of_getElem? (i := 5) rfl)) (hw _ (List.mem_of_getElem? (i := 6) rfl)) (hw _ (List.mem_of_getElem? (i := 3) rfl)) (hw _ (List.mem_of_getElem? (i := 7) rfl)) (by decide) (own_offm l Z a0 hw p2 q4 y11 h0 n0 (Nat.le_trans Z0 K0.1)) (by decide) (by decide) (g := (mkF m 133 #[.val (.long q1), .second, .val (.int p2), .val (.long q3), .second, .val (.long q4), .second, .val (.int p5), .val (.long q6), .second, .val (.int y1), .val (.int y2), .val (.int y3), .val (.int y4), .val (.int y5), .val (.long y7), .second, .val (.long y9), .second, .val (.long y11), .second, .val (.int y12), .val (.int y13), .val (.int p2), .val (.long y15), .second, .val (.long y17), .second, .unset, .unset, .unset, .unset, .unset, .unset, .unset, .unset, .unset, .unset, .unset, .unset, .unset, .unset, .unset, .unset, .unset, .unset, .unset, .unset] [(.long y11), (.long q4), (.int p2)])) rfl (by rw [hml]; rfl) (lenOf own_pd2 rfl) rfl (by show 2 * 0 + _ ≤ _; exact Nat.le_of_eq rfl) (hb hby at_133) e16 N16 (by decide) (by decide) (fun v18 T18 L18 X18 N18 hq18 => ?_)
  obtain ⟨rfl, e18⟩ := hq18
  show OEnds _ _ _ _ _ _ T18 (mkF m 136 #[.val (.long q1), .second, .val (.int p2), .val (.long q3), .second, .val (.long q4), .second, .val (.int p5), .val (.long q6), .second, .val (.int y1), .val (.int y2), .val (.int y3), .val (.int y4), .val (.int y5), .val (.long y7), .second, .val (.long y9), .second, .val (.long y11), .second, .val (.int y12), .val (.int y13), .val (.int p2), .val (.long y15), .second, .val (.long y17), .second, .unset, .unset, .unset, .unset, .unset, .unset, .unset, .unset, .unset, .unset, .unset, .unset, .unset, .unset, .unset, .unset, .unset, .unset, .unset, .unset] [(.long (own_off p2 q4 y11))])
  refine own_let (P := fun y19 => OEnds _ _ _ _ _ _ T18 (mkF m 136 #[.val (.long q1), .second, .val (.int p2), .val (.long q3), .second, .val (.long q4), .second, .val (.int p5), .val (.long q6), .second, .val (.int y1), .val (.int y2), .val (.int y3), .val (.int y4), .val (.int y5), .val (.long y7), .second, .val (.long y9), .second, .val (.long y11), .second, .val (.int y12), .val (.int y13), .val (.int p2), .val (.long y15), .second, .val (.long y17), .second, .unset, .unset, .unset, .unset, .unset, .unset, .unset, .unset, .unset, .unset, .unset, .unset, .unset, .unset, .unset, .unset, .unset, .unset, .unset, .unset] [(.long y19)])) (own_off p2 q4 y11) (fun y19 hv_y19 => ?_)
  refine own_go (fun t kt => XS.lstore X18.here hx rfl (hb hby at_136) rfl (l' := #[.val (.long q1), .second, .val (.int p2), .val (.long q3), .second, .val (.long q4), .second, .val (.int p5), .val (.long q6), .second, .val (.int y1), .val (.int y2), .val (.int y3), .val (.int y4), .val (.int y5), .val (.long y7), .second, .val (.long y9), .second, .val (.long y11), .second, .val (.int y12), .val (.int y13), .val (.int p2), .val (.long y15), .second, .val (.long y17), .second, .val (.long y19), .second, .unset, .unset, .unset, .unset, .unset, .unset, .unset, .unset, .unset, .unset, .unset, .unset, .unset, .unset, .unset, .unset, .unset, .unset]) rfl kt) ?_
  refine own_go (g' := (mkF m 140 #[.val (.long q1), .second, .val (.int p2), .val (.long q3), .second, .val (.long q4), .second, .val (.int p5), .val (.long q6), .second, .val (.int y1), .val (.int y2), .val (.int y3), .val (.int y4), .val (.int y5), .val (.long y7), .second, .val (.long y9), .second, .val (.long y11), .second, .val (.int y12), .val (.int y13), .val (.int p2), .val (.long y15), .second, .val (.long y17), .second, .val (.long y19), .second, .unset, .unset, .unset, .unset, .unset, .unset, .unset, .unset, .unset, .unset, .unset, .unset, .unset, .unset, .unset, .unset, .unset, .unset] [(.int y12)])) (fun t kt => XS.iload X18.here hx rfl (hb hby at_138) rfl kt) ?_
  refine own_go (fun t kt => XS.i2l X18.here hx rfl (hb hby at_140) rfl kt) ?_
  refine own_go (fun t kt => XS.lload X18.here hx rfl (hb hby at_141) rfl kt) ?_
  refine own_go (fun t kt => XS.lsub X18.here hx rfl (hb hby at_143) rfl kt) ?_
  refine own_go (fun t kt => XS.l2i X18.here hx rfl (hb hby at_144) rfl kt) ?_
  refine own_let (P := fun y20 => OEnds _ _ _ _ _ _ T18 (mkF m 145 #[.val (.long q1), .second, .val (.int p2), .val (.long q3), .second, .val (.long q4), .second, .val (.int p5), .val (.long q6), .second, .val (.int y1), .val (.int y2), .val (.int y3), .val (.int y4), .val (.int y5), .val (.long y7), .second, .val (.long y9), .second, .val (.long y11), .second, .val (.int y12), .val (.int y13), .val (.int p2), .val (.long y15), .second, .val (.long y17), .second, .val (.long y19), .second, .unset, .unset, .unset, .unset, .unset, .unset, .unset, .unset, .unset, .unset, .unset, .unset, .unset, .unset, .unset, .unset, .unset, .unset] [(.int y20)])) (((y12.toInt64) - y15).toInt32) (fun y20 hv_y20 => ?_)
  refine own_go (fun t kt => XS.istore X18.here hx rfl (hb hby at_145) rfl (l' := #[.val (.long q1), .second, .val (.int p2), .val (.long q3), .second, .val (.long q4), .second, .val (.int p5), .val (.long q6), .second, .val (.int y1), .val (.int y2), .val (.int y3), .val (.int y4), .val (.int y5), .val (.long y7), .second, .val (.long y9), .second, .val (.long y11), .second, .val (.int y12), .val (.int y13), .val (.int p2), .val (.long y15), .second, .val (.long y17), .second, .val (.long y19), .second, .val (.int y20), .unset, .unset, .unset, .unset, .unset, .unset, .unset, .unset, .unset, .unset, .unset, .unset, .unset, .unset, .unset, .unset, .unset]) rfl kt) ?_
  refine own_go (fun t kt => XS.iload X18.here hx rfl (hb hby at_147) rfl kt) ?_
  refine own_go (fun t kt => XS.i2l X18.here hx rfl (hb hby at_149) rfl kt) ?_
  refine own_go (g' := (mkF m 152 #[.val (.long q1), .second, .val (.int p2), .val (.long q3), .second, .val (.long q4), .second, .val (.int p5), .val (.long q6), .second, .val (.int y1), .val (.int y2), .val (.int y3), .val (.int y4), .val (.int y5), .val (.long y7), .second, .val (.long y9), .second, .val (.long y11), .second, .val (.int y12), .val (.int y13), .val (.int p2), .val (.long y15), .second, .val (.long y17), .second, .val (.long y19), .second, .val (.int y20), .unset, .unset, .unset, .unset, .unset, .unset, .unset, .unset, .unset, .unset, .unset, .unset, .unset, .unset, .unset, .unset, .unset] [(.long y17), (.long (y13.toInt64))])) (fun t kt => XS.lload X18.here hx rfl (hb hby at_150) rfl kt) ?_
  refine own_go (fun t kt => XS.lsub X18.here hx rfl (hb hby at_152) rfl kt) ?_
  refine own_go (fun t kt => XS.l2i X18.here hx rfl (hb hby at_153) rfl kt) ?_
  refine own_let (P := fun y21 => OEnds _ _ _ _ _ _ T18 (mkF m 154 #[.val (.long q1), .second, .val (.int p2), .val (.long q3), .second, .val (.long q4), .second, .val (.int p5), .val (.long q6), .second, .val (.int y1), .val (.int y2), .val (.int y3), .val (.int y4), .val (.int y5), .val (.long y7), .second, .val (.long y9), .second, .val (.long y11), .second, .val (.int y12), .val (.int y13), .val (.int p2), .val (.long y15), .second, .val (.long y17), .second, .val (.long y19), .second, .val (.int y20), .unset, .unset, .unset, .unset, .unset, .unset, .unset, .unset, .unset, .unset, .unset, .unset, .unset, .unset, .unset, .unset, .unset] [(.int y21)])) (((y13.toInt64) - y17).toInt32) (fun y21 hv_y21 => ?_)
  refine own_go (fun t kt => XS.istore X18.here hx rfl (hb hby at_154) rfl (l' := #[.val (.long q1), .second, .val (.int p2), .val (.long q3), .second, .val (.long q4), .second, .val (.int p5), .val (.long q6), .second, .val (.int y1), .val (.int y2), .val (.int y3), .val (.int y4), .val (.int y5), .val (.long y7), .second, .val (.long y9), .second, .val (.long y11), .second, .val (.int y12), .val (.int y13), .val (.int p2), .val (.long y15), .second, .val (.long y17), .second, .val (.long y19), .second, .val (.int y20), .val (.int y21), .unset, .unset, .unset, .unset, .unset, .unset, .unset, .unset, .unset, .unset, .unset, .unset, .unset, .unset, .unset, .unset]) rfl kt) ?_
  refine own_go (fun t kt => XS.iload X18.here hx rfl (hb hby at_156) rfl kt) ?_
  refine own_go (fun t kt => XS.i2l X18.here hx rfl (hb hby at_158) rfl kt) ?_
  refine own_go (fun t kt => XS.lload X18.here hx rfl (hb hby at_159) rfl kt) ?_
  refine own_go (fun t kt => XS.lsub X18.here hx rfl (hb hby at_161) rfl kt) ?_
  refine own_go (g' := (mkF m 163 #[.val (.long q1), .second, .val (.int p2), .val (.long q3), .second, .val (.long q4), .second, .val (.int p5), .val (.long q6), .second, .val (.int y1), .val (.int y2), .val (.int y3), .val (.int y4), .val (.int y5), .val (.long y7), .second, .val (.long y9), .second, .val (.long y11), .second, .val (.int y12), .val (.int y13), .val (.int p2), .val (.long y15), .second, .val (.long y17), .second, .val (.long y19), .second, .val (.int y20), .val (.int y21), .unset, .unset, .unset, .unset, .unset, .unset, .unset, .unset, .unset, .unset, .unset, .unset, .unset, .unset, .unset, .unset] [(.int (((p2.toInt64) - y19).toInt32))])) (fun t kt => XS.l2i X18.here hx rfl (hb hby at_162) rfl kt) ?_
  refine own_let (P := fun y22 => OEnds _ _ _ _ _ _ T18 (mkF m 163 #[.val (.long q1), .second, .val (.int p2), .val (.long q3), .second, .val (.long q4), .second, .val (.int p5), .val (.long q6), .second, .val (.int y1), .val (.int y2), .val (.int y3), .val (.int y4), .val (.int y5), .val (.long y7), .second, .val (.long y9), .second, .val (.long y11), .second, .val (.int y12), .val (.int y13), .val (.int p2), .val (.long y15), .second, .val (.long y17), .second, .val (.long y19), .second, .val (.int y20), .val (.int y21), .unset, .unset, .unset, .unset, .unset, .unset, .unset, .unset, .unset, .unset, .unset, .unset, .unset, .unset, .unset, .unset] [(.int y22)])) (((p2.toInt64) - y19).toInt32) (fun y22 hv_y22 => ?_)
  refine own_go (fun t kt => XS.istore X18.here hx rfl (hb hby at_163) rfl (l' := #[.val (.long q1), .second, .val (.int p2), .val (.long q3), .second, .val (.long q4), .second, .val (.int p5), .val (.long q6), .second, .val (.int y1), .val (.int y2), .val (.int y3), .val (.int y4), .val (.int y5), .val (.long y7), .second, .val (.long y9), .second, .val (.long y11), .second, .val (.int y12), .val (.int y13), .val (.int p2), .val (.long y15), .second, .val (.long y17), .second, .val (.long y19), .second, .val (.int y20), .val (.int y21), .val (.int y22), .unset, .unset, .unset, .unset, .unset, .unset, .unset, .unset, .unset, .unset, .unset, .unset, .unset, .unset, .unset]) rfl kt) ?_
  refine own_go (fun t kt => XS.lload X18.here hx rfl (hb hby at_165) rfl kt) ?_
  refine own_go (fun t kt => XS.lload X18.here hx rfl (hb hby at_167) rfl kt) ?_
  refine own_go (fun t kt => XS.iload X18.here hx rfl (hb hby at_169) rfl kt) ?_
  refine own_go (fun t kt => XS.lshl X18.here hx rfl (hb hby at_171) rfl kt) ?_
  refine own_go (fun t kt => XS.lor X18.here hx rfl (hb hby at_172) rfl kt) ?_
  refine own_let (P := fun y23 => OEnds _ _ _ _ _ _ T18 (mkF m 173 #[.val (.long q1), .second, .val (.int p2), .val (.long q3), .second, .val (.long q4), .second, .val (.int p5), .val (.long q6), .second, .val (.int y1), .val (.int y2), .val (.int y3), .val (.int y4), .val (.int y5), .val (.long y7), .second, .val (.long y9), .second, .val (.long y11), .second, .val (.int y12), .val (.int y13), .val (.int p2), .val (.long y15), .second, .val (.long y17), .second, .val (.long y19), .second, .val (.int y20), .val (.int y21), .val (.int y22), .unset, .unset, .unset, .unset, .unset, .unset, .unset, .unset, .unset, .unset, .unset, .unset, .unset, .unset, .unset] [(.long y23)])) (y7 ||| (y9 <<< (y1 &&& 0x3f).toInt64)) (fun y23 hv_y23 => ?_)
  refine own_go (fun t kt => XS.lstore X18.here hx rfl (hb hby at_173) rfl (l' := #[.val (.long q1), .second, .val (.int p2), .val (.long q3), .second, .val (.long q4), .second, .val (.int p5), .val (.long q6), .second, .val (.int y1), .val (.int y2), .val (.int y3), .val (.int y4), .val (.int y5), .val (.long y7), .second, .val (.long y9), .second, .val (.long y11), .second, .val (.int y12), .val (.int y13), .val (.int p2), .val (.long y15), .second, .val (.long y17), .second, .val (.long y19), .second, .val (.int y20), .val (.int y21), .val (.int y22), .val (.long y23), .second, .unset, .unset, .unset, .unset, .unset, .unset, .unset, .unset, .unset, .unset, .unset, .unset, .unset]) rfl kt) ?_
  refine own_go (g' := (mkF m 177 #[.val (.long q1), .second, .val (.int p2), .val (.long q3), .second, .val (.long q4), .second, .val (.int p5), .val (.long q6), .second, .val (.int y1), .val (.int y2), .val (.int y3), .val (.int y4), .val (.int y5), .val (.long y7), .second, .val (.long y9), .second, .val (.long y11), .second, .val (.int y12), .val (.int y13), .val (.int p2), .val (.long y15), .second, .val (.long y17), .second, .val (.long y19), .second, .val (.int y20), .val (.int y21), .val (.int y22), .val (.long y23), .second, .unset, .unset, .unset, .unset, .unset, .unset, .unset, .unset, .unset, .unset, .unset, .unset, .unset] [(.long y15)])) (fun t kt => XS.lload X18.here hx rfl (hb hby at_175) rfl kt) ?_
  refine own_go (fun t kt => XS.lload X18.here hx rfl (hb hby at_177) rfl kt) ?_
  refine own_go (fun t kt => XS.iload X18.here hx rfl (hb hby at_179) rfl kt) ?_
  refine own_go (fun t kt => XS.lshl X18.here hx rfl (hb hby at_181) rfl kt) ?_
  refine own_go (fun t kt => XS.lor X18.here hx rfl (hb hby at_182) rfl kt) ?_
  refine own_go (fun t kt => XS.lload X18.here hx rfl (hb hby at_183) rfl kt) ?_
  refine own_go (fun t kt => XS.lload X18.here hx rfl (hb hby at_185) rfl kt) ?_
  refine own_go (fun t kt => X18.ldc2Long hx hown (mvT hZ (hw _ (List.mem_of_getElem? (i := 9) rfl))) (g := (mkF m 187 #[.val (.long q1), .second, .val (.int p2), .val (.long q3), .second, .val (.long q4), .second, .val (.int p5), .val (.long q6), .second, .val (.int y1), .val (.int y2), .val (.int y3), .val (.int y4), .val (.int y5), .val (.long y7), .second, .val (.long y9), .second, .val (.long y11), .second, .val (.int y12), .val (.int y13), .val (.int p2), .val (.long y15), .second, .val (.long y17), .second, .val (.long y19), .second, .val (.int y20), .val (.int y21), .val (.int y22), .val (.long y23), .second, .unset, .unset, .unset, .unset, .unset, .unset, .unset, .unset, .unset, .unset, .unset, .unset, .unset] [(.long y23), (.long q6), (.long (y15 ||| (y17 <<< (y1 &&& 0x3f).toInt64)))])) rfl (hb hby at_187) t kt) ?_
  refine own_go (g' := (mkF m 191 #[.val (.long q1), .second, .val (.int p2), .val (.long q3), .second, .val (.long q4), .second, .val (.int p5), .val (.long q6), .second, .val (.int y1), .val (.int y2), .val (.int y3), .val (.int y4), .val (.int y5), .val (.long y7), .second, .val (.long y9), .second, .val (.long y11), .second, .val (.int y12), .val (.int y13), .val (.int p2), .val (.long y15), .second, .val (.long y17), .second, .val (.long y19), .second, .val (.int y20), .val (.int y21), .val (.int y22), .val (.long y23), .second, .unset, .unset, .unset, .unset, .unset, .unset, .unset, .unset, .unset, .unset, .unset, .unset, .unset] [(.long (y23 ^^^ (-1 : Int64))), (.long q6), (.long (y15 ||| (y17 <<< (y1 &&& 0x3f).toInt64)))])) (fun t kt => XS.lxor X18.here hx rfl (hb hby at_190) rfl kt) ?_
  refine own_go (fun t kt => XS.land X18.here hx rfl (hb hby at_191) rfl kt) ?_
  refine own_go (fun t kt => XS.lor X18.here hx rfl (hb hby at_192) rfl kt) ?_
  refine own_let (P := fun y24 => OEnds _ _ _ _ _ _ T18 (mkF m 193 #[.val (.long q1), .second, .val (.int p2), .val (.long q3), .second, .val (.long q4), .second, .val (.int p5), .val (.long q6), .second, .val (.int y1), .val (.int y2), .val (.int y3), .val (.int y4), .val (.int y5), .val (.long y7), .second, .val (.long y9), .second, .val (.long y11), .second, .val (.int y12), .val (.int y13), .val (.int p2), .val (.long y15), .second, .val (.long y17), .second, .val (.long y19), .second, .val (.int y20), .val (.int y21), .val (.int y22), .val (.long y23), .second, .unset, .unset, .unset, .unset, .unset, .unset, .unset, .unset, .unset, .unset, .unset, .unset, .unset] [(.long y24)])) ((y15 ||| (y17 <<< (y1 &&& 0x3f).toInt64)) ||| (q6 &&& (y23 ^^^ (-1 : Int64)))) (fun y24 hv_y24 => ?_)
  refine own_go (fun t kt => XS.lstore X18.here hx rfl (hb hby at_193) rfl (l' := #[.val (.long q1), .second, .val (.int p2), .val (.long q3), .second, .val (.long q4), .second, .val (.int p5), .val (.long q6), .second, .val (.int y1), .val (.int y2), .val (.int y3), .val (.int y4), .val (.int y5), .val (.long y7), .second, .val (.long y9), .second, .val (.long y11), .second, .val (.int y12), .val (.int y13), .val (.int p2), .val (.long y15), .second, .val (.long y17), .second, .val (.long y19), .second, .val (.int y20), .val (.int y21), .val (.int y22), .val (.long y23), .second, .val (.long y24), .second, .unset, .unset, .unset, .unset, .unset, .unset, .unset, .unset, .unset, .unset, .unset]) rfl kt) ?_
  refine own_go (fun t kt => XS.lload X18.here hx rfl (hb hby at_195) rfl kt) ?_
  refine own_go (fun t kt => XS.iload X18.here hx rfl (hb hby at_197) rfl kt) ?_
  refine own_go (fun t kt => XS.lshl X18.here hx rfl (hb hby at_199) rfl kt) ?_
  refine own_let (P := fun y25 => OEnds _ _ _ _ _ _ T18 (mkF m 200 #[.val (.long q1), .second, .val (.int p2), .val (.long q3), .second, .val (.long q4), .second, .val (.int p5), .val (.long q6), .second, .val (.int y1), .val (.int y2), .val (.int y3), .val (.int y4), .val (.int y5), .val (.long y7), .second, .val (.long y9), .second, .val (.long y11), .second, .val (.int y12), .val (.int y13), .val (.int p2), .val (.long y15), .second, .val (.long y17), .second, .val (.long y19), .second, .val (.int y20), .val (.int y21), .val (.int y22), .val (.long y23), .second, .val (.long y24), .second, .unset, .unset, .unset, .unset, .unset, .unset, .unset, .unset, .unset, .unset, .unset] [(.long y25)])) (y11 <<< (y4 &&& 0x3f).toInt64) (fun y25 hv_y25 => ?_)
  refine own_go (fun t kt => XS.lstore X18.here hx rfl (hb hby at_200) rfl (l' := #[.val (.long q1), .second, .val (.int p2), .val (.long q3), .second, .val (.long q4), .second, .val (.int p5), .val (.long q6), .second, .val (.int y1), .val (.int y2), .val (.int y3), .val (.int y4), .val (.int y5), .val (.long y7), .second, .val (.long y9), .second, .val (.long y11), .second, .val (.int y12), .val (.int y13), .val (.int p2), .val (.long y15), .second, .val (.long y17), .second, .val (.long y19), .second, .val (.int y20), .val (.int y21), .val (.int y22), .val (.long y23), .second, .val (.long y24), .second, .val (.long y25), .second, .unset, .unset, .unset, .unset, .unset, .unset, .unset, .unset, .unset]) rfl kt) ?_
  refine own_go (g' := (mkF m 204 #[.val (.long q1), .second, .val (.int p2), .val (.long q3), .second, .val (.long q4), .second, .val (.int p5), .val (.long q6), .second, .val (.int y1), .val (.int y2), .val (.int y3), .val (.int y4), .val (.int y5), .val (.long y7), .second, .val (.long y9), .second, .val (.long y11), .second, .val (.int y12), .val (.int y13), .val (.int p2), .val (.long y15), .second, .val (.long y17), .second, .val (.long y19), .second, .val (.int y20), .val (.int y21), .val (.int y22), .val (.long y23), .second, .val (.long y24), .second, .val (.long y25), .second, .unset, .unset, .unset, .unset, .unset, .unset, .unset, .unset, .unset] [(.long y19)])) (fun t kt => XS.lload X18.here hx rfl (hb hby at_202) rfl kt) ?_
  refine own_go (fun t kt => XS.iload X18.here hx rfl (hb hby at_204) rfl kt) ?_
  refine own_go (fun t kt => XS.lshl X18.here hx rfl (hb hby at_206) rfl kt) ?_
  refine own_go (fun t kt => XS.lload X18.here hx rfl (hb hby at_207) rfl kt) ?_
  refine own_go (fun t kt => X18.ldc2Long hx hown (mvT hZ (hw _ (List.mem_of_getElem? (i := 9) rfl))) (g := (mkF m 209 #[.val (.long q1), .second, .val (.int p2), .val (.long q3), .second, .val (.long q4), .second, .val (.int p5), .val (.long q6), .second, .val (.int y1), .val (.int y2), .val (.int y3), .val (.int y4), .val (.int y5), .val (.long y7), .second, .val (.long y9), .second, .val (.long y11), .second, .val (.int y12), .val (.int y13), .val (.int p2), .val (.long y15), .second, .val (.long y17), .second, .val (.long y19), .second, .val (.int y20), .val (.int y21), .val (.int y22), .val (.long y23), .second, .val (.long y24), .second, .val (.long y25), .second, .unset, .unset, .unset, .unset, .unset, .unset, .unset, .unset, .unset] [(.long q6), (.long (y19 <<< (y4 &&& 0x3f).toInt64))])) rfl (hb hby at_209) t kt) ?_
  refine own_go (fun t kt => XS.lxor X18.here hx rfl (hb hby at_212) rfl kt) ?_
  refine own_go (fun t kt => XS.lload X18.here hx rfl (hb hby at_213) rfl kt) ?_
  refine own_go (fun t kt => X18.ldc2Long hx hown (mvT hZ (hw _ (List.mem_of_getElem? (i := 9) rfl))) (g := (mkF m 215 #[.val (.long q1), .second, .val (.int p2), .val (.long q3), .second, .val (.long q4), .second, .val (.int p5), .val (.long q6), .second, .val (.int y1), .val (.int y2), .val (.int y3), .val (.int y4), .val (.int y5), .val (.long y7), .second, .val (.long y9), .second, .val (.long y11), .second, .val (.int y12), .val (.int y13), .val (.int p2), .val (.long y15), .second, .val (.long y17), .second, .val (.long y19), .second, .val (.int y20), .val (.int y21), .val (.int y22), .val (.long y23), .second, .val (.long y24), .second, .val (.long y25), .second, .unset, .unset, .unset, .unset, .unset, .unset, .unset, .unset, .unset] [(.long y25), (.long (q6 ^^^ (-1 : Int64))), (.long (y19 <<< (y4 &&& 0x3f).toInt64))])) rfl (hb hby at_215) t kt) ?_
  refine own_go (g' := (mkF m 219 #[.val (.long q1), .second, .val (.int p2), .val (.long q3), .second, .val (.long q4), .second, .val (.int p5), .val (.long q6), .second, .val (.int y1), .val (.int y2), .val (.int y3), .val (.int y4), .val (.int y5), .val (.long y7), .second, .val (.long y9), .second, .val (.long y11), .second, .val (.int y12), .val (.int y13), .val (.int p2), .val (.long y15), .second, .val (.long y17), .second, .val (.long y19), .second, .val (.int y20), .val (.int y21), .val (.int y22), .val (.long y23), .second, .val (.long y24), .second, .val (.long y25), .second, .unset, .unset, .unset, .unset, .unset, .unset, .unset, .unset, .unset] [(.long (y25 ^^^ (-1 : Int64))), (.long (q6 ^^^ (-1 : Int64))), (.long (y19 <<< (y4 &&& 0x3f).toInt64))])) (fun t kt => XS.lxor X18.here hx rfl (hb hby at_218) rfl kt) ?_
  refine own_go (fun t kt => XS.land X18.here hx rfl (hb hby at_219) rfl kt) ?_
  refine own_go (fun t kt => XS.lor X18.here hx rfl (hb hby at_220) rfl kt) ?_
  refine own_let (P := fun y26 => OEnds _ _ _ _ _ _ T18 (mkF m 221 #[.val (.long q1), .second, .val (.int p2), .val (.long q3), .second, .val (.long q4), .second, .val (.int p5), .val (.long q6), .second, .val (.int y1), .val (.int y2), .val (.int y3), .val (.int y4), .val (.int y5), .val (.long y7), .second, .val (.long y9), .second, .val (.long y11), .second, .val (.int y12), .val (.int y13), .val (.int p2), .val (.long y15), .second, .val (.long y17), .second, .val (.long y19), .second, .val (.int y20), .val (.int y21), .val (.int y22), .val (.long y23), .second, .val (.long y24), .second, .val (.long y25), .second, .unset, .unset, .unset, .unset, .unset, .unset, .unset, .unset, .unset] [(.long y26)])) ((y19 <<< (y4 &&& 0x3f).toInt64) ||| ((q6 ^^^ (-1 : Int64)) &&& (y25 ^^^ (-1 : Int64)))) (fun y26 hv_y26 => ?_)
  refine own_go (fun t kt => XS.lstore X18.here hx rfl (hb hby at_221) rfl (l' := #[.val (.long q1), .second, .val (.int p2), .val (.long q3), .second, .val (.long q4), .second, .val (.int p5), .val (.long q6), .second, .val (.int y1), .val (.int y2), .val (.int y3), .val (.int y4), .val (.int y5), .val (.long y7), .second, .val (.long y9), .second, .val (.long y11), .second, .val (.int y12), .val (.int y13), .val (.int p2), .val (.long y15), .second, .val (.long y17), .second, .val (.long y19), .second, .val (.int y20), .val (.int y21), .val (.int y22), .val (.long y23), .second, .val (.long y24), .second, .val (.long y25), .second, .val (.long y26), .second, .unset, .unset, .unset, .unset, .unset, .unset, .unset]) rfl kt) ?_
  refine own_go (fun t kt => XS.bipush X18.here hx rfl (hb hby at_223) kt) ?_
  refine own_newarr X18 hx hZ (hw _ (List.mem_of_getElem? (i := 10) rfl)) e18 (g := (mkF m 225 #[.val (.long q1), .second, .val (.int p2), .val (.long q3), .second, .val (.long q4), .second, .val (.int p5), .val (.long q6), .second, .val (.int y1), .val (.int y2), .val (.int y3), .val (.int y4), .val (.int y5), .val (.long y7), .second, .val (.long y9), .second, .val (.long y11), .second, .val (.int y12), .val (.int y13), .val (.int p2), .val (.long y15), .second, .val (.long y17), .second, .val (.long y19), .second, .val (.int y20), .val (.int y21), .val (.int y22), .val (.long y23), .second, .val (.long y24), .second, .val (.long y25), .second, .val (.long y26), .second, .unset, .unset, .unset, .unset, .unset, .unset, .unset] [(.int (6 : Int32))])) rfl (hb hby at_225) rfl (by decide) (cap := 6) (by decide) (by decide) (by decide) (by decide) (fun T27 h27 b27 k27 g27 X27 e27 E27 V27 => ?_)
  show OEnds _ _ _ _ _ _ T27 (mkF m 227 #[.val (.long q1), .second, .val (.int p2), .val (.long q3), .second, .val (.long q4), .second, .val (.int p5), .val (.long q6), .second, .val (.int y1), .val (.int y2), .val (.int y3), .val (.int y4), .val (.int y5), .val (.long y7), .second, .val (.long y9), .second, .val (.long y11), .second, .val (.int y12), .val (.int y13), .val (.int p2), .val (.long y15), .second, .val (.long y17), .second, .val (.long y19), .second, .val (.int y20), .val (.int y21), .val (.int y22), .val (.long y23), .second, .val (.long y24), .second, .val (.long y25), .second, .val (.long y26), .second, .unset, .unset, .unset, .unset, .unset, .unset, .unset] [(.ref b27)])
  have gz_b27 : h0.size ≤ b27 := Nat.le_trans K0.1 (Nat.le_of_eq g27.symm)
  have ge_b27 : n0 ≤ b27 := Nat.le_trans Z0 gz_b27
  have K27 := K0.ext E27
  replace V27 : Arv Z h27 b27 k27 .long (6 : Int32) [(.long (0 : Int64)), (.long (0 : Int64)), (.long (0 : Int64)), (.long (0 : Int64)), (.long (0 : Int64)), (.long (0 : Int64))] (.long (0 : Int64)) := V27
  refine own_go (fun t kt => XS.astore X27.here hx rfl (hb hby at_227) rfl rfl (l' := #[.val (.long q1), .second, .val (.int p2), .val (.long q3), .second, .val (.long q4), .second, .val (.int p5), .val (.long q6), .second, .val (.int y1), .val (.int y2), .val (.int y3), .val (.int y4), .val (.int y5), .val (.long y7), .second, .val (.long y9), .second, .val (.long y11), .second, .val (.int y12), .val (.int y13), .val (.int p2), .val (.long y15), .second, .val (.long y17), .second, .val (.long y19), .second, .val (.int y20), .val (.int y21), .val (.int y22), .val (.long y23), .second, .val (.long y24), .second, .val (.long y25), .second, .val (.long y26), .second, .val (.ref b27), .unset, .unset, .unset, .unset, .unset, .unset]) rfl kt) ?_
  refine own_go (fun t kt => XS.aload X27.here hx rfl (hb hby at_229) rfl rfl kt) ?_
  refine own_go (fun t kt => XS.iconst X27.here hx rfl (hb hby at_231) kt) ?_
  refine own_go (g' := (mkF m 234 #[.val (.long q1), .second, .val (.int p2), .val (.long q3), .second, .val (.long q4), .second, .val (.int p5), .val (.long q6), .second, .val (.int y1), .val (.int y2), .val (.int y3), .val (.int y4), .val (.int y5), .val (.long y7), .second, .val (.long y9), .second, .val (.long y11), .second, .val (.int y12), .val (.int y13), .val (.int p2), .val (.long y15), .second, .val (.long y17), .second, .val (.long y19), .second, .val (.int y20), .val (.int y21), .val (.int y22), .val (.long y23), .second, .val (.long y24), .second, .val (.long y25), .second, .val (.long y26), .second, .val (.ref b27), .unset, .unset, .unset, .unset, .unset, .unset] [(.long q6), (.int (0 : Int32)), (.ref b27)])) (fun t kt => XS.lload X27.here hx rfl (hb hby at_232) rfl kt) ?_
  refine own_go (fun t kt => X27.ldc2Long hx hown (mvT hZ (hw _ (List.mem_of_getElem? (i := 11) rfl))) (g := (mkF m 234 #[.val (.long q1), .second, .val (.int p2), .val (.long q3), .second, .val (.long q4), .second, .val (.int p5), .val (.long q6), .second, .val (.int y1), .val (.int y2), .val (.int y3), .val (.int y4), .val (.int y5), .val (.long y7), .second, .val (.long y9), .second, .val (.long y11), .second, .val (.int y12), .val (.int y13), .val (.int p2), .val (.long y15), .second, .val (.long y17), .second, .val (.long y19), .second, .val (.int y20), .val (.int y21), .val (.int y22), .val (.long y23), .second, .val (.long y24), .second, .val (.long y25), .second, .val (.long y26), .second, .val (.ref b27), .unset, .unset, .unset, .unset, .unset, .unset] [(.long q6), (.int (0 : Int32)), (.ref b27)])) rfl (hb hby at_234) t kt) ?_
  refine own_go (fun t kt => XS.lxor X27.here hx rfl (hb hby at_237) rfl kt) ?_
  refine own_lastore X27 hx hZ e27 V27 ⟨by decide, by decide⟩ 0 rfl (Nat.le_of_ble_eq_true rfl) N18 ge_b27 (g := (mkF m 238 #[.val (.long q1), .second, .val (.int p2), .val (.long q3), .second, .val (.long q4), .second, .val (.int p5), .val (.long q6), .second, .val (.int y1), .val (.int y2), .val (.int y3), .val (.int y4), .val (.int y5), .val (.long y7), .second, .val (.long y9), .second, .val (.long y11), .second, .val (.int y12), .val (.int y13), .val (.int p2), .val (.long y15), .second, .val (.long y17), .second, .val (.long y19), .second, .val (.int y20), .val (.int y21), .val (.int y22), .val (.long y23), .second, .val (.long y24), .second, .val (.long y25), .second, .val (.long y26), .second, .val (.ref b27), .unset, .unset, .unset, .unset, .unset, .unset] [(.long (q6 ^^^ (81985529216486895 : Int64))), (.int (0 : Int32)), (.ref b27)])) rfl rfl (hb hby at_238) (fun T28 h28 L28 X28 e28 N28 W28 V28 => ?_)
  show OEnds _ _ _ _ _ _ T28 (mkF m 239 #[.val (.long q1), .second, .val (.int p2), .val (.long q3), .second, .val (.long q4), .second, .val (.int p5), .val (.long q6), .second, .val (.int y1), .val (.int y2), .val (.int y3), .val (.int y4), .val (.int y5), .val (.long y7), .second, .val (.long y9), .second, .val (.long y11), .second, .val (.int y12), .val (.int y13), .val (.int p2), .val (.long y15), .second, .val (.long y17), .second, .val (.long y19), .second, .val (.int y20), .val (.int y21), .val (.int y22), .val (.long y23), .second, .val (.long y24), .second, .val (.long y25), .second, .val (.long y26), .second, .val (.ref b27), .unset, .unset, .unset, .unset, .unset, .unset] [])
  have K28 := K27.wr W28 (Or.inr gz_b27)
  replace V28 : Arv Z h28 b27 k27 .long (6 : Int32) [(.long (q6 ^^^ (81985529216486895 : Int64))), (.long (0 : Int64)), (.long (0 : Int64)), (.long (0 : Int64)), (.long (0 : Int64)), (.long (0 : Int64))] (.long (0 : Int64)) := V28
  refine own_go (fun t kt => XS.aload X28.here hx rfl (hb hby at_239) rfl rfl kt) ?_
  refine own_go (fun t kt => XS.iconst X28.here hx rfl (hb hby at_241) kt) ?_
  refine own_go (fun t kt => XS.lload X28.here hx rfl (hb hby at_242) rfl kt) ?_
  refine own_go (fun t kt => X28.ldc2Long hx hown (mvT hZ (hw _ (List.mem_of_getElem? (i := 9) rfl))) (g := (mkF m 244 #[.val (.long q1), .second, .val (.int p2), .val (.long q3), .second, .val (.long q4), .second, .val (.int p5), .val (.long q6), .second, .val (.int y1), .val (.int y2), .val (.int y3), .val (.int y4), .val (.int y5), .val (.long y7), .second, .val (.long y9), .second, .val (.long y11), .second, .val (.int y12), .val (.int y13), .val (.int p2), .val (.long y15), .second, .val (.long y17), .second, .val (.long y19), .second, .val (.int y20), .val (.int y21), .val (.int y22), .val (.long y23), .second, .val (.long y24), .second, .val (.long y25), .second, .val (.long y26), .second, .val (.ref b27), .unset, .unset, .unset, .unset, .unset, .unset] [(.long q6), (.int (1 : Int32)), (.ref b27)])) rfl (hb hby at_244) t kt) ?_
  refine own_go (fun t kt => XS.lxor X28.here hx rfl (hb hby at_247) rfl kt) ?_
  refine own_lastore X28 hx hZ e28 V28 ⟨by decide, by decide⟩ 1 rfl (Nat.le_of_ble_eq_true rfl) N28 ge_b27 (g := (mkF m 248 #[.val (.long q1), .second, .val (.int p2), .val (.long q3), .second, .val (.long q4), .second, .val (.int p5), .val (.long q6), .second, .val (.int y1), .val (.int y2), .val (.int y3), .val (.int y4), .val (.int y5), .val (.long y7), .second, .val (.long y9), .second, .val (.long y11), .second, .val (.int y12), .val (.int y13), .val (.int p2), .val (.long y15), .second, .val (.long y17), .second, .val (.long y19), .second, .val (.int y20), .val (.int y21), .val (.int y22), .val (.long y23), .second, .val (.long y24), .second, .val (.long y25), .second, .val (.long y26), .second, .val (.ref b27), .unset, .unset, .unset, .unset, .unset, .unset] [(.long (q6 ^^^ (-1 : Int64))), (.int (1 : Int32)), (.ref b27)])) rfl rfl (hb hby at_248) (fun T29 h29 L29 X29 e29 N29 W29 V29 => ?_)
  show OEnds _ _ _ _ _ _ T29 (mkF m 249 #[.val (.long q1), .second, .val (.int p2), .val (.long q3), .second, .val (.long q4), .second, .val (.int p5), .val (.long q6), .second, .val (.int y1), .val (.int y2), .val (.int y3), .val (.int y4), .val (.int y5), .val (.long y7), .second, .val (.long y9), .second, .val (.long y11), .second, .val (.int y12), .val (.int y13), .val (.int p2), .val (.long y15), .second, .val (.long y17), .second, .val (.long y19), .second, .val (.int y20), .val (.int y21), .val (.int y22), .val (.long y23), .second, .val (.long y24), .second, .val (.long y25), .second, .val (.long y26), .second, .val (.ref b27), .unset, .unset, .unset, .unset, .unset, .unset] [])
  have K29 := K28.wr W29 (Or.inr gz_b27)
  replace V29 : Arv Z h29 b27 k27 .long (6 : Int32) [(.long (q6 ^^^ (81985529216486895 : Int64))), (.long (q6 ^^^ (-1 : Int64))), (.long (0 : Int64)), (.long (0 : Int64)), (.long (0 : Int64)), (.long (0 : Int64))] (.long (0 : Int64)) := V29
  refine own_go (g' := (mkF m 251 #[.val (.long q1), .second, .val (.int p2), .val (.long q3), .second, .val (.long q4), .second, .val (.int p5), .val (.long q6), .second, .val (.int y1), .val (.int y2), .val (.int y3), .val (.int y4), .val (.int y5), .val (.long y7), .second, .val (.long y9), .second, .val (.long y11), .second, .val (.int y12), .val (.int y13), .val (.int p2), .val (.long y15), .second, .val (.long y17), .second, .val (.long y19), .second, .val (.int y20), .val (.int y21), .val (.int y22), .val (.long y23), .second, .val (.long y24), .second, .val (.long y25), .second, .val (.long y26), .second, .val (.ref b27), .unset, .unset, .unset, .unset, .unset, .unset] [(.ref b27)])) (fun t kt => XS.aload X29.here hx rfl (hb hby at_249) rfl rfl kt) ?_
  refine own_go (fun t kt => XS.iconst X29.here hx rfl (hb hby at_251) kt) ?_
  refine own_go (fun t kt => XS.lload X29.here hx rfl (hb hby at_252) rfl kt) ?_
  refine own_go (fun t kt => XS.lconst X29.here hx rfl (hb hby at_254) kt) ?_
  refine own_go (fun t kt => XS.ladd X29.here hx rfl (hb hby at_255) rfl kt) ?_
  refine own_lastore X29 hx hZ e29 V29 ⟨by decide, by decide⟩ 2 rfl (Nat.le_of_ble_eq_true rfl) N29 ge_b27 (g := (mkF m 256 #[.val (.long q1), .second, .val (.int p2), .val (.long q3), .second, .val (.long q4), .second, .val (.int p5), .val (.long q6), .second, .val (.int y1), .val (.int y2), .val (.int y3), .val (.int y4), .val (.int y5), .val (.long y7), .second, .val (.long y9), .second, .val (.long y11), .second, .val (.int y12), .val (.int y13), .val (.int p2), .val (.long y15), .second, .val (.long y17), .second, .val (.long y19), .second, .val (.int y20), .val (.int y21), .val (.int y22), .val (.long y23), .second, .val (.long y24), .second, .val (.long y25), .second, .val (.long y26), .second, .val (.ref b27), .unset, .unset, .unset, .unset, .unset, .unset] [(.long (q6 + (1 : Int64))), (.int (2 : Int32)), (.ref b27)])) rfl rfl (hb hby at_256) (fun T30 h30 L30 X30 e30 N30 W30 V30 => ?_)
  show OEnds _ _ _ _ _ _ T30 (mkF m 257 #[.val (.long q1), .second, .val (.int p2), .val (.long q3), .second, .val (.long q4), .second, .val (.int p5), .val (.long q6), .second, .val (.int y1), .val (.int y2), .val (.int y3), .val (.int y4), .val (.int y5), .val (.long y7), .second, .val (.long y9), .second, .val (.long y11), .second, .val (.int y12), .val (.int y13), .val (.int p2), .val (.long y15), .second, .val (.long y17), .second, .val (.long y19), .second, .val (.int y20), .val (.int y21), .val (.int y22), .val (.long y23), .second, .val (.long y24), .second, .val (.long y25), .second, .val (.long y26), .second, .val (.ref b27), .unset, .unset, .unset, .unset, .unset, .unset] [])
  have K30 := K29.wr W30 (Or.inr gz_b27)
  replace V30 : Arv Z h30 b27 k27 .long (6 : Int32) [(.long (q6 ^^^ (81985529216486895 : Int64))), (.long (q6 ^^^ (-1 : Int64))), (.long (q6 + (1 : Int64))), (.long (0 : Int64)), (.long (0 : Int64)), (.long (0 : Int64))] (.long (0 : Int64)) := V30
  refine own_go (fun t kt => XS.aload X30.here hx rfl (hb hby at_257) rfl rfl kt) ?_
  refine own_go (fun t kt => XS.iconst X30.here hx rfl (hb hby at_259) kt) ?_
  refine own_go (fun t kt => XS.lload X30.here hx rfl (hb hby at_260) rfl kt) ?_
  refine own_go (g' := (mkF m 263 #[.val (.long q1), .second, .val (.int p2), .val (.long q3), .second, .val (.long q4), .second, .val (.int p5), .val (.long q6), .second, .val (.int y1), .val (.int y2), .val (.int y3), .val (.int y4), .val (.int y5), .val (.long y7), .second, .val (.long y9), .second, .val (.long y11), .second, .val (.int y12), .val (.int y13), .val (.int p2), .val (.long y15), .second, .val (.long y17), .second, .val (.long y19), .second, .val (.int y20), .val (.int y21), .val (.int y22), .val (.long y23), .second, .val (.long y24), .second, .val (.long y25), .second, .val (.long y26), .second, .val (.ref b27), .unset, .unset, .unset, .unset, .unset, .unset] [(.long (-q6)), (.int (3 : Int32)), (.ref b27)])) (fun t kt => XS.lneg X30.here hx rfl (hb hby at_262) rfl kt) ?_
  refine own_lastore X30 hx hZ e30 V30 ⟨by decide, by decide⟩ 3 rfl (Nat.le_of_ble_eq_true rfl) N30 ge_b27 (g := (mkF m 263 #[.val (.long q1), .second, .val (.int p2), .val (.long q3), .second, .val (.long q4), .second, .val (.int p5), .val (.long q6), .second, .val (.int y1), .val (.int y2), .val (.int y3), .val (.int y4), .val (.int y5), .val (.long y7), .second, .val (.long y9), .second, .val (.long y11), .second, .val (.int y12), .val (.int y13), .val (.int p2), .val (.long y15), .second, .val (.long y17), .second, .val (.long y19), .second, .val (.int y20), .val (.int y21), .val (.int y22), .val (.long y23), .second, .val (.long y24), .second, .val (.long y25), .second, .val (.long y26), .second, .val (.ref b27), .unset, .unset, .unset, .unset, .unset, .unset] [(.long (-q6)), (.int (3 : Int32)), (.ref b27)])) rfl rfl (hb hby at_263) (fun T31 h31 L31 X31 e31 N31 W31 V31 => ?_)
  show OEnds _ _ _ _ _ _ T31 (mkF m 264 #[.val (.long q1), .second, .val (.int p2), .val (.long q3), .second, .val (.long q4), .second, .val (.int p5), .val (.long q6), .second, .val (.int y1), .val (.int y2), .val (.int y3), .val (.int y4), .val (.int y5), .val (.long y7), .second, .val (.long y9), .second, .val (.long y11), .second, .val (.int y12), .val (.int y13), .val (.int p2), .val (.long y15), .second, .val (.long y17), .second, .val (.long y19), .second, .val (.int y20), .val (.int y21), .val (.int y22), .val (.long y23), .second, .val (.long y24), .second, .val (.long y25), .second, .val (.long y26), .second, .val (.ref b27), .unset, .unset, .unset, .unset, .unset, .unset] [])
  have K31 := K30.wr W31 (Or.inr gz_b27)
  replace V31 : Arv Z h31 b27 k27 .long (6 : Int32) [(.long (q6 ^^^ (81985529216486895 : Int64))), (.long (q6 ^^^ (-1 : Int64))), (.long (q6 + (1 : Int64))), (.long (-q6)), (.long (0 : Int64)), (.long (0 : Int64))] (.long (0 : Int64)) := V31
  refine own_go (fun t kt => XS.aload X31.here hx rfl (hb hby at_264) rfl rfl kt) ?_
  refine own_go (fun t kt => XS.iconst X31.here hx rfl (hb hby at_266) kt) ?_
  refine own_go (fun t kt => XS.lload X31.here hx rfl (hb hby at_267) rfl kt) ?_
  refine own_go (fun t kt => X31.ldc2Long hx hown (mvT hZ (hw _ (List.mem_of_getElem? (i := 12) rfl))) (g := (mkF m 269 #[.val (.long q1), .second, .val (.int p2), .val (.long q3), .second, .val (.long q4), .second, .val (.int p5), .val (.long q6), .second, .val (.int y1), .val (.int y2), .val (.int y3), .val (.int y4), .val (.int y5), .val (.long y7), .second, .val (.long y9), .second, .val (.long y11), .second, .val (.int y12), .val (.int y13), .val (.int p2), .val (.long y15), .second, .val (.long y17), .second, .val (.long y19), .second, .val (.int y20), .val (.int y21), .val (.int y22), .val (.long y23), .second, .val (.long y24), .second, .val (.long y25), .second, .val (.long y26), .second, .val (.ref b27), .unset, .unset, .unset, .unset, .unset, .unset] [(.long q6), (.int (4 : Int32)), (.ref b27)])) rfl (hb hby at_269) t kt) ?_
  refine own_go (fun t kt => XS.lxor X31.here hx rfl (hb hby at_272) rfl kt) ?_
  refine own_lastore X31 hx hZ e31 V31 ⟨by decide, by decide⟩ 4 rfl (Nat.le_of_ble_eq_true rfl) N31 ge_b27 (g := (mkF m 273 #[.val (.long q1), .second, .val (.int p2), .val (.long q3), .second, .val (.long q4), .second, .val (.int p5), .val (.long q6), .second, .val (.int y1), .val (.int y2), .val (.int y3), .val (.int y4), .val (.int y5), .val (.long y7), .second, .val (.long y9), .second, .val (.long y11), .second, .val (.int y12), .val (.int y13), .val (.int p2), .val (.long y15), .second, .val (.long y17), .second, .val (.long y19), .second, .val (.int y20), .val (.int y21), .val (.int y22), .val (.long y23), .second, .val (.long y24), .second, .val (.long y25), .second, .val (.long y26), .second, .val (.ref b27), .unset, .unset, .unset, .unset, .unset, .unset] [(.long (q6 ^^^ (-1085102592571150096 : Int64))), (.int (4 : Int32)), (.ref b27)])) rfl rfl (hb hby at_273) (fun T32 h32 L32 X32 e32 N32 W32 V32 => ?_)
  show OEnds _ _ _ _ _ _ T32 (mkF m 274 #[.val (.long q1), .second, .val (.int p2), .val (.long q3), .second, .val (.long q4), .second, .val (.int p5), .val (.long q6), .second, .val (.int y1), .val (.int y2), .val (.int y3), .val (.int y4), .val (.int y5), .val (.long y7), .second, .val (.long y9), .second, .val (.long y11), .second, .val (.int y12), .val (.int y13), .val (.int p2), .val (.long y15), .second, .val (.long y17), .second, .val (.long y19), .second, .val (.int y20), .val (.int y21), .val (.int y22), .val (.long y23), .second, .val (.long y24), .second, .val (.long y25), .second, .val (.long y26), .second, .val (.ref b27), .unset, .unset, .unset, .unset, .unset, .unset] [])
  have K32 := K31.wr W32 (Or.inr gz_b27)
  replace V32 : Arv Z h32 b27 k27 .long (6 : Int32) [(.long (q6 ^^^ (81985529216486895 : Int64))), (.long (q6 ^^^ (-1 : Int64))), (.long (q6 + (1 : Int64))), (.long (-q6)), (.long (q6 ^^^ (-1085102592571150096 : Int64))), (.long (0 : Int64))] (.long (0 : Int64)) := V32
  refine own_go (fun t kt => XS.aload X32.here hx rfl (hb hby at_274) rfl rfl kt) ?_
  refine own_go (fun t kt => XS.iconst X32.here hx rfl (hb hby at_276) kt) ?_
  refine own_go (g' := (mkF m 279 #[.val (.long q1), .second, .val (.int p2), .val (.long q3), .second, .val (.long q4), .second, .val (.int p5), .val (.long q6), .second, .val (.int y1), .val (.int y2), .val (.int y3), .val (.int y4), .val (.int y5), .val (.long y7), .second, .val (.long y9), .second, .val (.long y11), .second, .val (.int y12), .val (.int y13), .val (.int p2), .val (.long y15), .second, .val (.long y17), .second, .val (.long y19), .second, .val (.int y20), .val (.int y21), .val (.int y22), .val (.long y23), .second, .val (.long y24), .second, .val (.long y25), .second, .val (.long y26), .second, .val (.ref b27), .unset, .unset, .unset, .unset, .unset, .unset] [(.long q6), (.int (5 : Int32)), (.ref b27)])) (fun t kt => XS.lload X32.here hx rfl (hb hby at_277) rfl kt) ?_
  refine own_go (fun t kt => X32.ldc2Long hx hown (mvT hZ (hw _ (List.mem_of_getElem? (i := 13) rfl))) (g := (mkF m 279 #[.val (.long q1), .second, .val (.int p2), .val (.long q3), .second, .val (.long q4), .second, .val (.int p5), .val (.long q6), .second, .val (.int y1), .val (.int y2), .val (.int y3), .val (.int y4), .val (.int y5), .val (.long y7), .second, .val (.long y9), .second, .val (.long y11), .second, .val (.int y12), .val (.int y13), .val (.int p2), .val (.long y15), .second, .val (.long y17), .second, .val (.long y19), .second, .val (.int y20), .val (.int y21), .val (.int y22), .val (.long y23), .second, .val (.long y24), .second, .val (.long y25), .second, .val (.long y26), .second, .val (.ref b27), .unset, .unset, .unset, .unset, .unset, .unset] [(.long q6), (.int (5 : Int32)), (.ref b27)])) rfl (hb hby at_279) t kt) ?_
  refine own_go (fun t kt => XS.lmul X32.here hx rfl (hb hby at_282) rfl kt) ?_
  refine own_lastore X32 hx hZ e32 V32 ⟨by decide, by decide⟩ 5 rfl (Nat.le_of_ble_eq_true rfl) N32 ge_b27 (g := (mkF m 283 #[.val (.long q1), .second, .val (.int p2), .val (.long q3), .second, .val (.long q4), .second, .val (.int p5), .val (.long q6), .second, .val (.int y1), .val (.int y2), .val (.int y3), .val (.int y4), .val (.int y5), .val (.long y7), .second, .val (.long y9), .second, .val (.long y11), .second, .val (.int y12), .val (.int y13), .val (.int p2), .val (.long y15), .second, .val (.long y17), .second, .val (.long y19), .second, .val (.int y20), .val (.int y21), .val (.int y22), .val (.long y23), .second, .val (.long y24), .second, .val (.long y25), .second, .val (.long y26), .second, .val (.ref b27), .unset, .unset, .unset, .unset, .unset, .unset] [(.long (q6 * (3 : Int64))), (.int (5 : Int32)), (.ref b27)])) rfl rfl (hb hby at_283) (fun T33 h33 L33 X33 e33 N33 W33 V33 => ?_)
  show OEnds _ _ _ _ _ _ T33 (mkF m 284 #[.val (.long q1), .second, .val (.int p2), .val (.long q3), .second, .val (.long q4), .second, .val (.int p5), .val (.long q6), .second, .val (.int y1), .val (.int y2), .val (.int y3), .val (.int y4), .val (.int y5), .val (.long y7), .second, .val (.long y9), .second, .val (.long y11), .second, .val (.int y12), .val (.int y13), .val (.int p2), .val (.long y15), .second, .val (.long y17), .second, .val (.long y19), .second, .val (.int y20), .val (.int y21), .val (.int y22), .val (.long y23), .second, .val (.long y24), .second, .val (.long y25), .second, .val (.long y26), .second, .val (.ref b27), .unset, .unset, .unset, .unset, .unset, .unset] [])
  have K33 := K32.wr W33 (Or.inr gz_b27)
  replace V33 : Arv Z h33 b27 k27 .long (6 : Int32) [(.long (q6 ^^^ (81985529216486895 : Int64))), (.long (q6 ^^^ (-1 : Int64))), (.long (q6 + (1 : Int64))), (.long (-q6)), (.long (q6 ^^^ (-1085102592571150096 : Int64))), (.long (q6 * (3 : Int64)))] (.long (0 : Int64)) := V33
  refine own_go (fun t kt => XS.aload X33.here hx rfl (hb hby at_284) rfl rfl kt) ?_
  refine own_go (fun t kt => XS.iconst X33.here hx rfl (hb hby at_286) kt) ?_
  refine own_go (fun t kt => XS.iload X33.here hx rfl (hb hby at_287) rfl kt) ?_
  refine own_go (fun t kt => XS.imul X33.here hx rfl (hb hby at_289) rfl kt) ?_
  refine own_go (fun t kt => XS.lload X33.here hx rfl (hb hby at_290) rfl kt) ?_
  refine own_lastore X33 hx hZ e33 V33 (by rcases (own_three _ _ hv_y5) with e | e | e <;> rw [e] <;> decide) ((2 : Int32) * y5).toNatClampNeg rfl (by rcases (own_three _ _ hv_y5) with e | e | e <;> rw [e] <;> exact Nat.le_of_ble_eq_true rfl) N33 ge_b27 (g := (mkF m 292 #[.val (.long q1), .second, .val (.int p2), .val (.long q3), .second, .val (.long q4), .second, .val (.int p5), .val (.long q6), .second, .val (.int y1), .val (.int y2), .val (.int y3), .val (.int y4), .val (.int y5), .val (.long y7), .second, .val (.long y9), .second, .val (.long y11), .second, .val (.int y12), .val (.int y13), .val (.int p2), .val (.long y15), .second, .val (.long y17), .second, .val (.long y19), .second, .val (.int y20), .val (.int y21), .val (.int y22), .val (.long y23), .second, .val (.long y24), .second, .val (.long y25), .second, .val (.long y26), .second, .val (.ref b27), .unset, .unset, .unset, .unset, .unset, .unset] [(.long y24), (.int ((2 : Int32) * y5)), (.ref b27)])) rfl rfl (hb hby at_292) (fun T34 h34 L34 X34 e34 N34 W34 V34 => ?_)
  show OEnds _ _ _ _ _ _ T34 (mkF m 293 #[.val (.long q1), .second, .val (.int p2), .val (.long q3), .second, .val (.long q4), .second, .val (.int p5), .val (.long q6), .second, .val (.int y1), .val (.int y2), .val (.int y3), .val (.int y4), .val (.int y5), .val (.long y7), .second, .val (.long y9), .second, .val (.long y11), .second, .val (.int y12), .val (.int y13), .val (.int p2), .val (.long y15), .second, .val (.long y17), .second, .val (.long y19), .second, .val (.int y20), .val (.int y21), .val (.int y22), .val (.long y23), .second, .val (.long y24), .second, .val (.long y25), .second, .val (.long y26), .second, .val (.ref b27), .unset, .unset, .unset, .unset, .unset, .unset] [])
  have K34 := K33.wr W34 (Or.inr gz_b27)
  replace V34 : Arv Z h34 b27 k27 .long (6 : Int32) (List.set [(.long (q6 ^^^ (81985529216486895 : Int64))), (.long (q6 ^^^ (-1 : Int64))), (.long (q6 + (1 : Int64))), (.long (-q6)), (.long (q6 ^^^ (-1085102592571150096 : Int64))), (.long (q6 * (3 : Int64)))] ((2 : Int32) * y5).toNatClampNeg (.long y24)) (.long (0 : Int64)) := V34
  refine own_go (g' := (mkF m 295 #[.val (.long q1), .second, .val (.int p2), .val (.long q3), .second, .val (.long q4), .second, .val (.int p5), .val (.long q6), .second, .val (.int y1), .val (.int y2), .val (.int y3), .val (.int y4), .val (.int y5), .val (.long y7), .second, .val (.long y9), .second, .val (.long y11), .second, .val (.int y12), .val (.int y13), .val (.int p2), .val (.long y15), .second, .val (.long y17), .second, .val (.long y19), .second, .val (.int y20), .val (.int y21), .val (.int y22), .val (.long y23), .second, .val (.long y24), .second, .val (.long y25), .second, .val (.long y26), .second, .val (.ref b27), .unset, .unset, .unset, .unset, .unset, .unset] [(.ref b27)])) (fun t kt => XS.aload X34.here hx rfl (hb hby at_293) rfl rfl kt) ?_
  refine own_go (fun t kt => XS.iconst X34.here hx rfl (hb hby at_295) kt) ?_
  refine own_go (fun t kt => XS.iload X34.here hx rfl (hb hby at_296) rfl kt) ?_
  refine own_go (fun t kt => XS.imul X34.here hx rfl (hb hby at_298) rfl kt) ?_
  refine own_go (fun t kt => XS.iconst X34.here hx rfl (hb hby at_299) kt) ?_
  refine own_go (fun t kt => XS.iadd X34.here hx rfl (hb hby at_300) rfl kt) ?_
  refine own_go (fun t kt => XS.lload X34.here hx rfl (hb hby at_301) rfl kt) ?_
  refine own_lastore X34 hx hZ e34 V34 (by rcases (own_three _ _ hv_y5) with e | e | e <;> rw [e] <;> decide) (((2 : Int32) * y5) + (1 : Int32)).toNatClampNeg rfl (by rcases (own_three _ _ hv_y5) with e | e | e <;> rw [e] <;> exact Nat.le_of_ble_eq_true rfl) N34 ge_b27 (g := (mkF m 303 #[.val (.long q1), .second, .val (.int p2), .val (.long q3), .second, .val (.long q4), .second, .val (.int p5), .val (.long q6), .second, .val (.int y1), .val (.int y2), .val (.int y3), .val (.int y4), .val (.int y5), .val (.long y7), .second, .val (.long y9), .second, .val (.long y11), .second, .val (.int y12), .val (.int y13), .val (.int p2), .val (.long y15), .second, .val (.long y17), .second, .val (.long y19), .second, .val (.int y20), .val (.int y21), .val (.int y22), .val (.long y23), .second, .val (.long y24), .second, .val (.long y25), .second, .val (.long y26), .second, .val (.ref b27), .unset, .unset, .unset, .unset, .unset, .unset] [(.long y26), (.int (((2 : Int32) * y5) + (1 : Int32))), (.ref b27)])) rfl rfl (hb hby at_303) (fun T35 h35 L35 X35 e35 N35 W35 V35 => ?_)
  show OEnds _ _ _ _ _ _ T35 (mkF m 304 #[.val (.long q1), .second, .val (.int p2), .val (.long q3), .second, .val (.long q4), .second, .val (.int p5), .val (.long q6), .second, .val (.int y1), .val (.int y2), .val (.int y3), .val (.int y4), .val (.int y5), .val (.long y7), .second, .val (.long y9), .second, .val (.long y11), .second, .val (.int y12), .val (.int y13), .val (.int p2), .val (.long y15), .second, .val (.long y17), .second, .val (.long y19), .second, .val (.int y20), .val (.int y21), .val (.int y22), .val (.long y23), .second, .val (.long y24), .second, .val (.long y25), .second, .val (.long y26), .second, .val (.ref b27), .unset, .unset, .unset, .unset, .unset, .unset] [])
  have K35 := K34.wr W35 (Or.inr gz_b27)
  replace V35 : Arv Z h35 b27 k27 .long (6 : Int32) (List.set (List.set [(.long (q6 ^^^ (81985529216486895 : Int64))), (.long (q6 ^^^ (-1 : Int64))), (.long (q6 + (1 : Int64))), (.long (-q6)), (.long (q6 ^^^ (-1085102592571150096 : Int64))), (.long (q6 * (3 : Int64)))] ((2 : Int32) * y5).toNatClampNeg (.long y24)) (((2 : Int32) * y5) + (1 : Int32)).toNatClampNeg (.long y26)) (.long (0 : Int64)) := V35
  refine own_go (fun t kt => XS.iconst X35.here hx rfl (hb hby at_304) kt) ?_
  refine own_newarr X35 hx hZ (hw _ (List.mem_of_getElem? (i := 14) rfl)) e35 (g := (mkF m 305 #[.val (.long q1), .second, .val (.int p2), .val (.long q3), .second, .val (.long q4), .second, .val (.int p5), .val (.long q6), .second, .val (.int y1), .val (.int y2), .val (.int y3), .val (.int y4), .val (.int y5), .val (.long y7), .second, .val (.long y9), .second, .val (.long y11), .second, .val (.int y12), .val (.int y13), .val (.int p2), .val (.long y15), .second, .val (.long y17), .second, .val (.long y19), .second, .val (.int y20), .val (.int y21), .val (.int y22), .val (.long y23), .second, .val (.long y24), .second, .val (.long y25), .second, .val (.long y26), .second, .val (.ref b27), .unset, .unset, .unset, .unset, .unset, .unset] [(.int (3 : Int32))])) rfl (hb hby at_305) rfl (by decide) (cap := 3) (by decide) (by decide) (by decide) (by decide) (fun T36 h36 b36 k36 g36 X36 e36 E36 V36 => ?_)
  show OEnds _ _ _ _ _ _ T36 (mkF m 307 #[.val (.long q1), .second, .val (.int p2), .val (.long q3), .second, .val (.long q4), .second, .val (.int p5), .val (.long q6), .second, .val (.int y1), .val (.int y2), .val (.int y3), .val (.int y4), .val (.int y5), .val (.long y7), .second, .val (.long y9), .second, .val (.long y11), .second, .val (.int y12), .val (.int y13), .val (.int p2), .val (.long y15), .second, .val (.long y17), .second, .val (.long y19), .second, .val (.int y20), .val (.int y21), .val (.int y22), .val (.long y23), .second, .val (.long y24), .second, .val (.long y25), .second, .val (.long y26), .second, .val (.ref b27), .unset, .unset, .unset, .unset, .unset, .unset] [(.ref b36)])
  have ne_b27_b36 : b27 ≠ b36 := Nat.ne_of_lt (Nat.lt_of_lt_of_le V35.lt (Nat.le_of_eq g36.symm))
  have V35_h36 := V35.ext E36
  have gz_b36 : h0.size ≤ b36 := Nat.le_trans K35.1 (Nat.le_of_eq g36.symm)
  have ge_b36 : n0 ≤ b36 := Nat.le_trans Z0 gz_b36
  have K36 := K35.ext E36
  replace V36 : Arv Z h36 b36 k36 .int (3 : Int32) [(.int (0 : Int32)), (.int (0 : Int32)), (.int (0 : Int32))] (.int (0 : Int32)) := V36
  refine own_go (g' := (mkF m 309 #[.val (.long q1), .second, .val (.int p2), .val (.long q3), .second, .val (.long q4), .second, .val (.int p5), .val (.long q6), .second, .val (.int y1), .val (.int y2), .val (.int y3), .val (.int y4), .val (.int y5), .val (.long y7), .second, .val (.long y9), .second, .val (.long y11), .second, .val (.int y12), .val (.int y13), .val (.int p2), .val (.long y15), .second, .val (.long y17), .second, .val (.long y19), .second, .val (.int y20), .val (.int y21), .val (.int y22), .val (.long y23), .second, .val (.long y24), .second, .val (.long y25), .second, .val (.long y26), .second, .val (.ref b27), .val (.ref b36), .unset, .unset, .unset, .unset, .unset] [])) (fun t kt => XS.astore X36.here hx rfl (hb hby at_307) rfl rfl (l' := #[.val (.long q1), .second, .val (.int p2), .val (.long q3), .second, .val (.long q4), .second, .val (.int p5), .val (.long q6), .second, .val (.int y1), .val (.int y2), .val (.int y3), .val (.int y4), .val (.int y5), .val (.long y7), .second, .val (.long y9), .second, .val (.long y11), .second, .val (.int y12), .val (.int y13), .val (.int p2), .val (.long y15), .second, .val (.long y17), .second, .val (.long y19), .second, .val (.int y20), .val (.int y21), .val (.int y22), .val (.long y23), .second, .val (.long y24), .second, .val (.long y25), .second, .val (.long y26), .second, .val (.ref b27), .val (.ref b36), .unset, .unset, .unset, .unset, .unset]) rfl kt) ?_
  refine own_go (fun t kt => XS.aload X36.here hx rfl (hb hby at_309) rfl rfl kt) ?_
  refine own_go (fun t kt => XS.iconst X36.here hx rfl (hb hby at_311) kt) ?_
  refine own_go (fun t kt => XS.iconst X36.here hx rfl (hb hby at_312) kt) ?_
  refine own_iastore X36 hx hZ e36 V36 ⟨by decide, by decide⟩ 0 rfl (Nat.le_of_ble_eq_true rfl) N35 ge_b36 (g := (mkF m 313 #[.val (.long q1), .second, .val (.int p2), .val (.long q3), .second, .val (.long q4), .second, .val (.int p5), .val (.long q6), .second, .val (.int y1), .val (.int y2), .val (.int y3), .val (.int y4), .val (.int y5), .val (.long y7), .second, .val (.long y9), .second, .val (.long y11), .second, .val (.int y12), .val (.int y13), .val (.int p2), .val (.long y15), .second, .val (.long y17), .second, .val (.long y19), .second, .val (.int y20), .val (.int y21), .val (.int y22), .val (.long y23), .second, .val (.long y24), .second, .val (.long y25), .second, .val (.long y26), .second, .val (.ref b27), .val (.ref b36), .unset, .unset, .unset, .unset, .unset] [(.int (0 : Int32)), (.int (0 : Int32)), (.ref b36)])) rfl rfl (hb hby at_313) (fun T37 h37 L37 X37 e37 N37 W37 V37 => ?_)
  show OEnds _ _ _ _ _ _ T37 (mkF m 314 #[.val (.long q1), .second, .val (.int p2), .val (.long q3), .second, .val (.long q4), .second, .val (.int p5), .val (.long q6), .second, .val (.int y1), .val (.int y2), .val (.int y3), .val (.int y4), .val (.int y5), .val (.long y7), .second, .val (.long y9), .second, .val (.long y11), .second, .val (.int y12), .val (.int y13), .val (.int p2), .val (.long y15), .second, .val (.long y17), .second, .val (.long y19), .second, .val (.int y20), .val (.int y21), .val (.int y22), .val (.long y23), .second, .val (.long y24), .second, .val (.long y25), .second, .val (.long y26), .second, .val (.ref b27), .val (.ref b36), .unset, .unset, .unset, .unset, .unset] [])
  have V35_h37 := V35_h36.other W37 ne_b27_b36
  have K37 := K36.wr W37 (Or.inr gz_b36)
  replace V37 : Arv Z h37 b36 k36 .int (3 : Int32) [(.int (0 : Int32)), (.int (0 : Int32)), (.int (0 : Int32))] (.int (0 : Int32)) := V37
  refine own_go (fun t kt => XS.aload X37.here hx rfl (hb hby at_314) rfl rfl kt) ?_
  refine own_go (fun t kt => XS.iconst X37.here hx rfl (hb hby at_316) kt) ?_
  refine own_go (fun t kt => XS.iconst X37.here hx rfl (hb hby at_317) kt) ?_
  refine own_iastore X37 hx hZ e37 V37 ⟨by decide, by decide⟩ 1 rfl (Nat.le_of_ble_eq_true rfl) N37 ge_b36 (g := (mkF m 318 #[.val (.long q1), .second, .val (.int p2), .val (.long q3), .second, .val (.long q4), .second, .val (.int p5), .val (.long q6), .second, .val (.int y1), .val (.int y2), .val (.int y3), .val (.int y4), .val (.int y5), .val (.long y7), .second, .val (.long y9), .second, .val (.long y11), .second, .val (.int y12), .val (.int y13), .val (.int p2), .val (.long y15), .second, .val (.long y17), .second, .val (.long y19), .second, .val (.int y20), .val (.int y21), .val (.int y22), .val (.long y23), .second, .val (.long y24), .second, .val (.long y25), .second, .val (.long y26), .second, .val (.ref b27), .val (.ref b36), .unset, .unset, .unset, .unset, .unset] [(.int (0 : Int32)), (.int (1 : Int32)), (.ref b36)])) rfl rfl (hb hby at_318) (fun T38 h38 L38 X38 e38 N38 W38 V38 => ?_)
  show OEnds _ _ _ _ _ _ T38 (mkF m 319 #[.val (.long q1), .second, .val (.int p2), .val (.long q3), .second, .val (.long q4), .second, .val (.int p5), .val (.long q6), .second, .val (.int y1), .val (.int y2), .val (.int y3), .val (.int y4), .val (.int y5), .val (.long y7), .second, .val (.long y9), .second, .val (.long y11), .second, .val (.int y12), .val (.int y13), .val (.int p2), .val (.long y15), .second, .val (.long y17), .second, .val (.long y19), .second, .val (.int y20), .val (.int y21), .val (.int y22), .val (.long y23), .second, .val (.long y24), .second, .val (.long y25), .second, .val (.long y26), .second, .val (.ref b27), .val (.ref b36), .unset, .unset, .unset, .unset, .unset] [])
  have V35_h38 := V35_h37.other W38 ne_b27_b36
  have K38 := K37.wr W38 (Or.inr gz_b36)
  replace V38 : Arv Z h38 b36 k36 .int (3 : Int32) [(.int (0 : Int32)), (.int (0 : Int32)), (.int (0 : Int32))] (.int (0 : Int32)) := V38
  refine own_go (fun t kt => XS.aload X38.here hx rfl (hb hby at_319) rfl rfl kt) ?_
  refine own_go (g' := (mkF m 322 #[.val (.long q1), .second, .val (.int p2), .val (.long q3), .second, .val (.long q4), .second, .val (.int p5), .val (.long q6), .second, .val (.int y1), .val (.int y2), .val (.int y3), .val (.int y4), .val (.int y5), .val (.long y7), .second, .val (.long y9), .second, .val (.long y11), .second, .val (.int y12), .val (.int y13), .val (.int p2), .val (.long y15), .second, .val (.long y17), .second, .val (.long y19), .second, .val (.int y20), .val (.int y21), .val (.int y22), .val (.long y23), .second, .val (.long y24), .second, .val (.long y25), .second, .val (.long y26), .second, .val (.ref b27), .val (.ref b36), .unset, .unset, .unset, .unset, .unset] [(.int (2 : Int32)), (.ref b36)])) (fun t kt => XS.iconst X38.here hx rfl (hb hby at_321) kt) ?_
  refine own_go (fun t kt => XS.iconst X38.here hx rfl (hb hby at_322) kt) ?_
  refine own_iastore X38 hx hZ e38 V38 ⟨by decide, by decide⟩ 2 rfl (Nat.le_of_ble_eq_true rfl) N38 ge_b36 (g := (mkF m 323 #[.val (.long q1), .second, .val (.int p2), .val (.long q3), .second, .val (.long q4), .second, .val (.int p5), .val (.long q6), .second, .val (.int y1), .val (.int y2), .val (.int y3), .val (.int y4), .val (.int y5), .val (.long y7), .second, .val (.long y9), .second, .val (.long y11), .second, .val (.int y12), .val (.int y13), .val (.int p2), .val (.long y15), .second, .val (.long y17), .second, .val (.long y19), .second, .val (.int y20), .val (.int y21), .val (.int y22), .val (.long y23), .second, .val (.long y24), .second, .val (.long y25), .second, .val (.long y26), .second, .val (.ref b27), .val (.ref b36), .unset, .unset, .unset, .unset, .unset] [(.int (1 : Int32)), (.int (2 : Int32)), (.ref b36)])) rfl rfl (hb hby at_323) (fun T39 h39 L39 X39 e39 N39 W39 V39 => ?_)
  show OEnds _ _ _ _ _ _ T39 (mkF m 324 #[.val (.long q1), .second, .val (.int p2), .val (.long q3), .second, .val (.long q4), .second, .val (.int p5), .val (.long q6), .second, .val (.int y1), .val (.int y2), .val (.int y3), .val (.int y4), .val (.int y5), .val (.long y7), .second, .val (.long y9), .second, .val (.long y11), .second, .val (.int y12), .val (.int y13), .val (.int p2), .val (.long y15), .second, .val (.long y17), .second, .val (.long y19), .second, .val (.int y20), .val (.int y21), .val (.int y22), .val (.long y23), .second, .val (.long y24), .second, .val (.long y25), .second, .val (.long y26), .second, .val (.ref b27), .val (.ref b36), .unset, .unset, .unset, .unset, .unset] [])
  have V35_h39 := V35_h38.other W39 ne_b27_b36
  have K39 := K38.wr W39 (Or.inr gz_b36)
  replace V39 : Arv Z h39 b36 k36 .int (3 : Int32) [(.int (0 : Int32)), (.int (0 : Int32)), (.int (1 : Int32))] (.int (0 : Int32)) := V39
  refine own_go (fun t kt => XS.iconst X39.here hx rfl (hb hby at_324) kt) ?_
  refine own_newarr X39 hx hZ (hw _ (List.mem_of_getElem? (i := 14) rfl)) e39 (g := (mkF m 325 #[.val (.long q1), .second, .val (.int p2), .val (.long q3), .second, .val (.long q4), .second, .val (.int p5), .val (.long q6), .second, .val (.int y1), .val (.int y2), .val (.int y3), .val (.int y4), .val (.int y5), .val (.long y7), .second, .val (.long y9), .second, .val (.long y11), .second, .val (.int y12), .val (.int y13), .val (.int p2), .val (.long y15), .second, .val (.long y17), .second, .val (.long y19), .second, .val (.int y20), .val (.int y21), .val (.int y22), .val (.long y23), .second, .val (.long y24), .second, .val (.long y25), .second, .val (.long y26), .second, .val (.ref b27), .val (.ref b36), .unset, .unset, .unset, .unset, .unset] [(.int (3 : Int32))])) rfl (hb hby at_325) rfl (by decide) (cap := 3) (by decide) (by decide) (by decide) (by decide) (fun T40 h40 b40 k40 g40 X40 e40 E40 V40 => ?_)
  show OEnds _ _ _ _ _ _ T40 (mkF m 327 #[.val (.long q1), .second, .val (.int p2), .val (.long q3), .second, .val (.long q4), .second, .val (.int p5), .val (.long q6), .second, .val (.int y1), .val (.int y2), .val (.int y3), .val (.int y4), .val (.int y5), .val (.long y7), .second, .val (.long y9), .second, .val (.long y11), .second, .val (.int y12), .val (.int y13), .val (.int p2), .val (.long y15), .second, .val (.long y17), .second, .val (.long y19), .second, .val (.int y20), .val (.int y21), .val (.int y22), .val (.long y23), .second, .val (.long y24), .second, .val (.long y25), .second, .val (.long y26), .second, .val (.ref b27), .val (.ref b36), .unset, .unset, .unset, .unset, .unset] [(.ref b40)])
  have ne_b27_b40 : b27 ≠ b40 := Nat.ne_of_lt (Nat.lt_of_lt_of_le V35_h39.lt (Nat.le_of_eq g40.symm))
  have ne_b36_b40 : b36 ≠ b40 := Nat.ne_of_lt (Nat.lt_of_lt_of_le V39.lt (Nat.le_of_eq g40.symm))
  have V35_h40 := V35_h39.ext E40
  have V39_h40 := V39.ext E40
  have gz_b40 : h0.size ≤ b40 := Nat.le_trans K39.1 (Nat.le_of_eq g40.symm)
  have ge_b40 : n0 ≤ b40 := Nat.le_trans Z0 gz_b40
  have K40 := K39.ext E40
  replace V40 : Arv Z h40 b40 k40 .int (3 : Int32) [(.int (0 : Int32)), (.int (0 : Int32)), (.int (0 : Int32))] (.int (0 : Int32)) := V40
  refine own_go (fun t kt => XS.astore X40.here hx rfl (hb hby at_327) rfl rfl (l' := #[.val (.long q1), .second, .val (.int p2), .val (.long q3), .second, .val (.long q4), .second, .val (.int p5), .val (.long q6), .second, .val (.int y1), .val (.int y2), .val (.int y3), .val (.int y4), .val (.int y5), .val (.long y7), .second, .val (.long y9), .second, .val (.long y11), .second, .val (.int y12), .val (.int y13), .val (.int p2), .val (.long y15), .second, .val (.long y17), .second, .val (.long y19), .second, .val (.int y20), .val (.int y21), .val (.int y22), .val (.long y23), .second, .val (.long y24), .second, .val (.long y25), .second, .val (.long y26), .second, .val (.ref b27), .val (.ref b36), .val (.ref b40), .unset, .unset, .unset, .unset]) rfl kt) ?_
  refine own_go (fun t kt => XS.aload X40.here hx rfl (hb hby at_329) rfl rfl kt) ?_
  refine own_go (fun t kt => XS.iconst X40.here hx rfl (hb hby at_331) kt) ?_
  refine own_go (fun t kt => XS.iconst X40.here hx rfl (hb hby at_332) kt) ?_
  refine own_iastore X40 hx hZ e40 V40 ⟨by decide, by decide⟩ 0 rfl (Nat.le_of_ble_eq_true rfl) N39 ge_b40 (g := (mkF m 333 #[.val (.long q1), .second, .val (.int p2), .val (.long q3), .second, .val (.long q4), .second, .val (.int p5), .val (.long q6), .second, .val (.int y1), .val (.int y2), .val (.int y3), .val (.int y4), .val (.int y5), .val (.long y7), .second, .val (.long y9), .second, .val (.long y11), .second, .val (.int y12), .val (.int y13), .val (.int p2), .val (.long y15), .second, .val (.long y17), .second, .val (.long y19), .second, .val (.int y20), .val (.int y21), .val (.int y22), .val (.long y23), .second, .val (.long y24), .second, .val (.long y25), .second, .val (.long y26), .second, .val (.ref b27), .val (.ref b36), .val (.ref b40), .unset, .unset, .unset, .unset] [(.int (0 : Int32)), (.int (0 : Int32)), (.ref b40)])) rfl rfl (hb hby at_333) (fun T41 h41 L41 X41 e41 N41 W41 V41 => ?_)
  show OEnds _ _ _ _ _ _ T41 (mkF m 334 #[.val (.long q1), .second, .val (.int p2), .val (.long q3), .second, .val (.long q4), .second, .val (.int p5), .val (.long q6), .second, .val (.int y1), .val (.int y2), .val (.int y3), .val (.int y4), .val (.int y5), .val (.long y7), .second, .val (.long y9), .second, .val (.long y11), .second, .val (.int y12), .val (.int y13), .val (.int p2), .val (.long y15), .second, .val (.long y17), .second, .val (.long y19), .second, .val (.int y20), .val (.int y21), .val (.int y22), .val (.long y23), .second, .val (.long y24), .second, .val (.long y25), .second, .val (.long y26), .second, .val (.ref b27), .val (.ref b36), .val (.ref b40), .unset, .unset, .unset, .unset] [])
  have V35_h41 := V35_h40.other W41 ne_b27_b40
  have V39_h41 := V39_h40.other W41 ne_b36_b40
  have K41 := K40.wr W41 (Or.inr gz_b40)
  replace V41 : Arv Z h41 b40 k40 .int (3 : Int32) [(.int (0 : Int32)), (.int (0 : Int32)), (.int (0 : Int32))] (.int (0 : Int32)) := V41
  refine own_go (fun t kt => XS.aload X41.here hx rfl (hb hby at_334) rfl rfl kt) ?_
  refine own_go (g' := (mkF m 337 #[.val (.long q1), .second, .val (.int p2), .val (.long q3), .second, .val (.long q4), .second, .val (.int p5), .val (.long q6), .second, .val (.int y1), .val (.int y2), .val (.int y3), .val (.int y4), .val (.int y5), .val (.long y7), .second, .val (.long y9), .second, .val (.long y11), .second, .val (.int y12), .val (.int y13), .val (.int p2), .val (.long y15), .second, .val (.long y17), .second, .val (.long y19), .second, .val (.int y20), .val (.int y21), .val (.int y22), .val (.long y23), .second, .val (.long y24), .second, .val (.long y25), .second, .val (.long y26), .second, .val (.ref b27), .val (.ref b36), .val (.ref b40), .unset, .unset, .unset, .unset] [(.int (1 : Int32)), (.ref b40)])) (fun t kt => XS.iconst X41.here hx rfl (hb hby at_336) kt) ?_
  refine own_go (fun t kt => XS.iload X41.here hx rfl (hb hby at_337) rfl kt) ?_
  refine own_iastore X41 hx hZ e41 V41 ⟨by decide, by decide⟩ 1 rfl (Nat.le_of_ble_eq_true rfl) N41 ge_b40 (g := (mkF m 339 #[.val (.long q1), .second, .val (.int p2), .val (.long q3), .second, .val (.long q4), .second, .val (.int p5), .val (.long q6), .second, .val (.int y1), .val (.int y2), .val (.int y3), .val (.int y4), .val (.int y5), .val (.long y7), .second, .val (.long y9), .second, .val (.long y11), .second, .val (.int y12), .val (.int y13), .val (.int p2), .val (.long y15), .second, .val (.long y17), .second, .val (.long y19), .second, .val (.int y20), .val (.int y21), .val (.int y22), .val (.long y23), .second, .val (.long y24), .second, .val (.long y25), .second, .val (.long y26), .second, .val (.ref b27), .val (.ref b36), .val (.ref b40), .unset, .unset, .unset, .unset] [(.int y1), (.int (1 : Int32)), (.ref b40)])) rfl rfl (hb hby at_339) (fun T42 h42 L42 X42 e42 N42 W42 V42 => ?_)
  show OEnds _ _ _ _ _ _ T42 (mkF m 340 #[.val (.long q1), .second, .val (.int p2), .val (.long q3), .second, .val (.long q4), .second, .val (.int p5), .val (.long q6), .second, .val (.int y1), .val (.int y2), .val (.int y3), .val (.int y4), .val (.int y5), .val (.long y7), .second, .val (.long y9), .second, .val (.long y11), .second, .val (.int y12), .val (.int y13), .val (.int p2), .val (.long y15), .second, .val (.long y17), .second, .val (.long y19), .second, .val (.int y20), .val (.int y21), .val (.int y22), .val (.long y23), .second, .val (.long y24), .second, .val (.long y25), .second, .val (.long y26), .second, .val (.ref b27), .val (.ref b36), .val (.ref b40), .unset, .unset, .unset, .unset] [])
  have V35_h42 := V35_h41.other W42 ne_b27_b40
  have V39_h42 := V39_h41.other W42 ne_b36_b40
  have K42 := K41.wr W42 (Or.inr gz_b40)
  replace V42 : Arv Z h42 b40 k40 .int (3 : Int32) [(.int (0 : Int32)), (.int y1), (.int (0 : Int32))] (.int (0 : Int32)) := V42
  refine own_go (fun t kt => XS.aload X42.here hx rfl (hb hby at_340) rfl rfl kt) ?_
  refine own_go (fun t kt => XS.iconst X42.here hx rfl (hb hby at_342) kt) ?_
  refine own_go (fun t kt => XS.iload X42.here hx rfl (hb hby at_343) rfl kt) ?_
  refine own_iastore X42 hx hZ e42 V42 ⟨by decide, by decide⟩ 2 rfl (Nat.le_of_ble_eq_true rfl) N42 ge_b40 (g := (mkF m 345 #[.val (.long q1), .second, .val (.int p2), .val (.long q3), .second, .val (.long q4), .second, .val (.int p5), .val (.long q6), .second, .val (.int y1), .val (.int y2), .val (.int y3), .val (.int y4), .val (.int y5), .val (.long y7), .second, .val (.long y9), .second, .val (.long y11), .second, .val (.int y12), .val (.int y13), .val (.int p2), .val (.long y15), .second, .val (.long y17), .second, .val (.long y19), .second, .val (.int y20), .val (.int y21), .val (.int y22), .val (.long y23), .second, .val (.long y24), .second, .val (.long y25), .second, .val (.long y26), .second, .val (.ref b27), .val (.ref b36), .val (.ref b40), .unset, .unset, .unset, .unset] [(.int y4), (.int (2 : Int32)), (.ref b40)])) rfl rfl (hb hby at_345) (fun T43 h43 L43 X43 e43 N43 W43 V43 => ?_)
  show OEnds _ _ _ _ _ _ T43 (mkF m 346 #[.val (.long q1), .second, .val (.int p2), .val (.long q3), .second, .val (.long q4), .second, .val (.int p5), .val (.long q6), .second, .val (.int y1), .val (.int y2), .val (.int y3), .val (.int y4), .val (.int y5), .val (.long y7), .second, .val (.long y9), .second, .val (.long y11), .second, .val (.int y12), .val (.int y13), .val (.int p2), .val (.long y15), .second, .val (.long y17), .second, .val (.long y19), .second, .val (.int y20), .val (.int y21), .val (.int y22), .val (.long y23), .second, .val (.long y24), .second, .val (.long y25), .second, .val (.long y26), .second, .val (.ref b27), .val (.ref b36), .val (.ref b40), .unset, .unset, .unset, .unset] [])
  have V35_h43 := V35_h42.other W43 ne_b27_b40
  have V39_h43 := V39_h42.other W43 ne_b36_b40
  have K43 := K42.wr W43 (Or.inr gz_b40)
  replace V43 : Arv Z h43 b40 k40 .int (3 : Int32) [(.int (0 : Int32)), (.int y1), (.int y4)] (.int (0 : Int32)) := V43
  refine own_go (fun t kt => XS.iconst X43.here hx rfl (hb hby at_346) kt) ?_
  refine own_newarr X43 hx hZ (hw _ (List.mem_of_getElem? (i := 10) rfl)) e43 (g := (mkF m 347 #[.val (.long q1), .second, .val (.int p2), .val (.long q3), .second, .val (.long q4), .second, .val (.int p5), .val (.long q6), .second, .val (.int y1), .val (.int y2), .val (.int y3), .val (.int y4), .val (.int y5), .val (.long y7), .second, .val (.long y9), .second, .val (.long y11), .second, .val (.int y12), .val (.int y13), .val (.int p2), .val (.long y15), .second, .val (.long y17), .second, .val (.long y19), .second, .val (.int y20), .val (.int y21), .val (.int y22), .val (.long y23), .second, .val (.long y24), .second, .val (.long y25), .second, .val (.long y26), .second, .val (.ref b27), .val (.ref b36), .val (.ref b40), .unset, .unset, .unset, .unset] [(.int (3 : Int32))])) rfl (hb hby at_347) rfl (by decide) (cap := 3) (by decide) (by decide) (by decide) (by decide) (fun T44 h44 b44 k44 g44 X44 e44 E44 V44 => ?_)
  show OEnds _ _ _ _ _ _ T44 (mkF m 349 #[.val (.long q1), .second, .val (.int p2), .val (.long q3), .second, .val (.long q4), .second, .val (.int p5), .val (.long q6), .second, .val (.int y1), .val (.int y2), .val (.int y3), .val (.int y4), .val (.int y5), .val (.long y7), .second, .val (.long y9), .second, .val (.long y11), .second, .val (.int y12), .val (.int y13), .val (.int p2), .val (.long y15), .second, .val (.long y17), .second, .val (.long y19), .second, .val (.int y20), .val (.int y21), .val (.int y22), .val (.long y23), .second, .val (.long y24), .second, .val (.long y25), .second, .val (.long y26), .second, .val (.ref b27), .val (.ref b36), .val (.ref b40), .unset, .unset, .unset, .unset] [(.ref b44)])
  have ne_b27_b44 : b27 ≠ b44 := Nat.ne_of_lt (Nat.lt_of_lt_of_le V35_h43.lt (Nat.le_of_eq g44.symm))
  have ne_b36_b44 : b36 ≠ b44 := Nat.ne_of_lt (Nat.lt_of_lt_of_le V39_h43.lt (Nat.le_of_eq g44.symm))
  have ne_b40_b44 : b40 ≠ b44 := Nat.ne_of_lt (Nat.lt_of_lt_of_le V43.lt (Nat.le_of_eq g44.symm))
  have V35_h44 := V35_h43.ext E44
  have V39_h44 := V39_h43.ext E44
  have V43_h44 := V43.ext E44
  have gz_b44 : h0.size ≤ b44 := Nat.le_trans K43.1 (Nat.le_of_eq g44.symm)
  have ge_b44 : n0 ≤ b44 := Nat.le_trans Z0 gz_b44
  have K44 := K43.ext E44
  replace V44 : Arv Z h44 b44 k44 .long (3 : Int32) [(.long (0 : Int64)), (.long (0 : Int64)), (.long (0 : Int64))] (.long (0 : Int64)) := V44
  refine own_go (fun t kt => XS.astore X44.here hx rfl (hb hby at_349) rfl rfl (l' := #[.val (.long q1), .second, .val (.int p2), .val (.long q3), .second, .val (.long q4), .second, .val (.int p5), .val (.long q6), .second, .val (.int y1), .val (.int y2), .val (.int y3), .val (.int y4), .val (.int y5), .val (.long y7), .second, .val (.long y9), .second, .val (.long y11), .second, .val (.int y12), .val (.int y13), .val (.int p2), .val (.long y15), .second, .val (.long y17), .second, .val (.long y19), .second, .val (.int y20), .val (.int y21), .val (.int y22), .val (.long y23), .second, .val (.long y24), .second, .val (.long y25), .second, .val (.long y26), .second, .val (.ref b27), .val (.ref b36), .val (.ref b40), .val (.ref b44), .unset, .unset, .unset]) rfl kt) ?_
  refine own_go (fun t kt => XS.aload X44.here hx rfl (hb hby at_351) rfl rfl kt) ?_
  refine own_go (g' := (mkF m 354 #[.val (.long q1), .second, .val (.int p2), .val (.long q3), .second, .val (.long q4), .second, .val (.int p5), .val (.long q6), .second, .val (.int y1), .val (.int y2), .val (.int y3), .val (.int y4), .val (.int y5), .val (.long y7), .second, .val (.long y9), .second, .val (.long y11), .second, .val (.int y12), .val (.int y13), .val (.int p2), .val (.long y15), .second, .val (.long y17), .second, .val (.long y19), .second, .val (.int y20), .val (.int y21), .val (.int y22), .val (.long y23), .second, .val (.long y24), .second, .val (.long y25), .second, .val (.long y26), .second, .val (.ref b27), .val (.ref b36), .val (.ref b40), .val (.ref b44), .unset, .unset, .unset] [(.int (0 : Int32)), (.ref b44)])) (fun t kt => XS.iconst X44.here hx rfl (hb hby at_353) kt) ?_
  refine own_go (fun t kt => XS.lload X44.here hx rfl (hb hby at_354) rfl kt) ?_
  refine own_lastore X44 hx hZ e44 V44 ⟨by decide, by decide⟩ 0 rfl (Nat.le_of_ble_eq_true rfl) N43 ge_b44 (g := (mkF m 356 #[.val (.long q1), .second, .val (.int p2), .val (.long q3), .second, .val (.long q4), .second, .val (.int p5), .val (.long q6), .second, .val (.int y1), .val (.int y2), .val (.int y3), .val (.int y4), .val (.int y5), .val (.long y7), .second, .val (.long y9), .second, .val (.long y11), .second, .val (.int y12), .val (.int y13), .val (.int p2), .val (.long y15), .second, .val (.long y17), .second, .val (.long y19), .second, .val (.int y20), .val (.int y21), .val (.int y22), .val (.long y23), .second, .val (.long y24), .second, .val (.long y25), .second, .val (.long y26), .second, .val (.ref b27), .val (.ref b36), .val (.ref b40), .val (.ref b44), .unset, .unset, .unset] [(.long y7), (.int (0 : Int32)), (.ref b44)])) rfl rfl (hb hby at_356) (fun T45 h45 L45 X45 e45 N45 W45 V45 => ?_)
  show OEnds _ _ _ _ _ _ T45 (mkF m 357 #[.val (.long q1), .second, .val (.int p2), .val (.long q3), .second, .val (.long q4), .second, .val (.int p5), .val (.long q6), .second, .val (.int y1), .val (.int y2), .val (.int y3), .val (.int y4), .val (.int y5), .val (.long y7), .second, .val (.long y9), .second, .val (.long y11), .second, .val (.int y12), .val (.int y13), .val (.int p2), .val (.long y15), .second, .val (.long y17), .second, .val (.long y19), .second, .val (.int y20), .val (.int y21), .val (.int y22), .val (.long y23), .second, .val (.long y24), .second, .val (.long y25), .second, .val (.long y26), .second, .val (.ref b27), .val (.ref b36), .val (.ref b40), .val (.ref b44), .unset, .unset, .unset] [])
  have V35_h45 := V35_h44.other W45 ne_b27_b44
  have V39_h45 := V39_h44.other W45 ne_b36_b44
  have V43_h45 := V43_h44.other W45 ne_b40_b44
  have K45 := K44.wr W45 (Or.inr gz_b44)
  replace V45 : Arv Z h45 b44 k44 .long (3 : Int32) [(.long y7), (.long (0 : Int64)), (.long (0 : Int64))] (.long (0 : Int64)) := V45
  refine own_go (fun t kt => XS.aload X45.here hx rfl (hb hby at_357) rfl rfl kt) ?_
  refine own_go (fun t kt => XS.iconst X45.here hx rfl (hb hby at_359) kt) ?_
  refine own_go (fun t kt => XS.lload X45.here hx rfl (hb hby at_360) rfl kt) ?_
  refine own_lastore X45 hx hZ e45 V45 ⟨by decide, by decide⟩ 1 rfl (Nat.le_of_ble_eq_true rfl) N45 ge_b44 (g := (mkF m 362 #[.val (.long q1), .second, .val (.int p2), .val (.long q3), .second, .val (.long q4), .second, .val (.int p5), .val (.long q6), .second, .val (.int y1), .val (.int y2), .val (.int y3), .val (.int y4), .val (.int y5), .val (.long y7), .second, .val (.long y9), .second, .val (.long y11), .second, .val (.int y12), .val (.int y13), .val (.int p2), .val (.long y15), .second, .val (.long y17), .second, .val (.long y19), .second, .val (.int y20), .val (.int y21), .val (.int y22), .val (.long y23), .second, .val (.long y24), .second, .val (.long y25), .second, .val (.long y26), .second, .val (.ref b27), .val (.ref b36), .val (.ref b40), .val (.ref b44), .unset, .unset, .unset] [(.long y9), (.int (1 : Int32)), (.ref b44)])) rfl rfl (hb hby at_362) (fun T46 h46 L46 X46 e46 N46 W46 V46 => ?_)
  show OEnds _ _ _ _ _ _ T46 (mkF m 363 #[.val (.long q1), .second, .val (.int p2), .val (.long q3), .second, .val (.long q4), .second, .val (.int p5), .val (.long q6), .second, .val (.int y1), .val (.int y2), .val (.int y3), .val (.int y4), .val (.int y5), .val (.long y7), .second, .val (.long y9), .second, .val (.long y11), .second, .val (.int y12), .val (.int y13), .val (.int p2), .val (.long y15), .second, .val (.long y17), .second, .val (.long y19), .second, .val (.int y20), .val (.int y21), .val (.int y22), .val (.long y23), .second, .val (.long y24), .second, .val (.long y25), .second, .val (.long y26), .second, .val (.ref b27), .val (.ref b36), .val (.ref b40), .val (.ref b44), .unset, .unset, .unset] [])
  have V35_h46 := V35_h45.other W46 ne_b27_b44
  have V39_h46 := V39_h45.other W46 ne_b36_b44
  have V43_h46 := V43_h45.other W46 ne_b40_b44
  have K46 := K45.wr W46 (Or.inr gz_b44)
  replace V46 : Arv Z h46 b44 k44 .long (3 : Int32) [(.long y7), (.long y9), (.long (0 : Int64))] (.long (0 : Int64)) := V46
  refine own_go (fun t kt => XS.aload X46.here hx rfl (hb hby at_363) rfl rfl kt) ?_
  refine own_go (fun t kt => XS.iconst X46.here hx rfl (hb hby at_365) kt) ?_
  refine own_go (fun t kt => XS.lload X46.here hx rfl (hb hby at_366) rfl kt) ?_
  refine own_lastore X46 hx hZ e46 V46 ⟨by decide, by decide⟩ 2 rfl (Nat.le_of_ble_eq_true rfl) N46 ge_b44 (g := (mkF m 368 #[.val (.long q1), .second, .val (.int p2), .val (.long q3), .second, .val (.long q4), .second, .val (.int p5), .val (.long q6), .second, .val (.int y1), .val (.int y2), .val (.int y3), .val (.int y4), .val (.int y5), .val (.long y7), .second, .val (.long y9), .second, .val (.long y11), .second, .val (.int y12), .val (.int y13), .val (.int p2), .val (.long y15), .second, .val (.long y17), .second, .val (.long y19), .second, .val (.int y20), .val (.int y21), .val (.int y22), .val (.long y23), .second, .val (.long y24), .second, .val (.long y25), .second, .val (.long y26), .second, .val (.ref b27), .val (.ref b36), .val (.ref b40), .val (.ref b44), .unset, .unset, .unset] [(.long y11), (.int (2 : Int32)), (.ref b44)])) rfl rfl (hb hby at_368) (fun T47 h47 L47 X47 e47 N47 W47 V47 => ?_)
  show OEnds _ _ _ _ _ _ T47 (mkF m 369 #[.val (.long q1), .second, .val (.int p2), .val (.long q3), .second, .val (.long q4), .second, .val (.int p5), .val (.long q6), .second, .val (.int y1), .val (.int y2), .val (.int y3), .val (.int y4), .val (.int y5), .val (.long y7), .second, .val (.long y9), .second, .val (.long y11), .second, .val (.int y12), .val (.int y13), .val (.int p2), .val (.long y15), .second, .val (.long y17), .second, .val (.long y19), .second, .val (.int y20), .val (.int y21), .val (.int y22), .val (.long y23), .second, .val (.long y24), .second, .val (.long y25), .second, .val (.long y26), .second, .val (.ref b27), .val (.ref b36), .val (.ref b40), .val (.ref b44), .unset, .unset, .unset] [])
  have V35_h47 := V35_h46.other W47 ne_b27_b44
  have V39_h47 := V39_h46.other W47 ne_b36_b44
  have V43_h47 := V43_h46.other W47 ne_b40_b44
  have K47 := K46.wr W47 (Or.inr gz_b44)
  replace V47 : Arv Z h47 b44 k44 .long (3 : Int32) [(.long y7), (.long y9), (.long y11)] (.long (0 : Int64)) := V47
  refine own_go (g' := (mkF m 370 #[.val (.long q1), .second, .val (.int p2), .val (.long q3), .second, .val (.long q4), .second, .val (.int p5), .val (.long q6), .second, .val (.int y1), .val (.int y2), .val (.int y3), .val (.int y4), .val (.int y5), .val (.long y7), .second, .val (.long y9), .second, .val (.long y11), .second, .val (.int y12), .val (.int y13), .val (.int p2), .val (.long y15), .second, .val (.long y17), .second, .val (.long y19), .second, .val (.int y20), .val (.int y21), .val (.int y22), .val (.long y23), .second, .val (.long y24), .second, .val (.long y25), .second, .val (.long y26), .second, .val (.ref b27), .val (.ref b36), .val (.ref b40), .val (.ref b44), .unset, .unset, .unset] [(.int (3 : Int32))])) (fun t kt => XS.iconst X47.here hx rfl (hb hby at_369) kt) ?_
  refine own_newarr X47 hx hZ (hw _ (List.mem_of_getElem? (i := 14) rfl)) e47 (g := (mkF m 370 #[.val (.long q1), .second, .val (.int p2), .val (.long q3), .second, .val (.long q4), .second, .val (.int p5), .val (.long q6), .second, .val (.int y1), .val (.int y2), .val (.int y3), .val (.int y4), .val (.int y5), .val (.long y7), .second, .val (.long y9), .second, .val (.long y11), .second, .val (.int y12), .val (.int y13), .val (.int p2), .val (.long y15), .second, .val (.long y17), .second, .val (.long y19), .second, .val (.int y20), .val (.int y21), .val (.int y22), .val (.long y23), .second, .val (.long y24), .second, .val (.long y25), .second, .val (.long y26), .second, .val (.ref b27), .val (.ref b36), .val (.ref b40), .val (.ref b44), .unset, .unset, .unset] [(.int (3 : Int32))])) rfl (hb hby at_370) rfl (by decide) (cap := 3) (by decide) (by decide) (by decide) (by decide) (fun T48 h48 b48 k48 g48 X48 e48 E48 V48 => ?_)
  show OEnds _ _ _ _ _ _ T48 (mkF m 372 #[.val (.long q1), .second, .val (.int p2), .val (.long q3), .second, .val (.long q4), .second, .val (.int p5), .val (.long q6), .second, .val (.int y1), .val (.int y2), .val (.int y3), .val (.int y4), .val (.int y5), .val (.long y7), .second, .val (.long y9), .second, .val (.long y11), .second, .val (.int y12), .val (.int y13), .val (.int p2), .val (.long y15), .second, .val (.long y17), .second, .val (.long y19), .second, .val (.int y20), .val (.int y21), .val (.int y22), .val (.long y23), .second, .val (.long y24), .second, .val (.long y25), .second, .val (.long y26), .second, .val (.ref b27), .val (.ref b36), .val (.ref b40), .val (.ref b44), .unset, .unset, .unset] [(.ref b48)])
  have ne_b27_b48 : b27 ≠ b48 := Nat.ne_of_lt (Nat.lt_of_lt_of_le V35_h47.lt (Nat.le_of_eq g48.symm))
  have ne_b36_b48 : b36 ≠ b48 := Nat.ne_of_lt (Nat.lt_of_lt_of_le V39_h47.lt (Nat.le_of_eq g48.symm))
  have ne_b40_b48 : b40 ≠ b48 := Nat.ne_of_lt (Nat.lt_of_lt_of_le V43_h47.lt (Nat.le_of_eq g48.symm))
  have ne_b44_b48 : b44 ≠ b48 := Nat.ne_of_lt (Nat.lt_of_lt_of_le V47.lt (Nat.le_of_eq g48.symm))
  have V35_h48 := V35_h47.ext E48
  have V39_h48 := V39_h47.ext E48
  have V43_h48 := V43_h47.ext E48
  have V47_h48 := V47.ext E48
  have gz_b48 : h0.size ≤ b48 := Nat.le_trans K47.1 (Nat.le_of_eq g48.symm)
  have ge_b48 : n0 ≤ b48 := Nat.le_trans Z0 gz_b48
  have K48 := K47.ext E48
  replace V48 : Arv Z h48 b48 k48 .int (3 : Int32) [(.int (0 : Int32)), (.int (0 : Int32)), (.int (0 : Int32))] (.int (0 : Int32)) := V48
  refine own_go (fun t kt => XS.astore X48.here hx rfl (hb hby at_372) rfl rfl (l' := #[.val (.long q1), .second, .val (.int p2), .val (.long q3), .second, .val (.long q4), .second, .val (.int p5), .val (.long q6), .second, .val (.int y1), .val (.int y2), .val (.int y3), .val (.int y4), .val (.int y5), .val (.long y7), .second, .val (.long y9), .second, .val (.long y11), .second, .val (.int y12), .val (.int y13), .val (.int p2), .val (.long y15), .second, .val (.long y17), .second, .val (.long y19), .second, .val (.int y20), .val (.int y21), .val (.int y22), .val (.long y23), .second, .val (.long y24), .second, .val (.long y25), .second, .val (.long y26), .second, .val (.ref b27), .val (.ref b36), .val (.ref b40), .val (.ref b44), .val (.ref b48), .unset, .unset]) rfl kt) ?_
  refine own_go (fun t kt => XS.aload X48.here hx rfl (hb hby at_374) rfl rfl kt) ?_
  refine own_go (fun t kt => XS.iconst X48.here hx rfl (hb hby at_376) kt) ?_
  refine own_go (fun t kt => XS.iload X48.here hx rfl (hb hby at_377) rfl kt) ?_
  refine own_iastore X48 hx hZ e48 V48 ⟨by decide, by decide⟩ 0 rfl (Nat.le_of_ble_eq_true rfl) N47 ge_b48 (g := (mkF m 379 #[.val (.long q1), .second, .val (.int p2), .val (.long q3), .second, .val (.long q4), .second, .val (.int p5), .val (.long q6), .second, .val (.int y1), .val (.int y2), .val (.int y3), .val (.int y4), .val (.int y5), .val (.long y7), .second, .val (.long y9), .second, .val (.long y11), .second, .val (.int y12), .val (.int y13), .val (.int p2), .val (.long y15), .second, .val (.long y17), .second, .val (.long y19), .second, .val (.int y20), .val (.int y21), .val (.int y22), .val (.long y23), .second, .val (.long y24), .second, .val (.long y25), .second, .val (.long y26), .second, .val (.ref b27), .val (.ref b36), .val (.ref b40), .val (.ref b44), .val (.ref b48), .unset, .unset] [(.int y20), (.int (0 : Int32)), (.ref b48)])) rfl rfl (hb hby at_379) (fun T49 h49 L49 X49 e49 N49 W49 V49 => ?_)
  show OEnds _ _ _ _ _ _ T49 (mkF m 380 #[.val (.long q1), .second, .val (.int p2), .val (.long q3), .second, .val (.long q4), .second, .val (.int p5), .val (.long q6), .second, .val (.int y1), .val (.int y2), .val (.int y3), .val (.int y4), .val (.int y5), .val (.long y7), .second, .val (.long y9), .second, .val (.long y11), .second, .val (.int y12), .val (.int y13), .val (.int p2), .val (.long y15), .second, .val (.long y17), .second, .val (.long y19), .second, .val (.int y20), .val (.int y21), .val (.int y22), .val (.long y23), .second, .val (.long y24), .second, .val (.long y25), .second, .val (.long y26), .second, .val (.ref b27), .val (.ref b36), .val (.ref b40), .val (.ref b44), .val (.ref b48), .unset, .unset] [])
  have V35_h49 := V35_h48.other W49 ne_b27_b48
  have V39_h49 := V39_h48.other W49 ne_b36_b48
  have V43_h49 := V43_h48.other W49 ne_b40_b48
  have V47_h49 := V47_h48.other W49 ne_b44_b48
  have K49 := K48.wr W49 (Or.inr gz_b48)
  replace V49 : Arv Z h49 b48 k48 .int (3 : Int32) [(.int y20), (.int (0 : Int32)), (.int (0 : Int32))] (.int (0 : Int32)) := V49
  refine own_go (fun t kt => XS.aload X49.here hx rfl (hb hby at_380) rfl rfl kt) ?_
  refine own_go (fun t kt => XS.iconst X49.here hx rfl (hb hby at_382) kt) ?_
  refine own_go (fun t kt => XS.iload X49.here hx rfl (hb hby at_383) rfl kt) ?_
  refine own_iastore X49 hx hZ e49 V49 ⟨by decide, by decide⟩ 1 rfl (Nat.le_of_ble_eq_true rfl) N49 ge_b48 (g := (mkF m 385 #[.val (.long q1), .second, .val (.int p2), .val (.long q3), .second, .val (.long q4), .second, .val (.int p5), .val (.long q6), .second, .val (.int y1), .val (.int y2), .val (.int y3), .val (.int y4), .val (.int y5), .val (.long y7), .second, .val (.long y9), .second, .val (.long y11), .second, .val (.int y12), .val (.int y13), .val (.int p2), .val (.long y15), .second, .val (.long y17), .second, .val (.long y19), .second, .val (.int y20), .val (.int y21), .val (.int y22), .val (.long y23), .second, .val (.long y24), .second, .val (.long y25), .second, .val (.long y26), .second, .val (.ref b27), .val (.ref b36), .val (.ref b40), .val (.ref b44), .val (.ref b48), .unset, .unset] [(.int y21), (.int (1 : Int32)), (.ref b48)])) rfl rfl (hb hby at_385) (fun T50 h50 L50 X50 e50 N50 W50 V50 => ?_)
  show OEnds _ _ _ _ _ _ T50 (mkF m 386 #[.val (.long q1), .second, .val (.int p2), .val (.long q3), .second, .val (.long q4), .second, .val (.int p5), .val (.long q6), .second, .val (.int y1), .val (.int y2), .val (.int y3), .val (.int y4), .val (.int y5), .val (.long y7), .second, .val (.long y9), .second, .val (.long y11), .second, .val (.int y12), .val (.int y13), .val (.int p2), .val (.long y15), .second, .val (.long y17), .second, .val (.long y19), .second, .val (.int y20), .val (.int y21), .val (.int y22), .val (.long y23), .second, .val (.long y24), .second, .val (.long y25), .second, .val (.long y26), .second, .val (.ref b27), .val (.ref b36), .val (.ref b40), .val (.ref b44), .val (.ref b48), .unset, .unset] [])
  have V35_h50 := V35_h49.other W50 ne_b27_b48
  have V39_h50 := V39_h49.other W50 ne_b36_b48
  have V43_h50 := V43_h49.other W50 ne_b40_b48
  have V47_h50 := V47_h49.other W50 ne_b44_b48
  have K50 := K49.wr W50 (Or.inr gz_b48)
  replace V50 : Arv Z h50 b48 k48 .int (3 : Int32) [(.int y20), (.int y21), (.int (0 : Int32))] (.int (0 : Int32)) := V50
  refine own_go (g' := (mkF m 388 #[.val (.long q1), .second, .val (.int p2), .val (.long q3), .second, .val (.long q4), .second, .val (.int p5), .val (.long q6), .second, .val (.int y1), .val (.int y2), .val (.int y3), .val (.int y4), .val (.int y5), .val (.long y7), .second, .val (.long y9), .second, .val (.long y11), .second, .val (.int y12), .val (.int y13), .val (.int p2), .val (.long y15), .second, .val (.long y17), .second, .val (.long y19), .second, .val (.int y20), .val (.int y21), .val (.int y22), .val (.long y23), .second, .val (.long y24), .second, .val (.long y25), .second, .val (.long y26), .second, .val (.ref b27), .val (.ref b36), .val (.ref b40), .val (.ref b44), .val (.ref b48), .unset, .unset] [(.ref b48)])) (fun t kt => XS.aload X50.here hx rfl (hb hby at_386) rfl rfl kt) ?_
  refine own_go (fun t kt => XS.iconst X50.here hx rfl (hb hby at_388) kt) ?_
  refine own_go (fun t kt => XS.iload X50.here hx rfl (hb hby at_389) rfl kt) ?_
  refine own_iastore X50 hx hZ e50 V50 ⟨by decide, by decide⟩ 2 rfl (Nat.le_of_ble_eq_true rfl) N50 ge_b48 (g := (mkF m 391 #[.val (.long q1), .second, .val (.int p2), .val (.long q3), .second, .val (.long q4), .second, .val (.int p5), .val (.long q6), .second, .val (.int y1), .val (.int y2), .val (.int y3), .val (.int y4), .val (.int y5), .val (.long y7), .second, .val (.long y9), .second, .val (.long y11), .second, .val (.int y12), .val (.int y13), .val (.int p2), .val (.long y15), .second, .val (.long y17), .second, .val (.long y19), .second, .val (.int y20), .val (.int y21), .val (.int y22), .val (.long y23), .second, .val (.long y24), .second, .val (.long y25), .second, .val (.long y26), .second, .val (.ref b27), .val (.ref b36), .val (.ref b40), .val (.ref b44), .val (.ref b48), .unset, .unset] [(.int y22), (.int (2 : Int32)), (.ref b48)])) rfl rfl (hb hby at_391) (fun T51 h51 L51 X51 e51 N51 W51 V51 => ?_)
  show OEnds _ _ _ _ _ _ T51 (mkF m 392 #[.val (.long q1), .second, .val (.int p2), .val (.long q3), .second, .val (.long q4), .second, .val (.int p5), .val (.long q6), .second, .val (.int y1), .val (.int y2), .val (.int y3), .val (.int y4), .val (.int y5), .val (.long y7), .second, .val (.long y9), .second, .val (.long y11), .second, .val (.int y12), .val (.int y13), .val (.int p2), .val (.long y15), .second, .val (.long y17), .second, .val (.long y19), .second, .val (.int y20), .val (.int y21), .val (.int y22), .val (.long y23), .second, .val (.long y24), .second, .val (.long y25), .second, .val (.long y26), .second, .val (.ref b27), .val (.ref b36), .val (.ref b40), .val (.ref b44), .val (.ref b48), .unset, .unset] [])
  have V35_h51 := V35_h50.other W51 ne_b27_b48
  have V39_h51 := V39_h50.other W51 ne_b36_b48
  have V43_h51 := V43_h50.other W51 ne_b40_b48
  have V47_h51 := V47_h50.other W51 ne_b44_b48
  have K51 := K50.wr W51 (Or.inr gz_b48)
  replace V51 : Arv Z h51 b48 k48 .int (3 : Int32) [(.int y20), (.int y21), (.int y22)] (.int (0 : Int32)) := V51
  refine own_new X51 hx hZ hown (hw _ (List.mem_of_getElem? (i := 15) rfl)) (hw _ (List.mem_of_getElem? (i := 16) rfl)) (hw _ (List.mem_of_getElem? (i := 17) rfl)) e51 (g := (mkF m 392 #[.val (.long q1), .second, .val (.int p2), .val (.long q3), .second, .val (.long q4), .second, .val (.int p5), .val (.long q6), .second, .val (.int y1), .val (.int y2), .val (.int y3), .val (.int y4), .val (.int y5), .val (.long y7), .second, .val (.long y9), .second, .val (.long y11), .second, .val (.int y12), .val (.int y13), .val (.int p2), .val (.long y15), .second, .val (.long y17), .second, .val (.long y19), .second, .val (.int y20), .val (.int y21), .val (.int y22), .val (.long y23), .second, .val (.long y24), .second, .val (.long y25), .second, .val (.long y26), .second, .val (.ref b27), .val (.ref b36), .val (.ref b40), .val (.ref b44), .val (.ref b48), .unset, .unset] [])) rfl (hb hby at_392) (by decide) (by decide) (fun T52 h52 b52 g52 X52 e52 E52 A52 D52 => ?_)
  show OEnds _ _ _ _ _ _ T52 (mkF m 395 #[.val (.long q1), .second, .val (.int p2), .val (.long q3), .second, .val (.long q4), .second, .val (.int p5), .val (.long q6), .second, .val (.int y1), .val (.int y2), .val (.int y3), .val (.int y4), .val (.int y5), .val (.long y7), .second, .val (.long y9), .second, .val (.long y11), .second, .val (.int y12), .val (.int y13), .val (.int p2), .val (.long y15), .second, .val (.long y17), .second, .val (.long y19), .second, .val (.int y20), .val (.int y21), .val (.int y22), .val (.long y23), .second, .val (.long y24), .second, .val (.long y25), .second, .val (.long y26), .second, .val (.ref b27), .val (.ref b36), .val (.ref b40), .val (.ref b44), .val (.ref b48), .unset, .unset] [(.ref b52)])
  have ne_b27_b52 : b27 ≠ b52 := Nat.ne_of_lt (Nat.lt_of_lt_of_le V35_h51.lt (Nat.le_of_eq g52.symm))
  have ne_b36_b52 : b36 ≠ b52 := Nat.ne_of_lt (Nat.lt_of_lt_of_le V39_h51.lt (Nat.le_of_eq g52.symm))
  have ne_b40_b52 : b40 ≠ b52 := Nat.ne_of_lt (Nat.lt_of_lt_of_le V43_h51.lt (Nat.le_of_eq g52.symm))
  have ne_b44_b52 : b44 ≠ b52 := Nat.ne_of_lt (Nat.lt_of_lt_of_le V47_h51.lt (Nat.le_of_eq g52.symm))
  have ne_b48_b52 : b48 ≠ b52 := Nat.ne_of_lt (Nat.lt_of_lt_of_le V51.lt (Nat.le_of_eq g52.symm))
  have V35_h52 := V35_h51.ext E52
  have V39_h52 := V39_h51.ext E52
  have V43_h52 := V43_h51.ext E52
  have V47_h52 := V47_h51.ext E52
  have V51_h52 := V51.ext E52
  have gz_b52 : h0.size ≤ b52 := Nat.le_trans K51.1 (Nat.le_of_eq g52.symm)
  have ge_b52 : n0 ≤ b52 := Nat.le_trans Z0 gz_b52
  have K52 := K51.ext E52
  have F52_width : Fld Z h52 b52 "com/example/keen_odds/keenodds/io/GclStateSpace$Layout" "width" "I" (.int (0 : Int32)) := D52 (Or.inr (hw _ (List.mem_of_getElem? (i := 30) rfl))) (ty := .int) (by decide)
  have F52_word : Fld Z h52 b52 "com/example/keen_odds/keenodds/io/GclStateSpace$Layout" "word" "[I" .null := D52 (Or.inr (hw _ (List.mem_of_getElem? (i := 32) rfl))) (ty := (.array .int)) (by decide)
  have F52_shift : Fld Z h52 b52 "com/example/keen_odds/keenodds/io/GclStateSpace$Layout" "shift" "[I" .null := D52 (Or.inr (hw _ (List.mem_of_getElem? (i := 34) rfl))) (ty := (.array .int)) (by decide)
  have F52_mask : Fld Z h52 b52 "com/example/keen_odds/keenodds/io/GclStateSpace$Layout" "mask" "[J" .null := D52 (Or.inr (hw _ (List.mem_of_getElem? (i := 36) rfl))) (ty := (.array .long)) (by decide)
  have F52_low : Fld Z h52 b52 "com/example/keen_odds/keenodds/io/GclStateSpace$Layout" "low" "[I" .null := D52 (Or.inr (hw _ (List.mem_of_getElem? (i := 38) rfl))) (ty := (.array .int)) (by decide)
  refine own_go (fun t kt => XS.dup X52.here hx rfl (hb hby at_395) rfl rfl kt) ?_
  refine own_go (fun t kt => XS.iconst X52.here hx rfl (hb hby at_396) kt) ?_
  refine own_go (fun t kt => XS.aload X52.here hx rfl (hb hby at_397) rfl rfl kt) ?_
  refine own_go (fun t kt => XS.aload X52.here hx rfl (hb hby at_399) rfl rfl kt) ?_
  refine own_go (fun t kt => XS.aload X52.here hx rfl (hb hby at_401) rfl rfl kt) ?_
  refine own_go (g' := (mkF m 405 #[.val (.long q1), .second, .val (.int p2), .val (.long q3), .second, .val (.long q4), .second, .val (.int p5), .val (.long q6), .second, .val (.int y1), .val (.int y2), .val (.int y3), .val (.int y4), .val (.int y5), .val (.long y7), .second, .val (.long y9), .second, .val (.long y11), .second, .val (.int y12), .val (.int y13), .val (.int p2), .val (.long y15), .second, .val (.long y17), .second, .val (.long y19), .second, .val (.int y20), .val (.int y21), .val (.int y22), .val (.long y23), .second, .val (.long y24), .second, .val (.long y25), .second, .val (.long y26), .second, .val (.ref b27), .val (.ref b36), .val (.ref b40), .val (.ref b44), .val (.ref b48), .unset, .unset] [(.ref b48), (.ref b44), (.ref b40), (.ref b36), (.int (2 : Int32)), (.ref b52), (.ref b52)])) (fun t kt => XS.aload X52.here hx rfl (hb hby at_403) rfl rfl kt) ?_
  refine own_callC X52 hx hZ (W := 1) (argsL := [(.int (2 : Int32)), (.ref b36), (.ref b40), (.ref b44), (.ref b48)]) (rest := [(.ref b52)]) rfl hown (hw _ (List.mem_of_getElem? (i := 18) rfl)) (hw _ (List.mem_of_getElem? (i := 19) rfl)) (hw _ (List.mem_of_getElem? (i := 17) rfl)) (hw _ (List.mem_of_getElem? (i := 20) rfl)) (by decide) (own_ini l Z a0 hw b52 b36 b40 b44 b48 h52 n0 (Nat.le_trans Z0 K52.1) A52 F52_width F52_word F52_shift F52_mask F52_low ge_b52) (by decide) (by decide) (g := (mkF m 405 #[.val (.long q1), .second, .val (.int p2), .val (.long q3), .second, .val (.long q4), .second, .val (.int p5), .val (.long q6), .second, .val (.int y1), .val (.int y2), .val (.int y3), .val (.int y4), .val (.int y5), .val (.long y7), .second, .val (.long y9), .second, .val (.long y11), .second, .val (.int y12), .val (.int y13), .val (.int p2), .val (.long y15), .second, .val (.long y17), .second, .val (.long y19), .second, .val (.int y20), .val (.int y21), .val (.int y22), .val (.long y23), .second, .val (.long y24), .second, .val (.long y25), .second, .val (.long y26), .second, .val (.ref b27), .val (.ref b36), .val (.ref b40), .val (.ref b44), .val (.ref b48), .unset, .unset] [(.ref b48), (.ref b44), (.ref b40), (.ref b36), (.int (2 : Int32)), (.ref b52), (.ref b52)])) rfl (by rw [hml]; rfl) (lenOf own_pd3 rfl) rfl (by show 2 * 0 + _ ≤ _; exact Nat.le_of_eq rfl) (hb hby at_405) e52 N51 (by decide) (by decide) (fun v53 T53 L53 X53 N53 hq53 => ?_)
  obtain ⟨rfl, Kc53, A53, G53_width, G53_word, G53_shift, G53_mask, G53_low⟩ := hq53
  have V35_h53 := V35_h52.keep Kc53 (ninS ne_b27_b52 nin0)
  have V39_h53 := V39_h52.keep Kc53 (ninS ne_b36_b52 nin0)
  have V43_h53 := V43_h52.keep Kc53 (ninS ne_b40_b52 nin0)
  have V47_h53 := V47_h52.keep Kc53 (ninS ne_b44_b52 nin0)
  have V51_h53 := V51_h52.keep Kc53 (ninS ne_b48_b52 nin0)
  have K53 := K52.trans Kc53 (allS (Or.inr gz_b52) all0)
  show OEnds _ _ _ _ _ _ T53 (mkF m 408 #[.val (.long q1), .second, .val (.int p2), .val (.long q3), .second, .val (.long q4), .second, .val (.int p5), .val (.long q6), .second, .val (.int y1), .val (.int y2), .val (.int y3), .val (.int y4), .val (.int y5), .val (.long y7), .second, .val (.long y9), .second, .val (.long y11), .second, .val (.int y12), .val (.int y13), .val (.int p2), .val (.long y15), .second, .val (.long y17), .second, .val (.long y19), .second, .val (.int y20), .val (.int y21), .val (.int y22), .val (.long y23), .second, .val (.long y24), .second, .val (.long y25), .second, .val (.long y26), .second, .val (.ref b27), .val (.ref b36), .val (.ref b40), .val (.ref b44), .val (.ref b48), .unset, .unset] [(.ref b52)])
  refine own_go (fun t kt => XS.astore X53.here hx rfl (hb hby at_408) rfl rfl (l' := #[.val (.long q1), .second, .val (.int p2), .val (.long q3), .second, .val (.long q4), .second, .val (.int p5), .val (.long q6), .second, .val (.int y1), .val (.int y2), .val (.int y3), .val (.int y4), .val (.int y5), .val (.long y7), .second, .val (.long y9), .second, .val (.long y11), .second, .val (.int y12), .val (.int y13), .val (.int p2), .val (.long y15), .second, .val (.long y17), .second, .val (.long y19), .second, .val (.int y20), .val (.int y21), .val (.int y22), .val (.long y23), .second, .val (.long y24), .second, .val (.long y25), .second, .val (.long y26), .second, .val (.ref b27), .val (.ref b36), .val (.ref b40), .val (.ref b44), .val (.ref b48), .val (.ref b52), .unset]) rfl kt) ?_
  refine own_go (fun t kt => XS.iconst X53.here hx rfl (hb hby at_410) kt) ?_
  refine own_newarr X53 hx hZ (hw _ (List.mem_of_getElem? (i := 14) rfl)) rfl (g := (mkF m 411 #[.val (.long q1), .second, .val (.int p2), .val (.long q3), .second, .val (.long q4), .second, .val (.int p5), .val (.long q6), .second, .val (.int y1), .val (.int y2), .val (.int y3), .val (.int y4), .val (.int y5), .val (.long y7), .second, .val (.long y9), .second, .val (.long y11), .second, .val (.int y12), .val (.int y13), .val (.int p2), .val (.long y15), .second, .val (.long y17), .second, .val (.long y19), .second, .val (.int y20), .val (.int y21), .val (.int y22), .val (.long y23), .second, .val (.long y24), .second, .val (.long y25), .second, .val (.long y26), .second, .val (.ref b27), .val (.ref b36), .val (.ref b40), .val (.ref b44), .val (.ref b48), .val (.ref b52), .unset] [(.int (3 : Int32))])) rfl (hb hby at_411) rfl (by decide) (cap := 3) (by decide) (by decide) (by decide) (by decide) (fun T54 h54 b54 k54 g54 X54 e54 E54 V54 => ?_)
  show OEnds _ _ _ _ _ _ T54 (mkF m 413 #[.val (.long q1), .second, .val (.int p2), .val (.long q3), .second, .val (.long q4), .second, .val (.int p5), .val (.long q6), .second, .val (.int y1), .val (.int y2), .val (.int y3), .val (.int y4), .val (.int y5), .val (.long y7), .second, .val (.long y9), .second, .val (.long y11), .second, .val (.int y12), .val (.int y13), .val (.int p2), .val (.long y15), .second, .val (.long y17), .second, .val (.long y19), .second, .val (.int y20), .val (.int y21), .val (.int y22), .val (.long y23), .second, .val (.long y24), .second, .val (.long y25), .second, .val (.long y26), .second, .val (.ref b27), .val (.ref b36), .val (.ref b40), .val (.ref b44), .val (.ref b48), .val (.ref b52), .unset] [(.ref b54)])
  have ne_b27_b54 : b27 ≠ b54 := Nat.ne_of_lt (Nat.lt_of_lt_of_le V35_h53.lt (Nat.le_of_eq g54.symm))
  have ne_b36_b54 : b36 ≠ b54 := Nat.ne_of_lt (Nat.lt_of_lt_of_le V39_h53.lt (Nat.le_of_eq g54.symm))
  have ne_b40_b54 : b40 ≠ b54 := Nat.ne_of_lt (Nat.lt_of_lt_of_le V43_h53.lt (Nat.le_of_eq g54.symm))
  have ne_b44_b54 : b44 ≠ b54 := Nat.ne_of_lt (Nat.lt_of_lt_of_le V47_h53.lt (Nat.le_of_eq g54.symm))
  have ne_b48_b54 : b48 ≠ b54 := Nat.ne_of_lt (Nat.lt_of_lt_of_le V51_h53.lt (Nat.le_of_eq g54.symm))
  have ne_b52_b54 : b52 ≠ b54 := Nat.ne_of_lt (Nat.lt_of_lt_of_le A53.lt (Nat.le_of_eq g54.symm))
  have V35_h54 := V35_h53.ext E54
  have V39_h54 := V39_h53.ext E54
  have V43_h54 := V43_h53.ext E54
  have V47_h54 := V47_h53.ext E54
  have V51_h54 := V51_h53.ext E54
  have A53_h54 := A53.ext E54
  have G53_width_h54 := G53_width.ext E54
  have G53_word_h54 := G53_word.ext E54
  have G53_shift_h54 := G53_shift.ext E54
  have G53_mask_h54 := G53_mask.ext E54
  have G53_low_h54 := G53_low.ext E54
  have gz_b54 : h0.size ≤ b54 := Nat.le_trans K53.1 (Nat.le_of_eq g54.symm)
  have ge_b54 : n0 ≤ b54 := Nat.le_trans Z0 gz_b54
  have K54 := K53.ext E54
  replace V54 : Arv Z h54 b54 k54 .int (3 : Int32) [(.int (0 : Int32)), (.int (0 : Int32)), (.int (0 : Int32))] (.int (0 : Int32)) := V54
  refine own_go (fun t kt => XS.astore X54.here hx rfl (hb hby at_413) rfl rfl (l' := #[.val (.long q1), .second, .val (.int p2), .val (.long q3), .second, .val (.long q4), .second, .val (.int p5), .val (.long q6), .second, .val (.int y1), .val (.int y2), .val (.int y3), .val (.int y4), .val (.int y5), .val (.long y7), .second, .val (.long y9), .second, .val (.long y11), .second, .val (.int y12), .val (.int y13), .val (.int p2), .val (.long y15), .second, .val (.long y17), .second, .val (.long y19), .second, .val (.int y20), .val (.int y21), .val (.int y22), .val (.long y23), .second, .val (.long y24), .second, .val (.long y25), .second, .val (.long y26), .second, .val (.ref b27), .val (.ref b36), .val (.ref b40), .val (.ref b44), .val (.ref b48), .val (.ref b52), .val (.ref b54)]) rfl kt) ?_
  refine own_go (fun t kt => XS.aload X54.here hx rfl (hb hby at_415) rfl rfl kt) ?_
  refine own_go (fun t kt => XS.iconst X54.here hx rfl (hb hby at_417) kt) ?_
  refine own_go (fun t kt => XS.iload X54.here hx rfl (hb hby at_418) rfl kt) ?_
  refine own_go (fun t kt => XS.iconst X54.here hx rfl (hb hby at_420) kt) ?_
  refine own_go (g' := (mkF m 422 #[.val (.long q1), .second, .val (.int p2), .val (.long q3), .second, .val (.long q4), .second, .val (.int p5), .val (.long q6), .second, .val (.int y1), .val (.int y2), .val (.int y3), .val (.int y4), .val (.int y5), .val (.long y7), .second, .val (.long y9), .second, .val (.long y11), .second, .val (.int y12), .val (.int y13), .val (.int p2), .val (.long y15), .second, .val (.long y17), .second, .val (.long y19), .second, .val (.int y20), .val (.int y21), .val (.int y22), .val (.long y23), .second, .val (.long y24), .second, .val (.long y25), .second, .val (.long y26), .second, .val (.ref b27), .val (.ref b36), .val (.ref b40), .val (.ref b44), .val (.ref b48), .val (.ref b52), .val (.ref b54)] [(.int (y12 ^^^ (-1 : Int32))), (.int (0 : Int32)), (.ref b54)])) (fun t kt => XS.ixor X54.here hx rfl (hb hby at_421) rfl kt) ?_
  refine own_iastore X54 hx hZ e54 V54 ⟨by decide, by decide⟩ 0 rfl (Nat.le_of_ble_eq_true rfl) N53 ge_b54 (g := (mkF m 422 #[.val (.long q1), .second, .val (.int p2), .val (.long q3), .second, .val (.long q4), .second, .val (.int p5), .val (.long q6), .second, .val (.int y1), .val (.int y2), .val (.int y3), .val (.int y4), .val (.int y5), .val (.long y7), .second, .val (.long y9), .second, .val (.long y11), .second, .val (.int y12), .val (.int y13), .val (.int p2), .val (.long y15), .second, .val (.long y17), .second, .val (.long y19), .second, .val (.int y20), .val (.int y21), .val (.int y22), .val (.long y23), .second, .val (.long y24), .second, .val (.long y25), .second, .val (.long y26), .second, .val (.ref b27), .val (.ref b36), .val (.ref b40), .val (.ref b44), .val (.ref b48), .val (.ref b52), .val (.ref b54)] [(.int (y12 ^^^ (-1 : Int32))), (.int (0 : Int32)), (.ref b54)])) rfl rfl (hb hby at_422) (fun T55 h55 L55 X55 e55 N55 W55 V55 => ?_)
  show OEnds _ _ _ _ _ _ T55 (mkF m 423 #[.val (.long q1), .second, .val (.int p2), .val (.long q3), .second, .val (.long q4), .second, .val (.int p5), .val (.long q6), .second, .val (.int y1), .val (.int y2), .val (.int y3), .val (.int y4), .val (.int y5), .val (.long y7), .second, .val (.long y9), .second, .val (.long y11), .second, .val (.int y12), .val (.int y13), .val (.int p2), .val (.long y15), .second, .val (.long y17), .second, .val (.long y19), .second, .val (.int y20), .val (.int y21), .val (.int y22), .val (.long y23), .second, .val (.long y24), .second, .val (.long y25), .second, .val (.long y26), .second, .val (.ref b27), .val (.ref b36), .val (.ref b40), .val (.ref b44), .val (.ref b48), .val (.ref b52), .val (.ref b54)] [])
  have V35_h55 := V35_h54.other W55 ne_b27_b54
  have V39_h55 := V39_h54.other W55 ne_b36_b54
  have V43_h55 := V43_h54.other W55 ne_b40_b54
  have V47_h55 := V47_h54.other W55 ne_b44_b54
  have V51_h55 := V51_h54.other W55 ne_b48_b54
  have A53_h55 := A53_h54.wr W55
  have G53_width_h55 := G53_width_h54.other W55 (Or.inl ne_b52_b54)
  have G53_word_h55 := G53_word_h54.other W55 (Or.inl ne_b52_b54)
  have G53_shift_h55 := G53_shift_h54.other W55 (Or.inl ne_b52_b54)
  have G53_mask_h55 := G53_mask_h54.other W55 (Or.inl ne_b52_b54)
  have G53_low_h55 := G53_low_h54.other W55 (Or.inl ne_b52_b54)
  have K55 := K54.wr W55 (Or.inr gz_b54)
  replace V55 : Arv Z h55 b54 k54 .int (3 : Int32) [(.int (y12 ^^^ (-1 : Int32))), (.int (0 : Int32)), (.int (0 : Int32))] (.int (0 : Int32)) := V55
  refine own_go (fun t kt => XS.aload X55.here hx rfl (hb hby at_423) rfl rfl kt) ?_
  refine own_go (fun t kt => XS.iconst X55.here hx rfl (hb hby at_425) kt) ?_
  refine own_go (fun t kt => XS.iload X55.here hx rfl (hb hby at_426) rfl kt) ?_
  refine own_go (fun t kt => XS.iconst X55.here hx rfl (hb hby at_428) kt) ?_
  refine own_go (fun t kt => XS.ixor X55.here hx rfl (hb hby at_429) rfl kt) ?_
  refine own_iastore X55 hx hZ e55 V55 ⟨by decide, by decide⟩ 1 rfl (Nat.le_of_ble_eq_true rfl) N55 ge_b54 (g := (mkF m 430 #[.val (.long q1), .second, .val (.int p2), .val (.long q3), .second, .val (.long q4), .second, .val (.int p5), .val (.long q6), .second, .val (.int y1), .val (.int y2), .val (.int y3), .val (.int y4), .val (.int y5), .val (.long y7), .second, .val (.long y9), .second, .val (.long y11), .second, .val (.int y12), .val (.int y13), .val (.int p2), .val (.long y15), .second, .val (.long y17), .second, .val (.long y19), .second, .val (.int y20), .val (.int y21), .val (.int y22), .val (.long y23), .second, .val (.long y24), .second, .val (.long y25), .second, .val (.long y26), .second, .val (.ref b27), .val (.ref b36), .val (.ref b40), .val (.ref b44), .val (.ref b48), .val (.ref b52), .val (.ref b54)] [(.int (y13 ^^^ (-1 : Int32))), (.int (1 : Int32)), (.ref b54)])) rfl rfl (hb hby at_430) (fun T56 h56 L56 X56 e56 N56 W56 V56 => ?_)
  show OEnds _ _ _ _ _ _ T56 (mkF m 431 #[.val (.long q1), .second, .val (.int p2), .val (.long q3), .second, .val (.long q4), .second, .val (.int p5), .val (.long q6), .second, .val (.int y1), .val (.int y2), .val (.int y3), .val (.int y4), .val (.int y5), .val (.long y7), .second, .val (.long y9), .second, .val (.long y11), .second, .val (.int y12), .val (.int y13), .val (.int p2), .val (.long y15), .second, .val (.long y17), .second, .val (.long y19), .second, .val (.int y20), .val (.int y21), .val (.int y22), .val (.long y23), .second, .val (.long y24), .second, .val (.long y25), .second, .val (.long y26), .second, .val (.ref b27), .val (.ref b36), .val (.ref b40), .val (.ref b44), .val (.ref b48), .val (.ref b52), .val (.ref b54)] [])
  have V35_h56 := V35_h55.other W56 ne_b27_b54
  have V39_h56 := V39_h55.other W56 ne_b36_b54
  have V43_h56 := V43_h55.other W56 ne_b40_b54
  have V47_h56 := V47_h55.other W56 ne_b44_b54
  have V51_h56 := V51_h55.other W56 ne_b48_b54
  have A53_h56 := A53_h55.wr W56
  have G53_width_h56 := G53_width_h55.other W56 (Or.inl ne_b52_b54)
  have G53_word_h56 := G53_word_h55.other W56 (Or.inl ne_b52_b54)
  have G53_shift_h56 := G53_shift_h55.other W56 (Or.inl ne_b52_b54)
  have G53_mask_h56 := G53_mask_h55.other W56 (Or.inl ne_b52_b54)
  have G53_low_h56 := G53_low_h55.other W56 (Or.inl ne_b52_b54)
  have K56 := K55.wr W56 (Or.inr gz_b54)
  replace V56 : Arv Z h56 b54 k54 .int (3 : Int32) [(.int (y12 ^^^ (-1 : Int32))), (.int (y13 ^^^ (-1 : Int32))), (.int (0 : Int32))] (.int (0 : Int32)) := V56
  refine own_go (fun t kt => XS.aload X56.here hx rfl (hb hby at_431) rfl rfl kt) ?_
  refine own_go (fun t kt => XS.iconst X56.here hx rfl (hb hby at_433) kt) ?_
  refine own_go (g' := (mkF m 436 #[.val (.long q1), .second, .val (.int p2), .val (.long q3), .second, .val (.long q4), .second, .val (.int p5), .val (.long q6), .second, .val (.int y1), .val (.int y2), .val (.int y3), .val (.int y4), .val (.int y5), .val (.long y7), .second, .val (.long y9), .second, .val (.long y11), .second, .val (.int y12), .val (.int y13), .val (.int p2), .val (.long y15), .second, .val (.long y17), .second, .val (.long y19), .second, .val (.int y20), .val (.int y21), .val (.int y22), .val (.long y23), .second, .val (.long y24), .second, .val (.long y25), .second, .val (.long y26), .second, .val (.ref b27), .val (.ref b36), .val (.ref b40), .val (.ref b44), .val (.ref b48), .val (.ref b52), .val (.ref b54)] [(.int p2), (.int (2 : Int32)), (.ref b54)])) (fun t kt => XS.iload X56.here hx rfl (hb hby at_434) rfl kt) ?_
  refine own_go (fun t kt => XS.iconst X56.here hx rfl (hb hby at_436) kt) ?_
  refine own_go (fun t kt => XS.ixor X56.here hx rfl (hb hby at_437) rfl kt) ?_
  refine own_iastore X56 hx hZ e56 V56 ⟨by decide, by decide⟩ 2 rfl (Nat.le_of_ble_eq_true rfl) N56 ge_b54 (g := (mkF m 438 #[.val (.long q1), .second, .val (.int p2), .val (.long q3), .second, .val (.long q4), .second, .val (.int p5), .val (.long q6), .second, .val (.int y1), .val (.int y2), .val (.int y3), .val (.int y4), .val (.int y5), .val (.long y7), .second, .val (.long y9), .second, .val (.long y11), .second, .val (.int y12), .val (.int y13), .val (.int p2), .val (.long y15), .second, .val (.long y17), .second, .val (.long y19), .second, .val (.int y20), .val (.int y21), .val (.int y22), .val (.long y23), .second, .val (.long y24), .second, .val (.long y25), .second, .val (.long y26), .second, .val (.ref b27), .val (.ref b36), .val (.ref b40), .val (.ref b44), .val (.ref b48), .val (.ref b52), .val (.ref b54)] [(.int (p2 ^^^ (-1 : Int32))), (.int (2 : Int32)), (.ref b54)])) rfl rfl (hb hby at_438) (fun T57 h57 L57 X57 e57 N57 W57 V57 => ?_)
  show OEnds _ _ _ _ _ _ T57 (mkF m 439 #[.val (.long q1), .second, .val (.int p2), .val (.long q3), .second, .val (.long q4), .second, .val (.int p5), .val (.long q6), .second, .val (.int y1), .val (.int y2), .val (.int y3), .val (.int y4), .val (.int y5), .val (.long y7), .second, .val (.long y9), .second, .val (.long y11), .second, .val (.int y12), .val (.int y13), .val (.int p2), .val (.long y15), .second, .val (.long y17), .second, .val (.long y19), .second, .val (.int y20), .val (.int y21), .val (.int y22), .val (.long y23), .second, .val (.long y24), .second, .val (.long y25), .second, .val (.long y26), .second, .val (.ref b27), .val (.ref b36), .val (.ref b40), .val (.ref b44), .val (.ref b48), .val (.ref b52), .val (.ref b54)] [])
  have V35_h57 := V35_h56.other W57 ne_b27_b54
  have V39_h57 := V39_h56.other W57 ne_b36_b54
  have V43_h57 := V43_h56.other W57 ne_b40_b54
  have V47_h57 := V47_h56.other W57 ne_b44_b54
  have V51_h57 := V51_h56.other W57 ne_b48_b54
  have A53_h57 := A53_h56.wr W57
  have G53_width_h57 := G53_width_h56.other W57 (Or.inl ne_b52_b54)
  have G53_word_h57 := G53_word_h56.other W57 (Or.inl ne_b52_b54)
  have G53_shift_h57 := G53_shift_h56.other W57 (Or.inl ne_b52_b54)
  have G53_mask_h57 := G53_mask_h56.other W57 (Or.inl ne_b52_b54)
  have G53_low_h57 := G53_low_h56.other W57 (Or.inl ne_b52_b54)
  have K57 := K56.wr W57 (Or.inr gz_b54)
  replace V57 : Arv Z h57 b54 k54 .int (3 : Int32) [(.int (y12 ^^^ (-1 : Int32))), (.int (y13 ^^^ (-1 : Int32))), (.int (p2 ^^^ (-1 : Int32)))] (.int (0 : Int32)) := V57
  refine own_go (fun t kt => XS.aload X57.here hx rfl (hb hby at_439) rfl rfl kt) ?_
  refine own_go (fun t kt => XS.aload X57.here hx rfl (hb hby at_441) rfl rfl kt) ?_
  refine own_go (fun t kt => XS.iload X57.here hx rfl (hb hby at_443) rfl kt) ?_
  refine own_go (fun t kt => XS.aload X57.here hx rfl (hb hby at_445) rfl rfl kt) ?_
  refine own_callV X57 hx hZ (W := 0) (argsL := [(.ref b27), (.int y5), (.ref b54)]) (rest := []) hown (hw _ (List.mem_of_getElem? (i := 39) rfl)) (hw _ (List.mem_of_getElem? (i := 40) rfl)) (hw _ (List.mem_of_getElem? (i := 42) rfl)) (hw _ (List.mem_of_getElem? (i := 41) rfl)) (hw _ (List.mem_of_getElem? (i := 17) rfl)) (hw _ (List.mem_of_getElem? (i := 43) rfl)) (by decide) (own_unp l Z a0 hw b52 b36 b40 b44 b48 b27 b54 k36 k40 k44 k48 k27 k54 y5 y1 y4 y20 y21 y22 (y12 ^^^ (-1 : Int32)) (y13 ^^^ (-1 : Int32)) (p2 ^^^ (-1 : Int32)) y7 y9 y11 y24 y26 (List.set (List.set [(.long (q6 ^^^ (81985529216486895 : Int64))), (.long (q6 ^^^ (-1 : Int64))), (.long (q6 + (1 : Int64))), (.long (-q6)), (.long (q6 ^^^ (-1085102592571150096 : Int64))), (.long (q6 * (3 : Int64)))] ((2 : Int32) * y5).toNatClampNeg (.long y24)) (((2 : Int32) * y5) + (1 : Int32)).toNatClampNeg (.long y26)) h57 n0 (Nat.le_trans Z0 K57.1) G53_width_h57 G53_word_h57 G53_shift_h57 G53_mask_h57 G53_low_h57 V39_h57 V43_h57 V47_h57 V51_h57 V35_h57 V57 ne_b52_b54 ne_b36_b54 ne_b40_b54 ne_b44_b54 ne_b48_b54 ne_b27_b54 ge_b54 (by rcases (own_three _ _ hv_y5) with e | e | e <;> rw [e] <;> decide) (by rcases (own_three _ _ hv_y5) with e | e | e <;> rw [e] <;> rfl) (by rcases (own_three _ _ hv_y5) with e | e | e <;> rw [e] <;> decide) (by rcases (own_three _ _ hv_y5) with e | e | e <;> rw [e] <;> rfl)) A53_h57 (by decide) (by decide) (g := (mkF m 447 #[.val (.long q1), .second, .val (.int p2), .val (.long q3), .second, .val (.long q4), .second, .val (.int p5), .val (.long q6), .second, .val (.int y1), .val (.int y2), .val (.int y3), .val (.int y4), .val (.int y5), .val (.long y7), .second, .val (.long y9), .second, .val (.long y11), .second, .val (.int y12), .val (.int y13), .val (.int p2), .val (.long y15), .second, .val (.long y17), .second, .val (.long y19), .second, .val (.int y20), .val (.int y21), .val (.int y22), .val (.long y23), .second, .val (.long y24), .second, .val (.long y25), .second, .val (.long y26), .second, .val (.ref b27), .val (.ref b36), .val (.ref b40), .val (.ref b44), .val (.ref b48), .val (.ref b52), .val (.ref b54)] [(.ref b54), (.int y5), (.ref b27), (.ref b52)])) rfl (by rw [hml]; rfl) (lenOf own_pd4 rfl) rfl (by show 2 * 0 + _ ≤ _; exact Nat.le_of_eq rfl) (hb hby at_447) e57 N57 (by decide) (by decide) (fun v58 T58 L58 X58 N58 hq58 => ?_)
  obtain ⟨rfl, Kc58, V58⟩ := hq58
  have K58 := K57.trans Kc58 (allS (Or.inr gz_b54) all0)
  show OEnds _ _ _ _ _ _ T58 (mkF m 450 #[.val (.long q1), .second, .val (.int p2), .val (.long q3), .second, .val (.long q4), .second, .val (.int p5), .val (.long q6), .second, .val (.int y1), .val (.int y2), .val (.int y3), .val (.int y4), .val (.int y5), .val (.long y7), .second, .val (.long y9), .second, .val (.long y11), .second, .val (.int y12), .val (.int y13), .val (.int p2), .val (.long y15), .second, .val (.long y17), .second, .val (.long y19), .second, .val (.int y20), .val (.int y21), .val (.int y22), .val (.long y23), .second, .val (.long y24), .second, .val (.long y25), .second, .val (.long y26), .second, .val (.ref b27), .val (.ref b36), .val (.ref b40), .val (.ref b44), .val (.ref b48), .val (.ref b52), .val (.ref b54)] [])
  refine own_go (fun t kt => XS.aload X58.here hx rfl (hb hby at_450) rfl rfl kt) ?_
  refine own_go (g' := (mkF m 453 #[.val (.long q1), .second, .val (.int p2), .val (.long q3), .second, .val (.long q4), .second, .val (.int p5), .val (.long q6), .second, .val (.int y1), .val (.int y2), .val (.int y3), .val (.int y4), .val (.int y5), .val (.long y7), .second, .val (.long y9), .second, .val (.long y11), .second, .val (.int y12), .val (.int y13), .val (.int p2), .val (.long y15), .second, .val (.long y17), .second, .val (.long y19), .second, .val (.int y20), .val (.int y21), .val (.int y22), .val (.long y23), .second, .val (.long y24), .second, .val (.long y25), .second, .val (.long y26), .second, .val (.ref b27), .val (.ref b36), .val (.ref b40), .val (.ref b44), .val (.ref b48), .val (.ref b52), .val (.ref b54)] [(.int (0 : Int32)), (.ref b54)])) (fun t kt => XS.iconst X58.here hx rfl (hb hby at_452) kt) ?_
  refine own_iaload X58 hx hZ rfl V58 ⟨by decide, by decide⟩ (v := (.int (own_u y24 (0 : Int32) y7 y20))) rfl (g := (mkF m 453 #[.val (.long q1), .second, .val (.int p2), .val (.long q3), .second, .val (.long q4), .second, .val (.int p5), .val (.long q6), .second, .val (.int y1), .val (.int y2), .val (.int y3), .val (.int y4), .val (.int y5), .val (.long y7), .second, .val (.long y9), .second, .val (.long y11), .second, .val (.int y12), .val (.int y13), .val (.int p2), .val (.long y15), .second, .val (.long y17), .second, .val (.long y19), .second, .val (.int y20), .val (.int y21), .val (.int y22), .val (.long y23), .second, .val (.long y24), .second, .val (.long y25), .second, .val (.long y26), .second, .val (.ref b27), .val (.ref b36), .val (.ref b40), .val (.ref b44), .val (.ref b48), .val (.ref b52), .val (.ref b54)] [(.int (0 : Int32)), (.ref b54)])) rfl rfl (hb hby at_453) ?_
  show OEnds _ _ _ _ _ _ T58 (mkF m 454 #[.val (.long q1), .second, .val (.int p2), .val (.long q3), .second, .val (.long q4), .second, .val (.int p5), .val (.long q6), .second, .val (.int y1), .val (.int y2), .val (.int y3), .val (.int y4), .val (.int y5), .val (.long y7), .second, .val (.long y9), .second, .val (.long y11), .second, .val (.int y12), .val (.int y13), .val (.int p2), .val (.long y15), .second, .val (.long y17), .second, .val (.long y19), .second, .val (.int y20), .val (.int y21), .val (.int y22), .val (.long y23), .second, .val (.long y24), .second, .val (.long y25), .second, .val (.long y26), .second, .val (.ref b27), .val (.ref b36), .val (.ref b40), .val (.ref b44), .val (.ref b48), .val (.ref b52), .val (.ref b54)] [(.int (own_u y24 (0 : Int32) y7 y20))])
  refine own_go (fun t kt => XS.iload X58.here hx rfl (hb hby at_454) rfl kt) ?_
  refine own_go (fun t kt => XS.icmpNo X58.here hx rfl (hb hby at_456) rfl (teq (own_f0 hv_y1 hv_y7 hv_y15 hv_y20 hv_y23 hv_y24 : (own_u y24 (0 : Int32) y7 y20) = y12)).2 kt) ?_
  refine own_go (fun t kt => XS.aload X58.here hx rfl (hb hby at_459) rfl rfl kt) ?_
  refine own_go (fun t kt => XS.iconst X58.here hx rfl (hb hby at_461) kt) ?_
  refine own_iaload X58 hx hZ rfl V58 ⟨by decide, by decide⟩ (v := (.int (own_u y24 y1 y9 y21))) rfl (g := (mkF m 462 #[.val (.long q1), .second, .val (.int p2), .val (.long q3), .second, .val (.long q4), .second, .val (.int p5), .val (.long q6), .second, .val (.int y1), .val (.int y2), .val (.int y3), .val (.int y4), .val (.int y5), .val (.long y7), .second, .val (.long y9), .second, .val (.long y11), .second, .val (.int y12), .val (.int y13), .val (.int p2), .val (.long y15), .second, .val (.long y17), .second, .val (.long y19), .second, .val (.int y20), .val (.int y21), .val (.int y22), .val (.long y23), .second, .val (.long y24), .second, .val (.long y25), .second, .val (.long y26), .second, .val (.ref b27), .val (.ref b36), .val (.ref b40), .val (.ref b44), .val (.ref b48), .val (.ref b52), .val (.ref b54)] [(.int (1 : Int32)), (.ref b54)])) rfl rfl (hb hby at_462) ?_
  show OEnds _ _ _ _ _ _ T58 (mkF m 463 #[.val (.long q1), .second, .val (.int p2), .val (.long q3), .second, .val (.long q4), .second, .val (.int p5), .val (.long q6), .second, .val (.int y1), .val (.int y2), .val (.int y3), .val (.int y4), .val (.int y5), .val (.long y7), .second, .val (.long y9), .second, .val (.long y11), .second, .val (.int y12), .val (.int y13), .val (.int p2), .val (.long y15), .second, .val (.long y17), .second, .val (.long y19), .second, .val (.int y20), .val (.int y21), .val (.int y22), .val (.long y23), .second, .val (.long y24), .second, .val (.long y25), .second, .val (.long y26), .second, .val (.ref b27), .val (.ref b36), .val (.ref b40), .val (.ref b44), .val (.ref b48), .val (.ref b52), .val (.ref b54)] [(.int (own_u y24 y1 y9 y21))])
  refine own_go (fun t kt => XS.iload X58.here hx rfl (hb hby at_463) rfl kt) ?_
  refine own_go (fun t kt => XS.icmpNo X58.here hx rfl (hb hby at_465) rfl (teq (own_f1 hv_y1 hv_y2 hv_y7 hv_y9 hv_y15 hv_y17 hv_y21 hv_y23 hv_y24 : (own_u y24 y1 y9 y21) = y13)).2 kt) ?_
  refine own_go (fun t kt => XS.aload X58.here hx rfl (hb hby at_468) rfl rfl kt) ?_
  refine own_go (g' := (mkF m 471 #[.val (.long q1), .second, .val (.int p2), .val (.long q3), .second, .val (.long q4), .second, .val (.int p5), .val (.long q6), .second, .val (.int y1), .val (.int y2), .val (.int y3), .val (.int y4), .val (.int y5), .val (.long y7), .second, .val (.long y9), .second, .val (.long y11), .second, .val (.int y12), .val (.int y13), .val (.int p2), .val (.long y15), .second, .val (.long y17), .second, .val (.long y19), .second, .val (.int y20), .val (.int y21), .val (.int y22), .val (.long y23), .second, .val (.long y24), .second, .val (.long y25), .second, .val (.long y26), .second, .val (.ref b27), .val (.ref b36), .val (.ref b40), .val (.ref b44), .val (.ref b48), .val (.ref b52), .val (.ref b54)] [(.int (2 : Int32)), (.ref b54)])) (fun t kt => XS.iconst X58.here hx rfl (hb hby at_470) kt) ?_
  refine own_iaload X58 hx hZ rfl V58 ⟨by decide, by decide⟩ (v := (.int (own_u y26 y4 y11 y22))) rfl (g := (mkF m 471 #[.val (.long q1), .second, .val (.int p2), .val (.long q3), .second, .val (.long q4), .second, .val (.int p5), .val (.long q6), .second, .val (.int y1), .val (.int y2), .val (.int y3), .val (.int y4), .val (.int y5), .val (.long y7), .second, .val (.long y9), .second, .val (.long y11), .second, .val (.int y12), .val (.int y13), .val (.int p2), .val (.long y15), .second, .val (.long y17), .second, .val (.long y19), .second, .val (.int y20), .val (.int y21), .val (.int y22), .val (.long y23), .second, .val (.long y24), .second, .val (.long y25), .second, .val (.long y26), .second, .val (.ref b27), .val (.ref b36), .val (.ref b40), .val (.ref b44), .val (.ref b48), .val (.ref b52), .val (.ref b54)] [(.int (2 : Int32)), (.ref b54)])) rfl rfl (hb hby at_471) ?_
  show OEnds _ _ _ _ _ _ T58 (mkF m 472 #[.val (.long q1), .second, .val (.int p2), .val (.long q3), .second, .val (.long q4), .second, .val (.int p5), .val (.long q6), .second, .val (.int y1), .val (.int y2), .val (.int y3), .val (.int y4), .val (.int y5), .val (.long y7), .second, .val (.long y9), .second, .val (.long y11), .second, .val (.int y12), .val (.int y13), .val (.int p2), .val (.long y15), .second, .val (.long y17), .second, .val (.long y19), .second, .val (.int y20), .val (.int y21), .val (.int y22), .val (.long y23), .second, .val (.long y24), .second, .val (.long y25), .second, .val (.long y26), .second, .val (.ref b27), .val (.ref b36), .val (.ref b40), .val (.ref b44), .val (.ref b48), .val (.ref b52), .val (.ref b54)] [(.int (own_u y26 y4 y11 y22))])
  refine own_go (fun t kt => XS.iload X58.here hx rfl (hb hby at_472) rfl kt) ?_
  refine own_go (fun t kt => XS.icmpNo X58.here hx rfl (hb hby at_474) rfl (teq (own_f2 hv_y3 hv_y4 hv_y11 hv_y19 hv_y22 hv_y25 hv_y26 : (own_u y26 y4 y11 y22) = p2)).2 kt) ?_
  refine own_go (fun t kt => XS.iconst X58.here hx rfl (hb hby at_477) kt) ?_
  refine own_go (fun t kt => XS.goto X58.here hx rfl (pc0 := 478) (pc' := 482) rfl (hb hby at_478) (by decide) (by decide) kt) ?_
  exact own_retN X58 hx hlk (t := .boolean) (z' := (1 : Int32)) hret (by simp) (hb hby at_482) rfl rfl N58 (by decide) (by decide) (rfl)
set_option maxRecDepth 65536 in
set_option maxHeartbeats 40000000 in
theorem comes_1 {Post : Tables → Env → Array Value → State → Outcome → State → Prop} (hpost : ∀ tb e args s v u, (limb_1_1.after args s (.returned v) u = true ∧ limb_1_2.after args s (.returned v) u = true ∧ True) → FrameEnd s (.returned v) u (Jvm.fieldLocs frame_1_writes args s ++ Jvm.arrayLocs frame_1_arrays args s ++ Jvm.staticLocs frame_1_statics s) 24 128 → Post tb e args s (.returned v) u) :
    ArmFor flags0 classFile x code maxLocals ret World_1 tables_1 room_1 Calls_1 rest_1 Pre_1 Post := by
  intro l hfl _ _ p e ha hc hk s m args below hf hA hF happ hP
  obtain ⟨hcalls, hrest, hpre⟩ := hP
  obtain ⟨-, -, -, hnamed, -, -, -, hat⟩ := (Spec.applies_iff hf).mp happ
  obtain ⟨hg, hn⟩ := and_e (Cond.before_iff.mp (show (Jvm.Cond.and given_1 narrow_1).before args s = true from hpre))
  obtain ⟨g0, r0⟩ := and_e hg
  obtain ⟨k0, r1⟩ := and_e r0
  obtain ⟨k1, r2⟩ := and_e r1
  obtain ⟨k2, r3⟩ := and_e r2
  obtain ⟨k3, r4⟩ := and_e r3
  obtain ⟨k4, k5⟩ := and_e r4
  obtain ⟨w0, w1, w2, w3, w4, w5, rfl⟩ : ∃ w0 w1 w2 w3 w4 w5 : Value, args = #[w0, w1, w2, w3, w4, w5] := by
    have hs : args.size = 6 := by simpa [Cond.value, given_1] using g0
    obtain ⟨L⟩ := args
    match L, hs with
    | [w0, w1, w2, w3, w4, w5], _ => exact ⟨w0, w1, w2, w3, w4, w5, rfl⟩
  have hw := fun d (hd : d ∈ tables_1) => atoms_spec (ws := Jvm.Cond.code x code maxLocals ret :: tables_1) hat d (List.mem_cons_of_mem _ hd)
  have hfit : Fit s := fun {y c} hc i hi => by
    obtain ⟨ha, rfl⟩ := Array.getElem?_eq_some_iff.mp hc
    have q := List.all_eq_true.mp ((Array.all_eq_true_iff_forall_mem.mp hF) _ (Array.getElem_mem ha)) i (List.mem_range.mpr hi)
    simpa [Array.getElem?_eq_getElem hi] using q
  obtain ⟨i0, ei0⟩ := isL_v k0
  obtain rfl : w0 = (.long i0) := Option.some.inj ei0
  obtain ⟨i1, ei1⟩ := is_v k1
  obtain rfl : w1 = (.int i1) := Option.some.inj ei1
  obtain ⟨i2, ei2⟩ := isL_v k2
  obtain rfl : w2 = (.long i2) := Option.some.inj ei2
  obtain ⟨i3, ei3⟩ := isL_v k3
  obtain rfl : w3 = (.long i3) := Option.some.inj ei3
  obtain ⟨i4, ei4⟩ := is_v k4
  obtain rfl : w4 = (.int i4) := Option.some.inj ei4
  obtain ⟨i5, ei5⟩ := isL_v k5
  obtain rfl : w5 = (.long i5) := Option.some.inj ei5
  obtain ⟨n, o, h1, h2, h3, _, L, rfl, ⟨N, rfl⟩, hq⟩ := own_law l s _ hw i0 i1 i2 i3 i4 i5 s.heap s.heap.size (Nat.le_refl _)  tables_1 p e ha hc hk s m _ below hf ((Spec.applies_iff_loose hf).mp happ).1 ⟨rfl, State.Warmed39.refl s, rfl⟩ trivial
  refine ⟨n, _, h1, h2, h3, hpost _ _ _ _ _ _ ⟨Cond.after_iff.mpr rfl, Cond.after_iff.mpr (eq_i res_at (Term.int_eval (1)) rfl), trivial⟩ ⟨hq.1, hq.2.1, (hq.2.2.sift fun y hy => Or.inr (N y hy)).mono (by decide) (by decide)⟩⟩
theorem main_1_1 : Claimed_1_1 := comes_1 fun _ _ _ _ _ _ h hF => ⟨h.1, hF⟩
theorem main_1_2 : Claimed_1_2 := comes_1 fun _ _ _ _ _ _ h hF => ⟨h.2.1, hF⟩
end Jvm.Pilot.@@N@@
namespace Jvm.Pilot.@@N@@
open Jvm Jvm.ClassFile Sem Op Lib Jvm.Free Jvm.Stand Jvm.Pilot.@@N@@.Jvm.D
/-! MADE BY PROGRAM (witnessworld.py) out of the Statement's table words and the real class files: 12 classes; the members and pool entries that the words name. The judged class is class 1, her method 3. -/
namespace start1
open Jvm.ClassFile
def u (s : String) : CpInfo := .utf8 (stringToUtf16 s)
/-- a pool by its gaps: so many unusable entries, then the entry; so many at the end -/
def gap : Nat → List CpInfo → List CpInfo
  | 0, r => r
  | n + 1, r => .unusable :: gap n r
def poolList (es : List (Nat × CpInfo)) (last : Nat) : List CpInfo := es.foldr (fun e r => gap e.1 (e.2 :: r)) (gap last [])
def pool (es : List (Nat × CpInfo)) (last : Nat) : Array CpInfo := ⟨poolList es last⟩
def fileOf (pool : Array CpInfo) (this : Nat) (attrs : Array Attribute := #[]) (ms : Array MethodInfo := #[]) (fl : Nat := 33) (sup : Nat := 0) (ifs : Array Nat := #[]) (fds : Array FieldInfo := #[]) : ClassFile where
  minorVersion := 0
  majorVersion := 65
  constantPool := pool
  accessFlags := fl
  thisClass := this
  superClass := sup
  interfaces := ifs
  fields := fds
  methods := ms
  attributes := attrs
def plain (name : String) (sup : Option ClassId) : Class where
  name := name
  kind := .ordinary
  loader := none
  accessFlags := 33
  super := sup
  interfaces := #[]
  cf := none
  fields := #[]
  methods := #[]
  instanceTypes := #[]
  staticTypes := #[]
  resolved := #[]
  callSites := []
  init := .initialized
  statics := none
  mirror := none

def pool0 : Array CpInfo := pool [(5, u "<init>"), (0, u "()V"), (1, .class_ 10), (1, u "java/lang/Object")] 113

def k0c0 : Code := { maxStack := 0, maxLocals := 1, code := object_method_1_code, exceptionTable := #[], attributes := #[] }
def k0m0 : Method := { name := "<init>", desc := "()V", sig := { parameters := [], returnType := none }, accessFlags := 1, code := some k0c0 }
/-- java/lang/Object -/
def k0 : Class := { plain "java/lang/Object" none with
  accessFlags := 33
  interfaces := #[]
  cf := some (fileOf pool0 8 #[] #[{ accessFlags := 1, nameIndex := 5, descriptorIndex := 6, attributes := #[] }] 33 0 #[] #[])
  fields := #[]
  methods := #[k0m0]
  instanceTypes := #[]
  staticTypes := #[]
  resolved := Array.replicate 124 none
  statics := none }

def pool1 : Array CpInfo := pool [(2, .class_ 4), (1, u "java/lang/Object"), (0, u "<init>"), (0, u "()V"), (0, .long 18446744071562067968), (1, .long 2147483648), (1, .long 2147483647), (1, .methodref 14 15), (0, .class_ 16), (0, .nameAndType 17 18), (0, u "com/example/keen_odds/keenodds/io/LayoutUnpackPinLaw"), (0, u "maskOf"), (0, u "(I)J"), (0, .methodref 14 20), (0, .nameAndType 21 22), (0, u "offset"), (0, u "(IJJ)J"), (0, .long 18446744073709551615), (1, .long 81985529216486895), (1, .long 17361641481138401520), (1, .long 3), (1, .class_ 32), (0, u "com/example/keen_odds/keenodds/io/GclStateSpace$Layout"), (0, .methodref 31 34), (0, .nameAndType 5 35), (0, u "(I[I[I[J[I)V"), (0, .methodref 31 37), (0, .nameAndType 38 39), (0, u "unpack"), (0, u "([JI[I)V"), (3, u "law"), (0, u "(JIJJIJ)Z")] 10

def k1m0 : Method := { name := "<init>", desc := "()V", sig := { parameters := [], returnType := none }, accessFlags := 2, code := none }
def k1c1 : Code := { maxStack := 4, maxLocals := 1, code := method_2_code, exceptionTable := #[], attributes := #[] }
def k1m1 : Method := { name := "maskOf", desc := "(I)J", sig := { parameters := [.int], returnType := some .long }, accessFlags := 10, code := some k1c1 }
def k1c2 : Code := { maxStack := 4, maxLocals := 7, code := method_3_code, exceptionTable := #[], attributes := #[] }
def k1m2 : Method := { name := "offset", desc := "(IJJ)J", sig := { parameters := [.int, .long, .long], returnType := some .long }, accessFlags := 10, code := some k1c2 }
def k1c3 : Code := { maxStack := 8, maxLocals := 48, code := code, exceptionTable := #[], attributes := #[] }
def k1m3 : Method := { name := "law", desc := "(JIJJIJ)Z", sig := { parameters := [.long, .int, .long, .long, .int, .long], returnType := some .boolean }, accessFlags := 9, code := some k1c3 }
/-- com/example/keen_odds/keenodds/io/LayoutUnpackPinLaw -/
def k1 : Class := { plain "com/example/keen_odds/keenodds/io/LayoutUnpackPinLaw" (some 0) with
  accessFlags := 49
  interfaces := #[]
  cf := some (fileOf pool1 14 #[] #[{ accessFlags := 2, nameIndex := 5, descriptorIndex := 6, attributes := #[] }, { accessFlags := 10, nameIndex := 17, descriptorIndex := 18, attributes := #[] }, { accessFlags := 10, nameIndex := 21, descriptorIndex := 22, attributes := #[] }, { accessFlags := 9, nameIndex := 43, descriptorIndex := 44, attributes := #[] }] 49 2 #[] #[])
  fields := #[]
  methods := #[k1m0, k1m1, k1m2, k1m3]
  instanceTypes := #[]
  staticTypes := #[]
  resolved := Array.replicate 55 none
  statics := none }

def pool2 : Array CpInfo := pool [(1, .methodref 2 3), (0, .class_ 4), (0, .nameAndType 5 6), (0, u "java/lang/Object"), (0, u "<init>"), (0, u "()V"), (0, .class_ 8), (0, u "java/lang/Record")] 13

def k2c0 : Code := { maxStack := 1, maxLocals := 1, code := jdk_30_method_1_code, exceptionTable := #[], attributes := #[] }
def k2m0 : Method := { name := "<init>", desc := "()V", sig := { parameters := [], returnType := none }, accessFlags := 4, code := some k2c0 }
/-- java/lang/Record -/
def k2 : Class := { plain "java/lang/Record" (some 0) with
  accessFlags := 1057
  interfaces := #[]
  cf := some (fileOf pool2 7 #[] #[{ accessFlags := 4, nameIndex := 5, descriptorIndex := 6, attributes := #[] }] 1057 2 #[] #[])
  fields := #[]
  methods := #[k2m0]
  instanceTypes := #[]
  staticTypes := #[]
  resolved := Array.replicate 22 none
  statics := none }

def pool3 : Array CpInfo := pool [(1, .methodref 2 3), (0, .class_ 4), (0, .nameAndType 5 6), (0, u "java/lang/Record"), (0, u "<init>"), (0, u "()V"), (0, .fieldref 8 9), (0, .class_ 10), (0, .nameAndType 11 12), (0, u "com/example/keen_odds/keenodds/io/GclStateSpace$Layout"), (0, u "width"), (0, u "I"), (0, .fieldref 8 14), (0, .nameAndType 15 16), (0, u "word"), (0, u "[I"), (0, .fieldref 8 18), (0, .nameAndType 19 16), (0, u "shift"), (0, .fieldref 8 21), (0, .nameAndType 22 23), (0, u "mask"), (0, u "[J"), (0, .fieldref 8 25), (0, .nameAndType 26 16), (0, u "low"), (12, u "(I[I[I[J[I)V"), (7, u "unpack"), (0, u "([JI[I)V"), (8, .class_ 58), (0, u "com/example/keen_odds/keenodds/io/GclStateSpace")] 23

def k3c0 : Code := { maxStack := 2, maxLocals := 6, code := prog_44_method_1_code, exceptionTable := #[], attributes := #[] }
def k3m0 : Method := { name := "<init>", desc := "(I[I[I[J[I)V", sig := { parameters := [.int, (.array .int), (.array .int), (.array .long), (.array .int)], returnType := none }, accessFlags := 0, code := some k3c0 }
def k3c1 : Code := { maxStack := 6, maxLocals := 7, code := prog_44_method_3_code, exceptionTable := #[], attributes := #[] }
def k3m1 : Method := { name := "unpack", desc := "([JI[I)V", sig := { parameters := [(.array .long), .int, (.array .int)], returnType := none }, accessFlags := 0, code := some k3c1 }
/-- com/example/keen_odds/keenodds/io/GclStateSpace$Layout -/
def k3 : Class := { plain "com/example/keen_odds/keenodds/io/GclStateSpace$Layout" (some 2) with
  accessFlags := 48
  interfaces := #[]
  cf := some (fileOf pool3 8 #[.nestHost 57] #[{ accessFlags := 0, nameIndex := 5, descriptorIndex := 39, attributes := #[] }, { accessFlags := 0, nameIndex := 47, descriptorIndex := 48, attributes := #[] }] 48 2 #[] #[{ accessFlags := 18, nameIndex := 11, descriptorIndex := 12, attributes := #[] }, { accessFlags := 18, nameIndex := 15, descriptorIndex := 16, attributes := #[] }, { accessFlags := 18, nameIndex := 19, descriptorIndex := 16, attributes := #[] }, { accessFlags := 18, nameIndex := 22, descriptorIndex := 23, attributes := #[] }, { accessFlags := 18, nameIndex := 26, descriptorIndex := 16, attributes := #[] }])
  fields := #[{ name := "width", type := .int, accessFlags := 18, slot := 0, constantValue := 0 }, { name := "word", type := (.array .int), accessFlags := 18, slot := 1, constantValue := 0 }, { name := "shift", type := (.array .int), accessFlags := 18, slot := 2, constantValue := 0 }, { name := "mask", type := (.array .long), accessFlags := 18, slot := 3, constantValue := 0 }, { name := "low", type := (.array .int), accessFlags := 18, slot := 4, constantValue := 0 }]
  methods := #[k3m0, k3m1]
  instanceTypes := #[.int, (.array .int), (.array .int), (.array .long), (.array .int)]
  staticTypes := #[]
  resolved := Array.replicate 82 none
  statics := none }

def pool4 : Array CpInfo := pool [(1, u "java/lang/Cloneable"), (0, .class_ 1), (0, u "java/lang/Object"), (0, .class_ 3)] 3

/-- java/lang/Cloneable -/
def k4 : Class := { plain "java/lang/Cloneable" (some 0) with
  accessFlags := 1537
  interfaces := #[]
  cf := some (fileOf pool4 2 #[] #[] 1537 4 #[] #[])
  fields := #[]
  methods := #[]
  instanceTypes := #[]
  staticTypes := #[]
  resolved := Array.replicate 8 none
  statics := none }

def pool5 : Array CpInfo := pool [(1, u "java/io/Serializable"), (0, .class_ 1), (0, u "java/lang/Object"), (0, .class_ 3)] 3

/-- java/io/Serializable -/
def k5 : Class := { plain "java/io/Serializable" (some 0) with
  accessFlags := 1537
  interfaces := #[]
  cf := some (fileOf pool5 2 #[] #[] 1537 4 #[] #[])
  fields := #[]
  methods := #[]
  instanceTypes := #[]
  staticTypes := #[]
  resolved := Array.replicate 8 none
  statics := none }

/-- the primitive byte -/
def k6 : Class := { plain "byte" none with kind := .primitive 'B', accessFlags := 0x411 }
/-- [B -/
def k7 : Class := { plain "[B" (some 0) with kind := .array 6 .byte, interfaces := #[4, 5], accessFlags := 1041 }

/-- the primitive int -/
def k8 : Class := { plain "int" none with kind := .primitive 'I', accessFlags := 0x411 }
/-- [I -/
def k9 : Class := { plain "[I" (some 0) with kind := .array 8 .int, interfaces := #[4, 5], accessFlags := 1041 }

/-- the primitive long -/
def k10 : Class := { plain "long" none with kind := .primitive 'J', accessFlags := 0x411 }
/-- [J -/
def k11 : Class := { plain "[J" (some 0) with kind := .array 10 .long, interfaces := #[4, 5], accessFlags := 1041 }

def heap : Heap := #[]
def classes : Array Class := #[k0, k1, k2, k3, k4, k5, k6, k7, k8, k9, k10, k11]
def interned : List (Array UInt16 × Addr) := []
def slotsUsed : Nat := 0
def theMethod : MethodId := ⟨1, 3⟩
def args0 : Array Value := #[.long 5, .int 7, .long 9, .long 3, .int 9, .long 8]
def aboutOver (below : List Frame) : State where
  vm := { classes := classes, interned := interned.toArray }
  heap := heap
  slotsUsed := slotsUsed
  threads := #[{ frames := .invoking theMethod args0 :: below }]
def below0 : List Frame := [.native { method := ⟨0, 0⟩, args := #[] }]
def about1 : State := aboutOver below0
def p0 : Program := .bare "" "" ""
def e0 : Env := launch0.env 0 0 0
theorem w_frames : about1.frames = Frame.invoking theMethod args0 :: below0 := rfl
set_option maxRecDepth 65536 in
theorem w_args : argsFit about1.vm theMethod args0 = true := by decide +kernel
set_option maxRecDepth 65536 in
theorem w_heap : heapFits about1 = true := by decide +kernel
set_option maxRecDepth 65536 in
theorem w_runnable : about1.curStatus? = some .runnable := by decide +kernel
set_option maxRecDepth 65536 in
theorem w_alone : about1.alone = true := by decide +kernel
set_option maxRecDepth 65536 in
theorem w_named : about1.methodNamed? x = some theMethod := by decide +kernel
set_option maxRecDepth 65536 in
theorem w_hears : about1.hears theMethod below0 = true := by decide +kernel
set_option maxRecDepth 65536 in
theorem w_ripe : about1.ripe theMethod args0 below0 = true := by decide +kernel
theorem w_running : about1.status = .running := rfl
set_option maxRecDepth 65536 in
theorem w_room : about1.hasRoom e0.platform room_1 = true :=
  launch0.hasRoom_least _ room_1 (by decide +kernel) (by decide +kernel) (by decide +kernel) (by decide +kernel) (by decide +kernel) (by decide +kernel)
theorem allAtoms_all (ts : List Jvm.Cond) (a : Array Jvm.Value) (st : Jvm.State) : (allAtoms ts).before a st = ts.all (fun c => c.before a st) := by
  induction ts with
  | nil => rfl
  | cons c t ih =>
    show (Jvm.Cond.and c (allAtoms t)).before a st = _
    rw [Jvm.Cond.before_and, ih, List.all_cons]
def words1 : List Jvm.Cond := Jvm.Cond.code x code maxLocals ret :: tables_1
/-- a 'code' word, met by the world's own term for the bytes: nothing is compared byte by byte -/
theorem code_word {y : MethodName} {bytes : ByteArray} {mx : Nat} {rt : Option FieldType} {a : Array Value} {s : State} {m : MethodId} {meth : Method} {c : Code} (h1 : s.methodNamed? y = some m) (h2 : s.vm.method? m = some meth) (h3 : meth.code = some c) (h4 : c.code = bytes)
    (h5 : (c.maxLocals == mx && c.exceptionTable.isEmpty && decide (c.maxStack ≤ mostOperands) && decide (meth.sig.returnType = rt) && !meth.locks && decide (parseMethodDescriptor y.desc = some meth.sig)) = true) : (Jvm.Cond.code y bytes mx rt).before a s = true := by
  simp only [Bool.and_eq_true, beq_iff_eq, Bool.not_eq_true', decide_eq_true_eq] at h5
  obtain ⟨⟨⟨⟨⟨g1, g2⟩, g3⟩, g4⟩, g5⟩, g6⟩ := h5
  simp [Cond.before, Cond.holds, Cond.value, h1, h2, h3, h4, g1, g2, g3, g4, g5, g6]
def isCode : Jvm.Cond → Bool
  | .code _ _ _ _ => true
  | _ => false
theorem all_split {L : List Jvm.Cond} {P : Jvm.Cond → Bool} (h1 : L.all (fun c => isCode c || P c) = true) (h2 : ∀ c ∈ L.filter isCode, P c = true) : L.all P = true := by
  refine List.all_eq_true.mpr fun c hc => ?_
  have h := List.all_eq_true.mp h1 c hc
  rcases Bool.eq_false_or_eq_true (isCode c) with hi | hi
  · exact h2 c (List.mem_filter.mpr ⟨hc, hi⟩)
  · simpa [hi] using h
set_option maxRecDepth 65536 in
theorem w_c0 : (Jvm.Cond.code x code maxLocals ret).before args0 about1 = true := code_word (m := ⟨1, 3⟩) (meth := k1m3) (c := k1c3) (by decide +kernel) rfl rfl rfl (by decide +kernel)
set_option maxRecDepth 65536 in
theorem w_c1 : (Jvm.Cond.code ({ cls := "com/example/keen_odds/keenodds/io/LayoutUnpackPinLaw", name := "maskOf", desc := "(I)J" } : Jvm.MethodName) method_2_code (1 : Nat) (Option.some Jvm.ClassFile.FieldType.long)).before args0 about1 = true := code_word (m := ⟨1, 1⟩) (meth := k1m1) (c := k1c1) (by decide +kernel) rfl rfl rfl (by decide +kernel)
set_option maxRecDepth 65536 in
theorem w_c2 : (Jvm.Cond.code ({ cls := "com/example/keen_odds/keenodds/io/LayoutUnpackPinLaw", name := "offset", desc := "(IJJ)J" } : Jvm.MethodName) method_3_code (7 : Nat) (Option.some Jvm.ClassFile.FieldType.long)).before args0 about1 = true := code_word (m := ⟨1, 2⟩) (meth := k1m2) (c := k1c2) (by decide +kernel) rfl rfl rfl (by decide +kernel)
set_option maxRecDepth 65536 in
theorem w_c3 : (Jvm.Cond.code ({ cls := "com/example/keen_odds/keenodds/io/GclStateSpace$Layout", name := "<init>", desc := "(I[I[I[J[I)V" } : Jvm.MethodName) prog_44_method_1_code (6 : Nat) (Option.none : Option Jvm.ClassFile.FieldType)).before args0 about1 = true := code_word (m := ⟨3, 0⟩) (meth := k3m0) (c := k3c0) (by decide +kernel) rfl rfl rfl (by decide +kernel)
set_option maxRecDepth 65536 in
theorem w_c4 : (Jvm.Cond.code ({ cls := "java/lang/Record", name := "<init>", desc := "()V" } : Jvm.MethodName) jdk_30_method_1_code (1 : Nat) (Option.none : Option Jvm.ClassFile.FieldType)).before args0 about1 = true := code_word (m := ⟨2, 0⟩) (meth := k2m0) (c := k2c0) (by decide +kernel) rfl rfl rfl (by decide +kernel)
set_option maxRecDepth 65536 in
theorem w_c5 : (Jvm.Cond.code ({ cls := "java/lang/Object", name := "<init>", desc := "()V" } : Jvm.MethodName) object_method_1_code (1 : Nat) (Option.none : Option Jvm.ClassFile.FieldType)).before args0 about1 = true := code_word (m := ⟨0, 0⟩) (meth := k0m0) (c := k0c0) (by decide +kernel) rfl rfl rfl (by decide +kernel)
set_option maxRecDepth 65536 in
theorem w_c6 : (Jvm.Cond.code ({ cls := "com/example/keen_odds/keenodds/io/GclStateSpace$Layout", name := "unpack", desc := "([JI[I)V" } : Jvm.MethodName) prog_44_method_3_code (7 : Nat) (Option.none : Option Jvm.ClassFile.FieldType)).before args0 about1 = true := code_word (m := ⟨3, 1⟩) (meth := k3m1) (c := k3c1) (by decide +kernel) rfl rfl rfl (by decide +kernel)
def codes1 : List Jvm.Cond := [Jvm.Cond.code x code maxLocals ret, Jvm.Cond.code ({ cls := "com/example/keen_odds/keenodds/io/LayoutUnpackPinLaw", name := "maskOf", desc := "(I)J" } : Jvm.MethodName) method_2_code (1 : Nat) (Option.some Jvm.ClassFile.FieldType.long), Jvm.Cond.code ({ cls := "com/example/keen_odds/keenodds/io/LayoutUnpackPinLaw", name := "offset", desc := "(IJJ)J" } : Jvm.MethodName) method_3_code (7 : Nat) (Option.some Jvm.ClassFile.FieldType.long), Jvm.Cond.code ({ cls := "com/example/keen_odds/keenodds/io/GclStateSpace$Layout", name := "<init>", desc := "(I[I[I[J[I)V" } : Jvm.MethodName) prog_44_method_1_code (6 : Nat) (Option.none : Option Jvm.ClassFile.FieldType), Jvm.Cond.code ({ cls := "java/lang/Record", name := "<init>", desc := "()V" } : Jvm.MethodName) jdk_30_method_1_code (1 : Nat) (Option.none : Option Jvm.ClassFile.FieldType), Jvm.Cond.code ({ cls := "java/lang/Object", name := "<init>", desc := "()V" } : Jvm.MethodName) object_method_1_code (1 : Nat) (Option.none : Option Jvm.ClassFile.FieldType), Jvm.Cond.code ({ cls := "com/example/keen_odds/keenodds/io/GclStateSpace$Layout", name := "unpack", desc := "([JI[I)V" } : Jvm.MethodName) prog_44_method_3_code (7 : Nat) (Option.none : Option Jvm.ClassFile.FieldType)]
set_option maxRecDepth 65536 in
theorem codes_eq : words1.filter isCode = codes1 := rfl
theorem w_codes : ∀ c ∈ words1.filter isCode, c.before args0 about1 = true := by
  rw [codes_eq]
  intro c hc
  simp only [codes1, List.mem_cons, List.not_mem_nil, or_false] at hc
  rcases hc with rfl | rfl | rfl | rfl | rfl | rfl | rfl
  · exact w_c0
  · exact w_c1
  · exact w_c2
  · exact w_c3
  · exact w_c4
  · exact w_c5
  · exact w_c6
set_option maxRecDepth 65536 in
theorem w_t1 : (words1.take 24).all (fun c => isCode c || c.before args0 about1) = true := by decide +kernel
set_option maxRecDepth 65536 in
theorem w_t2 : (words1.drop 24).all (fun c => isCode c || c.before args0 about1) = true := by decide +kernel
theorem w_tables : (allAtoms (Jvm.Cond.code x code maxLocals ret :: tables_1)).before args0 about1 = true := by
  rw [allAtoms_all]
  show words1.all (fun c => c.before args0 about1) = true
  refine all_split ?_ w_codes
  rw [← List.take_append_drop 24 words1, List.all_append, w_t1, w_t2]
  rfl
set_option maxRecDepth 65536 in
theorem w_case : (Jvm.Cond.and given_1 narrow_1).before args0 about1 = true := by decide +kernel
theorem w_applies : (headSpec (Jvm.Cond.code x code maxLocals ret :: tables_1) room_1).applies x e0.platform about1 = true :=
  (Spec.applies_iff w_frames).mpr ⟨w_running, w_runnable, w_alone, w_named, w_hears, w_ripe, w_room, w_tables⟩
theorem atStart : AtStart classFile x code maxLocals ret World_1 tables_1 room_1 Calls_1 rest_1 Pre_1 launch0 p0 e0 about1 theMethod args0 below0 :=
  ⟨lists_1, trivial, launch0.admits_env _ _ _, launch0.least_env, fairChoices_fair.cas, fairChoices_fair.clock, w_frames, w_args, w_heap, w_applies, trivial, trivial, w_case⟩
end start1
theorem witness_1 : WitnessClaimed_1 := ⟨start1.p0, start1.e0, start1.about1, start1.theMethod, start1.args0, start1.below0, start1.atStart⟩
end Jvm.Pilot.@@N@@
