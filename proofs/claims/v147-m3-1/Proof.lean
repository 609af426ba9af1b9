import JvmDerived
import JvmDerived.Pilot.@@N@@Statement
import JvmDerived.Pilot.@@N@@Code
set_option linter.unusedVariables false
set_option linter.unusedSimpArgs false
namespace Jvm.Pilot.@@N@@
open Jvm Jvm.ClassFile Sem Op Lib Jvm.Free Jvm.Stand Jvm.LawKit Jvm.RoadKit Bundle Jvm.Pilot.@@N@@.Jvm.D
section Own
variable {p : Program} {l : Launch} {e : Env} {R : Room} {s : State} {m : MethodId} {args : Array Value} {below : List Frame} {meth : Method} {c : Code} {T T' : State} {locs : List Loc} {cells slots : Nat} {g g' : JFrame} {C S n0 : Nat} {F : Outcome → State → List Loc → Prop} {Q : Option Value → Heap → Prop} {Z : State} {a0 : Array Value} {h h' h0 : Heap} {rest argsL : List Value} {own : String} {index : Nat} {a b : Addr} {k : ClassId} {ty : FieldType} {n j : Int32} {vs : List Value} {dv v : Value}
/-- from here the run comes to its return, and what it leaves is Q -/
def OEnds (p : Program) (e : Env) (below : List Frame) (F : Outcome → State → List Loc → Prop) (n0 : Nat) (Q : Option Value → Heap → Prop) (T : State) (g : JFrame) : Prop :=
  ∃ t o, Steps p.tables e below (T.setTop g) t ∧ t.status = .running ∧ Ended t below o ∧ ∃ v L, o = .returned v ∧ (Fr n0 L ∧ Q v t.heap) ∧ F o t L
/-- a body's contract -/
def OCon (l : Launch) (y : MethodName) (bytes : ByteArray) (ml : Nat) (ret : Option FieldType) (rm : Room) (Z : State) (as : Array Value) (h0 : Heap) (n0 : Nat) (Q : Option Value → Heap → Prop) : Prop :=
  ∀ ws, MetFree l y (head1 (Jvm.Cond.code y bytes ml ret :: ws) rm) (fun a U => a = as ∧ Z.Warmed39 U.vm ∧ U.heap = h0) (fun _ _ _ _ _ => True) (fun _ U o U' => ∃ v L, o = .returned v ∧ (Fr n0 L ∧ Q v U'.heap) ∧ FrameEnd U o U' L rm.cells rm.slots)
theorem own_body {y : MethodName} {bytes : ByteArray} {ml : Nat} {ret : Option FieldType} {rm : Room} {as : Array Value} (hp : plainFor y = true)
    (kk : ∀ (p : Program) (e : Env) (s : State) (m : MethodId) (below : List Frame) (meth : Method) (c : Code) (T : State), p.tables.exec = Jvm.exec → Z.Warmed39 s.vm → c.code = bytes → c.maxLocals = ml → s.vm.findClass y.cls = some m.cls → meth.name = y.name → meth.sig.returnType = ret → meth.locks = false → T.heap = h0 →
      Stand p l e rm s m as below meth c T [] 0 0 → OEnds p e below (fun o t L => FrameEnd s o t L rm.cells rm.slots) n0 Q T (entryFrame m as ml)) : OCon l y bytes ml ret rm Z as h0 n0 Q := by
  intro ws
  refine MetFree.of_bodySF hp hisR ?_
  intro p e s m args below meth c s₁ Bd hml0 hP hK
  obtain ⟨rfl, hZ, hh⟩ := hP
  exact kk p e s m below meth c s₁ Bd.exec hZ Bd.bytes hml0 (findClass_of_methodNamed Bd.named) (name_of_methodNamed Bd.named Bd.method).1 Bd.returns Bd.notSynchronized (by rw [← hh, Bd.state]; rfl) (Stand.of_body Bd)
theorem own_go (kk : ∀ t, Steps p.tables e below (T'.setTop g') t → Steps p.tables e below (T.setTop g) t) (hE : OEnds p e below F n0 Q T' g') : OEnds p e below F n0 Q T g := by
  obtain ⟨t, o, h1, h2⟩ := hE
  exact ⟨t, o, kk t h1, h2⟩
theorem own_at (q : g = g') (hE : OEnds p e below F n0 Q T g') : OEnds p e below F n0 Q T g := q ▸ hE
theorem own_let {α : Sort _} {P : α → Prop} (a : α) (hh : ∀ x, x = a → P x) : P a := hh a rfl
theorem own_cast {α : Sort _} {P : α → Prop} {a b : α} (q : a = b) (hh : P b) : P a := q ▸ hh
theorem own_fin (X : Stand p l e R s m args below meth c T locs cells slots) (hlk : meth.locks = false) {v : Option Value} (hv : meth.sig.returnType = none → v = none)
    (st : ∀ fs, (∀ (f : JFrame) (acts : List Action), f.method = m → f.locked = none → f.entered = [] → (doReturn e (T.setTop f) acts v).1 = T.setFrames fs) → Steps p.tables e below (T.setTop g) (T.setFrames fs))
    (N : Fr n0 locs) (hc : cells ≤ C) (hs : slots ≤ S) (q : Q v T.heap) : OEnds p e below (fun o t L => FrameEnd s o t L C S) n0 Q T g := by
  obtain ⟨fs, hr, hrun, hended, hW, hsame⟩ := X.leave (v := v) hv hlk
  exact ⟨_, _, st fs hr, hrun, hended, _, _, rfl, ⟨N, q⟩, ⟨_, rfl⟩, hW, hsame.mono hc hs⟩
theorem own_retI0 (X : Stand p l e R s m args below meth c T locs cells slots) (hx : p.tables.exec = Jvm.exec) {pc : Nat} {Ls : Array Slot} {z : Int32} {rest : List Value} (hret : meth.sig.returnType = some .int) (hd : decode c.code pc = .ok (.ireturn, 1)) {fs : List Frame}
    (hl : ∀ (f : JFrame) (acts : List Action), f.method = m → f.locked = none → f.entered = [] → (doReturn e (T.setTop f) acts (some (.int z))).1 = T.setFrames fs) : Steps p.tables e below (T.setTop (mkF m pc Ls (.int z :: rest))) (T.setFrames fs) := by
  have hm' : T.vm.method? m = some meth := X.method'
  have hn : narrow .int (.int z) = .int z := rfl
  show Steps p.tables e below (T.setTop { method := m, pc := pc, locals := Ls, stack := _ :: rest, locked := none }) _
  jvm_step X.here [X.here.top, hx, hd, hm', hret, hn]
  first | (intro acts; rw [hl _ acts rfl rfl rfl]) | rw [hl _ _ rfl rfl rfl]
  exact Steps.refl _
theorem own_retI (X : Stand p l e R s m args below meth c T locs cells slots) (hx : p.tables.exec = Jvm.exec) (hlk : meth.locks = false) {pc : Nat} {Ls : Array Slot} {z : Int32} (hret : meth.sig.returnType = some .int) (hd : decode c.code pc = .ok (.ireturn, 1)) (eT : T.heap = h) (N : Fr n0 locs) (hc : cells ≤ C) (hs : slots ≤ S) (q : Q (some (.int z)) h) : OEnds p e below (fun o t L => FrameEnd s o t L C S) n0 Q T (mkF m pc Ls (.int z :: rest)) :=
  own_fin X hlk (fun hn => by rw [hret] at hn; cases hn) (fun fs hl => own_retI0 X hx hret hd hl) N hc hs (eT ▸ q)
theorem own_retN (X : Stand p l e R s m args below meth c T locs cells slots) (hx : p.tables.exec = Jvm.exec) (hlk : meth.locks = false) {t : FieldType} {pc : Nat} {Ls : Array Slot} {z z' : Int32} (hret : meth.sig.returnType = some t) (ht : t = .boolean ∨ t = .byte ∨ t = .char ∨ t = .short) (hd : decode c.code pc = .ok (.ireturn, 1)) (hz : nar t z = z') (eT : T.heap = h) (N : Fr n0 locs) (hc : cells ≤ C) (hs : slots ≤ S) (q : Q (some (.int z')) h) : OEnds p e below (fun o t L => FrameEnd s o t L C S) n0 Q T (mkF m pc Ls (.int z :: rest)) :=
  own_fin X hlk (v := some (.int (nar t z))) (fun hn => by rw [hret] at hn; cases hn) (fun fs hl => retN X hx hret ht hd hl) N hc hs (by rw [hz, eT]; exact q)
theorem own_retJ (X : Stand p l e R s m args below meth c T locs cells slots) (hx : p.tables.exec = Jvm.exec) (hlk : meth.locks = false) {pc : Nat} {Ls : Array Slot} {z : Int64} (hret : meth.sig.returnType = some .long) (hd : decode c.code pc = .ok (.lreturn, 1)) (eT : T.heap = h) (N : Fr n0 locs) (hc : cells ≤ C) (hs : slots ≤ S) (q : Q (some (.long z)) h) : OEnds p e below (fun o t L => FrameEnd s o t L C S) n0 Q T (mkF m pc Ls [.long z]) :=
  own_fin X hlk (fun hn => by rw [hret] at hn; cases hn) (fun fs hl => X.lreturnOut hx hret hd hl) N hc hs (eT ▸ q)
theorem own_retA (X : Stand p l e R s m args below meth c T locs cells slots) (hx : p.tables.exec = Jvm.exec) (hlk : meth.locks = false) {t : FieldType} {pc : Nat} {Ls : Array Slot} {w : Value} (hw : w.isRef = true) (hret : meth.sig.returnType = some t) (ht : t.isReference = true) (hd : decode c.code pc = .ok (.areturn, 1)) (eT : T.heap = h) (N : Fr n0 locs) (hc : cells ≤ C) (hs : slots ≤ S) (q : Q (some w) h) : OEnds p e below (fun o t L => FrameEnd s o t L C S) n0 Q T (mkF m pc Ls [w]) :=
  own_fin X hlk (fun hn => by rw [hret] at hn; cases hn) (fun fs hl => X.areturnOut hx hw hret ht hd hl) N hc hs (eT ▸ q)
theorem own_retV (X : Stand p l e R s m args below meth c T locs cells slots) (hx : p.tables.exec = Jvm.exec) (hlk : meth.locks = false) {pc : Nat} {Ls : Array Slot} (hret : meth.sig.returnType = none) (hd : decode c.code pc = .ok (.return_, 1)) (eT : T.heap = h) (N : Fr n0 locs) (hc : cells ≤ C) (hs : slots ≤ S) (q : Q none h) : OEnds p e below (fun o t L => FrameEnd s o t L C S) n0 Q T (mkF m pc Ls []) :=
  own_fin X hlk (fun _ => rfl) (fun fs hl => X.returnOut hx hret hd hl) N hc hs (eT ▸ q)
/-! calls -/
theorem own_callS (X : Stand p l e R s m args below meth c T locs cells slots) (hx : p.tables.exec = Jvm.exec) (hZ : Z.Warmed39 s.vm) {y : MethodName} {bytes : ByteArray} {maxL W : Nat} {ret : Option FieldType} {rm : Room} {Qc : Option Value → Heap → Prop} (hown : s.vm.findClass own = some m.cls)
    (w1 : (Cond.methodLink own index y).before a0 Z = true) (w2 : (Cond.static y).before a0 Z = true) (w3 : (Cond.initialized y.cls).before a0 Z = true) (w4 : (Cond.code y bytes maxL ret).before a0 Z = true) (hy : y.cls ≠ "java/lang/invoke/MethodHandle" ∧ y.cls ≠ "java/lang/invoke/VarHandle")
    (K : OCon l y bytes maxL ret rm Z argsL.toArray h n0 Qc) (hfr : rm.frames + 1 ≤ R.frames) (hlo : W + (maxL + 11) + rm.locals ≤ R.locals) (hg : g.method = m) (hsize : g.locals.size = c.maxLocals) (hlen : ∀ sig, parseMethodDescriptor y.desc = some sig → argsL.length = sig.parameters.length)
    (hstack : g.stack = argsL.reverse ++ rest) (hW : 2 * g.monitorRoom + (rest.map fun v => v.category).sum ≤ W) (hd : decode c.code g.pc = .ok (.invokestatic index, 3)) (eT : T.heap = h) (N : Fr n0 locs) (hc : cells + rm.cells ≤ R.cells) (hs : slots + rm.slots ≤ R.slots)
    (kk : ∀ (v : Option Value) (T' : State) (locs' : List Loc), Stand p l e R s m args below meth c T' locs' (cells + rm.cells) (slots + rm.slots) → Fr n0 locs' → Qc v T'.heap → OEnds p e below F n0 Q T' { g with pc := g.pc + 3, stack := v.toList ++ rest }) : OEnds p e below F n0 Q T g := by
  obtain ⟨v, vm₁, ⟨T', L', k', n'⟩, -, X', ⟨Lc, ⟨N', hQ⟩, l', y', z'⟩, st⟩ := Jvm.LawKit.callS X hx hown (mvT hZ w1) (mvT hZ w2) (mvT hZ w3) (mvT hZ w4) hy (backOf (W := W) (Q := fun v h L => Fr n0 L ∧ Qc v h) (K []) hZ w4 w3 hfr hlo) hg hsize hlen hstack hW hd (fun _ _ => ⟨rfl, eT, hc, hs⟩)
  dsimp only [Pt.U, Pt.locs, Pt.cells, Pt.slots] at X' l' y' z' st hQ
  subst l' y' z'
  exact own_go st (kk v T' _ X' (Fr.app N N') hQ)
theorem own_callC (X : Stand p l e R s m args below meth c T locs cells slots) (hx : p.tables.exec = Jvm.exec) (hZ : Z.Warmed39 s.vm) {y : MethodName} {bytes : ByteArray} {maxL W : Nat} {rm : Room} {Qc : Option Value → Heap → Prop} (hy1 : y.name = "<init>") (hown : s.vm.findClass own = some m.cls)
    (w1 : (Cond.methodLink own index y).before a0 Z = true) (w2 : (Cond.instanceMethod y).before a0 Z = true) (w3 : (Cond.initialized y.cls).before a0 Z = true) (w4 : (Cond.code y bytes maxL none).before a0 Z = true) (hy : y.cls ≠ "java/lang/invoke/MethodHandle" ∧ y.cls ≠ "java/lang/invoke/VarHandle")
    (K : OCon l y bytes maxL none rm Z (.ref a :: argsL).toArray h n0 Qc) (hfr : rm.frames + 1 ≤ R.frames) (hlo : W + (maxL + 11) + rm.locals ≤ R.locals) (hg : g.method = m) (hsize : g.locals.size = c.maxLocals) (hlen : ∀ sig, parseMethodDescriptor y.desc = some sig → argsL.length = sig.parameters.length)
    (hstack : g.stack = argsL.reverse ++ .ref a :: rest) (hW : 2 * g.monitorRoom + (rest.map fun v => v.category).sum ≤ W) (hd : decode c.code g.pc = .ok (.invokespecial index, 3)) (eT : T.heap = h) (N : Fr n0 locs) (hc : cells + rm.cells ≤ R.cells) (hs : slots + rm.slots ≤ R.slots)
    (kk : ∀ (v : Option Value) (T' : State) (locs' : List Loc), Stand p l e R s m args below meth c T' locs' (cells + rm.cells) (slots + rm.slots) → Fr n0 locs' → Qc v T'.heap → OEnds p e below F n0 Q T' { g with pc := g.pc + 3, stack := v.toList ++ rest }) : OEnds p e below F n0 Q T g := by
  obtain ⟨v, vm₁, ⟨T', L', k', n'⟩, -, X', ⟨Lc, ⟨N', hQ⟩, l', y', z'⟩, st⟩ := X.specialBack hx hy1 hown (mvT hZ w1) (mvT hZ w2) (mvT hZ w4) hy (backOf (W := W) (Q := fun v h L => Fr n0 L ∧ Qc v h) (K []) hZ w4 w3 hfr hlo) hg hsize (Steps.refl _) hlen hstack hW hd (fun _ _ => ⟨rfl, eT, hc, hs⟩)
  dsimp only [Pt.U, Pt.locs, Pt.cells, Pt.slots] at X' l' y' z' st hQ
  subst l' y' z'
  exact own_go (fun t kt => st.trans kt) (kk v T' _ X' (Fr.app N N') hQ)
theorem own_callV (X : Stand p l e R s m args below meth c T locs cells slots) (hx : p.tables.exec = Jvm.exec) (hZ : Z.Warmed39 s.vm) {y : MethodName} {bytes : ByteArray} {maxL W : Nat} {ret : Option FieldType} {rm : Room} {Qc : Option Value → Heap → Prop} {C0 : String} (hown : s.vm.findClass own = some m.cls)
    (w1 : (Cond.methodLink own index y).before a0 Z = true) (wd : (Cond.declares y).before a0 Z = true) (ws : (Cond.selects C0 y y).before a0 Z = true) (w2 : (Cond.instanceMethod y).before a0 Z = true) (w3 : (Cond.initialized y.cls).before a0 Z = true) (w4 : (Cond.code y bytes maxL ret).before a0 Z = true) (hy : y.cls ≠ "java/lang/invoke/MethodHandle" ∧ y.cls ≠ "java/lang/invoke/VarHandle")
    (K : OCon l y bytes maxL ret rm Z (.ref a :: argsL).toArray h n0 Qc) (E : Exa Z h a C0) (hfr : rm.frames + 1 ≤ R.frames) (hlo : W + (maxL + 11) + rm.locals ≤ R.locals) (hg : g.method = m) (hsize : g.locals.size = c.maxLocals) (hlen : ∀ sig, parseMethodDescriptor y.desc = some sig → argsL.length = sig.parameters.length)
    (hstack : g.stack = argsL.reverse ++ .ref a :: rest) (hW : 2 * g.monitorRoom + (rest.map fun v => v.category).sum ≤ W) (hd : decode c.code g.pc = .ok (.invokevirtual index, 3)) (eT : T.heap = h) (N : Fr n0 locs) (hc : cells + rm.cells ≤ R.cells) (hs : slots + rm.slots ≤ R.slots)
    (kk : ∀ (v : Option Value) (T' : State) (locs' : List Loc), Stand p l e R s m args below meth c T' locs' (cells + rm.cells) (slots + rm.slots) → Fr n0 locs' → Qc v T'.heap → OEnds p e below F n0 Q T' { g with pc := g.pc + 3, stack := v.toList ++ rest }) : OEnds p e below F n0 Q T g := by
  obtain ⟨cq, kq, qa, qb, qc⟩ := isOf hZ eT E
  obtain ⟨v, vm₁, ⟨T', L', k', n'⟩, -, X', ⟨Lc, ⟨N', hQ⟩, l', y', z'⟩, st⟩ := X.virtualBack hx hown (mvT hZ w1) (mvT hZ wd) (notFace_of_selects (args := #[]) (mvT hZ ws)) (mvT hZ ws) (mvT hZ w2) hy (backOf (W := W) (Q := fun v h L => Fr n0 L ∧ Qc v h) (K []) hZ w4 w3 hfr hlo) qa qc hg hsize (Steps.refl _) hlen hstack hW hd (fun _ _ => ⟨rfl, eT, hc, hs⟩)
  dsimp only [Pt.U, Pt.locs, Pt.cells, Pt.slots] at X' l' y' z' st hQ
  subst l' y' z'
  exact own_go (fun t kt => st.trans kt) (kk v T' _ X' (Fr.app N N') hQ)
/-! fields -/
theorem own_getF (X : Stand p l e R s m args below meth c T locs cells slots) (hx : p.tables.exec = Jvm.exec) (hZ : Z.Warmed39 s.vm) {O nm d : String} (hown : s.vm.findClass own = some m.cls) (w : (Cond.fieldLink own index O nm d).before a0 Z = true) (eT : T.heap = h) (Fv : Fld Z h a O nm d v) (hg : g.method = m) (hs : g.stack = .ref a :: rest) (hd : decode c.code g.pc = .ok (.getfield index, 3))
    (kk : ∀ T', Stand p l e R s m args below meth c T' locs cells slots → T'.heap = h → OEnds p e below F n0 Q T' { g with pc := g.pc + 3, stack := v :: rest }) : OEnds p e below F n0 Q T g := by
  obtain ⟨T', X', e', st⟩ := getF X hx hZ hown (host := "") (Or.inl w) Via.refl eT Fv hg hs hd
  exact own_go st (kk T' X' e')
theorem own_putF (X : Stand p l e R s m args below meth c T locs cells slots) (hx : p.tables.exec = Jvm.exec) (hZ : Z.Warmed39 s.vm) {O nm d C0 : String} {kk0 : Nat} {v' old : Value} (hown : s.vm.findClass own = some m.cls) (w : (Cond.fieldLink own index O nm d).before a0 Z = true) (eT : T.heap = h) (Fv : Fld Z h a O nm d old) (E : Exa Z h a C0)
    (L : (Cond.lays C0 O nm d).before a0 Z = true ∨ ((Cond.laysFinal C0 O nm d).before a0 Z = true ∧ own = O ∧ meth.name = "<init>")) (wi : (Cond.instantiable C0 kk0).before a0 Z = true) (hty : parseFieldDescriptor d = some ty) (hn : narrow ty v = v') (hf : fits ty v' = true) (N : Fr n0 locs) (ga : n0 ≤ a) (hg : g.method = m) (hs : g.stack = v :: .ref a :: rest) (hd : decode c.code g.pc = .ok (.putfield index, 3))
    (kk : ∀ T' h' locs', Stand p l e R s m args below meth c T' locs' cells slots → T'.heap = h' → Fr n0 locs' → Wr h h' a (RoadKit.slotOf Z O nm d) v' → Fld Z h' a O nm d v' → OEnds p e below F n0 Q T' { g with pc := g.pc + 3, stack := rest }) : OEnds p e below F n0 Q T g := by
  obtain ⟨T', h', X', e', W', st⟩ := putFN X hx hZ hown w Via.refl eT Fv E L wi hty hn hf hg hs hd
  exact own_go st (kk T' h' _ X' e' (Fr.snoc X' N ga) W' (Fv.same W'))
theorem own_initO (X : Stand p l e R s m args below meth c T locs cells slots) (hx : p.tables.exec = Jvm.exec) (hZ : Z.Warmed39 s.vm) {W : Nat} (hown : s.vm.findClass own = some m.cls) (w1 : (Cond.methodLink own index Lib.objectInit).before a0 Z = true) (w2 : (Cond.instanceMethod Lib.objectInit).before a0 Z = true)
    (w3 : (Cond.code Lib.objectInit ⟨#[0xb1]⟩ 1 none).before a0 Z = true) (eT : T.heap = h) (hg : g.method = m) (hsize : g.locals.size = c.maxLocals) (hs : g.stack = .ref a :: rest) (hd : decode c.code g.pc = .ok (.invokespecial index, 3)) (hf : 1 ≤ R.frames) (hW : 2 * g.monitorRoom + (rest.map fun v => v.category).sum ≤ W) (hl : W + 12 ≤ R.locals)
    (kk : ∀ T', Stand p l e R s m args below meth c T' locs cells slots → T'.heap = h → OEnds p e below F n0 Q T' { g with pc := g.pc + 3, stack := rest }) : OEnds p e below F n0 Q T g := by
  obtain ⟨T', X', e', st⟩ := initO X hx hZ hown w1 w2 w3 eT hg hsize hs hd hf hW hl
  exact own_go st (kk T' X' e')
theorem own_new (X : Stand p l e R s m args below meth c T locs cells slots) (hx : p.tables.exec = Jvm.exec) (hZ : Z.Warmed39 s.vm) {C0 : String} {sl : Nat} (hown : s.vm.findClass own = some m.cls) (w : (Cond.classLink own index C0).before a0 Z = true) (wi : (Cond.instantiable C0 sl).before a0 Z = true) (wz : (Cond.initialized C0).before a0 Z = true) (eT : T.heap = h) (hg : g.method = m) (hd : decode c.code g.pc = .ok (.new index, 3)) (hc : cells + 1 ≤ R.cells) (hl : slots + sl ≤ R.slots)
    (kk : ∀ T' h' b, b = h.size → Stand p l e R s m args below meth c T' locs (cells + 1) (slots + sl) → T'.heap = h' → Ext h h' → Exa Z h' b C0 → (∀ {O nm d : String} {ty : FieldType}, Laid Z a0 C0 O nm d → parseFieldDescriptor d = some ty → Fld Z h' b O nm d (defaultValue ty)) → OEnds p e below F n0 Q T' { g with pc := g.pc + 3, stack := .ref b :: g.stack }) : OEnds p e below F n0 Q T g := by
  obtain ⟨T', h', X', e', E', A', D', -, st⟩ := newO X hx hZ hown w wi wz eT hg hd hc hl
  exact own_go st (kk T' h' _ rfl X' e' E' A' D')
/-! arrays -/
theorem own_newarr (X : Stand p l e R s m args below meth c T locs cells slots) (hx : p.tables.exec = Jvm.exec) (hZ : Z.Warmed39 s.vm) {aty : ArrayType} (w : (Cond.arrayClass (newarray.typeOf aty)).before a0 Z = true) (eT : T.heap = h) (hg : g.method = m) (hd : decode c.code g.pc = .ok (.newarray aty, 2)) (hs : g.stack = .int n :: rest) (hn : ¬ n < 0) {cap : Nat} (hcap : n.toNatClampNeg ≤ cap) (hb : cap * 8 ≤ 536870912) (hc : cells + 1 ≤ R.cells) (hl : slots + cap ≤ R.slots)
    (kk : ∀ T' h' b k, b = h.size → Stand p l e R s m args below meth c T' locs (cells + 1) (slots + cap) → T'.heap = h' → Ext h h' → Arv Z h' b k (newarray.typeOf aty) n (List.replicate cap (defaultValue (newarray.typeOf aty))) (defaultValue (newarray.typeOf aty)) → OEnds p e below F n0 Q T' { g with pc := g.pc + 2, stack := .ref b :: rest }) : OEnds p e below F n0 Q T g := by
  obtain ⟨T', h', kA, X', e', E', A', st⟩ := newP X hx hZ w eT hg hd hs hn hcap hb hc hl
  exact own_go st (kk T' h' _ kA rfl X' e' E' ((Arv.new A' hn).pad (pad_rep [] _ cap)))
theorem own_alen (X : Stand p l e R s m args below meth c T locs cells slots) (hx : p.tables.exec = Jvm.exec) (hZ : Z.Warmed39 s.vm) (eT : T.heap = h) (V : Arv Z h a k ty n vs dv) (hg : g.method = m) (hs : g.stack = .ref a :: rest) (hd : decode c.code g.pc = .ok (.arraylength, 1))
    (kk : OEnds p e below F n0 Q T { g with pc := g.pc + 1, stack := .int n :: rest }) : OEnds p e below F n0 Q T g := by
  obtain ⟨cl, Ar, -, Sz, M, H, -⟩ := V
  refine own_go (fun t kt => X.arraylength hx (by rw [eT]; exact Ar.1) (State.isArrayOf_alike hZ.alike Ar.2.1) hg hs hd t kt) ?_
  rw [len_of Sz M]; exact kk
theorem own_iaload (X : Stand p l e R s m args below meth c T locs cells slots) (hx : p.tables.exec = Jvm.exec) (hZ : Z.Warmed39 s.vm) (eT : T.heap = h) (V : Arv Z h a k .int n vs dv) (hj : ¬ j < 0 ∧ j < n) (hv : vs.getD j.toNatClampNeg dv = v) (hg : g.method = m) (hs : g.stack = .int j :: .ref a :: rest) (hd : decode c.code g.pc = .ok (.iaload, 1))
    (kk : OEnds p e below F n0 Q T { g with pc := g.pc + 1, stack := v :: rest }) : OEnds p e below F n0 Q T g := by
  obtain ⟨cl, Ar, -, Sz, M, H, -⟩ := V
  exact own_go (fun t kt => X.iaload hx (by rw [eT]; exact Ar.1) (State.isArrayOf_alike hZ.alike Ar.2.1) Ar.2.2 (inb_of Sz hj) (H.at (inb_of Sz hj) hv) hg hs hd t kt) kk
theorem own_laload (X : Stand p l e R s m args below meth c T locs cells slots) (hx : p.tables.exec = Jvm.exec) (hZ : Z.Warmed39 s.vm) (eT : T.heap = h) (V : Arv Z h a k .long n vs dv) (hj : ¬ j < 0 ∧ j < n) (hv : vs.getD j.toNatClampNeg dv = v) (hg : g.method = m) (hs : g.stack = .int j :: .ref a :: rest) (hd : decode c.code g.pc = .ok (.laload, 1))
    (kk : OEnds p e below F n0 Q T { g with pc := g.pc + 1, stack := v :: rest }) : OEnds p e below F n0 Q T g := by
  obtain ⟨cl, Ar, -, Sz, M, H, -⟩ := V
  exact own_go (fun t kt => X.laload hx (by rw [eT]; exact Ar.1) (State.isArrayOf_alike hZ.alike Ar.2.1) Ar.2.2 (inb_of Sz hj) (H.at (inb_of Sz hj) hv) hg hs hd t kt) kk
theorem own_caload (X : Stand p l e R s m args below meth c T locs cells slots) (hx : p.tables.exec = Jvm.exec) (hZ : Z.Warmed39 s.vm) (eT : T.heap = h) (V : Arv Z h a k .char n vs dv) (hj : ¬ j < 0 ∧ j < n) (hv : vs.getD j.toNatClampNeg dv = v) (hg : g.method = m) (hs : g.stack = .int j :: .ref a :: rest) (hd : decode c.code g.pc = .ok (.caload, 1))
    (kk : OEnds p e below F n0 Q T { g with pc := g.pc + 1, stack := v :: rest }) : OEnds p e below F n0 Q T g := by
  obtain ⟨cl, Ar, -, Sz, M, H, -⟩ := V
  exact own_go (fun t kt => X.caload hx (by rw [eT]; exact Ar.1) (State.isArrayOf_alike hZ.alike Ar.2.1) Ar.2.2 (inb_of Sz hj) (H.at (inb_of Sz hj) hv) hg hs hd t kt) kk
theorem own_baload (X : Stand p l e R s m args below meth c T locs cells slots) (hx : p.tables.exec = Jvm.exec) (hZ : Z.Warmed39 s.vm) (eT : T.heap = h) (V : Arv Z h a k .byte n vs dv) (hj : ¬ j < 0 ∧ j < n) (hv : vs.getD j.toNatClampNeg dv = v) (hg : g.method = m) (hs : g.stack = .int j :: .ref a :: rest) (hd : decode c.code g.pc = .ok (.baload, 1))
    (kk : OEnds p e below F n0 Q T { g with pc := g.pc + 1, stack := v :: rest }) : OEnds p e below F n0 Q T g := by
  obtain ⟨cl, Ar, -, Sz, M, H, -⟩ := V
  exact own_go (fun t kt => X.baloadBytes hx (by rw [eT]; exact Ar.1) (State.isArrayOf_alike hZ.alike Ar.2.1) Ar.2.2 (inb_of Sz hj) (H.at (inb_of Sz hj) hv) hg hs hd t kt) kk
theorem own_iastore (X : Stand p l e R s m args below meth c T locs cells slots) (hx : p.tables.exec = Jvm.exec) (hZ : Z.Warmed39 s.vm) {x : Int32} (eT : T.heap = h) (V : Arv Z h a k .int n vs dv) (hj : ¬ j < 0 ∧ j < n) (i : Nat) (hi : j.toNatClampNeg = i) (hl : i < vs.length) (N : Fr n0 locs) (ga : n0 ≤ a) (hg : g.method = m) (hs : g.stack = .int x :: .int j :: .ref a :: rest) (hd : decode c.code g.pc = .ok (.iastore, 1))
    (kk : ∀ T' h' locs', Stand p l e R s m args below meth c T' locs' cells slots → T'.heap = h' → Fr n0 locs' → Wr h h' a j.toNatClampNeg (.int x) → Arv Z h' a k .int n (vs.set i (.int x)) dv → OEnds p e below F n0 Q T' { g with pc := g.pc + 1, stack := rest }) : OEnds p e below F n0 Q T g := by
  obtain ⟨cl, Ar, q, Sz, M, H, G⟩ := V
  obtain ⟨T', h', X', e', W', st⟩ := stI X hx hZ eT Ar (j := j) (inb_of Sz hj) hg hs hd
  exact own_go st (kk T' h' _ X' e' (Fr.snoc X' N ga) W' (Arv.set Ar q Sz M H G rfl W' i hi hl))
theorem own_lastore (X : Stand p l e R s m args below meth c T locs cells slots) (hx : p.tables.exec = Jvm.exec) (hZ : Z.Warmed39 s.vm) {x : Int64} (eT : T.heap = h) (V : Arv Z h a k .long n vs dv) (hj : ¬ j < 0 ∧ j < n) (i : Nat) (hi : j.toNatClampNeg = i) (hl : i < vs.length) (N : Fr n0 locs) (ga : n0 ≤ a) (hg : g.method = m) (hs : g.stack = .long x :: .int j :: .ref a :: rest) (hd : decode c.code g.pc = .ok (.lastore, 1))
    (kk : ∀ T' h' locs', Stand p l e R s m args below meth c T' locs' cells slots → T'.heap = h' → Fr n0 locs' → Wr h h' a j.toNatClampNeg (.long x) → Arv Z h' a k .long n (vs.set i (.long x)) dv → OEnds p e below F n0 Q T' { g with pc := g.pc + 1, stack := rest }) : OEnds p e below F n0 Q T g := by
  obtain ⟨cl, Ar, q, Sz, M, H, G⟩ := V
  obtain ⟨T', h', X', e', W', st⟩ := stJ X hx hZ eT Ar (j := j) (inb_of Sz hj) hg hs hd
  exact own_go st (kk T' h' _ X' e' (Fr.snoc X' N ga) W' (Arv.set Ar q Sz M H G rfl W' i hi hl))
theorem own_bastore (X : Stand p l e R s m args below meth c T locs cells slots) (hx : p.tables.exec = Jvm.exec) (hZ : Z.Warmed39 s.vm) {x : Int32} (eT : T.heap = h) (V : Arv Z h a k .byte n vs dv) (hj : ¬ j < 0 ∧ j < n) (i : Nat) (hi : j.toNatClampNeg = i) (hl : i < vs.length) (N : Fr n0 locs) (ga : n0 ≤ a) (hg : g.method = m) (hs : g.stack = .int x :: .int j :: .ref a :: rest) (hd : decode c.code g.pc = .ok (.bastore, 1))
    (kk : ∀ T' h' locs', Stand p l e R s m args below meth c T' locs' cells slots → T'.heap = h' → Fr n0 locs' → Wr h h' a j.toNatClampNeg (.int (nar .byte x)) → Arv Z h' a k .byte n (vs.set i (.int (nar .byte x))) dv → OEnds p e below F n0 Q T' { g with pc := g.pc + 1, stack := rest }) : OEnds p e below F n0 Q T g := by
  obtain ⟨cl, Ar, q, Sz, M, H, G⟩ := V
  obtain ⟨T', h', X', e', W', st⟩ := stB X hx hZ eT Ar (j := j) (inb_of Sz hj) hg hs hd
  exact own_go st (kk T' h' _ X' e' (Fr.snoc X' N ga) W' (Arv.set Ar q Sz M H G (fits_nar_byte _) W' i hi hl))
theorem own_castore (X : Stand p l e R s m args below meth c T locs cells slots) (hx : p.tables.exec = Jvm.exec) (hZ : Z.Warmed39 s.vm) {x : Int32} (eT : T.heap = h) (V : Arv Z h a k .char n vs dv) (hj : ¬ j < 0 ∧ j < n) (i : Nat) (hi : j.toNatClampNeg = i) (hl : i < vs.length) (N : Fr n0 locs) (ga : n0 ≤ a) (hg : g.method = m) (hs : g.stack = .int x :: .int j :: .ref a :: rest) (hd : decode c.code g.pc = .ok (.castore, 1))
    (kk : ∀ T' h' locs', Stand p l e R s m args below meth c T' locs' cells slots → T'.heap = h' → Fr n0 locs' → Wr h h' a j.toNatClampNeg (.int (nar .char x)) → Arv Z h' a k .char n (vs.set i (.int (nar .char x))) dv → OEnds p e below F n0 Q T' { g with pc := g.pc + 1, stack := rest }) : OEnds p e below F n0 Q T g := by
  obtain ⟨cl, Ar, q, Sz, M, H, G⟩ := V
  obtain ⟨T', h', X', e', W', st⟩ := stC X hx hZ eT Ar (j := j) (inb_of Sz hj) hg hs hd
  exact own_go st (kk T' h' _ X' e' (Fr.snoc X' N ga) W' (Arv.set Ar q Sz M H G (fits_nar_char _) W' i hi hl))
/-! numbers -/
theorem own_lT {x y : Int64} (hh : x < y) : ifCond.holds .lt (lcmpW x y) = true ∧ ifCond.holds .ge (lcmpW x y) = false ∧ ifCond.holds .gt (lcmpW y x) = true ∧ ifCond.holds .le (lcmpW y x) = false := by
  simp only [if0]
  exact ⟨(tlt ((lw_lt x y).mpr hh)).1, (tlt ((lw_lt x y).mpr hh)).2.1, (tlt ((lw_gt y x).mpr hh)).2.2.1, (tlt ((lw_gt y x).mpr hh)).2.2.2⟩
theorem own_lF {x y : Int64} (hh : ¬ x < y) : ifCond.holds .lt (lcmpW x y) = false ∧ ifCond.holds .ge (lcmpW x y) = true ∧ ifCond.holds .gt (lcmpW y x) = false ∧ ifCond.holds .le (lcmpW y x) = true := by
  simp only [if0]
  have h1 : ¬ lcmpW x y < 0 := fun q => hh ((lw_lt x y).mp q)
  have h2 : ¬ 0 < lcmpW y x := fun q => hh ((lw_gt y x).mp q)
  exact ⟨(flt h1).1, (flt h1).2.1, (flt h2).2.2.1, (flt h2).2.2.2⟩
theorem own_eT {x y : Int64} (hh : x = y) : ifCond.holds .eq (lcmpW x y) = true ∧ ifCond.holds .ne (lcmpW x y) = false := by
  simp only [if0]
  exact teq ((lw_eq x y).mpr hh)
theorem own_eF {x y : Int64} (hh : ¬ x = y) : ifCond.holds .eq (lcmpW x y) = false ∧ ifCond.holds .ne (lcmpW x y) = true := by
  simp only [if0]
  exact feq (fun q => hh ((lw_eq x y).mp q))
end Own
def own_rk (p : Int32) (f u w : Addr) : Addr := if p = 0 then f else if p = 1 then u else w
def own_and (a b f u w : Addr) : Addr := if a = f then f else if b = f then f else if a = u then u else if b = u then u else w
def own_rank (a f u w : Addr) : Int32 := if a = f then 0 else if a = u then 1 else if a = w then 2 else -1
def own_min (x y : Int32) : Int32 := if y < x then y else x
theorem own_rk3 (p : Int32) (f u w : Addr) : own_rk p f u w = f ∨ own_rk p f u w = u ∨ own_rk p f u w = w := by
  unfold own_rk
  split
  · exact Or.inl rfl
  · split
    · exact Or.inr (Or.inl rfl)
    · exact Or.inr (Or.inr rfl)
theorem own_same (p q : Int32) (f u w : Addr) (h1 : f ≠ u) (h2 : f ≠ w) (h3 : u ≠ w) : own_and (own_rk p f u w) (own_rk q f u w) f u w = own_rk (own_min (own_rank (own_rk p f u w) f u w) (own_rank (own_rk q f u w) f u w)) f u w := by
  have g1 := h1.symm; have g2 := h2.symm; have g3 := h3.symm
  have a1 : own_rank f f u w = 0 := by simp [own_rank]
  have a2 : own_rank u f u w = 1 := by simp [own_rank, g1]
  have a3 : own_rank w f u w = 2 := by simp [own_rank, g2, g3]
  rcases own_rk3 p f u w with e | e | e <;> rcases own_rk3 q f u w with e' | e' | e' <;>
  rw [e, e'] <;> simp only [a1, a2, a3] <;> simp [own_and, own_min, own_rk, h1, h2, h3, g1, g2, g3] <;> decide
theorem own_exr {Z : State} {h : Heap} {C : String} {f u w : Addr} (p : Int32) (h1 : Exa Z h f C) (h2 : Exa Z h u C) (h3 : Exa Z h w C) : Exa Z h (own_rk p f u w) C := by
  unfold own_rk; split
  · exact h1
  · split
    · exact h2
    · exact h3
theorem own_ne {args : Array Value} {s : State} {t1 t2 : Term} {a b : Addr} {y1 y2 : Int32} {C n d : String} (e1 : t1.eval args s none [] s = some (.ref a)) (e2 : t2.eval args s none [] s = some (.ref b)) (h1 : (Jvm.Cond.eq (Term.field t1 C n d) (Term.int y1)).value args s none s [] = some true) (h2 : (Jvm.Cond.eq (Term.field t2 C n d) (Term.int y2)).value args s none s [] = some true) (hy : y1 ≠ y2) : a ≠ b := by
  intro q; subst q
  have g1 := eqv_i (Term.int_eval y1) h1
  have g2 := eqv_i (Term.int_eval y2) h2
  have g3 : (Term.field t1 C n d).eval args s none [] s = (Term.field t2 C n d).eval args s none [] s := by simp [Term.eval, e1, e2]
  rw [g1, g2] at g3
  exact hy (by simpa using g3)
theorem own_d1_0 : decode method_2_code 0 = .ok (.iload_n 0, 1) := by decide +kernel
theorem own_d1_1 : decode method_2_code 1 = .ok (.ifCond .ne 7, 3) := by decide +kernel
theorem own_d1_4 : decode method_2_code 4 = .ok (.getstatic 7, 3) := by decide +kernel
theorem own_d1_7 : decode method_2_code 7 = .ok (.areturn, 1) := by decide +kernel
theorem own_d1_8 : decode method_2_code 8 = .ok (.iload_n 0, 1) := by decide +kernel
theorem own_d1_9 : decode method_2_code 9 = .ok (.iconst 1, 1) := by decide +kernel
theorem own_d1_10 : decode method_2_code 10 = .ok (.if_icmp .ne 7, 3) := by decide +kernel
theorem own_d1_13 : decode method_2_code 13 = .ok (.getstatic 13, 3) := by decide +kernel
theorem own_d1_16 : decode method_2_code 16 = .ok (.areturn, 1) := by decide +kernel
theorem own_d1_17 : decode method_2_code 17 = .ok (.getstatic 16, 3) := by decide +kernel
theorem own_d1_20 : decode method_2_code 20 = .ok (.areturn, 1) := by decide +kernel
theorem own_pn_1 : plainFor (⟨"com/example/keen_odds/keenodds/solve/VerdictAndPinLaw", "byRank", "(I)Lcom/example/keen_odds/keenodds/solve/Verdict;"⟩ : MethodName) = true := by first | exact plainFor_of_name (by first | (simp [plainName, overriddenIn]; done) | decide +kernel) | decide +kernel
theorem own_ef_own_byrank (m : MethodId) (x0 : Int32) : entryFrame m #[(.int x0)] 1 = mkF m 0 #[.val (.int x0)] [] := by first | (simp [entryFrame, mkF, argsToLocals, Value.category]; done) | rfl
set_option maxRecDepth 65536 in
set_option maxHeartbeats 40000000 in
theorem own_byrank (l : Launch) (Z : State) (a0 : Array Value) (hw : ∀ d ∈ tables_1, d.before a0 Z = true) (p1 : Int32) (f u w : Addr) (h0 : Heap) (n0 : Nat) (Z0 : n0 ≤ h0.size) (S_f : Sta Z h0 "com/example/keen_odds/keenodds/solve/Verdict" "FAILS" "Lcom/example/keen_odds/keenodds/solve/Verdict;" (.ref f)) (S_u : Sta Z h0 "com/example/keen_odds/keenodds/solve/Verdict" "UNKNOWN" "Lcom/example/keen_odds/keenodds/solve/Verdict;" (.ref u)) (S_w : Sta Z h0 "com/example/keen_odds/keenodds/solve/Verdict" "HOLDS" "Lcom/example/keen_odds/keenodds/solve/Verdict;" (.ref w)) :
    OCon l (⟨"com/example/keen_odds/keenodds/solve/VerdictAndPinLaw", "byRank", "(I)Lcom/example/keen_odds/keenodds/solve/Verdict;"⟩ : MethodName) method_2_code 1 (some (.object "com/example/keen_odds/keenodds/solve/Verdict")) ({ frames := 0, cells := 0, slots := 0, locals := 0 } : Room) Z #[(.int p1)] h0 n0 (fun v h => v = some (.ref (own_rk p1 f u w)) ∧ h = h0) := by
  refine own_body own_pn_1 ?_
  intro p e s m below meth c T0 hx hZ hby hml hown hnm hret hlk e0 X0
  replace hown : s.vm.findClass "com/example/keen_odds/keenodds/solve/VerdictAndPinLaw" = some m.cls := hown
  replace hnm : meth.name = "byRank" := hnm
  have N0 := Fr.nil n0
  have K0 : Keep h0 h0 [] := Keep.refl _ _
  refine own_at (own_ef_own_byrank m p1) ?_
  refine own_go (g' := (mkF m 1 #[.val (.int p1)] [(.int p1)])) (fun t kt => XS.iloadN X0.here hx rfl (hb hby own_d1_0) rfl kt) ?_
  by_cases hc1 : p1 = (0 : Int32)
  · refine own_go (g' := (mkF m 4 #[.val (.int p1)] [])) (fun t kt => XS.ifNo X0.here hx rfl (hb hby own_d1_1) rfl ((if0 _ _).trans (teq hc1).2) kt) ?_
    obtain ⟨T2, X2, e2, st2⟩ := getS2 X0 hx hZ hown (host := "") (Or.inl (hw _ (List.mem_of_getElem? (i := 5) rfl))) Via.refl e0 S_f (g := (mkF m 4 #[.val (.int p1)] [])) rfl (hb hby own_d1_4)
    refine own_go (T' := T2) (g' := (mkF m 7 #[.val (.int p1)] [(.ref f)])) st2 ?_
    exact own_retA X2 hx hlk (t := (.object "com/example/keen_odds/keenodds/solve/Verdict")) rfl hret rfl (hb hby own_d1_7) e2 N0 (by decide) (by decide) (⟨by unfold own_rk; rw [if_pos hc1], rfl⟩)
  · refine own_go (g' := (mkF m 8 #[.val (.int p1)] [])) (fun t kt => XS.ifYes X0.here hx rfl (pc0 := 1) (pc' := 8) rfl (hb hby own_d1_1) rfl ((if0 _ _).trans (feq hc1).2) (by decide) (by decide) kt) ?_
    refine own_go (g' := (mkF m 9 #[.val (.int p1)] [(.int p1)])) (fun t kt => XS.iloadN X0.here hx rfl (hb hby own_d1_8) rfl kt) ?_
    refine own_go (g' := (mkF m 10 #[.val (.int p1)] [(.int (1 : Int32)), (.int p1)])) (fun t kt => XS.iconst X0.here hx rfl (hb hby own_d1_9) kt) ?_
    by_cases hc3 : p1 = (1 : Int32)
    · refine own_go (g' := (mkF m 13 #[.val (.int p1)] [])) (fun t kt => XS.icmpNo X0.here hx rfl (hb hby own_d1_10) rfl (teq hc3).2 kt) ?_
      obtain ⟨T4, X4, e4, st4⟩ := getS2 X0 hx hZ hown (host := "") (Or.inl (hw _ (List.mem_of_getElem? (i := 23) rfl))) Via.refl e0 S_u (g := (mkF m 13 #[.val (.int p1)] [])) rfl (hb hby own_d1_13)
      refine own_go (T' := T4) (g' := (mkF m 16 #[.val (.int p1)] [(.ref u)])) st4 ?_
      exact own_retA X4 hx hlk (t := (.object "com/example/keen_odds/keenodds/solve/Verdict")) rfl hret rfl (hb hby own_d1_16) e4 N0 (by decide) (by decide) (⟨by unfold own_rk; rw [if_neg hc1, if_pos hc3], rfl⟩)
    · refine own_go (g' := (mkF m 17 #[.val (.int p1)] [])) (fun t kt => XS.icmpYes X0.here hx rfl (pc0 := 10) (pc' := 17) rfl (hb hby own_d1_10) rfl (feq hc3).2 (by decide) (by decide) kt) ?_
      obtain ⟨T5, X5, e5, st5⟩ := getS2 X0 hx hZ hown (host := "") (Or.inl (hw _ (List.mem_of_getElem? (i := 21) rfl))) Via.refl e0 S_w (g := (mkF m 17 #[.val (.int p1)] [])) rfl (hb hby own_d1_17)
      refine own_go (T' := T5) (g' := (mkF m 20 #[.val (.int p1)] [(.ref w)])) st5 ?_
      exact own_retA X5 hx hlk (t := (.object "com/example/keen_odds/keenodds/solve/Verdict")) rfl hret rfl (hb hby own_d1_20) e5 N0 (by decide) (by decide) (⟨by unfold own_rk; rw [if_neg hc1, if_neg hc3], rfl⟩)
theorem own_d2_0 : decode prog_156_method_5_code 0 = .ok (.aload_n 0, 1) := by decide +kernel
theorem own_d2_1 : decode prog_156_method_5_code 1 = .ok (.getstatic 7, 3) := by decide +kernel
theorem own_d2_4 : decode prog_156_method_5_code 4 = .ok (.if_acmp .eq 10, 3) := by decide +kernel
theorem own_d2_7 : decode prog_156_method_5_code 7 = .ok (.aload_n 1, 1) := by decide +kernel
theorem own_d2_8 : decode prog_156_method_5_code 8 = .ok (.getstatic 7, 3) := by decide +kernel
theorem own_d2_11 : decode prog_156_method_5_code 11 = .ok (.if_acmp .ne 10, 3) := by decide +kernel
theorem own_d2_14 : decode prog_156_method_5_code 14 = .ok (.getstatic 7, 3) := by decide +kernel
theorem own_d2_17 : decode prog_156_method_5_code 17 = .ok (.astore_n 2, 1) := by decide +kernel
theorem own_d2_18 : decode prog_156_method_5_code 18 = .ok (.goto 28, 3) := by decide +kernel
theorem own_d2_21 : decode prog_156_method_5_code 21 = .ok (.aload_n 0, 1) := by decide +kernel
theorem own_d2_22 : decode prog_156_method_5_code 22 = .ok (.getstatic 10, 3) := by decide +kernel
theorem own_d2_25 : decode prog_156_method_5_code 25 = .ok (.if_acmp .eq 10, 3) := by decide +kernel
theorem own_d2_28 : decode prog_156_method_5_code 28 = .ok (.aload_n 1, 1) := by decide +kernel
theorem own_d2_29 : decode prog_156_method_5_code 29 = .ok (.getstatic 10, 3) := by decide +kernel
theorem own_d2_32 : decode prog_156_method_5_code 32 = .ok (.if_acmp .ne 10, 3) := by decide +kernel
theorem own_d2_35 : decode prog_156_method_5_code 35 = .ok (.getstatic 10, 3) := by decide +kernel
theorem own_d2_38 : decode prog_156_method_5_code 38 = .ok (.astore_n 2, 1) := by decide +kernel
theorem own_d2_39 : decode prog_156_method_5_code 39 = .ok (.goto 7, 3) := by decide +kernel
theorem own_d2_42 : decode prog_156_method_5_code 42 = .ok (.getstatic 3, 3) := by decide +kernel
theorem own_d2_45 : decode prog_156_method_5_code 45 = .ok (.astore_n 2, 1) := by decide +kernel
theorem own_d2_46 : decode prog_156_method_5_code 46 = .ok (.aload_n 2, 1) := by decide +kernel
theorem own_d2_47 : decode prog_156_method_5_code 47 = .ok (.areturn, 1) := by decide +kernel
theorem own_pn_2 : plainFor (⟨"com/example/keen_odds/keenodds/solve/Verdict", "and", "(Lcom/example/keen_odds/keenodds/solve/Verdict;)Lcom/example/keen_odds/keenodds/solve/Verdict;"⟩ : MethodName) = true := by first | exact plainFor_of_name (by first | (simp [plainName, overriddenIn]; done) | decide +kernel) | decide +kernel
theorem own_ef_own_andm (m : MethodId) (x0 : Addr) (x1 : Addr) : entryFrame m #[(.ref x0), (.ref x1)] 3 = mkF m 0 #[.val (.ref x0), .val (.ref x1), .unset] [] := by first | (simp [entryFrame, mkF, argsToLocals, Value.category]; done) | rfl
set_option maxRecDepth 65536 in
set_option maxHeartbeats 40000000 in
theorem own_andm (l : Launch) (Z : State) (a0 : Array Value) (hw : ∀ d ∈ tables_1, d.before a0 Z = true) (a1 a2 : Addr) (f u w : Addr) (h0 : Heap) (n0 : Nat) (Z0 : n0 ≤ h0.size) (S_f : Sta Z h0 "com/example/keen_odds/keenodds/solve/Verdict" "FAILS" "Lcom/example/keen_odds/keenodds/solve/Verdict;" (.ref f)) (S_u : Sta Z h0 "com/example/keen_odds/keenodds/solve/Verdict" "UNKNOWN" "Lcom/example/keen_odds/keenodds/solve/Verdict;" (.ref u)) (S_w : Sta Z h0 "com/example/keen_odds/keenodds/solve/Verdict" "HOLDS" "Lcom/example/keen_odds/keenodds/solve/Verdict;" (.ref w)) :
    OCon l (⟨"com/example/keen_odds/keenodds/solve/Verdict", "and", "(Lcom/example/keen_odds/keenodds/solve/Verdict;)Lcom/example/keen_odds/keenodds/solve/Verdict;"⟩ : MethodName) prog_156_method_5_code 3 (some (.object "com/example/keen_odds/keenodds/solve/Verdict")) ({ frames := 0, cells := 0, slots := 0, locals := 0 } : Room) Z #[(.ref a1), (.ref a2)] h0 n0 (fun v h => v = some (.ref (own_and a1 a2 f u w)) ∧ h = h0) := by
  refine own_body own_pn_2 ?_
  intro p e s m below meth c T0 hx hZ hby hml hown hnm hret hlk e0 X0
  replace hown : s.vm.findClass "com/example/keen_odds/keenodds/solve/Verdict" = some m.cls := hown
  replace hnm : meth.name = "and" := hnm
  have N0 := Fr.nil n0
  have K0 : Keep h0 h0 [] := Keep.refl _ _
  refine own_at (own_ef_own_andm m a1 a2) ?_
  refine own_go (g' := (mkF m 1 #[.val (.ref a1), .val (.ref a2), .unset] [(.ref a1)])) (fun t kt => XS.aloadN X0.here hx rfl (hb hby own_d2_0) rfl rfl kt) ?_
  obtain ⟨T1, X1, e1, st1⟩ := getS2 X0 hx hZ hown (host := "") (Or.inl (hw _ (List.mem_of_getElem? (i := 13) rfl))) Via.refl e0 S_f (g := (mkF m 1 #[.val (.ref a1), .val (.ref a2), .unset] [(.ref a1)])) rfl (hb hby own_d2_1)
  refine own_go (T' := T1) (g' := (mkF m 4 #[.val (.ref a1), .val (.ref a2), .unset] [(.ref f), (.ref a1)])) st1 ?_
  by_cases hc2 : a1 = f
  · refine own_go (g' := (mkF m 14 #[.val (.ref a1), .val (.ref a2), .unset] [])) (fun t kt => Jvm.RoadKit.acmp (g := (mkF m 4 #[.val (.ref a1), .val (.ref a2), .unset] [(.ref f), (.ref a1)])) X1 hx rfl rfl rfl (pc0 := 4) (pc' := 14) (same := true) rfl (hb hby own_d2_4) rfl (decide_eq_true (congrArg Value.ref hc2)) (by decide) (by decide) kt) ?_
    obtain ⟨T3, X3, e3, st3⟩ := getS2 X1 hx hZ hown (host := "") (Or.inl (hw _ (List.mem_of_getElem? (i := 13) rfl))) Via.refl e1 S_f (g := (mkF m 14 #[.val (.ref a1), .val (.ref a2), .unset] [])) rfl (hb hby own_d2_14)
    refine own_go (T' := T3) (g' := (mkF m 17 #[.val (.ref a1), .val (.ref a2), .unset] [(.ref f)])) st3 ?_
    refine own_go (g' := (mkF m 18 #[.val (.ref a1), .val (.ref a2), .val (.ref f)] [])) (fun t kt => XS.astoreN X3.here hx rfl (hb hby own_d2_17) rfl rfl (l' := #[.val (.ref a1), .val (.ref a2), .val (.ref f)]) rfl kt) ?_
    refine own_go (g' := (mkF m 46 #[.val (.ref a1), .val (.ref a2), .val (.ref f)] [])) (fun t kt => XS.goto X3.here hx rfl (pc0 := 18) (pc' := 46) rfl (hb hby own_d2_18) (by decide) (by decide) kt) ?_
    refine own_go (g' := (mkF m 47 #[.val (.ref a1), .val (.ref a2), .val (.ref f)] [(.ref f)])) (fun t kt => XS.aloadN X3.here hx rfl (hb hby own_d2_46) rfl rfl kt) ?_
    exact own_retA X3 hx hlk (t := (.object "com/example/keen_odds/keenodds/solve/Verdict")) rfl hret rfl (hb hby own_d2_47) e3 N0 (by decide) (by decide) (⟨by unfold own_and; rw [if_pos hc2], rfl⟩)
  · refine own_go (g' := (mkF m 7 #[.val (.ref a1), .val (.ref a2), .unset] [])) (fun t kt => Jvm.RoadKit.acmp (g := (mkF m 4 #[.val (.ref a1), .val (.ref a2), .unset] [(.ref f), (.ref a1)])) X1 hx rfl rfl rfl (pc0 := 4) (pc' := 7) (same := false) rfl (hb hby own_d2_4) rfl (decide_eq_false fun q => hc2 (Value.ref.inj q)) (by decide) (by decide) kt) ?_
    refine own_go (g' := (mkF m 8 #[.val (.ref a1), .val (.ref a2), .unset] [(.ref a2)])) (fun t kt => XS.aloadN X1.here hx rfl (hb hby own_d2_7) rfl rfl kt) ?_
    obtain ⟨T4, X4, e4, st4⟩ := getS2 X1 hx hZ hown (host := "") (Or.inl (hw _ (List.mem_of_getElem? (i := 13) rfl))) Via.refl e1 S_f (g := (mkF m 8 #[.val (.ref a1), .val (.ref a2), .unset] [(.ref a2)])) rfl (hb hby own_d2_8)
    refine own_go (T' := T4) (g' := (mkF m 11 #[.val (.ref a1), .val (.ref a2), .unset] [(.ref f), (.ref a2)])) st4 ?_
    by_cases hc5 : a2 = f
    · refine own_go (g' := (mkF m 14 #[.val (.ref a1), .val (.ref a2), .unset] [])) (fun t kt => Jvm.RoadKit.acmp (g := (mkF m 11 #[.val (.ref a1), .val (.ref a2), .unset] [(.ref f), (.ref a2)])) X4 hx rfl rfl rfl (pc0 := 11) (pc' := 14) (same := true) rfl (hb hby own_d2_11) rfl (decide_eq_true (congrArg Value.ref hc5)) (by decide) (by decide) kt) ?_
      obtain ⟨T6, X6, e6, st6⟩ := getS2 X4 hx hZ hown (host := "") (Or.inl (hw _ (List.mem_of_getElem? (i := 13) rfl))) Via.refl e4 S_f (g := (mkF m 14 #[.val (.ref a1), .val (.ref a2), .unset] [])) rfl (hb hby own_d2_14)
      refine own_go (T' := T6) (g' := (mkF m 17 #[.val (.ref a1), .val (.ref a2), .unset] [(.ref f)])) st6 ?_
      refine own_go (g' := (mkF m 18 #[.val (.ref a1), .val (.ref a2), .val (.ref f)] [])) (fun t kt => XS.astoreN X6.here hx rfl (hb hby own_d2_17) rfl rfl (l' := #[.val (.ref a1), .val (.ref a2), .val (.ref f)]) rfl kt) ?_
      refine own_go (g' := (mkF m 46 #[.val (.ref a1), .val (.ref a2), .val (.ref f)] [])) (fun t kt => XS.goto X6.here hx rfl (pc0 := 18) (pc' := 46) rfl (hb hby own_d2_18) (by decide) (by decide) kt) ?_
      refine own_go (g' := (mkF m 47 #[.val (.ref a1), .val (.ref a2), .val (.ref f)] [(.ref f)])) (fun t kt => XS.aloadN X6.here hx rfl (hb hby own_d2_46) rfl rfl kt) ?_
      exact own_retA X6 hx hlk (t := (.object "com/example/keen_odds/keenodds/solve/Verdict")) rfl hret rfl (hb hby own_d2_47) e6 N0 (by decide) (by decide) (⟨by unfold own_and; rw [if_neg hc2, if_pos hc5], rfl⟩)
    · refine own_go (g' := (mkF m 21 #[.val (.ref a1), .val (.ref a2), .unset] [])) (fun t kt => Jvm.RoadKit.acmp (g := (mkF m 11 #[.val (.ref a1), .val (.ref a2), .unset] [(.ref f), (.ref a2)])) X4 hx rfl rfl rfl (pc0 := 11) (pc' := 21) (same := false) rfl (hb hby own_d2_11) rfl (decide_eq_false fun q => hc5 (Value.ref.inj q)) (by decide) (by decide) kt) ?_
      refine own_go (g' := (mkF m 22 #[.val (.ref a1), .val (.ref a2), .unset] [(.ref a1)])) (fun t kt => XS.aloadN X4.here hx rfl (hb hby own_d2_21) rfl rfl kt) ?_
      obtain ⟨T7, X7, e7, st7⟩ := getS2 X4 hx hZ hown (host := "") (Or.inl (hw _ (List.mem_of_getElem? (i := 25) rfl))) Via.refl e4 S_u (g := (mkF m 22 #[.val (.ref a1), .val (.ref a2), .unset] [(.ref a1)])) rfl (hb hby own_d2_22)
      refine own_go (T' := T7) (g' := (mkF m 25 #[.val (.ref a1), .val (.ref a2), .unset] [(.ref u), (.ref a1)])) st7 ?_
      by_cases hc8 : a1 = u
      · refine own_go (g' := (mkF m 35 #[.val (.ref a1), .val (.ref a2), .unset] [])) (fun t kt => Jvm.RoadKit.acmp (g := (mkF m 25 #[.val (.ref a1), .val (.ref a2), .unset] [(.ref u), (.ref a1)])) X7 hx rfl rfl rfl (pc0 := 25) (pc' := 35) (same := true) rfl (hb hby own_d2_25) rfl (decide_eq_true (congrArg Value.ref hc8)) (by decide) (by decide) kt) ?_
        obtain ⟨T9, X9, e9, st9⟩ := getS2 X7 hx hZ hown (host := "") (Or.inl (hw _ (List.mem_of_getElem? (i := 25) rfl))) Via.refl e7 S_u (g := (mkF m 35 #[.val (.ref a1), .val (.ref a2), .unset] [])) rfl (hb hby own_d2_35)
        refine own_go (T' := T9) (g' := (mkF m 38 #[.val (.ref a1), .val (.ref a2), .unset] [(.ref u)])) st9 ?_
        refine own_go (g' := (mkF m 39 #[.val (.ref a1), .val (.ref a2), .val (.ref u)] [])) (fun t kt => XS.astoreN X9.here hx rfl (hb hby own_d2_38) rfl rfl (l' := #[.val (.ref a1), .val (.ref a2), .val (.ref u)]) rfl kt) ?_
        refine own_go (g' := (mkF m 46 #[.val (.ref a1), .val (.ref a2), .val (.ref u)] [])) (fun t kt => XS.goto X9.here hx rfl (pc0 := 39) (pc' := 46) rfl (hb hby own_d2_39) (by decide) (by decide) kt) ?_
        refine own_go (g' := (mkF m 47 #[.val (.ref a1), .val (.ref a2), .val (.ref u)] [(.ref u)])) (fun t kt => XS.aloadN X9.here hx rfl (hb hby own_d2_46) rfl rfl kt) ?_
        exact own_retA X9 hx hlk (t := (.object "com/example/keen_odds/keenodds/solve/Verdict")) rfl hret rfl (hb hby own_d2_47) e9 N0 (by decide) (by decide) (⟨by unfold own_and; rw [if_neg hc2, if_neg hc5, if_pos hc8], rfl⟩)
      · refine own_go (g' := (mkF m 28 #[.val (.ref a1), .val (.ref a2), .unset] [])) (fun t kt => Jvm.RoadKit.acmp (g := (mkF m 25 #[.val (.ref a1), .val (.ref a2), .unset] [(.ref u), (.ref a1)])) X7 hx rfl rfl rfl (pc0 := 25) (pc' := 28) (same := false) rfl (hb hby own_d2_25) rfl (decide_eq_false fun q => hc8 (Value.ref.inj q)) (by decide) (by decide) kt) ?_
        refine own_go (g' := (mkF m 29 #[.val (.ref a1), .val (.ref a2), .unset] [(.ref a2)])) (fun t kt => XS.aloadN X7.here hx rfl (hb hby own_d2_28) rfl rfl kt) ?_
        obtain ⟨T10, X10, e10, st10⟩ := getS2 X7 hx hZ hown (host := "") (Or.inl (hw _ (List.mem_of_getElem? (i := 25) rfl))) Via.refl e7 S_u (g := (mkF m 29 #[.val (.ref a1), .val (.ref a2), .unset] [(.ref a2)])) rfl (hb hby own_d2_29)
        refine own_go (T' := T10) (g' := (mkF m 32 #[.val (.ref a1), .val (.ref a2), .unset] [(.ref u), (.ref a2)])) st10 ?_
        by_cases hc11 : a2 = u
        · refine own_go (g' := (mkF m 35 #[.val (.ref a1), .val (.ref a2), .unset] [])) (fun t kt => Jvm.RoadKit.acmp (g := (mkF m 32 #[.val (.ref a1), .val (.ref a2), .unset] [(.ref u), (.ref a2)])) X10 hx rfl rfl rfl (pc0 := 32) (pc' := 35) (same := true) rfl (hb hby own_d2_32) rfl (decide_eq_true (congrArg Value.ref hc11)) (by decide) (by decide) kt) ?_
          obtain ⟨T12, X12, e12, st12⟩ := getS2 X10 hx hZ hown (host := "") (Or.inl (hw _ (List.mem_of_getElem? (i := 25) rfl))) Via.refl e10 S_u (g := (mkF m 35 #[.val (.ref a1), .val (.ref a2), .unset] [])) rfl (hb hby own_d2_35)
          refine own_go (T' := T12) (g' := (mkF m 38 #[.val (.ref a1), .val (.ref a2), .unset] [(.ref u)])) st12 ?_
          refine own_go (g' := (mkF m 39 #[.val (.ref a1), .val (.ref a2), .val (.ref u)] [])) (fun t kt => XS.astoreN X12.here hx rfl (hb hby own_d2_38) rfl rfl (l' := #[.val (.ref a1), .val (.ref a2), .val (.ref u)]) rfl kt) ?_
          refine own_go (g' := (mkF m 46 #[.val (.ref a1), .val (.ref a2), .val (.ref u)] [])) (fun t kt => XS.goto X12.here hx rfl (pc0 := 39) (pc' := 46) rfl (hb hby own_d2_39) (by decide) (by decide) kt) ?_
          refine own_go (g' := (mkF m 47 #[.val (.ref a1), .val (.ref a2), .val (.ref u)] [(.ref u)])) (fun t kt => XS.aloadN X12.here hx rfl (hb hby own_d2_46) rfl rfl kt) ?_
          exact own_retA X12 hx hlk (t := (.object "com/example/keen_odds/keenodds/solve/Verdict")) rfl hret rfl (hb hby own_d2_47) e12 N0 (by decide) (by decide) (⟨by unfold own_and; rw [if_neg hc2, if_neg hc5, if_neg hc8, if_pos hc11], rfl⟩)
        · refine own_go (g' := (mkF m 42 #[.val (.ref a1), .val (.ref a2), .unset] [])) (fun t kt => Jvm.RoadKit.acmp (g := (mkF m 32 #[.val (.ref a1), .val (.ref a2), .unset] [(.ref u), (.ref a2)])) X10 hx rfl rfl rfl (pc0 := 32) (pc' := 42) (same := false) rfl (hb hby own_d2_32) rfl (decide_eq_false fun q => hc11 (Value.ref.inj q)) (by decide) (by decide) kt) ?_
          obtain ⟨T13, X13, e13, st13⟩ := getS2 X10 hx hZ hown (host := "") (Or.inl (hw _ (List.mem_of_getElem? (i := 26) rfl))) Via.refl e10 S_w (g := (mkF m 42 #[.val (.ref a1), .val (.ref a2), .unset] [])) rfl (hb hby own_d2_42)
          refine own_go (T' := T13) (g' := (mkF m 45 #[.val (.ref a1), .val (.ref a2), .unset] [(.ref w)])) st13 ?_
          refine own_go (g' := (mkF m 46 #[.val (.ref a1), .val (.ref a2), .val (.ref w)] [])) (fun t kt => XS.astoreN X13.here hx rfl (hb hby own_d2_45) rfl rfl (l' := #[.val (.ref a1), .val (.ref a2), .val (.ref w)]) rfl kt) ?_
          refine own_go (g' := (mkF m 47 #[.val (.ref a1), .val (.ref a2), .val (.ref w)] [(.ref w)])) (fun t kt => XS.aloadN X13.here hx rfl (hb hby own_d2_46) rfl rfl kt) ?_
          exact own_retA X13 hx hlk (t := (.object "com/example/keen_odds/keenodds/solve/Verdict")) rfl hret rfl (hb hby own_d2_47) e13 N0 (by decide) (by decide) (⟨by unfold own_and; rw [if_neg hc2, if_neg hc5, if_neg hc8, if_neg hc11], rfl⟩)
theorem own_d3_0 : decode method_3_code 0 = .ok (.aload_n 0, 1) := by decide +kernel
theorem own_d3_1 : decode method_3_code 1 = .ok (.getstatic 7, 3) := by decide +kernel
theorem own_d3_4 : decode method_3_code 4 = .ok (.if_acmp .ne 5, 3) := by decide +kernel
theorem own_d3_7 : decode method_3_code 7 = .ok (.iconst 0, 1) := by decide +kernel
theorem own_d3_8 : decode method_3_code 8 = .ok (.ireturn, 1) := by decide +kernel
theorem own_d3_9 : decode method_3_code 9 = .ok (.aload_n 0, 1) := by decide +kernel
theorem own_d3_10 : decode method_3_code 10 = .ok (.getstatic 13, 3) := by decide +kernel
theorem own_d3_13 : decode method_3_code 13 = .ok (.if_acmp .ne 5, 3) := by decide +kernel
theorem own_d3_16 : decode method_3_code 16 = .ok (.iconst 1, 1) := by decide +kernel
theorem own_d3_17 : decode method_3_code 17 = .ok (.ireturn, 1) := by decide +kernel
theorem own_d3_18 : decode method_3_code 18 = .ok (.aload_n 0, 1) := by decide +kernel
theorem own_d3_19 : decode method_3_code 19 = .ok (.getstatic 16, 3) := by decide +kernel
theorem own_d3_22 : decode method_3_code 22 = .ok (.if_acmp .ne 5, 3) := by decide +kernel
theorem own_d3_25 : decode method_3_code 25 = .ok (.iconst 2, 1) := by decide +kernel
theorem own_d3_26 : decode method_3_code 26 = .ok (.ireturn, 1) := by decide +kernel
theorem own_d3_27 : decode method_3_code 27 = .ok (.iconst (-1), 1) := by decide +kernel
theorem own_d3_28 : decode method_3_code 28 = .ok (.ireturn, 1) := by decide +kernel
theorem own_pn_3 : plainFor (⟨"com/example/keen_odds/keenodds/solve/VerdictAndPinLaw", "rank", "(Lcom/example/keen_odds/keenodds/solve/Verdict;)I"⟩ : MethodName) = true := by first | exact plainFor_of_name (by first | (simp [plainName, overriddenIn]; done) | decide +kernel) | decide +kernel
theorem own_ef_own_rankm (m : MethodId) (x0 : Addr) : entryFrame m #[(.ref x0)] 1 = mkF m 0 #[.val (.ref x0)] [] := by first | (simp [entryFrame, mkF, argsToLocals, Value.category]; done) | rfl
set_option maxRecDepth 65536 in
set_option maxHeartbeats 40000000 in
theorem own_rankm (l : Launch) (Z : State) (a0 : Array Value) (hw : ∀ d ∈ tables_1, d.before a0 Z = true) (a1 : Addr) (f u w : Addr) (h0 : Heap) (n0 : Nat) (Z0 : n0 ≤ h0.size) (S_f : Sta Z h0 "com/example/keen_odds/keenodds/solve/Verdict" "FAILS" "Lcom/example/keen_odds/keenodds/solve/Verdict;" (.ref f)) (S_u : Sta Z h0 "com/example/keen_odds/keenodds/solve/Verdict" "UNKNOWN" "Lcom/example/keen_odds/keenodds/solve/Verdict;" (.ref u)) (S_w : Sta Z h0 "com/example/keen_odds/keenodds/solve/Verdict" "HOLDS" "Lcom/example/keen_odds/keenodds/solve/Verdict;" (.ref w)) :
    OCon l (⟨"com/example/keen_odds/keenodds/solve/VerdictAndPinLaw", "rank", "(Lcom/example/keen_odds/keenodds/solve/Verdict;)I"⟩ : MethodName) method_3_code 1 (some .int) ({ frames := 0, cells := 0, slots := 0, locals := 0 } : Room) Z #[(.ref a1)] h0 n0 (fun v h => v = some (.int (own_rank a1 f u w)) ∧ h = h0) := by
  refine own_body own_pn_3 ?_
  intro p e s m below meth c T0 hx hZ hby hml hown hnm hret hlk e0 X0
  replace hown : s.vm.findClass "com/example/keen_odds/keenodds/solve/VerdictAndPinLaw" = some m.cls := hown
  replace hnm : meth.name = "rank" := hnm
  have N0 := Fr.nil n0
  have K0 : Keep h0 h0 [] := Keep.refl _ _
  refine own_at (own_ef_own_rankm m a1) ?_
  refine own_go (g' := (mkF m 1 #[.val (.ref a1)] [(.ref a1)])) (fun t kt => XS.aloadN X0.here hx rfl (hb hby own_d3_0) rfl rfl kt) ?_
  obtain ⟨T1, X1, e1, st1⟩ := getS2 X0 hx hZ hown (host := "") (Or.inl (hw _ (List.mem_of_getElem? (i := 5) rfl))) Via.refl e0 S_f (g := (mkF m 1 #[.val (.ref a1)] [(.ref a1)])) rfl (hb hby own_d3_1)
  refine own_go (T' := T1) (g' := (mkF m 4 #[.val (.ref a1)] [(.ref f), (.ref a1)])) st1 ?_
  by_cases hc2 : a1 = f
  · refine own_go (g' := (mkF m 7 #[.val (.ref a1)] [])) (fun t kt => Jvm.RoadKit.acmp (g := (mkF m 4 #[.val (.ref a1)] [(.ref f), (.ref a1)])) X1 hx rfl rfl rfl (pc0 := 4) (pc' := 7) (same := true) rfl (hb hby own_d3_4) rfl (decide_eq_true (congrArg Value.ref hc2)) (by decide) (by decide) kt) ?_
    refine own_go (g' := (mkF m 8 #[.val (.ref a1)] [(.int (0 : Int32))])) (fun t kt => XS.iconst X1.here hx rfl (hb hby own_d3_7) kt) ?_
    exact own_retI X1 hx hlk hret (hb hby own_d3_8) e1 N0 (by decide) (by decide) (⟨by unfold own_rank; rw [if_pos hc2], rfl⟩)
  · refine own_go (g' := (mkF m 9 #[.val (.ref a1)] [])) (fun t kt => Jvm.RoadKit.acmp (g := (mkF m 4 #[.val (.ref a1)] [(.ref f), (.ref a1)])) X1 hx rfl rfl rfl (pc0 := 4) (pc' := 9) (same := false) rfl (hb hby own_d3_4) rfl (decide_eq_false fun q => hc2 (Value.ref.inj q)) (by decide) (by decide) kt) ?_
    refine own_go (g' := (mkF m 10 #[.val (.ref a1)] [(.ref a1)])) (fun t kt => XS.aloadN X1.here hx rfl (hb hby own_d3_9) rfl rfl kt) ?_
    obtain ⟨T3, X3, e3, st3⟩ := getS2 X1 hx hZ hown (host := "") (Or.inl (hw _ (List.mem_of_getElem? (i := 23) rfl))) Via.refl e1 S_u (g := (mkF m 10 #[.val (.ref a1)] [(.ref a1)])) rfl (hb hby own_d3_10)
    refine own_go (T' := T3) (g' := (mkF m 13 #[.val (.ref a1)] [(.ref u), (.ref a1)])) st3 ?_
    by_cases hc4 : a1 = u
    · refine own_go (g' := (mkF m 16 #[.val (.ref a1)] [])) (fun t kt => Jvm.RoadKit.acmp (g := (mkF m 13 #[.val (.ref a1)] [(.ref u), (.ref a1)])) X3 hx rfl rfl rfl (pc0 := 13) (pc' := 16) (same := true) rfl (hb hby own_d3_13) rfl (decide_eq_true (congrArg Value.ref hc4)) (by decide) (by decide) kt) ?_
      refine own_go (g' := (mkF m 17 #[.val (.ref a1)] [(.int (1 : Int32))])) (fun t kt => XS.iconst X3.here hx rfl (hb hby own_d3_16) kt) ?_
      exact own_retI X3 hx hlk hret (hb hby own_d3_17) e3 N0 (by decide) (by decide) (⟨by unfold own_rank; rw [if_neg hc2, if_pos hc4], rfl⟩)
    · refine own_go (g' := (mkF m 18 #[.val (.ref a1)] [])) (fun t kt => Jvm.RoadKit.acmp (g := (mkF m 13 #[.val (.ref a1)] [(.ref u), (.ref a1)])) X3 hx rfl rfl rfl (pc0 := 13) (pc' := 18) (same := false) rfl (hb hby own_d3_13) rfl (decide_eq_false fun q => hc4 (Value.ref.inj q)) (by decide) (by decide) kt) ?_
      refine own_go (g' := (mkF m 19 #[.val (.ref a1)] [(.ref a1)])) (fun t kt => XS.aloadN X3.here hx rfl (hb hby own_d3_18) rfl rfl kt) ?_
      obtain ⟨T5, X5, e5, st5⟩ := getS2 X3 hx hZ hown (host := "") (Or.inl (hw _ (List.mem_of_getElem? (i := 21) rfl))) Via.refl e3 S_w (g := (mkF m 19 #[.val (.ref a1)] [(.ref a1)])) rfl (hb hby own_d3_19)
      refine own_go (T' := T5) (g' := (mkF m 22 #[.val (.ref a1)] [(.ref w), (.ref a1)])) st5 ?_
      by_cases hc6 : a1 = w
      · refine own_go (g' := (mkF m 25 #[.val (.ref a1)] [])) (fun t kt => Jvm.RoadKit.acmp (g := (mkF m 22 #[.val (.ref a1)] [(.ref w), (.ref a1)])) X5 hx rfl rfl rfl (pc0 := 22) (pc' := 25) (same := true) rfl (hb hby own_d3_22) rfl (decide_eq_true (congrArg Value.ref hc6)) (by decide) (by decide) kt) ?_
        refine own_go (g' := (mkF m 26 #[.val (.ref a1)] [(.int (2 : Int32))])) (fun t kt => XS.iconst X5.here hx rfl (hb hby own_d3_25) kt) ?_
        exact own_retI X5 hx hlk hret (hb hby own_d3_26) e5 N0 (by decide) (by decide) (⟨by unfold own_rank; rw [if_neg hc2, if_neg hc4, if_pos hc6], rfl⟩)
      · refine own_go (g' := (mkF m 27 #[.val (.ref a1)] [])) (fun t kt => Jvm.RoadKit.acmp (g := (mkF m 22 #[.val (.ref a1)] [(.ref w), (.ref a1)])) X5 hx rfl rfl rfl (pc0 := 22) (pc' := 27) (same := false) rfl (hb hby own_d3_22) rfl (decide_eq_false fun q => hc6 (Value.ref.inj q)) (by decide) (by decide) kt) ?_
        refine own_go (g' := (mkF m 28 #[.val (.ref a1)] [(.int (-1 : Int32))])) (fun t kt => XS.iconst X5.here hx rfl (hb hby own_d3_27) kt) ?_
        exact own_retI X5 hx hlk hret (hb hby own_d3_28) e5 N0 (by decide) (by decide) (⟨by unfold own_rank; rw [if_neg hc2, if_neg hc4, if_neg hc6], rfl⟩)
theorem own_d4_0 : decode jdk_29_method_69_code 0 = .ok (.iload_n 0, 1) := by decide +kernel
theorem own_d4_1 : decode jdk_29_method_69_code 1 = .ok (.iload_n 1, 1) := by decide +kernel
theorem own_d4_2 : decode jdk_29_method_69_code 2 = .ok (.if_icmp .gt 7, 3) := by decide +kernel
theorem own_d4_5 : decode jdk_29_method_69_code 5 = .ok (.iload_n 0, 1) := by decide +kernel
theorem own_d4_6 : decode jdk_29_method_69_code 6 = .ok (.goto 4, 3) := by decide +kernel
theorem own_d4_9 : decode jdk_29_method_69_code 9 = .ok (.iload_n 1, 1) := by decide +kernel
theorem own_d4_10 : decode jdk_29_method_69_code 10 = .ok (.ireturn, 1) := by decide +kernel
theorem own_ef_own_minm (m : MethodId) (x0 : Int32) (x1 : Int32) : entryFrame m #[(.int x0), (.int x1)] 2 = mkF m 0 #[.val (.int x0), .val (.int x1)] [] := by first | (simp [entryFrame, mkF, argsToLocals, Value.category]; done) | rfl
set_option maxRecDepth 65536 in
set_option maxHeartbeats 40000000 in
theorem own_minm (l : Launch) (Z : State) (a0 : Array Value) (hw : ∀ d ∈ tables_1, d.before a0 Z = true) (p1 p2 : Int32) (h0 : Heap) (n0 : Nat) (Z0 : n0 ≤ h0.size)  :
    OCon l (⟨"java/lang/Math", "min", "(II)I"⟩ : MethodName) jdk_29_method_69_code 2 (some .int) ({ frames := 0, cells := 0, slots := 0, locals := 0 } : Room) Z #[(.int p1), (.int p2)] h0 n0 (fun v h => v = some (.int (own_min p1 p2)) ∧ h = h0) := by
  refine own_body (Jvm.Free.JP.mathPlain rfl (by decide +kernel)) ?_
  intro p e s m below meth c T0 hx hZ hby hml hown hnm hret hlk e0 X0
  replace hown : s.vm.findClass "java/lang/Math" = some m.cls := hown
  replace hnm : meth.name = "min" := hnm
  have N0 := Fr.nil n0
  have K0 : Keep h0 h0 [] := Keep.refl _ _
  refine own_at (own_ef_own_minm m p1 p2) ?_
  refine own_go (g' := (mkF m 1 #[.val (.int p1), .val (.int p2)] [(.int p1)])) (fun t kt => XS.iloadN X0.here hx rfl (hb hby own_d4_0) rfl kt) ?_
  refine own_go (g' := (mkF m 2 #[.val (.int p1), .val (.int p2)] [(.int p2), (.int p1)])) (fun t kt => XS.iloadN X0.here hx rfl (hb hby own_d4_1) rfl kt) ?_
  by_cases hc1 : p2 < p1
  · refine own_go (g' := (mkF m 9 #[.val (.int p1), .val (.int p2)] [])) (fun t kt => XS.icmpYes X0.here hx rfl (pc0 := 2) (pc' := 9) rfl (hb hby own_d4_2) rfl (tlt hc1).2.2.1 (by decide) (by decide) kt) ?_
    refine own_go (g' := (mkF m 10 #[.val (.int p1), .val (.int p2)] [(.int p2)])) (fun t kt => XS.iloadN X0.here hx rfl (hb hby own_d4_9) rfl kt) ?_
    exact own_retI X0 hx hlk hret (hb hby own_d4_10) e0 N0 (by decide) (by decide) (⟨by unfold own_min; rw [if_pos hc1], rfl⟩)
  · refine own_go (g' := (mkF m 5 #[.val (.int p1), .val (.int p2)] [])) (fun t kt => XS.icmpNo X0.here hx rfl (hb hby own_d4_2) rfl (flt hc1).2.2.1 kt) ?_
    refine own_go (g' := (mkF m 6 #[.val (.int p1), .val (.int p2)] [(.int p1)])) (fun t kt => XS.iloadN X0.here hx rfl (hb hby own_d4_5) rfl kt) ?_
    refine own_go (g' := (mkF m 10 #[.val (.int p1), .val (.int p2)] [(.int p1)])) (fun t kt => XS.goto X0.here hx rfl (pc0 := 6) (pc' := 10) rfl (hb hby own_d4_6) (by decide) (by decide) kt) ?_
    exact own_retI X0 hx hlk hret (hb hby own_d4_10) e0 N0 (by decide) (by decide) (⟨by unfold own_min; rw [if_neg hc1], rfl⟩)
theorem own_pd0 : parseMethodDescriptor "(I)Lcom/example/keen_odds/keenodds/solve/Verdict;" = some ⟨[.int], some (.object "com/example/keen_odds/keenodds/solve/Verdict")⟩ := by decide +kernel
theorem own_pd1 : parseMethodDescriptor "(Lcom/example/keen_odds/keenodds/solve/Verdict;)Lcom/example/keen_odds/keenodds/solve/Verdict;" = some ⟨[(.object "com/example/keen_odds/keenodds/solve/Verdict")], some (.object "com/example/keen_odds/keenodds/solve/Verdict")⟩ := by decide +kernel
theorem own_pd2 : parseMethodDescriptor "(Lcom/example/keen_odds/keenodds/solve/Verdict;)I" = some ⟨[(.object "com/example/keen_odds/keenodds/solve/Verdict")], some .int⟩ := by decide +kernel
theorem own_pd3 : parseMethodDescriptor "(II)I" = some ⟨[.int, .int], some .int⟩ := by decide +kernel
theorem own_pn_0 : plainFor x = true := by first | exact plainFor_of_name (by first | (simp [plainName, overriddenIn]; done) | decide +kernel) | decide +kernel
theorem own_ef_own_law (m : MethodId) (x0 : Int32) (x1 : Int32) : entryFrame m #[(.int x0), (.int x1)] maxLocals = mkF m 0 #[.val (.int x0), .val (.int x1), .unset, .unset, .unset] [] := by first | (simp [entryFrame, mkF, argsToLocals, Value.category, maxLocals]; done) | rfl
set_option maxRecDepth 65536 in
set_option maxHeartbeats 40000000 in
theorem own_law (l : Launch) (Z : State) (a0 : Array Value) (hw : ∀ d ∈ tables_1, d.before a0 Z = true) (p1 p2 : Int32) (f u w : Addr) (h0 : Heap) (n0 : Nat) (Z0 : n0 ≤ h0.size) (S_f : Sta Z h0 "com/example/keen_odds/keenodds/solve/Verdict" "FAILS" "Lcom/example/keen_odds/keenodds/solve/Verdict;" (.ref f)) (S_u : Sta Z h0 "com/example/keen_odds/keenodds/solve/Verdict" "UNKNOWN" "Lcom/example/keen_odds/keenodds/solve/Verdict;" (.ref u)) (S_w : Sta Z h0 "com/example/keen_odds/keenodds/solve/Verdict" "HOLDS" "Lcom/example/keen_odds/keenodds/solve/Verdict;" (.ref w)) (E_f : Exa Z h0 f "com/example/keen_odds/keenodds/solve/Verdict") (E_u : Exa Z h0 u "com/example/keen_odds/keenodds/solve/Verdict") (E_w : Exa Z h0 w "com/example/keen_odds/keenodds/solve/Verdict") (h1 : f ≠ u) (h2 : f ≠ w) (h3 : u ≠ w) :
    OCon l x code maxLocals ret room_1 Z #[(.int p1), (.int p2)] h0 n0 (fun v h => v = some (.int 1)) := by
  refine own_body own_pn_0 ?_
  intro p e s m below meth c T0 hx hZ hby hml hown hnm hret hlk e0 X0
  replace hml : c.maxLocals = 5 := hml
  replace hown : s.vm.findClass "com/example/keen_odds/keenodds/solve/VerdictAndPinLaw" = some m.cls := hown
  replace hnm : meth.name = "law" := hnm
  have N0 := Fr.nil n0
  have K0 : Keep h0 h0 [] := Keep.refl _ _
  refine own_at (own_ef_own_law m p1 p2) ?_
  refine own_go (g' := (mkF m 1 #[.val (.int p1), .val (.int p2), .unset, .unset, .unset] [(.int p1)])) (fun t kt => XS.iloadN X0.here hx rfl (hb hby at_0) rfl kt) ?_
  refine own_go (g' := (mkF m 3 #[.val (.int p1), .val (.int p2), .unset, .unset, .unset] [(.int (2147483647 : Int32)), (.int p1)])) (fun t kt => X0.ldcInt hx hown (mvT hZ (hw _ (List.mem_of_getElem? (i := 0) rfl))) (g := (mkF m 1 #[.val (.int p1), .val (.int p2), .unset, .unset, .unset] [(.int p1)])) rfl (hb hby at_1) t kt) ?_
  refine own_go (g' := (mkF m 4 #[.val (.int p1), .val (.int p2), .unset, .unset, .unset] [(.int (p1 &&& (2147483647 : Int32)))])) (fun t kt => XS.iand X0.here hx rfl (hb hby at_3) rfl kt) ?_
  refine own_go (g' := (mkF m 5 #[.val (.int p1), .val (.int p2), .unset, .unset, .unset] [(.int (3 : Int32)), (.int (p1 &&& (2147483647 : Int32)))])) (fun t kt => XS.iconst X0.here hx rfl (hb hby at_4) kt) ?_
  refine own_go (g' := (mkF m 6 #[.val (.int p1), .val (.int p2), .unset, .unset, .unset] [(.int ((p1 &&& (2147483647 : Int32)) % (3 : Int32)))])) (fun t kt => iremM X0 hx rfl (hb hby at_5) rfl (by decide) kt) ?_
  refine own_callS X0 hx hZ (W := 0) (argsL := [(.int ((p1 &&& (2147483647 : Int32)) % (3 : Int32)))]) (rest := []) hown (hw _ (List.mem_of_getElem? (i := 1) rfl)) (hw _ (List.mem_of_getElem? (i := 2) rfl)) (hw _ (List.mem_of_getElem? (i := 3) rfl)) (hw _ (List.mem_of_getElem? (i := 4) rfl)) (by decide) (own_byrank l Z a0 hw ((p1 &&& (2147483647 : Int32)) % (3 : Int32)) f u w h0 n0 Z0 S_f S_u S_w) (by decide) (by decide) (g := (mkF m 6 #[.val (.int p1), .val (.int p2), .unset, .unset, .unset] [(.int ((p1 &&& (2147483647 : Int32)) % (3 : Int32)))])) rfl (by rw [hml]; rfl) (lenOf own_pd0 rfl) rfl (by show 2 * 0 + _ ≤ _; exact Nat.le_of_eq rfl) (hb hby at_6) e0 N0 (by decide) (by decide) (fun v1 T1 L1 X1 N1 hq1 => ?_)
  obtain ⟨rfl, e1⟩ := hq1
  have EX1 := own_exr ((p1 &&& (2147483647 : Int32)) % (3 : Int32)) E_f E_u E_w
  show OEnds _ _ _ _ _ _ T1 (mkF m 9 #[.val (.int p1), .val (.int p2), .unset, .unset, .unset] [(.ref (own_rk ((p1 &&& (2147483647 : Int32)) % (3 : Int32)) f u w))])
  refine own_go (g' := (mkF m 10 #[.val (.int p1), .val (.int p2), .val (.ref (own_rk ((p1 &&& (2147483647 : Int32)) % (3 : Int32)) f u w)), .unset, .unset] [])) (fun t kt => XS.astoreN X1.here hx rfl (hb hby at_9) rfl rfl (l' := #[.val (.int p1), .val (.int p2), .val (.ref (own_rk ((p1 &&& (2147483647 : Int32)) % (3 : Int32)) f u w)), .unset, .unset]) rfl kt) ?_
  refine own_go (g' := (mkF m 11 #[.val (.int p1), .val (.int p2), .val (.ref (own_rk ((p1 &&& (2147483647 : Int32)) % (3 : Int32)) f u w)), .unset, .unset] [(.int p2)])) (fun t kt => XS.iloadN X1.here hx rfl (hb hby at_10) rfl kt) ?_
  refine own_go (g' := (mkF m 13 #[.val (.int p1), .val (.int p2), .val (.ref (own_rk ((p1 &&& (2147483647 : Int32)) % (3 : Int32)) f u w)), .unset, .unset] [(.int (2147483647 : Int32)), (.int p2)])) (fun t kt => X1.ldcInt hx hown (mvT hZ (hw _ (List.mem_of_getElem? (i := 0) rfl))) (g := (mkF m 11 #[.val (.int p1), .val (.int p2), .val (.ref (own_rk ((p1 &&& (2147483647 : Int32)) % (3 : Int32)) f u w)), .unset, .unset] [(.int p2)])) rfl (hb hby at_11) t kt) ?_
  refine own_go (g' := (mkF m 14 #[.val (.int p1), .val (.int p2), .val (.ref (own_rk ((p1 &&& (2147483647 : Int32)) % (3 : Int32)) f u w)), .unset, .unset] [(.int (p2 &&& (2147483647 : Int32)))])) (fun t kt => XS.iand X1.here hx rfl (hb hby at_13) rfl kt) ?_
  refine own_go (g' := (mkF m 15 #[.val (.int p1), .val (.int p2), .val (.ref (own_rk ((p1 &&& (2147483647 : Int32)) % (3 : Int32)) f u w)), .unset, .unset] [(.int (3 : Int32)), (.int (p2 &&& (2147483647 : Int32)))])) (fun t kt => XS.iconst X1.here hx rfl (hb hby at_14) kt) ?_
  refine own_go (g' := (mkF m 16 #[.val (.int p1), .val (.int p2), .val (.ref (own_rk ((p1 &&& (2147483647 : Int32)) % (3 : Int32)) f u w)), .unset, .unset] [(.int ((p2 &&& (2147483647 : Int32)) % (3 : Int32)))])) (fun t kt => iremM X1 hx rfl (hb hby at_15) rfl (by decide) kt) ?_
  refine own_callS X1 hx hZ (W := 0) (argsL := [(.int ((p2 &&& (2147483647 : Int32)) % (3 : Int32)))]) (rest := []) hown (hw _ (List.mem_of_getElem? (i := 1) rfl)) (hw _ (List.mem_of_getElem? (i := 2) rfl)) (hw _ (List.mem_of_getElem? (i := 3) rfl)) (hw _ (List.mem_of_getElem? (i := 4) rfl)) (by decide) (own_byrank l Z a0 hw ((p2 &&& (2147483647 : Int32)) % (3 : Int32)) f u w h0 n0 Z0 S_f S_u S_w) (by decide) (by decide) (g := (mkF m 16 #[.val (.int p1), .val (.int p2), .val (.ref (own_rk ((p1 &&& (2147483647 : Int32)) % (3 : Int32)) f u w)), .unset, .unset] [(.int ((p2 &&& (2147483647 : Int32)) % (3 : Int32)))])) rfl (by rw [hml]; rfl) (lenOf own_pd0 rfl) rfl (by show 2 * 0 + _ ≤ _; exact Nat.le_of_eq rfl) (hb hby at_16) e1 N1 (by decide) (by decide) (fun v2 T2 L2 X2 N2 hq2 => ?_)
  obtain ⟨rfl, e2⟩ := hq2
  have EX2 := own_exr ((p2 &&& (2147483647 : Int32)) % (3 : Int32)) E_f E_u E_w
  show OEnds _ _ _ _ _ _ T2 (mkF m 19 #[.val (.int p1), .val (.int p2), .val (.ref (own_rk ((p1 &&& (2147483647 : Int32)) % (3 : Int32)) f u w)), .unset, .unset] [(.ref (own_rk ((p2 &&& (2147483647 : Int32)) % (3 : Int32)) f u w))])
  refine own_go (g' := (mkF m 20 #[.val (.int p1), .val (.int p2), .val (.ref (own_rk ((p1 &&& (2147483647 : Int32)) % (3 : Int32)) f u w)), .val (.ref (own_rk ((p2 &&& (2147483647 : Int32)) % (3 : Int32)) f u w)), .unset] [])) (fun t kt => XS.astoreN X2.here hx rfl (hb hby at_19) rfl rfl (l' := #[.val (.int p1), .val (.int p2), .val (.ref (own_rk ((p1 &&& (2147483647 : Int32)) % (3 : Int32)) f u w)), .val (.ref (own_rk ((p2 &&& (2147483647 : Int32)) % (3 : Int32)) f u w)), .unset]) rfl kt) ?_
  refine own_go (g' := (mkF m 21 #[.val (.int p1), .val (.int p2), .val (.ref (own_rk ((p1 &&& (2147483647 : Int32)) % (3 : Int32)) f u w)), .val (.ref (own_rk ((p2 &&& (2147483647 : Int32)) % (3 : Int32)) f u w)), .unset] [(.ref (own_rk ((p1 &&& (2147483647 : Int32)) % (3 : Int32)) f u w))])) (fun t kt => XS.aloadN X2.here hx rfl (hb hby at_20) rfl rfl kt) ?_
  refine own_go (g' := (mkF m 22 #[.val (.int p1), .val (.int p2), .val (.ref (own_rk ((p1 &&& (2147483647 : Int32)) % (3 : Int32)) f u w)), .val (.ref (own_rk ((p2 &&& (2147483647 : Int32)) % (3 : Int32)) f u w)), .unset] [(.ref (own_rk ((p2 &&& (2147483647 : Int32)) % (3 : Int32)) f u w)), (.ref (own_rk ((p1 &&& (2147483647 : Int32)) % (3 : Int32)) f u w))])) (fun t kt => XS.aloadN X2.here hx rfl (hb hby at_21) rfl rfl kt) ?_
  refine own_callV X2 hx hZ (W := 0) (argsL := [(.ref (own_rk ((p2 &&& (2147483647 : Int32)) % (3 : Int32)) f u w))]) (rest := []) hown (hw _ (List.mem_of_getElem? (i := 8) rfl)) (hw _ (List.mem_of_getElem? (i := 9) rfl)) (hw _ (List.mem_of_getElem? (i := 11) rfl)) (hw _ (List.mem_of_getElem? (i := 10) rfl)) (hw _ (List.mem_of_getElem? (i := 6) rfl)) (hw _ (List.mem_of_getElem? (i := 12) rfl)) (by decide) (own_andm l Z a0 hw (own_rk ((p1 &&& (2147483647 : Int32)) % (3 : Int32)) f u w) (own_rk ((p2 &&& (2147483647 : Int32)) % (3 : Int32)) f u w) f u w h0 n0 Z0 S_f S_u S_w) EX1 (by decide) (by decide) (g := (mkF m 22 #[.val (.int p1), .val (.int p2), .val (.ref (own_rk ((p1 &&& (2147483647 : Int32)) % (3 : Int32)) f u w)), .val (.ref (own_rk ((p2 &&& (2147483647 : Int32)) % (3 : Int32)) f u w)), .unset] [(.ref (own_rk ((p2 &&& (2147483647 : Int32)) % (3 : Int32)) f u w)), (.ref (own_rk ((p1 &&& (2147483647 : Int32)) % (3 : Int32)) f u w))])) rfl (by rw [hml]; rfl) (lenOf own_pd1 rfl) rfl (by show 2 * 0 + _ ≤ _; exact Nat.le_of_eq rfl) (hb hby at_22) e2 N2 (by decide) (by decide) (fun v3 T3 L3 X3 N3 hq3 => ?_)
  obtain ⟨rfl, e3⟩ := hq3
  show OEnds _ _ _ _ _ _ T3 (mkF m 25 #[.val (.int p1), .val (.int p2), .val (.ref (own_rk ((p1 &&& (2147483647 : Int32)) % (3 : Int32)) f u w)), .val (.ref (own_rk ((p2 &&& (2147483647 : Int32)) % (3 : Int32)) f u w)), .unset] [(.ref (own_and (own_rk ((p1 &&& (2147483647 : Int32)) % (3 : Int32)) f u w) (own_rk ((p2 &&& (2147483647 : Int32)) % (3 : Int32)) f u w) f u w))])
  refine own_go (g' := (mkF m 27 #[.val (.int p1), .val (.int p2), .val (.ref (own_rk ((p1 &&& (2147483647 : Int32)) % (3 : Int32)) f u w)), .val (.ref (own_rk ((p2 &&& (2147483647 : Int32)) % (3 : Int32)) f u w)), .val (.ref (own_and (own_rk ((p1 &&& (2147483647 : Int32)) % (3 : Int32)) f u w) (own_rk ((p2 &&& (2147483647 : Int32)) % (3 : Int32)) f u w) f u w))] [])) (fun t kt => XS.astore X3.here hx rfl (hb hby at_25) rfl rfl (l' := #[.val (.int p1), .val (.int p2), .val (.ref (own_rk ((p1 &&& (2147483647 : Int32)) % (3 : Int32)) f u w)), .val (.ref (own_rk ((p2 &&& (2147483647 : Int32)) % (3 : Int32)) f u w)), .val (.ref (own_and (own_rk ((p1 &&& (2147483647 : Int32)) % (3 : Int32)) f u w) (own_rk ((p2 &&& (2147483647 : Int32)) % (3 : Int32)) f u w) f u w))]) rfl kt) ?_
  refine own_go (g' := (mkF m 29 #[.val (.int p1), .val (.int p2), .val (.ref (own_rk ((p1 &&& (2147483647 : Int32)) % (3 : Int32)) f u w)), .val (.ref (own_rk ((p2 &&& (2147483647 : Int32)) % (3 : Int32)) f u w)), .val (.ref (own_and (own_rk ((p1 &&& (2147483647 : Int32)) % (3 : Int32)) f u w) (own_rk ((p2 &&& (2147483647 : Int32)) % (3 : Int32)) f u w) f u w))] [(.ref (own_and (own_rk ((p1 &&& (2147483647 : Int32)) % (3 : Int32)) f u w) (own_rk ((p2 &&& (2147483647 : Int32)) % (3 : Int32)) f u w) f u w))])) (fun t kt => XS.aload X3.here hx rfl (hb hby at_27) rfl rfl kt) ?_
  refine own_go (g' := (mkF m 30 #[.val (.int p1), .val (.int p2), .val (.ref (own_rk ((p1 &&& (2147483647 : Int32)) % (3 : Int32)) f u w)), .val (.ref (own_rk ((p2 &&& (2147483647 : Int32)) % (3 : Int32)) f u w)), .val (.ref (own_and (own_rk ((p1 &&& (2147483647 : Int32)) % (3 : Int32)) f u w) (own_rk ((p2 &&& (2147483647 : Int32)) % (3 : Int32)) f u w) f u w))] [(.ref (own_rk ((p1 &&& (2147483647 : Int32)) % (3 : Int32)) f u w)), (.ref (own_and (own_rk ((p1 &&& (2147483647 : Int32)) % (3 : Int32)) f u w) (own_rk ((p2 &&& (2147483647 : Int32)) % (3 : Int32)) f u w) f u w))])) (fun t kt => XS.aloadN X3.here hx rfl (hb hby at_29) rfl rfl kt) ?_
  refine own_callS X3 hx hZ (W := 1) (argsL := [(.ref (own_rk ((p1 &&& (2147483647 : Int32)) % (3 : Int32)) f u w))]) (rest := [(.ref (own_and (own_rk ((p1 &&& (2147483647 : Int32)) % (3 : Int32)) f u w) (own_rk ((p2 &&& (2147483647 : Int32)) % (3 : Int32)) f u w) f u w))]) hown (hw _ (List.mem_of_getElem? (i := 14) rfl)) (hw _ (List.mem_of_getElem? (i := 15) rfl)) (hw _ (List.mem_of_getElem? (i := 3) rfl)) (hw _ (List.mem_of_getElem? (i := 16) rfl)) (by decide) (own_rankm l Z a0 hw (own_rk ((p1 &&& (2147483647 : Int32)) % (3 : Int32)) f u w) f u w h0 n0 Z0 S_f S_u S_w) (by decide) (by decide) (g := (mkF m 30 #[.val (.int p1), .val (.int p2), .val (.ref (own_rk ((p1 &&& (2147483647 : Int32)) % (3 : Int32)) f u w)), .val (.ref (own_rk ((p2 &&& (2147483647 : Int32)) % (3 : Int32)) f u w)), .val (.ref (own_and (own_rk ((p1 &&& (2147483647 : Int32)) % (3 : Int32)) f u w) (own_rk ((p2 &&& (2147483647 : Int32)) % (3 : Int32)) f u w) f u w))] [(.ref (own_rk ((p1 &&& (2147483647 : Int32)) % (3 : Int32)) f u w)), (.ref (own_and (own_rk ((p1 &&& (2147483647 : Int32)) % (3 : Int32)) f u w) (own_rk ((p2 &&& (2147483647 : Int32)) % (3 : Int32)) f u w) f u w))])) rfl (by rw [hml]; rfl) (lenOf own_pd2 rfl) rfl (by show 2 * 0 + _ ≤ _; exact Nat.le_of_eq rfl) (hb hby at_30) e3 N3 (by decide) (by decide) (fun v4 T4 L4 X4 N4 hq4 => ?_)
  obtain ⟨rfl, e4⟩ := hq4
  show OEnds _ _ _ _ _ _ T4 (mkF m 33 #[.val (.int p1), .val (.int p2), .val (.ref (own_rk ((p1 &&& (2147483647 : Int32)) % (3 : Int32)) f u w)), .val (.ref (own_rk ((p2 &&& (2147483647 : Int32)) % (3 : Int32)) f u w)), .val (.ref (own_and (own_rk ((p1 &&& (2147483647 : Int32)) % (3 : Int32)) f u w) (own_rk ((p2 &&& (2147483647 : Int32)) % (3 : Int32)) f u w) f u w))] [(.int (own_rank (own_rk ((p1 &&& (2147483647 : Int32)) % (3 : Int32)) f u w) f u w)), (.ref (own_and (own_rk ((p1 &&& (2147483647 : Int32)) % (3 : Int32)) f u w) (own_rk ((p2 &&& (2147483647 : Int32)) % (3 : Int32)) f u w) f u w))])
  refine own_go (g' := (mkF m 34 #[.val (.int p1), .val (.int p2), .val (.ref (own_rk ((p1 &&& (2147483647 : Int32)) % (3 : Int32)) f u w)), .val (.ref (own_rk ((p2 &&& (2147483647 : Int32)) % (3 : Int32)) f u w)), .val (.ref (own_and (own_rk ((p1 &&& (2147483647 : Int32)) % (3 : Int32)) f u w) (own_rk ((p2 &&& (2147483647 : Int32)) % (3 : Int32)) f u w) f u w))] [(.ref (own_rk ((p2 &&& (2147483647 : Int32)) % (3 : Int32)) f u w)), (.int (own_rank (own_rk ((p1 &&& (2147483647 : Int32)) % (3 : Int32)) f u w) f u w)), (.ref (own_and (own_rk ((p1 &&& (2147483647 : Int32)) % (3 : Int32)) f u w) (own_rk ((p2 &&& (2147483647 : Int32)) % (3 : Int32)) f u w) f u w))])) (fun t kt => XS.aloadN X4.here hx rfl (hb hby at_33) rfl rfl kt) ?_
  refine own_callS X4 hx hZ (W := 2) (argsL := [(.ref (own_rk ((p2 &&& (2147483647 : Int32)) % (3 : Int32)) f u w))]) (rest := [(.int (own_rank (own_rk ((p1 &&& (2147483647 : Int32)) % (3 : Int32)) f u w) f u w)), (.ref (own_and (own_rk ((p1 &&& (2147483647 : Int32)) % (3 : Int32)) f u w) (own_rk ((p2 &&& (2147483647 : Int32)) % (3 : Int32)) f u w) f u w))]) hown (hw _ (List.mem_of_getElem? (i := 14) rfl)) (hw _ (List.mem_of_getElem? (i := 15) rfl)) (hw _ (List.mem_of_getElem? (i := 3) rfl)) (hw _ (List.mem_of_getElem? (i := 16) rfl)) (by decide) (own_rankm l Z a0 hw (own_rk ((p2 &&& (2147483647 : Int32)) % (3 : Int32)) f u w) f u w h0 n0 Z0 S_f S_u S_w) (by decide) (by decide) (g := (mkF m 34 #[.val (.int p1), .val (.int p2), .val (.ref (own_rk ((p1 &&& (2147483647 : Int32)) % (3 : Int32)) f u w)), .val (.ref (own_rk ((p2 &&& (2147483647 : Int32)) % (3 : Int32)) f u w)), .val (.ref (own_and (own_rk ((p1 &&& (2147483647 : Int32)) % (3 : Int32)) f u w) (own_rk ((p2 &&& (2147483647 : Int32)) % (3 : Int32)) f u w) f u w))] [(.ref (own_rk ((p2 &&& (2147483647 : Int32)) % (3 : Int32)) f u w)), (.int (own_rank (own_rk ((p1 &&& (2147483647 : Int32)) % (3 : Int32)) f u w) f u w)), (.ref (own_and (own_rk ((p1 &&& (2147483647 : Int32)) % (3 : Int32)) f u w) (own_rk ((p2 &&& (2147483647 : Int32)) % (3 : Int32)) f u w) f u w))])) rfl (by rw [hml]; rfl) (lenOf own_pd2 rfl) rfl (by show 2 * 0 + _ ≤ _; exact Nat.le_of_eq rfl) (hb hby at_34) e4 N4 (by decide) (by decide) (fun v5 T5 L5 X5 N5 hq5 => ?_)
  obtain ⟨rfl, e5⟩ := hq5
  show OEnds _ _ _ _ _ _ T5 (mkF m 37 #[.val (.int p1), .val (.int p2), .val (.ref (own_rk ((p1 &&& (2147483647 : Int32)) % (3 : Int32)) f u w)), .val (.ref (own_rk ((p2 &&& (2147483647 : Int32)) % (3 : Int32)) f u w)), .val (.ref (own_and (own_rk ((p1 &&& (2147483647 : Int32)) % (3 : Int32)) f u w) (own_rk ((p2 &&& (2147483647 : Int32)) % (3 : Int32)) f u w) f u w))] [(.int (own_rank (own_rk ((p2 &&& (2147483647 : Int32)) % (3 : Int32)) f u w) f u w)), (.int (own_rank (own_rk ((p1 &&& (2147483647 : Int32)) % (3 : Int32)) f u w) f u w)), (.ref (own_and (own_rk ((p1 &&& (2147483647 : Int32)) % (3 : Int32)) f u w) (own_rk ((p2 &&& (2147483647 : Int32)) % (3 : Int32)) f u w) f u w))])
  refine own_callS X5 hx hZ (W := 1) (argsL := [(.int (own_rank (own_rk ((p1 &&& (2147483647 : Int32)) % (3 : Int32)) f u w) f u w)), (.int (own_rank (own_rk ((p2 &&& (2147483647 : Int32)) % (3 : Int32)) f u w) f u w))]) (rest := [(.ref (own_and (own_rk ((p1 &&& (2147483647 : Int32)) % (3 : Int32)) f u w) (own_rk ((p2 &&& (2147483647 : Int32)) % (3 : Int32)) f u w) f u w))]) hown (hw _ (List.mem_of_getElem? (i := 17) rfl)) (hw _ (List.mem_of_getElem? (i := 18) rfl)) (hw _ (List.mem_of_getElem? (i := 19) rfl)) (hw _ (List.mem_of_getElem? (i := 20) rfl)) (by decide) (own_minm l Z a0 hw (own_rank (own_rk ((p1 &&& (2147483647 : Int32)) % (3 : Int32)) f u w) f u w) (own_rank (own_rk ((p2 &&& (2147483647 : Int32)) % (3 : Int32)) f u w) f u w) h0 n0 Z0) (by decide) (by decide) (g := (mkF m 37 #[.val (.int p1), .val (.int p2), .val (.ref (own_rk ((p1 &&& (2147483647 : Int32)) % (3 : Int32)) f u w)), .val (.ref (own_rk ((p2 &&& (2147483647 : Int32)) % (3 : Int32)) f u w)), .val (.ref (own_and (own_rk ((p1 &&& (2147483647 : Int32)) % (3 : Int32)) f u w) (own_rk ((p2 &&& (2147483647 : Int32)) % (3 : Int32)) f u w) f u w))] [(.int (own_rank (own_rk ((p2 &&& (2147483647 : Int32)) % (3 : Int32)) f u w) f u w)), (.int (own_rank (own_rk ((p1 &&& (2147483647 : Int32)) % (3 : Int32)) f u w) f u w)), (.ref (own_and (own_rk ((p1 &&& (2147483647 : Int32)) % (3 : Int32)) f u w) (own_rk ((p2 &&& (2147483647 : Int32)) % (3 : Int32)) f u w) f u w))])) rfl (by rw [hml]; rfl) (lenOf own_pd3 rfl) rfl (by show 2 * 0 + _ ≤ _; exact Nat.le_of_eq rfl) (hb hby at_37) e5 N5 (by decide) (by decide) (fun v6 T6 L6 X6 N6 hq6 => ?_)
  obtain ⟨rfl, e6⟩ := hq6
  show OEnds _ _ _ _ _ _ T6 (mkF m 40 #[.val (.int p1), .val (.int p2), .val (.ref (own_rk ((p1 &&& (2147483647 : Int32)) % (3 : Int32)) f u w)), .val (.ref (own_rk ((p2 &&& (2147483647 : Int32)) % (3 : Int32)) f u w)), .val (.ref (own_and (own_rk ((p1 &&& (2147483647 : Int32)) % (3 : Int32)) f u w) (own_rk ((p2 &&& (2147483647 : Int32)) % (3 : Int32)) f u w) f u w))] [(.int (own_min (own_rank (own_rk ((p1 &&& (2147483647 : Int32)) % (3 : Int32)) f u w) f u w) (own_rank (own_rk ((p2 &&& (2147483647 : Int32)) % (3 : Int32)) f u w) f u w))), (.ref (own_and (own_rk ((p1 &&& (2147483647 : Int32)) % (3 : Int32)) f u w) (own_rk ((p2 &&& (2147483647 : Int32)) % (3 : Int32)) f u w) f u w))])
  refine own_callS X6 hx hZ (W := 1) (argsL := [(.int (own_min (own_rank (own_rk ((p1 &&& (2147483647 : Int32)) % (3 : Int32)) f u w) f u w) (own_rank (own_rk ((p2 &&& (2147483647 : Int32)) % (3 : Int32)) f u w) f u w)))]) (rest := [(.ref (own_and (own_rk ((p1 &&& (2147483647 : Int32)) % (3 : Int32)) f u w) (own_rk ((p2 &&& (2147483647 : Int32)) % (3 : Int32)) f u w) f u w))]) hown (hw _ (List.mem_of_getElem? (i := 1) rfl)) (hw _ (List.mem_of_getElem? (i := 2) rfl)) (hw _ (List.mem_of_getElem? (i := 3) rfl)) (hw _ (List.mem_of_getElem? (i := 4) rfl)) (by decide) (own_byrank l Z a0 hw (own_min (own_rank (own_rk ((p1 &&& (2147483647 : Int32)) % (3 : Int32)) f u w) f u w) (own_rank (own_rk ((p2 &&& (2147483647 : Int32)) % (3 : Int32)) f u w) f u w)) f u w h0 n0 Z0 S_f S_u S_w) (by decide) (by decide) (g := (mkF m 40 #[.val (.int p1), .val (.int p2), .val (.ref (own_rk ((p1 &&& (2147483647 : Int32)) % (3 : Int32)) f u w)), .val (.ref (own_rk ((p2 &&& (2147483647 : Int32)) % (3 : Int32)) f u w)), .val (.ref (own_and (own_rk ((p1 &&& (2147483647 : Int32)) % (3 : Int32)) f u w) (own_rk ((p2 &&& (2147483647 : Int32)) % (3 : Int32)) f u w) f u w))] [(.int (own_min (own_rank (own_rk ((p1 &&& (2147483647 : Int32)) % (3 : Int32)) f u w) f u w) (own_rank (own_rk ((p2 &&& (2147483647 : Int32)) % (3 : Int32)) f u w) f u w))), (.ref (own_and (own_rk ((p1 &&& (2147483647 : Int32)) % (3 : Int32)) f u w) (own_rk ((p2 &&& (2147483647 : Int32)) % (3 : Int32)) f u w) f u w))])) rfl (by rw [hml]; rfl) (lenOf own_pd0 rfl) rfl (by show 2 * 0 + _ ≤ _; exact Nat.le_of_eq rfl) (hb hby at_40) e6 N6 (by decide) (by decide) (fun v7 T7 L7 X7 N7 hq7 => ?_)
  obtain ⟨rfl, e7⟩ := hq7
  have EX7 := own_exr (own_min (own_rank (own_rk ((p1 &&& (2147483647 : Int32)) % (3 : Int32)) f u w) f u w) (own_rank (own_rk ((p2 &&& (2147483647 : Int32)) % (3 : Int32)) f u w) f u w)) E_f E_u E_w
  show OEnds _ _ _ _ _ _ T7 (mkF m 43 #[.val (.int p1), .val (.int p2), .val (.ref (own_rk ((p1 &&& (2147483647 : Int32)) % (3 : Int32)) f u w)), .val (.ref (own_rk ((p2 &&& (2147483647 : Int32)) % (3 : Int32)) f u w)), .val (.ref (own_and (own_rk ((p1 &&& (2147483647 : Int32)) % (3 : Int32)) f u w) (own_rk ((p2 &&& (2147483647 : Int32)) % (3 : Int32)) f u w) f u w))] [(.ref (own_rk (own_min (own_rank (own_rk ((p1 &&& (2147483647 : Int32)) % (3 : Int32)) f u w) f u w) (own_rank (own_rk ((p2 &&& (2147483647 : Int32)) % (3 : Int32)) f u w) f u w)) f u w)), (.ref (own_and (own_rk ((p1 &&& (2147483647 : Int32)) % (3 : Int32)) f u w) (own_rk ((p2 &&& (2147483647 : Int32)) % (3 : Int32)) f u w) f u w))])
  refine own_go (g' := (mkF m 46 #[.val (.int p1), .val (.int p2), .val (.ref (own_rk ((p1 &&& (2147483647 : Int32)) % (3 : Int32)) f u w)), .val (.ref (own_rk ((p2 &&& (2147483647 : Int32)) % (3 : Int32)) f u w)), .val (.ref (own_and (own_rk ((p1 &&& (2147483647 : Int32)) % (3 : Int32)) f u w) (own_rk ((p2 &&& (2147483647 : Int32)) % (3 : Int32)) f u w) f u w))] [])) (fun t kt => Jvm.RoadKit.acmp (g := (mkF m 43 #[.val (.int p1), .val (.int p2), .val (.ref (own_rk ((p1 &&& (2147483647 : Int32)) % (3 : Int32)) f u w)), .val (.ref (own_rk ((p2 &&& (2147483647 : Int32)) % (3 : Int32)) f u w)), .val (.ref (own_and (own_rk ((p1 &&& (2147483647 : Int32)) % (3 : Int32)) f u w) (own_rk ((p2 &&& (2147483647 : Int32)) % (3 : Int32)) f u w) f u w))] [(.ref (own_rk (own_min (own_rank (own_rk ((p1 &&& (2147483647 : Int32)) % (3 : Int32)) f u w) f u w) (own_rank (own_rk ((p2 &&& (2147483647 : Int32)) % (3 : Int32)) f u w) f u w)) f u w)), (.ref (own_and (own_rk ((p1 &&& (2147483647 : Int32)) % (3 : Int32)) f u w) (own_rk ((p2 &&& (2147483647 : Int32)) % (3 : Int32)) f u w) f u w))])) X7 hx rfl rfl rfl (pc0 := 43) (pc' := 46) (same := true) rfl (hb hby at_43) rfl (decide_eq_true (congrArg Value.ref (own_same _ _ f u w h1 h2 h3))) (by decide) (by decide) kt) ?_
  refine own_go (g' := (mkF m 47 #[.val (.int p1), .val (.int p2), .val (.ref (own_rk ((p1 &&& (2147483647 : Int32)) % (3 : Int32)) f u w)), .val (.ref (own_rk ((p2 &&& (2147483647 : Int32)) % (3 : Int32)) f u w)), .val (.ref (own_and (own_rk ((p1 &&& (2147483647 : Int32)) % (3 : Int32)) f u w) (own_rk ((p2 &&& (2147483647 : Int32)) % (3 : Int32)) f u w) f u w))] [(.int (1 : Int32))])) (fun t kt => XS.iconst X7.here hx rfl (hb hby at_46) kt) ?_
  refine own_go (g' := (mkF m 51 #[.val (.int p1), .val (.int p2), .val (.ref (own_rk ((p1 &&& (2147483647 : Int32)) % (3 : Int32)) f u w)), .val (.ref (own_rk ((p2 &&& (2147483647 : Int32)) % (3 : Int32)) f u w)), .val (.ref (own_and (own_rk ((p1 &&& (2147483647 : Int32)) % (3 : Int32)) f u w) (own_rk ((p2 &&& (2147483647 : Int32)) % (3 : Int32)) f u w) f u w))] [(.int (1 : Int32))])) (fun t kt => XS.goto X7.here hx rfl (pc0 := 47) (pc' := 51) rfl (hb hby at_47) (by decide) (by decide) kt) ?_
  exact own_retN X7 hx hlk (t := .boolean) (z' := (1 : Int32)) hret (by simp) (hb hby at_51) rfl e7 N7 (by decide) (by decide) (rfl)
set_option maxRecDepth 65536 in
set_option maxHeartbeats 40000000 in
theorem comes_1 {Post : Tables → Env → Array Value → State → Outcome → State → Prop} (hpost : ∀ tb e args s v u, (limb_1_1.after args s (.returned v) u = true ∧ limb_1_2.after args s (.returned v) u = true ∧ True) → FrameEnd s (.returned v) u (Jvm.fieldLocs frame_1_writes args s ++ Jvm.arrayLocs frame_1_arrays args s ++ Jvm.staticLocs frame_1_statics s) 0 0 → Post tb e args s (.returned v) u) :
    ArmFor flags0 classFile x code maxLocals ret World_1 tables_1 room_1 Calls_1 rest_1 Pre_1 Post := by
  intro l hfl _ _ p e ha hc hk s m args below hf hA hF happ hP
  obtain ⟨hcalls, hrest, hpre⟩ := hP
  obtain ⟨-, -, -, hnamed, -, -, -, hat⟩ := (Spec.applies_iff hf).mp happ
  obtain ⟨hg, hn⟩ := and_e (Cond.before_iff.mp (show (Jvm.Cond.and given_1 narrow_1).before args s = true from hpre))
  obtain ⟨g0, r0⟩ := and_e hg
  obtain ⟨k0, k1⟩ := and_e r0
  obtain ⟨w0, w1, rfl⟩ : ∃ w0 w1 : Value, args = #[w0, w1] := by
    have hs : args.size = 2 := by simpa [Cond.value, given_1] using g0
    obtain ⟨L⟩ := args
    match L, hs with
    | [w0, w1], _ => exact ⟨w0, w1, rfl⟩
  have hw := fun d (hd : d ∈ tables_1) => atoms_spec (ws := Jvm.Cond.code x code maxLocals ret :: tables_1) hat d (List.mem_cons_of_mem _ hd)
  have hfit : Fit s := fun {y c} hc i hi => by
    obtain ⟨ha, rfl⟩ := Array.getElem?_eq_some_iff.mp hc
    have q := List.all_eq_true.mp ((Array.all_eq_true_iff_forall_mem.mp hF) _ (Array.getElem_mem ha)) i (List.mem_range.mpr hi)
    simpa [Array.getElem?_eq_getElem hi] using q
  obtain ⟨i0, ei0⟩ := is_v k0
  obtain rfl : w0 = (.int i0) := Option.some.inj ei0
  obtain ⟨i1, ei1⟩ := is_v k1
  obtain rfl : w1 = (.int i1) := Option.some.inj ei1
  obtain ⟨n1, r1⟩ := and_e hn
  obtain ⟨n2, r2⟩ := and_e r1
  obtain ⟨n3, r3⟩ := and_e r2
  obtain ⟨n4, r4⟩ := and_e r3
  obtain ⟨n5, n6⟩ := and_e r4
  obtain ⟨f, _, _, _, e_f, -⟩ := Cond.exactly_spec (Cond.before_iff.mpr n1)
  have S_f := Sta.start e_f (Or.inr ⟨(hw _ (List.mem_of_getElem? (i := 6) rfl)), (hw _ (List.mem_of_getElem? (i := 7) rfl))⟩)
  have E_f := Exa.start e_f n1
  obtain ⟨w, _, _, _, e_w, -⟩ := Cond.exactly_spec (Cond.before_iff.mpr n2)
  have S_w := Sta.start e_w (Or.inr ⟨(hw _ (List.mem_of_getElem? (i := 6) rfl)), (hw _ (List.mem_of_getElem? (i := 22) rfl))⟩)
  have E_w := Exa.start e_w n2
  obtain ⟨u, _, _, _, e_u, -⟩ := Cond.exactly_spec (Cond.before_iff.mpr n3)
  have S_u := Sta.start e_u (Or.inr ⟨(hw _ (List.mem_of_getElem? (i := 6) rfl)), (hw _ (List.mem_of_getElem? (i := 24) rfl))⟩)
  have E_u := Exa.start e_u n3
  obtain ⟨n, o, h1, h2, h3, _, L, rfl, ⟨N, rfl⟩, hq⟩ := own_law l s _ hw i0 i1 f u w s.heap s.heap.size (Nat.le_refl _) S_f S_u S_w E_f E_u E_w (own_ne e_f e_u n5 n6 (by decide)) (own_ne e_f e_w n5 n4 (by decide)) (own_ne e_u e_w n6 n4 (by decide)) tables_1 p e ha hc hk s m _ below hf ((Spec.applies_iff_loose hf).mp happ).1 ⟨rfl, State.Warmed39.refl s, rfl⟩ trivial
  refine ⟨n, _, h1, h2, h3, hpost _ _ _ _ _ _ ⟨Cond.after_iff.mpr rfl, Cond.after_iff.mpr (eq_i res_at (Term.int_eval (1)) rfl), trivial⟩ ⟨hq.1, hq.2.1, (hq.2.2.sift fun y hy => Or.inr (N y hy)).mono (by decide) (by decide)⟩⟩
theorem main_1_1 : Claimed_1_1 := comes_1 fun _ _ _ _ _ _ h hF => ⟨h.1, hF⟩
theorem main_1_2 : Claimed_1_2 := comes_1 fun _ _ _ _ _ _ h hF => ⟨h.2.1, hF⟩
end Jvm.Pilot.@@N@@
namespace Jvm.Pilot.@@N@@
open Jvm Jvm.ClassFile Sem Op Lib Jvm.Free Jvm.Stand Jvm.Pilot.@@N@@.Jvm.D
/-! MADE BY PROGRAM (witnessworld.py) out of the Statement's table words and the real class files: 13 classes; the members and pool entries that the words name. The judged class is class 1, her method 3. -/
namespace start1
open Jvm.ClassFile
def u (s : String) : CpInfo := .utf8 (stringToUtf16 s)
/-- a pool by its gaps: so many unusable entries, then the entry; so many at the end -/
def gap : Nat → List CpInfo → List CpInfo
  | 0, r => r
  | n + 1, r => .unusable :: gap n r
def poolList (es : List (Nat × CpInfo)) (last : Nat) : List CpInfo := es.foldr (fun e r => gap e.1 (e.2 :: r)) (gap last [])
def pool (es : List (Nat × CpInfo)) (last : Nat) : Array CpInfo := ⟨poolList es last⟩
def fileOf (pool : Array CpInfo) (this : Nat) (attrs : Array Attribute := #[]) (ms : Array MethodInfo := #[]) (fl : Nat := 33) (sup : Nat := 0) (ifs : Array Nat := #[]) (fds : Array FieldInfo := #[]) : ClassFile where
  minorVersion := 0
  majorVersion := 65
  constantPool := pool
  accessFlags := fl
  thisClass := this
  superClass := sup
  interfaces := ifs
  fields := fds
  methods := ms
  attributes := attrs
def plain (name : String) (sup : Option ClassId) : Class where
  name := name
  kind := .ordinary
  loader := none
  accessFlags := 33
  super := sup
  interfaces := #[]
  cf := none
  fields := #[]
  methods := #[]
  instanceTypes := #[]
  staticTypes := #[]
  resolved := #[]
  callSites := []
  init := .initialized
  statics := none
  mirror := none

def pool0 : Array CpInfo := pool [(5, u "<init>"), (0, u "()V"), (1, .class_ 10), (1, u "java/lang/Object")] 113

def k0m0 : Method := { name := "<init>", desc := "()V", sig := { parameters := [], returnType := none }, accessFlags := 1, code := none }
/-- java/lang/Object -/
def k0 : Class := { plain "java/lang/Object" none with
  accessFlags := 33
  interfaces := #[]
  cf := some (fileOf pool0 8 #[] #[{ accessFlags := 1, nameIndex := 5, descriptorIndex := 6, attributes := #[] }] 33 0 #[] #[])
  fields := #[]
  methods := #[k0m0]
  instanceTypes := #[]
  staticTypes := #[]
  resolved := Array.replicate 124 none
  statics := none }

def pool1 : Array CpInfo := pool [(2, .class_ 4), (1, u "java/lang/Object"), (0, u "<init>"), (0, u "()V"), (0, .fieldref 8 9), (0, .class_ 10), (0, .nameAndType 11 12), (0, u "com/example/keen_odds/keenodds/solve/Verdict"), (0, u "FAILS"), (0, u "Lcom/example/keen_odds/keenodds/solve/Verdict;"), (0, .fieldref 8 14), (0, .nameAndType 15 12), (0, u "UNKNOWN"), (0, .fieldref 8 17), (0, .nameAndType 18 12), (0, u "HOLDS"), (0, .integer 2147483647), (0, .methodref 21 22), (0, .class_ 23), (0, .nameAndType 24 25), (0, u "com/example/keen_odds/keenodds/solve/VerdictAndPinLaw"), (0, u "byRank"), (0, u "(I)Lcom/example/keen_odds/keenodds/solve/Verdict;"), (0, .methodref 8 27), (0, .nameAndType 28 29), (0, u "and"), (0, u "(Lcom/example/keen_odds/keenodds/solve/Verdict;)Lcom/example/keen_odds/keenodds/solve/Verdict;"), (0, .methodref 21 31), (0, .nameAndType 32 33), (0, u "rank"), (0, u "(Lcom/example/keen_odds/keenodds/solve/Verdict;)I"), (0, .methodref 35 36), (0, .class_ 37), (0, .nameAndType 38 39), (0, u "java/lang/Math"), (0, u "min"), (0, u "(II)I"), (3, u "law"), (0, u "(II)Z")] 2

def k1m0 : Method := { name := "<init>", desc := "()V", sig := { parameters := [], returnType := none }, accessFlags := 2, code := none }
def k1c1 : Code := { maxStack := 2, maxLocals := 1, code := method_2_code, exceptionTable := #[], attributes := #[] }
def k1m1 : Method := { name := "byRank", desc := "(I)Lcom/example/keen_odds/keenodds/solve/Verdict;", sig := { parameters := [.int], returnType := some (.object "com/example/keen_odds/keenodds/solve/Verdict") }, accessFlags := 10, code := some k1c1 }
def k1c2 : Code := { maxStack := 2, maxLocals := 1, code := method_3_code, exceptionTable := #[], attributes := #[] }
def k1m2 : Method := { name := "rank", desc := "(Lcom/example/keen_odds/keenodds/solve/Verdict;)I", sig := { parameters := [(.object "com/example/keen_odds/keenodds/solve/Verdict")], returnType := some .int }, accessFlags := 10, code := some k1c2 }
def k1c3 : Code := { maxStack := 3, maxLocals := 5, code := code, exceptionTable := #[], attributes := #[] }
def k1m3 : Method := { name := "law", desc := "(II)Z", sig := { parameters := [.int, .int], returnType := some .boolean }, accessFlags := 9, code := some k1c3 }
/-- com/example/keen_odds/keenodds/solve/VerdictAndPinLaw -/
def k1 : Class := { plain "com/example/keen_odds/keenodds/solve/VerdictAndPinLaw" (some 0) with
  accessFlags := 49
  interfaces := #[]
  cf := some (fileOf pool1 21 #[] #[{ accessFlags := 2, nameIndex := 5, descriptorIndex := 6, attributes := #[] }, { accessFlags := 10, nameIndex := 24, descriptorIndex := 25, attributes := #[] }, { accessFlags := 10, nameIndex := 32, descriptorIndex := 33, attributes := #[] }, { accessFlags := 9, nameIndex := 43, descriptorIndex := 44, attributes := #[] }] 49 2 #[] #[])
  fields := #[]
  methods := #[k1m0, k1m1, k1m2, k1m3]
  instanceTypes := #[]
  staticTypes := #[]
  resolved := Array.replicate 47 none
  statics := none }

def pool2 : Array CpInfo := pool [(1, .class_ 2), (0, u "java/lang/constant/Constable"), (0, .class_ 4), (0, u "java/lang/Object")] 6

/-- java/lang/constant/Constable -/
def k2 : Class := { plain "java/lang/constant/Constable" (some 0) with
  accessFlags := 1537
  interfaces := #[]
  cf := some (fileOf pool2 1 #[] #[] 1537 3 #[] #[])
  fields := #[]
  methods := #[]
  instanceTypes := #[]
  staticTypes := #[]
  resolved := Array.replicate 11 none
  statics := none }

def pool3 : Array CpInfo := pool [(1, .class_ 2), (0, u "java/lang/Comparable"), (0, .class_ 4), (0, u "java/lang/Object")] 7

/-- java/lang/Comparable -/
def k3 : Class := { plain "java/lang/Comparable" (some 0) with
  accessFlags := 1537
  interfaces := #[]
  cf := some (fileOf pool3 1 #[] #[] 1537 3 #[] #[])
  fields := #[]
  methods := #[]
  instanceTypes := #[]
  staticTypes := #[]
  resolved := Array.replicate 12 none
  statics := none }

def pool4 : Array CpInfo := pool [(1, .class_ 2), (0, u "java/io/Serializable"), (0, .class_ 4), (0, u "java/lang/Object")] 2

/-- java/io/Serializable -/
def k4 : Class := { plain "java/io/Serializable" (some 0) with
  accessFlags := 1537
  interfaces := #[]
  cf := some (fileOf pool4 1 #[] #[] 1537 3 #[] #[])
  fields := #[]
  methods := #[]
  instanceTypes := #[]
  staticTypes := #[]
  resolved := Array.replicate 7 none
  statics := none }

def pool5 : Array CpInfo := pool [(2, .class_ 4), (1, u "java/lang/Enum"), (0, u "name"), (0, u "Ljava/lang/String;"), (2, u "ordinal"), (0, u "I"), (1, .class_ 14), (1, u "java/lang/Object"), (4, u "hash"), (86, .class_ 108), (1, u "java/lang/Enum$EnumDesc"), (2, .class_ 112), (0, u "java/lang/constant/Constable"), (0, .class_ 114), (0, u "java/lang/Comparable"), (0, .class_ 116), (0, u "java/io/Serializable")] 87

/-- java/lang/Enum -/
def k5 : Class := { plain "java/lang/Enum" (some 0) with
  accessFlags := 1057
  interfaces := #[2, 3, 4]
  cf := some (fileOf pool5 2 #[.nestMembers #[106]] #[] 1057 12 #[111, 113, 115] #[{ accessFlags := 18, nameIndex := 5, descriptorIndex := 6, attributes := #[] }, { accessFlags := 18, nameIndex := 9, descriptorIndex := 10, attributes := #[] }, { accessFlags := 2, nameIndex := 19, descriptorIndex := 10, attributes := #[] }])
  fields := #[{ name := "name", type := (.object "java/lang/String"), accessFlags := 18, slot := 0, constantValue := 0 }, { name := "ordinal", type := .int, accessFlags := 18, slot := 1, constantValue := 0 }, { name := "hash", type := .int, accessFlags := 2, slot := 2, constantValue := 0 }]
  methods := #[]
  instanceTypes := #[(.object "java/lang/String"), .int, .int]
  staticTypes := #[]
  resolved := Array.replicate 204 none
  statics := none }

def pool6 : Array CpInfo := pool [(1, .class_ 2), (0, u "com/example/keen_odds/keenodds/solve/Verdict"), (0, .fieldref 1 4), (0, .nameAndType 5 6), (0, u "HOLDS"), (0, u "Lcom/example/keen_odds/keenodds/solve/Verdict;"), (0, .fieldref 1 8), (0, .nameAndType 9 6), (0, u "FAILS"), (0, .fieldref 1 11), (0, .nameAndType 12 6), (0, u "UNKNOWN"), (2, u "$VALUES"), (0, u "[Lcom/example/keen_odds/keenodds/solve/Verdict;"), (6, .class_ 25), (1, u "java/lang/Enum"), (21, u "and"), (0, u "(Lcom/example/keen_odds/keenodds/solve/Verdict;)Lcom/example/keen_odds/keenodds/solve/Verdict;")] 21

def k6c0 : Code := { maxStack := 2, maxLocals := 3, code := prog_156_method_5_code, exceptionTable := #[], attributes := #[] }
def k6m0 : Method := { name := "and", desc := "(Lcom/example/keen_odds/keenodds/solve/Verdict;)Lcom/example/keen_odds/keenodds/solve/Verdict;", sig := { parameters := [(.object "com/example/keen_odds/keenodds/solve/Verdict")], returnType := some (.object "com/example/keen_odds/keenodds/solve/Verdict") }, accessFlags := 1, code := some k6c0 }
/-- com/example/keen_odds/keenodds/solve/Verdict -/
def k6 : Class := { plain "com/example/keen_odds/keenodds/solve/Verdict" (some 5) with
  accessFlags := 16433
  interfaces := #[]
  cf := some (fileOf pool6 1 #[] #[{ accessFlags := 1, nameIndex := 47, descriptorIndex := 48, attributes := #[] }] 16433 23 #[] #[{ accessFlags := 16409, nameIndex := 5, descriptorIndex := 6, attributes := #[] }, { accessFlags := 16409, nameIndex := 9, descriptorIndex := 6, attributes := #[] }, { accessFlags := 16409, nameIndex := 12, descriptorIndex := 6, attributes := #[] }, { accessFlags := 4122, nameIndex := 15, descriptorIndex := 16, attributes := #[] }])
  fields := #[{ name := "HOLDS", type := (.object "com/example/keen_odds/keenodds/solve/Verdict"), accessFlags := 16409, slot := 0, constantValue := 0 }, { name := "FAILS", type := (.object "com/example/keen_odds/keenodds/solve/Verdict"), accessFlags := 16409, slot := 1, constantValue := 0 }, { name := "UNKNOWN", type := (.object "com/example/keen_odds/keenodds/solve/Verdict"), accessFlags := 16409, slot := 2, constantValue := 0 }, { name := "$VALUES", type := (.array (.object "com/example/keen_odds/keenodds/solve/Verdict")), accessFlags := 4122, slot := 3, constantValue := 0 }]
  methods := #[k6m0]
  instanceTypes := #[(.object "java/lang/String"), .int, .int]
  staticTypes := #[(.object "com/example/keen_odds/keenodds/solve/Verdict"), (.object "com/example/keen_odds/keenodds/solve/Verdict"), (.object "com/example/keen_odds/keenodds/solve/Verdict"), (.array (.object "com/example/keen_odds/keenodds/solve/Verdict"))]
  resolved := Array.replicate 70 none
  statics := some 0 }

def pool7 : Array CpInfo := pool [(1, .class_ 2), (0, u "java/lang/Math"), (1, .class_ 6), (1, u "java/lang/Object"), (0, u "<init>"), (0, u "()V"), (89, .class_ 100), (1, u "java/lang/Math$RandomNumberGeneratorHolder"), (71, u "negativeZeroFloatBits"), (0, u "J"), (2, u "negativeZeroDoubleBits"), (24, u "min"), (43, u "$assertionsDisabled"), (0, u "Z"), (88, u "(II)I"), (2, u "twoToTheDoubleScaleDown"), (0, u "D"), (4, u "twoToTheDoubleScaleUp"), (9, u "E"), (3, u "PI"), (2, u "TAU"), (2, u "DEGREES_TO_RADIANS"), (0, u "RADIANS_TO_DEGREES")] 94

def k7m0 : Method := { name := "<init>", desc := "()V", sig := { parameters := [], returnType := none }, accessFlags := 2, code := none }
def k7c1 : Code := { maxStack := 2, maxLocals := 2, code := jdk_29_method_69_code, exceptionTable := #[], attributes := #[] }
def k7m1 : Method := { name := "min", desc := "(II)I", sig := { parameters := [.int, .int], returnType := some .int }, accessFlags := 9, code := some k7c1 }
/-- java/lang/Math -/
def k7 : Class := { plain "java/lang/Math" (some 0) with
  accessFlags := 49
  interfaces := #[]
  cf := some (fileOf pool7 1 #[.nestMembers #[98]] #[{ accessFlags := 2, nameIndex := 7, descriptorIndex := 8, attributes := #[] }, { accessFlags := 9, nameIndex := 201, descriptorIndex := 335, attributes := #[] }] 49 4 #[] #[{ accessFlags := 25, nameIndex := 354, descriptorIndex := 339, attributes := #[] }, { accessFlags := 25, nameIndex := 358, descriptorIndex := 339, attributes := #[] }, { accessFlags := 25, nameIndex := 361, descriptorIndex := 339, attributes := #[] }, { accessFlags := 26, nameIndex := 364, descriptorIndex := 339, attributes := #[] }, { accessFlags := 26, nameIndex := 365, descriptorIndex := 339, attributes := #[] }, { accessFlags := 26, nameIndex := 172, descriptorIndex := 173, attributes := #[] }, { accessFlags := 26, nameIndex := 176, descriptorIndex := 173, attributes := #[] }, { accessFlags := 8, nameIndex := 344, descriptorIndex := 339, attributes := #[] }, { accessFlags := 8, nameIndex := 338, descriptorIndex := 339, attributes := #[] }, { accessFlags := 4120, nameIndex := 245, descriptorIndex := 246, attributes := #[] }])
  fields := #[{ name := "E", type := .double, accessFlags := 25, slot := 0, constantValue := 0 }, { name := "PI", type := .double, accessFlags := 25, slot := 1, constantValue := 0 }, { name := "TAU", type := .double, accessFlags := 25, slot := 2, constantValue := 0 }, { name := "DEGREES_TO_RADIANS", type := .double, accessFlags := 26, slot := 3, constantValue := 0 }, { name := "RADIANS_TO_DEGREES", type := .double, accessFlags := 26, slot := 4, constantValue := 0 }, { name := "negativeZeroFloatBits", type := .long, accessFlags := 26, slot := 5, constantValue := 0 }, { name := "negativeZeroDoubleBits", type := .long, accessFlags := 26, slot := 6, constantValue := 0 }, { name := "twoToTheDoubleScaleUp", type := .double, accessFlags := 8, slot := 7, constantValue := 0 }, { name := "twoToTheDoubleScaleDown", type := .double, accessFlags := 8, slot := 8, constantValue := 0 }, { name := "$assertionsDisabled", type := .boolean, accessFlags := 4120, slot := 9, constantValue := 0 }]
  methods := #[k7m0, k7m1]
  instanceTypes := #[]
  staticTypes := #[.double, .double, .double, .double, .double, .long, .long, .double, .double, .boolean]
  resolved := Array.replicate 460 none
  statics := none }

def pool8 : Array CpInfo := pool [(1, u "java/lang/Cloneable"), (0, .class_ 1), (0, u "java/lang/Object"), (0, .class_ 3)] 3

/-- java/lang/Cloneable -/
def k8 : Class := { plain "java/lang/Cloneable" (some 0) with
  accessFlags := 1537
  interfaces := #[]
  cf := some (fileOf pool8 2 #[] #[] 1537 4 #[] #[])
  fields := #[]
  methods := #[]
  instanceTypes := #[]
  staticTypes := #[]
  resolved := Array.replicate 8 none
  statics := none }

/-- the primitive byte -/
def k9 : Class := { plain "byte" none with kind := .primitive 'B', accessFlags := 0x411 }
/-- [B -/
def k10 : Class := { plain "[B" (some 0) with kind := .array 9 .byte, interfaces := #[8, 4], accessFlags := 1041 }

/-- the primitive int -/
def k11 : Class := { plain "int" none with kind := .primitive 'I', accessFlags := 0x411 }
/-- [I -/
def k12 : Class := { plain "[I" (some 0) with kind := .array 11 .int, interfaces := #[8, 4], accessFlags := 1041 }

def heap : Heap := #[{ cls := 6, slots := #[.ref 1, .ref 2, .ref 3, .null], vm := .statics 6 },
  { cls := 6, slots := #[.null, .int 0, .int 0], vm := .none },
  { cls := 6, slots := #[.null, .int 1, .int 0], vm := .none },
  { cls := 6, slots := #[.null, .int 2, .int 0], vm := .none }]
def classes : Array Class := #[k0, k1, k2, k3, k4, k5, k6, k7, k8, k9, k10, k11, k12]
def interned : List (Array UInt16 × Addr) := []
def slotsUsed : Nat := 13
def theMethod : MethodId := ⟨1, 3⟩
def args0 : Array Value := #[.int 5, .int 7]
def aboutOver (below : List Frame) : State where
  vm := { classes := classes, interned := interned.toArray }
  heap := heap
  slotsUsed := slotsUsed
  threads := #[{ frames := .invoking theMethod args0 :: below }]
def below0 : List Frame := [.native { method := ⟨0, 0⟩, args := #[] }]
def about1 : State := aboutOver below0
def p0 : Program := .bare "" "" ""
def e0 : Env := launch0.env 0 0 0
theorem w_frames : about1.frames = Frame.invoking theMethod args0 :: below0 := rfl
set_option maxRecDepth 65536 in
theorem w_args : argsFit about1.vm theMethod args0 = true := by decide +kernel
set_option maxRecDepth 65536 in
theorem w_heap : heapFits about1 = true := by decide +kernel
set_option maxRecDepth 65536 in
theorem w_runnable : about1.curStatus? = some .runnable := by decide +kernel
set_option maxRecDepth 65536 in
theorem w_alone : about1.alone = true := by decide +kernel
set_option maxRecDepth 65536 in
theorem w_named : about1.methodNamed? x = some theMethod := by decide +kernel
set_option maxRecDepth 65536 in
theorem w_hears : about1.hears theMethod below0 = true := by decide +kernel
set_option maxRecDepth 65536 in
theorem w_ripe : about1.ripe theMethod args0 below0 = true := by decide +kernel
theorem w_running : about1.status = .running := rfl
set_option maxRecDepth 65536 in
theorem w_room : about1.hasRoom e0.platform room_1 = true :=
  launch0.hasRoom_least _ room_1 (by decide +kernel) (by decide +kernel) (by decide +kernel) (by decide +kernel) (by decide +kernel) (by decide +kernel)
theorem allAtoms_all (ts : List Jvm.Cond) (a : Array Jvm.Value) (st : Jvm.State) : (allAtoms ts).before a st = ts.all (fun c => c.before a st) := by
  induction ts with
  | nil => rfl
  | cons c t ih =>
    show (Jvm.Cond.and c (allAtoms t)).before a st = _
    rw [Jvm.Cond.before_and, ih, List.all_cons]
def words1 : List Jvm.Cond := Jvm.Cond.code x code maxLocals ret :: tables_1
/-- a 'code' word, met by the world's own term for the bytes: nothing is compared byte by byte -/
theorem code_word {y : MethodName} {bytes : ByteArray} {mx : Nat} {rt : Option FieldType} {a : Array Value} {s : State} {m : MethodId} {meth : Method} {c : Code} (h1 : s.methodNamed? y = some m) (h2 : s.vm.method? m = some meth) (h3 : meth.code = some c) (h4 : c.code = bytes)
    (h5 : (c.maxLocals == mx && c.exceptionTable.isEmpty && decide (c.maxStack ≤ mostOperands) && decide (meth.sig.returnType = rt) && !meth.locks && decide (parseMethodDescriptor y.desc = some meth.sig)) = true) : (Jvm.Cond.code y bytes mx rt).before a s = true := by
  simp only [Bool.and_eq_true, beq_iff_eq, Bool.not_eq_true', decide_eq_true_eq] at h5
  obtain ⟨⟨⟨⟨⟨g1, g2⟩, g3⟩, g4⟩, g5⟩, g6⟩ := h5
  simp [Cond.before, Cond.holds, Cond.value, h1, h2, h3, h4, g1, g2, g3, g4, g5, g6]
def isCode : Jvm.Cond → Bool
  | .code _ _ _ _ => true
  | _ => false
theorem all_split {L : List Jvm.Cond} {P : Jvm.Cond → Bool} (h1 : L.all (fun c => isCode c || P c) = true) (h2 : ∀ c ∈ L.filter isCode, P c = true) : L.all P = true := by
  refine List.all_eq_true.mpr fun c hc => ?_
  have h := List.all_eq_true.mp h1 c hc
  rcases Bool.eq_false_or_eq_true (isCode c) with hi | hi
  · exact h2 c (List.mem_filter.mpr ⟨hc, hi⟩)
  · simpa [hi] using h
set_option maxRecDepth 65536 in
theorem w_c0 : (Jvm.Cond.code x code maxLocals ret).before args0 about1 = true := code_word (m := ⟨1, 3⟩) (meth := k1m3) (c := k1c3) (by decide +kernel) rfl rfl rfl (by decide +kernel)
set_option maxRecDepth 65536 in
theorem w_c1 : (Jvm.Cond.code ({ cls := "com/example/keen_odds/keenodds/solve/VerdictAndPinLaw", name := "byRank", desc := "(I)Lcom/example/keen_odds/keenodds/solve/Verdict;" } : Jvm.MethodName) method_2_code (1 : Nat) (Option.some (Jvm.ClassFile.FieldType.object "com/example/keen_odds/keenodds/solve/Verdict"))).before args0 about1 = true := code_word (m := ⟨1, 1⟩) (meth := k1m1) (c := k1c1) (by decide +kernel) rfl rfl rfl (by decide +kernel)
set_option maxRecDepth 65536 in
theorem w_c2 : (Jvm.Cond.code ({ cls := "com/example/keen_odds/keenodds/solve/Verdict", name := "and", desc := "(Lcom/example/keen_odds/keenodds/solve/Verdict;)Lcom/example/keen_odds/keenodds/solve/Verdict;" } : Jvm.MethodName) prog_156_method_5_code (3 : Nat) (Option.some (Jvm.ClassFile.FieldType.object "com/example/keen_odds/keenodds/solve/Verdict"))).before args0 about1 = true := code_word (m := ⟨6, 0⟩) (meth := k6m0) (c := k6c0) (by decide +kernel) rfl rfl rfl (by decide +kernel)
set_option maxRecDepth 65536 in
theorem w_c3 : (Jvm.Cond.code ({ cls := "com/example/keen_odds/keenodds/solve/VerdictAndPinLaw", name := "rank", desc := "(Lcom/example/keen_odds/keenodds/solve/Verdict;)I" } : Jvm.MethodName) method_3_code (1 : Nat) (Option.some Jvm.ClassFile.FieldType.int)).before args0 about1 = true := code_word (m := ⟨1, 2⟩) (meth := k1m2) (c := k1c2) (by decide +kernel) rfl rfl rfl (by decide +kernel)
set_option maxRecDepth 65536 in
theorem w_c4 : (Jvm.Cond.code ({ cls := "java/lang/Math", name := "min", desc := "(II)I" } : Jvm.MethodName) jdk_29_method_69_code (2 : Nat) (Option.some Jvm.ClassFile.FieldType.int)).before args0 about1 = true := code_word (m := ⟨7, 1⟩) (meth := k7m1) (c := k7c1) (by decide +kernel) rfl rfl rfl (by decide +kernel)
def codes1 : List Jvm.Cond := [Jvm.Cond.code x code maxLocals ret, Jvm.Cond.code ({ cls := "com/example/keen_odds/keenodds/solve/VerdictAndPinLaw", name := "byRank", desc := "(I)Lcom/example/keen_odds/keenodds/solve/Verdict;" } : Jvm.MethodName) method_2_code (1 : Nat) (Option.some (Jvm.ClassFile.FieldType.object "com/example/keen_odds/keenodds/solve/Verdict")), Jvm.Cond.code ({ cls := "com/example/keen_odds/keenodds/solve/Verdict", name := "and", desc := "(Lcom/example/keen_odds/keenodds/solve/Verdict;)Lcom/example/keen_odds/keenodds/solve/Verdict;" } : Jvm.MethodName) prog_156_method_5_code (3 : Nat) (Option.some (Jvm.ClassFile.FieldType.object "com/example/keen_odds/keenodds/solve/Verdict")), Jvm.Cond.code ({ cls := "com/example/keen_odds/keenodds/solve/VerdictAndPinLaw", name := "rank", desc := "(Lcom/example/keen_odds/keenodds/solve/Verdict;)I" } : Jvm.MethodName) method_3_code (1 : Nat) (Option.some Jvm.ClassFile.FieldType.int), Jvm.Cond.code ({ cls := "java/lang/Math", name := "min", desc := "(II)I" } : Jvm.MethodName) jdk_29_method_69_code (2 : Nat) (Option.some Jvm.ClassFile.FieldType.int)]
set_option maxRecDepth 65536 in
theorem codes_eq : words1.filter isCode = codes1 := rfl
theorem w_codes : ∀ c ∈ words1.filter isCode, c.before args0 about1 = true := by
  rw [codes_eq]
  intro c hc
  simp only [codes1, List.mem_cons, List.not_mem_nil, or_false] at hc
  rcases hc with rfl | rfl | rfl | rfl | rfl
  · exact w_c0
  · exact w_c1
  · exact w_c2
  · exact w_c3
  · exact w_c4
set_option maxRecDepth 65536 in
theorem w_t1 : (words1.take 24).all (fun c => isCode c || c.before args0 about1) = true := by decide +kernel
set_option maxRecDepth 65536 in
theorem w_t2 : (words1.drop 24).all (fun c => isCode c || c.before args0 about1) = true := by decide +kernel
theorem w_tables : (allAtoms (Jvm.Cond.code x code maxLocals ret :: tables_1)).before args0 about1 = true := by
  rw [allAtoms_all]
  show words1.all (fun c => c.before args0 about1) = true
  refine all_split ?_ w_codes
  rw [← List.take_append_drop 24 words1, List.all_append, w_t1, w_t2]
  rfl
set_option maxRecDepth 65536 in
theorem w_case : (Jvm.Cond.and given_1 narrow_1).before args0 about1 = true := by decide +kernel
theorem w_applies : (headSpec (Jvm.Cond.code x code maxLocals ret :: tables_1) room_1).applies x e0.platform about1 = true :=
  (Spec.applies_iff w_frames).mpr ⟨w_running, w_runnable, w_alone, w_named, w_hears, w_ripe, w_room, w_tables⟩
theorem atStart : AtStart classFile x code maxLocals ret World_1 tables_1 room_1 Calls_1 rest_1 Pre_1 launch0 p0 e0 about1 theMethod args0 below0 :=
  ⟨lists_1, trivial, launch0.admits_env _ _ _, launch0.least_env, fairChoices_fair.cas, fairChoices_fair.clock, w_frames, w_args, w_heap, w_applies, trivial, trivial, w_case⟩
end start1
theorem witness_1 : WitnessClaimed_1 := ⟨start1.p0, start1.e0, start1.about1, start1.theMethod, start1.args0, start1.below0, start1.atStart⟩
end Jvm.Pilot.@@N@@
