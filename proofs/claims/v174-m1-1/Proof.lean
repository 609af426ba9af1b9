import JvmDerived
import JvmDerived.Pilot.@@N@@Statement
import JvmDerived.Pilot.@@N@@Code
set_option linter.unusedVariables false
set_option linter.unusedSimpArgs false
namespace Jvm.Pilot.@@N@@
open Jvm Jvm.ClassFile Sem Op Lib Jvm.Free Jvm.Stand Jvm.LawKit Jvm.RoadKit Bundle Jvm.Pilot.@@N@@.Jvm.D
section Own
variable {p : Program} {l : Launch} {e : Env} {R : Room} {s : State} {m : MethodId} {args : Array Value} {below : List Frame} {meth : Method} {c : Code} {T T' : State} {locs : List Loc} {cells slots : Nat} {g g' : JFrame} {C S n0 : Nat} {F : Outcome → State → List Loc → Prop} {Q : Option Value → Heap → Prop} {Z : State} {a0 : Array Value} {h h' h0 : Heap} {rest argsL : List Value} {own : String} {index : Nat} {a b : Addr} {k : ClassId} {ty : FieldType} {n j : Int32} {vs : List Value} {dv v : Value}
/-- from here the run comes to its return, and what it leaves is Q -/
def OEnds (p : Program) (e : Env) (below : List Frame) (F : Outcome → State → List Loc → Prop) (n0 : Nat) (Q : Option Value → Heap → Prop) (T : State) (g : JFrame) : Prop :=
  ∃ t o, Steps p.tables e below (T.setTop g) t ∧ t.status = .running ∧ Ended t below o ∧ ∃ v L, o = .returned v ∧ (Fr n0 L ∧ Q v t.heap) ∧ F o t L
/-- a body's contract -/
def OCon (l : Launch) (y : MethodName) (bytes : ByteArray) (ml : Nat) (ret : Option FieldType) (rm : Room) (Z : State) (as : Array Value) (h0 : Heap) (n0 : Nat) (Q : Option Value → Heap → Prop) : Prop :=
  ∀ ws, MetFree l y (head1 (Jvm.Cond.code y bytes ml ret :: ws) rm) (fun a U => a = as ∧ Z.Warmed39 U.vm ∧ U.heap = h0) (fun _ _ _ _ _ => True) (fun _ U o U' => ∃ v L, o = .returned v ∧ (Fr n0 L ∧ Q v U'.heap) ∧ FrameEnd U o U' L rm.cells rm.slots)
theorem own_body {y : MethodName} {bytes : ByteArray} {ml : Nat} {ret : Option FieldType} {rm : Room} {as : Array Value} (hp : plainFor y = true)
    (kk : ∀ (p : Program) (e : Env) (s : State) (m : MethodId) (below : List Frame) (meth : Method) (c : Code) (T : State), p.tables.exec = Jvm.exec → Z.Warmed39 s.vm → c.code = bytes → c.maxLocals = ml → s.vm.findClass y.cls = some m.cls → meth.name = y.name → meth.sig.returnType = ret → meth.locks = false → T.heap = h0 →
      Stand p l e rm s m as below meth c T [] 0 0 → OEnds p e below (fun o t L => FrameEnd s o t L rm.cells rm.slots) n0 Q T (entryFrame m as ml)) : OCon l y bytes ml ret rm Z as h0 n0 Q := by
  intro ws
  refine MetFree.of_bodySF hp hisR ?_
  intro p e s m args below meth c s₁ Bd hml0 hP hK
  obtain ⟨rfl, hZ, hh⟩ := hP
  exact kk p e s m below meth c s₁ Bd.exec hZ Bd.bytes hml0 (findClass_of_methodNamed Bd.named) (name_of_methodNamed Bd.named Bd.method).1 Bd.returns Bd.notSynchronized (by rw [← hh, Bd.state]; rfl) (Stand.of_body Bd)
theorem own_go (kk : ∀ t, Steps p.tables e below (T'.setTop g') t → Steps p.tables e below (T.setTop g) t) (hE : OEnds p e below F n0 Q T' g') : OEnds p e below F n0 Q T g := by
  obtain ⟨t, o, h1, h2⟩ := hE
  exact ⟨t, o, kk t h1, h2⟩
theorem own_at (q : g = g') (hE : OEnds p e below F n0 Q T g') : OEnds p e below F n0 Q T g := q ▸ hE
theorem own_let {α : Sort _} {P : α → Prop} (a : α) (hh : ∀ x, x = a → P x) : P a := hh a rfl
theorem own_cast {α : Sort _} {P : α → Prop} {a b : α} (q : a = b) (hh : P b) : P a := q ▸ hh
theorem own_fin (X : Stand p l e R s m args below meth c T locs cells slots) (hlk : meth.locks = false) {v : Option Value} (hv : meth.sig.returnType = none → v = none)
    (st : ∀ fs, (∀ (f : JFrame) (acts : List Action), f.method = m → f.locked = none → f.entered = [] → (doReturn e (T.setTop f) acts v).1 = T.setFrames fs) → Steps p.tables e below (T.setTop g) (T.setFrames fs))
    (N : Fr n0 locs) (hc : cells ≤ C) (hs : slots ≤ S) (q : Q v T.heap) : OEnds p e below (fun o t L => FrameEnd s o t L C S) n0 Q T g := by
  obtain ⟨fs, hr, hrun, hended, hW, hsame⟩ := X.leave (v := v) hv hlk
  exact ⟨_, _, st fs hr, hrun, hended, _, _, rfl, ⟨N, q⟩, ⟨_, rfl⟩, hW, hsame.mono hc hs⟩
theorem own_retI0 (X : Stand p l e R s m args below meth c T locs cells slots) (hx : p.tables.exec = Jvm.exec) {pc : Nat} {Ls : Array Slot} {z : Int32} {rest : List Value} (hret : meth.sig.returnType = some .int) (hd : decode c.code pc = .ok (.ireturn, 1)) {fs : List Frame}
    (hl : ∀ (f : JFrame) (acts : List Action), f.method = m → f.locked = none → f.entered = [] → (doReturn e (T.setTop f) acts (some (.int z))).1 = T.setFrames fs) : Steps p.tables e below (T.setTop (mkF m pc Ls (.int z :: rest))) (T.setFrames fs) := by
  have hm' : T.vm.method? m = some meth := X.method'
  have hn : narrow .int (.int z) = .int z := rfl
  show Steps p.tables e below (T.setTop { method := m, pc := pc, locals := Ls, stack := _ :: rest, locked := none }) _
  jvm_step X.here [X.here.top, hx, hd, hm', hret, hn]
  first | (intro acts; rw [hl _ acts rfl rfl rfl]) | rw [hl _ _ rfl rfl rfl]
  exact Steps.refl _
theorem own_retI (X : Stand p l e R s m args below meth c T locs cells slots) (hx : p.tables.exec = Jvm.exec) (hlk : meth.locks = false) {pc : Nat} {Ls : Array Slot} {z : Int32} (hret : meth.sig.returnType = some .int) (hd : decode c.code pc = .ok (.ireturn, 1)) (eT : T.heap = h) (N : Fr n0 locs) (hc : cells ≤ C) (hs : slots ≤ S) (q : Q (some (.int z)) h) : OEnds p e below (fun o t L => FrameEnd s o t L C S) n0 Q T (mkF m pc Ls (.int z :: rest)) :=
  own_fin X hlk (fun hn => by rw [hret] at hn; cases hn) (fun fs hl => own_retI0 X hx hret hd hl) N hc hs (eT ▸ q)
theorem own_retN (X : Stand p l e R s m args below meth c T locs cells slots) (hx : p.tables.exec = Jvm.exec) (hlk : meth.locks = false) {t : FieldType} {pc : Nat} {Ls : Array Slot} {z z' : Int32} (hret : meth.sig.returnType = some t) (ht : t = .boolean ∨ t = .byte ∨ t = .char ∨ t = .short) (hd : decode c.code pc = .ok (.ireturn, 1)) (hz : nar t z = z') (eT : T.heap = h) (N : Fr n0 locs) (hc : cells ≤ C) (hs : slots ≤ S) (q : Q (some (.int z')) h) : OEnds p e below (fun o t L => FrameEnd s o t L C S) n0 Q T (mkF m pc Ls (.int z :: rest)) :=
  own_fin X hlk (v := some (.int (nar t z))) (fun hn => by rw [hret] at hn; cases hn) (fun fs hl => retN X hx hret ht hd hl) N hc hs (by rw [hz, eT]; exact q)
theorem own_retJ (X : Stand p l e R s m args below meth c T locs cells slots) (hx : p.tables.exec = Jvm.exec) (hlk : meth.locks = false) {pc : Nat} {Ls : Array Slot} {z : Int64} (hret : meth.sig.returnType = some .long) (hd : decode c.code pc = .ok (.lreturn, 1)) (eT : T.heap = h) (N : Fr n0 locs) (hc : cells ≤ C) (hs : slots ≤ S) (q : Q (some (.long z)) h) : OEnds p e below (fun o t L => FrameEnd s o t L C S) n0 Q T (mkF m pc Ls [.long z]) :=
  own_fin X hlk (fun hn => by rw [hret] at hn; cases hn) (fun fs hl => X.lreturnOut hx hret hd hl) N hc hs (eT ▸ q)
theorem own_retA (X : Stand p l e R s m args below meth c T locs cells slots) (hx : p.tables.exec = Jvm.exec) (hlk : meth.locks = false) {t : FieldType} {pc : Nat} {Ls : Array Slot} {w : Value} (hw : w.isRef = true) (hret : meth.sig.returnType = some t) (ht : t.isReference = true) (hd : decode c.code pc = .ok (.areturn, 1)) (eT : T.heap = h) (N : Fr n0 locs) (hc : cells ≤ C) (hs : slots ≤ S) (q : Q (some w) h) : OEnds p e below (fun o t L => FrameEnd s o t L C S) n0 Q T (mkF m pc Ls [w]) :=
  own_fin X hlk (fun hn => by rw [hret] at hn; cases hn) (fun fs hl => X.areturnOut hx hw hret ht hd hl) N hc hs (eT ▸ q)
theorem own_retV (X : Stand p l e R s m args below meth c T locs cells slots) (hx : p.tables.exec = Jvm.exec) (hlk : meth.locks = false) {pc : Nat} {Ls : Array Slot} (hret : meth.sig.returnType = none) (hd : decode c.code pc = .ok (.return_, 1)) (eT : T.heap = h) (N : Fr n0 locs) (hc : cells ≤ C) (hs : slots ≤ S) (q : Q none h) : OEnds p e below (fun o t L => FrameEnd s o t L C S) n0 Q T (mkF m pc Ls []) :=
  own_fin X hlk (fun _ => rfl) (fun fs hl => X.returnOut hx hret hd hl) N hc hs (eT ▸ q)
/-! calls -/
theorem own_callS (X : Stand p l e R s m args below meth c T locs cells slots) (hx : p.tables.exec = Jvm.exec) (hZ : Z.Warmed39 s.vm) {y : MethodName} {bytes : ByteArray} {maxL W : Nat} {ret : Option FieldType} {rm : Room} {Qc : Option Value → Heap → Prop} (hown : s.vm.findClass own = some m.cls)
    (w1 : (Cond.methodLink own index y).before a0 Z = true) (w2 : (Cond.static y).before a0 Z = true) (w3 : (Cond.initialized y.cls).before a0 Z = true) (w4 : (Cond.code y bytes maxL ret).before a0 Z = true) (hy : y.cls ≠ "java/lang/invoke/MethodHandle" ∧ y.cls ≠ "java/lang/invoke/VarHandle")
    (K : OCon l y bytes maxL ret rm Z argsL.toArray h n0 Qc) (hfr : rm.frames + 1 ≤ R.frames) (hlo : W + (maxL + 11) + rm.locals ≤ R.locals) (hg : g.method = m) (hsize : g.locals.size = c.maxLocals) (hlen : ∀ sig, parseMethodDescriptor y.desc = some sig → argsL.length = sig.parameters.length)
    (hstack : g.stack = argsL.reverse ++ rest) (hW : 2 * g.monitorRoom + (rest.map fun v => v.category).sum ≤ W) (hd : decode c.code g.pc = .ok (.invokestatic index, 3)) (eT : T.heap = h) (N : Fr n0 locs) (hc : cells + rm.cells ≤ R.cells) (hs : slots + rm.slots ≤ R.slots)
    (kk : ∀ (v : Option Value) (T' : State) (locs' : List Loc), Stand p l e R s m args below meth c T' locs' (cells + rm.cells) (slots + rm.slots) → Fr n0 locs' → Qc v T'.heap → OEnds p e below F n0 Q T' { g with pc := g.pc + 3, stack := v.toList ++ rest }) : OEnds p e below F n0 Q T g := by
  obtain ⟨v, vm₁, ⟨T', L', k', n'⟩, -, X', ⟨Lc, ⟨N', hQ⟩, l', y', z'⟩, st⟩ := Jvm.LawKit.callS X hx hown (mvT hZ w1) (mvT hZ w2) (mvT hZ w3) (mvT hZ w4) hy (backOf (W := W) (Q := fun v h L => Fr n0 L ∧ Qc v h) (K []) hZ w4 w3 hfr hlo) hg hsize hlen hstack hW hd (fun _ _ => ⟨rfl, eT, hc, hs⟩)
  dsimp only [Pt.U, Pt.locs, Pt.cells, Pt.slots] at X' l' y' z' st hQ
  subst l' y' z'
  exact own_go st (kk v T' _ X' (Fr.app N N') hQ)
theorem own_callC (X : Stand p l e R s m args below meth c T locs cells slots) (hx : p.tables.exec = Jvm.exec) (hZ : Z.Warmed39 s.vm) {y : MethodName} {bytes : ByteArray} {maxL W : Nat} {rm : Room} {Qc : Option Value → Heap → Prop} (hy1 : y.name = "<init>") (hown : s.vm.findClass own = some m.cls)
    (w1 : (Cond.methodLink own index y).before a0 Z = true) (w2 : (Cond.instanceMethod y).before a0 Z = true) (w3 : (Cond.initialized y.cls).before a0 Z = true) (w4 : (Cond.code y bytes maxL none).before a0 Z = true) (hy : y.cls ≠ "java/lang/invoke/MethodHandle" ∧ y.cls ≠ "java/lang/invoke/VarHandle")
    (K : OCon l y bytes maxL none rm Z (.ref a :: argsL).toArray h n0 Qc) (hfr : rm.frames + 1 ≤ R.frames) (hlo : W + (maxL + 11) + rm.locals ≤ R.locals) (hg : g.method = m) (hsize : g.locals.size = c.maxLocals) (hlen : ∀ sig, parseMethodDescriptor y.desc = some sig → argsL.length = sig.parameters.length)
    (hstack : g.stack = argsL.reverse ++ .ref a :: rest) (hW : 2 * g.monitorRoom + (rest.map fun v => v.category).sum ≤ W) (hd : decode c.code g.pc = .ok (.invokespecial index, 3)) (eT : T.heap = h) (N : Fr n0 locs) (hc : cells + rm.cells ≤ R.cells) (hs : slots + rm.slots ≤ R.slots)
    (kk : ∀ (v : Option Value) (T' : State) (locs' : List Loc), Stand p l e R s m args below meth c T' locs' (cells + rm.cells) (slots + rm.slots) → Fr n0 locs' → Qc v T'.heap → OEnds p e below F n0 Q T' { g with pc := g.pc + 3, stack := v.toList ++ rest }) : OEnds p e below F n0 Q T g := by
  obtain ⟨v, vm₁, ⟨T', L', k', n'⟩, -, X', ⟨Lc, ⟨N', hQ⟩, l', y', z'⟩, st⟩ := X.specialBack hx hy1 hown (mvT hZ w1) (mvT hZ w2) (mvT hZ w4) hy (backOf (W := W) (Q := fun v h L => Fr n0 L ∧ Qc v h) (K []) hZ w4 w3 hfr hlo) hg hsize (Steps.refl _) hlen hstack hW hd (fun _ _ => ⟨rfl, eT, hc, hs⟩)
  dsimp only [Pt.U, Pt.locs, Pt.cells, Pt.slots] at X' l' y' z' st hQ
  subst l' y' z'
  exact own_go (fun t kt => st.trans kt) (kk v T' _ X' (Fr.app N N') hQ)
theorem own_callV (X : Stand p l e R s m args below meth c T locs cells slots) (hx : p.tables.exec = Jvm.exec) (hZ : Z.Warmed39 s.vm) {y : MethodName} {bytes : ByteArray} {maxL W : Nat} {ret : Option FieldType} {rm : Room} {Qc : Option Value → Heap → Prop} {C0 : String} (hown : s.vm.findClass own = some m.cls)
    (w1 : (Cond.methodLink own index y).before a0 Z = true) (wd : (Cond.declares y).before a0 Z = true) (ws : (Cond.selects C0 y y).before a0 Z = true) (w2 : (Cond.instanceMethod y).before a0 Z = true) (w3 : (Cond.initialized y.cls).before a0 Z = true) (w4 : (Cond.code y bytes maxL ret).before a0 Z = true) (hy : y.cls ≠ "java/lang/invoke/MethodHandle" ∧ y.cls ≠ "java/lang/invoke/VarHandle")
    (K : OCon l y bytes maxL ret rm Z (.ref a :: argsL).toArray h n0 Qc) (E : Exa Z h a C0) (hfr : rm.frames + 1 ≤ R.frames) (hlo : W + (maxL + 11) + rm.locals ≤ R.locals) (hg : g.method = m) (hsize : g.locals.size = c.maxLocals) (hlen : ∀ sig, parseMethodDescriptor y.desc = some sig → argsL.length = sig.parameters.length)
    (hstack : g.stack = argsL.reverse ++ .ref a :: rest) (hW : 2 * g.monitorRoom + (rest.map fun v => v.category).sum ≤ W) (hd : decode c.code g.pc = .ok (.invokevirtual index, 3)) (eT : T.heap = h) (N : Fr n0 locs) (hc : cells + rm.cells ≤ R.cells) (hs : slots + rm.slots ≤ R.slots)
    (kk : ∀ (v : Option Value) (T' : State) (locs' : List Loc), Stand p l e R s m args below meth c T' locs' (cells + rm.cells) (slots + rm.slots) → Fr n0 locs' → Qc v T'.heap → OEnds p e below F n0 Q T' { g with pc := g.pc + 3, stack := v.toList ++ rest }) : OEnds p e below F n0 Q T g := by
  obtain ⟨cq, kq, qa, qb, qc⟩ := isOf hZ eT E
  obtain ⟨v, vm₁, ⟨T', L', k', n'⟩, -, X', ⟨Lc, ⟨N', hQ⟩, l', y', z'⟩, st⟩ := X.virtualBack hx hown (mvT hZ w1) (mvT hZ wd) (notFace_of_selects (args := #[]) (mvT hZ ws)) (mvT hZ ws) (mvT hZ w2) hy (backOf (W := W) (Q := fun v h L => Fr n0 L ∧ Qc v h) (K []) hZ w4 w3 hfr hlo) qa qc hg hsize (Steps.refl _) hlen hstack hW hd (fun _ _ => ⟨rfl, eT, hc, hs⟩)
  dsimp only [Pt.U, Pt.locs, Pt.cells, Pt.slots] at X' l' y' z' st hQ
  subst l' y' z'
  exact own_go (fun t kt => st.trans kt) (kk v T' _ X' (Fr.app N N') hQ)
/-! fields -/
theorem own_getF (X : Stand p l e R s m args below meth c T locs cells slots) (hx : p.tables.exec = Jvm.exec) (hZ : Z.Warmed39 s.vm) {O nm d : String} (hown : s.vm.findClass own = some m.cls) (w : (Cond.fieldLink own index O nm d).before a0 Z = true) (eT : T.heap = h) (Fv : Fld Z h a O nm d v) (hg : g.method = m) (hs : g.stack = .ref a :: rest) (hd : decode c.code g.pc = .ok (.getfield index, 3))
    (kk : ∀ T', Stand p l e R s m args below meth c T' locs cells slots → T'.heap = h → OEnds p e below F n0 Q T' { g with pc := g.pc + 3, stack := v :: rest }) : OEnds p e below F n0 Q T g := by
  obtain ⟨T', X', e', st⟩ := getF X hx hZ hown (host := "") (Or.inl w) Via.refl eT Fv hg hs hd
  exact own_go st (kk T' X' e')
theorem own_putF (X : Stand p l e R s m args below meth c T locs cells slots) (hx : p.tables.exec = Jvm.exec) (hZ : Z.Warmed39 s.vm) {O nm d C0 : String} {kk0 : Nat} {v' old : Value} (hown : s.vm.findClass own = some m.cls) (w : (Cond.fieldLink own index O nm d).before a0 Z = true) (eT : T.heap = h) (Fv : Fld Z h a O nm d old) (E : Exa Z h a C0)
    (L : (Cond.lays C0 O nm d).before a0 Z = true ∨ ((Cond.laysFinal C0 O nm d).before a0 Z = true ∧ own = O ∧ meth.name = "<init>")) (wi : (Cond.instantiable C0 kk0).before a0 Z = true) (hty : parseFieldDescriptor d = some ty) (hn : narrow ty v = v') (hf : fits ty v' = true) (N : Fr n0 locs) (ga : n0 ≤ a) (hg : g.method = m) (hs : g.stack = v :: .ref a :: rest) (hd : decode c.code g.pc = .ok (.putfield index, 3))
    (kk : ∀ T' h' locs', Stand p l e R s m args below meth c T' locs' cells slots → T'.heap = h' → Fr n0 locs' → Wr h h' a (RoadKit.slotOf Z O nm d) v' → Fld Z h' a O nm d v' → OEnds p e below F n0 Q T' { g with pc := g.pc + 3, stack := rest }) : OEnds p e below F n0 Q T g := by
  obtain ⟨T', h', X', e', W', st⟩ := putFN X hx hZ hown w Via.refl eT Fv E L wi hty hn hf hg hs hd
  exact own_go st (kk T' h' _ X' e' (Fr.snoc X' N ga) W' (Fv.same W'))
theorem own_initO (X : Stand p l e R s m args below meth c T locs cells slots) (hx : p.tables.exec = Jvm.exec) (hZ : Z.Warmed39 s.vm) {W : Nat} (hown : s.vm.findClass own = some m.cls) (w1 : (Cond.methodLink own index Lib.objectInit).before a0 Z = true) (w2 : (Cond.instanceMethod Lib.objectInit).before a0 Z = true)
    (w3 : (Cond.code Lib.objectInit ⟨#[0xb1]⟩ 1 none).before a0 Z = true) (eT : T.heap = h) (hg : g.method = m) (hsize : g.locals.size = c.maxLocals) (hs : g.stack = .ref a :: rest) (hd : decode c.code g.pc = .ok (.invokespecial index, 3)) (hf : 1 ≤ R.frames) (hW : 2 * g.monitorRoom + (rest.map fun v => v.category).sum ≤ W) (hl : W + 12 ≤ R.locals)
    (kk : ∀ T', Stand p l e R s m args below meth c T' locs cells slots → T'.heap = h → OEnds p e below F n0 Q T' { g with pc := g.pc + 3, stack := rest }) : OEnds p e below F n0 Q T g := by
  obtain ⟨T', X', e', st⟩ := initO X hx hZ hown w1 w2 w3 eT hg hsize hs hd hf hW hl
  exact own_go st (kk T' X' e')
theorem own_new (X : Stand p l e R s m args below meth c T locs cells slots) (hx : p.tables.exec = Jvm.exec) (hZ : Z.Warmed39 s.vm) {C0 : String} {sl : Nat} (hown : s.vm.findClass own = some m.cls) (w : (Cond.classLink own index C0).before a0 Z = true) (wi : (Cond.instantiable C0 sl).before a0 Z = true) (wz : (Cond.initialized C0).before a0 Z = true) (eT : T.heap = h) (hg : g.method = m) (hd : decode c.code g.pc = .ok (.new index, 3)) (hc : cells + 1 ≤ R.cells) (hl : slots + sl ≤ R.slots)
    (kk : ∀ T' h' b, b = h.size → Stand p l e R s m args below meth c T' locs (cells + 1) (slots + sl) → T'.heap = h' → Ext h h' → Exa Z h' b C0 → (∀ {O nm d : String} {ty : FieldType}, Laid Z a0 C0 O nm d → parseFieldDescriptor d = some ty → Fld Z h' b O nm d (defaultValue ty)) → OEnds p e below F n0 Q T' { g with pc := g.pc + 3, stack := .ref b :: g.stack }) : OEnds p e below F n0 Q T g := by
  obtain ⟨T', h', X', e', E', A', D', -, st⟩ := newO X hx hZ hown w wi wz eT hg hd hc hl
  exact own_go st (kk T' h' _ rfl X' e' E' A' D')
/-! arrays -/
theorem own_newarr (X : Stand p l e R s m args below meth c T locs cells slots) (hx : p.tables.exec = Jvm.exec) (hZ : Z.Warmed39 s.vm) {aty : ArrayType} (w : (Cond.arrayClass (newarray.typeOf aty)).before a0 Z = true) (eT : T.heap = h) (hg : g.method = m) (hd : decode c.code g.pc = .ok (.newarray aty, 2)) (hs : g.stack = .int n :: rest) (hn : ¬ n < 0) {cap : Nat} (hcap : n.toNatClampNeg ≤ cap) (hb : cap * 8 ≤ 536870912) (hc : cells + 1 ≤ R.cells) (hl : slots + cap ≤ R.slots)
    (kk : ∀ T' h' b k, b = h.size → Stand p l e R s m args below meth c T' locs (cells + 1) (slots + cap) → T'.heap = h' → Ext h h' → Arv Z h' b k (newarray.typeOf aty) n (List.replicate cap (defaultValue (newarray.typeOf aty))) (defaultValue (newarray.typeOf aty)) → OEnds p e below F n0 Q T' { g with pc := g.pc + 2, stack := .ref b :: rest }) : OEnds p e below F n0 Q T g := by
  obtain ⟨T', h', kA, X', e', E', A', st⟩ := newP X hx hZ w eT hg hd hs hn hcap hb hc hl
  exact own_go st (kk T' h' _ kA rfl X' e' E' ((Arv.new A' hn).pad (pad_rep [] _ cap)))
theorem own_alen (X : Stand p l e R s m args below meth c T locs cells slots) (hx : p.tables.exec = Jvm.exec) (hZ : Z.Warmed39 s.vm) (eT : T.heap = h) (V : Arv Z h a k ty n vs dv) (hg : g.method = m) (hs : g.stack = .ref a :: rest) (hd : decode c.code g.pc = .ok (.arraylength, 1))
    (kk : OEnds p e below F n0 Q T { g with pc := g.pc + 1, stack := .int n :: rest }) : OEnds p e below F n0 Q T g := by
  obtain ⟨cl, Ar, -, Sz, M, H, -⟩ := V
  refine own_go (fun t kt => X.arraylength hx (by rw [eT]; exact Ar.1) (State.isArrayOf_alike hZ.alike Ar.2.1) hg hs hd t kt) ?_
  rw [len_of Sz M]; exact kk
theorem own_iaload (X : Stand p l e R s m args below meth c T locs cells slots) (hx : p.tables.exec = Jvm.exec) (hZ : Z.Warmed39 s.vm) (eT : T.heap = h) (V : Arv Z h a k .int n vs dv) (hj : ¬ j < 0 ∧ j < n) (hv : vs.getD j.toNatClampNeg dv = v) (hg : g.method = m) (hs : g.stack = .int j :: .ref a :: rest) (hd : decode c.code g.pc = .ok (.iaload, 1))
    (kk : OEnds p e below F n0 Q T { g with pc := g.pc + 1, stack := v :: rest }) : OEnds p e below F n0 Q T g := by
  obtain ⟨cl, Ar, -, Sz, M, H, -⟩ := V
  exact own_go (fun t kt => X.iaload hx (by rw [eT]; exact Ar.1) (State.isArrayOf_alike hZ.alike Ar.2.1) Ar.2.2 (inb_of Sz hj) (H.at (inb_of Sz hj) hv) hg hs hd t kt) kk
theorem own_laload (X : Stand p l e R s m args below meth c T locs cells slots) (hx : p.tables.exec = Jvm.exec) (hZ : Z.Warmed39 s.vm) (eT : T.heap = h) (V : Arv Z h a k .long n vs dv) (hj : ¬ j < 0 ∧ j < n) (hv : vs.getD j.toNatClampNeg dv = v) (hg : g.method = m) (hs : g.stack = .int j :: .ref a :: rest) (hd : decode c.code g.pc = .ok (.laload, 1))
    (kk : OEnds p e below F n0 Q T { g with pc := g.pc + 1, stack := v :: rest }) : OEnds p e below F n0 Q T g := by
  obtain ⟨cl, Ar, -, Sz, M, H, -⟩ := V
  exact own_go (fun t kt => X.laload hx (by rw [eT]; exact Ar.1) (State.isArrayOf_alike hZ.alike Ar.2.1) Ar.2.2 (inb_of Sz hj) (H.at (inb_of Sz hj) hv) hg hs hd t kt) kk
theorem own_caload (X : Stand p l e R s m args below meth c T locs cells slots) (hx : p.tables.exec = Jvm.exec) (hZ : Z.Warmed39 s.vm) (eT : T.heap = h) (V : Arv Z h a k .char n vs dv) (hj : ¬ j < 0 ∧ j < n) (hv : vs.getD j.toNatClampNeg dv = v) (hg : g.method = m) (hs : g.stack = .int j :: .ref a :: rest) (hd : decode c.code g.pc = .ok (.caload, 1))
    (kk : OEnds p e below F n0 Q T { g with pc := g.pc + 1, stack := v :: rest }) : OEnds p e below F n0 Q T g := by
  obtain ⟨cl, Ar, -, Sz, M, H, -⟩ := V
  exact own_go (fun t kt => X.caload hx (by rw [eT]; exact Ar.1) (State.isArrayOf_alike hZ.alike Ar.2.1) Ar.2.2 (inb_of Sz hj) (H.at (inb_of Sz hj) hv) hg hs hd t kt) kk
theorem own_baload (X : Stand p l e R s m args below meth c T locs cells slots) (hx : p.tables.exec = Jvm.exec) (hZ : Z.Warmed39 s.vm) (eT : T.heap = h) (V : Arv Z h a k .byte n vs dv) (hj : ¬ j < 0 ∧ j < n) (hv : vs.getD j.toNatClampNeg dv = v) (hg : g.method = m) (hs : g.stack = .int j :: .ref a :: rest) (hd : decode c.code g.pc = .ok (.baload, 1))
    (kk : OEnds p e below F n0 Q T { g with pc := g.pc + 1, stack := v :: rest }) : OEnds p e below F n0 Q T g := by
  obtain ⟨cl, Ar, -, Sz, M, H, -⟩ := V
  exact own_go (fun t kt => X.baloadBytes hx (by rw [eT]; exact Ar.1) (State.isArrayOf_alike hZ.alike Ar.2.1) Ar.2.2 (inb_of Sz hj) (H.at (inb_of Sz hj) hv) hg hs hd t kt) kk
theorem own_iastore (X : Stand p l e R s m args below meth c T locs cells slots) (hx : p.tables.exec = Jvm.exec) (hZ : Z.Warmed39 s.vm) {x : Int32} (eT : T.heap = h) (V : Arv Z h a k .int n vs dv) (hj : ¬ j < 0 ∧ j < n) (i : Nat) (hi : j.toNatClampNeg = i) (hl : i < vs.length) (N : Fr n0 locs) (ga : n0 ≤ a) (hg : g.method = m) (hs : g.stack = .int x :: .int j :: .ref a :: rest) (hd : decode c.code g.pc = .ok (.iastore, 1))
    (kk : ∀ T' h' locs', Stand p l e R s m args below meth c T' locs' cells slots → T'.heap = h' → Fr n0 locs' → Wr h h' a j.toNatClampNeg (.int x) → Arv Z h' a k .int n (vs.set i (.int x)) dv → OEnds p e below F n0 Q T' { g with pc := g.pc + 1, stack := rest }) : OEnds p e below F n0 Q T g := by
  obtain ⟨cl, Ar, q, Sz, M, H, G⟩ := V
  obtain ⟨T', h', X', e', W', st⟩ := stI X hx hZ eT Ar (j := j) (inb_of Sz hj) hg hs hd
  exact own_go st (kk T' h' _ X' e' (Fr.snoc X' N ga) W' (Arv.set Ar q Sz M H G rfl W' i hi hl))
theorem own_lastore (X : Stand p l e R s m args below meth c T locs cells slots) (hx : p.tables.exec = Jvm.exec) (hZ : Z.Warmed39 s.vm) {x : Int64} (eT : T.heap = h) (V : Arv Z h a k .long n vs dv) (hj : ¬ j < 0 ∧ j < n) (i : Nat) (hi : j.toNatClampNeg = i) (hl : i < vs.length) (N : Fr n0 locs) (ga : n0 ≤ a) (hg : g.method = m) (hs : g.stack = .long x :: .int j :: .ref a :: rest) (hd : decode c.code g.pc = .ok (.lastore, 1))
    (kk : ∀ T' h' locs', Stand p l e R s m args below meth c T' locs' cells slots → T'.heap = h' → Fr n0 locs' → Wr h h' a j.toNatClampNeg (.long x) → Arv Z h' a k .long n (vs.set i (.long x)) dv → OEnds p e below F n0 Q T' { g with pc := g.pc + 1, stack := rest }) : OEnds p e below F n0 Q T g := by
  obtain ⟨cl, Ar, q, Sz, M, H, G⟩ := V
  obtain ⟨T', h', X', e', W', st⟩ := stJ X hx hZ eT Ar (j := j) (inb_of Sz hj) hg hs hd
  exact own_go st (kk T' h' _ X' e' (Fr.snoc X' N ga) W' (Arv.set Ar q Sz M H G rfl W' i hi hl))
theorem own_bastore (X : Stand p l e R s m args below meth c T locs cells slots) (hx : p.tables.exec = Jvm.exec) (hZ : Z.Warmed39 s.vm) {x : Int32} (eT : T.heap = h) (V : Arv Z h a k .byte n vs dv) (hj : ¬ j < 0 ∧ j < n) (i : Nat) (hi : j.toNatClampNeg = i) (hl : i < vs.length) (N : Fr n0 locs) (ga : n0 ≤ a) (hg : g.method = m) (hs : g.stack = .int x :: .int j :: .ref a :: rest) (hd : decode c.code g.pc = .ok (.bastore, 1))
    (kk : ∀ T' h' locs', Stand p l e R s m args below meth c T' locs' cells slots → T'.heap = h' → Fr n0 locs' → Wr h h' a j.toNatClampNeg (.int (nar .byte x)) → Arv Z h' a k .byte n (vs.set i (.int (nar .byte x))) dv → OEnds p e below F n0 Q T' { g with pc := g.pc + 1, stack := rest }) : OEnds p e below F n0 Q T g := by
  obtain ⟨cl, Ar, q, Sz, M, H, G⟩ := V
  obtain ⟨T', h', X', e', W', st⟩ := stB X hx hZ eT Ar (j := j) (inb_of Sz hj) hg hs hd
  exact own_go st (kk T' h' _ X' e' (Fr.snoc X' N ga) W' (Arv.set Ar q Sz M H G (fits_nar_byte _) W' i hi hl))
theorem own_castore (X : Stand p l e R s m args below meth c T locs cells slots) (hx : p.tables.exec = Jvm.exec) (hZ : Z.Warmed39 s.vm) {x : Int32} (eT : T.heap = h) (V : Arv Z h a k .char n vs dv) (hj : ¬ j < 0 ∧ j < n) (i : Nat) (hi : j.toNatClampNeg = i) (hl : i < vs.length) (N : Fr n0 locs) (ga : n0 ≤ a) (hg : g.method = m) (hs : g.stack = .int x :: .int j :: .ref a :: rest) (hd : decode c.code g.pc = .ok (.castore, 1))
    (kk : ∀ T' h' locs', Stand p l e R s m args below meth c T' locs' cells slots → T'.heap = h' → Fr n0 locs' → Wr h h' a j.toNatClampNeg (.int (nar .char x)) → Arv Z h' a k .char n (vs.set i (.int (nar .char x))) dv → OEnds p e below F n0 Q T' { g with pc := g.pc + 1, stack := rest }) : OEnds p e below F n0 Q T g := by
  obtain ⟨cl, Ar, q, Sz, M, H, G⟩ := V
  obtain ⟨T', h', X', e', W', st⟩ := stC X hx hZ eT Ar (j := j) (inb_of Sz hj) hg hs hd
  exact own_go st (kk T' h' _ X' e' (Fr.snoc X' N ga) W' (Arv.set Ar q Sz M H G (fits_nar_char _) W' i hi hl))
/-! numbers -/
theorem own_lT {x y : Int64} (hh : x < y) : ifCond.holds .lt (lcmpW x y) = true ∧ ifCond.holds .ge (lcmpW x y) = false ∧ ifCond.holds .gt (lcmpW y x) = true ∧ ifCond.holds .le (lcmpW y x) = false := by
  simp only [if0]
  exact ⟨(tlt ((lw_lt x y).mpr hh)).1, (tlt ((lw_lt x y).mpr hh)).2.1, (tlt ((lw_gt y x).mpr hh)).2.2.1, (tlt ((lw_gt y x).mpr hh)).2.2.2⟩
theorem own_lF {x y : Int64} (hh : ¬ x < y) : ifCond.holds .lt (lcmpW x y) = false ∧ ifCond.holds .ge (lcmpW x y) = true ∧ ifCond.holds .gt (lcmpW y x) = false ∧ ifCond.holds .le (lcmpW y x) = true := by
  simp only [if0]
  have h1 : ¬ lcmpW x y < 0 := fun q => hh ((lw_lt x y).mp q)
  have h2 : ¬ 0 < lcmpW y x := fun q => hh ((lw_gt y x).mp q)
  exact ⟨(flt h1).1, (flt h1).2.1, (flt h2).2.2.1, (flt h2).2.2.2⟩
theorem own_eT {x y : Int64} (hh : x = y) : ifCond.holds .eq (lcmpW x y) = true ∧ ifCond.holds .ne (lcmpW x y) = false := by
  simp only [if0]
  exact teq ((lw_eq x y).mpr hh)
theorem own_eF {x y : Int64} (hh : ¬ x = y) : ifCond.holds .eq (lcmpW x y) = false ∧ ifCond.holds .ne (lcmpW x y) = true := by
  simp only [if0]
  exact feq (fun q => hh ((lw_eq x y).mp q))
end Own
def own_byte (x k : Int32) : Int32 := nar .byte (((x.toUInt32 >>> (k &&& 31).toUInt32).toInt32).toInt8.toInt32)
theorem own_b2 (x y : Int32) (h : (x.toInt - y.toInt) % 256 = 0) : nar .byte (x.toInt8.toInt32) = y.toInt8.toInt32 := by
  show x.toInt8.toInt32.toInt8.toInt32 = _
  have h1 := c_i2b x; have h2 := c_i2b y; have h3 := c_i2b (x.toInt8.toInt32)
  apply Int32.toInt_inj.mp
  omega
theorem own_val (a b : Int32) (y : Int64) (hy : y = ((b.toInt64 <<< ((32 : Int32) &&& 0x3f).toInt64) ||| (a.toInt64 &&& (4294967295 : Int64)))) : (y.toInt - (b.toInt * 4294967296 + a.toInt % 4294967296)) % 18446744073709551616 = 0 := by
  have h1 := c_lshl b.toInt64 32 32 (by decide)
  have e1 : ((2 ^ 32 : Nat) : Int) = 4294967296 := by decide
  have h2 := c_maskL a.toInt64 4294967295 32 (by decide) (by decide)
  rw [e1, c_i2l] at h1 h2
  have h3 := c_orL (b.toInt64 <<< ((32 : Int32) &&& 0x3f).toInt64) (a.toInt64 &&& (4294967295 : Int64)) 32 (by decide) 4294967296 (by decide) (by omega) (by omega) (by omega)
  rw [← hy, h2] at h3
  omega
theorem own_sh0 (x : Int32) : ((x.toUInt32 >>> ((0 : Int32) &&& 31).toUInt32).toInt32) = x := by
  have e : ((0 : Int32) &&& 31).toUInt32 = 0 := by decide
  rw [e]
  simp
theorem own_v56 (a b : Int32) (y : Int64) (hy : y = ((b.toInt64 <<< ((32 : Int32) &&& 0x3f).toInt64) ||| (a.toInt64 &&& (4294967295 : Int64)))) : own_byte b (24 : Int32) = (((y.toUInt64 >>> ((56 : Int32) &&& 0x3f).toInt64.toUInt64).toInt64).toInt32).toInt8.toInt32 := by
  have hv := own_val a b y hy
  apply own_b2
  have h1 := c_lushr y 56 56 (by decide) (by decide)
  have e1 : ((2 ^ 56 : Nat) : Int) = 72057594037927936 := by decide
  rw [e1] at h1
  have h2 := c_l2i ((y.toUInt64 >>> ((56 : Int32) &&& 0x3f).toInt64.toUInt64).toInt64)
  have h3 := c_iushr b 24 24 (by decide) (by decide)
  have e3 : ((2 ^ 24 : Nat) : Int) = 16777216 := by decide
  rw [e3] at h3
  omega
theorem own_v48 (a b : Int32) (y : Int64) (hy : y = ((b.toInt64 <<< ((32 : Int32) &&& 0x3f).toInt64) ||| (a.toInt64 &&& (4294967295 : Int64)))) : own_byte b (16 : Int32) = (((y.toUInt64 >>> ((48 : Int32) &&& 0x3f).toInt64.toUInt64).toInt64).toInt32).toInt8.toInt32 := by
  have hv := own_val a b y hy
  apply own_b2
  have h1 := c_lushr y 48 48 (by decide) (by decide)
  have e1 : ((2 ^ 48 : Nat) : Int) = 281474976710656 := by decide
  rw [e1] at h1
  have h2 := c_l2i ((y.toUInt64 >>> ((48 : Int32) &&& 0x3f).toInt64.toUInt64).toInt64)
  have h3 := c_iushr b 16 16 (by decide) (by decide)
  have e3 : ((2 ^ 16 : Nat) : Int) = 65536 := by decide
  rw [e3] at h3
  omega
theorem own_v40 (a b : Int32) (y : Int64) (hy : y = ((b.toInt64 <<< ((32 : Int32) &&& 0x3f).toInt64) ||| (a.toInt64 &&& (4294967295 : Int64)))) : own_byte b (8 : Int32) = (((y.toUInt64 >>> ((40 : Int32) &&& 0x3f).toInt64.toUInt64).toInt64).toInt32).toInt8.toInt32 := by
  have hv := own_val a b y hy
  apply own_b2
  have h1 := c_lushr y 40 40 (by decide) (by decide)
  have e1 : ((2 ^ 40 : Nat) : Int) = 1099511627776 := by decide
  rw [e1] at h1
  have h2 := c_l2i ((y.toUInt64 >>> ((40 : Int32) &&& 0x3f).toInt64.toUInt64).toInt64)
  have h3 := c_iushr b 8 8 (by decide) (by decide)
  have e3 : ((2 ^ 8 : Nat) : Int) = 256 := by decide
  rw [e3] at h3
  omega
theorem own_v32 (a b : Int32) (y : Int64) (hy : y = ((b.toInt64 <<< ((32 : Int32) &&& 0x3f).toInt64) ||| (a.toInt64 &&& (4294967295 : Int64)))) : own_byte b (0 : Int32) = (((y.toUInt64 >>> ((32 : Int32) &&& 0x3f).toInt64.toUInt64).toInt64).toInt32).toInt8.toInt32 := by
  have hv := own_val a b y hy
  apply own_b2
  have h1 := c_lushr y 32 32 (by decide) (by decide)
  have e1 : ((2 ^ 32 : Nat) : Int) = 4294967296 := by decide
  rw [e1] at h1
  have h2 := c_l2i ((y.toUInt64 >>> ((32 : Int32) &&& 0x3f).toInt64.toUInt64).toInt64)
  have h3 : ((b.toUInt32 >>> ((0 : Int32) &&& 31).toUInt32).toInt32) = b := own_sh0 b
  rw [h3]
  omega
theorem own_v24 (a b : Int32) (y : Int64) (hy : y = ((b.toInt64 <<< ((32 : Int32) &&& 0x3f).toInt64) ||| (a.toInt64 &&& (4294967295 : Int64)))) : own_byte a (24 : Int32) = (((y.toUInt64 >>> ((24 : Int32) &&& 0x3f).toInt64.toUInt64).toInt64).toInt32).toInt8.toInt32 := by
  have hv := own_val a b y hy
  apply own_b2
  have h1 := c_lushr y 24 24 (by decide) (by decide)
  have e1 : ((2 ^ 24 : Nat) : Int) = 16777216 := by decide
  rw [e1] at h1
  have h2 := c_l2i ((y.toUInt64 >>> ((24 : Int32) &&& 0x3f).toInt64.toUInt64).toInt64)
  have h3 := c_iushr a 24 24 (by decide) (by decide)
  have e3 : ((2 ^ 24 : Nat) : Int) = 16777216 := by decide
  rw [e3] at h3
  omega
theorem own_v16 (a b : Int32) (y : Int64) (hy : y = ((b.toInt64 <<< ((32 : Int32) &&& 0x3f).toInt64) ||| (a.toInt64 &&& (4294967295 : Int64)))) : own_byte a (16 : Int32) = (((y.toUInt64 >>> ((16 : Int32) &&& 0x3f).toInt64.toUInt64).toInt64).toInt32).toInt8.toInt32 := by
  have hv := own_val a b y hy
  apply own_b2
  have h1 := c_lushr y 16 16 (by decide) (by decide)
  have e1 : ((2 ^ 16 : Nat) : Int) = 65536 := by decide
  rw [e1] at h1
  have h2 := c_l2i ((y.toUInt64 >>> ((16 : Int32) &&& 0x3f).toInt64.toUInt64).toInt64)
  have h3 := c_iushr a 16 16 (by decide) (by decide)
  have e3 : ((2 ^ 16 : Nat) : Int) = 65536 := by decide
  rw [e3] at h3
  omega
theorem own_v8 (a b : Int32) (y : Int64) (hy : y = ((b.toInt64 <<< ((32 : Int32) &&& 0x3f).toInt64) ||| (a.toInt64 &&& (4294967295 : Int64)))) : own_byte a (8 : Int32) = (((y.toUInt64 >>> ((8 : Int32) &&& 0x3f).toInt64.toUInt64).toInt64).toInt32).toInt8.toInt32 := by
  have hv := own_val a b y hy
  apply own_b2
  have h1 := c_lushr y 8 8 (by decide) (by decide)
  have e1 : ((2 ^ 8 : Nat) : Int) = 256 := by decide
  rw [e1] at h1
  have h2 := c_l2i ((y.toUInt64 >>> ((8 : Int32) &&& 0x3f).toInt64.toUInt64).toInt64)
  have h3 := c_iushr a 8 8 (by decide) (by decide)
  have e3 : ((2 ^ 8 : Nat) : Int) = 256 := by decide
  rw [e3] at h3
  omega
theorem own_v0 (a b : Int32) (y : Int64) (hy : y = ((b.toInt64 <<< ((32 : Int32) &&& 0x3f).toInt64) ||| (a.toInt64 &&& (4294967295 : Int64)))) : own_byte a (0 : Int32) = (y.toInt32).toInt8.toInt32 := by
  have hv := own_val a b y hy
  apply own_b2
  have h2 := c_l2i y
  have h3 : ((a.toUInt32 >>> ((0 : Int32) &&& 31).toUInt32).toInt32) = a := own_sh0 a
  rw [h3]
  omega
theorem own_d1_0 : decode prog_59_method_7_code 0 = .ok (.iconst 0, 1) := by decide +kernel
theorem own_d1_1 : decode prog_59_method_7_code 1 = .ok (.istore_n 2, 1) := by decide +kernel
theorem own_d1_2 : decode prog_59_method_7_code 2 = .ok (.iload_n 2, 1) := by decide +kernel
theorem own_d1_3 : decode prog_59_method_7_code 3 = .ok (.aload_n 1, 1) := by decide +kernel
theorem own_d1_4 : decode prog_59_method_7_code 4 = .ok (.arraylength, 1) := by decide +kernel
theorem own_d1_5 : decode prog_59_method_7_code 5 = .ok (.if_icmp .ge 32, 3) := by decide +kernel
theorem own_d1_8 : decode prog_59_method_7_code 8 = .ok (.aload_n 1, 1) := by decide +kernel
theorem own_d1_9 : decode prog_59_method_7_code 9 = .ok (.arraylength, 1) := by decide +kernel
theorem own_d1_10 : decode prog_59_method_7_code 10 = .ok (.iconst 1, 1) := by decide +kernel
theorem own_d1_11 : decode prog_59_method_7_code 11 = .ok (.isub, 1) := by decide +kernel
theorem own_d1_12 : decode prog_59_method_7_code 12 = .ok (.iload_n 2, 1) := by decide +kernel
theorem own_d1_13 : decode prog_59_method_7_code 13 = .ok (.isub, 1) := by decide +kernel
theorem own_d1_14 : decode prog_59_method_7_code 14 = .ok (.istore_n 3, 1) := by decide +kernel
theorem own_d1_15 : decode prog_59_method_7_code 15 = .ok (.aload_n 1, 1) := by decide +kernel
theorem own_d1_16 : decode prog_59_method_7_code 16 = .ok (.iload_n 2, 1) := by decide +kernel
theorem own_d1_17 : decode prog_59_method_7_code 17 = .ok (.aload_n 0, 1) := by decide +kernel
theorem own_d1_18 : decode prog_59_method_7_code 18 = .ok (.iload_n 3, 1) := by decide +kernel
theorem own_d1_19 : decode prog_59_method_7_code 19 = .ok (.iconst 4, 1) := by decide +kernel
theorem own_d1_20 : decode prog_59_method_7_code 20 = .ok (.idiv, 1) := by decide +kernel
theorem own_d1_21 : decode prog_59_method_7_code 21 = .ok (.iaload, 1) := by decide +kernel
theorem own_d1_22 : decode prog_59_method_7_code 22 = .ok (.iload_n 3, 1) := by decide +kernel
theorem own_d1_23 : decode prog_59_method_7_code 23 = .ok (.iconst 4, 1) := by decide +kernel
theorem own_d1_24 : decode prog_59_method_7_code 24 = .ok (.irem, 1) := by decide +kernel
theorem own_d1_25 : decode prog_59_method_7_code 25 = .ok (.bipush 8, 2) := by decide +kernel
theorem own_d1_27 : decode prog_59_method_7_code 27 = .ok (.imul, 1) := by decide +kernel
theorem own_d1_28 : decode prog_59_method_7_code 28 = .ok (.iushr, 1) := by decide +kernel
theorem own_d1_29 : decode prog_59_method_7_code 29 = .ok (.i2b, 1) := by decide +kernel
theorem own_d1_30 : decode prog_59_method_7_code 30 = .ok (.bastore, 1) := by decide +kernel
theorem own_d1_31 : decode prog_59_method_7_code 31 = .ok (.iinc 2 1, 3) := by decide +kernel
theorem own_d1_34 : decode prog_59_method_7_code 34 = .ok (.goto (-32), 3) := by decide +kernel
theorem own_d1_37 : decode prog_59_method_7_code 37 = .ok (.return_, 1) := by decide +kernel
theorem own_pn_1 : plainFor (⟨"com/example/clearcycle/clearcycle/Montgomery", "toBytes", "([I[B)V"⟩ : MethodName) = true := by first | exact plainFor_of_name (by first | (simp [plainName, overriddenIn]; done) | decide +kernel) | decide +kernel
theorem own_ef_own_tb8 (m : MethodId) (x0 : Addr) (x1 : Addr) : entryFrame m #[(.ref x0), (.ref x1)] 4 = mkF m 0 #[.val (.ref x0), .val (.ref x1), .unset, .unset] [] := by first | (simp [entryFrame, mkF, argsToLocals, Value.category]; done) | rfl
set_option maxRecDepth 65536 in
set_option maxHeartbeats 40000000 in
theorem own_tb8 (l : Launch) (Z : State) (a0 : Array Value) (hw : ∀ d ∈ tables_1, d.before a0 Z = true) (a1 a2 : Addr) (k1 k2 : ClassId) (x y f : Int32) (h0 : Heap) (n0 : Nat) (Z0 : n0 ≤ h0.size) (Vn : Arv Z h0 a1 k1 .int (2 : Int32) [(.int x), (.int y)] (.int (0 : Int32))) (Vo : Arv Z h0 a2 k2 .byte (8 : Int32) [(.int f), (.int f), (.int f), (.int f), (.int f), (.int f), (.int f), (.int f)] (.int (0 : Int32))) (ne_a1_a2 : a1 ≠ a2) (ge_a2 : n0 ≤ a2) :
    OCon l (⟨"com/example/clearcycle/clearcycle/Montgomery", "toBytes", "([I[B)V"⟩ : MethodName) prog_59_method_7_code 4 none ({ frames := 0, cells := 0, slots := 0, locals := 0 } : Room) Z #[(.ref a1), (.ref a2)] h0 n0 (fun v h => v = none ∧ Keep h0 h [a2] ∧ Arv Z h a2 k2 .byte (8 : Int32) [(.int (own_byte y (24 : Int32))), (.int (own_byte y (16 : Int32))), (.int (own_byte y (8 : Int32))), (.int (own_byte y (0 : Int32))), (.int (own_byte x (24 : Int32))), (.int (own_byte x (16 : Int32))), (.int (own_byte x (8 : Int32))), (.int (own_byte x (0 : Int32)))] (.int (0 : Int32))) := by
  refine own_body own_pn_1 ?_
  intro p e s m below meth c T0 hx hZ hby hml hown hnm hret hlk e0 X0
  replace hown : s.vm.findClass "com/example/clearcycle/clearcycle/Montgomery" = some m.cls := hown
  replace hnm : meth.name = "toBytes" := hnm
  have N0 := Fr.nil n0
  have K0 : Keep h0 h0 [a2] := Keep.refl _ _
  refine own_at (own_ef_own_tb8 m a1 a2) ?_
  refine own_go (g' := (mkF m 1 #[.val (.ref a1), .val (.ref a2), .unset, .unset] [(.int (0 : Int32))])) (fun t kt => XS.iconst X0.here hx rfl (hb hby own_d1_0) kt) ?_
  refine own_go (g' := (mkF m 2 #[.val (.ref a1), .val (.ref a2), .val (.int (0 : Int32)), .unset] [])) (fun t kt => XS.istoreN X0.here hx rfl (hb hby own_d1_1) rfl (l' := #[.val (.ref a1), .val (.ref a2), .val (.int (0 : Int32)), .unset]) rfl kt) ?_
  refine own_go (g' := (mkF m 3 #[.val (.ref a1), .val (.ref a2), .val (.int (0 : Int32)), .unset] [(.int (0 : Int32))])) (fun t kt => XS.iloadN X0.here hx rfl (hb hby own_d1_2) rfl kt) ?_
  refine own_go (g' := (mkF m 4 #[.val (.ref a1), .val (.ref a2), .val (.int (0 : Int32)), .unset] [(.ref a2), (.int (0 : Int32))])) (fun t kt => XS.aloadN X0.here hx rfl (hb hby own_d1_3) rfl rfl kt) ?_
  refine own_alen X0 hx hZ e0 Vo (g := (mkF m 4 #[.val (.ref a1), .val (.ref a2), .val (.int (0 : Int32)), .unset] [(.ref a2), (.int (0 : Int32))])) rfl rfl (hb hby own_d1_4) ?_
  show OEnds _ _ _ _ _ _ T0 (mkF m 5 #[.val (.ref a1), .val (.ref a2), .val (.int (0 : Int32)), .unset] [(.int (8 : Int32)), (.int (0 : Int32))])
  refine own_go (g' := (mkF m 8 #[.val (.ref a1), .val (.ref a2), .val (.int (0 : Int32)), .unset] [])) (fun t kt => XS.icmpNo X0.here hx rfl (hb hby own_d1_5) rfl (tlt ((by decide) : (0 : Int32) < (8 : Int32))).2.1 kt) ?_
  refine own_go (g' := (mkF m 9 #[.val (.ref a1), .val (.ref a2), .val (.int (0 : Int32)), .unset] [(.ref a2)])) (fun t kt => XS.aloadN X0.here hx rfl (hb hby own_d1_8) rfl rfl kt) ?_
  refine own_alen X0 hx hZ e0 Vo (g := (mkF m 9 #[.val (.ref a1), .val (.ref a2), .val (.int (0 : Int32)), .unset] [(.ref a2)])) rfl rfl (hb hby own_d1_9) ?_
  show OEnds _ _ _ _ _ _ T0 (mkF m 10 #[.val (.ref a1), .val (.ref a2), .val (.int (0 : Int32)), .unset] [(.int (8 : Int32))])
  refine own_go (g' := (mkF m 11 #[.val (.ref a1), .val (.ref a2), .val (.int (0 : Int32)), .unset] [(.int (1 : Int32)), (.int (8 : Int32))])) (fun t kt => XS.iconst X0.here hx rfl (hb hby own_d1_10) kt) ?_
  refine own_go (g' := (mkF m 12 #[.val (.ref a1), .val (.ref a2), .val (.int (0 : Int32)), .unset] [(.int (7 : Int32))])) (fun t kt => XS.isub X0.here hx rfl (hb hby own_d1_11) rfl kt) ?_
  refine own_go (g' := (mkF m 13 #[.val (.ref a1), .val (.ref a2), .val (.int (0 : Int32)), .unset] [(.int (0 : Int32)), (.int (7 : Int32))])) (fun t kt => XS.iloadN X0.here hx rfl (hb hby own_d1_12) rfl kt) ?_
  refine own_go (g' := (mkF m 14 #[.val (.ref a1), .val (.ref a2), .val (.int (0 : Int32)), .unset] [(.int (7 : Int32))])) (fun t kt => XS.isub X0.here hx rfl (hb hby own_d1_13) rfl kt) ?_
  refine own_go (g' := (mkF m 15 #[.val (.ref a1), .val (.ref a2), .val (.int (0 : Int32)), .val (.int (7 : Int32))] [])) (fun t kt => XS.istoreN X0.here hx rfl (hb hby own_d1_14) rfl (l' := #[.val (.ref a1), .val (.ref a2), .val (.int (0 : Int32)), .val (.int (7 : Int32))]) rfl kt) ?_
  refine own_go (g' := (mkF m 16 #[.val (.ref a1), .val (.ref a2), .val (.int (0 : Int32)), .val (.int (7 : Int32))] [(.ref a2)])) (fun t kt => XS.aloadN X0.here hx rfl (hb hby own_d1_15) rfl rfl kt) ?_
  refine own_go (g' := (mkF m 17 #[.val (.ref a1), .val (.ref a2), .val (.int (0 : Int32)), .val (.int (7 : Int32))] [(.int (0 : Int32)), (.ref a2)])) (fun t kt => XS.iloadN X0.here hx rfl (hb hby own_d1_16) rfl kt) ?_
  refine own_go (g' := (mkF m 18 #[.val (.ref a1), .val (.ref a2), .val (.int (0 : Int32)), .val (.int (7 : Int32))] [(.ref a1), (.int (0 : Int32)), (.ref a2)])) (fun t kt => XS.aloadN X0.here hx rfl (hb hby own_d1_17) rfl rfl kt) ?_
  refine own_go (g' := (mkF m 19 #[.val (.ref a1), .val (.ref a2), .val (.int (0 : Int32)), .val (.int (7 : Int32))] [(.int (7 : Int32)), (.ref a1), (.int (0 : Int32)), (.ref a2)])) (fun t kt => XS.iloadN X0.here hx rfl (hb hby own_d1_18) rfl kt) ?_
  refine own_go (g' := (mkF m 20 #[.val (.ref a1), .val (.ref a2), .val (.int (0 : Int32)), .val (.int (7 : Int32))] [(.int (4 : Int32)), (.int (7 : Int32)), (.ref a1), (.int (0 : Int32)), (.ref a2)])) (fun t kt => XS.iconst X0.here hx rfl (hb hby own_d1_19) kt) ?_
  refine own_go (g' := (mkF m 21 #[.val (.ref a1), .val (.ref a2), .val (.int (0 : Int32)), .val (.int (7 : Int32))] [(.int (1 : Int32)), (.ref a1), (.int (0 : Int32)), (.ref a2)])) (fun t kt => XS.idiv X0.here hx rfl (hb hby own_d1_20) rfl (by decide) kt) ?_
  refine own_iaload X0 hx hZ e0 Vn ⟨by decide, by decide⟩ (v := (.int y)) rfl (g := (mkF m 21 #[.val (.ref a1), .val (.ref a2), .val (.int (0 : Int32)), .val (.int (7 : Int32))] [(.int (1 : Int32)), (.ref a1), (.int (0 : Int32)), (.ref a2)])) rfl rfl (hb hby own_d1_21) ?_
  show OEnds _ _ _ _ _ _ T0 (mkF m 22 #[.val (.ref a1), .val (.ref a2), .val (.int (0 : Int32)), .val (.int (7 : Int32))] [(.int y), (.int (0 : Int32)), (.ref a2)])
  refine own_go (g' := (mkF m 23 #[.val (.ref a1), .val (.ref a2), .val (.int (0 : Int32)), .val (.int (7 : Int32))] [(.int (7 : Int32)), (.int y), (.int (0 : Int32)), (.ref a2)])) (fun t kt => XS.iloadN X0.here hx rfl (hb hby own_d1_22) rfl kt) ?_
  refine own_go (g' := (mkF m 24 #[.val (.ref a1), .val (.ref a2), .val (.int (0 : Int32)), .val (.int (7 : Int32))] [(.int (4 : Int32)), (.int (7 : Int32)), (.int y), (.int (0 : Int32)), (.ref a2)])) (fun t kt => XS.iconst X0.here hx rfl (hb hby own_d1_23) kt) ?_
  refine own_go (g' := (mkF m 25 #[.val (.ref a1), .val (.ref a2), .val (.int (0 : Int32)), .val (.int (7 : Int32))] [(.int (3 : Int32)), (.int y), (.int (0 : Int32)), (.ref a2)])) (fun t kt => iremM X0 hx rfl (hb hby own_d1_24) rfl (by decide) kt) ?_
  refine own_go (g' := (mkF m 27 #[.val (.ref a1), .val (.ref a2), .val (.int (0 : Int32)), .val (.int (7 : Int32))] [(.int (8 : Int32)), (.int (3 : Int32)), (.int y), (.int (0 : Int32)), (.ref a2)])) (fun t kt => XS.bipush X0.here hx rfl (hb hby own_d1_25) kt) ?_
  refine own_go (g' := (mkF m 28 #[.val (.ref a1), .val (.ref a2), .val (.int (0 : Int32)), .val (.int (7 : Int32))] [(.int (24 : Int32)), (.int y), (.int (0 : Int32)), (.ref a2)])) (fun t kt => XS.imul X0.here hx rfl (hb hby own_d1_27) rfl kt) ?_
  refine own_go (g' := (mkF m 29 #[.val (.ref a1), .val (.ref a2), .val (.int (0 : Int32)), .val (.int (7 : Int32))] [(.int ((y.toUInt32 >>> ((24 : Int32) &&& 31).toUInt32).toInt32)), (.int (0 : Int32)), (.ref a2)])) (fun t kt => XS.iushr X0.here hx rfl (hb hby own_d1_28) rfl kt) ?_
  refine own_go (g' := (mkF m 30 #[.val (.ref a1), .val (.ref a2), .val (.int (0 : Int32)), .val (.int (7 : Int32))] [(.int (((y.toUInt32 >>> ((24 : Int32) &&& 31).toUInt32).toInt32).toInt8.toInt32)), (.int (0 : Int32)), (.ref a2)])) (fun t kt => XS.i2b X0.here hx rfl (hb hby own_d1_29) rfl kt) ?_
  refine own_bastore X0 hx hZ e0 Vo ⟨by decide, by decide⟩ 0 rfl (Nat.le_of_ble_eq_true rfl) N0 ge_a2 (g := (mkF m 30 #[.val (.ref a1), .val (.ref a2), .val (.int (0 : Int32)), .val (.int (7 : Int32))] [(.int (((y.toUInt32 >>> ((24 : Int32) &&& 31).toUInt32).toInt32).toInt8.toInt32)), (.int (0 : Int32)), (.ref a2)])) rfl rfl (hb hby own_d1_30) (fun T1 h1 L1 X1 e1 N1 W1 V1 => ?_)
  show OEnds _ _ _ _ _ _ T1 (mkF m 31 #[.val (.ref a1), .val (.ref a2), .val (.int (0 : Int32)), .val (.int (7 : Int32))] [])
  have Vn_h1 := Vn.other W1 ne_a1_a2
  have K1 := K0.wr W1 (Or.inl (List.mem_of_getElem? (i := 0) rfl))
  replace V1 : Arv Z h1 a2 k2 .byte (8 : Int32) [(.int (nar .byte (((y.toUInt32 >>> ((24 : Int32) &&& 31).toUInt32).toInt32).toInt8.toInt32))), (.int f), (.int f), (.int f), (.int f), (.int f), (.int f), (.int f)] (.int (0 : Int32)) := V1
  refine own_go (g' := (mkF m 34 #[.val (.ref a1), .val (.ref a2), .val (.int (1 : Int32)), .val (.int (7 : Int32))] [])) (fun t kt => XS.iinc X1.here hx rfl (hb hby own_d1_31) rfl (l' := #[.val (.ref a1), .val (.ref a2), .val (.int (1 : Int32)), .val (.int (7 : Int32))]) rfl kt) ?_
  refine own_go (g' := (mkF m 2 #[.val (.ref a1), .val (.ref a2), .val (.int (1 : Int32)), .val (.int (7 : Int32))] [])) (fun t kt => XS.goto X1.here hx rfl (pc0 := 34) (pc' := 2) rfl (hb hby own_d1_34) (by decide) (by decide) kt) ?_
  refine own_go (g' := (mkF m 3 #[.val (.ref a1), .val (.ref a2), .val (.int (1 : Int32)), .val (.int (7 : Int32))] [(.int (1 : Int32))])) (fun t kt => XS.iloadN X1.here hx rfl (hb hby own_d1_2) rfl kt) ?_
  refine own_go (g' := (mkF m 4 #[.val (.ref a1), .val (.ref a2), .val (.int (1 : Int32)), .val (.int (7 : Int32))] [(.ref a2), (.int (1 : Int32))])) (fun t kt => XS.aloadN X1.here hx rfl (hb hby own_d1_3) rfl rfl kt) ?_
  refine own_alen X1 hx hZ e1 V1 (g := (mkF m 4 #[.val (.ref a1), .val (.ref a2), .val (.int (1 : Int32)), .val (.int (7 : Int32))] [(.ref a2), (.int (1 : Int32))])) rfl rfl (hb hby own_d1_4) ?_
  show OEnds _ _ _ _ _ _ T1 (mkF m 5 #[.val (.ref a1), .val (.ref a2), .val (.int (1 : Int32)), .val (.int (7 : Int32))] [(.int (8 : Int32)), (.int (1 : Int32))])
  refine own_go (g' := (mkF m 8 #[.val (.ref a1), .val (.ref a2), .val (.int (1 : Int32)), .val (.int (7 : Int32))] [])) (fun t kt => XS.icmpNo X1.here hx rfl (hb hby own_d1_5) rfl (tlt ((by decide) : (1 : Int32) < (8 : Int32))).2.1 kt) ?_
  refine own_go (g' := (mkF m 9 #[.val (.ref a1), .val (.ref a2), .val (.int (1 : Int32)), .val (.int (7 : Int32))] [(.ref a2)])) (fun t kt => XS.aloadN X1.here hx rfl (hb hby own_d1_8) rfl rfl kt) ?_
  refine own_alen X1 hx hZ e1 V1 (g := (mkF m 9 #[.val (.ref a1), .val (.ref a2), .val (.int (1 : Int32)), .val (.int (7 : Int32))] [(.ref a2)])) rfl rfl (hb hby own_d1_9) ?_
  show OEnds _ _ _ _ _ _ T1 (mkF m 10 #[.val (.ref a1), .val (.ref a2), .val (.int (1 : Int32)), .val (.int (7 : Int32))] [(.int (8 : Int32))])
  refine own_go (g' := (mkF m 11 #[.val (.ref a1), .val (.ref a2), .val (.int (1 : Int32)), .val (.int (7 : Int32))] [(.int (1 : Int32)), (.int (8 : Int32))])) (fun t kt => XS.iconst X1.here hx rfl (hb hby own_d1_10) kt) ?_
  refine own_go (g' := (mkF m 12 #[.val (.ref a1), .val (.ref a2), .val (.int (1 : Int32)), .val (.int (7 : Int32))] [(.int (7 : Int32))])) (fun t kt => XS.isub X1.here hx rfl (hb hby own_d1_11) rfl kt) ?_
  refine own_go (g' := (mkF m 13 #[.val (.ref a1), .val (.ref a2), .val (.int (1 : Int32)), .val (.int (7 : Int32))] [(.int (1 : Int32)), (.int (7 : Int32))])) (fun t kt => XS.iloadN X1.here hx rfl (hb hby own_d1_12) rfl kt) ?_
  refine own_go (g' := (mkF m 14 #[.val (.ref a1), .val (.ref a2), .val (.int (1 : Int32)), .val (.int (7 : Int32))] [(.int (6 : Int32))])) (fun t kt => XS.isub X1.here hx rfl (hb hby own_d1_13) rfl kt) ?_
  refine own_go (g' := (mkF m 15 #[.val (.ref a1), .val (.ref a2), .val (.int (1 : Int32)), .val (.int (6 : Int32))] [])) (fun t kt => XS.istoreN X1.here hx rfl (hb hby own_d1_14) rfl (l' := #[.val (.ref a1), .val (.ref a2), .val (.int (1 : Int32)), .val (.int (6 : Int32))]) rfl kt) ?_
  refine own_go (g' := (mkF m 16 #[.val (.ref a1), .val (.ref a2), .val (.int (1 : Int32)), .val (.int (6 : Int32))] [(.ref a2)])) (fun t kt => XS.aloadN X1.here hx rfl (hb hby own_d1_15) rfl rfl kt) ?_
  refine own_go (g' := (mkF m 17 #[.val (.ref a1), .val (.ref a2), .val (.int (1 : Int32)), .val (.int (6 : Int32))] [(.int (1 : Int32)), (.ref a2)])) (fun t kt => XS.iloadN X1.here hx rfl (hb hby own_d1_16) rfl kt) ?_
  refine own_go (g' := (mkF m 18 #[.val (.ref a1), .val (.ref a2), .val (.int (1 : Int32)), .val (.int (6 : Int32))] [(.ref a1), (.int (1 : Int32)), (.ref a2)])) (fun t kt => XS.aloadN X1.here hx rfl (hb hby own_d1_17) rfl rfl kt) ?_
  refine own_go (g' := (mkF m 19 #[.val (.ref a1), .val (.ref a2), .val (.int (1 : Int32)), .val (.int (6 : Int32))] [(.int (6 : Int32)), (.ref a1), (.int (1 : Int32)), (.ref a2)])) (fun t kt => XS.iloadN X1.here hx rfl (hb hby own_d1_18) rfl kt) ?_
  refine own_go (g' := (mkF m 20 #[.val (.ref a1), .val (.ref a2), .val (.int (1 : Int32)), .val (.int (6 : Int32))] [(.int (4 : Int32)), (.int (6 : Int32)), (.ref a1), (.int (1 : Int32)), (.ref a2)])) (fun t kt => XS.iconst X1.here hx rfl (hb hby own_d1_19) kt) ?_
  refine own_go (g' := (mkF m 21 #[.val (.ref a1), .val (.ref a2), .val (.int (1 : Int32)), .val (.int (6 : Int32))] [(.int (1 : Int32)), (.ref a1), (.int (1 : Int32)), (.ref a2)])) (fun t kt => XS.idiv X1.here hx rfl (hb hby own_d1_20) rfl (by decide) kt) ?_
  refine own_iaload X1 hx hZ e1 Vn_h1 ⟨by decide, by decide⟩ (v := (.int y)) rfl (g := (mkF m 21 #[.val (.ref a1), .val (.ref a2), .val (.int (1 : Int32)), .val (.int (6 : Int32))] [(.int (1 : Int32)), (.ref a1), (.int (1 : Int32)), (.ref a2)])) rfl rfl (hb hby own_d1_21) ?_
  show OEnds _ _ _ _ _ _ T1 (mkF m 22 #[.val (.ref a1), .val (.ref a2), .val (.int (1 : Int32)), .val (.int (6 : Int32))] [(.int y), (.int (1 : Int32)), (.ref a2)])
  refine own_go (g' := (mkF m 23 #[.val (.ref a1), .val (.ref a2), .val (.int (1 : Int32)), .val (.int (6 : Int32))] [(.int (6 : Int32)), (.int y), (.int (1 : Int32)), (.ref a2)])) (fun t kt => XS.iloadN X1.here hx rfl (hb hby own_d1_22) rfl kt) ?_
  refine own_go (g' := (mkF m 24 #[.val (.ref a1), .val (.ref a2), .val (.int (1 : Int32)), .val (.int (6 : Int32))] [(.int (4 : Int32)), (.int (6 : Int32)), (.int y), (.int (1 : Int32)), (.ref a2)])) (fun t kt => XS.iconst X1.here hx rfl (hb hby own_d1_23) kt) ?_
  refine own_go (g' := (mkF m 25 #[.val (.ref a1), .val (.ref a2), .val (.int (1 : Int32)), .val (.int (6 : Int32))] [(.int (2 : Int32)), (.int y), (.int (1 : Int32)), (.ref a2)])) (fun t kt => iremM X1 hx rfl (hb hby own_d1_24) rfl (by decide) kt) ?_
  refine own_go (g' := (mkF m 27 #[.val (.ref a1), .val (.ref a2), .val (.int (1 : Int32)), .val (.int (6 : Int32))] [(.int (8 : Int32)), (.int (2 : Int32)), (.int y), (.int (1 : Int32)), (.ref a2)])) (fun t kt => XS.bipush X1.here hx rfl (hb hby own_d1_25) kt) ?_
  refine own_go (g' := (mkF m 28 #[.val (.ref a1), .val (.ref a2), .val (.int (1 : Int32)), .val (.int (6 : Int32))] [(.int (16 : Int32)), (.int y), (.int (1 : Int32)), (.ref a2)])) (fun t kt => XS.imul X1.here hx rfl (hb hby own_d1_27) rfl kt) ?_
  refine own_go (g' := (mkF m 29 #[.val (.ref a1), .val (.ref a2), .val (.int (1 : Int32)), .val (.int (6 : Int32))] [(.int ((y.toUInt32 >>> ((16 : Int32) &&& 31).toUInt32).toInt32)), (.int (1 : Int32)), (.ref a2)])) (fun t kt => XS.iushr X1.here hx rfl (hb hby own_d1_28) rfl kt) ?_
  refine own_go (g' := (mkF m 30 #[.val (.ref a1), .val (.ref a2), .val (.int (1 : Int32)), .val (.int (6 : Int32))] [(.int (((y.toUInt32 >>> ((16 : Int32) &&& 31).toUInt32).toInt32).toInt8.toInt32)), (.int (1 : Int32)), (.ref a2)])) (fun t kt => XS.i2b X1.here hx rfl (hb hby own_d1_29) rfl kt) ?_
  refine own_bastore X1 hx hZ e1 V1 ⟨by decide, by decide⟩ 1 rfl (Nat.le_of_ble_eq_true rfl) N1 ge_a2 (g := (mkF m 30 #[.val (.ref a1), .val (.ref a2), .val (.int (1 : Int32)), .val (.int (6 : Int32))] [(.int (((y.toUInt32 >>> ((16 : Int32) &&& 31).toUInt32).toInt32).toInt8.toInt32)), (.int (1 : Int32)), (.ref a2)])) rfl rfl (hb hby own_d1_30) (fun T2 h2 L2 X2 e2 N2 W2 V2 => ?_)
  show OEnds _ _ _ _ _ _ T2 (mkF m 31 #[.val (.ref a1), .val (.ref a2), .val (.int (1 : Int32)), .val (.int (6 : Int32))] [])
  have Vn_h2 := Vn_h1.other W2 ne_a1_a2
  have K2 := K1.wr W2 (Or.inl (List.mem_of_getElem? (i := 0) rfl))
  replace V2 : Arv Z h2 a2 k2 .byte (8 : Int32) [(.int (nar .byte (((y.toUInt32 >>> ((24 : Int32) &&& 31).toUInt32).toInt32).toInt8.toInt32))), (.int (nar .byte (((y.toUInt32 >>> ((16 : Int32) &&& 31).toUInt32).toInt32).toInt8.toInt32))), (.int f), (.int f), (.int f), (.int f), (.int f), (.int f)] (.int (0 : Int32)) := V2
  refine own_go (g' := (mkF m 34 #[.val (.ref a1), .val (.ref a2), .val (.int (2 : Int32)), .val (.int (6 : Int32))] [])) (fun t kt => XS.iinc X2.here hx rfl (hb hby own_d1_31) rfl (l' := #[.val (.ref a1), .val (.ref a2), .val (.int (2 : Int32)), .val (.int (6 : Int32))]) rfl kt) ?_
  refine own_go (g' := (mkF m 2 #[.val (.ref a1), .val (.ref a2), .val (.int (2 : Int32)), .val (.int (6 : Int32))] [])) (fun t kt => XS.goto X2.here hx rfl (pc0 := 34) (pc' := 2) rfl (hb hby own_d1_34) (by decide) (by decide) kt) ?_
  refine own_go (g' := (mkF m 3 #[.val (.ref a1), .val (.ref a2), .val (.int (2 : Int32)), .val (.int (6 : Int32))] [(.int (2 : Int32))])) (fun t kt => XS.iloadN X2.here hx rfl (hb hby own_d1_2) rfl kt) ?_
  refine own_go (g' := (mkF m 4 #[.val (.ref a1), .val (.ref a2), .val (.int (2 : Int32)), .val (.int (6 : Int32))] [(.ref a2), (.int (2 : Int32))])) (fun t kt => XS.aloadN X2.here hx rfl (hb hby own_d1_3) rfl rfl kt) ?_
  refine own_alen X2 hx hZ e2 V2 (g := (mkF m 4 #[.val (.ref a1), .val (.ref a2), .val (.int (2 : Int32)), .val (.int (6 : Int32))] [(.ref a2), (.int (2 : Int32))])) rfl rfl (hb hby own_d1_4) ?_
  show OEnds _ _ _ _ _ _ T2 (mkF m 5 #[.val (.ref a1), .val (.ref a2), .val (.int (2 : Int32)), .val (.int (6 : Int32))] [(.int (8 : Int32)), (.int (2 : Int32))])
  refine own_go (g' := (mkF m 8 #[.val (.ref a1), .val (.ref a2), .val (.int (2 : Int32)), .val (.int (6 : Int32))] [])) (fun t kt => XS.icmpNo X2.here hx rfl (hb hby own_d1_5) rfl (tlt ((by decide) : (2 : Int32) < (8 : Int32))).2.1 kt) ?_
  refine own_go (g' := (mkF m 9 #[.val (.ref a1), .val (.ref a2), .val (.int (2 : Int32)), .val (.int (6 : Int32))] [(.ref a2)])) (fun t kt => XS.aloadN X2.here hx rfl (hb hby own_d1_8) rfl rfl kt) ?_
  refine own_alen X2 hx hZ e2 V2 (g := (mkF m 9 #[.val (.ref a1), .val (.ref a2), .val (.int (2 : Int32)), .val (.int (6 : Int32))] [(.ref a2)])) rfl rfl (hb hby own_d1_9) ?_
  show OEnds _ _ _ _ _ _ T2 (mkF m 10 #[.val (.ref a1), .val (.ref a2), .val (.int (2 : Int32)), .val (.int (6 : Int32))] [(.int (8 : Int32))])
  refine own_go (g' := (mkF m 11 #[.val (.ref a1), .val (.ref a2), .val (.int (2 : Int32)), .val (.int (6 : Int32))] [(.int (1 : Int32)), (.int (8 : Int32))])) (fun t kt => XS.iconst X2.here hx rfl (hb hby own_d1_10) kt) ?_
  refine own_go (g' := (mkF m 12 #[.val (.ref a1), .val (.ref a2), .val (.int (2 : Int32)), .val (.int (6 : Int32))] [(.int (7 : Int32))])) (fun t kt => XS.isub X2.here hx rfl (hb hby own_d1_11) rfl kt) ?_
  refine own_go (g' := (mkF m 13 #[.val (.ref a1), .val (.ref a2), .val (.int (2 : Int32)), .val (.int (6 : Int32))] [(.int (2 : Int32)), (.int (7 : Int32))])) (fun t kt => XS.iloadN X2.here hx rfl (hb hby own_d1_12) rfl kt) ?_
  refine own_go (g' := (mkF m 14 #[.val (.ref a1), .val (.ref a2), .val (.int (2 : Int32)), .val (.int (6 : Int32))] [(.int (5 : Int32))])) (fun t kt => XS.isub X2.here hx rfl (hb hby own_d1_13) rfl kt) ?_
  refine own_go (g' := (mkF m 15 #[.val (.ref a1), .val (.ref a2), .val (.int (2 : Int32)), .val (.int (5 : Int32))] [])) (fun t kt => XS.istoreN X2.here hx rfl (hb hby own_d1_14) rfl (l' := #[.val (.ref a1), .val (.ref a2), .val (.int (2 : Int32)), .val (.int (5 : Int32))]) rfl kt) ?_
  refine own_go (g' := (mkF m 16 #[.val (.ref a1), .val (.ref a2), .val (.int (2 : Int32)), .val (.int (5 : Int32))] [(.ref a2)])) (fun t kt => XS.aloadN X2.here hx rfl (hb hby own_d1_15) rfl rfl kt) ?_
  refine own_go (g' := (mkF m 17 #[.val (.ref a1), .val (.ref a2), .val (.int (2 : Int32)), .val (.int (5 : Int32))] [(.int (2 : Int32)), (.ref a2)])) (fun t kt => XS.iloadN X2.here hx rfl (hb hby own_d1_16) rfl kt) ?_
  refine own_go (g' := (mkF m 18 #[.val (.ref a1), .val (.ref a2), .val (.int (2 : Int32)), .val (.int (5 : Int32))] [(.ref a1), (.int (2 : Int32)), (.ref a2)])) (fun t kt => XS.aloadN X2.here hx rfl (hb hby own_d1_17) rfl rfl kt) ?_
  refine own_go (g' := (mkF m 19 #[.val (.ref a1), .val (.ref a2), .val (.int (2 : Int32)), .val (.int (5 : Int32))] [(.int (5 : Int32)), (.ref a1), (.int (2 : Int32)), (.ref a2)])) (fun t kt => XS.iloadN X2.here hx rfl (hb hby own_d1_18) rfl kt) ?_
  refine own_go (g' := (mkF m 20 #[.val (.ref a1), .val (.ref a2), .val (.int (2 : Int32)), .val (.int (5 : Int32))] [(.int (4 : Int32)), (.int (5 : Int32)), (.ref a1), (.int (2 : Int32)), (.ref a2)])) (fun t kt => XS.iconst X2.here hx rfl (hb hby own_d1_19) kt) ?_
  refine own_go (g' := (mkF m 21 #[.val (.ref a1), .val (.ref a2), .val (.int (2 : Int32)), .val (.int (5 : Int32))] [(.int (1 : Int32)), (.ref a1), (.int (2 : Int32)), (.ref a2)])) (fun t kt => XS.idiv X2.here hx rfl (hb hby own_d1_20) rfl (by decide) kt) ?_
  refine own_iaload X2 hx hZ e2 Vn_h2 ⟨by decide, by decide⟩ (v := (.int y)) rfl (g := (mkF m 21 #[.val (.ref a1), .val (.ref a2), .val (.int (2 : Int32)), .val (.int (5 : Int32))] [(.int (1 : Int32)), (.ref a1), (.int (2 : Int32)), (.ref a2)])) rfl rfl (hb hby own_d1_21) ?_
  show OEnds _ _ _ _ _ _ T2 (mkF m 22 #[.val (.ref a1), .val (.ref a2), .val (.int (2 : Int32)), .val (.int (5 : Int32))] [(.int y), (.int (2 : Int32)), (.ref a2)])
  refine own_go (g' := (mkF m 23 #[.val (.ref a1), .val (.ref a2), .val (.int (2 : Int32)), .val (.int (5 : Int32))] [(.int (5 : Int32)), (.int y), (.int (2 : Int32)), (.ref a2)])) (fun t kt => XS.iloadN X2.here hx rfl (hb hby own_d1_22) rfl kt) ?_
  refine own_go (g' := (mkF m 24 #[.val (.ref a1), .val (.ref a2), .val (.int (2 : Int32)), .val (.int (5 : Int32))] [(.int (4 : Int32)), (.int (5 : Int32)), (.int y), (.int (2 : Int32)), (.ref a2)])) (fun t kt => XS.iconst X2.here hx rfl (hb hby own_d1_23) kt) ?_
  refine own_go (g' := (mkF m 25 #[.val (.ref a1), .val (.ref a2), .val (.int (2 : Int32)), .val (.int (5 : Int32))] [(.int (1 : Int32)), (.int y), (.int (2 : Int32)), (.ref a2)])) (fun t kt => iremM X2 hx rfl (hb hby own_d1_24) rfl (by decide) kt) ?_
  refine own_go (g' := (mkF m 27 #[.val (.ref a1), .val (.ref a2), .val (.int (2 : Int32)), .val (.int (5 : Int32))] [(.int (8 : Int32)), (.int (1 : Int32)), (.int y), (.int (2 : Int32)), (.ref a2)])) (fun t kt => XS.bipush X2.here hx rfl (hb hby own_d1_25) kt) ?_
  refine own_go (g' := (mkF m 28 #[.val (.ref a1), .val (.ref a2), .val (.int (2 : Int32)), .val (.int (5 : Int32))] [(.int (8 : Int32)), (.int y), (.int (2 : Int32)), (.ref a2)])) (fun t kt => XS.imul X2.here hx rfl (hb hby own_d1_27) rfl kt) ?_
  refine own_go (g' := (mkF m 29 #[.val (.ref a1), .val (.ref a2), .val (.int (2 : Int32)), .val (.int (5 : Int32))] [(.int ((y.toUInt32 >>> ((8 : Int32) &&& 31).toUInt32).toInt32)), (.int (2 : Int32)), (.ref a2)])) (fun t kt => XS.iushr X2.here hx rfl (hb hby own_d1_28) rfl kt) ?_
  refine own_go (g' := (mkF m 30 #[.val (.ref a1), .val (.ref a2), .val (.int (2 : Int32)), .val (.int (5 : Int32))] [(.int (((y.toUInt32 >>> ((8 : Int32) &&& 31).toUInt32).toInt32).toInt8.toInt32)), (.int (2 : Int32)), (.ref a2)])) (fun t kt => XS.i2b X2.here hx rfl (hb hby own_d1_29) rfl kt) ?_
  refine own_bastore X2 hx hZ e2 V2 ⟨by decide, by decide⟩ 2 rfl (Nat.le_of_ble_eq_true rfl) N2 ge_a2 (g := (mkF m 30 #[.val (.ref a1), .val (.ref a2), .val (.int (2 : Int32)), .val (.int (5 : Int32))] [(.int (((y.toUInt32 >>> ((8 : Int32) &&& 31).toUInt32).toInt32).toInt8.toInt32)), (.int (2 : Int32)), (.ref a2)])) rfl rfl (hb hby own_d1_30) (fun T3 h3 L3 X3 e3 N3 W3 V3 => ?_)
  show OEnds _ _ _ _ _ _ T3 (mkF m 31 #[.val (.ref a1), .val (.ref a2), .val (.int (2 : Int32)), .val (.int (5 : Int32))] [])
  have Vn_h3 := Vn_h2.other W3 ne_a1_a2
  have K3 := K2.wr W3 (Or.inl (List.mem_of_getElem? (i := 0) rfl))
  replace V3 : Arv Z h3 a2 k2 .byte (8 : Int32) [(.int (nar .byte (((y.toUInt32 >>> ((24 : Int32) &&& 31).toUInt32).toInt32).toInt8.toInt32))), (.int (nar .byte (((y.toUInt32 >>> ((16 : Int32) &&& 31).toUInt32).toInt32).toInt8.toInt32))), (.int (nar .byte (((y.toUInt32 >>> ((8 : Int32) &&& 31).toUInt32).toInt32).toInt8.toInt32))), (.int f), (.int f), (.int f), (.int f), (.int f)] (.int (0 : Int32)) := V3
  refine own_go (g' := (mkF m 34 #[.val (.ref a1), .val (.ref a2), .val (.int (3 : Int32)), .val (.int (5 : Int32))] [])) (fun t kt => XS.iinc X3.here hx rfl (hb hby own_d1_31) rfl (l' := #[.val (.ref a1), .val (.ref a2), .val (.int (3 : Int32)), .val (.int (5 : Int32))]) rfl kt) ?_
  refine own_go (g' := (mkF m 2 #[.val (.ref a1), .val (.ref a2), .val (.int (3 : Int32)), .val (.int (5 : Int32))] [])) (fun t kt => XS.goto X3.here hx rfl (pc0 := 34) (pc' := 2) rfl (hb hby own_d1_34) (by decide) (by decide) kt) ?_
  refine own_go (g' := (mkF m 3 #[.val (.ref a1), .val (.ref a2), .val (.int (3 : Int32)), .val (.int (5 : Int32))] [(.int (3 : Int32))])) (fun t kt => XS.iloadN X3.here hx rfl (hb hby own_d1_2) rfl kt) ?_
  refine own_go (g' := (mkF m 4 #[.val (.ref a1), .val (.ref a2), .val (.int (3 : Int32)), .val (.int (5 : Int32))] [(.ref a2), (.int (3 : Int32))])) (fun t kt => XS.aloadN X3.here hx rfl (hb hby own_d1_3) rfl rfl kt) ?_
  refine own_alen X3 hx hZ e3 V3 (g := (mkF m 4 #[.val (.ref a1), .val (.ref a2), .val (.int (3 : Int32)), .val (.int (5 : Int32))] [(.ref a2), (.int (3 : Int32))])) rfl rfl (hb hby own_d1_4) ?_
  show OEnds _ _ _ _ _ _ T3 (mkF m 5 #[.val (.ref a1), .val (.ref a2), .val (.int (3 : Int32)), .val (.int (5 : Int32))] [(.int (8 : Int32)), (.int (3 : Int32))])
  refine own_go (g' := (mkF m 8 #[.val (.ref a1), .val (.ref a2), .val (.int (3 : Int32)), .val (.int (5 : Int32))] [])) (fun t kt => XS.icmpNo X3.here hx rfl (hb hby own_d1_5) rfl (tlt ((by decide) : (3 : Int32) < (8 : Int32))).2.1 kt) ?_
  refine own_go (g' := (mkF m 9 #[.val (.ref a1), .val (.ref a2), .val (.int (3 : Int32)), .val (.int (5 : Int32))] [(.ref a2)])) (fun t kt => XS.aloadN X3.here hx rfl (hb hby own_d1_8) rfl rfl kt) ?_
  refine own_alen X3 hx hZ e3 V3 (g := (mkF m 9 #[.val (.ref a1), .val (.ref a2), .val (.int (3 : Int32)), .val (.int (5 : Int32))] [(.ref a2)])) rfl rfl (hb hby own_d1_9) ?_
  show OEnds _ _ _ _ _ _ T3 (mkF m 10 #[.val (.ref a1), .val (.ref a2), .val (.int (3 : Int32)), .val (.int (5 : Int32))] [(.int (8 : Int32))])
  refine own_go (g' := (mkF m 11 #[.val (.ref a1), .val (.ref a2), .val (.int (3 : Int32)), .val (.int (5 : Int32))] [(.int (1 : Int32)), (.int (8 : Int32))])) (fun t kt => XS.iconst X3.here hx rfl (hb hby own_d1_10) kt) ?_
  refine own_go (g' := (mkF m 12 #[.val (.ref a1), .val (.ref a2), .val (.int (3 : Int32)), .val (.int (5 : Int32))] [(.int (7 : Int32))])) (fun t kt => XS.isub X3.here hx rfl (hb hby own_d1_11) rfl kt) ?_
  refine own_go (g' := (mkF m 13 #[.val (.ref a1), .val (.ref a2), .val (.int (3 : Int32)), .val (.int (5 : Int32))] [(.int (3 : Int32)), (.int (7 : Int32))])) (fun t kt => XS.iloadN X3.here hx rfl (hb hby own_d1_12) rfl kt) ?_
  refine own_go (g' := (mkF m 14 #[.val (.ref a1), .val (.ref a2), .val (.int (3 : Int32)), .val (.int (5 : Int32))] [(.int (4 : Int32))])) (fun t kt => XS.isub X3.here hx rfl (hb hby own_d1_13) rfl kt) ?_
  refine own_go (g' := (mkF m 15 #[.val (.ref a1), .val (.ref a2), .val (.int (3 : Int32)), .val (.int (4 : Int32))] [])) (fun t kt => XS.istoreN X3.here hx rfl (hb hby own_d1_14) rfl (l' := #[.val (.ref a1), .val (.ref a2), .val (.int (3 : Int32)), .val (.int (4 : Int32))]) rfl kt) ?_
  refine own_go (g' := (mkF m 16 #[.val (.ref a1), .val (.ref a2), .val (.int (3 : Int32)), .val (.int (4 : Int32))] [(.ref a2)])) (fun t kt => XS.aloadN X3.here hx rfl (hb hby own_d1_15) rfl rfl kt) ?_
  refine own_go (g' := (mkF m 17 #[.val (.ref a1), .val (.ref a2), .val (.int (3 : Int32)), .val (.int (4 : Int32))] [(.int (3 : Int32)), (.ref a2)])) (fun t kt => XS.iloadN X3.here hx rfl (hb hby own_d1_16) rfl kt) ?_
  refine own_go (g' := (mkF m 18 #[.val (.ref a1), .val (.ref a2), .val (.int (3 : Int32)), .val (.int (4 : Int32))] [(.ref a1), (.int (3 : Int32)), (.ref a2)])) (fun t kt => XS.aloadN X3.here hx rfl (hb hby own_d1_17) rfl rfl kt) ?_
  refine own_go (g' := (mkF m 19 #[.val (.ref a1), .val (.ref a2), .val (.int (3 : Int32)), .val (.int (4 : Int32))] [(.int (4 : Int32)), (.ref a1), (.int (3 : Int32)), (.ref a2)])) (fun t kt => XS.iloadN X3.here hx rfl (hb hby own_d1_18) rfl kt) ?_
  refine own_go (g' := (mkF m 20 #[.val (.ref a1), .val (.ref a2), .val (.int (3 : Int32)), .val (.int (4 : Int32))] [(.int (4 : Int32)), (.int (4 : Int32)), (.ref a1), (.int (3 : Int32)), (.ref a2)])) (fun t kt => XS.iconst X3.here hx rfl (hb hby own_d1_19) kt) ?_
  refine own_go (g' := (mkF m 21 #[.val (.ref a1), .val (.ref a2), .val (.int (3 : Int32)), .val (.int (4 : Int32))] [(.int (1 : Int32)), (.ref a1), (.int (3 : Int32)), (.ref a2)])) (fun t kt => XS.idiv X3.here hx rfl (hb hby own_d1_20) rfl (by decide) kt) ?_
  refine own_iaload X3 hx hZ e3 Vn_h3 ⟨by decide, by decide⟩ (v := (.int y)) rfl (g := (mkF m 21 #[.val (.ref a1), .val (.ref a2), .val (.int (3 : Int32)), .val (.int (4 : Int32))] [(.int (1 : Int32)), (.ref a1), (.int (3 : Int32)), (.ref a2)])) rfl rfl (hb hby own_d1_21) ?_
  show OEnds _ _ _ _ _ _ T3 (mkF m 22 #[.val (.ref a1), .val (.ref a2), .val (.int (3 : Int32)), .val (.int (4 : Int32))] [(.int y), (.int (3 : Int32)), (.ref a2)])
  refine own_go (g' := (mkF m 23 #[.val (.ref a1), .val (.ref a2), .val (.int (3 : Int32)), .val (.int (4 : Int32))] [(.int (4 : Int32)), (.int y), (.int (3 : Int32)), (.ref a2)])) (fun t kt => XS.iloadN X3.here hx rfl (hb hby own_d1_22) rfl kt) ?_
  refine own_go (g' := (mkF m 24 #[.val (.ref a1), .val (.ref a2), .val (.int (3 : Int32)), .val (.int (4 : Int32))] [(.int (4 : Int32)), (.int (4 : Int32)), (.int y), (.int (3 : Int32)), (.ref a2)])) (fun t kt => XS.iconst X3.here hx rfl (hb hby own_d1_23) kt) ?_
  refine own_go (g' := (mkF m 25 #[.val (.ref a1), .val (.ref a2), .val (.int (3 : Int32)), .val (.int (4 : Int32))] [(.int (0 : Int32)), (.int y), (.int (3 : Int32)), (.ref a2)])) (fun t kt => iremM X3 hx rfl (hb hby own_d1_24) rfl (by decide) kt) ?_
  refine own_go (g' := (mkF m 27 #[.val (.ref a1), .val (.ref a2), .val (.int (3 : Int32)), .val (.int (4 : Int32))] [(.int (8 : Int32)), (.int (0 : Int32)), (.int y), (.int (3 : Int32)), (.ref a2)])) (fun t kt => XS.bipush X3.here hx rfl (hb hby own_d1_25) kt) ?_
  refine own_go (g' := (mkF m 28 #[.val (.ref a1), .val (.ref a2), .val (.int (3 : Int32)), .val (.int (4 : Int32))] [(.int (0 : Int32)), (.int y), (.int (3 : Int32)), (.ref a2)])) (fun t kt => XS.imul X3.here hx rfl (hb hby own_d1_27) rfl kt) ?_
  refine own_go (g' := (mkF m 29 #[.val (.ref a1), .val (.ref a2), .val (.int (3 : Int32)), .val (.int (4 : Int32))] [(.int ((y.toUInt32 >>> ((0 : Int32) &&& 31).toUInt32).toInt32)), (.int (3 : Int32)), (.ref a2)])) (fun t kt => XS.iushr X3.here hx rfl (hb hby own_d1_28) rfl kt) ?_
  refine own_go (g' := (mkF m 30 #[.val (.ref a1), .val (.ref a2), .val (.int (3 : Int32)), .val (.int (4 : Int32))] [(.int (((y.toUInt32 >>> ((0 : Int32) &&& 31).toUInt32).toInt32).toInt8.toInt32)), (.int (3 : Int32)), (.ref a2)])) (fun t kt => XS.i2b X3.here hx rfl (hb hby own_d1_29) rfl kt) ?_
  refine own_bastore X3 hx hZ e3 V3 ⟨by decide, by decide⟩ 3 rfl (Nat.le_of_ble_eq_true rfl) N3 ge_a2 (g := (mkF m 30 #[.val (.ref a1), .val (.ref a2), .val (.int (3 : Int32)), .val (.int (4 : Int32))] [(.int (((y.toUInt32 >>> ((0 : Int32) &&& 31).toUInt32).toInt32).toInt8.toInt32)), (.int (3 : Int32)), (.ref a2)])) rfl rfl (hb hby own_d1_30) (fun T4 h4 L4 X4 e4 N4 W4 V4 => ?_)
  show OEnds _ _ _ _ _ _ T4 (mkF m 31 #[.val (.ref a1), .val (.ref a2), .val (.int (3 : Int32)), .val (.int (4 : Int32))] [])
  have Vn_h4 := Vn_h3.other W4 ne_a1_a2
  have K4 := K3.wr W4 (Or.inl (List.mem_of_getElem? (i := 0) rfl))
  replace V4 : Arv Z h4 a2 k2 .byte (8 : Int32) [(.int (nar .byte (((y.toUInt32 >>> ((24 : Int32) &&& 31).toUInt32).toInt32).toInt8.toInt32))), (.int (nar .byte (((y.toUInt32 >>> ((16 : Int32) &&& 31).toUInt32).toInt32).toInt8.toInt32))), (.int (nar .byte (((y.toUInt32 >>> ((8 : Int32) &&& 31).toUInt32).toInt32).toInt8.toInt32))), (.int (nar .byte (((y.toUInt32 >>> ((0 : Int32) &&& 31).toUInt32).toInt32).toInt8.toInt32))), (.int f), (.int f), (.int f), (.int f)] (.int (0 : Int32)) := V4
  refine own_go (g' := (mkF m 34 #[.val (.ref a1), .val (.ref a2), .val (.int (4 : Int32)), .val (.int (4 : Int32))] [])) (fun t kt => XS.iinc X4.here hx rfl (hb hby own_d1_31) rfl (l' := #[.val (.ref a1), .val (.ref a2), .val (.int (4 : Int32)), .val (.int (4 : Int32))]) rfl kt) ?_
  refine own_go (g' := (mkF m 2 #[.val (.ref a1), .val (.ref a2), .val (.int (4 : Int32)), .val (.int (4 : Int32))] [])) (fun t kt => XS.goto X4.here hx rfl (pc0 := 34) (pc' := 2) rfl (hb hby own_d1_34) (by decide) (by decide) kt) ?_
  refine own_go (g' := (mkF m 3 #[.val (.ref a1), .val (.ref a2), .val (.int (4 : Int32)), .val (.int (4 : Int32))] [(.int (4 : Int32))])) (fun t kt => XS.iloadN X4.here hx rfl (hb hby own_d1_2) rfl kt) ?_
  refine own_go (g' := (mkF m 4 #[.val (.ref a1), .val (.ref a2), .val (.int (4 : Int32)), .val (.int (4 : Int32))] [(.ref a2), (.int (4 : Int32))])) (fun t kt => XS.aloadN X4.here hx rfl (hb hby own_d1_3) rfl rfl kt) ?_
  refine own_alen X4 hx hZ e4 V4 (g := (mkF m 4 #[.val (.ref a1), .val (.ref a2), .val (.int (4 : Int32)), .val (.int (4 : Int32))] [(.ref a2), (.int (4 : Int32))])) rfl rfl (hb hby own_d1_4) ?_
  show OEnds _ _ _ _ _ _ T4 (mkF m 5 #[.val (.ref a1), .val (.ref a2), .val (.int (4 : Int32)), .val (.int (4 : Int32))] [(.int (8 : Int32)), (.int (4 : Int32))])
  refine own_go (g' := (mkF m 8 #[.val (.ref a1), .val (.ref a2), .val (.int (4 : Int32)), .val (.int (4 : Int32))] [])) (fun t kt => XS.icmpNo X4.here hx rfl (hb hby own_d1_5) rfl (tlt ((by decide) : (4 : Int32) < (8 : Int32))).2.1 kt) ?_
  refine own_go (g' := (mkF m 9 #[.val (.ref a1), .val (.ref a2), .val (.int (4 : Int32)), .val (.int (4 : Int32))] [(.ref a2)])) (fun t kt => XS.aloadN X4.here hx rfl (hb hby own_d1_8) rfl rfl kt) ?_
  refine own_alen X4 hx hZ e4 V4 (g := (mkF m 9 #[.val (.ref a1), .val (.ref a2), .val (.int (4 : Int32)), .val (.int (4 : Int32))] [(.ref a2)])) rfl rfl (hb hby own_d1_9) ?_
  show OEnds _ _ _ _ _ _ T4 (mkF m 10 #[.val (.ref a1), .val (.ref a2), .val (.int (4 : Int32)), .val (.int (4 : Int32))] [(.int (8 : Int32))])
  refine own_go (g' := (mkF m 11 #[.val (.ref a1), .val (.ref a2), .val (.int (4 : Int32)), .val (.int (4 : Int32))] [(.int (1 : Int32)), (.int (8 : Int32))])) (fun t kt => XS.iconst X4.here hx rfl (hb hby own_d1_10) kt) ?_
  refine own_go (g' := (mkF m 12 #[.val (.ref a1), .val (.ref a2), .val (.int (4 : Int32)), .val (.int (4 : Int32))] [(.int (7 : Int32))])) (fun t kt => XS.isub X4.here hx rfl (hb hby own_d1_11) rfl kt) ?_
  refine own_go (g' := (mkF m 13 #[.val (.ref a1), .val (.ref a2), .val (.int (4 : Int32)), .val (.int (4 : Int32))] [(.int (4 : Int32)), (.int (7 : Int32))])) (fun t kt => XS.iloadN X4.here hx rfl (hb hby own_d1_12) rfl kt) ?_
  refine own_go (g' := (mkF m 14 #[.val (.ref a1), .val (.ref a2), .val (.int (4 : Int32)), .val (.int (4 : Int32))] [(.int (3 : Int32))])) (fun t kt => XS.isub X4.here hx rfl (hb hby own_d1_13) rfl kt) ?_
  refine own_go (g' := (mkF m 15 #[.val (.ref a1), .val (.ref a2), .val (.int (4 : Int32)), .val (.int (3 : Int32))] [])) (fun t kt => XS.istoreN X4.here hx rfl (hb hby own_d1_14) rfl (l' := #[.val (.ref a1), .val (.ref a2), .val (.int (4 : Int32)), .val (.int (3 : Int32))]) rfl kt) ?_
  refine own_go (g' := (mkF m 16 #[.val (.ref a1), .val (.ref a2), .val (.int (4 : Int32)), .val (.int (3 : Int32))] [(.ref a2)])) (fun t kt => XS.aloadN X4.here hx rfl (hb hby own_d1_15) rfl rfl kt) ?_
  refine own_go (g' := (mkF m 17 #[.val (.ref a1), .val (.ref a2), .val (.int (4 : Int32)), .val (.int (3 : Int32))] [(.int (4 : Int32)), (.ref a2)])) (fun t kt => XS.iloadN X4.here hx rfl (hb hby own_d1_16) rfl kt) ?_
  refine own_go (g' := (mkF m 18 #[.val (.ref a1), .val (.ref a2), .val (.int (4 : Int32)), .val (.int (3 : Int32))] [(.ref a1), (.int (4 : Int32)), (.ref a2)])) (fun t kt => XS.aloadN X4.here hx rfl (hb hby own_d1_17) rfl rfl kt) ?_
  refine own_go (g' := (mkF m 19 #[.val (.ref a1), .val (.ref a2), .val (.int (4 : Int32)), .val (.int (3 : Int32))] [(.int (3 : Int32)), (.ref a1), (.int (4 : Int32)), (.ref a2)])) (fun t kt => XS.iloadN X4.here hx rfl (hb hby own_d1_18) rfl kt) ?_
  refine own_go (g' := (mkF m 20 #[.val (.ref a1), .val (.ref a2), .val (.int (4 : Int32)), .val (.int (3 : Int32))] [(.int (4 : Int32)), (.int (3 : Int32)), (.ref a1), (.int (4 : Int32)), (.ref a2)])) (fun t kt => XS.iconst X4.here hx rfl (hb hby own_d1_19) kt) ?_
  refine own_go (g' := (mkF m 21 #[.val (.ref a1), .val (.ref a2), .val (.int (4 : Int32)), .val (.int (3 : Int32))] [(.int (0 : Int32)), (.ref a1), (.int (4 : Int32)), (.ref a2)])) (fun t kt => XS.idiv X4.here hx rfl (hb hby own_d1_20) rfl (by decide) kt) ?_
  refine own_iaload X4 hx hZ e4 Vn_h4 ⟨by decide, by decide⟩ (v := (.int x)) rfl (g := (mkF m 21 #[.val (.ref a1), .val (.ref a2), .val (.int (4 : Int32)), .val (.int (3 : Int32))] [(.int (0 : Int32)), (.ref a1), (.int (4 : Int32)), (.ref a2)])) rfl rfl (hb hby own_d1_21) ?_
  show OEnds _ _ _ _ _ _ T4 (mkF m 22 #[.val (.ref a1), .val (.ref a2), .val (.int (4 : Int32)), .val (.int (3 : Int32))] [(.int x), (.int (4 : Int32)), (.ref a2)])
  refine own_go (g' := (mkF m 23 #[.val (.ref a1), .val (.ref a2), .val (.int (4 : Int32)), .val (.int (3 : Int32))] [(.int (3 : Int32)), (.int x), (.int (4 : Int32)), (.ref a2)])) (fun t kt => XS.iloadN X4.here hx rfl (hb hby own_d1_22) rfl kt) ?_
  refine own_go (g' := (mkF m 24 #[.val (.ref a1), .val (.ref a2), .val (.int (4 : Int32)), .val (.int (3 : Int32))] [(.int (4 : Int32)), (.int (3 : Int32)), (.int x), (.int (4 : Int32)), (.ref a2)])) (fun t kt => XS.iconst X4.here hx rfl (hb hby own_d1_23) kt) ?_
  refine own_go (g' := (mkF m 25 #[.val (.ref a1), .val (.ref a2), .val (.int (4 : Int32)), .val (.int (3 : Int32))] [(.int (3 : Int32)), (.int x), (.int (4 : Int32)), (.ref a2)])) (fun t kt => iremM X4 hx rfl (hb hby own_d1_24) rfl (by decide) kt) ?_
  refine own_go (g' := (mkF m 27 #[.val (.ref a1), .val (.ref a2), .val (.int (4 : Int32)), .val (.int (3 : Int32))] [(.int (8 : Int32)), (.int (3 : Int32)), (.int x), (.int (4 : Int32)), (.ref a2)])) (fun t kt => XS.bipush X4.here hx rfl (hb hby own_d1_25) kt) ?_
  refine own_go (g' := (mkF m 28 #[.val (.ref a1), .val (.ref a2), .val (.int (4 : Int32)), .val (.int (3 : Int32))] [(.int (24 : Int32)), (.int x), (.int (4 : Int32)), (.ref a2)])) (fun t kt => XS.imul X4.here hx rfl (hb hby own_d1_27) rfl kt) ?_
  refine own_go (g' := (mkF m 29 #[.val (.ref a1), .val (.ref a2), .val (.int (4 : Int32)), .val (.int (3 : Int32))] [(.int ((x.toUInt32 >>> ((24 : Int32) &&& 31).toUInt32).toInt32)), (.int (4 : Int32)), (.ref a2)])) (fun t kt => XS.iushr X4.here hx rfl (hb hby own_d1_28) rfl kt) ?_
  refine own_go (g' := (mkF m 30 #[.val (.ref a1), .val (.ref a2), .val (.int (4 : Int32)), .val (.int (3 : Int32))] [(.int (((x.toUInt32 >>> ((24 : Int32) &&& 31).toUInt32).toInt32).toInt8.toInt32)), (.int (4 : Int32)), (.ref a2)])) (fun t kt => XS.i2b X4.here hx rfl (hb hby own_d1_29) rfl kt) ?_
  refine own_bastore X4 hx hZ e4 V4 ⟨by decide, by decide⟩ 4 rfl (Nat.le_of_ble_eq_true rfl) N4 ge_a2 (g := (mkF m 30 #[.val (.ref a1), .val (.ref a2), .val (.int (4 : Int32)), .val (.int (3 : Int32))] [(.int (((x.toUInt32 >>> ((24 : Int32) &&& 31).toUInt32).toInt32).toInt8.toInt32)), (.int (4 : Int32)), (.ref a2)])) rfl rfl (hb hby own_d1_30) (fun T5 h5 L5 X5 e5 N5 W5 V5 => ?_)
  show OEnds _ _ _ _ _ _ T5 (mkF m 31 #[.val (.ref a1), .val (.ref a2), .val (.int (4 : Int32)), .val (.int (3 : Int32))] [])
  have Vn_h5 := Vn_h4.other W5 ne_a1_a2
  have K5 := K4.wr W5 (Or.inl (List.mem_of_getElem? (i := 0) rfl))
  replace V5 : Arv Z h5 a2 k2 .byte (8 : Int32) [(.int (nar .byte (((y.toUInt32 >>> ((24 : Int32) &&& 31).toUInt32).toInt32).toInt8.toInt32))), (.int (nar .byte (((y.toUInt32 >>> ((16 : Int32) &&& 31).toUInt32).toInt32).toInt8.toInt32))), (.int (nar .byte (((y.toUInt32 >>> ((8 : Int32) &&& 31).toUInt32).toInt32).toInt8.toInt32))), (.int (nar .byte (((y.toUInt32 >>> ((0 : Int32) &&& 31).toUInt32).toInt32).toInt8.toInt32))), (.int (nar .byte (((x.toUInt32 >>> ((24 : Int32) &&& 31).toUInt32).toInt32).toInt8.toInt32))), (.int f), (.int f), (.int f)] (.int (0 : Int32)) := V5
  refine own_go (g' := (mkF m 34 #[.val (.ref a1), .val (.ref a2), .val (.int (5 : Int32)), .val (.int (3 : Int32))] [])) (fun t kt => XS.iinc X5.here hx rfl (hb hby own_d1_31) rfl (l' := #[.val (.ref a1), .val (.ref a2), .val (.int (5 : Int32)), .val (.int (3 : Int32))]) rfl kt) ?_
  refine own_go (g' := (mkF m 2 #[.val (.ref a1), .val (.ref a2), .val (.int (5 : Int32)), .val (.int (3 : Int32))] [])) (fun t kt => XS.goto X5.here hx rfl (pc0 := 34) (pc' := 2) rfl (hb hby own_d1_34) (by decide) (by decide) kt) ?_
  refine own_go (g' := (mkF m 3 #[.val (.ref a1), .val (.ref a2), .val (.int (5 : Int32)), .val (.int (3 : Int32))] [(.int (5 : Int32))])) (fun t kt => XS.iloadN X5.here hx rfl (hb hby own_d1_2) rfl kt) ?_
  refine own_go (g' := (mkF m 4 #[.val (.ref a1), .val (.ref a2), .val (.int (5 : Int32)), .val (.int (3 : Int32))] [(.ref a2), (.int (5 : Int32))])) (fun t kt => XS.aloadN X5.here hx rfl (hb hby own_d1_3) rfl rfl kt) ?_
  refine own_alen X5 hx hZ e5 V5 (g := (mkF m 4 #[.val (.ref a1), .val (.ref a2), .val (.int (5 : Int32)), .val (.int (3 : Int32))] [(.ref a2), (.int (5 : Int32))])) rfl rfl (hb hby own_d1_4) ?_
  show OEnds _ _ _ _ _ _ T5 (mkF m 5 #[.val (.ref a1), .val (.ref a2), .val (.int (5 : Int32)), .val (.int (3 : Int32))] [(.int (8 : Int32)), (.int (5 : Int32))])
  refine own_go (g' := (mkF m 8 #[.val (.ref a1), .val (.ref a2), .val (.int (5 : Int32)), .val (.int (3 : Int32))] [])) (fun t kt => XS.icmpNo X5.here hx rfl (hb hby own_d1_5) rfl (tlt ((by decide) : (5 : Int32) < (8 : Int32))).2.1 kt) ?_
  refine own_go (g' := (mkF m 9 #[.val (.ref a1), .val (.ref a2), .val (.int (5 : Int32)), .val (.int (3 : Int32))] [(.ref a2)])) (fun t kt => XS.aloadN X5.here hx rfl (hb hby own_d1_8) rfl rfl kt) ?_
  refine own_alen X5 hx hZ e5 V5 (g := (mkF m 9 #[.val (.ref a1), .val (.ref a2), .val (.int (5 : Int32)), .val (.int (3 : Int32))] [(.ref a2)])) rfl rfl (hb hby own_d1_9) ?_
  show OEnds _ _ _ _ _ _ T5 (mkF m 10 #[.val (.ref a1), .val (.ref a2), .val (.int (5 : Int32)), .val (.int (3 : Int32))] [(.int (8 : Int32))])
  refine own_go (g' := (mkF m 11 #[.val (.ref a1), .val (.ref a2), .val (.int (5 : Int32)), .val (.int (3 : Int32))] [(.int (1 : Int32)), (.int (8 : Int32))])) (fun t kt => XS.iconst X5.here hx rfl (hb hby own_d1_10) kt) ?_
  refine own_go (g' := (mkF m 12 #[.val (.ref a1), .val (.ref a2), .val (.int (5 : Int32)), .val (.int (3 : Int32))] [(.int (7 : Int32))])) (fun t kt => XS.isub X5.here hx rfl (hb hby own_d1_11) rfl kt) ?_
  refine own_go (g' := (mkF m 13 #[.val (.ref a1), .val (.ref a2), .val (.int (5 : Int32)), .val (.int (3 : Int32))] [(.int (5 : Int32)), (.int (7 : Int32))])) (fun t kt => XS.iloadN X5.here hx rfl (hb hby own_d1_12) rfl kt) ?_
  refine own_go (g' := (mkF m 14 #[.val (.ref a1), .val (.ref a2), .val (.int (5 : Int32)), .val (.int (3 : Int32))] [(.int (2 : Int32))])) (fun t kt => XS.isub X5.here hx rfl (hb hby own_d1_13) rfl kt) ?_
  refine own_go (g' := (mkF m 15 #[.val (.ref a1), .val (.ref a2), .val (.int (5 : Int32)), .val (.int (2 : Int32))] [])) (fun t kt => XS.istoreN X5.here hx rfl (hb hby own_d1_14) rfl (l' := #[.val (.ref a1), .val (.ref a2), .val (.int (5 : Int32)), .val (.int (2 : Int32))]) rfl kt) ?_
  refine own_go (g' := (mkF m 16 #[.val (.ref a1), .val (.ref a2), .val (.int (5 : Int32)), .val (.int (2 : Int32))] [(.ref a2)])) (fun t kt => XS.aloadN X5.here hx rfl (hb hby own_d1_15) rfl rfl kt) ?_
  refine own_go (g' := (mkF m 17 #[.val (.ref a1), .val (.ref a2), .val (.int (5 : Int32)), .val (.int (2 : Int32))] [(.int (5 : Int32)), (.ref a2)])) (fun t kt => XS.iloadN X5.here hx rfl (hb hby own_d1_16) rfl kt) ?_
  refine own_go (g' := (mkF m 18 #[.val (.ref a1), .val (.ref a2), .val (.int (5 : Int32)), .val (.int (2 : Int32))] [(.ref a1), (.int (5 : Int32)), (.ref a2)])) (fun t kt => XS.aloadN X5.here hx rfl (hb hby own_d1_17) rfl rfl kt) ?_
  refine own_go (g' := (mkF m 19 #[.val (.ref a1), .val (.ref a2), .val (.int (5 : Int32)), .val (.int (2 : Int32))] [(.int (2 : Int32)), (.ref a1), (.int (5 : Int32)), (.ref a2)])) (fun t kt => XS.iloadN X5.here hx rfl (hb hby own_d1_18) rfl kt) ?_
  refine own_go (g' := (mkF m 20 #[.val (.ref a1), .val (.ref a2), .val (.int (5 : Int32)), .val (.int (2 : Int32))] [(.int (4 : Int32)), (.int (2 : Int32)), (.ref a1), (.int (5 : Int32)), (.ref a2)])) (fun t kt => XS.iconst X5.here hx rfl (hb hby own_d1_19) kt) ?_
  refine own_go (g' := (mkF m 21 #[.val (.ref a1), .val (.ref a2), .val (.int (5 : Int32)), .val (.int (2 : Int32))] [(.int (0 : Int32)), (.ref a1), (.int (5 : Int32)), (.ref a2)])) (fun t kt => XS.idiv X5.here hx rfl (hb hby own_d1_20) rfl (by decide) kt) ?_
  refine own_iaload X5 hx hZ e5 Vn_h5 ⟨by decide, by decide⟩ (v := (.int x)) rfl (g := (mkF m 21 #[.val (.ref a1), .val (.ref a2), .val (.int (5 : Int32)), .val (.int (2 : Int32))] [(.int (0 : Int32)), (.ref a1), (.int (5 : Int32)), (.ref a2)])) rfl rfl (hb hby own_d1_21) ?_
  show OEnds _ _ _ _ _ _ T5 (mkF m 22 #[.val (.ref a1), .val (.ref a2), .val (.int (5 : Int32)), .val (.int (2 : Int32))] [(.int x), (.int (5 : Int32)), (.ref a2)])
  refine own_go (g' := (mkF m 23 #[.val (.ref a1), .val (.ref a2), .val (.int (5 : Int32)), .val (.int (2 : Int32))] [(.int (2 : Int32)), (.int x), (.int (5 : Int32)), (.ref a2)])) (fun t kt => XS.iloadN X5.here hx rfl (hb hby own_d1_22) rfl kt) ?_
  refine own_go (g' := (mkF m 24 #[.val (.ref a1), .val (.ref a2), .val (.int (5 : Int32)), .val (.int (2 : Int32))] [(.int (4 : Int32)), (.int (2 : Int32)), (.int x), (.int (5 : Int32)), (.ref a2)])) (fun t kt => XS.iconst X5.here hx rfl (hb hby own_d1_23) kt) ?_
  refine own_go (g' := (mkF m 25 #[.val (.ref a1), .val (.ref a2), .val (.int (5 : Int32)), .val (.int (2 : Int32))] [(.int (2 : Int32)), (.int x), (.int (5 : Int32)), (.ref a2)])) (fun t kt => iremM X5 hx rfl (hb hby own_d1_24) rfl (by decide) kt) ?_
  refine own_go (g' := (mkF m 27 #[.val (.ref a1), .val (.ref a2), .val (.int (5 : Int32)), .val (.int (2 : Int32))] [(.int (8 : Int32)), (.int (2 : Int32)), (.int x), (.int (5 : Int32)), (.ref a2)])) (fun t kt => XS.bipush X5.here hx rfl (hb hby own_d1_25) kt) ?_
  refine own_go (g' := (mkF m 28 #[.val (.ref a1), .val (.ref a2), .val (.int (5 : Int32)), .val (.int (2 : Int32))] [(.int (16 : Int32)), (.int x), (.int (5 : Int32)), (.ref a2)])) (fun t kt => XS.imul X5.here hx rfl (hb hby own_d1_27) rfl kt) ?_
  refine own_go (g' := (mkF m 29 #[.val (.ref a1), .val (.ref a2), .val (.int (5 : Int32)), .val (.int (2 : Int32))] [(.int ((x.toUInt32 >>> ((16 : Int32) &&& 31).toUInt32).toInt32)), (.int (5 : Int32)), (.ref a2)])) (fun t kt => XS.iushr X5.here hx rfl (hb hby own_d1_28) rfl kt) ?_
  refine own_go (g' := (mkF m 30 #[.val (.ref a1), .val (.ref a2), .val (.int (5 : Int32)), .val (.int (2 : Int32))] [(.int (((x.toUInt32 >>> ((16 : Int32) &&& 31).toUInt32).toInt32).toInt8.toInt32)), (.int (5 : Int32)), (.ref a2)])) (fun t kt => XS.i2b X5.here hx rfl (hb hby own_d1_29) rfl kt) ?_
  refine own_bastore X5 hx hZ e5 V5 ⟨by decide, by decide⟩ 5 rfl (Nat.le_of_ble_eq_true rfl) N5 ge_a2 (g := (mkF m 30 #[.val (.ref a1), .val (.ref a2), .val (.int (5 : Int32)), .val (.int (2 : Int32))] [(.int (((x.toUInt32 >>> ((16 : Int32) &&& 31).toUInt32).toInt32).toInt8.toInt32)), (.int (5 : Int32)), (.ref a2)])) rfl rfl (hb hby own_d1_30) (fun T6 h6 L6 X6 e6 N6 W6 V6 => ?_)
  show OEnds _ _ _ _ _ _ T6 (mkF m 31 #[.val (.ref a1), .val (.ref a2), .val (.int (5 : Int32)), .val (.int (2 : Int32))] [])
  have Vn_h6 := Vn_h5.other W6 ne_a1_a2
  have K6 := K5.wr W6 (Or.inl (List.mem_of_getElem? (i := 0) rfl))
  replace V6 : Arv Z h6 a2 k2 .byte (8 : Int32) [(.int (nar .byte (((y.toUInt32 >>> ((24 : Int32) &&& 31).toUInt32).toInt32).toInt8.toInt32))), (.int (nar .byte (((y.toUInt32 >>> ((16 : Int32) &&& 31).toUInt32).toInt32).toInt8.toInt32))), (.int (nar .byte (((y.toUInt32 >>> ((8 : Int32) &&& 31).toUInt32).toInt32).toInt8.toInt32))), (.int (nar .byte (((y.toUInt32 >>> ((0 : Int32) &&& 31).toUInt32).toInt32).toInt8.toInt32))), (.int (nar .byte (((x.toUInt32 >>> ((24 : Int32) &&& 31).toUInt32).toInt32).toInt8.toInt32))), (.int (nar .byte (((x.toUInt32 >>> ((16 : Int32) &&& 31).toUInt32).toInt32).toInt8.toInt32))), (.int f), (.int f)] (.int (0 : Int32)) := V6
  refine own_go (g' := (mkF m 34 #[.val (.ref a1), .val (.ref a2), .val (.int (6 : Int32)), .val (.int (2 : Int32))] [])) (fun t kt => XS.iinc X6.here hx rfl (hb hby own_d1_31) rfl (l' := #[.val (.ref a1), .val (.ref a2), .val (.int (6 : Int32)), .val (.int (2 : Int32))]) rfl kt) ?_
  refine own_go (g' := (mkF m 2 #[.val (.ref a1), .val (.ref a2), .val (.int (6 : Int32)), .val (.int (2 : Int32))] [])) (fun t kt => XS.goto X6.here hx rfl (pc0 := 34) (pc' := 2) rfl (hb hby own_d1_34) (by decide) (by decide) kt) ?_
  refine own_go (g' := (mkF m 3 #[.val (.ref a1), .val (.ref a2), .val (.int (6 : Int32)), .val (.int (2 : Int32))] [(.int (6 : Int32))])) (fun t kt => XS.iloadN X6.here hx rfl (hb hby own_d1_2) rfl kt) ?_
  refine own_go (g' := (mkF m 4 #[.val (.ref a1), .val (.ref a2), .val (.int (6 : Int32)), .val (.int (2 : Int32))] [(.ref a2), (.int (6 : Int32))])) (fun t kt => XS.aloadN X6.here hx rfl (hb hby own_d1_3) rfl rfl kt) ?_
  refine own_alen X6 hx hZ e6 V6 (g := (mkF m 4 #[.val (.ref a1), .val (.ref a2), .val (.int (6 : Int32)), .val (.int (2 : Int32))] [(.ref a2), (.int (6 : Int32))])) rfl rfl (hb hby own_d1_4) ?_
  show OEnds _ _ _ _ _ _ T6 (mkF m 5 #[.val (.ref a1), .val (.ref a2), .val (.int (6 : Int32)), .val (.int (2 : Int32))] [(.int (8 : Int32)), (.int (6 : Int32))])
  refine own_go (g' := (mkF m 8 #[.val (.ref a1), .val (.ref a2), .val (.int (6 : Int32)), .val (.int (2 : Int32))] [])) (fun t kt => XS.icmpNo X6.here hx rfl (hb hby own_d1_5) rfl (tlt ((by decide) : (6 : Int32) < (8 : Int32))).2.1 kt) ?_
  refine own_go (g' := (mkF m 9 #[.val (.ref a1), .val (.ref a2), .val (.int (6 : Int32)), .val (.int (2 : Int32))] [(.ref a2)])) (fun t kt => XS.aloadN X6.here hx rfl (hb hby own_d1_8) rfl rfl kt) ?_
  refine own_alen X6 hx hZ e6 V6 (g := (mkF m 9 #[.val (.ref a1), .val (.ref a2), .val (.int (6 : Int32)), .val (.int (2 : Int32))] [(.ref a2)])) rfl rfl (hb hby own_d1_9) ?_
  show OEnds _ _ _ _ _ _ T6 (mkF m 10 #[.val (.ref a1), .val (.ref a2), .val (.int (6 : Int32)), .val (.int (2 : Int32))] [(.int (8 : Int32))])
  refine own_go (g' := (mkF m 11 #[.val (.ref a1), .val (.ref a2), .val (.int (6 : Int32)), .val (.int (2 : Int32))] [(.int (1 : Int32)), (.int (8 : Int32))])) (fun t kt => XS.iconst X6.here hx rfl (hb hby own_d1_10) kt) ?_
  refine own_go (g' := (mkF m 12 #[.val (.ref a1), .val (.ref a2), .val (.int (6 : Int32)), .val (.int (2 : Int32))] [(.int (7 : Int32))])) (fun t kt => XS.isub X6.here hx rfl (hb hby own_d1_11) rfl kt) ?_
  refine own_go (g' := (mkF m 13 #[.val (.ref a1), .val (.ref a2), .val (.int (6 : Int32)), .val (.int (2 : Int32))] [(.int (6 : Int32)), (.int (7 : Int32))])) (fun t kt => XS.iloadN X6.here hx rfl (hb hby own_d1_12) rfl kt) ?_
  refine own_go (g' := (mkF m 14 #[.val (.ref a1), .val (.ref a2), .val (.int (6 : Int32)), .val (.int (2 : Int32))] [(.int (1 : Int32))])) (fun t kt => XS.isub X6.here hx rfl (hb hby own_d1_13) rfl kt) ?_
  refine own_go (g' := (mkF m 15 #[.val (.ref a1), .val (.ref a2), .val (.int (6 : Int32)), .val (.int (1 : Int32))] [])) (fun t kt => XS.istoreN X6.here hx rfl (hb hby own_d1_14) rfl (l' := #[.val (.ref a1), .val (.ref a2), .val (.int (6 : Int32)), .val (.int (1 : Int32))]) rfl kt) ?_
  refine own_go (g' := (mkF m 16 #[.val (.ref a1), .val (.ref a2), .val (.int (6 : Int32)), .val (.int (1 : Int32))] [(.ref a2)])) (fun t kt => XS.aloadN X6.here hx rfl (hb hby own_d1_15) rfl rfl kt) ?_
  refine own_go (g' := (mkF m 17 #[.val (.ref a1), .val (.ref a2), .val (.int (6 : Int32)), .val (.int (1 : Int32))] [(.int (6 : Int32)), (.ref a2)])) (fun t kt => XS.iloadN X6.here hx rfl (hb hby own_d1_16) rfl kt) ?_
  refine own_go (g' := (mkF m 18 #[.val (.ref a1), .val (.ref a2), .val (.int (6 : Int32)), .val (.int (1 : Int32))] [(.ref a1), (.int (6 : Int32)), (.ref a2)])) (fun t kt => XS.aloadN X6.here hx rfl (hb hby own_d1_17) rfl rfl kt) ?_
  refine own_go (g' := (mkF m 19 #[.val (.ref a1), .val (.ref a2), .val (.int (6 : Int32)), .val (.int (1 : Int32))] [(.int (1 : Int32)), (.ref a1), (.int (6 : Int32)), (.ref a2)])) (fun t kt => XS.iloadN X6.here hx rfl (hb hby own_d1_18) rfl kt) ?_
  refine own_go (g' := (mkF m 20 #[.val (.ref a1), .val (.ref a2), .val (.int (6 : Int32)), .val (.int (1 : Int32))] [(.int (4 : Int32)), (.int (1 : Int32)), (.ref a1), (.int (6 : Int32)), (.ref a2)])) (fun t kt => XS.iconst X6.here hx rfl (hb hby own_d1_19) kt) ?_
  refine own_go (g' := (mkF m 21 #[.val (.ref a1), .val (.ref a2), .val (.int (6 : Int32)), .val (.int (1 : Int32))] [(.int (0 : Int32)), (.ref a1), (.int (6 : Int32)), (.ref a2)])) (fun t kt => XS.idiv X6.here hx rfl (hb hby own_d1_20) rfl (by decide) kt) ?_
  refine own_iaload X6 hx hZ e6 Vn_h6 ⟨by decide, by decide⟩ (v := (.int x)) rfl (g := (mkF m 21 #[.val (.ref a1), .val (.ref a2), .val (.int (6 : Int32)), .val (.int (1 : Int32))] [(.int (0 : Int32)), (.ref a1), (.int (6 : Int32)), (.ref a2)])) rfl rfl (hb hby own_d1_21) ?_
  show OEnds _ _ _ _ _ _ T6 (mkF m 22 #[.val (.ref a1), .val (.ref a2), .val (.int (6 : Int32)), .val (.int (1 : Int32))] [(.int x), (.int (6 : Int32)), (.ref a2)])
  refine own_go (g' := (mkF m 23 #[.val (.ref a1), .val (.ref a2), .val (.int (6 : Int32)), .val (.int (1 : Int32))] [(.int (1 : Int32)), (.int x), (.int (6 : Int32)), (.ref a2)])) (fun t kt => XS.iloadN X6.here hx rfl (hb hby own_d1_22) rfl kt) ?_
  refine own_go (g' := (mkF m 24 #[.val (.ref a1), .val (.ref a2), .val (.int (6 : Int32)), .val (.int (1 : Int32))] [(.int (4 : Int32)), (.int (1 : Int32)), (.int x), (.int (6 : Int32)), (.ref a2)])) (fun t kt => XS.iconst X6.here hx rfl (hb hby own_d1_23) kt) ?_
  refine own_go (g' := (mkF m 25 #[.val (.ref a1), .val (.ref a2), .val (.int (6 : Int32)), .val (.int (1 : Int32))] [(.int (1 : Int32)), (.int x), (.int (6 : Int32)), (.ref a2)])) (fun t kt => iremM X6 hx rfl (hb hby own_d1_24) rfl (by decide) kt) ?_
  refine own_go (g' := (mkF m 27 #[.val (.ref a1), .val (.ref a2), .val (.int (6 : Int32)), .val (.int (1 : Int32))] [(.int (8 : Int32)), (.int (1 : Int32)), (.int x), (.int (6 : Int32)), (.ref a2)])) (fun t kt => XS.bipush X6.here hx rfl (hb hby own_d1_25) kt) ?_
  refine own_go (g' := (mkF m 28 #[.val (.ref a1), .val (.ref a2), .val (.int (6 : Int32)), .val (.int (1 : Int32))] [(.int (8 : Int32)), (.int x), (.int (6 : Int32)), (.ref a2)])) (fun t kt => XS.imul X6.here hx rfl (hb hby own_d1_27) rfl kt) ?_
  refine own_go (g' := (mkF m 29 #[.val (.ref a1), .val (.ref a2), .val (.int (6 : Int32)), .val (.int (1 : Int32))] [(.int ((x.toUInt32 >>> ((8 : Int32) &&& 31).toUInt32).toInt32)), (.int (6 : Int32)), (.ref a2)])) (fun t kt => XS.iushr X6.here hx rfl (hb hby own_d1_28) rfl kt) ?_
  refine own_go (g' := (mkF m 30 #[.val (.ref a1), .val (.ref a2), .val (.int (6 : Int32)), .val (.int (1 : Int32))] [(.int (((x.toUInt32 >>> ((8 : Int32) &&& 31).toUInt32).toInt32).toInt8.toInt32)), (.int (6 : Int32)), (.ref a2)])) (fun t kt => XS.i2b X6.here hx rfl (hb hby own_d1_29) rfl kt) ?_
  refine own_bastore X6 hx hZ e6 V6 ⟨by decide, by decide⟩ 6 rfl (Nat.le_of_ble_eq_true rfl) N6 ge_a2 (g := (mkF m 30 #[.val (.ref a1), .val (.ref a2), .val (.int (6 : Int32)), .val (.int (1 : Int32))] [(.int (((x.toUInt32 >>> ((8 : Int32) &&& 31).toUInt32).toInt32).toInt8.toInt32)), (.int (6 : Int32)), (.ref a2)])) rfl rfl (hb hby own_d1_30) (fun T7 h7 L7 X7 e7 N7 W7 V7 => ?_)
  show OEnds _ _ _ _ _ _ T7 (mkF m 31 #[.val (.ref a1), .val (.ref a2), .val (.int (6 : Int32)), .val (.int (1 : Int32))] [])
  have Vn_h7 := Vn_h6.other W7 ne_a1_a2
  have K7 := K6.wr W7 (Or.inl (List.mem_of_getElem? (i := 0) rfl))
  replace V7 : Arv Z h7 a2 k2 .byte (8 : Int32) [(.int (nar .byte (((y.toUInt32 >>> ((24 : Int32) &&& 31).toUInt32).toInt32).toInt8.toInt32))), (.int (nar .byte (((y.toUInt32 >>> ((16 : Int32) &&& 31).toUInt32).toInt32).toInt8.toInt32))), (.int (nar .byte (((y.toUInt32 >>> ((8 : Int32) &&& 31).toUInt32).toInt32).toInt8.toInt32))), (.int (nar .byte (((y.toUInt32 >>> ((0 : Int32) &&& 31).toUInt32).toInt32).toInt8.toInt32))), (.int (nar .byte (((x.toUInt32 >>> ((24 : Int32) &&& 31).toUInt32).toInt32).toInt8.toInt32))), (.int (nar .byte (((x.toUInt32 >>> ((16 : Int32) &&& 31).toUInt32).toInt32).toInt8.toInt32))), (.int (nar .byte (((x.toUInt32 >>> ((8 : Int32) &&& 31).toUInt32).toInt32).toInt8.toInt32))), (.int f)] (.int (0 : Int32)) := V7
  refine own_go (g' := (mkF m 34 #[.val (.ref a1), .val (.ref a2), .val (.int (7 : Int32)), .val (.int (1 : Int32))] [])) (fun t kt => XS.iinc X7.here hx rfl (hb hby own_d1_31) rfl (l' := #[.val (.ref a1), .val (.ref a2), .val (.int (7 : Int32)), .val (.int (1 : Int32))]) rfl kt) ?_
  refine own_go (g' := (mkF m 2 #[.val (.ref a1), .val (.ref a2), .val (.int (7 : Int32)), .val (.int (1 : Int32))] [])) (fun t kt => XS.goto X7.here hx rfl (pc0 := 34) (pc' := 2) rfl (hb hby own_d1_34) (by decide) (by decide) kt) ?_
  refine own_go (g' := (mkF m 3 #[.val (.ref a1), .val (.ref a2), .val (.int (7 : Int32)), .val (.int (1 : Int32))] [(.int (7 : Int32))])) (fun t kt => XS.iloadN X7.here hx rfl (hb hby own_d1_2) rfl kt) ?_
  refine own_go (g' := (mkF m 4 #[.val (.ref a1), .val (.ref a2), .val (.int (7 : Int32)), .val (.int (1 : Int32))] [(.ref a2), (.int (7 : Int32))])) (fun t kt => XS.aloadN X7.here hx rfl (hb hby own_d1_3) rfl rfl kt) ?_
  refine own_alen X7 hx hZ e7 V7 (g := (mkF m 4 #[.val (.ref a1), .val (.ref a2), .val (.int (7 : Int32)), .val (.int (1 : Int32))] [(.ref a2), (.int (7 : Int32))])) rfl rfl (hb hby own_d1_4) ?_
  show OEnds _ _ _ _ _ _ T7 (mkF m 5 #[.val (.ref a1), .val (.ref a2), .val (.int (7 : Int32)), .val (.int (1 : Int32))] [(.int (8 : Int32)), (.int (7 : Int32))])
  refine own_go (g' := (mkF m 8 #[.val (.ref a1), .val (.ref a2), .val (.int (7 : Int32)), .val (.int (1 : Int32))] [])) (fun t kt => XS.icmpNo X7.here hx rfl (hb hby own_d1_5) rfl (tlt ((by decide) : (7 : Int32) < (8 : Int32))).2.1 kt) ?_
  refine own_go (g' := (mkF m 9 #[.val (.ref a1), .val (.ref a2), .val (.int (7 : Int32)), .val (.int (1 : Int32))] [(.ref a2)])) (fun t kt => XS.aloadN X7.here hx rfl (hb hby own_d1_8) rfl rfl kt) ?_
  refine own_alen X7 hx hZ e7 V7 (g := (mkF m 9 #[.val (.ref a1), .val (.ref a2), .val (.int (7 : Int32)), .val (.int (1 : Int32))] [(.ref a2)])) rfl rfl (hb hby own_d1_9) ?_
  show OEnds _ _ _ _ _ _ T7 (mkF m 10 #[.val (.ref a1), .val (.ref a2), .val (.int (7 : Int32)), .val (.int (1 : Int32))] [(.int (8 : Int32))])
  refine own_go (g' := (mkF m 11 #[.val (.ref a1), .val (.ref a2), .val (.int (7 : Int32)), .val (.int (1 : Int32))] [(.int (1 : Int32)), (.int (8 : Int32))])) (fun t kt => XS.iconst X7.here hx rfl (hb hby own_d1_10) kt) ?_
  refine own_go (g' := (mkF m 12 #[.val (.ref a1), .val (.ref a2), .val (.int (7 : Int32)), .val (.int (1 : Int32))] [(.int (7 : Int32))])) (fun t kt => XS.isub X7.here hx rfl (hb hby own_d1_11) rfl kt) ?_
  refine own_go (g' := (mkF m 13 #[.val (.ref a1), .val (.ref a2), .val (.int (7 : Int32)), .val (.int (1 : Int32))] [(.int (7 : Int32)), (.int (7 : Int32))])) (fun t kt => XS.iloadN X7.here hx rfl (hb hby own_d1_12) rfl kt) ?_
  refine own_go (g' := (mkF m 14 #[.val (.ref a1), .val (.ref a2), .val (.int (7 : Int32)), .val (.int (1 : Int32))] [(.int (0 : Int32))])) (fun t kt => XS.isub X7.here hx rfl (hb hby own_d1_13) rfl kt) ?_
  refine own_go (g' := (mkF m 15 #[.val (.ref a1), .val (.ref a2), .val (.int (7 : Int32)), .val (.int (0 : Int32))] [])) (fun t kt => XS.istoreN X7.here hx rfl (hb hby own_d1_14) rfl (l' := #[.val (.ref a1), .val (.ref a2), .val (.int (7 : Int32)), .val (.int (0 : Int32))]) rfl kt) ?_
  refine own_go (g' := (mkF m 16 #[.val (.ref a1), .val (.ref a2), .val (.int (7 : Int32)), .val (.int (0 : Int32))] [(.ref a2)])) (fun t kt => XS.aloadN X7.here hx rfl (hb hby own_d1_15) rfl rfl kt) ?_
  refine own_go (g' := (mkF m 17 #[.val (.ref a1), .val (.ref a2), .val (.int (7 : Int32)), .val (.int (0 : Int32))] [(.int (7 : Int32)), (.ref a2)])) (fun t kt => XS.iloadN X7.here hx rfl (hb hby own_d1_16) rfl kt) ?_
  refine own_go (g' := (mkF m 18 #[.val (.ref a1), .val (.ref a2), .val (.int (7 : Int32)), .val (.int (0 : Int32))] [(.ref a1), (.int (7 : Int32)), (.ref a2)])) (fun t kt => XS.aloadN X7.here hx rfl (hb hby own_d1_17) rfl rfl kt) ?_
  refine own_go (g' := (mkF m 19 #[.val (.ref a1), .val (.ref a2), .val (.int (7 : Int32)), .val (.int (0 : Int32))] [(.int (0 : Int32)), (.ref a1), (.int (7 : Int32)), (.ref a2)])) (fun t kt => XS.iloadN X7.here hx rfl (hb hby own_d1_18) rfl kt) ?_
  refine own_go (g' := (mkF m 20 #[.val (.ref a1), .val (.ref a2), .val (.int (7 : Int32)), .val (.int (0 : Int32))] [(.int (4 : Int32)), (.int (0 : Int32)), (.ref a1), (.int (7 : Int32)), (.ref a2)])) (fun t kt => XS.iconst X7.here hx rfl (hb hby own_d1_19) kt) ?_
  refine own_go (g' := (mkF m 21 #[.val (.ref a1), .val (.ref a2), .val (.int (7 : Int32)), .val (.int (0 : Int32))] [(.int (0 : Int32)), (.ref a1), (.int (7 : Int32)), (.ref a2)])) (fun t kt => XS.idiv X7.here hx rfl (hb hby own_d1_20) rfl (by decide) kt) ?_
  refine own_iaload X7 hx hZ e7 Vn_h7 ⟨by decide, by decide⟩ (v := (.int x)) rfl (g := (mkF m 21 #[.val (.ref a1), .val (.ref a2), .val (.int (7 : Int32)), .val (.int (0 : Int32))] [(.int (0 : Int32)), (.ref a1), (.int (7 : Int32)), (.ref a2)])) rfl rfl (hb hby own_d1_21) ?_
  show OEnds _ _ _ _ _ _ T7 (mkF m 22 #[.val (.ref a1), .val (.ref a2), .val (.int (7 : Int32)), .val (.int (0 : Int32))] [(.int x), (.int (7 : Int32)), (.ref a2)])
  refine own_go (g' := (mkF m 23 #[.val (.ref a1), .val (.ref a2), .val (.int (7 : Int32)), .val (.int (0 : Int32))] [(.int (0 : Int32)), (.int x), (.int (7 : Int32)), (.ref a2)])) (fun t kt => XS.iloadN X7.here hx rfl (hb hby own_d1_22) rfl kt) ?_
  refine own_go (g' := (mkF m 24 #[.val (.ref a1), .val (.ref a2), .val (.int (7 : Int32)), .val (.int (0 : Int32))] [(.int (4 : Int32)), (.int (0 : Int32)), (.int x), (.int (7 : Int32)), (.ref a2)])) (fun t kt => XS.iconst X7.here hx rfl (hb hby own_d1_23) kt) ?_
  refine own_go (g' := (mkF m 25 #[.val (.ref a1), .val (.ref a2), .val (.int (7 : Int32)), .val (.int (0 : Int32))] [(.int (0 : Int32)), (.int x), (.int (7 : Int32)), (.ref a2)])) (fun t kt => iremM X7 hx rfl (hb hby own_d1_24) rfl (by decide) kt) ?_
  refine own_go (g' := (mkF m 27 #[.val (.ref a1), .val (.ref a2), .val (.int (7 : Int32)), .val (.int (0 : Int32))] [(.int (8 : Int32)), (.int (0 : Int32)), (.int x), (.int (7 : Int32)), (.ref a2)])) (fun t kt => XS.bipush X7.here hx rfl (hb hby own_d1_25) kt) ?_
  refine own_go (g' := (mkF m 28 #[.val (.ref a1), .val (.ref a2), .val (.int (7 : Int32)), .val (.int (0 : Int32))] [(.int (0 : Int32)), (.int x), (.int (7 : Int32)), (.ref a2)])) (fun t kt => XS.imul X7.here hx rfl (hb hby own_d1_27) rfl kt) ?_
  refine own_go (g' := (mkF m 29 #[.val (.ref a1), .val (.ref a2), .val (.int (7 : Int32)), .val (.int (0 : Int32))] [(.int ((x.toUInt32 >>> ((0 : Int32) &&& 31).toUInt32).toInt32)), (.int (7 : Int32)), (.ref a2)])) (fun t kt => XS.iushr X7.here hx rfl (hb hby own_d1_28) rfl kt) ?_
  refine own_go (g' := (mkF m 30 #[.val (.ref a1), .val (.ref a2), .val (.int (7 : Int32)), .val (.int (0 : Int32))] [(.int (((x.toUInt32 >>> ((0 : Int32) &&& 31).toUInt32).toInt32).toInt8.toInt32)), (.int (7 : Int32)), (.ref a2)])) (fun t kt => XS.i2b X7.here hx rfl (hb hby own_d1_29) rfl kt) ?_
  refine own_bastore X7 hx hZ e7 V7 ⟨by decide, by decide⟩ 7 rfl (Nat.le_of_ble_eq_true rfl) N7 ge_a2 (g := (mkF m 30 #[.val (.ref a1), .val (.ref a2), .val (.int (7 : Int32)), .val (.int (0 : Int32))] [(.int (((x.toUInt32 >>> ((0 : Int32) &&& 31).toUInt32).toInt32).toInt8.toInt32)), (.int (7 : Int32)), (.ref a2)])) rfl rfl (hb hby own_d1_30) (fun T8 h8 L8 X8 e8 N8 W8 V8 => ?_)
  show OEnds _ _ _ _ _ _ T8 (mkF m 31 #[.val (.ref a1), .val (.ref a2), .val (.int (7 : Int32)), .val (.int (0 : Int32))] [])
  have Vn_h8 := Vn_h7.other W8 ne_a1_a2
  have K8 := K7.wr W8 (Or.inl (List.mem_of_getElem? (i := 0) rfl))
  replace V8 : Arv Z h8 a2 k2 .byte (8 : Int32) [(.int (nar .byte (((y.toUInt32 >>> ((24 : Int32) &&& 31).toUInt32).toInt32).toInt8.toInt32))), (.int (nar .byte (((y.toUInt32 >>> ((16 : Int32) &&& 31).toUInt32).toInt32).toInt8.toInt32))), (.int (nar .byte (((y.toUInt32 >>> ((8 : Int32) &&& 31).toUInt32).toInt32).toInt8.toInt32))), (.int (nar .byte (((y.toUInt32 >>> ((0 : Int32) &&& 31).toUInt32).toInt32).toInt8.toInt32))), (.int (nar .byte (((x.toUInt32 >>> ((24 : Int32) &&& 31).toUInt32).toInt32).toInt8.toInt32))), (.int (nar .byte (((x.toUInt32 >>> ((16 : Int32) &&& 31).toUInt32).toInt32).toInt8.toInt32))), (.int (nar .byte (((x.toUInt32 >>> ((8 : Int32) &&& 31).toUInt32).toInt32).toInt8.toInt32))), (.int (nar .byte (((x.toUInt32 >>> ((0 : Int32) &&& 31).toUInt32).toInt32).toInt8.toInt32)))] (.int (0 : Int32)) := V8
  refine own_go (g' := (mkF m 34 #[.val (.ref a1), .val (.ref a2), .val (.int (8 : Int32)), .val (.int (0 : Int32))] [])) (fun t kt => XS.iinc X8.here hx rfl (hb hby own_d1_31) rfl (l' := #[.val (.ref a1), .val (.ref a2), .val (.int (8 : Int32)), .val (.int (0 : Int32))]) rfl kt) ?_
  refine own_go (g' := (mkF m 2 #[.val (.ref a1), .val (.ref a2), .val (.int (8 : Int32)), .val (.int (0 : Int32))] [])) (fun t kt => XS.goto X8.here hx rfl (pc0 := 34) (pc' := 2) rfl (hb hby own_d1_34) (by decide) (by decide) kt) ?_
  refine own_go (g' := (mkF m 3 #[.val (.ref a1), .val (.ref a2), .val (.int (8 : Int32)), .val (.int (0 : Int32))] [(.int (8 : Int32))])) (fun t kt => XS.iloadN X8.here hx rfl (hb hby own_d1_2) rfl kt) ?_
  refine own_go (g' := (mkF m 4 #[.val (.ref a1), .val (.ref a2), .val (.int (8 : Int32)), .val (.int (0 : Int32))] [(.ref a2), (.int (8 : Int32))])) (fun t kt => XS.aloadN X8.here hx rfl (hb hby own_d1_3) rfl rfl kt) ?_
  refine own_alen X8 hx hZ e8 V8 (g := (mkF m 4 #[.val (.ref a1), .val (.ref a2), .val (.int (8 : Int32)), .val (.int (0 : Int32))] [(.ref a2), (.int (8 : Int32))])) rfl rfl (hb hby own_d1_4) ?_
  show OEnds _ _ _ _ _ _ T8 (mkF m 5 #[.val (.ref a1), .val (.ref a2), .val (.int (8 : Int32)), .val (.int (0 : Int32))] [(.int (8 : Int32)), (.int (8 : Int32))])
  refine own_go (g' := (mkF m 37 #[.val (.ref a1), .val (.ref a2), .val (.int (8 : Int32)), .val (.int (0 : Int32))] [])) (fun t kt => XS.icmpYes X8.here hx rfl (pc0 := 5) (pc' := 37) rfl (hb hby own_d1_5) rfl (flt ((by decide) : ¬ ((8 : Int32) < (8 : Int32)))).2.1 (by decide) (by decide) kt) ?_
  exact own_retV X8 hx hlk hret (hb hby own_d1_37) e8 N8 (by decide) (by decide) (⟨rfl, K8, V8⟩)
theorem own_ef_own_tb5 (m : MethodId) (x0 : Addr) (x1 : Addr) : entryFrame m #[(.ref x0), (.ref x1)] 4 = mkF m 0 #[.val (.ref x0), .val (.ref x1), .unset, .unset] [] := by first | (simp [entryFrame, mkF, argsToLocals, Value.category]; done) | rfl
set_option maxRecDepth 65536 in
set_option maxHeartbeats 40000000 in
theorem own_tb5 (l : Launch) (Z : State) (a0 : Array Value) (hw : ∀ d ∈ tables_1, d.before a0 Z = true) (a1 a2 : Addr) (k1 k2 : ClassId) (x y f : Int32) (h0 : Heap) (n0 : Nat) (Z0 : n0 ≤ h0.size) (Vn : Arv Z h0 a1 k1 .int (2 : Int32) [(.int x), (.int y)] (.int (0 : Int32))) (Vo : Arv Z h0 a2 k2 .byte (5 : Int32) [(.int f), (.int f), (.int f), (.int f), (.int f)] (.int (0 : Int32))) (ne_a1_a2 : a1 ≠ a2) (ge_a2 : n0 ≤ a2) :
    OCon l (⟨"com/example/clearcycle/clearcycle/Montgomery", "toBytes", "([I[B)V"⟩ : MethodName) prog_59_method_7_code 4 none ({ frames := 0, cells := 0, slots := 0, locals := 0 } : Room) Z #[(.ref a1), (.ref a2)] h0 n0 (fun v h => v = none ∧ Keep h0 h [a2] ∧ Arv Z h a2 k2 .byte (5 : Int32) [(.int (own_byte y (0 : Int32))), (.int (own_byte x (24 : Int32))), (.int (own_byte x (16 : Int32))), (.int (own_byte x (8 : Int32))), (.int (own_byte x (0 : Int32)))] (.int (0 : Int32))) := by
  refine own_body own_pn_1 ?_
  intro p e s m below meth c T0 hx hZ hby hml hown hnm hret hlk e0 X0
  replace hown : s.vm.findClass "com/example/clearcycle/clearcycle/Montgomery" = some m.cls := hown
  replace hnm : meth.name = "toBytes" := hnm
  have N0 := Fr.nil n0
  have K0 : Keep h0 h0 [a2] := Keep.refl _ _
  refine own_at (own_ef_own_tb5 m a1 a2) ?_
  refine own_go (g' := (mkF m 1 #[.val (.ref a1), .val (.ref a2), .unset, .unset] [(.int (0 : Int32))])) (fun t kt => XS.iconst X0.here hx rfl (hb hby own_d1_0) kt) ?_
  refine own_go (g' := (mkF m 2 #[.val (.ref a1), .val (.ref a2), .val (.int (0 : Int32)), .unset] [])) (fun t kt => XS.istoreN X0.here hx rfl (hb hby own_d1_1) rfl (l' := #[.val (.ref a1), .val (.ref a2), .val (.int (0 : Int32)), .unset]) rfl kt) ?_
  refine own_go (g' := (mkF m 3 #[.val (.ref a1), .val (.ref a2), .val (.int (0 : Int32)), .unset] [(.int (0 : Int32))])) (fun t kt => XS.iloadN X0.here hx rfl (hb hby own_d1_2) rfl kt) ?_
  refine own_go (g' := (mkF m 4 #[.val (.ref a1), .val (.ref a2), .val (.int (0 : Int32)), .unset] [(.ref a2), (.int (0 : Int32))])) (fun t kt => XS.aloadN X0.here hx rfl (hb hby own_d1_3) rfl rfl kt) ?_
  refine own_alen X0 hx hZ e0 Vo (g := (mkF m 4 #[.val (.ref a1), .val (.ref a2), .val (.int (0 : Int32)), .unset] [(.ref a2), (.int (0 : Int32))])) rfl rfl (hb hby own_d1_4) ?_
  show OEnds _ _ _ _ _ _ T0 (mkF m 5 #[.val (.ref a1), .val (.ref a2), .val (.int (0 : Int32)), .unset] [(.int (5 : Int32)), (.int (0 : Int32))])
  refine own_go (g' := (mkF m 8 #[.val (.ref a1), .val (.ref a2), .val (.int (0 : Int32)), .unset] [])) (fun t kt => XS.icmpNo X0.here hx rfl (hb hby own_d1_5) rfl (tlt ((by decide) : (0 : Int32) < (5 : Int32))).2.1 kt) ?_
  refine own_go (g' := (mkF m 9 #[.val (.ref a1), .val (.ref a2), .val (.int (0 : Int32)), .unset] [(.ref a2)])) (fun t kt => XS.aloadN X0.here hx rfl (hb hby own_d1_8) rfl rfl kt) ?_
  refine own_alen X0 hx hZ e0 Vo (g := (mkF m 9 #[.val (.ref a1), .val (.ref a2), .val (.int (0 : Int32)), .unset] [(.ref a2)])) rfl rfl (hb hby own_d1_9) ?_
  show OEnds _ _ _ _ _ _ T0 (mkF m 10 #[.val (.ref a1), .val (.ref a2), .val (.int (0 : Int32)), .unset] [(.int (5 : Int32))])
  refine own_go (g' := (mkF m 11 #[.val (.ref a1), .val (.ref a2), .val (.int (0 : Int32)), .unset] [(.int (1 : Int32)), (.int (5 : Int32))])) (fun t kt => XS.iconst X0.here hx rfl (hb hby own_d1_10) kt) ?_
  refine own_go (g' := (mkF m 12 #[.val (.ref a1), .val (.ref a2), .val (.int (0 : Int32)), .unset] [(.int (4 : Int32))])) (fun t kt => XS.isub X0.here hx rfl (hb hby own_d1_11) rfl kt) ?_
  refine own_go (g' := (mkF m 13 #[.val (.ref a1), .val (.ref a2), .val (.int (0 : Int32)), .unset] [(.int (0 : Int32)), (.int (4 : Int32))])) (fun t kt => XS.iloadN X0.here hx rfl (hb hby own_d1_12) rfl kt) ?_
  refine own_go (g' := (mkF m 14 #[.val (.ref a1), .val (.ref a2), .val (.int (0 : Int32)), .unset] [(.int (4 : Int32))])) (fun t kt => XS.isub X0.here hx rfl (hb hby own_d1_13) rfl kt) ?_
  refine own_go (g' := (mkF m 15 #[.val (.ref a1), .val (.ref a2), .val (.int (0 : Int32)), .val (.int (4 : Int32))] [])) (fun t kt => XS.istoreN X0.here hx rfl (hb hby own_d1_14) rfl (l' := #[.val (.ref a1), .val (.ref a2), .val (.int (0 : Int32)), .val (.int (4 : Int32))]) rfl kt) ?_
  refine own_go (g' := (mkF m 16 #[.val (.ref a1), .val (.ref a2), .val (.int (0 : Int32)), .val (.int (4 : Int32))] [(.ref a2)])) (fun t kt => XS.aloadN X0.here hx rfl (hb hby own_d1_15) rfl rfl kt) ?_
  refine own_go (g' := (mkF m 17 #[.val (.ref a1), .val (.ref a2), .val (.int (0 : Int32)), .val (.int (4 : Int32))] [(.int (0 : Int32)), (.ref a2)])) (fun t kt => XS.iloadN X0.here hx rfl (hb hby own_d1_16) rfl kt) ?_
  refine own_go (g' := (mkF m 18 #[.val (.ref a1), .val (.ref a2), .val (.int (0 : Int32)), .val (.int (4 : Int32))] [(.ref a1), (.int (0 : Int32)), (.ref a2)])) (fun t kt => XS.aloadN X0.here hx rfl (hb hby own_d1_17) rfl rfl kt) ?_
  refine own_go (g' := (mkF m 19 #[.val (.ref a1), .val (.ref a2), .val (.int (0 : Int32)), .val (.int (4 : Int32))] [(.int (4 : Int32)), (.ref a1), (.int (0 : Int32)), (.ref a2)])) (fun t kt => XS.iloadN X0.here hx rfl (hb hby own_d1_18) rfl kt) ?_
  refine own_go (g' := (mkF m 20 #[.val (.ref a1), .val (.ref a2), .val (.int (0 : Int32)), .val (.int (4 : Int32))] [(.int (4 : Int32)), (.int (4 : Int32)), (.ref a1), (.int (0 : Int32)), (.ref a2)])) (fun t kt => XS.iconst X0.here hx rfl (hb hby own_d1_19) kt) ?_
  refine own_go (g' := (mkF m 21 #[.val (.ref a1), .val (.ref a2), .val (.int (0 : Int32)), .val (.int (4 : Int32))] [(.int (1 : Int32)), (.ref a1), (.int (0 : Int32)), (.ref a2)])) (fun t kt => XS.idiv X0.here hx rfl (hb hby own_d1_20) rfl (by decide) kt) ?_
  refine own_iaload X0 hx hZ e0 Vn ⟨by decide, by decide⟩ (v := (.int y)) rfl (g := (mkF m 21 #[.val (.ref a1), .val (.ref a2), .val (.int (0 : Int32)), .val (.int (4 : Int32))] [(.int (1 : Int32)), (.ref a1), (.int (0 : Int32)), (.ref a2)])) rfl rfl (hb hby own_d1_21) ?_
  show OEnds _ _ _ _ _ _ T0 (mkF m 22 #[.val (.ref a1), .val (.ref a2), .val (.int (0 : Int32)), .val (.int (4 : Int32))] [(.int y), (.int (0 : Int32)), (.ref a2)])
  refine own_go (g' := (mkF m 23 #[.val (.ref a1), .val (.ref a2), .val (.int (0 : Int32)), .val (.int (4 : Int32))] [(.int (4 : Int32)), (.int y), (.int (0 : Int32)), (.ref a2)])) (fun t kt => XS.iloadN X0.here hx rfl (hb hby own_d1_22) rfl kt) ?_
  refine own_go (g' := (mkF m 24 #[.val (.ref a1), .val (.ref a2), .val (.int (0 : Int32)), .val (.int (4 : Int32))] [(.int (4 : Int32)), (.int (4 : Int32)), (.int y), (.int (0 : Int32)), (.ref a2)])) (fun t kt => XS.iconst X0.here hx rfl (hb hby own_d1_23) kt) ?_
  refine own_go (g' := (mkF m 25 #[.val (.ref a1), .val (.ref a2), .val (.int (0 : Int32)), .val (.int (4 : Int32))] [(.int (0 : Int32)), (.int y), (.int (0 : Int32)), (.ref a2)])) (fun t kt => iremM X0 hx rfl (hb hby own_d1_24) rfl (by decide) kt) ?_
  refine own_go (g' := (mkF m 27 #[.val (.ref a1), .val (.ref a2), .val (.int (0 : Int32)), .val (.int (4 : Int32))] [(.int (8 : Int32)), (.int (0 : Int32)), (.int y), (.int (0 : Int32)), (.ref a2)])) (fun t kt => XS.bipush X0.here hx rfl (hb hby own_d1_25) kt) ?_
  refine own_go (g' := (mkF m 28 #[.val (.ref a1), .val (.ref a2), .val (.int (0 : Int32)), .val (.int (4 : Int32))] [(.int (0 : Int32)), (.int y), (.int (0 : Int32)), (.ref a2)])) (fun t kt => XS.imul X0.here hx rfl (hb hby own_d1_27) rfl kt) ?_
  refine own_go (g' := (mkF m 29 #[.val (.ref a1), .val (.ref a2), .val (.int (0 : Int32)), .val (.int (4 : Int32))] [(.int ((y.toUInt32 >>> ((0 : Int32) &&& 31).toUInt32).toInt32)), (.int (0 : Int32)), (.ref a2)])) (fun t kt => XS.iushr X0.here hx rfl (hb hby own_d1_28) rfl kt) ?_
  refine own_go (g' := (mkF m 30 #[.val (.ref a1), .val (.ref a2), .val (.int (0 : Int32)), .val (.int (4 : Int32))] [(.int (((y.toUInt32 >>> ((0 : Int32) &&& 31).toUInt32).toInt32).toInt8.toInt32)), (.int (0 : Int32)), (.ref a2)])) (fun t kt => XS.i2b X0.here hx rfl (hb hby own_d1_29) rfl kt) ?_
  refine own_bastore X0 hx hZ e0 Vo ⟨by decide, by decide⟩ 0 rfl (Nat.le_of_ble_eq_true rfl) N0 ge_a2 (g := (mkF m 30 #[.val (.ref a1), .val (.ref a2), .val (.int (0 : Int32)), .val (.int (4 : Int32))] [(.int (((y.toUInt32 >>> ((0 : Int32) &&& 31).toUInt32).toInt32).toInt8.toInt32)), (.int (0 : Int32)), (.ref a2)])) rfl rfl (hb hby own_d1_30) (fun T1 h1 L1 X1 e1 N1 W1 V1 => ?_)
  show OEnds _ _ _ _ _ _ T1 (mkF m 31 #[.val (.ref a1), .val (.ref a2), .val (.int (0 : Int32)), .val (.int (4 : Int32))] [])
  have Vn_h1 := Vn.other W1 ne_a1_a2
  have K1 := K0.wr W1 (Or.inl (List.mem_of_getElem? (i := 0) rfl))
  replace V1 : Arv Z h1 a2 k2 .byte (5 : Int32) [(.int (nar .byte (((y.toUInt32 >>> ((0 : Int32) &&& 31).toUInt32).toInt32).toInt8.toInt32))), (.int f), (.int f), (.int f), (.int f)] (.int (0 : Int32)) := V1
  refine own_go (g' := (mkF m 34 #[.val (.ref a1), .val (.ref a2), .val (.int (1 : Int32)), .val (.int (4 : Int32))] [])) (fun t kt => XS.iinc X1.here hx rfl (hb hby own_d1_31) rfl (l' := #[.val (.ref a1), .val (.ref a2), .val (.int (1 : Int32)), .val (.int (4 : Int32))]) rfl kt) ?_
  refine own_go (g' := (mkF m 2 #[.val (.ref a1), .val (.ref a2), .val (.int (1 : Int32)), .val (.int (4 : Int32))] [])) (fun t kt => XS.goto X1.here hx rfl (pc0 := 34) (pc' := 2) rfl (hb hby own_d1_34) (by decide) (by decide) kt) ?_
  refine own_go (g' := (mkF m 3 #[.val (.ref a1), .val (.ref a2), .val (.int (1 : Int32)), .val (.int (4 : Int32))] [(.int (1 : Int32))])) (fun t kt => XS.iloadN X1.here hx rfl (hb hby own_d1_2) rfl kt) ?_
  refine own_go (g' := (mkF m 4 #[.val (.ref a1), .val (.ref a2), .val (.int (1 : Int32)), .val (.int (4 : Int32))] [(.ref a2), (.int (1 : Int32))])) (fun t kt => XS.aloadN X1.here hx rfl (hb hby own_d1_3) rfl rfl kt) ?_
  refine own_alen X1 hx hZ e1 V1 (g := (mkF m 4 #[.val (.ref a1), .val (.ref a2), .val (.int (1 : Int32)), .val (.int (4 : Int32))] [(.ref a2), (.int (1 : Int32))])) rfl rfl (hb hby own_d1_4) ?_
  show OEnds _ _ _ _ _ _ T1 (mkF m 5 #[.val (.ref a1), .val (.ref a2), .val (.int (1 : Int32)), .val (.int (4 : Int32))] [(.int (5 : Int32)), (.int (1 : Int32))])
  refine own_go (g' := (mkF m 8 #[.val (.ref a1), .val (.ref a2), .val (.int (1 : Int32)), .val (.int (4 : Int32))] [])) (fun t kt => XS.icmpNo X1.here hx rfl (hb hby own_d1_5) rfl (tlt ((by decide) : (1 : Int32) < (5 : Int32))).2.1 kt) ?_
  refine own_go (g' := (mkF m 9 #[.val (.ref a1), .val (.ref a2), .val (.int (1 : Int32)), .val (.int (4 : Int32))] [(.ref a2)])) (fun t kt => XS.aloadN X1.here hx rfl (hb hby own_d1_8) rfl rfl kt) ?_
  refine own_alen X1 hx hZ e1 V1 (g := (mkF m 9 #[.val (.ref a1), .val (.ref a2), .val (.int (1 : Int32)), .val (.int (4 : Int32))] [(.ref a2)])) rfl rfl (hb hby own_d1_9) ?_
  show OEnds _ _ _ _ _ _ T1 (mkF m 10 #[.val (.ref a1), .val (.ref a2), .val (.int (1 : Int32)), .val (.int (4 : Int32))] [(.int (5 : Int32))])
  refine own_go (g' := (mkF m 11 #[.val (.ref a1), .val (.ref a2), .val (.int (1 : Int32)), .val (.int (4 : Int32))] [(.int (1 : Int32)), (.int (5 : Int32))])) (fun t kt => XS.iconst X1.here hx rfl (hb hby own_d1_10) kt) ?_
  refine own_go (g' := (mkF m 12 #[.val (.ref a1), .val (.ref a2), .val (.int (1 : Int32)), .val (.int (4 : Int32))] [(.int (4 : Int32))])) (fun t kt => XS.isub X1.here hx rfl (hb hby own_d1_11) rfl kt) ?_
  refine own_go (g' := (mkF m 13 #[.val (.ref a1), .val (.ref a2), .val (.int (1 : Int32)), .val (.int (4 : Int32))] [(.int (1 : Int32)), (.int (4 : Int32))])) (fun t kt => XS.iloadN X1.here hx rfl (hb hby own_d1_12) rfl kt) ?_
  refine own_go (g' := (mkF m 14 #[.val (.ref a1), .val (.ref a2), .val (.int (1 : Int32)), .val (.int (4 : Int32))] [(.int (3 : Int32))])) (fun t kt => XS.isub X1.here hx rfl (hb hby own_d1_13) rfl kt) ?_
  refine own_go (g' := (mkF m 15 #[.val (.ref a1), .val (.ref a2), .val (.int (1 : Int32)), .val (.int (3 : Int32))] [])) (fun t kt => XS.istoreN X1.here hx rfl (hb hby own_d1_14) rfl (l' := #[.val (.ref a1), .val (.ref a2), .val (.int (1 : Int32)), .val (.int (3 : Int32))]) rfl kt) ?_
  refine own_go (g' := (mkF m 16 #[.val (.ref a1), .val (.ref a2), .val (.int (1 : Int32)), .val (.int (3 : Int32))] [(.ref a2)])) (fun t kt => XS.aloadN X1.here hx rfl (hb hby own_d1_15) rfl rfl kt) ?_
  refine own_go (g' := (mkF m 17 #[.val (.ref a1), .val (.ref a2), .val (.int (1 : Int32)), .val (.int (3 : Int32))] [(.int (1 : Int32)), (.ref a2)])) (fun t kt => XS.iloadN X1.here hx rfl (hb hby own_d1_16) rfl kt) ?_
  refine own_go (g' := (mkF m 18 #[.val (.ref a1), .val (.ref a2), .val (.int (1 : Int32)), .val (.int (3 : Int32))] [(.ref a1), (.int (1 : Int32)), (.ref a2)])) (fun t kt => XS.aloadN X1.here hx rfl (hb hby own_d1_17) rfl rfl kt) ?_
  refine own_go (g' := (mkF m 19 #[.val (.ref a1), .val (.ref a2), .val (.int (1 : Int32)), .val (.int (3 : Int32))] [(.int (3 : Int32)), (.ref a1), (.int (1 : Int32)), (.ref a2)])) (fun t kt => XS.iloadN X1.here hx rfl (hb hby own_d1_18) rfl kt) ?_
  refine own_go (g' := (mkF m 20 #[.val (.ref a1), .val (.ref a2), .val (.int (1 : Int32)), .val (.int (3 : Int32))] [(.int (4 : Int32)), (.int (3 : Int32)), (.ref a1), (.int (1 : Int32)), (.ref a2)])) (fun t kt => XS.iconst X1.here hx rfl (hb hby own_d1_19) kt) ?_
  refine own_go (g' := (mkF m 21 #[.val (.ref a1), .val (.ref a2), .val (.int (1 : Int32)), .val (.int (3 : Int32))] [(.int (0 : Int32)), (.ref a1), (.int (1 : Int32)), (.ref a2)])) (fun t kt => XS.idiv X1.here hx rfl (hb hby own_d1_20) rfl (by decide) kt) ?_
  refine own_iaload X1 hx hZ e1 Vn_h1 ⟨by decide, by decide⟩ (v := (.int x)) rfl (g := (mkF m 21 #[.val (.ref a1), .val (.ref a2), .val (.int (1 : Int32)), .val (.int (3 : Int32))] [(.int (0 : Int32)), (.ref a1), (.int (1 : Int32)), (.ref a2)])) rfl rfl (hb hby own_d1_21) ?_
  show OEnds _ _ _ _ _ _ T1 (mkF m 22 #[.val (.ref a1), .val (.ref a2), .val (.int (1 : Int32)), .val (.int (3 : Int32))] [(.int x), (.int (1 : Int32)), (.ref a2)])
  refine own_go (g' := (mkF m 23 #[.val (.ref a1), .val (.ref a2), .val (.int (1 : Int32)), .val (.int (3 : Int32))] [(.int (3 : Int32)), (.int x), (.int (1 : Int32)), (.ref a2)])) (fun t kt => XS.iloadN X1.here hx rfl (hb hby own_d1_22) rfl kt) ?_
  refine own_go (g' := (mkF m 24 #[.val (.ref a1), .val (.ref a2), .val (.int (1 : Int32)), .val (.int (3 : Int32))] [(.int (4 : Int32)), (.int (3 : Int32)), (.int x), (.int (1 : Int32)), (.ref a2)])) (fun t kt => XS.iconst X1.here hx rfl (hb hby own_d1_23) kt) ?_
  refine own_go (g' := (mkF m 25 #[.val (.ref a1), .val (.ref a2), .val (.int (1 : Int32)), .val (.int (3 : Int32))] [(.int (3 : Int32)), (.int x), (.int (1 : Int32)), (.ref a2)])) (fun t kt => iremM X1 hx rfl (hb hby own_d1_24) rfl (by decide) kt) ?_
  refine own_go (g' := (mkF m 27 #[.val (.ref a1), .val (.ref a2), .val (.int (1 : Int32)), .val (.int (3 : Int32))] [(.int (8 : Int32)), (.int (3 : Int32)), (.int x), (.int (1 : Int32)), (.ref a2)])) (fun t kt => XS.bipush X1.here hx rfl (hb hby own_d1_25) kt) ?_
  refine own_go (g' := (mkF m 28 #[.val (.ref a1), .val (.ref a2), .val (.int (1 : Int32)), .val (.int (3 : Int32))] [(.int (24 : Int32)), (.int x), (.int (1 : Int32)), (.ref a2)])) (fun t kt => XS.imul X1.here hx rfl (hb hby own_d1_27) rfl kt) ?_
  refine own_go (g' := (mkF m 29 #[.val (.ref a1), .val (.ref a2), .val (.int (1 : Int32)), .val (.int (3 : Int32))] [(.int ((x.toUInt32 >>> ((24 : Int32) &&& 31).toUInt32).toInt32)), (.int (1 : Int32)), (.ref a2)])) (fun t kt => XS.iushr X1.here hx rfl (hb hby own_d1_28) rfl kt) ?_
  refine own_go (g' := (mkF m 30 #[.val (.ref a1), .val (.ref a2), .val (.int (1 : Int32)), .val (.int (3 : Int32))] [(.int (((x.toUInt32 >>> ((24 : Int32) &&& 31).toUInt32).toInt32).toInt8.toInt32)), (.int (1 : Int32)), (.ref a2)])) (fun t kt => XS.i2b X1.here hx rfl (hb hby own_d1_29) rfl kt) ?_
  refine own_bastore X1 hx hZ e1 V1 ⟨by decide, by decide⟩ 1 rfl (Nat.le_of_ble_eq_true rfl) N1 ge_a2 (g := (mkF m 30 #[.val (.ref a1), .val (.ref a2), .val (.int (1 : Int32)), .val (.int (3 : Int32))] [(.int (((x.toUInt32 >>> ((24 : Int32) &&& 31).toUInt32).toInt32).toInt8.toInt32)), (.int (1 : Int32)), (.ref a2)])) rfl rfl (hb hby own_d1_30) (fun T2 h2 L2 X2 e2 N2 W2 V2 => ?_)
  show OEnds _ _ _ _ _ _ T2 (mkF m 31 #[.val (.ref a1), .val (.ref a2), .val (.int (1 : Int32)), .val (.int (3 : Int32))] [])
  have Vn_h2 := Vn_h1.other W2 ne_a1_a2
  have K2 := K1.wr W2 (Or.inl (List.mem_of_getElem? (i := 0) rfl))
  replace V2 : Arv Z h2 a2 k2 .byte (5 : Int32) [(.int (nar .byte (((y.toUInt32 >>> ((0 : Int32) &&& 31).toUInt32).toInt32).toInt8.toInt32))), (.int (nar .byte (((x.toUInt32 >>> ((24 : Int32) &&& 31).toUInt32).toInt32).toInt8.toInt32))), (.int f), (.int f), (.int f)] (.int (0 : Int32)) := V2
  refine own_go (g' := (mkF m 34 #[.val (.ref a1), .val (.ref a2), .val (.int (2 : Int32)), .val (.int (3 : Int32))] [])) (fun t kt => XS.iinc X2.here hx rfl (hb hby own_d1_31) rfl (l' := #[.val (.ref a1), .val (.ref a2), .val (.int (2 : Int32)), .val (.int (3 : Int32))]) rfl kt) ?_
  refine own_go (g' := (mkF m 2 #[.val (.ref a1), .val (.ref a2), .val (.int (2 : Int32)), .val (.int (3 : Int32))] [])) (fun t kt => XS.goto X2.here hx rfl (pc0 := 34) (pc' := 2) rfl (hb hby own_d1_34) (by decide) (by decide) kt) ?_
  refine own_go (g' := (mkF m 3 #[.val (.ref a1), .val (.ref a2), .val (.int (2 : Int32)), .val (.int (3 : Int32))] [(.int (2 : Int32))])) (fun t kt => XS.iloadN X2.here hx rfl (hb hby own_d1_2) rfl kt) ?_
  refine own_go (g' := (mkF m 4 #[.val (.ref a1), .val (.ref a2), .val (.int (2 : Int32)), .val (.int (3 : Int32))] [(.ref a2), (.int (2 : Int32))])) (fun t kt => XS.aloadN X2.here hx rfl (hb hby own_d1_3) rfl rfl kt) ?_
  refine own_alen X2 hx hZ e2 V2 (g := (mkF m 4 #[.val (.ref a1), .val (.ref a2), .val (.int (2 : Int32)), .val (.int (3 : Int32))] [(.ref a2), (.int (2 : Int32))])) rfl rfl (hb hby own_d1_4) ?_
  show OEnds _ _ _ _ _ _ T2 (mkF m 5 #[.val (.ref a1), .val (.ref a2), .val (.int (2 : Int32)), .val (.int (3 : Int32))] [(.int (5 : Int32)), (.int (2 : Int32))])
  refine own_go (g' := (mkF m 8 #[.val (.ref a1), .val (.ref a2), .val (.int (2 : Int32)), .val (.int (3 : Int32))] [])) (fun t kt => XS.icmpNo X2.here hx rfl (hb hby own_d1_5) rfl (tlt ((by decide) : (2 : Int32) < (5 : Int32))).2.1 kt) ?_
  refine own_go (g' := (mkF m 9 #[.val (.ref a1), .val (.ref a2), .val (.int (2 : Int32)), .val (.int (3 : Int32))] [(.ref a2)])) (fun t kt => XS.aloadN X2.here hx rfl (hb hby own_d1_8) rfl rfl kt) ?_
  refine own_alen X2 hx hZ e2 V2 (g := (mkF m 9 #[.val (.ref a1), .val (.ref a2), .val (.int (2 : Int32)), .val (.int (3 : Int32))] [(.ref a2)])) rfl rfl (hb hby own_d1_9) ?_
  show OEnds _ _ _ _ _ _ T2 (mkF m 10 #[.val (.ref a1), .val (.ref a2), .val (.int (2 : Int32)), .val (.int (3 : Int32))] [(.int (5 : Int32))])
  refine own_go (g' := (mkF m 11 #[.val (.ref a1), .val (.ref a2), .val (.int (2 : Int32)), .val (.int (3 : Int32))] [(.int (1 : Int32)), (.int (5 : Int32))])) (fun t kt => XS.iconst X2.here hx rfl (hb hby own_d1_10) kt) ?_
  refine own_go (g' := (mkF m 12 #[.val (.ref a1), .val (.ref a2), .val (.int (2 : Int32)), .val (.int (3 : Int32))] [(.int (4 : Int32))])) (fun t kt => XS.isub X2.here hx rfl (hb hby own_d1_11) rfl kt) ?_
  refine own_go (g' := (mkF m 13 #[.val (.ref a1), .val (.ref a2), .val (.int (2 : Int32)), .val (.int (3 : Int32))] [(.int (2 : Int32)), (.int (4 : Int32))])) (fun t kt => XS.iloadN X2.here hx rfl (hb hby own_d1_12) rfl kt) ?_
  refine own_go (g' := (mkF m 14 #[.val (.ref a1), .val (.ref a2), .val (.int (2 : Int32)), .val (.int (3 : Int32))] [(.int (2 : Int32))])) (fun t kt => XS.isub X2.here hx rfl (hb hby own_d1_13) rfl kt) ?_
  refine own_go (g' := (mkF m 15 #[.val (.ref a1), .val (.ref a2), .val (.int (2 : Int32)), .val (.int (2 : Int32))] [])) (fun t kt => XS.istoreN X2.here hx rfl (hb hby own_d1_14) rfl (l' := #[.val (.ref a1), .val (.ref a2), .val (.int (2 : Int32)), .val (.int (2 : Int32))]) rfl kt) ?_
  refine own_go (g' := (mkF m 16 #[.val (.ref a1), .val (.ref a2), .val (.int (2 : Int32)), .val (.int (2 : Int32))] [(.ref a2)])) (fun t kt => XS.aloadN X2.here hx rfl (hb hby own_d1_15) rfl rfl kt) ?_
  refine own_go (g' := (mkF m 17 #[.val (.ref a1), .val (.ref a2), .val (.int (2 : Int32)), .val (.int (2 : Int32))] [(.int (2 : Int32)), (.ref a2)])) (fun t kt => XS.iloadN X2.here hx rfl (hb hby own_d1_16) rfl kt) ?_
  refine own_go (g' := (mkF m 18 #[.val (.ref a1), .val (.ref a2), .val (.int (2 : Int32)), .val (.int (2 : Int32))] [(.ref a1), (.int (2 : Int32)), (.ref a2)])) (fun t kt => XS.aloadN X2.here hx rfl (hb hby own_d1_17) rfl rfl kt) ?_
  refine own_go (g' := (mkF m 19 #[.val (.ref a1), .val (.ref a2), .val (.int (2 : Int32)), .val (.int (2 : Int32))] [(.int (2 : Int32)), (.ref a1), (.int (2 : Int32)), (.ref a2)])) (fun t kt => XS.iloadN X2.here hx rfl (hb hby own_d1_18) rfl kt) ?_
  refine own_go (g' := (mkF m 20 #[.val (.ref a1), .val (.ref a2), .val (.int (2 : Int32)), .val (.int (2 : Int32))] [(.int (4 : Int32)), (.int (2 : Int32)), (.ref a1), (.int (2 : Int32)), (.ref a2)])) (fun t kt => XS.iconst X2.here hx rfl (hb hby own_d1_19) kt) ?_
  refine own_go (g' := (mkF m 21 #[.val (.ref a1), .val (.ref a2), .val (.int (2 : Int32)), .val (.int (2 : Int32))] [(.int (0 : Int32)), (.ref a1), (.int (2 : Int32)), (.ref a2)])) (fun t kt => XS.idiv X2.here hx rfl (hb hby own_d1_20) rfl (by decide) kt) ?_
  refine own_iaload X2 hx hZ e2 Vn_h2 ⟨by decide, by decide⟩ (v := (.int x)) rfl (g := (mkF m 21 #[.val (.ref a1), .val (.ref a2), .val (.int (2 : Int32)), .val (.int (2 : Int32))] [(.int (0 : Int32)), (.ref a1), (.int (2 : Int32)), (.ref a2)])) rfl rfl (hb hby own_d1_21) ?_
  show OEnds _ _ _ _ _ _ T2 (mkF m 22 #[.val (.ref a1), .val (.ref a2), .val (.int (2 : Int32)), .val (.int (2 : Int32))] [(.int x), (.int (2 : Int32)), (.ref a2)])
  refine own_go (g' := (mkF m 23 #[.val (.ref a1), .val (.ref a2), .val (.int (2 : Int32)), .val (.int (2 : Int32))] [(.int (2 : Int32)), (.int x), (.int (2 : Int32)), (.ref a2)])) (fun t kt => XS.iloadN X2.here hx rfl (hb hby own_d1_22) rfl kt) ?_
  refine own_go (g' := (mkF m 24 #[.val (.ref a1), .val (.ref a2), .val (.int (2 : Int32)), .val (.int (2 : Int32))] [(.int (4 : Int32)), (.int (2 : Int32)), (.int x), (.int (2 : Int32)), (.ref a2)])) (fun t kt => XS.iconst X2.here hx rfl (hb hby own_d1_23) kt) ?_
  refine own_go (g' := (mkF m 25 #[.val (.ref a1), .val (.ref a2), .val (.int (2 : Int32)), .val (.int (2 : Int32))] [(.int (2 : Int32)), (.int x), (.int (2 : Int32)), (.ref a2)])) (fun t kt => iremM X2 hx rfl (hb hby own_d1_24) rfl (by decide) kt) ?_
  refine own_go (g' := (mkF m 27 #[.val (.ref a1), .val (.ref a2), .val (.int (2 : Int32)), .val (.int (2 : Int32))] [(.int (8 : Int32)), (.int (2 : Int32)), (.int x), (.int (2 : Int32)), (.ref a2)])) (fun t kt => XS.bipush X2.here hx rfl (hb hby own_d1_25) kt) ?_
  refine own_go (g' := (mkF m 28 #[.val (.ref a1), .val (.ref a2), .val (.int (2 : Int32)), .val (.int (2 : Int32))] [(.int (16 : Int32)), (.int x), (.int (2 : Int32)), (.ref a2)])) (fun t kt => XS.imul X2.here hx rfl (hb hby own_d1_27) rfl kt) ?_
  refine own_go (g' := (mkF m 29 #[.val (.ref a1), .val (.ref a2), .val (.int (2 : Int32)), .val (.int (2 : Int32))] [(.int ((x.toUInt32 >>> ((16 : Int32) &&& 31).toUInt32).toInt32)), (.int (2 : Int32)), (.ref a2)])) (fun t kt => XS.iushr X2.here hx rfl (hb hby own_d1_28) rfl kt) ?_
  refine own_go (g' := (mkF m 30 #[.val (.ref a1), .val (.ref a2), .val (.int (2 : Int32)), .val (.int (2 : Int32))] [(.int (((x.toUInt32 >>> ((16 : Int32) &&& 31).toUInt32).toInt32).toInt8.toInt32)), (.int (2 : Int32)), (.ref a2)])) (fun t kt => XS.i2b X2.here hx rfl (hb hby own_d1_29) rfl kt) ?_
  refine own_bastore X2 hx hZ e2 V2 ⟨by decide, by decide⟩ 2 rfl (Nat.le_of_ble_eq_true rfl) N2 ge_a2 (g := (mkF m 30 #[.val (.ref a1), .val (.ref a2), .val (.int (2 : Int32)), .val (.int (2 : Int32))] [(.int (((x.toUInt32 >>> ((16 : Int32) &&& 31).toUInt32).toInt32).toInt8.toInt32)), (.int (2 : Int32)), (.ref a2)])) rfl rfl (hb hby own_d1_30) (fun T3 h3 L3 X3 e3 N3 W3 V3 => ?_)
  show OEnds _ _ _ _ _ _ T3 (mkF m 31 #[.val (.ref a1), .val (.ref a2), .val (.int (2 : Int32)), .val (.int (2 : Int32))] [])
  have Vn_h3 := Vn_h2.other W3 ne_a1_a2
  have K3 := K2.wr W3 (Or.inl (List.mem_of_getElem? (i := 0) rfl))
  replace V3 : Arv Z h3 a2 k2 .byte (5 : Int32) [(.int (nar .byte (((y.toUInt32 >>> ((0 : Int32) &&& 31).toUInt32).toInt32).toInt8.toInt32))), (.int (nar .byte (((x.toUInt32 >>> ((24 : Int32) &&& 31).toUInt32).toInt32).toInt8.toInt32))), (.int (nar .byte (((x.toUInt32 >>> ((16 : Int32) &&& 31).toUInt32).toInt32).toInt8.toInt32))), (.int f), (.int f)] (.int (0 : Int32)) := V3
  refine own_go (g' := (mkF m 34 #[.val (.ref a1), .val (.ref a2), .val (.int (3 : Int32)), .val (.int (2 : Int32))] [])) (fun t kt => XS.iinc X3.here hx rfl (hb hby own_d1_31) rfl (l' := #[.val (.ref a1), .val (.ref a2), .val (.int (3 : Int32)), .val (.int (2 : Int32))]) rfl kt) ?_
  refine own_go (g' := (mkF m 2 #[.val (.ref a1), .val (.ref a2), .val (.int (3 : Int32)), .val (.int (2 : Int32))] [])) (fun t kt => XS.goto X3.here hx rfl (pc0 := 34) (pc' := 2) rfl (hb hby own_d1_34) (by decide) (by decide) kt) ?_
  refine own_go (g' := (mkF m 3 #[.val (.ref a1), .val (.ref a2), .val (.int (3 : Int32)), .val (.int (2 : Int32))] [(.int (3 : Int32))])) (fun t kt => XS.iloadN X3.here hx rfl (hb hby own_d1_2) rfl kt) ?_
  refine own_go (g' := (mkF m 4 #[.val (.ref a1), .val (.ref a2), .val (.int (3 : Int32)), .val (.int (2 : Int32))] [(.ref a2), (.int (3 : Int32))])) (fun t kt => XS.aloadN X3.here hx rfl (hb hby own_d1_3) rfl rfl kt) ?_
  refine own_alen X3 hx hZ e3 V3 (g := (mkF m 4 #[.val (.ref a1), .val (.ref a2), .val (.int (3 : Int32)), .val (.int (2 : Int32))] [(.ref a2), (.int (3 : Int32))])) rfl rfl (hb hby own_d1_4) ?_
  show OEnds _ _ _ _ _ _ T3 (mkF m 5 #[.val (.ref a1), .val (.ref a2), .val (.int (3 : Int32)), .val (.int (2 : Int32))] [(.int (5 : Int32)), (.int (3 : Int32))])
  refine own_go (g' := (mkF m 8 #[.val (.ref a1), .val (.ref a2), .val (.int (3 : Int32)), .val (.int (2 : Int32))] [])) (fun t kt => XS.icmpNo X3.here hx rfl (hb hby own_d1_5) rfl (tlt ((by decide) : (3 : Int32) < (5 : Int32))).2.1 kt) ?_
  refine own_go (g' := (mkF m 9 #[.val (.ref a1), .val (.ref a2), .val (.int (3 : Int32)), .val (.int (2 : Int32))] [(.ref a2)])) (fun t kt => XS.aloadN X3.here hx rfl (hb hby own_d1_8) rfl rfl kt) ?_
  refine own_alen X3 hx hZ e3 V3 (g := (mkF m 9 #[.val (.ref a1), .val (.ref a2), .val (.int (3 : Int32)), .val (.int (2 : Int32))] [(.ref a2)])) rfl rfl (hb hby own_d1_9) ?_
  show OEnds _ _ _ _ _ _ T3 (mkF m 10 #[.val (.ref a1), .val (.ref a2), .val (.int (3 : Int32)), .val (.int (2 : Int32))] [(.int (5 : Int32))])
  refine own_go (g' := (mkF m 11 #[.val (.ref a1), .val (.ref a2), .val (.int (3 : Int32)), .val (.int (2 : Int32))] [(.int (1 : Int32)), (.int (5 : Int32))])) (fun t kt => XS.iconst X3.here hx rfl (hb hby own_d1_10) kt) ?_
  refine own_go (g' := (mkF m 12 #[.val (.ref a1), .val (.ref a2), .val (.int (3 : Int32)), .val (.int (2 : Int32))] [(.int (4 : Int32))])) (fun t kt => XS.isub X3.here hx rfl (hb hby own_d1_11) rfl kt) ?_
  refine own_go (g' := (mkF m 13 #[.val (.ref a1), .val (.ref a2), .val (.int (3 : Int32)), .val (.int (2 : Int32))] [(.int (3 : Int32)), (.int (4 : Int32))])) (fun t kt => XS.iloadN X3.here hx rfl (hb hby own_d1_12) rfl kt) ?_
  refine own_go (g' := (mkF m 14 #[.val (.ref a1), .val (.ref a2), .val (.int (3 : Int32)), .val (.int (2 : Int32))] [(.int (1 : Int32))])) (fun t kt => XS.isub X3.here hx rfl (hb hby own_d1_13) rfl kt) ?_
  refine own_go (g' := (mkF m 15 #[.val (.ref a1), .val (.ref a2), .val (.int (3 : Int32)), .val (.int (1 : Int32))] [])) (fun t kt => XS.istoreN X3.here hx rfl (hb hby own_d1_14) rfl (l' := #[.val (.ref a1), .val (.ref a2), .val (.int (3 : Int32)), .val (.int (1 : Int32))]) rfl kt) ?_
  refine own_go (g' := (mkF m 16 #[.val (.ref a1), .val (.ref a2), .val (.int (3 : Int32)), .val (.int (1 : Int32))] [(.ref a2)])) (fun t kt => XS.aloadN X3.here hx rfl (hb hby own_d1_15) rfl rfl kt) ?_
  refine own_go (g' := (mkF m 17 #[.val (.ref a1), .val (.ref a2), .val (.int (3 : Int32)), .val (.int (1 : Int32))] [(.int (3 : Int32)), (.ref a2)])) (fun t kt => XS.iloadN X3.here hx rfl (hb hby own_d1_16) rfl kt) ?_
  refine own_go (g' := (mkF m 18 #[.val (.ref a1), .val (.ref a2), .val (.int (3 : Int32)), .val (.int (1 : Int32))] [(.ref a1), (.int (3 : Int32)), (.ref a2)])) (fun t kt => XS.aloadN X3.here hx rfl (hb hby own_d1_17) rfl rfl kt) ?_
  refine own_go (g' := (mkF m 19 #[.val (.ref a1), .val (.ref a2), .val (.int (3 : Int32)), .val (.int (1 : Int32))] [(.int (1 : Int32)), (.ref a1), (.int (3 : Int32)), (.ref a2)])) (fun t kt => XS.iloadN X3.here hx rfl (hb hby own_d1_18) rfl kt) ?_
  refine own_go (g' := (mkF m 20 #[.val (.ref a1), .val (.ref a2), .val (.int (3 : Int32)), .val (.int (1 : Int32))] [(.int (4 : Int32)), (.int (1 : Int32)), (.ref a1), (.int (3 : Int32)), (.ref a2)])) (fun t kt => XS.iconst X3.here hx rfl (hb hby own_d1_19) kt) ?_
  refine own_go (g' := (mkF m 21 #[.val (.ref a1), .val (.ref a2), .val (.int (3 : Int32)), .val (.int (1 : Int32))] [(.int (0 : Int32)), (.ref a1), (.int (3 : Int32)), (.ref a2)])) (fun t kt => XS.idiv X3.here hx rfl (hb hby own_d1_20) rfl (by decide) kt) ?_
  refine own_iaload X3 hx hZ e3 Vn_h3 ⟨by decide, by decide⟩ (v := (.int x)) rfl (g := (mkF m 21 #[.val (.ref a1), .val (.ref a2), .val (.int (3 : Int32)), .val (.int (1 : Int32))] [(.int (0 : Int32)), (.ref a1), (.int (3 : Int32)), (.ref a2)])) rfl rfl (hb hby own_d1_21) ?_
  show OEnds _ _ _ _ _ _ T3 (mkF m 22 #[.val (.ref a1), .val (.ref a2), .val (.int (3 : Int32)), .val (.int (1 : Int32))] [(.int x), (.int (3 : Int32)), (.ref a2)])
  refine own_go (g' := (mkF m 23 #[.val (.ref a1), .val (.ref a2), .val (.int (3 : Int32)), .val (.int (1 : Int32))] [(.int (1 : Int32)), (.int x), (.int (3 : Int32)), (.ref a2)])) (fun t kt => XS.iloadN X3.here hx rfl (hb hby own_d1_22) rfl kt) ?_
  refine own_go (g' := (mkF m 24 #[.val (.ref a1), .val (.ref a2), .val (.int (3 : Int32)), .val (.int (1 : Int32))] [(.int (4 : Int32)), (.int (1 : Int32)), (.int x), (.int (3 : Int32)), (.ref a2)])) (fun t kt => XS.iconst X3.here hx rfl (hb hby own_d1_23) kt) ?_
  refine own_go (g' := (mkF m 25 #[.val (.ref a1), .val (.ref a2), .val (.int (3 : Int32)), .val (.int (1 : Int32))] [(.int (1 : Int32)), (.int x), (.int (3 : Int32)), (.ref a2)])) (fun t kt => iremM X3 hx rfl (hb hby own_d1_24) rfl (by decide) kt) ?_
  refine own_go (g' := (mkF m 27 #[.val (.ref a1), .val (.ref a2), .val (.int (3 : Int32)), .val (.int (1 : Int32))] [(.int (8 : Int32)), (.int (1 : Int32)), (.int x), (.int (3 : Int32)), (.ref a2)])) (fun t kt => XS.bipush X3.here hx rfl (hb hby own_d1_25) kt) ?_
  refine own_go (g' := (mkF m 28 #[.val (.ref a1), .val (.ref a2), .val (.int (3 : Int32)), .val (.int (1 : Int32))] [(.int (8 : Int32)), (.int x), (.int (3 : Int32)), (.ref a2)])) (fun t kt => XS.imul X3.here hx rfl (hb hby own_d1_27) rfl kt) ?_
  refine own_go (g' := (mkF m 29 #[.val (.ref a1), .val (.ref a2), .val (.int (3 : Int32)), .val (.int (1 : Int32))] [(.int ((x.toUInt32 >>> ((8 : Int32) &&& 31).toUInt32).toInt32)), (.int (3 : Int32)), (.ref a2)])) (fun t kt => XS.iushr X3.here hx rfl (hb hby own_d1_28) rfl kt) ?_
  refine own_go (g' := (mkF m 30 #[.val (.ref a1), .val (.ref a2), .val (.int (3 : Int32)), .val (.int (1 : Int32))] [(.int (((x.toUInt32 >>> ((8 : Int32) &&& 31).toUInt32).toInt32).toInt8.toInt32)), (.int (3 : Int32)), (.ref a2)])) (fun t kt => XS.i2b X3.here hx rfl (hb hby own_d1_29) rfl kt) ?_
  refine own_bastore X3 hx hZ e3 V3 ⟨by decide, by decide⟩ 3 rfl (Nat.le_of_ble_eq_true rfl) N3 ge_a2 (g := (mkF m 30 #[.val (.ref a1), .val (.ref a2), .val (.int (3 : Int32)), .val (.int (1 : Int32))] [(.int (((x.toUInt32 >>> ((8 : Int32) &&& 31).toUInt32).toInt32).toInt8.toInt32)), (.int (3 : Int32)), (.ref a2)])) rfl rfl (hb hby own_d1_30) (fun T4 h4 L4 X4 e4 N4 W4 V4 => ?_)
  show OEnds _ _ _ _ _ _ T4 (mkF m 31 #[.val (.ref a1), .val (.ref a2), .val (.int (3 : Int32)), .val (.int (1 : Int32))] [])
  have Vn_h4 := Vn_h3.other W4 ne_a1_a2
  have K4 := K3.wr W4 (Or.inl (List.mem_of_getElem? (i := 0) rfl))
  replace V4 : Arv Z h4 a2 k2 .byte (5 : Int32) [(.int (nar .byte (((y.toUInt32 >>> ((0 : Int32) &&& 31).toUInt32).toInt32).toInt8.toInt32))), (.int (nar .byte (((x.toUInt32 >>> ((24 : Int32) &&& 31).toUInt32).toInt32).toInt8.toInt32))), (.int (nar .byte (((x.toUInt32 >>> ((16 : Int32) &&& 31).toUInt32).toInt32).toInt8.toInt32))), (.int (nar .byte (((x.toUInt32 >>> ((8 : Int32) &&& 31).toUInt32).toInt32).toInt8.toInt32))), (.int f)] (.int (0 : Int32)) := V4
  refine own_go (g' := (mkF m 34 #[.val (.ref a1), .val (.ref a2), .val (.int (4 : Int32)), .val (.int (1 : Int32))] [])) (fun t kt => XS.iinc X4.here hx rfl (hb hby own_d1_31) rfl (l' := #[.val (.ref a1), .val (.ref a2), .val (.int (4 : Int32)), .val (.int (1 : Int32))]) rfl kt) ?_
  refine own_go (g' := (mkF m 2 #[.val (.ref a1), .val (.ref a2), .val (.int (4 : Int32)), .val (.int (1 : Int32))] [])) (fun t kt => XS.goto X4.here hx rfl (pc0 := 34) (pc' := 2) rfl (hb hby own_d1_34) (by decide) (by decide) kt) ?_
  refine own_go (g' := (mkF m 3 #[.val (.ref a1), .val (.ref a2), .val (.int (4 : Int32)), .val (.int (1 : Int32))] [(.int (4 : Int32))])) (fun t kt => XS.iloadN X4.here hx rfl (hb hby own_d1_2) rfl kt) ?_
  refine own_go (g' := (mkF m 4 #[.val (.ref a1), .val (.ref a2), .val (.int (4 : Int32)), .val (.int (1 : Int32))] [(.ref a2), (.int (4 : Int32))])) (fun t kt => XS.aloadN X4.here hx rfl (hb hby own_d1_3) rfl rfl kt) ?_
  refine own_alen X4 hx hZ e4 V4 (g := (mkF m 4 #[.val (.ref a1), .val (.ref a2), .val (.int (4 : Int32)), .val (.int (1 : Int32))] [(.ref a2), (.int (4 : Int32))])) rfl rfl (hb hby own_d1_4) ?_
  show OEnds _ _ _ _ _ _ T4 (mkF m 5 #[.val (.ref a1), .val (.ref a2), .val (.int (4 : Int32)), .val (.int (1 : Int32))] [(.int (5 : Int32)), (.int (4 : Int32))])
  refine own_go (g' := (mkF m 8 #[.val (.ref a1), .val (.ref a2), .val (.int (4 : Int32)), .val (.int (1 : Int32))] [])) (fun t kt => XS.icmpNo X4.here hx rfl (hb hby own_d1_5) rfl (tlt ((by decide) : (4 : Int32) < (5 : Int32))).2.1 kt) ?_
  refine own_go (g' := (mkF m 9 #[.val (.ref a1), .val (.ref a2), .val (.int (4 : Int32)), .val (.int (1 : Int32))] [(.ref a2)])) (fun t kt => XS.aloadN X4.here hx rfl (hb hby own_d1_8) rfl rfl kt) ?_
  refine own_alen X4 hx hZ e4 V4 (g := (mkF m 9 #[.val (.ref a1), .val (.ref a2), .val (.int (4 : Int32)), .val (.int (1 : Int32))] [(.ref a2)])) rfl rfl (hb hby own_d1_9) ?_
  show OEnds _ _ _ _ _ _ T4 (mkF m 10 #[.val (.ref a1), .val (.ref a2), .val (.int (4 : Int32)), .val (.int (1 : Int32))] [(.int (5 : Int32))])
  refine own_go (g' := (mkF m 11 #[.val (.ref a1), .val (.ref a2), .val (.int (4 : Int32)), .val (.int (1 : Int32))] [(.int (1 : Int32)), (.int (5 : Int32))])) (fun t kt => XS.iconst X4.here hx rfl (hb hby own_d1_10) kt) ?_
  refine own_go (g' := (mkF m 12 #[.val (.ref a1), .val (.ref a2), .val (.int (4 : Int32)), .val (.int (1 : Int32))] [(.int (4 : Int32))])) (fun t kt => XS.isub X4.here hx rfl (hb hby own_d1_11) rfl kt) ?_
  refine own_go (g' := (mkF m 13 #[.val (.ref a1), .val (.ref a2), .val (.int (4 : Int32)), .val (.int (1 : Int32))] [(.int (4 : Int32)), (.int (4 : Int32))])) (fun t kt => XS.iloadN X4.here hx rfl (hb hby own_d1_12) rfl kt) ?_
  refine own_go (g' := (mkF m 14 #[.val (.ref a1), .val (.ref a2), .val (.int (4 : Int32)), .val (.int (1 : Int32))] [(.int (0 : Int32))])) (fun t kt => XS.isub X4.here hx rfl (hb hby own_d1_13) rfl kt) ?_
  refine own_go (g' := (mkF m 15 #[.val (.ref a1), .val (.ref a2), .val (.int (4 : Int32)), .val (.int (0 : Int32))] [])) (fun t kt => XS.istoreN X4.here hx rfl (hb hby own_d1_14) rfl (l' := #[.val (.ref a1), .val (.ref a2), .val (.int (4 : Int32)), .val (.int (0 : Int32))]) rfl kt) ?_
  refine own_go (g' := (mkF m 16 #[.val (.ref a1), .val (.ref a2), .val (.int (4 : Int32)), .val (.int (0 : Int32))] [(.ref a2)])) (fun t kt => XS.aloadN X4.here hx rfl (hb hby own_d1_15) rfl rfl kt) ?_
  refine own_go (g' := (mkF m 17 #[.val (.ref a1), .val (.ref a2), .val (.int (4 : Int32)), .val (.int (0 : Int32))] [(.int (4 : Int32)), (.ref a2)])) (fun t kt => XS.iloadN X4.here hx rfl (hb hby own_d1_16) rfl kt) ?_
  refine own_go (g' := (mkF m 18 #[.val (.ref a1), .val (.ref a2), .val (.int (4 : Int32)), .val (.int (0 : Int32))] [(.ref a1), (.int (4 : Int32)), (.ref a2)])) (fun t kt => XS.aloadN X4.here hx rfl (hb hby own_d1_17) rfl rfl kt) ?_
  refine own_go (g' := (mkF m 19 #[.val (.ref a1), .val (.ref a2), .val (.int (4 : Int32)), .val (.int (0 : Int32))] [(.int (0 : Int32)), (.ref a1), (.int (4 : Int32)), (.ref a2)])) (fun t kt => XS.iloadN X4.here hx rfl (hb hby own_d1_18) rfl kt) ?_
  refine own_go (g' := (mkF m 20 #[.val (.ref a1), .val (.ref a2), .val (.int (4 : Int32)), .val (.int (0 : Int32))] [(.int (4 : Int32)), (.int (0 : Int32)), (.ref a1), (.int (4 : Int32)), (.ref a2)])) (fun t kt => XS.iconst X4.here hx rfl (hb hby own_d1_19) kt) ?_
  refine own_go (g' := (mkF m 21 #[.val (.ref a1), .val (.ref a2), .val (.int (4 : Int32)), .val (.int (0 : Int32))] [(.int (0 : Int32)), (.ref a1), (.int (4 : Int32)), (.ref a2)])) (fun t kt => XS.idiv X4.here hx rfl (hb hby own_d1_20) rfl (by decide) kt) ?_
  refine own_iaload X4 hx hZ e4 Vn_h4 ⟨by decide, by decide⟩ (v := (.int x)) rfl (g := (mkF m 21 #[.val (.ref a1), .val (.ref a2), .val (.int (4 : Int32)), .val (.int (0 : Int32))] [(.int (0 : Int32)), (.ref a1), (.int (4 : Int32)), (.ref a2)])) rfl rfl (hb hby own_d1_21) ?_
  show OEnds _ _ _ _ _ _ T4 (mkF m 22 #[.val (.ref a1), .val (.ref a2), .val (.int (4 : Int32)), .val (.int (0 : Int32))] [(.int x), (.int (4 : Int32)), (.ref a2)])
  refine own_go (g' := (mkF m 23 #[.val (.ref a1), .val (.ref a2), .val (.int (4 : Int32)), .val (.int (0 : Int32))] [(.int (0 : Int32)), (.int x), (.int (4 : Int32)), (.ref a2)])) (fun t kt => XS.iloadN X4.here hx rfl (hb hby own_d1_22) rfl kt) ?_
  refine own_go (g' := (mkF m 24 #[.val (.ref a1), .val (.ref a2), .val (.int (4 : Int32)), .val (.int (0 : Int32))] [(.int (4 : Int32)), (.int (0 : Int32)), (.int x), (.int (4 : Int32)), (.ref a2)])) (fun t kt => XS.iconst X4.here hx rfl (hb hby own_d1_23) kt) ?_
  refine own_go (g' := (mkF m 25 #[.val (.ref a1), .val (.ref a2), .val (.int (4 : Int32)), .val (.int (0 : Int32))] [(.int (0 : Int32)), (.int x), (.int (4 : Int32)), (.ref a2)])) (fun t kt => iremM X4 hx rfl (hb hby own_d1_24) rfl (by decide) kt) ?_
  refine own_go (g' := (mkF m 27 #[.val (.ref a1), .val (.ref a2), .val (.int (4 : Int32)), .val (.int (0 : Int32))] [(.int (8 : Int32)), (.int (0 : Int32)), (.int x), (.int (4 : Int32)), (.ref a2)])) (fun t kt => XS.bipush X4.here hx rfl (hb hby own_d1_25) kt) ?_
  refine own_go (g' := (mkF m 28 #[.val (.ref a1), .val (.ref a2), .val (.int (4 : Int32)), .val (.int (0 : Int32))] [(.int (0 : Int32)), (.int x), (.int (4 : Int32)), (.ref a2)])) (fun t kt => XS.imul X4.here hx rfl (hb hby own_d1_27) rfl kt) ?_
  refine own_go (g' := (mkF m 29 #[.val (.ref a1), .val (.ref a2), .val (.int (4 : Int32)), .val (.int (0 : Int32))] [(.int ((x.toUInt32 >>> ((0 : Int32) &&& 31).toUInt32).toInt32)), (.int (4 : Int32)), (.ref a2)])) (fun t kt => XS.iushr X4.here hx rfl (hb hby own_d1_28) rfl kt) ?_
  refine own_go (g' := (mkF m 30 #[.val (.ref a1), .val (.ref a2), .val (.int (4 : Int32)), .val (.int (0 : Int32))] [(.int (((x.toUInt32 >>> ((0 : Int32) &&& 31).toUInt32).toInt32).toInt8.toInt32)), (.int (4 : Int32)), (.ref a2)])) (fun t kt => XS.i2b X4.here hx rfl (hb hby own_d1_29) rfl kt) ?_
  refine own_bastore X4 hx hZ e4 V4 ⟨by decide, by decide⟩ 4 rfl (Nat.le_of_ble_eq_true rfl) N4 ge_a2 (g := (mkF m 30 #[.val (.ref a1), .val (.ref a2), .val (.int (4 : Int32)), .val (.int (0 : Int32))] [(.int (((x.toUInt32 >>> ((0 : Int32) &&& 31).toUInt32).toInt32).toInt8.toInt32)), (.int (4 : Int32)), (.ref a2)])) rfl rfl (hb hby own_d1_30) (fun T5 h5 L5 X5 e5 N5 W5 V5 => ?_)
  show OEnds _ _ _ _ _ _ T5 (mkF m 31 #[.val (.ref a1), .val (.ref a2), .val (.int (4 : Int32)), .val (.int (0 : Int32))] [])
  have Vn_h5 := Vn_h4.other W5 ne_a1_a2
  have K5 := K4.wr W5 (Or.inl (List.mem_of_getElem? (i := 0) rfl))
  replace V5 : Arv Z h5 a2 k2 .byte (5 : Int32) [(.int (nar .byte (((y.toUInt32 >>> ((0 : Int32) &&& 31).toUInt32).toInt32).toInt8.toInt32))), (.int (nar .byte (((x.toUInt32 >>> ((24 : Int32) &&& 31).toUInt32).toInt32).toInt8.toInt32))), (.int (nar .byte (((x.toUInt32 >>> ((16 : Int32) &&& 31).toUInt32).toInt32).toInt8.toInt32))), (.int (nar .byte (((x.toUInt32 >>> ((8 : Int32) &&& 31).toUInt32).toInt32).toInt8.toInt32))), (.int (nar .byte (((x.toUInt32 >>> ((0 : Int32) &&& 31).toUInt32).toInt32).toInt8.toInt32)))] (.int (0 : Int32)) := V5
  refine own_go (g' := (mkF m 34 #[.val (.ref a1), .val (.ref a2), .val (.int (5 : Int32)), .val (.int (0 : Int32))] [])) (fun t kt => XS.iinc X5.here hx rfl (hb hby own_d1_31) rfl (l' := #[.val (.ref a1), .val (.ref a2), .val (.int (5 : Int32)), .val (.int (0 : Int32))]) rfl kt) ?_
  refine own_go (g' := (mkF m 2 #[.val (.ref a1), .val (.ref a2), .val (.int (5 : Int32)), .val (.int (0 : Int32))] [])) (fun t kt => XS.goto X5.here hx rfl (pc0 := 34) (pc' := 2) rfl (hb hby own_d1_34) (by decide) (by decide) kt) ?_
  refine own_go (g' := (mkF m 3 #[.val (.ref a1), .val (.ref a2), .val (.int (5 : Int32)), .val (.int (0 : Int32))] [(.int (5 : Int32))])) (fun t kt => XS.iloadN X5.here hx rfl (hb hby own_d1_2) rfl kt) ?_
  refine own_go (g' := (mkF m 4 #[.val (.ref a1), .val (.ref a2), .val (.int (5 : Int32)), .val (.int (0 : Int32))] [(.ref a2), (.int (5 : Int32))])) (fun t kt => XS.aloadN X5.here hx rfl (hb hby own_d1_3) rfl rfl kt) ?_
  refine own_alen X5 hx hZ e5 V5 (g := (mkF m 4 #[.val (.ref a1), .val (.ref a2), .val (.int (5 : Int32)), .val (.int (0 : Int32))] [(.ref a2), (.int (5 : Int32))])) rfl rfl (hb hby own_d1_4) ?_
  show OEnds _ _ _ _ _ _ T5 (mkF m 5 #[.val (.ref a1), .val (.ref a2), .val (.int (5 : Int32)), .val (.int (0 : Int32))] [(.int (5 : Int32)), (.int (5 : Int32))])
  refine own_go (g' := (mkF m 37 #[.val (.ref a1), .val (.ref a2), .val (.int (5 : Int32)), .val (.int (0 : Int32))] [])) (fun t kt => XS.icmpYes X5.here hx rfl (pc0 := 5) (pc' := 37) rfl (hb hby own_d1_5) rfl (flt ((by decide) : ¬ ((5 : Int32) < (5 : Int32)))).2.1 (by decide) (by decide) kt) ?_
  exact own_retV X5 hx hlk hret (hb hby own_d1_37) e5 N5 (by decide) (by decide) (⟨rfl, K5, V5⟩)
theorem own_ef_own_tb3 (m : MethodId) (x0 : Addr) (x1 : Addr) : entryFrame m #[(.ref x0), (.ref x1)] 4 = mkF m 0 #[.val (.ref x0), .val (.ref x1), .unset, .unset] [] := by first | (simp [entryFrame, mkF, argsToLocals, Value.category]; done) | rfl
set_option maxRecDepth 65536 in
set_option maxHeartbeats 40000000 in
theorem own_tb3 (l : Launch) (Z : State) (a0 : Array Value) (hw : ∀ d ∈ tables_1, d.before a0 Z = true) (a1 a2 : Addr) (k1 k2 : ClassId) (x y f : Int32) (h0 : Heap) (n0 : Nat) (Z0 : n0 ≤ h0.size) (Vn : Arv Z h0 a1 k1 .int (2 : Int32) [(.int x), (.int y)] (.int (0 : Int32))) (Vo : Arv Z h0 a2 k2 .byte (3 : Int32) [(.int f), (.int f), (.int f)] (.int (0 : Int32))) (ne_a1_a2 : a1 ≠ a2) (ge_a2 : n0 ≤ a2) :
    OCon l (⟨"com/example/clearcycle/clearcycle/Montgomery", "toBytes", "([I[B)V"⟩ : MethodName) prog_59_method_7_code 4 none ({ frames := 0, cells := 0, slots := 0, locals := 0 } : Room) Z #[(.ref a1), (.ref a2)] h0 n0 (fun v h => v = none ∧ Keep h0 h [a2] ∧ Arv Z h a2 k2 .byte (3 : Int32) [(.int (own_byte x (16 : Int32))), (.int (own_byte x (8 : Int32))), (.int (own_byte x (0 : Int32)))] (.int (0 : Int32))) := by
  refine own_body own_pn_1 ?_
  intro p e s m below meth c T0 hx hZ hby hml hown hnm hret hlk e0 X0
  replace hown : s.vm.findClass "com/example/clearcycle/clearcycle/Montgomery" = some m.cls := hown
  replace hnm : meth.name = "toBytes" := hnm
  have N0 := Fr.nil n0
  have K0 : Keep h0 h0 [a2] := Keep.refl _ _
  refine own_at (own_ef_own_tb3 m a1 a2) ?_
  refine own_go (g' := (mkF m 1 #[.val (.ref a1), .val (.ref a2), .unset, .unset] [(.int (0 : Int32))])) (fun t kt => XS.iconst X0.here hx rfl (hb hby own_d1_0) kt) ?_
  refine own_go (g' := (mkF m 2 #[.val (.ref a1), .val (.ref a2), .val (.int (0 : Int32)), .unset] [])) (fun t kt => XS.istoreN X0.here hx rfl (hb hby own_d1_1) rfl (l' := #[.val (.ref a1), .val (.ref a2), .val (.int (0 : Int32)), .unset]) rfl kt) ?_
  refine own_go (g' := (mkF m 3 #[.val (.ref a1), .val (.ref a2), .val (.int (0 : Int32)), .unset] [(.int (0 : Int32))])) (fun t kt => XS.iloadN X0.here hx rfl (hb hby own_d1_2) rfl kt) ?_
  refine own_go (g' := (mkF m 4 #[.val (.ref a1), .val (.ref a2), .val (.int (0 : Int32)), .unset] [(.ref a2), (.int (0 : Int32))])) (fun t kt => XS.aloadN X0.here hx rfl (hb hby own_d1_3) rfl rfl kt) ?_
  refine own_alen X0 hx hZ e0 Vo (g := (mkF m 4 #[.val (.ref a1), .val (.ref a2), .val (.int (0 : Int32)), .unset] [(.ref a2), (.int (0 : Int32))])) rfl rfl (hb hby own_d1_4) ?_
  show OEnds _ _ _ _ _ _ T0 (mkF m 5 #[.val (.ref a1), .val (.ref a2), .val (.int (0 : Int32)), .unset] [(.int (3 : Int32)), (.int (0 : Int32))])
  refine own_go (g' := (mkF m 8 #[.val (.ref a1), .val (.ref a2), .val (.int (0 : Int32)), .unset] [])) (fun t kt => XS.icmpNo X0.here hx rfl (hb hby own_d1_5) rfl (tlt ((by decide) : (0 : Int32) < (3 : Int32))).2.1 kt) ?_
  refine own_go (g' := (mkF m 9 #[.val (.ref a1), .val (.ref a2), .val (.int (0 : Int32)), .unset] [(.ref a2)])) (fun t kt => XS.aloadN X0.here hx rfl (hb hby own_d1_8) rfl rfl kt) ?_
  refine own_alen X0 hx hZ e0 Vo (g := (mkF m 9 #[.val (.ref a1), .val (.ref a2), .val (.int (0 : Int32)), .unset] [(.ref a2)])) rfl rfl (hb hby own_d1_9) ?_
  show OEnds _ _ _ _ _ _ T0 (mkF m 10 #[.val (.ref a1), .val (.ref a2), .val (.int (0 : Int32)), .unset] [(.int (3 : Int32))])
  refine own_go (g' := (mkF m 11 #[.val (.ref a1), .val (.ref a2), .val (.int (0 : Int32)), .unset] [(.int (1 : Int32)), (.int (3 : Int32))])) (fun t kt => XS.iconst X0.here hx rfl (hb hby own_d1_10) kt) ?_
  refine own_go (g' := (mkF m 12 #[.val (.ref a1), .val (.ref a2), .val (.int (0 : Int32)), .unset] [(.int (2 : Int32))])) (fun t kt => XS.isub X0.here hx rfl (hb hby own_d1_11) rfl kt) ?_
  refine own_go (g' := (mkF m 13 #[.val (.ref a1), .val (.ref a2), .val (.int (0 : Int32)), .unset] [(.int (0 : Int32)), (.int (2 : Int32))])) (fun t kt => XS.iloadN X0.here hx rfl (hb hby own_d1_12) rfl kt) ?_
  refine own_go (g' := (mkF m 14 #[.val (.ref a1), .val (.ref a2), .val (.int (0 : Int32)), .unset] [(.int (2 : Int32))])) (fun t kt => XS.isub X0.here hx rfl (hb hby own_d1_13) rfl kt) ?_
  refine own_go (g' := (mkF m 15 #[.val (.ref a1), .val (.ref a2), .val (.int (0 : Int32)), .val (.int (2 : Int32))] [])) (fun t kt => XS.istoreN X0.here hx rfl (hb hby own_d1_14) rfl (l' := #[.val (.ref a1), .val (.ref a2), .val (.int (0 : Int32)), .val (.int (2 : Int32))]) rfl kt) ?_
  refine own_go (g' := (mkF m 16 #[.val (.ref a1), .val (.ref a2), .val (.int (0 : Int32)), .val (.int (2 : Int32))] [(.ref a2)])) (fun t kt => XS.aloadN X0.here hx rfl (hb hby own_d1_15) rfl rfl kt) ?_
  refine own_go (g' := (mkF m 17 #[.val (.ref a1), .val (.ref a2), .val (.int (0 : Int32)), .val (.int (2 : Int32))] [(.int (0 : Int32)), (.ref a2)])) (fun t kt => XS.iloadN X0.here hx rfl (hb hby own_d1_16) rfl kt) ?_
  refine own_go (g' := (mkF m 18 #[.val (.ref a1), .val (.ref a2), .val (.int (0 : Int32)), .val (.int (2 : Int32))] [(.ref a1), (.int (0 : Int32)), (.ref a2)])) (fun t kt => XS.aloadN X0.here hx rfl (hb hby own_d1_17) rfl rfl kt) ?_
  refine own_go (g' := (mkF m 19 #[.val (.ref a1), .val (.ref a2), .val (.int (0 : Int32)), .val (.int (2 : Int32))] [(.int (2 : Int32)), (.ref a1), (.int (0 : Int32)), (.ref a2)])) (fun t kt => XS.iloadN X0.here hx rfl (hb hby own_d1_18) rfl kt) ?_
  refine own_go (g' := (mkF m 20 #[.val (.ref a1), .val (.ref a2), .val (.int (0 : Int32)), .val (.int (2 : Int32))] [(.int (4 : Int32)), (.int (2 : Int32)), (.ref a1), (.int (0 : Int32)), (.ref a2)])) (fun t kt => XS.iconst X0.here hx rfl (hb hby own_d1_19) kt) ?_
  refine own_go (g' := (mkF m 21 #[.val (.ref a1), .val (.ref a2), .val (.int (0 : Int32)), .val (.int (2 : Int32))] [(.int (0 : Int32)), (.ref a1), (.int (0 : Int32)), (.ref a2)])) (fun t kt => XS.idiv X0.here hx rfl (hb hby own_d1_20) rfl (by decide) kt) ?_
  refine own_iaload X0 hx hZ e0 Vn ⟨by decide, by decide⟩ (v := (.int x)) rfl (g := (mkF m 21 #[.val (.ref a1), .val (.ref a2), .val (.int (0 : Int32)), .val (.int (2 : Int32))] [(.int (0 : Int32)), (.ref a1), (.int (0 : Int32)), (.ref a2)])) rfl rfl (hb hby own_d1_21) ?_
  show OEnds _ _ _ _ _ _ T0 (mkF m 22 #[.val (.ref a1), .val (.ref a2), .val (.int (0 : Int32)), .val (.int (2 : Int32))] [(.int x), (.int (0 : Int32)), (.ref a2)])
  refine own_go (g' := (mkF m 23 #[.val (.ref a1), .val (.ref a2), .val (.int (0 : Int32)), .val (.int (2 : Int32))] [(.int (2 : Int32)), (.int x), (.int (0 : Int32)), (.ref a2)])) (fun t kt => XS.iloadN X0.here hx rfl (hb hby own_d1_22) rfl kt) ?_
  refine own_go (g' := (mkF m 24 #[.val (.ref a1), .val (.ref a2), .val (.int (0 : Int32)), .val (.int (2 : Int32))] [(.int (4 : Int32)), (.int (2 : Int32)), (.int x), (.int (0 : Int32)), (.ref a2)])) (fun t kt => XS.iconst X0.here hx rfl (hb hby own_d1_23) kt) ?_
  refine own_go (g' := (mkF m 25 #[.val (.ref a1), .val (.ref a2), .val (.int (0 : Int32)), .val (.int (2 : Int32))] [(.int (2 : Int32)), (.int x), (.int (0 : Int32)), (.ref a2)])) (fun t kt => iremM X0 hx rfl (hb hby own_d1_24) rfl (by decide) kt) ?_
  refine own_go (g' := (mkF m 27 #[.val (.ref a1), .val (.ref a2), .val (.int (0 : Int32)), .val (.int (2 : Int32))] [(.int (8 : Int32)), (.int (2 : Int32)), (.int x), (.int (0 : Int32)), (.ref a2)])) (fun t kt => XS.bipush X0.here hx rfl (hb hby own_d1_25) kt) ?_
  refine own_go (g' := (mkF m 28 #[.val (.ref a1), .val (.ref a2), .val (.int (0 : Int32)), .val (.int (2 : Int32))] [(.int (16 : Int32)), (.int x), (.int (0 : Int32)), (.ref a2)])) (fun t kt => XS.imul X0.here hx rfl (hb hby own_d1_27) rfl kt) ?_
  refine own_go (g' := (mkF m 29 #[.val (.ref a1), .val (.ref a2), .val (.int (0 : Int32)), .val (.int (2 : Int32))] [(.int ((x.toUInt32 >>> ((16 : Int32) &&& 31).toUInt32).toInt32)), (.int (0 : Int32)), (.ref a2)])) (fun t kt => XS.iushr X0.here hx rfl (hb hby own_d1_28) rfl kt) ?_
  refine own_go (g' := (mkF m 30 #[.val (.ref a1), .val (.ref a2), .val (.int (0 : Int32)), .val (.int (2 : Int32))] [(.int (((x.toUInt32 >>> ((16 : Int32) &&& 31).toUInt32).toInt32).toInt8.toInt32)), (.int (0 : Int32)), (.ref a2)])) (fun t kt => XS.i2b X0.here hx rfl (hb hby own_d1_29) rfl kt) ?_
  refine own_bastore X0 hx hZ e0 Vo ⟨by decide, by decide⟩ 0 rfl (Nat.le_of_ble_eq_true rfl) N0 ge_a2 (g := (mkF m 30 #[.val (.ref a1), .val (.ref a2), .val (.int (0 : Int32)), .val (.int (2 : Int32))] [(.int (((x.toUInt32 >>> ((16 : Int32) &&& 31).toUInt32).toInt32).toInt8.toInt32)), (.int (0 : Int32)), (.ref a2)])) rfl rfl (hb hby own_d1_30) (fun T1 h1 L1 X1 e1 N1 W1 V1 => ?_)
  show OEnds _ _ _ _ _ _ T1 (mkF m 31 #[.val (.ref a1), .val (.ref a2), .val (.int (0 : Int32)), .val (.int (2 : Int32))] [])
  have Vn_h1 := Vn.other W1 ne_a1_a2
  have K1 := K0.wr W1 (Or.inl (List.mem_of_getElem? (i := 0) rfl))
  replace V1 : Arv Z h1 a2 k2 .byte (3 : Int32) [(.int (nar .byte (((x.toUInt32 >>> ((16 : Int32) &&& 31).toUInt32).toInt32).toInt8.toInt32))), (.int f), (.int f)] (.int (0 : Int32)) := V1
  refine own_go (g' := (mkF m 34 #[.val (.ref a1), .val (.ref a2), .val (.int (1 : Int32)), .val (.int (2 : Int32))] [])) (fun t kt => XS.iinc X1.here hx rfl (hb hby own_d1_31) rfl (l' := #[.val (.ref a1), .val (.ref a2), .val (.int (1 : Int32)), .val (.int (2 : Int32))]) rfl kt) ?_
  refine own_go (g' := (mkF m 2 #[.val (.ref a1), .val (.ref a2), .val (.int (1 : Int32)), .val (.int (2 : Int32))] [])) (fun t kt => XS.goto X1.here hx rfl (pc0 := 34) (pc' := 2) rfl (hb hby own_d1_34) (by decide) (by decide) kt) ?_
  refine own_go (g' := (mkF m 3 #[.val (.ref a1), .val (.ref a2), .val (.int (1 : Int32)), .val (.int (2 : Int32))] [(.int (1 : Int32))])) (fun t kt => XS.iloadN X1.here hx rfl (hb hby own_d1_2) rfl kt) ?_
  refine own_go (g' := (mkF m 4 #[.val (.ref a1), .val (.ref a2), .val (.int (1 : Int32)), .val (.int (2 : Int32))] [(.ref a2), (.int (1 : Int32))])) (fun t kt => XS.aloadN X1.here hx rfl (hb hby own_d1_3) rfl rfl kt) ?_
  refine own_alen X1 hx hZ e1 V1 (g := (mkF m 4 #[.val (.ref a1), .val (.ref a2), .val (.int (1 : Int32)), .val (.int (2 : Int32))] [(.ref a2), (.int (1 : Int32))])) rfl rfl (hb hby own_d1_4) ?_
  show OEnds _ _ _ _ _ _ T1 (mkF m 5 #[.val (.ref a1), .val (.ref a2), .val (.int (1 : Int32)), .val (.int (2 : Int32))] [(.int (3 : Int32)), (.int (1 : Int32))])
  refine own_go (g' := (mkF m 8 #[.val (.ref a1), .val (.ref a2), .val (.int (1 : Int32)), .val (.int (2 : Int32))] [])) (fun t kt => XS.icmpNo X1.here hx rfl (hb hby own_d1_5) rfl (tlt ((by decide) : (1 : Int32) < (3 : Int32))).2.1 kt) ?_
  refine own_go (g' := (mkF m 9 #[.val (.ref a1), .val (.ref a2), .val (.int (1 : Int32)), .val (.int (2 : Int32))] [(.ref a2)])) (fun t kt => XS.aloadN X1.here hx rfl (hb hby own_d1_8) rfl rfl kt) ?_
  refine own_alen X1 hx hZ e1 V1 (g := (mkF m 9 #[.val (.ref a1), .val (.ref a2), .val (.int (1 : Int32)), .val (.int (2 : Int32))] [(.ref a2)])) rfl rfl (hb hby own_d1_9) ?_
  show OEnds _ _ _ _ _ _ T1 (mkF m 10 #[.val (.ref a1), .val (.ref a2), .val (.int (1 : Int32)), .val (.int (2 : Int32))] [(.int (3 : Int32))])
  refine own_go (g' := (mkF m 11 #[.val (.ref a1), .val (.ref a2), .val (.int (1 : Int32)), .val (.int (2 : Int32))] [(.int (1 : Int32)), (.int (3 : Int32))])) (fun t kt => XS.iconst X1.here hx rfl (hb hby own_d1_10) kt) ?_
  refine own_go (g' := (mkF m 12 #[.val (.ref a1), .val (.ref a2), .val (.int (1 : Int32)), .val (.int (2 : Int32))] [(.int (2 : Int32))])) (fun t kt => XS.isub X1.here hx rfl (hb hby own_d1_11) rfl kt) ?_
  refine own_go (g' := (mkF m 13 #[.val (.ref a1), .val (.ref a2), .val (.int (1 : Int32)), .val (.int (2 : Int32))] [(.int (1 : Int32)), (.int (2 : Int32))])) (fun t kt => XS.iloadN X1.here hx rfl (hb hby own_d1_12) rfl kt) ?_
  refine own_go (g' := (mkF m 14 #[.val (.ref a1), .val (.ref a2), .val (.int (1 : Int32)), .val (.int (2 : Int32))] [(.int (1 : Int32))])) (fun t kt => XS.isub X1.here hx rfl (hb hby own_d1_13) rfl kt) ?_
  refine own_go (g' := (mkF m 15 #[.val (.ref a1), .val (.ref a2), .val (.int (1 : Int32)), .val (.int (1 : Int32))] [])) (fun t kt => XS.istoreN X1.here hx rfl (hb hby own_d1_14) rfl (l' := #[.val (.ref a1), .val (.ref a2), .val (.int (1 : Int32)), .val (.int (1 : Int32))]) rfl kt) ?_
  refine own_go (g' := (mkF m 16 #[.val (.ref a1), .val (.ref a2), .val (.int (1 : Int32)), .val (.int (1 : Int32))] [(.ref a2)])) (fun t kt => XS.aloadN X1.here hx rfl (hb hby own_d1_15) rfl rfl kt) ?_
  refine own_go (g' := (mkF m 17 #[.val (.ref a1), .val (.ref a2), .val (.int (1 : Int32)), .val (.int (1 : Int32))] [(.int (1 : Int32)), (.ref a2)])) (fun t kt => XS.iloadN X1.here hx rfl (hb hby own_d1_16) rfl kt) ?_
  refine own_go (g' := (mkF m 18 #[.val (.ref a1), .val (.ref a2), .val (.int (1 : Int32)), .val (.int (1 : Int32))] [(.ref a1), (.int (1 : Int32)), (.ref a2)])) (fun t kt => XS.aloadN X1.here hx rfl (hb hby own_d1_17) rfl rfl kt) ?_
  refine own_go (g' := (mkF m 19 #[.val (.ref a1), .val (.ref a2), .val (.int (1 : Int32)), .val (.int (1 : Int32))] [(.int (1 : Int32)), (.ref a1), (.int (1 : Int32)), (.ref a2)])) (fun t kt => XS.iloadN X1.here hx rfl (hb hby own_d1_18) rfl kt) ?_
  refine own_go (g' := (mkF m 20 #[.val (.ref a1), .val (.ref a2), .val (.int (1 : Int32)), .val (.int (1 : Int32))] [(.int (4 : Int32)), (.int (1 : Int32)), (.ref a1), (.int (1 : Int32)), (.ref a2)])) (fun t kt => XS.iconst X1.here hx rfl (hb hby own_d1_19) kt) ?_
  refine own_go (g' := (mkF m 21 #[.val (.ref a1), .val (.ref a2), .val (.int (1 : Int32)), .val (.int (1 : Int32))] [(.int (0 : Int32)), (.ref a1), (.int (1 : Int32)), (.ref a2)])) (fun t kt => XS.idiv X1.here hx rfl (hb hby own_d1_20) rfl (by decide) kt) ?_
  refine own_iaload X1 hx hZ e1 Vn_h1 ⟨by decide, by decide⟩ (v := (.int x)) rfl (g := (mkF m 21 #[.val (.ref a1), .val (.ref a2), .val (.int (1 : Int32)), .val (.int (1 : Int32))] [(.int (0 : Int32)), (.ref a1), (.int (1 : Int32)), (.ref a2)])) rfl rfl (hb hby own_d1_21) ?_
  show OEnds _ _ _ _ _ _ T1 (mkF m 22 #[.val (.ref a1), .val (.ref a2), .val (.int (1 : Int32)), .val (.int (1 : Int32))] [(.int x), (.int (1 : Int32)), (.ref a2)])
  refine own_go (g' := (mkF m 23 #[.val (.ref a1), .val (.ref a2), .val (.int (1 : Int32)), .val (.int (1 : Int32))] [(.int (1 : Int32)), (.int x), (.int (1 : Int32)), (.ref a2)])) (fun t kt => XS.iloadN X1.here hx rfl (hb hby own_d1_22) rfl kt) ?_
  refine own_go (g' := (mkF m 24 #[.val (.ref a1), .val (.ref a2), .val (.int (1 : Int32)), .val (.int (1 : Int32))] [(.int (4 : Int32)), (.int (1 : Int32)), (.int x), (.int (1 : Int32)), (.ref a2)])) (fun t kt => XS.iconst X1.here hx rfl (hb hby own_d1_23) kt) ?_
  refine own_go (g' := (mkF m 25 #[.val (.ref a1), .val (.ref a2), .val (.int (1 : Int32)), .val (.int (1 : Int32))] [(.int (1 : Int32)), (.int x), (.int (1 : Int32)), (.ref a2)])) (fun t kt => iremM X1 hx rfl (hb hby own_d1_24) rfl (by decide) kt) ?_
  refine own_go (g' := (mkF m 27 #[.val (.ref a1), .val (.ref a2), .val (.int (1 : Int32)), .val (.int (1 : Int32))] [(.int (8 : Int32)), (.int (1 : Int32)), (.int x), (.int (1 : Int32)), (.ref a2)])) (fun t kt => XS.bipush X1.here hx rfl (hb hby own_d1_25) kt) ?_
  refine own_go (g' := (mkF m 28 #[.val (.ref a1), .val (.ref a2), .val (.int (1 : Int32)), .val (.int (1 : Int32))] [(.int (8 : Int32)), (.int x), (.int (1 : Int32)), (.ref a2)])) (fun t kt => XS.imul X1.here hx rfl (hb hby own_d1_27) rfl kt) ?_
  refine own_go (g' := (mkF m 29 #[.val (.ref a1), .val (.ref a2), .val (.int (1 : Int32)), .val (.int (1 : Int32))] [(.int ((x.toUInt32 >>> ((8 : Int32) &&& 31).toUInt32).toInt32)), (.int (1 : Int32)), (.ref a2)])) (fun t kt => XS.iushr X1.here hx rfl (hb hby own_d1_28) rfl kt) ?_
  refine own_go (g' := (mkF m 30 #[.val (.ref a1), .val (.ref a2), .val (.int (1 : Int32)), .val (.int (1 : Int32))] [(.int (((x.toUInt32 >>> ((8 : Int32) &&& 31).toUInt32).toInt32).toInt8.toInt32)), (.int (1 : Int32)), (.ref a2)])) (fun t kt => XS.i2b X1.here hx rfl (hb hby own_d1_29) rfl kt) ?_
  refine own_bastore X1 hx hZ e1 V1 ⟨by decide, by decide⟩ 1 rfl (Nat.le_of_ble_eq_true rfl) N1 ge_a2 (g := (mkF m 30 #[.val (.ref a1), .val (.ref a2), .val (.int (1 : Int32)), .val (.int (1 : Int32))] [(.int (((x.toUInt32 >>> ((8 : Int32) &&& 31).toUInt32).toInt32).toInt8.toInt32)), (.int (1 : Int32)), (.ref a2)])) rfl rfl (hb hby own_d1_30) (fun T2 h2 L2 X2 e2 N2 W2 V2 => ?_)
  show OEnds _ _ _ _ _ _ T2 (mkF m 31 #[.val (.ref a1), .val (.ref a2), .val (.int (1 : Int32)), .val (.int (1 : Int32))] [])
  have Vn_h2 := Vn_h1.other W2 ne_a1_a2
  have K2 := K1.wr W2 (Or.inl (List.mem_of_getElem? (i := 0) rfl))
  replace V2 : Arv Z h2 a2 k2 .byte (3 : Int32) [(.int (nar .byte (((x.toUInt32 >>> ((16 : Int32) &&& 31).toUInt32).toInt32).toInt8.toInt32))), (.int (nar .byte (((x.toUInt32 >>> ((8 : Int32) &&& 31).toUInt32).toInt32).toInt8.toInt32))), (.int f)] (.int (0 : Int32)) := V2
  refine own_go (g' := (mkF m 34 #[.val (.ref a1), .val (.ref a2), .val (.int (2 : Int32)), .val (.int (1 : Int32))] [])) (fun t kt => XS.iinc X2.here hx rfl (hb hby own_d1_31) rfl (l' := #[.val (.ref a1), .val (.ref a2), .val (.int (2 : Int32)), .val (.int (1 : Int32))]) rfl kt) ?_
  refine own_go (g' := (mkF m 2 #[.val (.ref a1), .val (.ref a2), .val (.int (2 : Int32)), .val (.int (1 : Int32))] [])) (fun t kt => XS.goto X2.here hx rfl (pc0 := 34) (pc' := 2) rfl (hb hby own_d1_34) (by decide) (by decide) kt) ?_
  refine own_go (g' := (mkF m 3 #[.val (.ref a1), .val (.ref a2), .val (.int (2 : Int32)), .val (.int (1 : Int32))] [(.int (2 : Int32))])) (fun t kt => XS.iloadN X2.here hx rfl (hb hby own_d1_2) rfl kt) ?_
  refine own_go (g' := (mkF m 4 #[.val (.ref a1), .val (.ref a2), .val (.int (2 : Int32)), .val (.int (1 : Int32))] [(.ref a2), (.int (2 : Int32))])) (fun t kt => XS.aloadN X2.here hx rfl (hb hby own_d1_3) rfl rfl kt) ?_
  refine own_alen X2 hx hZ e2 V2 (g := (mkF m 4 #[.val (.ref a1), .val (.ref a2), .val (.int (2 : Int32)), .val (.int (1 : Int32))] [(.ref a2), (.int (2 : Int32))])) rfl rfl (hb hby own_d1_4) ?_
  show OEnds _ _ _ _ _ _ T2 (mkF m 5 #[.val (.ref a1), .val (.ref a2), .val (.int (2 : Int32)), .val (.int (1 : Int32))] [(.int (3 : Int32)), (.int (2 : Int32))])
  refine own_go (g' := (mkF m 8 #[.val (.ref a1), .val (.ref a2), .val (.int (2 : Int32)), .val (.int (1 : Int32))] [])) (fun t kt => XS.icmpNo X2.here hx rfl (hb hby own_d1_5) rfl (tlt ((by decide) : (2 : Int32) < (3 : Int32))).2.1 kt) ?_
  refine own_go (g' := (mkF m 9 #[.val (.ref a1), .val (.ref a2), .val (.int (2 : Int32)), .val (.int (1 : Int32))] [(.ref a2)])) (fun t kt => XS.aloadN X2.here hx rfl (hb hby own_d1_8) rfl rfl kt) ?_
  refine own_alen X2 hx hZ e2 V2 (g := (mkF m 9 #[.val (.ref a1), .val (.ref a2), .val (.int (2 : Int32)), .val (.int (1 : Int32))] [(.ref a2)])) rfl rfl (hb hby own_d1_9) ?_
  show OEnds _ _ _ _ _ _ T2 (mkF m 10 #[.val (.ref a1), .val (.ref a2), .val (.int (2 : Int32)), .val (.int (1 : Int32))] [(.int (3 : Int32))])
  refine own_go (g' := (mkF m 11 #[.val (.ref a1), .val (.ref a2), .val (.int (2 : Int32)), .val (.int (1 : Int32))] [(.int (1 : Int32)), (.int (3 : Int32))])) (fun t kt => XS.iconst X2.here hx rfl (hb hby own_d1_10) kt) ?_
  refine own_go (g' := (mkF m 12 #[.val (.ref a1), .val (.ref a2), .val (.int (2 : Int32)), .val (.int (1 : Int32))] [(.int (2 : Int32))])) (fun t kt => XS.isub X2.here hx rfl (hb hby own_d1_11) rfl kt) ?_
  refine own_go (g' := (mkF m 13 #[.val (.ref a1), .val (.ref a2), .val (.int (2 : Int32)), .val (.int (1 : Int32))] [(.int (2 : Int32)), (.int (2 : Int32))])) (fun t kt => XS.iloadN X2.here hx rfl (hb hby own_d1_12) rfl kt) ?_
  refine own_go (g' := (mkF m 14 #[.val (.ref a1), .val (.ref a2), .val (.int (2 : Int32)), .val (.int (1 : Int32))] [(.int (0 : Int32))])) (fun t kt => XS.isub X2.here hx rfl (hb hby own_d1_13) rfl kt) ?_
  refine own_go (g' := (mkF m 15 #[.val (.ref a1), .val (.ref a2), .val (.int (2 : Int32)), .val (.int (0 : Int32))] [])) (fun t kt => XS.istoreN X2.here hx rfl (hb hby own_d1_14) rfl (l' := #[.val (.ref a1), .val (.ref a2), .val (.int (2 : Int32)), .val (.int (0 : Int32))]) rfl kt) ?_
  refine own_go (g' := (mkF m 16 #[.val (.ref a1), .val (.ref a2), .val (.int (2 : Int32)), .val (.int (0 : Int32))] [(.ref a2)])) (fun t kt => XS.aloadN X2.here hx rfl (hb hby own_d1_15) rfl rfl kt) ?_
  refine own_go (g' := (mkF m 17 #[.val (.ref a1), .val (.ref a2), .val (.int (2 : Int32)), .val (.int (0 : Int32))] [(.int (2 : Int32)), (.ref a2)])) (fun t kt => XS.iloadN X2.here hx rfl (hb hby own_d1_16) rfl kt) ?_
  refine own_go (g' := (mkF m 18 #[.val (.ref a1), .val (.ref a2), .val (.int (2 : Int32)), .val (.int (0 : Int32))] [(.ref a1), (.int (2 : Int32)), (.ref a2)])) (fun t kt => XS.aloadN X2.here hx rfl (hb hby own_d1_17) rfl rfl kt) ?_
  refine own_go (g' := (mkF m 19 #[.val (.ref a1), .val (.ref a2), .val (.int (2 : Int32)), .val (.int (0 : Int32))] [(.int (0 : Int32)), (.ref a1), (.int (2 : Int32)), (.ref a2)])) (fun t kt => XS.iloadN X2.here hx rfl (hb hby own_d1_18) rfl kt) ?_
  refine own_go (g' := (mkF m 20 #[.val (.ref a1), .val (.ref a2), .val (.int (2 : Int32)), .val (.int (0 : Int32))] [(.int (4 : Int32)), (.int (0 : Int32)), (.ref a1), (.int (2 : Int32)), (.ref a2)])) (fun t kt => XS.iconst X2.here hx rfl (hb hby own_d1_19) kt) ?_
  refine own_go (g' := (mkF m 21 #[.val (.ref a1), .val (.ref a2), .val (.int (2 : Int32)), .val (.int (0 : Int32))] [(.int (0 : Int32)), (.ref a1), (.int (2 : Int32)), (.ref a2)])) (fun t kt => XS.idiv X2.here hx rfl (hb hby own_d1_20) rfl (by decide) kt) ?_
  refine own_iaload X2 hx hZ e2 Vn_h2 ⟨by decide, by decide⟩ (v := (.int x)) rfl (g := (mkF m 21 #[.val (.ref a1), .val (.ref a2), .val (.int (2 : Int32)), .val (.int (0 : Int32))] [(.int (0 : Int32)), (.ref a1), (.int (2 : Int32)), (.ref a2)])) rfl rfl (hb hby own_d1_21) ?_
  show OEnds _ _ _ _ _ _ T2 (mkF m 22 #[.val (.ref a1), .val (.ref a2), .val (.int (2 : Int32)), .val (.int (0 : Int32))] [(.int x), (.int (2 : Int32)), (.ref a2)])
  refine own_go (g' := (mkF m 23 #[.val (.ref a1), .val (.ref a2), .val (.int (2 : Int32)), .val (.int (0 : Int32))] [(.int (0 : Int32)), (.int x), (.int (2 : Int32)), (.ref a2)])) (fun t kt => XS.iloadN X2.here hx rfl (hb hby own_d1_22) rfl kt) ?_
  refine own_go (g' := (mkF m 24 #[.val (.ref a1), .val (.ref a2), .val (.int (2 : Int32)), .val (.int (0 : Int32))] [(.int (4 : Int32)), (.int (0 : Int32)), (.int x), (.int (2 : Int32)), (.ref a2)])) (fun t kt => XS.iconst X2.here hx rfl (hb hby own_d1_23) kt) ?_
  refine own_go (g' := (mkF m 25 #[.val (.ref a1), .val (.ref a2), .val (.int (2 : Int32)), .val (.int (0 : Int32))] [(.int (0 : Int32)), (.int x), (.int (2 : Int32)), (.ref a2)])) (fun t kt => iremM X2 hx rfl (hb hby own_d1_24) rfl (by decide) kt) ?_
  refine own_go (g' := (mkF m 27 #[.val (.ref a1), .val (.ref a2), .val (.int (2 : Int32)), .val (.int (0 : Int32))] [(.int (8 : Int32)), (.int (0 : Int32)), (.int x), (.int (2 : Int32)), (.ref a2)])) (fun t kt => XS.bipush X2.here hx rfl (hb hby own_d1_25) kt) ?_
  refine own_go (g' := (mkF m 28 #[.val (.ref a1), .val (.ref a2), .val (.int (2 : Int32)), .val (.int (0 : Int32))] [(.int (0 : Int32)), (.int x), (.int (2 : Int32)), (.ref a2)])) (fun t kt => XS.imul X2.here hx rfl (hb hby own_d1_27) rfl kt) ?_
  refine own_go (g' := (mkF m 29 #[.val (.ref a1), .val (.ref a2), .val (.int (2 : Int32)), .val (.int (0 : Int32))] [(.int ((x.toUInt32 >>> ((0 : Int32) &&& 31).toUInt32).toInt32)), (.int (2 : Int32)), (.ref a2)])) (fun t kt => XS.iushr X2.here hx rfl (hb hby own_d1_28) rfl kt) ?_
  refine own_go (g' := (mkF m 30 #[.val (.ref a1), .val (.ref a2), .val (.int (2 : Int32)), .val (.int (0 : Int32))] [(.int (((x.toUInt32 >>> ((0 : Int32) &&& 31).toUInt32).toInt32).toInt8.toInt32)), (.int (2 : Int32)), (.ref a2)])) (fun t kt => XS.i2b X2.here hx rfl (hb hby own_d1_29) rfl kt) ?_
  refine own_bastore X2 hx hZ e2 V2 ⟨by decide, by decide⟩ 2 rfl (Nat.le_of_ble_eq_true rfl) N2 ge_a2 (g := (mkF m 30 #[.val (.ref a1), .val (.ref a2), .val (.int (2 : Int32)), .val (.int (0 : Int32))] [(.int (((x.toUInt32 >>> ((0 : Int32) &&& 31).toUInt32).toInt32).toInt8.toInt32)), (.int (2 : Int32)), (.ref a2)])) rfl rfl (hb hby own_d1_30) (fun T3 h3 L3 X3 e3 N3 W3 V3 => ?_)
  show OEnds _ _ _ _ _ _ T3 (mkF m 31 #[.val (.ref a1), .val (.ref a2), .val (.int (2 : Int32)), .val (.int (0 : Int32))] [])
  have Vn_h3 := Vn_h2.other W3 ne_a1_a2
  have K3 := K2.wr W3 (Or.inl (List.mem_of_getElem? (i := 0) rfl))
  replace V3 : Arv Z h3 a2 k2 .byte (3 : Int32) [(.int (nar .byte (((x.toUInt32 >>> ((16 : Int32) &&& 31).toUInt32).toInt32).toInt8.toInt32))), (.int (nar .byte (((x.toUInt32 >>> ((8 : Int32) &&& 31).toUInt32).toInt32).toInt8.toInt32))), (.int (nar .byte (((x.toUInt32 >>> ((0 : Int32) &&& 31).toUInt32).toInt32).toInt8.toInt32)))] (.int (0 : Int32)) := V3
  refine own_go (g' := (mkF m 34 #[.val (.ref a1), .val (.ref a2), .val (.int (3 : Int32)), .val (.int (0 : Int32))] [])) (fun t kt => XS.iinc X3.here hx rfl (hb hby own_d1_31) rfl (l' := #[.val (.ref a1), .val (.ref a2), .val (.int (3 : Int32)), .val (.int (0 : Int32))]) rfl kt) ?_
  refine own_go (g' := (mkF m 2 #[.val (.ref a1), .val (.ref a2), .val (.int (3 : Int32)), .val (.int (0 : Int32))] [])) (fun t kt => XS.goto X3.here hx rfl (pc0 := 34) (pc' := 2) rfl (hb hby own_d1_34) (by decide) (by decide) kt) ?_
  refine own_go (g' := (mkF m 3 #[.val (.ref a1), .val (.ref a2), .val (.int (3 : Int32)), .val (.int (0 : Int32))] [(.int (3 : Int32))])) (fun t kt => XS.iloadN X3.here hx rfl (hb hby own_d1_2) rfl kt) ?_
  refine own_go (g' := (mkF m 4 #[.val (.ref a1), .val (.ref a2), .val (.int (3 : Int32)), .val (.int (0 : Int32))] [(.ref a2), (.int (3 : Int32))])) (fun t kt => XS.aloadN X3.here hx rfl (hb hby own_d1_3) rfl rfl kt) ?_
  refine own_alen X3 hx hZ e3 V3 (g := (mkF m 4 #[.val (.ref a1), .val (.ref a2), .val (.int (3 : Int32)), .val (.int (0 : Int32))] [(.ref a2), (.int (3 : Int32))])) rfl rfl (hb hby own_d1_4) ?_
  show OEnds _ _ _ _ _ _ T3 (mkF m 5 #[.val (.ref a1), .val (.ref a2), .val (.int (3 : Int32)), .val (.int (0 : Int32))] [(.int (3 : Int32)), (.int (3 : Int32))])
  refine own_go (g' := (mkF m 37 #[.val (.ref a1), .val (.ref a2), .val (.int (3 : Int32)), .val (.int (0 : Int32))] [])) (fun t kt => XS.icmpYes X3.here hx rfl (pc0 := 5) (pc' := 37) rfl (hb hby own_d1_5) rfl (flt ((by decide) : ¬ ((3 : Int32) < (3 : Int32)))).2.1 (by decide) (by decide) kt) ?_
  exact own_retV X3 hx hlk hret (hb hby own_d1_37) e3 N3 (by decide) (by decide) (⟨rfl, K3, V3⟩)
theorem own_pd0 : parseMethodDescriptor "([I[B)V" = some ⟨[(.array .int), (.array .byte)], none⟩ := by decide +kernel
theorem own_pn_0 : plainFor x = true := by first | exact plainFor_of_name (by first | (simp [plainName, overriddenIn]; done) | decide +kernel) | decide +kernel
theorem own_ef_own_law (m : MethodId) (x0 : Int32) (x1 : Int32) (x2 : Int32) : entryFrame m #[(.int x0), (.int x1), (.int x2)] maxLocals = mkF m 0 #[.val (.int x0), .val (.int x1), .val (.int x2), .unset, .unset, .unset, .unset, .unset, .unset, .unset, .unset, .unset, .unset] [] := by first | (simp [entryFrame, mkF, argsToLocals, Value.category, maxLocals]; done) | rfl
set_option maxRecDepth 65536 in
set_option maxHeartbeats 40000000 in
theorem own_law (l : Launch) (Z : State) (a0 : Array Value) (hw : ∀ d ∈ tables_1, d.before a0 Z = true) (p1 p2 p3 : Int32) (h0 : Heap) (n0 : Nat) (Z0 : n0 ≤ h0.size)  :
    OCon l x code maxLocals ret room_1 Z #[(.int p1), (.int p2), (.int p3)] h0 n0 (fun v h => v = some (.int 1)) := by
  refine own_body own_pn_0 ?_
  intro p e s m below meth c T0 hx hZ hby hml hown hnm hret hlk e0 X0
  replace hml : c.maxLocals = 13 := hml
  replace hown : s.vm.findClass "com/example/clearcycle/clearcycle/MontgomeryToBytesPinLaw" = some m.cls := hown
  replace hnm : meth.name = "law" := hnm
  have N0 := Fr.nil n0
  have K0 : Keep h0 h0 [] := Keep.refl _ _
  refine own_at (own_ef_own_law m p1 p2 p3) ?_
  refine own_go (g' := (mkF m 1 #[.val (.int p1), .val (.int p2), .val (.int p3), .unset, .unset, .unset, .unset, .unset, .unset, .unset, .unset, .unset, .unset] [(.int (2 : Int32))])) (fun t kt => XS.iconst X0.here hx rfl (hb hby at_0) kt) ?_
  refine own_newarr X0 hx hZ (hw _ (List.mem_of_getElem? (i := 0) rfl)) e0 (g := (mkF m 1 #[.val (.int p1), .val (.int p2), .val (.int p3), .unset, .unset, .unset, .unset, .unset, .unset, .unset, .unset, .unset, .unset] [(.int (2 : Int32))])) rfl (hb hby at_1) rfl (by decide) (cap := 2) (by decide) (by decide) (by decide) (by decide) (fun T1 h1 b1 k1 g1 X1 e1 E1 V1 => ?_)
  show OEnds _ _ _ _ _ _ T1 (mkF m 3 #[.val (.int p1), .val (.int p2), .val (.int p3), .unset, .unset, .unset, .unset, .unset, .unset, .unset, .unset, .unset, .unset] [(.ref b1)])
  have gz_b1 : h0.size ≤ b1 := Nat.le_trans K0.1 (Nat.le_of_eq g1.symm)
  have ge_b1 : n0 ≤ b1 := Nat.le_trans Z0 gz_b1
  have K1 := K0.ext E1
  replace V1 : Arv Z h1 b1 k1 .int (2 : Int32) [(.int (0 : Int32)), (.int (0 : Int32))] (.int (0 : Int32)) := V1
  refine own_go (g' := (mkF m 4 #[.val (.int p1), .val (.int p2), .val (.int p3), .unset, .unset, .unset, .unset, .unset, .unset, .unset, .unset, .unset, .unset] [(.ref b1), (.ref b1)])) (fun t kt => XS.dup X1.here hx rfl (hb hby at_3) rfl rfl kt) ?_
  refine own_go (g' := (mkF m 5 #[.val (.int p1), .val (.int p2), .val (.int p3), .unset, .unset, .unset, .unset, .unset, .unset, .unset, .unset, .unset, .unset] [(.int (0 : Int32)), (.ref b1), (.ref b1)])) (fun t kt => XS.iconst X1.here hx rfl (hb hby at_4) kt) ?_
  refine own_go (g' := (mkF m 6 #[.val (.int p1), .val (.int p2), .val (.int p3), .unset, .unset, .unset, .unset, .unset, .unset, .unset, .unset, .unset, .unset] [(.int p1), (.int (0 : Int32)), (.ref b1), (.ref b1)])) (fun t kt => XS.iloadN X1.here hx rfl (hb hby at_5) rfl kt) ?_
  refine own_iastore X1 hx hZ e1 V1 ⟨by decide, by decide⟩ 0 rfl (Nat.le_of_ble_eq_true rfl) N0 ge_b1 (g := (mkF m 6 #[.val (.int p1), .val (.int p2), .val (.int p3), .unset, .unset, .unset, .unset, .unset, .unset, .unset, .unset, .unset, .unset] [(.int p1), (.int (0 : Int32)), (.ref b1), (.ref b1)])) rfl rfl (hb hby at_6) (fun T2 h2 L2 X2 e2 N2 W2 V2 => ?_)
  show OEnds _ _ _ _ _ _ T2 (mkF m 7 #[.val (.int p1), .val (.int p2), .val (.int p3), .unset, .unset, .unset, .unset, .unset, .unset, .unset, .unset, .unset, .unset] [(.ref b1)])
  have K2 := K1.wr W2 (Or.inr gz_b1)
  replace V2 : Arv Z h2 b1 k1 .int (2 : Int32) [(.int p1), (.int (0 : Int32))] (.int (0 : Int32)) := V2
  refine own_go (g' := (mkF m 8 #[.val (.int p1), .val (.int p2), .val (.int p3), .unset, .unset, .unset, .unset, .unset, .unset, .unset, .unset, .unset, .unset] [(.ref b1), (.ref b1)])) (fun t kt => XS.dup X2.here hx rfl (hb hby at_7) rfl rfl kt) ?_
  refine own_go (g' := (mkF m 9 #[.val (.int p1), .val (.int p2), .val (.int p3), .unset, .unset, .unset, .unset, .unset, .unset, .unset, .unset, .unset, .unset] [(.int (1 : Int32)), (.ref b1), (.ref b1)])) (fun t kt => XS.iconst X2.here hx rfl (hb hby at_8) kt) ?_
  refine own_go (g' := (mkF m 10 #[.val (.int p1), .val (.int p2), .val (.int p3), .unset, .unset, .unset, .unset, .unset, .unset, .unset, .unset, .unset, .unset] [(.int p2), (.int (1 : Int32)), (.ref b1), (.ref b1)])) (fun t kt => XS.iloadN X2.here hx rfl (hb hby at_9) rfl kt) ?_
  refine own_iastore X2 hx hZ e2 V2 ⟨by decide, by decide⟩ 1 rfl (Nat.le_of_ble_eq_true rfl) N2 ge_b1 (g := (mkF m 10 #[.val (.int p1), .val (.int p2), .val (.int p3), .unset, .unset, .unset, .unset, .unset, .unset, .unset, .unset, .unset, .unset] [(.int p2), (.int (1 : Int32)), (.ref b1), (.ref b1)])) rfl rfl (hb hby at_10) (fun T3 h3 L3 X3 e3 N3 W3 V3 => ?_)
  show OEnds _ _ _ _ _ _ T3 (mkF m 11 #[.val (.int p1), .val (.int p2), .val (.int p3), .unset, .unset, .unset, .unset, .unset, .unset, .unset, .unset, .unset, .unset] [(.ref b1)])
  have K3 := K2.wr W3 (Or.inr gz_b1)
  replace V3 : Arv Z h3 b1 k1 .int (2 : Int32) [(.int p1), (.int p2)] (.int (0 : Int32)) := V3
  refine own_go (g' := (mkF m 12 #[.val (.int p1), .val (.int p2), .val (.int p3), .val (.ref b1), .unset, .unset, .unset, .unset, .unset, .unset, .unset, .unset, .unset] [])) (fun t kt => XS.astoreN X3.here hx rfl (hb hby at_11) rfl rfl (l' := #[.val (.int p1), .val (.int p2), .val (.int p3), .val (.ref b1), .unset, .unset, .unset, .unset, .unset, .unset, .unset, .unset, .unset]) rfl kt) ?_
  refine own_go (g' := (mkF m 13 #[.val (.int p1), .val (.int p2), .val (.int p3), .val (.ref b1), .unset, .unset, .unset, .unset, .unset, .unset, .unset, .unset, .unset] [(.int p3)])) (fun t kt => XS.iloadN X3.here hx rfl (hb hby at_12) rfl kt) ?_
  refine own_go (g' := (mkF m 14 #[.val (.int p1), .val (.int p2), .val (.int p3), .val (.ref b1), .unset, .unset, .unset, .unset, .unset, .unset, .unset, .unset, .unset] [(.int (p3.toInt8.toInt32))])) (fun t kt => XS.i2b X3.here hx rfl (hb hby at_13) rfl kt) ?_
  refine own_go (g' := (mkF m 16 #[.val (.int p1), .val (.int p2), .val (.int p3), .val (.ref b1), .val (.int (p3.toInt8.toInt32)), .unset, .unset, .unset, .unset, .unset, .unset, .unset, .unset] [])) (fun t kt => XS.istore X3.here hx rfl (hb hby at_14) rfl (l' := #[.val (.int p1), .val (.int p2), .val (.int p3), .val (.ref b1), .val (.int (p3.toInt8.toInt32)), .unset, .unset, .unset, .unset, .unset, .unset, .unset, .unset]) rfl kt) ?_
  refine own_let (P := fun y4 => OEnds _ _ _ _ _ _ T3 (mkF m 16 #[.val (.int p1), .val (.int p2), .val (.int p3), .val (.ref b1), .val (.int y4), .unset, .unset, .unset, .unset, .unset, .unset, .unset, .unset] [])) (p3.toInt8.toInt32) (fun y4 hv_y4 => ?_)
  refine own_go (g' := (mkF m 18 #[.val (.int p1), .val (.int p2), .val (.int p3), .val (.ref b1), .val (.int y4), .unset, .unset, .unset, .unset, .unset, .unset, .unset, .unset] [(.int (8 : Int32))])) (fun t kt => XS.bipush X3.here hx rfl (hb hby at_16) kt) ?_
  refine own_newarr X3 hx hZ (hw _ (List.mem_of_getElem? (i := 1) rfl)) e3 (g := (mkF m 18 #[.val (.int p1), .val (.int p2), .val (.int p3), .val (.ref b1), .val (.int y4), .unset, .unset, .unset, .unset, .unset, .unset, .unset, .unset] [(.int (8 : Int32))])) rfl (hb hby at_18) rfl (by decide) (cap := 8) (by decide) (by decide) (by decide) (by decide) (fun T5 h5 b5 k5 g5 X5 e5 E5 V5 => ?_)
  show OEnds _ _ _ _ _ _ T5 (mkF m 20 #[.val (.int p1), .val (.int p2), .val (.int p3), .val (.ref b1), .val (.int y4), .unset, .unset, .unset, .unset, .unset, .unset, .unset, .unset] [(.ref b5)])
  have ne_b1_b5 : b1 ≠ b5 := Nat.ne_of_lt (Nat.lt_of_lt_of_le V3.lt (Nat.le_of_eq g5.symm))
  have V3_h5 := V3.ext E5
  have gz_b5 : h0.size ≤ b5 := Nat.le_trans K3.1 (Nat.le_of_eq g5.symm)
  have ge_b5 : n0 ≤ b5 := Nat.le_trans Z0 gz_b5
  have K5 := K3.ext E5
  replace V5 : Arv Z h5 b5 k5 .byte (8 : Int32) [(.int (0 : Int32)), (.int (0 : Int32)), (.int (0 : Int32)), (.int (0 : Int32)), (.int (0 : Int32)), (.int (0 : Int32)), (.int (0 : Int32)), (.int (0 : Int32))] (.int (0 : Int32)) := V5
  refine own_go (g' := (mkF m 21 #[.val (.int p1), .val (.int p2), .val (.int p3), .val (.ref b1), .val (.int y4), .unset, .unset, .unset, .unset, .unset, .unset, .unset, .unset] [(.ref b5), (.ref b5)])) (fun t kt => XS.dup X5.here hx rfl (hb hby at_20) rfl rfl kt) ?_
  refine own_go (g' := (mkF m 22 #[.val (.int p1), .val (.int p2), .val (.int p3), .val (.ref b1), .val (.int y4), .unset, .unset, .unset, .unset, .unset, .unset, .unset, .unset] [(.int (0 : Int32)), (.ref b5), (.ref b5)])) (fun t kt => XS.iconst X5.here hx rfl (hb hby at_21) kt) ?_
  refine own_go (g' := (mkF m 24 #[.val (.int p1), .val (.int p2), .val (.int p3), .val (.ref b1), .val (.int y4), .unset, .unset, .unset, .unset, .unset, .unset, .unset, .unset] [(.int y4), (.int (0 : Int32)), (.ref b5), (.ref b5)])) (fun t kt => XS.iload X5.here hx rfl (hb hby at_22) rfl kt) ?_
  refine own_bastore X5 hx hZ e5 V5 ⟨by decide, by decide⟩ 0 rfl (Nat.le_of_ble_eq_true rfl) N3 ge_b5 (g := (mkF m 24 #[.val (.int p1), .val (.int p2), .val (.int p3), .val (.ref b1), .val (.int y4), .unset, .unset, .unset, .unset, .unset, .unset, .unset, .unset] [(.int y4), (.int (0 : Int32)), (.ref b5), (.ref b5)])) rfl rfl (hb hby at_24) (fun T6 h6 L6 X6 e6 N6 W6 V6 => ?_)
  show OEnds _ _ _ _ _ _ T6 (mkF m 25 #[.val (.int p1), .val (.int p2), .val (.int p3), .val (.ref b1), .val (.int y4), .unset, .unset, .unset, .unset, .unset, .unset, .unset, .unset] [(.ref b5)])
  have V3_h6 := V3_h5.other W6 ne_b1_b5
  have K6 := K5.wr W6 (Or.inr gz_b5)
  replace V6 : Arv Z h6 b5 k5 .byte (8 : Int32) [(.int (nar .byte y4)), (.int (0 : Int32)), (.int (0 : Int32)), (.int (0 : Int32)), (.int (0 : Int32)), (.int (0 : Int32)), (.int (0 : Int32)), (.int (0 : Int32))] (.int (0 : Int32)) := V6
  refine own_go (g' := (mkF m 26 #[.val (.int p1), .val (.int p2), .val (.int p3), .val (.ref b1), .val (.int y4), .unset, .unset, .unset, .unset, .unset, .unset, .unset, .unset] [(.ref b5), (.ref b5)])) (fun t kt => XS.dup X6.here hx rfl (hb hby at_25) rfl rfl kt) ?_
  refine own_go (g' := (mkF m 27 #[.val (.int p1), .val (.int p2), .val (.int p3), .val (.ref b1), .val (.int y4), .unset, .unset, .unset, .unset, .unset, .unset, .unset, .unset] [(.int (1 : Int32)), (.ref b5), (.ref b5)])) (fun t kt => XS.iconst X6.here hx rfl (hb hby at_26) kt) ?_
  refine own_go (g' := (mkF m 29 #[.val (.int p1), .val (.int p2), .val (.int p3), .val (.ref b1), .val (.int y4), .unset, .unset, .unset, .unset, .unset, .unset, .unset, .unset] [(.int y4), (.int (1 : Int32)), (.ref b5), (.ref b5)])) (fun t kt => XS.iload X6.here hx rfl (hb hby at_27) rfl kt) ?_
  refine own_bastore X6 hx hZ e6 V6 ⟨by decide, by decide⟩ 1 rfl (Nat.le_of_ble_eq_true rfl) N6 ge_b5 (g := (mkF m 29 #[.val (.int p1), .val (.int p2), .val (.int p3), .val (.ref b1), .val (.int y4), .unset, .unset, .unset, .unset, .unset, .unset, .unset, .unset] [(.int y4), (.int (1 : Int32)), (.ref b5), (.ref b5)])) rfl rfl (hb hby at_29) (fun T7 h7 L7 X7 e7 N7 W7 V7 => ?_)
  show OEnds _ _ _ _ _ _ T7 (mkF m 30 #[.val (.int p1), .val (.int p2), .val (.int p3), .val (.ref b1), .val (.int y4), .unset, .unset, .unset, .unset, .unset, .unset, .unset, .unset] [(.ref b5)])
  have V3_h7 := V3_h6.other W7 ne_b1_b5
  have K7 := K6.wr W7 (Or.inr gz_b5)
  replace V7 : Arv Z h7 b5 k5 .byte (8 : Int32) [(.int (nar .byte y4)), (.int (nar .byte y4)), (.int (0 : Int32)), (.int (0 : Int32)), (.int (0 : Int32)), (.int (0 : Int32)), (.int (0 : Int32)), (.int (0 : Int32))] (.int (0 : Int32)) := V7
  refine own_go (g' := (mkF m 31 #[.val (.int p1), .val (.int p2), .val (.int p3), .val (.ref b1), .val (.int y4), .unset, .unset, .unset, .unset, .unset, .unset, .unset, .unset] [(.ref b5), (.ref b5)])) (fun t kt => XS.dup X7.here hx rfl (hb hby at_30) rfl rfl kt) ?_
  refine own_go (g' := (mkF m 32 #[.val (.int p1), .val (.int p2), .val (.int p3), .val (.ref b1), .val (.int y4), .unset, .unset, .unset, .unset, .unset, .unset, .unset, .unset] [(.int (2 : Int32)), (.ref b5), (.ref b5)])) (fun t kt => XS.iconst X7.here hx rfl (hb hby at_31) kt) ?_
  refine own_go (g' := (mkF m 34 #[.val (.int p1), .val (.int p2), .val (.int p3), .val (.ref b1), .val (.int y4), .unset, .unset, .unset, .unset, .unset, .unset, .unset, .unset] [(.int y4), (.int (2 : Int32)), (.ref b5), (.ref b5)])) (fun t kt => XS.iload X7.here hx rfl (hb hby at_32) rfl kt) ?_
  refine own_bastore X7 hx hZ e7 V7 ⟨by decide, by decide⟩ 2 rfl (Nat.le_of_ble_eq_true rfl) N7 ge_b5 (g := (mkF m 34 #[.val (.int p1), .val (.int p2), .val (.int p3), .val (.ref b1), .val (.int y4), .unset, .unset, .unset, .unset, .unset, .unset, .unset, .unset] [(.int y4), (.int (2 : Int32)), (.ref b5), (.ref b5)])) rfl rfl (hb hby at_34) (fun T8 h8 L8 X8 e8 N8 W8 V8 => ?_)
  show OEnds _ _ _ _ _ _ T8 (mkF m 35 #[.val (.int p1), .val (.int p2), .val (.int p3), .val (.ref b1), .val (.int y4), .unset, .unset, .unset, .unset, .unset, .unset, .unset, .unset] [(.ref b5)])
  have V3_h8 := V3_h7.other W8 ne_b1_b5
  have K8 := K7.wr W8 (Or.inr gz_b5)
  replace V8 : Arv Z h8 b5 k5 .byte (8 : Int32) [(.int (nar .byte y4)), (.int (nar .byte y4)), (.int (nar .byte y4)), (.int (0 : Int32)), (.int (0 : Int32)), (.int (0 : Int32)), (.int (0 : Int32)), (.int (0 : Int32))] (.int (0 : Int32)) := V8
  refine own_go (g' := (mkF m 36 #[.val (.int p1), .val (.int p2), .val (.int p3), .val (.ref b1), .val (.int y4), .unset, .unset, .unset, .unset, .unset, .unset, .unset, .unset] [(.ref b5), (.ref b5)])) (fun t kt => XS.dup X8.here hx rfl (hb hby at_35) rfl rfl kt) ?_
  refine own_go (g' := (mkF m 37 #[.val (.int p1), .val (.int p2), .val (.int p3), .val (.ref b1), .val (.int y4), .unset, .unset, .unset, .unset, .unset, .unset, .unset, .unset] [(.int (3 : Int32)), (.ref b5), (.ref b5)])) (fun t kt => XS.iconst X8.here hx rfl (hb hby at_36) kt) ?_
  refine own_go (g' := (mkF m 39 #[.val (.int p1), .val (.int p2), .val (.int p3), .val (.ref b1), .val (.int y4), .unset, .unset, .unset, .unset, .unset, .unset, .unset, .unset] [(.int y4), (.int (3 : Int32)), (.ref b5), (.ref b5)])) (fun t kt => XS.iload X8.here hx rfl (hb hby at_37) rfl kt) ?_
  refine own_bastore X8 hx hZ e8 V8 ⟨by decide, by decide⟩ 3 rfl (Nat.le_of_ble_eq_true rfl) N8 ge_b5 (g := (mkF m 39 #[.val (.int p1), .val (.int p2), .val (.int p3), .val (.ref b1), .val (.int y4), .unset, .unset, .unset, .unset, .unset, .unset, .unset, .unset] [(.int y4), (.int (3 : Int32)), (.ref b5), (.ref b5)])) rfl rfl (hb hby at_39) (fun T9 h9 L9 X9 e9 N9 W9 V9 => ?_)
  show OEnds _ _ _ _ _ _ T9 (mkF m 40 #[.val (.int p1), .val (.int p2), .val (.int p3), .val (.ref b1), .val (.int y4), .unset, .unset, .unset, .unset, .unset, .unset, .unset, .unset] [(.ref b5)])
  have V3_h9 := V3_h8.other W9 ne_b1_b5
  have K9 := K8.wr W9 (Or.inr gz_b5)
  replace V9 : Arv Z h9 b5 k5 .byte (8 : Int32) [(.int (nar .byte y4)), (.int (nar .byte y4)), (.int (nar .byte y4)), (.int (nar .byte y4)), (.int (0 : Int32)), (.int (0 : Int32)), (.int (0 : Int32)), (.int (0 : Int32))] (.int (0 : Int32)) := V9
  refine own_go (g' := (mkF m 41 #[.val (.int p1), .val (.int p2), .val (.int p3), .val (.ref b1), .val (.int y4), .unset, .unset, .unset, .unset, .unset, .unset, .unset, .unset] [(.ref b5), (.ref b5)])) (fun t kt => XS.dup X9.here hx rfl (hb hby at_40) rfl rfl kt) ?_
  refine own_go (g' := (mkF m 42 #[.val (.int p1), .val (.int p2), .val (.int p3), .val (.ref b1), .val (.int y4), .unset, .unset, .unset, .unset, .unset, .unset, .unset, .unset] [(.int (4 : Int32)), (.ref b5), (.ref b5)])) (fun t kt => XS.iconst X9.here hx rfl (hb hby at_41) kt) ?_
  refine own_go (g' := (mkF m 44 #[.val (.int p1), .val (.int p2), .val (.int p3), .val (.ref b1), .val (.int y4), .unset, .unset, .unset, .unset, .unset, .unset, .unset, .unset] [(.int y4), (.int (4 : Int32)), (.ref b5), (.ref b5)])) (fun t kt => XS.iload X9.here hx rfl (hb hby at_42) rfl kt) ?_
  refine own_bastore X9 hx hZ e9 V9 ⟨by decide, by decide⟩ 4 rfl (Nat.le_of_ble_eq_true rfl) N9 ge_b5 (g := (mkF m 44 #[.val (.int p1), .val (.int p2), .val (.int p3), .val (.ref b1), .val (.int y4), .unset, .unset, .unset, .unset, .unset, .unset, .unset, .unset] [(.int y4), (.int (4 : Int32)), (.ref b5), (.ref b5)])) rfl rfl (hb hby at_44) (fun T10 h10 L10 X10 e10 N10 W10 V10 => ?_)
  show OEnds _ _ _ _ _ _ T10 (mkF m 45 #[.val (.int p1), .val (.int p2), .val (.int p3), .val (.ref b1), .val (.int y4), .unset, .unset, .unset, .unset, .unset, .unset, .unset, .unset] [(.ref b5)])
  have V3_h10 := V3_h9.other W10 ne_b1_b5
  have K10 := K9.wr W10 (Or.inr gz_b5)
  replace V10 : Arv Z h10 b5 k5 .byte (8 : Int32) [(.int (nar .byte y4)), (.int (nar .byte y4)), (.int (nar .byte y4)), (.int (nar .byte y4)), (.int (nar .byte y4)), (.int (0 : Int32)), (.int (0 : Int32)), (.int (0 : Int32))] (.int (0 : Int32)) := V10
  refine own_go (g' := (mkF m 46 #[.val (.int p1), .val (.int p2), .val (.int p3), .val (.ref b1), .val (.int y4), .unset, .unset, .unset, .unset, .unset, .unset, .unset, .unset] [(.ref b5), (.ref b5)])) (fun t kt => XS.dup X10.here hx rfl (hb hby at_45) rfl rfl kt) ?_
  refine own_go (g' := (mkF m 47 #[.val (.int p1), .val (.int p2), .val (.int p3), .val (.ref b1), .val (.int y4), .unset, .unset, .unset, .unset, .unset, .unset, .unset, .unset] [(.int (5 : Int32)), (.ref b5), (.ref b5)])) (fun t kt => XS.iconst X10.here hx rfl (hb hby at_46) kt) ?_
  refine own_go (g' := (mkF m 49 #[.val (.int p1), .val (.int p2), .val (.int p3), .val (.ref b1), .val (.int y4), .unset, .unset, .unset, .unset, .unset, .unset, .unset, .unset] [(.int y4), (.int (5 : Int32)), (.ref b5), (.ref b5)])) (fun t kt => XS.iload X10.here hx rfl (hb hby at_47) rfl kt) ?_
  refine own_bastore X10 hx hZ e10 V10 ⟨by decide, by decide⟩ 5 rfl (Nat.le_of_ble_eq_true rfl) N10 ge_b5 (g := (mkF m 49 #[.val (.int p1), .val (.int p2), .val (.int p3), .val (.ref b1), .val (.int y4), .unset, .unset, .unset, .unset, .unset, .unset, .unset, .unset] [(.int y4), (.int (5 : Int32)), (.ref b5), (.ref b5)])) rfl rfl (hb hby at_49) (fun T11 h11 L11 X11 e11 N11 W11 V11 => ?_)
  show OEnds _ _ _ _ _ _ T11 (mkF m 50 #[.val (.int p1), .val (.int p2), .val (.int p3), .val (.ref b1), .val (.int y4), .unset, .unset, .unset, .unset, .unset, .unset, .unset, .unset] [(.ref b5)])
  have V3_h11 := V3_h10.other W11 ne_b1_b5
  have K11 := K10.wr W11 (Or.inr gz_b5)
  replace V11 : Arv Z h11 b5 k5 .byte (8 : Int32) [(.int (nar .byte y4)), (.int (nar .byte y4)), (.int (nar .byte y4)), (.int (nar .byte y4)), (.int (nar .byte y4)), (.int (nar .byte y4)), (.int (0 : Int32)), (.int (0 : Int32))] (.int (0 : Int32)) := V11
  refine own_go (g' := (mkF m 51 #[.val (.int p1), .val (.int p2), .val (.int p3), .val (.ref b1), .val (.int y4), .unset, .unset, .unset, .unset, .unset, .unset, .unset, .unset] [(.ref b5), (.ref b5)])) (fun t kt => XS.dup X11.here hx rfl (hb hby at_50) rfl rfl kt) ?_
  refine own_go (g' := (mkF m 53 #[.val (.int p1), .val (.int p2), .val (.int p3), .val (.ref b1), .val (.int y4), .unset, .unset, .unset, .unset, .unset, .unset, .unset, .unset] [(.int (6 : Int32)), (.ref b5), (.ref b5)])) (fun t kt => XS.bipush X11.here hx rfl (hb hby at_51) kt) ?_
  refine own_go (g' := (mkF m 55 #[.val (.int p1), .val (.int p2), .val (.int p3), .val (.ref b1), .val (.int y4), .unset, .unset, .unset, .unset, .unset, .unset, .unset, .unset] [(.int y4), (.int (6 : Int32)), (.ref b5), (.ref b5)])) (fun t kt => XS.iload X11.here hx rfl (hb hby at_53) rfl kt) ?_
  refine own_bastore X11 hx hZ e11 V11 ⟨by decide, by decide⟩ 6 rfl (Nat.le_of_ble_eq_true rfl) N11 ge_b5 (g := (mkF m 55 #[.val (.int p1), .val (.int p2), .val (.int p3), .val (.ref b1), .val (.int y4), .unset, .unset, .unset, .unset, .unset, .unset, .unset, .unset] [(.int y4), (.int (6 : Int32)), (.ref b5), (.ref b5)])) rfl rfl (hb hby at_55) (fun T12 h12 L12 X12 e12 N12 W12 V12 => ?_)
  show OEnds _ _ _ _ _ _ T12 (mkF m 56 #[.val (.int p1), .val (.int p2), .val (.int p3), .val (.ref b1), .val (.int y4), .unset, .unset, .unset, .unset, .unset, .unset, .unset, .unset] [(.ref b5)])
  have V3_h12 := V3_h11.other W12 ne_b1_b5
  have K12 := K11.wr W12 (Or.inr gz_b5)
  replace V12 : Arv Z h12 b5 k5 .byte (8 : Int32) [(.int (nar .byte y4)), (.int (nar .byte y4)), (.int (nar .byte y4)), (.int (nar .byte y4)), (.int (nar .byte y4)), (.int (nar .byte y4)), (.int (nar .byte y4)), (.int (0 : Int32))] (.int (0 : Int32)) := V12
  refine own_go (g' := (mkF m 57 #[.val (.int p1), .val (.int p2), .val (.int p3), .val (.ref b1), .val (.int y4), .unset, .unset, .unset, .unset, .unset, .unset, .unset, .unset] [(.ref b5), (.ref b5)])) (fun t kt => XS.dup X12.here hx rfl (hb hby at_56) rfl rfl kt) ?_
  refine own_go (g' := (mkF m 59 #[.val (.int p1), .val (.int p2), .val (.int p3), .val (.ref b1), .val (.int y4), .unset, .unset, .unset, .unset, .unset, .unset, .unset, .unset] [(.int (7 : Int32)), (.ref b5), (.ref b5)])) (fun t kt => XS.bipush X12.here hx rfl (hb hby at_57) kt) ?_
  refine own_go (g' := (mkF m 61 #[.val (.int p1), .val (.int p2), .val (.int p3), .val (.ref b1), .val (.int y4), .unset, .unset, .unset, .unset, .unset, .unset, .unset, .unset] [(.int y4), (.int (7 : Int32)), (.ref b5), (.ref b5)])) (fun t kt => XS.iload X12.here hx rfl (hb hby at_59) rfl kt) ?_
  refine own_bastore X12 hx hZ e12 V12 ⟨by decide, by decide⟩ 7 rfl (Nat.le_of_ble_eq_true rfl) N12 ge_b5 (g := (mkF m 61 #[.val (.int p1), .val (.int p2), .val (.int p3), .val (.ref b1), .val (.int y4), .unset, .unset, .unset, .unset, .unset, .unset, .unset, .unset] [(.int y4), (.int (7 : Int32)), (.ref b5), (.ref b5)])) rfl rfl (hb hby at_61) (fun T13 h13 L13 X13 e13 N13 W13 V13 => ?_)
  show OEnds _ _ _ _ _ _ T13 (mkF m 62 #[.val (.int p1), .val (.int p2), .val (.int p3), .val (.ref b1), .val (.int y4), .unset, .unset, .unset, .unset, .unset, .unset, .unset, .unset] [(.ref b5)])
  have V3_h13 := V3_h12.other W13 ne_b1_b5
  have K13 := K12.wr W13 (Or.inr gz_b5)
  replace V13 : Arv Z h13 b5 k5 .byte (8 : Int32) [(.int (nar .byte y4)), (.int (nar .byte y4)), (.int (nar .byte y4)), (.int (nar .byte y4)), (.int (nar .byte y4)), (.int (nar .byte y4)), (.int (nar .byte y4)), (.int (nar .byte y4))] (.int (0 : Int32)) := V13
  refine own_go (g' := (mkF m 64 #[.val (.int p1), .val (.int p2), .val (.int p3), .val (.ref b1), .val (.int y4), .val (.ref b5), .unset, .unset, .unset, .unset, .unset, .unset, .unset] [])) (fun t kt => XS.astore X13.here hx rfl (hb hby at_62) rfl rfl (l' := #[.val (.int p1), .val (.int p2), .val (.int p3), .val (.ref b1), .val (.int y4), .val (.ref b5), .unset, .unset, .unset, .unset, .unset, .unset, .unset]) rfl kt) ?_
  refine own_go (g' := (mkF m 65 #[.val (.int p1), .val (.int p2), .val (.int p3), .val (.ref b1), .val (.int y4), .val (.ref b5), .unset, .unset, .unset, .unset, .unset, .unset, .unset] [(.int (5 : Int32))])) (fun t kt => XS.iconst X13.here hx rfl (hb hby at_64) kt) ?_
  refine own_newarr X13 hx hZ (hw _ (List.mem_of_getElem? (i := 1) rfl)) e13 (g := (mkF m 65 #[.val (.int p1), .val (.int p2), .val (.int p3), .val (.ref b1), .val (.int y4), .val (.ref b5), .unset, .unset, .unset, .unset, .unset, .unset, .unset] [(.int (5 : Int32))])) rfl (hb hby at_65) rfl (by decide) (cap := 5) (by decide) (by decide) (by decide) (by decide) (fun T14 h14 b14 k14 g14 X14 e14 E14 V14 => ?_)
  show OEnds _ _ _ _ _ _ T14 (mkF m 67 #[.val (.int p1), .val (.int p2), .val (.int p3), .val (.ref b1), .val (.int y4), .val (.ref b5), .unset, .unset, .unset, .unset, .unset, .unset, .unset] [(.ref b14)])
  have ne_b1_b14 : b1 ≠ b14 := Nat.ne_of_lt (Nat.lt_of_lt_of_le V3_h13.lt (Nat.le_of_eq g14.symm))
  have ne_b5_b14 : b5 ≠ b14 := Nat.ne_of_lt (Nat.lt_of_lt_of_le V13.lt (Nat.le_of_eq g14.symm))
  have V3_h14 := V3_h13.ext E14
  have V13_h14 := V13.ext E14
  have gz_b14 : h0.size ≤ b14 := Nat.le_trans K13.1 (Nat.le_of_eq g14.symm)
  have ge_b14 : n0 ≤ b14 := Nat.le_trans Z0 gz_b14
  have K14 := K13.ext E14
  replace V14 : Arv Z h14 b14 k14 .byte (5 : Int32) [(.int (0 : Int32)), (.int (0 : Int32)), (.int (0 : Int32)), (.int (0 : Int32)), (.int (0 : Int32))] (.int (0 : Int32)) := V14
  refine own_go (g' := (mkF m 68 #[.val (.int p1), .val (.int p2), .val (.int p3), .val (.ref b1), .val (.int y4), .val (.ref b5), .unset, .unset, .unset, .unset, .unset, .unset, .unset] [(.ref b14), (.ref b14)])) (fun t kt => XS.dup X14.here hx rfl (hb hby at_67) rfl rfl kt) ?_
  refine own_go (g' := (mkF m 69 #[.val (.int p1), .val (.int p2), .val (.int p3), .val (.ref b1), .val (.int y4), .val (.ref b5), .unset, .unset, .unset, .unset, .unset, .unset, .unset] [(.int (0 : Int32)), (.ref b14), (.ref b14)])) (fun t kt => XS.iconst X14.here hx rfl (hb hby at_68) kt) ?_
  refine own_go (g' := (mkF m 71 #[.val (.int p1), .val (.int p2), .val (.int p3), .val (.ref b1), .val (.int y4), .val (.ref b5), .unset, .unset, .unset, .unset, .unset, .unset, .unset] [(.int y4), (.int (0 : Int32)), (.ref b14), (.ref b14)])) (fun t kt => XS.iload X14.here hx rfl (hb hby at_69) rfl kt) ?_
  refine own_bastore X14 hx hZ e14 V14 ⟨by decide, by decide⟩ 0 rfl (Nat.le_of_ble_eq_true rfl) N13 ge_b14 (g := (mkF m 71 #[.val (.int p1), .val (.int p2), .val (.int p3), .val (.ref b1), .val (.int y4), .val (.ref b5), .unset, .unset, .unset, .unset, .unset, .unset, .unset] [(.int y4), (.int (0 : Int32)), (.ref b14), (.ref b14)])) rfl rfl (hb hby at_71) (fun T15 h15 L15 X15 e15 N15 W15 V15 => ?_)
  show OEnds _ _ _ _ _ _ T15 (mkF m 72 #[.val (.int p1), .val (.int p2), .val (.int p3), .val (.ref b1), .val (.int y4), .val (.ref b5), .unset, .unset, .unset, .unset, .unset, .unset, .unset] [(.ref b14)])
  have V3_h15 := V3_h14.other W15 ne_b1_b14
  have V13_h15 := V13_h14.other W15 ne_b5_b14
  have K15 := K14.wr W15 (Or.inr gz_b14)
  replace V15 : Arv Z h15 b14 k14 .byte (5 : Int32) [(.int (nar .byte y4)), (.int (0 : Int32)), (.int (0 : Int32)), (.int (0 : Int32)), (.int (0 : Int32))] (.int (0 : Int32)) := V15
  refine own_go (g' := (mkF m 73 #[.val (.int p1), .val (.int p2), .val (.int p3), .val (.ref b1), .val (.int y4), .val (.ref b5), .unset, .unset, .unset, .unset, .unset, .unset, .unset] [(.ref b14), (.ref b14)])) (fun t kt => XS.dup X15.here hx rfl (hb hby at_72) rfl rfl kt) ?_
  refine own_go (g' := (mkF m 74 #[.val (.int p1), .val (.int p2), .val (.int p3), .val (.ref b1), .val (.int y4), .val (.ref b5), .unset, .unset, .unset, .unset, .unset, .unset, .unset] [(.int (1 : Int32)), (.ref b14), (.ref b14)])) (fun t kt => XS.iconst X15.here hx rfl (hb hby at_73) kt) ?_
  refine own_go (g' := (mkF m 76 #[.val (.int p1), .val (.int p2), .val (.int p3), .val (.ref b1), .val (.int y4), .val (.ref b5), .unset, .unset, .unset, .unset, .unset, .unset, .unset] [(.int y4), (.int (1 : Int32)), (.ref b14), (.ref b14)])) (fun t kt => XS.iload X15.here hx rfl (hb hby at_74) rfl kt) ?_
  refine own_bastore X15 hx hZ e15 V15 ⟨by decide, by decide⟩ 1 rfl (Nat.le_of_ble_eq_true rfl) N15 ge_b14 (g := (mkF m 76 #[.val (.int p1), .val (.int p2), .val (.int p3), .val (.ref b1), .val (.int y4), .val (.ref b5), .unset, .unset, .unset, .unset, .unset, .unset, .unset] [(.int y4), (.int (1 : Int32)), (.ref b14), (.ref b14)])) rfl rfl (hb hby at_76) (fun T16 h16 L16 X16 e16 N16 W16 V16 => ?_)
  show OEnds _ _ _ _ _ _ T16 (mkF m 77 #[.val (.int p1), .val (.int p2), .val (.int p3), .val (.ref b1), .val (.int y4), .val (.ref b5), .unset, .unset, .unset, .unset, .unset, .unset, .unset] [(.ref b14)])
  have V3_h16 := V3_h15.other W16 ne_b1_b14
  have V13_h16 := V13_h15.other W16 ne_b5_b14
  have K16 := K15.wr W16 (Or.inr gz_b14)
  replace V16 : Arv Z h16 b14 k14 .byte (5 : Int32) [(.int (nar .byte y4)), (.int (nar .byte y4)), (.int (0 : Int32)), (.int (0 : Int32)), (.int (0 : Int32))] (.int (0 : Int32)) := V16
  refine own_go (g' := (mkF m 78 #[.val (.int p1), .val (.int p2), .val (.int p3), .val (.ref b1), .val (.int y4), .val (.ref b5), .unset, .unset, .unset, .unset, .unset, .unset, .unset] [(.ref b14), (.ref b14)])) (fun t kt => XS.dup X16.here hx rfl (hb hby at_77) rfl rfl kt) ?_
  refine own_go (g' := (mkF m 79 #[.val (.int p1), .val (.int p2), .val (.int p3), .val (.ref b1), .val (.int y4), .val (.ref b5), .unset, .unset, .unset, .unset, .unset, .unset, .unset] [(.int (2 : Int32)), (.ref b14), (.ref b14)])) (fun t kt => XS.iconst X16.here hx rfl (hb hby at_78) kt) ?_
  refine own_go (g' := (mkF m 81 #[.val (.int p1), .val (.int p2), .val (.int p3), .val (.ref b1), .val (.int y4), .val (.ref b5), .unset, .unset, .unset, .unset, .unset, .unset, .unset] [(.int y4), (.int (2 : Int32)), (.ref b14), (.ref b14)])) (fun t kt => XS.iload X16.here hx rfl (hb hby at_79) rfl kt) ?_
  refine own_bastore X16 hx hZ e16 V16 ⟨by decide, by decide⟩ 2 rfl (Nat.le_of_ble_eq_true rfl) N16 ge_b14 (g := (mkF m 81 #[.val (.int p1), .val (.int p2), .val (.int p3), .val (.ref b1), .val (.int y4), .val (.ref b5), .unset, .unset, .unset, .unset, .unset, .unset, .unset] [(.int y4), (.int (2 : Int32)), (.ref b14), (.ref b14)])) rfl rfl (hb hby at_81) (fun T17 h17 L17 X17 e17 N17 W17 V17 => ?_)
  show OEnds _ _ _ _ _ _ T17 (mkF m 82 #[.val (.int p1), .val (.int p2), .val (.int p3), .val (.ref b1), .val (.int y4), .val (.ref b5), .unset, .unset, .unset, .unset, .unset, .unset, .unset] [(.ref b14)])
  have V3_h17 := V3_h16.other W17 ne_b1_b14
  have V13_h17 := V13_h16.other W17 ne_b5_b14
  have K17 := K16.wr W17 (Or.inr gz_b14)
  replace V17 : Arv Z h17 b14 k14 .byte (5 : Int32) [(.int (nar .byte y4)), (.int (nar .byte y4)), (.int (nar .byte y4)), (.int (0 : Int32)), (.int (0 : Int32))] (.int (0 : Int32)) := V17
  refine own_go (g' := (mkF m 83 #[.val (.int p1), .val (.int p2), .val (.int p3), .val (.ref b1), .val (.int y4), .val (.ref b5), .unset, .unset, .unset, .unset, .unset, .unset, .unset] [(.ref b14), (.ref b14)])) (fun t kt => XS.dup X17.here hx rfl (hb hby at_82) rfl rfl kt) ?_
  refine own_go (g' := (mkF m 84 #[.val (.int p1), .val (.int p2), .val (.int p3), .val (.ref b1), .val (.int y4), .val (.ref b5), .unset, .unset, .unset, .unset, .unset, .unset, .unset] [(.int (3 : Int32)), (.ref b14), (.ref b14)])) (fun t kt => XS.iconst X17.here hx rfl (hb hby at_83) kt) ?_
  refine own_go (g' := (mkF m 86 #[.val (.int p1), .val (.int p2), .val (.int p3), .val (.ref b1), .val (.int y4), .val (.ref b5), .unset, .unset, .unset, .unset, .unset, .unset, .unset] [(.int y4), (.int (3 : Int32)), (.ref b14), (.ref b14)])) (fun t kt => XS.iload X17.here hx rfl (hb hby at_84) rfl kt) ?_
  refine own_bastore X17 hx hZ e17 V17 ⟨by decide, by decide⟩ 3 rfl (Nat.le_of_ble_eq_true rfl) N17 ge_b14 (g := (mkF m 86 #[.val (.int p1), .val (.int p2), .val (.int p3), .val (.ref b1), .val (.int y4), .val (.ref b5), .unset, .unset, .unset, .unset, .unset, .unset, .unset] [(.int y4), (.int (3 : Int32)), (.ref b14), (.ref b14)])) rfl rfl (hb hby at_86) (fun T18 h18 L18 X18 e18 N18 W18 V18 => ?_)
  show OEnds _ _ _ _ _ _ T18 (mkF m 87 #[.val (.int p1), .val (.int p2), .val (.int p3), .val (.ref b1), .val (.int y4), .val (.ref b5), .unset, .unset, .unset, .unset, .unset, .unset, .unset] [(.ref b14)])
  have V3_h18 := V3_h17.other W18 ne_b1_b14
  have V13_h18 := V13_h17.other W18 ne_b5_b14
  have K18 := K17.wr W18 (Or.inr gz_b14)
  replace V18 : Arv Z h18 b14 k14 .byte (5 : Int32) [(.int (nar .byte y4)), (.int (nar .byte y4)), (.int (nar .byte y4)), (.int (nar .byte y4)), (.int (0 : Int32))] (.int (0 : Int32)) := V18
  refine own_go (g' := (mkF m 88 #[.val (.int p1), .val (.int p2), .val (.int p3), .val (.ref b1), .val (.int y4), .val (.ref b5), .unset, .unset, .unset, .unset, .unset, .unset, .unset] [(.ref b14), (.ref b14)])) (fun t kt => XS.dup X18.here hx rfl (hb hby at_87) rfl rfl kt) ?_
  refine own_go (g' := (mkF m 89 #[.val (.int p1), .val (.int p2), .val (.int p3), .val (.ref b1), .val (.int y4), .val (.ref b5), .unset, .unset, .unset, .unset, .unset, .unset, .unset] [(.int (4 : Int32)), (.ref b14), (.ref b14)])) (fun t kt => XS.iconst X18.here hx rfl (hb hby at_88) kt) ?_
  refine own_go (g' := (mkF m 91 #[.val (.int p1), .val (.int p2), .val (.int p3), .val (.ref b1), .val (.int y4), .val (.ref b5), .unset, .unset, .unset, .unset, .unset, .unset, .unset] [(.int y4), (.int (4 : Int32)), (.ref b14), (.ref b14)])) (fun t kt => XS.iload X18.here hx rfl (hb hby at_89) rfl kt) ?_
  refine own_bastore X18 hx hZ e18 V18 ⟨by decide, by decide⟩ 4 rfl (Nat.le_of_ble_eq_true rfl) N18 ge_b14 (g := (mkF m 91 #[.val (.int p1), .val (.int p2), .val (.int p3), .val (.ref b1), .val (.int y4), .val (.ref b5), .unset, .unset, .unset, .unset, .unset, .unset, .unset] [(.int y4), (.int (4 : Int32)), (.ref b14), (.ref b14)])) rfl rfl (hb hby at_91) (fun T19 h19 L19 X19 e19 N19 W19 V19 => ?_)
  show OEnds _ _ _ _ _ _ T19 (mkF m 92 #[.val (.int p1), .val (.int p2), .val (.int p3), .val (.ref b1), .val (.int y4), .val (.ref b5), .unset, .unset, .unset, .unset, .unset, .unset, .unset] [(.ref b14)])
  have V3_h19 := V3_h18.other W19 ne_b1_b14
  have V13_h19 := V13_h18.other W19 ne_b5_b14
  have K19 := K18.wr W19 (Or.inr gz_b14)
  replace V19 : Arv Z h19 b14 k14 .byte (5 : Int32) [(.int (nar .byte y4)), (.int (nar .byte y4)), (.int (nar .byte y4)), (.int (nar .byte y4)), (.int (nar .byte y4))] (.int (0 : Int32)) := V19
  refine own_go (g' := (mkF m 94 #[.val (.int p1), .val (.int p2), .val (.int p3), .val (.ref b1), .val (.int y4), .val (.ref b5), .val (.ref b14), .unset, .unset, .unset, .unset, .unset, .unset] [])) (fun t kt => XS.astore X19.here hx rfl (hb hby at_92) rfl rfl (l' := #[.val (.int p1), .val (.int p2), .val (.int p3), .val (.ref b1), .val (.int y4), .val (.ref b5), .val (.ref b14), .unset, .unset, .unset, .unset, .unset, .unset]) rfl kt) ?_
  refine own_go (g' := (mkF m 95 #[.val (.int p1), .val (.int p2), .val (.int p3), .val (.ref b1), .val (.int y4), .val (.ref b5), .val (.ref b14), .unset, .unset, .unset, .unset, .unset, .unset] [(.int (3 : Int32))])) (fun t kt => XS.iconst X19.here hx rfl (hb hby at_94) kt) ?_
  refine own_newarr X19 hx hZ (hw _ (List.mem_of_getElem? (i := 1) rfl)) e19 (g := (mkF m 95 #[.val (.int p1), .val (.int p2), .val (.int p3), .val (.ref b1), .val (.int y4), .val (.ref b5), .val (.ref b14), .unset, .unset, .unset, .unset, .unset, .unset] [(.int (3 : Int32))])) rfl (hb hby at_95) rfl (by decide) (cap := 3) (by decide) (by decide) (by decide) (by decide) (fun T20 h20 b20 k20 g20 X20 e20 E20 V20 => ?_)
  show OEnds _ _ _ _ _ _ T20 (mkF m 97 #[.val (.int p1), .val (.int p2), .val (.int p3), .val (.ref b1), .val (.int y4), .val (.ref b5), .val (.ref b14), .unset, .unset, .unset, .unset, .unset, .unset] [(.ref b20)])
  have ne_b1_b20 : b1 ≠ b20 := Nat.ne_of_lt (Nat.lt_of_lt_of_le V3_h19.lt (Nat.le_of_eq g20.symm))
  have ne_b5_b20 : b5 ≠ b20 := Nat.ne_of_lt (Nat.lt_of_lt_of_le V13_h19.lt (Nat.le_of_eq g20.symm))
  have ne_b14_b20 : b14 ≠ b20 := Nat.ne_of_lt (Nat.lt_of_lt_of_le V19.lt (Nat.le_of_eq g20.symm))
  have V3_h20 := V3_h19.ext E20
  have V13_h20 := V13_h19.ext E20
  have V19_h20 := V19.ext E20
  have gz_b20 : h0.size ≤ b20 := Nat.le_trans K19.1 (Nat.le_of_eq g20.symm)
  have ge_b20 : n0 ≤ b20 := Nat.le_trans Z0 gz_b20
  have K20 := K19.ext E20
  replace V20 : Arv Z h20 b20 k20 .byte (3 : Int32) [(.int (0 : Int32)), (.int (0 : Int32)), (.int (0 : Int32))] (.int (0 : Int32)) := V20
  refine own_go (g' := (mkF m 98 #[.val (.int p1), .val (.int p2), .val (.int p3), .val (.ref b1), .val (.int y4), .val (.ref b5), .val (.ref b14), .unset, .unset, .unset, .unset, .unset, .unset] [(.ref b20), (.ref b20)])) (fun t kt => XS.dup X20.here hx rfl (hb hby at_97) rfl rfl kt) ?_
  refine own_go (g' := (mkF m 99 #[.val (.int p1), .val (.int p2), .val (.int p3), .val (.ref b1), .val (.int y4), .val (.ref b5), .val (.ref b14), .unset, .unset, .unset, .unset, .unset, .unset] [(.int (0 : Int32)), (.ref b20), (.ref b20)])) (fun t kt => XS.iconst X20.here hx rfl (hb hby at_98) kt) ?_
  refine own_go (g' := (mkF m 101 #[.val (.int p1), .val (.int p2), .val (.int p3), .val (.ref b1), .val (.int y4), .val (.ref b5), .val (.ref b14), .unset, .unset, .unset, .unset, .unset, .unset] [(.int y4), (.int (0 : Int32)), (.ref b20), (.ref b20)])) (fun t kt => XS.iload X20.here hx rfl (hb hby at_99) rfl kt) ?_
  refine own_bastore X20 hx hZ e20 V20 ⟨by decide, by decide⟩ 0 rfl (Nat.le_of_ble_eq_true rfl) N19 ge_b20 (g := (mkF m 101 #[.val (.int p1), .val (.int p2), .val (.int p3), .val (.ref b1), .val (.int y4), .val (.ref b5), .val (.ref b14), .unset, .unset, .unset, .unset, .unset, .unset] [(.int y4), (.int (0 : Int32)), (.ref b20), (.ref b20)])) rfl rfl (hb hby at_101) (fun T21 h21 L21 X21 e21 N21 W21 V21 => ?_)
  show OEnds _ _ _ _ _ _ T21 (mkF m 102 #[.val (.int p1), .val (.int p2), .val (.int p3), .val (.ref b1), .val (.int y4), .val (.ref b5), .val (.ref b14), .unset, .unset, .unset, .unset, .unset, .unset] [(.ref b20)])
  have V3_h21 := V3_h20.other W21 ne_b1_b20
  have V13_h21 := V13_h20.other W21 ne_b5_b20
  have V19_h21 := V19_h20.other W21 ne_b14_b20
  have K21 := K20.wr W21 (Or.inr gz_b20)
  replace V21 : Arv Z h21 b20 k20 .byte (3 : Int32) [(.int (nar .byte y4)), (.int (0 : Int32)), (.int (0 : Int32))] (.int (0 : Int32)) := V21
  refine own_go (g' := (mkF m 103 #[.val (.int p1), .val (.int p2), .val (.int p3), .val (.ref b1), .val (.int y4), .val (.ref b5), .val (.ref b14), .unset, .unset, .unset, .unset, .unset, .unset] [(.ref b20), (.ref b20)])) (fun t kt => XS.dup X21.here hx rfl (hb hby at_102) rfl rfl kt) ?_
  refine own_go (g' := (mkF m 104 #[.val (.int p1), .val (.int p2), .val (.int p3), .val (.ref b1), .val (.int y4), .val (.ref b5), .val (.ref b14), .unset, .unset, .unset, .unset, .unset, .unset] [(.int (1 : Int32)), (.ref b20), (.ref b20)])) (fun t kt => XS.iconst X21.here hx rfl (hb hby at_103) kt) ?_
  refine own_go (g' := (mkF m 106 #[.val (.int p1), .val (.int p2), .val (.int p3), .val (.ref b1), .val (.int y4), .val (.ref b5), .val (.ref b14), .unset, .unset, .unset, .unset, .unset, .unset] [(.int y4), (.int (1 : Int32)), (.ref b20), (.ref b20)])) (fun t kt => XS.iload X21.here hx rfl (hb hby at_104) rfl kt) ?_
  refine own_bastore X21 hx hZ e21 V21 ⟨by decide, by decide⟩ 1 rfl (Nat.le_of_ble_eq_true rfl) N21 ge_b20 (g := (mkF m 106 #[.val (.int p1), .val (.int p2), .val (.int p3), .val (.ref b1), .val (.int y4), .val (.ref b5), .val (.ref b14), .unset, .unset, .unset, .unset, .unset, .unset] [(.int y4), (.int (1 : Int32)), (.ref b20), (.ref b20)])) rfl rfl (hb hby at_106) (fun T22 h22 L22 X22 e22 N22 W22 V22 => ?_)
  show OEnds _ _ _ _ _ _ T22 (mkF m 107 #[.val (.int p1), .val (.int p2), .val (.int p3), .val (.ref b1), .val (.int y4), .val (.ref b5), .val (.ref b14), .unset, .unset, .unset, .unset, .unset, .unset] [(.ref b20)])
  have V3_h22 := V3_h21.other W22 ne_b1_b20
  have V13_h22 := V13_h21.other W22 ne_b5_b20
  have V19_h22 := V19_h21.other W22 ne_b14_b20
  have K22 := K21.wr W22 (Or.inr gz_b20)
  replace V22 : Arv Z h22 b20 k20 .byte (3 : Int32) [(.int (nar .byte y4)), (.int (nar .byte y4)), (.int (0 : Int32))] (.int (0 : Int32)) := V22
  refine own_go (g' := (mkF m 108 #[.val (.int p1), .val (.int p2), .val (.int p3), .val (.ref b1), .val (.int y4), .val (.ref b5), .val (.ref b14), .unset, .unset, .unset, .unset, .unset, .unset] [(.ref b20), (.ref b20)])) (fun t kt => XS.dup X22.here hx rfl (hb hby at_107) rfl rfl kt) ?_
  refine own_go (g' := (mkF m 109 #[.val (.int p1), .val (.int p2), .val (.int p3), .val (.ref b1), .val (.int y4), .val (.ref b5), .val (.ref b14), .unset, .unset, .unset, .unset, .unset, .unset] [(.int (2 : Int32)), (.ref b20), (.ref b20)])) (fun t kt => XS.iconst X22.here hx rfl (hb hby at_108) kt) ?_
  refine own_go (g' := (mkF m 111 #[.val (.int p1), .val (.int p2), .val (.int p3), .val (.ref b1), .val (.int y4), .val (.ref b5), .val (.ref b14), .unset, .unset, .unset, .unset, .unset, .unset] [(.int y4), (.int (2 : Int32)), (.ref b20), (.ref b20)])) (fun t kt => XS.iload X22.here hx rfl (hb hby at_109) rfl kt) ?_
  refine own_bastore X22 hx hZ e22 V22 ⟨by decide, by decide⟩ 2 rfl (Nat.le_of_ble_eq_true rfl) N22 ge_b20 (g := (mkF m 111 #[.val (.int p1), .val (.int p2), .val (.int p3), .val (.ref b1), .val (.int y4), .val (.ref b5), .val (.ref b14), .unset, .unset, .unset, .unset, .unset, .unset] [(.int y4), (.int (2 : Int32)), (.ref b20), (.ref b20)])) rfl rfl (hb hby at_111) (fun T23 h23 L23 X23 e23 N23 W23 V23 => ?_)
  show OEnds _ _ _ _ _ _ T23 (mkF m 112 #[.val (.int p1), .val (.int p2), .val (.int p3), .val (.ref b1), .val (.int y4), .val (.ref b5), .val (.ref b14), .unset, .unset, .unset, .unset, .unset, .unset] [(.ref b20)])
  have V3_h23 := V3_h22.other W23 ne_b1_b20
  have V13_h23 := V13_h22.other W23 ne_b5_b20
  have V19_h23 := V19_h22.other W23 ne_b14_b20
  have K23 := K22.wr W23 (Or.inr gz_b20)
  replace V23 : Arv Z h23 b20 k20 .byte (3 : Int32) [(.int (nar .byte y4)), (.int (nar .byte y4)), (.int (nar .byte y4))] (.int (0 : Int32)) := V23
  refine own_go (g' := (mkF m 114 #[.val (.int p1), .val (.int p2), .val (.int p3), .val (.ref b1), .val (.int y4), .val (.ref b5), .val (.ref b14), .val (.ref b20), .unset, .unset, .unset, .unset, .unset] [])) (fun t kt => XS.astore X23.here hx rfl (hb hby at_112) rfl rfl (l' := #[.val (.int p1), .val (.int p2), .val (.int p3), .val (.ref b1), .val (.int y4), .val (.ref b5), .val (.ref b14), .val (.ref b20), .unset, .unset, .unset, .unset, .unset]) rfl kt) ?_
  refine own_go (g' := (mkF m 115 #[.val (.int p1), .val (.int p2), .val (.int p3), .val (.ref b1), .val (.int y4), .val (.ref b5), .val (.ref b14), .val (.ref b20), .unset, .unset, .unset, .unset, .unset] [(.ref b1)])) (fun t kt => XS.aloadN X23.here hx rfl (hb hby at_114) rfl rfl kt) ?_
  refine own_go (g' := (mkF m 117 #[.val (.int p1), .val (.int p2), .val (.int p3), .val (.ref b1), .val (.int y4), .val (.ref b5), .val (.ref b14), .val (.ref b20), .unset, .unset, .unset, .unset, .unset] [(.ref b5), (.ref b1)])) (fun t kt => XS.aload X23.here hx rfl (hb hby at_115) rfl rfl kt) ?_
  refine own_callS X23 hx hZ (W := 0) (argsL := [(.ref b1), (.ref b5)]) (rest := []) hown (hw _ (List.mem_of_getElem? (i := 2) rfl)) (hw _ (List.mem_of_getElem? (i := 3) rfl)) (hw _ (List.mem_of_getElem? (i := 4) rfl)) (hw _ (List.mem_of_getElem? (i := 5) rfl)) (by decide) (own_tb8 l Z a0 hw b1 b5 k1 k5 p1 p2 (nar .byte y4) h23 n0 (Nat.le_trans Z0 K23.1) V3_h23 V13_h23 ne_b1_b5 ge_b5) (by decide) (by decide) (g := (mkF m 117 #[.val (.int p1), .val (.int p2), .val (.int p3), .val (.ref b1), .val (.int y4), .val (.ref b5), .val (.ref b14), .val (.ref b20), .unset, .unset, .unset, .unset, .unset] [(.ref b5), (.ref b1)])) rfl (by rw [hml]; rfl) (lenOf own_pd0 rfl) rfl (by show 2 * 0 + _ ≤ _; exact Nat.le_of_eq rfl) (hb hby at_117) e23 N23 (by decide) (by decide) (fun v24 T24 L24 X24 N24 hq24 => ?_)
  obtain ⟨rfl, Kc24, V24⟩ := hq24
  have V3_h24 := V3_h23.keep Kc24 (ninS ne_b1_b5 nin0)
  have V19_h24 := V19_h23.keep Kc24 (ninS (Ne.symm ne_b5_b14) nin0)
  have V23_h24 := V23.keep Kc24 (ninS (Ne.symm ne_b5_b20) nin0)
  have K24 := K23.trans Kc24 (allS (Or.inr gz_b5) all0)
  show OEnds _ _ _ _ _ _ T24 (mkF m 120 #[.val (.int p1), .val (.int p2), .val (.int p3), .val (.ref b1), .val (.int y4), .val (.ref b5), .val (.ref b14), .val (.ref b20), .unset, .unset, .unset, .unset, .unset] [])
  refine own_go (g' := (mkF m 121 #[.val (.int p1), .val (.int p2), .val (.int p3), .val (.ref b1), .val (.int y4), .val (.ref b5), .val (.ref b14), .val (.ref b20), .unset, .unset, .unset, .unset, .unset] [(.ref b1)])) (fun t kt => XS.aloadN X24.here hx rfl (hb hby at_120) rfl rfl kt) ?_
  refine own_go (g' := (mkF m 123 #[.val (.int p1), .val (.int p2), .val (.int p3), .val (.ref b1), .val (.int y4), .val (.ref b5), .val (.ref b14), .val (.ref b20), .unset, .unset, .unset, .unset, .unset] [(.ref b14), (.ref b1)])) (fun t kt => XS.aload X24.here hx rfl (hb hby at_121) rfl rfl kt) ?_
  refine own_callS X24 hx hZ (W := 0) (argsL := [(.ref b1), (.ref b14)]) (rest := []) hown (hw _ (List.mem_of_getElem? (i := 2) rfl)) (hw _ (List.mem_of_getElem? (i := 3) rfl)) (hw _ (List.mem_of_getElem? (i := 4) rfl)) (hw _ (List.mem_of_getElem? (i := 5) rfl)) (by decide) (own_tb5 l Z a0 hw b1 b14 k1 k14 p1 p2 (nar .byte y4) T24.heap n0 (Nat.le_trans Z0 K24.1) V3_h24 V19_h24 ne_b1_b14 ge_b14) (by decide) (by decide) (g := (mkF m 123 #[.val (.int p1), .val (.int p2), .val (.int p3), .val (.ref b1), .val (.int y4), .val (.ref b5), .val (.ref b14), .val (.ref b20), .unset, .unset, .unset, .unset, .unset] [(.ref b14), (.ref b1)])) rfl (by rw [hml]; rfl) (lenOf own_pd0 rfl) rfl (by show 2 * 0 + _ ≤ _; exact Nat.le_of_eq rfl) (hb hby at_123) rfl N24 (by decide) (by decide) (fun v25 T25 L25 X25 N25 hq25 => ?_)
  obtain ⟨rfl, Kc25, V25⟩ := hq25
  have V3_h25 := V3_h24.keep Kc25 (ninS ne_b1_b14 nin0)
  have V23_h25 := V23_h24.keep Kc25 (ninS (Ne.symm ne_b14_b20) nin0)
  have V24_h25 := V24.keep Kc25 (ninS ne_b5_b14 nin0)
  have K25 := K24.trans Kc25 (allS (Or.inr gz_b14) all0)
  show OEnds _ _ _ _ _ _ T25 (mkF m 126 #[.val (.int p1), .val (.int p2), .val (.int p3), .val (.ref b1), .val (.int y4), .val (.ref b5), .val (.ref b14), .val (.ref b20), .unset, .unset, .unset, .unset, .unset] [])
  refine own_go (g' := (mkF m 127 #[.val (.int p1), .val (.int p2), .val (.int p3), .val (.ref b1), .val (.int y4), .val (.ref b5), .val (.ref b14), .val (.ref b20), .unset, .unset, .unset, .unset, .unset] [(.ref b1)])) (fun t kt => XS.aloadN X25.here hx rfl (hb hby at_126) rfl rfl kt) ?_
  refine own_go (g' := (mkF m 129 #[.val (.int p1), .val (.int p2), .val (.int p3), .val (.ref b1), .val (.int y4), .val (.ref b5), .val (.ref b14), .val (.ref b20), .unset, .unset, .unset, .unset, .unset] [(.ref b20), (.ref b1)])) (fun t kt => XS.aload X25.here hx rfl (hb hby at_127) rfl rfl kt) ?_
  refine own_callS X25 hx hZ (W := 0) (argsL := [(.ref b1), (.ref b20)]) (rest := []) hown (hw _ (List.mem_of_getElem? (i := 2) rfl)) (hw _ (List.mem_of_getElem? (i := 3) rfl)) (hw _ (List.mem_of_getElem? (i := 4) rfl)) (hw _ (List.mem_of_getElem? (i := 5) rfl)) (by decide) (own_tb3 l Z a0 hw b1 b20 k1 k20 p1 p2 (nar .byte y4) T25.heap n0 (Nat.le_trans Z0 K25.1) V3_h25 V23_h25 ne_b1_b20 ge_b20) (by decide) (by decide) (g := (mkF m 129 #[.val (.int p1), .val (.int p2), .val (.int p3), .val (.ref b1), .val (.int y4), .val (.ref b5), .val (.ref b14), .val (.ref b20), .unset, .unset, .unset, .unset, .unset] [(.ref b20), (.ref b1)])) rfl (by rw [hml]; rfl) (lenOf own_pd0 rfl) rfl (by show 2 * 0 + _ ≤ _; exact Nat.le_of_eq rfl) (hb hby at_129) rfl N25 (by decide) (by decide) (fun v26 T26 L26 X26 N26 hq26 => ?_)
  obtain ⟨rfl, Kc26, V26⟩ := hq26
  have V3_h26 := V3_h25.keep Kc26 (ninS ne_b1_b20 nin0)
  have V24_h26 := V24_h25.keep Kc26 (ninS ne_b5_b20 nin0)
  have V25_h26 := V25.keep Kc26 (ninS ne_b14_b20 nin0)
  have K26 := K25.trans Kc26 (allS (Or.inr gz_b20) all0)
  show OEnds _ _ _ _ _ _ T26 (mkF m 132 #[.val (.int p1), .val (.int p2), .val (.int p3), .val (.ref b1), .val (.int y4), .val (.ref b5), .val (.ref b14), .val (.ref b20), .unset, .unset, .unset, .unset, .unset] [])
  refine own_go (g' := (mkF m 133 #[.val (.int p1), .val (.int p2), .val (.int p3), .val (.ref b1), .val (.int y4), .val (.ref b5), .val (.ref b14), .val (.ref b20), .unset, .unset, .unset, .unset, .unset] [(.int p2)])) (fun t kt => XS.iloadN X26.here hx rfl (hb hby at_132) rfl kt) ?_
  refine own_go (g' := (mkF m 134 #[.val (.int p1), .val (.int p2), .val (.int p3), .val (.ref b1), .val (.int y4), .val (.ref b5), .val (.ref b14), .val (.ref b20), .unset, .unset, .unset, .unset, .unset] [(.long (p2.toInt64))])) (fun t kt => XS.i2l X26.here hx rfl (hb hby at_133) rfl kt) ?_
  refine own_go (g' := (mkF m 136 #[.val (.int p1), .val (.int p2), .val (.int p3), .val (.ref b1), .val (.int y4), .val (.ref b5), .val (.ref b14), .val (.ref b20), .unset, .unset, .unset, .unset, .unset] [(.int (32 : Int32)), (.long (p2.toInt64))])) (fun t kt => XS.bipush X26.here hx rfl (hb hby at_134) kt) ?_
  refine own_go (g' := (mkF m 137 #[.val (.int p1), .val (.int p2), .val (.int p3), .val (.ref b1), .val (.int y4), .val (.ref b5), .val (.ref b14), .val (.ref b20), .unset, .unset, .unset, .unset, .unset] [(.long ((p2.toInt64) <<< ((32 : Int32) &&& 0x3f).toInt64))])) (fun t kt => XS.lshl X26.here hx rfl (hb hby at_136) rfl kt) ?_
  refine own_go (g' := (mkF m 138 #[.val (.int p1), .val (.int p2), .val (.int p3), .val (.ref b1), .val (.int y4), .val (.ref b5), .val (.ref b14), .val (.ref b20), .unset, .unset, .unset, .unset, .unset] [(.int p1), (.long ((p2.toInt64) <<< ((32 : Int32) &&& 0x3f).toInt64))])) (fun t kt => XS.iloadN X26.here hx rfl (hb hby at_137) rfl kt) ?_
  refine own_go (g' := (mkF m 139 #[.val (.int p1), .val (.int p2), .val (.int p3), .val (.ref b1), .val (.int y4), .val (.ref b5), .val (.ref b14), .val (.ref b20), .unset, .unset, .unset, .unset, .unset] [(.long (p1.toInt64)), (.long ((p2.toInt64) <<< ((32 : Int32) &&& 0x3f).toInt64))])) (fun t kt => XS.i2l X26.here hx rfl (hb hby at_138) rfl kt) ?_
  refine own_go (g' := (mkF m 142 #[.val (.int p1), .val (.int p2), .val (.int p3), .val (.ref b1), .val (.int y4), .val (.ref b5), .val (.ref b14), .val (.ref b20), .unset, .unset, .unset, .unset, .unset] [(.long (4294967295 : Int64)), (.long (p1.toInt64)), (.long ((p2.toInt64) <<< ((32 : Int32) &&& 0x3f).toInt64))])) (fun t kt => X26.ldc2Long hx hown (mvT hZ (hw _ (List.mem_of_getElem? (i := 6) rfl))) (g := (mkF m 139 #[.val (.int p1), .val (.int p2), .val (.int p3), .val (.ref b1), .val (.int y4), .val (.ref b5), .val (.ref b14), .val (.ref b20), .unset, .unset, .unset, .unset, .unset] [(.long (p1.toInt64)), (.long ((p2.toInt64) <<< ((32 : Int32) &&& 0x3f).toInt64))])) rfl (hb hby at_139) t kt) ?_
  refine own_go (g' := (mkF m 143 #[.val (.int p1), .val (.int p2), .val (.int p3), .val (.ref b1), .val (.int y4), .val (.ref b5), .val (.ref b14), .val (.ref b20), .unset, .unset, .unset, .unset, .unset] [(.long ((p1.toInt64) &&& (4294967295 : Int64))), (.long ((p2.toInt64) <<< ((32 : Int32) &&& 0x3f).toInt64))])) (fun t kt => XS.land X26.here hx rfl (hb hby at_142) rfl kt) ?_
  refine own_go (g' := (mkF m 144 #[.val (.int p1), .val (.int p2), .val (.int p3), .val (.ref b1), .val (.int y4), .val (.ref b5), .val (.ref b14), .val (.ref b20), .unset, .unset, .unset, .unset, .unset] [(.long (((p2.toInt64) <<< ((32 : Int32) &&& 0x3f).toInt64) ||| ((p1.toInt64) &&& (4294967295 : Int64))))])) (fun t kt => XS.lor X26.here hx rfl (hb hby at_143) rfl kt) ?_
  refine own_go (g' := (mkF m 146 #[.val (.int p1), .val (.int p2), .val (.int p3), .val (.ref b1), .val (.int y4), .val (.ref b5), .val (.ref b14), .val (.ref b20), .val (.long (((p2.toInt64) <<< ((32 : Int32) &&& 0x3f).toInt64) ||| ((p1.toInt64) &&& (4294967295 : Int64)))), .second, .unset, .unset, .unset] [])) (fun t kt => XS.lstore X26.here hx rfl (hb hby at_144) rfl (l' := #[.val (.int p1), .val (.int p2), .val (.int p3), .val (.ref b1), .val (.int y4), .val (.ref b5), .val (.ref b14), .val (.ref b20), .val (.long (((p2.toInt64) <<< ((32 : Int32) &&& 0x3f).toInt64) ||| ((p1.toInt64) &&& (4294967295 : Int64)))), .second, .unset, .unset, .unset]) rfl kt) ?_
  refine own_let (P := fun y27 => OEnds _ _ _ _ _ _ T26 (mkF m 146 #[.val (.int p1), .val (.int p2), .val (.int p3), .val (.ref b1), .val (.int y4), .val (.ref b5), .val (.ref b14), .val (.ref b20), .val (.long y27), .second, .unset, .unset, .unset] [])) (((p2.toInt64) <<< ((32 : Int32) &&& 0x3f).toInt64) ||| ((p1.toInt64) &&& (4294967295 : Int64))) (fun y27 hv_y27 => ?_)
  refine own_go (g' := (mkF m 148 #[.val (.int p1), .val (.int p2), .val (.int p3), .val (.ref b1), .val (.int y4), .val (.ref b5), .val (.ref b14), .val (.ref b20), .val (.long y27), .second, .unset, .unset, .unset] [(.ref b5)])) (fun t kt => XS.aload X26.here hx rfl (hb hby at_146) rfl rfl kt) ?_
  refine own_go (g' := (mkF m 149 #[.val (.int p1), .val (.int p2), .val (.int p3), .val (.ref b1), .val (.int y4), .val (.ref b5), .val (.ref b14), .val (.ref b20), .val (.long y27), .second, .unset, .unset, .unset] [(.int (0 : Int32)), (.ref b5)])) (fun t kt => XS.iconst X26.here hx rfl (hb hby at_148) kt) ?_
  refine own_baload X26 hx hZ rfl V24_h26 ⟨by decide, by decide⟩ (v := (.int (own_byte p2 (24 : Int32)))) rfl (g := (mkF m 149 #[.val (.int p1), .val (.int p2), .val (.int p3), .val (.ref b1), .val (.int y4), .val (.ref b5), .val (.ref b14), .val (.ref b20), .val (.long y27), .second, .unset, .unset, .unset] [(.int (0 : Int32)), (.ref b5)])) rfl rfl (hb hby at_149) ?_
  show OEnds _ _ _ _ _ _ T26 (mkF m 150 #[.val (.int p1), .val (.int p2), .val (.int p3), .val (.ref b1), .val (.int y4), .val (.ref b5), .val (.ref b14), .val (.ref b20), .val (.long y27), .second, .unset, .unset, .unset] [(.int (own_byte p2 (24 : Int32)))])
  refine own_go (g' := (mkF m 152 #[.val (.int p1), .val (.int p2), .val (.int p3), .val (.ref b1), .val (.int y4), .val (.ref b5), .val (.ref b14), .val (.ref b20), .val (.long y27), .second, .unset, .unset, .unset] [(.long y27), (.int (own_byte p2 (24 : Int32)))])) (fun t kt => XS.lload X26.here hx rfl (hb hby at_150) rfl kt) ?_
  refine own_go (g' := (mkF m 154 #[.val (.int p1), .val (.int p2), .val (.int p3), .val (.ref b1), .val (.int y4), .val (.ref b5), .val (.ref b14), .val (.ref b20), .val (.long y27), .second, .unset, .unset, .unset] [(.int (56 : Int32)), (.long y27), (.int (own_byte p2 (24 : Int32)))])) (fun t kt => XS.bipush X26.here hx rfl (hb hby at_152) kt) ?_
  refine own_go (g' := (mkF m 155 #[.val (.int p1), .val (.int p2), .val (.int p3), .val (.ref b1), .val (.int y4), .val (.ref b5), .val (.ref b14), .val (.ref b20), .val (.long y27), .second, .unset, .unset, .unset] [(.long ((y27.toUInt64 >>> ((56 : Int32) &&& 0x3f).toInt64.toUInt64).toInt64)), (.int (own_byte p2 (24 : Int32)))])) (fun t kt => XS.lushr X26.here hx rfl (hb hby at_154) rfl kt) ?_
  refine own_go (g' := (mkF m 156 #[.val (.int p1), .val (.int p2), .val (.int p3), .val (.ref b1), .val (.int y4), .val (.ref b5), .val (.ref b14), .val (.ref b20), .val (.long y27), .second, .unset, .unset, .unset] [(.int (((y27.toUInt64 >>> ((56 : Int32) &&& 0x3f).toInt64.toUInt64).toInt64).toInt32)), (.int (own_byte p2 (24 : Int32)))])) (fun t kt => XS.l2i X26.here hx rfl (hb hby at_155) rfl kt) ?_
  refine own_go (g' := (mkF m 157 #[.val (.int p1), .val (.int p2), .val (.int p3), .val (.ref b1), .val (.int y4), .val (.ref b5), .val (.ref b14), .val (.ref b20), .val (.long y27), .second, .unset, .unset, .unset] [(.int ((((y27.toUInt64 >>> ((56 : Int32) &&& 0x3f).toInt64.toUInt64).toInt64).toInt32).toInt8.toInt32)), (.int (own_byte p2 (24 : Int32)))])) (fun t kt => XS.i2b X26.here hx rfl (hb hby at_156) rfl kt) ?_
  refine own_go (g' := (mkF m 160 #[.val (.int p1), .val (.int p2), .val (.int p3), .val (.ref b1), .val (.int y4), .val (.ref b5), .val (.ref b14), .val (.ref b20), .val (.long y27), .second, .unset, .unset, .unset] [])) (fun t kt => XS.icmpNo X26.here hx rfl (hb hby at_157) rfl (teq (own_v56 p1 p2 y27 hv_y27 : (own_byte p2 (24 : Int32)) = ((((y27.toUInt64 >>> ((56 : Int32) &&& 0x3f).toInt64.toUInt64).toInt64).toInt32).toInt8.toInt32))).2 kt) ?_
  refine own_go (g' := (mkF m 162 #[.val (.int p1), .val (.int p2), .val (.int p3), .val (.ref b1), .val (.int y4), .val (.ref b5), .val (.ref b14), .val (.ref b20), .val (.long y27), .second, .unset, .unset, .unset] [(.ref b5)])) (fun t kt => XS.aload X26.here hx rfl (hb hby at_160) rfl rfl kt) ?_
  refine own_go (g' := (mkF m 163 #[.val (.int p1), .val (.int p2), .val (.int p3), .val (.ref b1), .val (.int y4), .val (.ref b5), .val (.ref b14), .val (.ref b20), .val (.long y27), .second, .unset, .unset, .unset] [(.int (1 : Int32)), (.ref b5)])) (fun t kt => XS.iconst X26.here hx rfl (hb hby at_162) kt) ?_
  refine own_baload X26 hx hZ rfl V24_h26 ⟨by decide, by decide⟩ (v := (.int (own_byte p2 (16 : Int32)))) rfl (g := (mkF m 163 #[.val (.int p1), .val (.int p2), .val (.int p3), .val (.ref b1), .val (.int y4), .val (.ref b5), .val (.ref b14), .val (.ref b20), .val (.long y27), .second, .unset, .unset, .unset] [(.int (1 : Int32)), (.ref b5)])) rfl rfl (hb hby at_163) ?_
  show OEnds _ _ _ _ _ _ T26 (mkF m 164 #[.val (.int p1), .val (.int p2), .val (.int p3), .val (.ref b1), .val (.int y4), .val (.ref b5), .val (.ref b14), .val (.ref b20), .val (.long y27), .second, .unset, .unset, .unset] [(.int (own_byte p2 (16 : Int32)))])
  refine own_go (g' := (mkF m 166 #[.val (.int p1), .val (.int p2), .val (.int p3), .val (.ref b1), .val (.int y4), .val (.ref b5), .val (.ref b14), .val (.ref b20), .val (.long y27), .second, .unset, .unset, .unset] [(.long y27), (.int (own_byte p2 (16 : Int32)))])) (fun t kt => XS.lload X26.here hx rfl (hb hby at_164) rfl kt) ?_
  refine own_go (g' := (mkF m 168 #[.val (.int p1), .val (.int p2), .val (.int p3), .val (.ref b1), .val (.int y4), .val (.ref b5), .val (.ref b14), .val (.ref b20), .val (.long y27), .second, .unset, .unset, .unset] [(.int (48 : Int32)), (.long y27), (.int (own_byte p2 (16 : Int32)))])) (fun t kt => XS.bipush X26.here hx rfl (hb hby at_166) kt) ?_
  refine own_go (g' := (mkF m 169 #[.val (.int p1), .val (.int p2), .val (.int p3), .val (.ref b1), .val (.int y4), .val (.ref b5), .val (.ref b14), .val (.ref b20), .val (.long y27), .second, .unset, .unset, .unset] [(.long ((y27.toUInt64 >>> ((48 : Int32) &&& 0x3f).toInt64.toUInt64).toInt64)), (.int (own_byte p2 (16 : Int32)))])) (fun t kt => XS.lushr X26.here hx rfl (hb hby at_168) rfl kt) ?_
  refine own_go (g' := (mkF m 170 #[.val (.int p1), .val (.int p2), .val (.int p3), .val (.ref b1), .val (.int y4), .val (.ref b5), .val (.ref b14), .val (.ref b20), .val (.long y27), .second, .unset, .unset, .unset] [(.int (((y27.toUInt64 >>> ((48 : Int32) &&& 0x3f).toInt64.toUInt64).toInt64).toInt32)), (.int (own_byte p2 (16 : Int32)))])) (fun t kt => XS.l2i X26.here hx rfl (hb hby at_169) rfl kt) ?_
  refine own_go (g' := (mkF m 171 #[.val (.int p1), .val (.int p2), .val (.int p3), .val (.ref b1), .val (.int y4), .val (.ref b5), .val (.ref b14), .val (.ref b20), .val (.long y27), .second, .unset, .unset, .unset] [(.int ((((y27.toUInt64 >>> ((48 : Int32) &&& 0x3f).toInt64.toUInt64).toInt64).toInt32).toInt8.toInt32)), (.int (own_byte p2 (16 : Int32)))])) (fun t kt => XS.i2b X26.here hx rfl (hb hby at_170) rfl kt) ?_
  refine own_go (g' := (mkF m 174 #[.val (.int p1), .val (.int p2), .val (.int p3), .val (.ref b1), .val (.int y4), .val (.ref b5), .val (.ref b14), .val (.ref b20), .val (.long y27), .second, .unset, .unset, .unset] [])) (fun t kt => XS.icmpNo X26.here hx rfl (hb hby at_171) rfl (teq (own_v48 p1 p2 y27 hv_y27 : (own_byte p2 (16 : Int32)) = ((((y27.toUInt64 >>> ((48 : Int32) &&& 0x3f).toInt64.toUInt64).toInt64).toInt32).toInt8.toInt32))).2 kt) ?_
  refine own_go (g' := (mkF m 176 #[.val (.int p1), .val (.int p2), .val (.int p3), .val (.ref b1), .val (.int y4), .val (.ref b5), .val (.ref b14), .val (.ref b20), .val (.long y27), .second, .unset, .unset, .unset] [(.ref b5)])) (fun t kt => XS.aload X26.here hx rfl (hb hby at_174) rfl rfl kt) ?_
  refine own_go (g' := (mkF m 177 #[.val (.int p1), .val (.int p2), .val (.int p3), .val (.ref b1), .val (.int y4), .val (.ref b5), .val (.ref b14), .val (.ref b20), .val (.long y27), .second, .unset, .unset, .unset] [(.int (2 : Int32)), (.ref b5)])) (fun t kt => XS.iconst X26.here hx rfl (hb hby at_176) kt) ?_
  refine own_baload X26 hx hZ rfl V24_h26 ⟨by decide, by decide⟩ (v := (.int (own_byte p2 (8 : Int32)))) rfl (g := (mkF m 177 #[.val (.int p1), .val (.int p2), .val (.int p3), .val (.ref b1), .val (.int y4), .val (.ref b5), .val (.ref b14), .val (.ref b20), .val (.long y27), .second, .unset, .unset, .unset] [(.int (2 : Int32)), (.ref b5)])) rfl rfl (hb hby at_177) ?_
  show OEnds _ _ _ _ _ _ T26 (mkF m 178 #[.val (.int p1), .val (.int p2), .val (.int p3), .val (.ref b1), .val (.int y4), .val (.ref b5), .val (.ref b14), .val (.ref b20), .val (.long y27), .second, .unset, .unset, .unset] [(.int (own_byte p2 (8 : Int32)))])
  refine own_go (g' := (mkF m 180 #[.val (.int p1), .val (.int p2), .val (.int p3), .val (.ref b1), .val (.int y4), .val (.ref b5), .val (.ref b14), .val (.ref b20), .val (.long y27), .second, .unset, .unset, .unset] [(.long y27), (.int (own_byte p2 (8 : Int32)))])) (fun t kt => XS.lload X26.here hx rfl (hb hby at_178) rfl kt) ?_
  refine own_go (g' := (mkF m 182 #[.val (.int p1), .val (.int p2), .val (.int p3), .val (.ref b1), .val (.int y4), .val (.ref b5), .val (.ref b14), .val (.ref b20), .val (.long y27), .second, .unset, .unset, .unset] [(.int (40 : Int32)), (.long y27), (.int (own_byte p2 (8 : Int32)))])) (fun t kt => XS.bipush X26.here hx rfl (hb hby at_180) kt) ?_
  refine own_go (g' := (mkF m 183 #[.val (.int p1), .val (.int p2), .val (.int p3), .val (.ref b1), .val (.int y4), .val (.ref b5), .val (.ref b14), .val (.ref b20), .val (.long y27), .second, .unset, .unset, .unset] [(.long ((y27.toUInt64 >>> ((40 : Int32) &&& 0x3f).toInt64.toUInt64).toInt64)), (.int (own_byte p2 (8 : Int32)))])) (fun t kt => XS.lushr X26.here hx rfl (hb hby at_182) rfl kt) ?_
  refine own_go (g' := (mkF m 184 #[.val (.int p1), .val (.int p2), .val (.int p3), .val (.ref b1), .val (.int y4), .val (.ref b5), .val (.ref b14), .val (.ref b20), .val (.long y27), .second, .unset, .unset, .unset] [(.int (((y27.toUInt64 >>> ((40 : Int32) &&& 0x3f).toInt64.toUInt64).toInt64).toInt32)), (.int (own_byte p2 (8 : Int32)))])) (fun t kt => XS.l2i X26.here hx rfl (hb hby at_183) rfl kt) ?_
  refine own_go (g' := (mkF m 185 #[.val (.int p1), .val (.int p2), .val (.int p3), .val (.ref b1), .val (.int y4), .val (.ref b5), .val (.ref b14), .val (.ref b20), .val (.long y27), .second, .unset, .unset, .unset] [(.int ((((y27.toUInt64 >>> ((40 : Int32) &&& 0x3f).toInt64.toUInt64).toInt64).toInt32).toInt8.toInt32)), (.int (own_byte p2 (8 : Int32)))])) (fun t kt => XS.i2b X26.here hx rfl (hb hby at_184) rfl kt) ?_
  refine own_go (g' := (mkF m 188 #[.val (.int p1), .val (.int p2), .val (.int p3), .val (.ref b1), .val (.int y4), .val (.ref b5), .val (.ref b14), .val (.ref b20), .val (.long y27), .second, .unset, .unset, .unset] [])) (fun t kt => XS.icmpNo X26.here hx rfl (hb hby at_185) rfl (teq (own_v40 p1 p2 y27 hv_y27 : (own_byte p2 (8 : Int32)) = ((((y27.toUInt64 >>> ((40 : Int32) &&& 0x3f).toInt64.toUInt64).toInt64).toInt32).toInt8.toInt32))).2 kt) ?_
  refine own_go (g' := (mkF m 190 #[.val (.int p1), .val (.int p2), .val (.int p3), .val (.ref b1), .val (.int y4), .val (.ref b5), .val (.ref b14), .val (.ref b20), .val (.long y27), .second, .unset, .unset, .unset] [(.ref b5)])) (fun t kt => XS.aload X26.here hx rfl (hb hby at_188) rfl rfl kt) ?_
  refine own_go (g' := (mkF m 191 #[.val (.int p1), .val (.int p2), .val (.int p3), .val (.ref b1), .val (.int y4), .val (.ref b5), .val (.ref b14), .val (.ref b20), .val (.long y27), .second, .unset, .unset, .unset] [(.int (3 : Int32)), (.ref b5)])) (fun t kt => XS.iconst X26.here hx rfl (hb hby at_190) kt) ?_
  refine own_baload X26 hx hZ rfl V24_h26 ⟨by decide, by decide⟩ (v := (.int (own_byte p2 (0 : Int32)))) rfl (g := (mkF m 191 #[.val (.int p1), .val (.int p2), .val (.int p3), .val (.ref b1), .val (.int y4), .val (.ref b5), .val (.ref b14), .val (.ref b20), .val (.long y27), .second, .unset, .unset, .unset] [(.int (3 : Int32)), (.ref b5)])) rfl rfl (hb hby at_191) ?_
  show OEnds _ _ _ _ _ _ T26 (mkF m 192 #[.val (.int p1), .val (.int p2), .val (.int p3), .val (.ref b1), .val (.int y4), .val (.ref b5), .val (.ref b14), .val (.ref b20), .val (.long y27), .second, .unset, .unset, .unset] [(.int (own_byte p2 (0 : Int32)))])
  refine own_go (g' := (mkF m 194 #[.val (.int p1), .val (.int p2), .val (.int p3), .val (.ref b1), .val (.int y4), .val (.ref b5), .val (.ref b14), .val (.ref b20), .val (.long y27), .second, .unset, .unset, .unset] [(.long y27), (.int (own_byte p2 (0 : Int32)))])) (fun t kt => XS.lload X26.here hx rfl (hb hby at_192) rfl kt) ?_
  refine own_go (g' := (mkF m 196 #[.val (.int p1), .val (.int p2), .val (.int p3), .val (.ref b1), .val (.int y4), .val (.ref b5), .val (.ref b14), .val (.ref b20), .val (.long y27), .second, .unset, .unset, .unset] [(.int (32 : Int32)), (.long y27), (.int (own_byte p2 (0 : Int32)))])) (fun t kt => XS.bipush X26.here hx rfl (hb hby at_194) kt) ?_
  refine own_go (g' := (mkF m 197 #[.val (.int p1), .val (.int p2), .val (.int p3), .val (.ref b1), .val (.int y4), .val (.ref b5), .val (.ref b14), .val (.ref b20), .val (.long y27), .second, .unset, .unset, .unset] [(.long ((y27.toUInt64 >>> ((32 : Int32) &&& 0x3f).toInt64.toUInt64).toInt64)), (.int (own_byte p2 (0 : Int32)))])) (fun t kt => XS.lushr X26.here hx rfl (hb hby at_196) rfl kt) ?_
  refine own_go (g' := (mkF m 198 #[.val (.int p1), .val (.int p2), .val (.int p3), .val (.ref b1), .val (.int y4), .val (.ref b5), .val (.ref b14), .val (.ref b20), .val (.long y27), .second, .unset, .unset, .unset] [(.int (((y27.toUInt64 >>> ((32 : Int32) &&& 0x3f).toInt64.toUInt64).toInt64).toInt32)), (.int (own_byte p2 (0 : Int32)))])) (fun t kt => XS.l2i X26.here hx rfl (hb hby at_197) rfl kt) ?_
  refine own_go (g' := (mkF m 199 #[.val (.int p1), .val (.int p2), .val (.int p3), .val (.ref b1), .val (.int y4), .val (.ref b5), .val (.ref b14), .val (.ref b20), .val (.long y27), .second, .unset, .unset, .unset] [(.int ((((y27.toUInt64 >>> ((32 : Int32) &&& 0x3f).toInt64.toUInt64).toInt64).toInt32).toInt8.toInt32)), (.int (own_byte p2 (0 : Int32)))])) (fun t kt => XS.i2b X26.here hx rfl (hb hby at_198) rfl kt) ?_
  refine own_go (g' := (mkF m 202 #[.val (.int p1), .val (.int p2), .val (.int p3), .val (.ref b1), .val (.int y4), .val (.ref b5), .val (.ref b14), .val (.ref b20), .val (.long y27), .second, .unset, .unset, .unset] [])) (fun t kt => XS.icmpNo X26.here hx rfl (hb hby at_199) rfl (teq (own_v32 p1 p2 y27 hv_y27 : (own_byte p2 (0 : Int32)) = ((((y27.toUInt64 >>> ((32 : Int32) &&& 0x3f).toInt64.toUInt64).toInt64).toInt32).toInt8.toInt32))).2 kt) ?_
  refine own_go (g' := (mkF m 204 #[.val (.int p1), .val (.int p2), .val (.int p3), .val (.ref b1), .val (.int y4), .val (.ref b5), .val (.ref b14), .val (.ref b20), .val (.long y27), .second, .unset, .unset, .unset] [(.ref b5)])) (fun t kt => XS.aload X26.here hx rfl (hb hby at_202) rfl rfl kt) ?_
  refine own_go (g' := (mkF m 205 #[.val (.int p1), .val (.int p2), .val (.int p3), .val (.ref b1), .val (.int y4), .val (.ref b5), .val (.ref b14), .val (.ref b20), .val (.long y27), .second, .unset, .unset, .unset] [(.int (4 : Int32)), (.ref b5)])) (fun t kt => XS.iconst X26.here hx rfl (hb hby at_204) kt) ?_
  refine own_baload X26 hx hZ rfl V24_h26 ⟨by decide, by decide⟩ (v := (.int (own_byte p1 (24 : Int32)))) rfl (g := (mkF m 205 #[.val (.int p1), .val (.int p2), .val (.int p3), .val (.ref b1), .val (.int y4), .val (.ref b5), .val (.ref b14), .val (.ref b20), .val (.long y27), .second, .unset, .unset, .unset] [(.int (4 : Int32)), (.ref b5)])) rfl rfl (hb hby at_205) ?_
  show OEnds _ _ _ _ _ _ T26 (mkF m 206 #[.val (.int p1), .val (.int p2), .val (.int p3), .val (.ref b1), .val (.int y4), .val (.ref b5), .val (.ref b14), .val (.ref b20), .val (.long y27), .second, .unset, .unset, .unset] [(.int (own_byte p1 (24 : Int32)))])
  refine own_go (g' := (mkF m 208 #[.val (.int p1), .val (.int p2), .val (.int p3), .val (.ref b1), .val (.int y4), .val (.ref b5), .val (.ref b14), .val (.ref b20), .val (.long y27), .second, .unset, .unset, .unset] [(.long y27), (.int (own_byte p1 (24 : Int32)))])) (fun t kt => XS.lload X26.here hx rfl (hb hby at_206) rfl kt) ?_
  refine own_go (g' := (mkF m 210 #[.val (.int p1), .val (.int p2), .val (.int p3), .val (.ref b1), .val (.int y4), .val (.ref b5), .val (.ref b14), .val (.ref b20), .val (.long y27), .second, .unset, .unset, .unset] [(.int (24 : Int32)), (.long y27), (.int (own_byte p1 (24 : Int32)))])) (fun t kt => XS.bipush X26.here hx rfl (hb hby at_208) kt) ?_
  refine own_go (g' := (mkF m 211 #[.val (.int p1), .val (.int p2), .val (.int p3), .val (.ref b1), .val (.int y4), .val (.ref b5), .val (.ref b14), .val (.ref b20), .val (.long y27), .second, .unset, .unset, .unset] [(.long ((y27.toUInt64 >>> ((24 : Int32) &&& 0x3f).toInt64.toUInt64).toInt64)), (.int (own_byte p1 (24 : Int32)))])) (fun t kt => XS.lushr X26.here hx rfl (hb hby at_210) rfl kt) ?_
  refine own_go (g' := (mkF m 212 #[.val (.int p1), .val (.int p2), .val (.int p3), .val (.ref b1), .val (.int y4), .val (.ref b5), .val (.ref b14), .val (.ref b20), .val (.long y27), .second, .unset, .unset, .unset] [(.int (((y27.toUInt64 >>> ((24 : Int32) &&& 0x3f).toInt64.toUInt64).toInt64).toInt32)), (.int (own_byte p1 (24 : Int32)))])) (fun t kt => XS.l2i X26.here hx rfl (hb hby at_211) rfl kt) ?_
  refine own_go (g' := (mkF m 213 #[.val (.int p1), .val (.int p2), .val (.int p3), .val (.ref b1), .val (.int y4), .val (.ref b5), .val (.ref b14), .val (.ref b20), .val (.long y27), .second, .unset, .unset, .unset] [(.int ((((y27.toUInt64 >>> ((24 : Int32) &&& 0x3f).toInt64.toUInt64).toInt64).toInt32).toInt8.toInt32)), (.int (own_byte p1 (24 : Int32)))])) (fun t kt => XS.i2b X26.here hx rfl (hb hby at_212) rfl kt) ?_
  refine own_go (g' := (mkF m 216 #[.val (.int p1), .val (.int p2), .val (.int p3), .val (.ref b1), .val (.int y4), .val (.ref b5), .val (.ref b14), .val (.ref b20), .val (.long y27), .second, .unset, .unset, .unset] [])) (fun t kt => XS.icmpNo X26.here hx rfl (hb hby at_213) rfl (teq (own_v24 p1 p2 y27 hv_y27 : (own_byte p1 (24 : Int32)) = ((((y27.toUInt64 >>> ((24 : Int32) &&& 0x3f).toInt64.toUInt64).toInt64).toInt32).toInt8.toInt32))).2 kt) ?_
  refine own_go (g' := (mkF m 218 #[.val (.int p1), .val (.int p2), .val (.int p3), .val (.ref b1), .val (.int y4), .val (.ref b5), .val (.ref b14), .val (.ref b20), .val (.long y27), .second, .unset, .unset, .unset] [(.ref b5)])) (fun t kt => XS.aload X26.here hx rfl (hb hby at_216) rfl rfl kt) ?_
  refine own_go (g' := (mkF m 219 #[.val (.int p1), .val (.int p2), .val (.int p3), .val (.ref b1), .val (.int y4), .val (.ref b5), .val (.ref b14), .val (.ref b20), .val (.long y27), .second, .unset, .unset, .unset] [(.int (5 : Int32)), (.ref b5)])) (fun t kt => XS.iconst X26.here hx rfl (hb hby at_218) kt) ?_
  refine own_baload X26 hx hZ rfl V24_h26 ⟨by decide, by decide⟩ (v := (.int (own_byte p1 (16 : Int32)))) rfl (g := (mkF m 219 #[.val (.int p1), .val (.int p2), .val (.int p3), .val (.ref b1), .val (.int y4), .val (.ref b5), .val (.ref b14), .val (.ref b20), .val (.long y27), .second, .unset, .unset, .unset] [(.int (5 : Int32)), (.ref b5)])) rfl rfl (hb hby at_219) ?_
  show OEnds _ _ _ _ _ _ T26 (mkF m 220 #[.val (.int p1), .val (.int p2), .val (.int p3), .val (.ref b1), .val (.int y4), .val (.ref b5), .val (.ref b14), .val (.ref b20), .val (.long y27), .second, .unset, .unset, .unset] [(.int (own_byte p1 (16 : Int32)))])
  refine own_go (g' := (mkF m 222 #[.val (.int p1), .val (.int p2), .val (.int p3), .val (.ref b1), .val (.int y4), .val (.ref b5), .val (.ref b14), .val (.ref b20), .val (.long y27), .second, .unset, .unset, .unset] [(.long y27), (.int (own_byte p1 (16 : Int32)))])) (fun t kt => XS.lload X26.here hx rfl (hb hby at_220) rfl kt) ?_
  refine own_go (g' := (mkF m 224 #[.val (.int p1), .val (.int p2), .val (.int p3), .val (.ref b1), .val (.int y4), .val (.ref b5), .val (.ref b14), .val (.ref b20), .val (.long y27), .second, .unset, .unset, .unset] [(.int (16 : Int32)), (.long y27), (.int (own_byte p1 (16 : Int32)))])) (fun t kt => XS.bipush X26.here hx rfl (hb hby at_222) kt) ?_
  refine own_go (g' := (mkF m 225 #[.val (.int p1), .val (.int p2), .val (.int p3), .val (.ref b1), .val (.int y4), .val (.ref b5), .val (.ref b14), .val (.ref b20), .val (.long y27), .second, .unset, .unset, .unset] [(.long ((y27.toUInt64 >>> ((16 : Int32) &&& 0x3f).toInt64.toUInt64).toInt64)), (.int (own_byte p1 (16 : Int32)))])) (fun t kt => XS.lushr X26.here hx rfl (hb hby at_224) rfl kt) ?_
  refine own_go (g' := (mkF m 226 #[.val (.int p1), .val (.int p2), .val (.int p3), .val (.ref b1), .val (.int y4), .val (.ref b5), .val (.ref b14), .val (.ref b20), .val (.long y27), .second, .unset, .unset, .unset] [(.int (((y27.toUInt64 >>> ((16 : Int32) &&& 0x3f).toInt64.toUInt64).toInt64).toInt32)), (.int (own_byte p1 (16 : Int32)))])) (fun t kt => XS.l2i X26.here hx rfl (hb hby at_225) rfl kt) ?_
  refine own_go (g' := (mkF m 227 #[.val (.int p1), .val (.int p2), .val (.int p3), .val (.ref b1), .val (.int y4), .val (.ref b5), .val (.ref b14), .val (.ref b20), .val (.long y27), .second, .unset, .unset, .unset] [(.int ((((y27.toUInt64 >>> ((16 : Int32) &&& 0x3f).toInt64.toUInt64).toInt64).toInt32).toInt8.toInt32)), (.int (own_byte p1 (16 : Int32)))])) (fun t kt => XS.i2b X26.here hx rfl (hb hby at_226) rfl kt) ?_
  refine own_go (g' := (mkF m 230 #[.val (.int p1), .val (.int p2), .val (.int p3), .val (.ref b1), .val (.int y4), .val (.ref b5), .val (.ref b14), .val (.ref b20), .val (.long y27), .second, .unset, .unset, .unset] [])) (fun t kt => XS.icmpNo X26.here hx rfl (hb hby at_227) rfl (teq (own_v16 p1 p2 y27 hv_y27 : (own_byte p1 (16 : Int32)) = ((((y27.toUInt64 >>> ((16 : Int32) &&& 0x3f).toInt64.toUInt64).toInt64).toInt32).toInt8.toInt32))).2 kt) ?_
  refine own_go (g' := (mkF m 232 #[.val (.int p1), .val (.int p2), .val (.int p3), .val (.ref b1), .val (.int y4), .val (.ref b5), .val (.ref b14), .val (.ref b20), .val (.long y27), .second, .unset, .unset, .unset] [(.ref b5)])) (fun t kt => XS.aload X26.here hx rfl (hb hby at_230) rfl rfl kt) ?_
  refine own_go (g' := (mkF m 234 #[.val (.int p1), .val (.int p2), .val (.int p3), .val (.ref b1), .val (.int y4), .val (.ref b5), .val (.ref b14), .val (.ref b20), .val (.long y27), .second, .unset, .unset, .unset] [(.int (6 : Int32)), (.ref b5)])) (fun t kt => XS.bipush X26.here hx rfl (hb hby at_232) kt) ?_
  refine own_baload X26 hx hZ rfl V24_h26 ⟨by decide, by decide⟩ (v := (.int (own_byte p1 (8 : Int32)))) rfl (g := (mkF m 234 #[.val (.int p1), .val (.int p2), .val (.int p3), .val (.ref b1), .val (.int y4), .val (.ref b5), .val (.ref b14), .val (.ref b20), .val (.long y27), .second, .unset, .unset, .unset] [(.int (6 : Int32)), (.ref b5)])) rfl rfl (hb hby at_234) ?_
  show OEnds _ _ _ _ _ _ T26 (mkF m 235 #[.val (.int p1), .val (.int p2), .val (.int p3), .val (.ref b1), .val (.int y4), .val (.ref b5), .val (.ref b14), .val (.ref b20), .val (.long y27), .second, .unset, .unset, .unset] [(.int (own_byte p1 (8 : Int32)))])
  refine own_go (g' := (mkF m 237 #[.val (.int p1), .val (.int p2), .val (.int p3), .val (.ref b1), .val (.int y4), .val (.ref b5), .val (.ref b14), .val (.ref b20), .val (.long y27), .second, .unset, .unset, .unset] [(.long y27), (.int (own_byte p1 (8 : Int32)))])) (fun t kt => XS.lload X26.here hx rfl (hb hby at_235) rfl kt) ?_
  refine own_go (g' := (mkF m 239 #[.val (.int p1), .val (.int p2), .val (.int p3), .val (.ref b1), .val (.int y4), .val (.ref b5), .val (.ref b14), .val (.ref b20), .val (.long y27), .second, .unset, .unset, .unset] [(.int (8 : Int32)), (.long y27), (.int (own_byte p1 (8 : Int32)))])) (fun t kt => XS.bipush X26.here hx rfl (hb hby at_237) kt) ?_
  refine own_go (g' := (mkF m 240 #[.val (.int p1), .val (.int p2), .val (.int p3), .val (.ref b1), .val (.int y4), .val (.ref b5), .val (.ref b14), .val (.ref b20), .val (.long y27), .second, .unset, .unset, .unset] [(.long ((y27.toUInt64 >>> ((8 : Int32) &&& 0x3f).toInt64.toUInt64).toInt64)), (.int (own_byte p1 (8 : Int32)))])) (fun t kt => XS.lushr X26.here hx rfl (hb hby at_239) rfl kt) ?_
  refine own_go (g' := (mkF m 241 #[.val (.int p1), .val (.int p2), .val (.int p3), .val (.ref b1), .val (.int y4), .val (.ref b5), .val (.ref b14), .val (.ref b20), .val (.long y27), .second, .unset, .unset, .unset] [(.int (((y27.toUInt64 >>> ((8 : Int32) &&& 0x3f).toInt64.toUInt64).toInt64).toInt32)), (.int (own_byte p1 (8 : Int32)))])) (fun t kt => XS.l2i X26.here hx rfl (hb hby at_240) rfl kt) ?_
  refine own_go (g' := (mkF m 242 #[.val (.int p1), .val (.int p2), .val (.int p3), .val (.ref b1), .val (.int y4), .val (.ref b5), .val (.ref b14), .val (.ref b20), .val (.long y27), .second, .unset, .unset, .unset] [(.int ((((y27.toUInt64 >>> ((8 : Int32) &&& 0x3f).toInt64.toUInt64).toInt64).toInt32).toInt8.toInt32)), (.int (own_byte p1 (8 : Int32)))])) (fun t kt => XS.i2b X26.here hx rfl (hb hby at_241) rfl kt) ?_
  refine own_go (g' := (mkF m 245 #[.val (.int p1), .val (.int p2), .val (.int p3), .val (.ref b1), .val (.int y4), .val (.ref b5), .val (.ref b14), .val (.ref b20), .val (.long y27), .second, .unset, .unset, .unset] [])) (fun t kt => XS.icmpNo X26.here hx rfl (hb hby at_242) rfl (teq (own_v8 p1 p2 y27 hv_y27 : (own_byte p1 (8 : Int32)) = ((((y27.toUInt64 >>> ((8 : Int32) &&& 0x3f).toInt64.toUInt64).toInt64).toInt32).toInt8.toInt32))).2 kt) ?_
  refine own_go (g' := (mkF m 247 #[.val (.int p1), .val (.int p2), .val (.int p3), .val (.ref b1), .val (.int y4), .val (.ref b5), .val (.ref b14), .val (.ref b20), .val (.long y27), .second, .unset, .unset, .unset] [(.ref b5)])) (fun t kt => XS.aload X26.here hx rfl (hb hby at_245) rfl rfl kt) ?_
  refine own_go (g' := (mkF m 249 #[.val (.int p1), .val (.int p2), .val (.int p3), .val (.ref b1), .val (.int y4), .val (.ref b5), .val (.ref b14), .val (.ref b20), .val (.long y27), .second, .unset, .unset, .unset] [(.int (7 : Int32)), (.ref b5)])) (fun t kt => XS.bipush X26.here hx rfl (hb hby at_247) kt) ?_
  refine own_baload X26 hx hZ rfl V24_h26 ⟨by decide, by decide⟩ (v := (.int (own_byte p1 (0 : Int32)))) rfl (g := (mkF m 249 #[.val (.int p1), .val (.int p2), .val (.int p3), .val (.ref b1), .val (.int y4), .val (.ref b5), .val (.ref b14), .val (.ref b20), .val (.long y27), .second, .unset, .unset, .unset] [(.int (7 : Int32)), (.ref b5)])) rfl rfl (hb hby at_249) ?_
  show OEnds _ _ _ _ _ _ T26 (mkF m 250 #[.val (.int p1), .val (.int p2), .val (.int p3), .val (.ref b1), .val (.int y4), .val (.ref b5), .val (.ref b14), .val (.ref b20), .val (.long y27), .second, .unset, .unset, .unset] [(.int (own_byte p1 (0 : Int32)))])
  refine own_go (g' := (mkF m 252 #[.val (.int p1), .val (.int p2), .val (.int p3), .val (.ref b1), .val (.int y4), .val (.ref b5), .val (.ref b14), .val (.ref b20), .val (.long y27), .second, .unset, .unset, .unset] [(.long y27), (.int (own_byte p1 (0 : Int32)))])) (fun t kt => XS.lload X26.here hx rfl (hb hby at_250) rfl kt) ?_
  refine own_go (g' := (mkF m 253 #[.val (.int p1), .val (.int p2), .val (.int p3), .val (.ref b1), .val (.int y4), .val (.ref b5), .val (.ref b14), .val (.ref b20), .val (.long y27), .second, .unset, .unset, .unset] [(.int (y27.toInt32)), (.int (own_byte p1 (0 : Int32)))])) (fun t kt => XS.l2i X26.here hx rfl (hb hby at_252) rfl kt) ?_
  refine own_go (g' := (mkF m 254 #[.val (.int p1), .val (.int p2), .val (.int p3), .val (.ref b1), .val (.int y4), .val (.ref b5), .val (.ref b14), .val (.ref b20), .val (.long y27), .second, .unset, .unset, .unset] [(.int ((y27.toInt32).toInt8.toInt32)), (.int (own_byte p1 (0 : Int32)))])) (fun t kt => XS.i2b X26.here hx rfl (hb hby at_253) rfl kt) ?_
  refine own_go (g' := (mkF m 257 #[.val (.int p1), .val (.int p2), .val (.int p3), .val (.ref b1), .val (.int y4), .val (.ref b5), .val (.ref b14), .val (.ref b20), .val (.long y27), .second, .unset, .unset, .unset] [])) (fun t kt => XS.icmpNo X26.here hx rfl (hb hby at_254) rfl (teq (own_v0 p1 p2 y27 hv_y27 : (own_byte p1 (0 : Int32)) = ((y27.toInt32).toInt8.toInt32))).2 kt) ?_
  refine own_go (g' := (mkF m 258 #[.val (.int p1), .val (.int p2), .val (.int p3), .val (.ref b1), .val (.int y4), .val (.ref b5), .val (.ref b14), .val (.ref b20), .val (.long y27), .second, .unset, .unset, .unset] [(.int (1 : Int32))])) (fun t kt => XS.iconst X26.here hx rfl (hb hby at_257) kt) ?_
  refine own_go (g' := (mkF m 262 #[.val (.int p1), .val (.int p2), .val (.int p3), .val (.ref b1), .val (.int y4), .val (.ref b5), .val (.ref b14), .val (.ref b20), .val (.long y27), .second, .unset, .unset, .unset] [(.int (1 : Int32))])) (fun t kt => XS.goto X26.here hx rfl (pc0 := 258) (pc' := 262) rfl (hb hby at_258) (by decide) (by decide) kt) ?_
  refine own_go (g' := (mkF m 264 #[.val (.int p1), .val (.int p2), .val (.int p3), .val (.ref b1), .val (.int y4), .val (.ref b5), .val (.ref b14), .val (.ref b20), .val (.long y27), .second, .val (.int (1 : Int32)), .unset, .unset] [])) (fun t kt => XS.istore X26.here hx rfl (hb hby at_262) rfl (l' := #[.val (.int p1), .val (.int p2), .val (.int p3), .val (.ref b1), .val (.int y4), .val (.ref b5), .val (.ref b14), .val (.ref b20), .val (.long y27), .second, .val (.int (1 : Int32)), .unset, .unset]) rfl kt) ?_
  refine own_go (g' := (mkF m 266 #[.val (.int p1), .val (.int p2), .val (.int p3), .val (.ref b1), .val (.int y4), .val (.ref b5), .val (.ref b14), .val (.ref b20), .val (.long y27), .second, .val (.int (1 : Int32)), .unset, .unset] [(.ref b14)])) (fun t kt => XS.aload X26.here hx rfl (hb hby at_264) rfl rfl kt) ?_
  refine own_go (g' := (mkF m 267 #[.val (.int p1), .val (.int p2), .val (.int p3), .val (.ref b1), .val (.int y4), .val (.ref b5), .val (.ref b14), .val (.ref b20), .val (.long y27), .second, .val (.int (1 : Int32)), .unset, .unset] [(.int (0 : Int32)), (.ref b14)])) (fun t kt => XS.iconst X26.here hx rfl (hb hby at_266) kt) ?_
  refine own_baload X26 hx hZ rfl V25_h26 ⟨by decide, by decide⟩ (v := (.int (own_byte p2 (0 : Int32)))) rfl (g := (mkF m 267 #[.val (.int p1), .val (.int p2), .val (.int p3), .val (.ref b1), .val (.int y4), .val (.ref b5), .val (.ref b14), .val (.ref b20), .val (.long y27), .second, .val (.int (1 : Int32)), .unset, .unset] [(.int (0 : Int32)), (.ref b14)])) rfl rfl (hb hby at_267) ?_
  show OEnds _ _ _ _ _ _ T26 (mkF m 268 #[.val (.int p1), .val (.int p2), .val (.int p3), .val (.ref b1), .val (.int y4), .val (.ref b5), .val (.ref b14), .val (.ref b20), .val (.long y27), .second, .val (.int (1 : Int32)), .unset, .unset] [(.int (own_byte p2 (0 : Int32)))])
  refine own_go (g' := (mkF m 270 #[.val (.int p1), .val (.int p2), .val (.int p3), .val (.ref b1), .val (.int y4), .val (.ref b5), .val (.ref b14), .val (.ref b20), .val (.long y27), .second, .val (.int (1 : Int32)), .unset, .unset] [(.long y27), (.int (own_byte p2 (0 : Int32)))])) (fun t kt => XS.lload X26.here hx rfl (hb hby at_268) rfl kt) ?_
  refine own_go (g' := (mkF m 272 #[.val (.int p1), .val (.int p2), .val (.int p3), .val (.ref b1), .val (.int y4), .val (.ref b5), .val (.ref b14), .val (.ref b20), .val (.long y27), .second, .val (.int (1 : Int32)), .unset, .unset] [(.int (32 : Int32)), (.long y27), (.int (own_byte p2 (0 : Int32)))])) (fun t kt => XS.bipush X26.here hx rfl (hb hby at_270) kt) ?_
  refine own_go (g' := (mkF m 273 #[.val (.int p1), .val (.int p2), .val (.int p3), .val (.ref b1), .val (.int y4), .val (.ref b5), .val (.ref b14), .val (.ref b20), .val (.long y27), .second, .val (.int (1 : Int32)), .unset, .unset] [(.long ((y27.toUInt64 >>> ((32 : Int32) &&& 0x3f).toInt64.toUInt64).toInt64)), (.int (own_byte p2 (0 : Int32)))])) (fun t kt => XS.lushr X26.here hx rfl (hb hby at_272) rfl kt) ?_
  refine own_go (g' := (mkF m 274 #[.val (.int p1), .val (.int p2), .val (.int p3), .val (.ref b1), .val (.int y4), .val (.ref b5), .val (.ref b14), .val (.ref b20), .val (.long y27), .second, .val (.int (1 : Int32)), .unset, .unset] [(.int (((y27.toUInt64 >>> ((32 : Int32) &&& 0x3f).toInt64.toUInt64).toInt64).toInt32)), (.int (own_byte p2 (0 : Int32)))])) (fun t kt => XS.l2i X26.here hx rfl (hb hby at_273) rfl kt) ?_
  refine own_go (g' := (mkF m 275 #[.val (.int p1), .val (.int p2), .val (.int p3), .val (.ref b1), .val (.int y4), .val (.ref b5), .val (.ref b14), .val (.ref b20), .val (.long y27), .second, .val (.int (1 : Int32)), .unset, .unset] [(.int ((((y27.toUInt64 >>> ((32 : Int32) &&& 0x3f).toInt64.toUInt64).toInt64).toInt32).toInt8.toInt32)), (.int (own_byte p2 (0 : Int32)))])) (fun t kt => XS.i2b X26.here hx rfl (hb hby at_274) rfl kt) ?_
  refine own_go (g' := (mkF m 278 #[.val (.int p1), .val (.int p2), .val (.int p3), .val (.ref b1), .val (.int y4), .val (.ref b5), .val (.ref b14), .val (.ref b20), .val (.long y27), .second, .val (.int (1 : Int32)), .unset, .unset] [])) (fun t kt => XS.icmpNo X26.here hx rfl (hb hby at_275) rfl (teq (own_v32 p1 p2 y27 hv_y27 : (own_byte p2 (0 : Int32)) = ((((y27.toUInt64 >>> ((32 : Int32) &&& 0x3f).toInt64.toUInt64).toInt64).toInt32).toInt8.toInt32))).2 kt) ?_
  refine own_go (g' := (mkF m 280 #[.val (.int p1), .val (.int p2), .val (.int p3), .val (.ref b1), .val (.int y4), .val (.ref b5), .val (.ref b14), .val (.ref b20), .val (.long y27), .second, .val (.int (1 : Int32)), .unset, .unset] [(.ref b14)])) (fun t kt => XS.aload X26.here hx rfl (hb hby at_278) rfl rfl kt) ?_
  refine own_go (g' := (mkF m 281 #[.val (.int p1), .val (.int p2), .val (.int p3), .val (.ref b1), .val (.int y4), .val (.ref b5), .val (.ref b14), .val (.ref b20), .val (.long y27), .second, .val (.int (1 : Int32)), .unset, .unset] [(.int (1 : Int32)), (.ref b14)])) (fun t kt => XS.iconst X26.here hx rfl (hb hby at_280) kt) ?_
  refine own_baload X26 hx hZ rfl V25_h26 ⟨by decide, by decide⟩ (v := (.int (own_byte p1 (24 : Int32)))) rfl (g := (mkF m 281 #[.val (.int p1), .val (.int p2), .val (.int p3), .val (.ref b1), .val (.int y4), .val (.ref b5), .val (.ref b14), .val (.ref b20), .val (.long y27), .second, .val (.int (1 : Int32)), .unset, .unset] [(.int (1 : Int32)), (.ref b14)])) rfl rfl (hb hby at_281) ?_
  show OEnds _ _ _ _ _ _ T26 (mkF m 282 #[.val (.int p1), .val (.int p2), .val (.int p3), .val (.ref b1), .val (.int y4), .val (.ref b5), .val (.ref b14), .val (.ref b20), .val (.long y27), .second, .val (.int (1 : Int32)), .unset, .unset] [(.int (own_byte p1 (24 : Int32)))])
  refine own_go (g' := (mkF m 284 #[.val (.int p1), .val (.int p2), .val (.int p3), .val (.ref b1), .val (.int y4), .val (.ref b5), .val (.ref b14), .val (.ref b20), .val (.long y27), .second, .val (.int (1 : Int32)), .unset, .unset] [(.long y27), (.int (own_byte p1 (24 : Int32)))])) (fun t kt => XS.lload X26.here hx rfl (hb hby at_282) rfl kt) ?_
  refine own_go (g' := (mkF m 286 #[.val (.int p1), .val (.int p2), .val (.int p3), .val (.ref b1), .val (.int y4), .val (.ref b5), .val (.ref b14), .val (.ref b20), .val (.long y27), .second, .val (.int (1 : Int32)), .unset, .unset] [(.int (24 : Int32)), (.long y27), (.int (own_byte p1 (24 : Int32)))])) (fun t kt => XS.bipush X26.here hx rfl (hb hby at_284) kt) ?_
  refine own_go (g' := (mkF m 287 #[.val (.int p1), .val (.int p2), .val (.int p3), .val (.ref b1), .val (.int y4), .val (.ref b5), .val (.ref b14), .val (.ref b20), .val (.long y27), .second, .val (.int (1 : Int32)), .unset, .unset] [(.long ((y27.toUInt64 >>> ((24 : Int32) &&& 0x3f).toInt64.toUInt64).toInt64)), (.int (own_byte p1 (24 : Int32)))])) (fun t kt => XS.lushr X26.here hx rfl (hb hby at_286) rfl kt) ?_
  refine own_go (g' := (mkF m 288 #[.val (.int p1), .val (.int p2), .val (.int p3), .val (.ref b1), .val (.int y4), .val (.ref b5), .val (.ref b14), .val (.ref b20), .val (.long y27), .second, .val (.int (1 : Int32)), .unset, .unset] [(.int (((y27.toUInt64 >>> ((24 : Int32) &&& 0x3f).toInt64.toUInt64).toInt64).toInt32)), (.int (own_byte p1 (24 : Int32)))])) (fun t kt => XS.l2i X26.here hx rfl (hb hby at_287) rfl kt) ?_
  refine own_go (g' := (mkF m 289 #[.val (.int p1), .val (.int p2), .val (.int p3), .val (.ref b1), .val (.int y4), .val (.ref b5), .val (.ref b14), .val (.ref b20), .val (.long y27), .second, .val (.int (1 : Int32)), .unset, .unset] [(.int ((((y27.toUInt64 >>> ((24 : Int32) &&& 0x3f).toInt64.toUInt64).toInt64).toInt32).toInt8.toInt32)), (.int (own_byte p1 (24 : Int32)))])) (fun t kt => XS.i2b X26.here hx rfl (hb hby at_288) rfl kt) ?_
  refine own_go (g' := (mkF m 292 #[.val (.int p1), .val (.int p2), .val (.int p3), .val (.ref b1), .val (.int y4), .val (.ref b5), .val (.ref b14), .val (.ref b20), .val (.long y27), .second, .val (.int (1 : Int32)), .unset, .unset] [])) (fun t kt => XS.icmpNo X26.here hx rfl (hb hby at_289) rfl (teq (own_v24 p1 p2 y27 hv_y27 : (own_byte p1 (24 : Int32)) = ((((y27.toUInt64 >>> ((24 : Int32) &&& 0x3f).toInt64.toUInt64).toInt64).toInt32).toInt8.toInt32))).2 kt) ?_
  refine own_go (g' := (mkF m 294 #[.val (.int p1), .val (.int p2), .val (.int p3), .val (.ref b1), .val (.int y4), .val (.ref b5), .val (.ref b14), .val (.ref b20), .val (.long y27), .second, .val (.int (1 : Int32)), .unset, .unset] [(.ref b14)])) (fun t kt => XS.aload X26.here hx rfl (hb hby at_292) rfl rfl kt) ?_
  refine own_go (g' := (mkF m 295 #[.val (.int p1), .val (.int p2), .val (.int p3), .val (.ref b1), .val (.int y4), .val (.ref b5), .val (.ref b14), .val (.ref b20), .val (.long y27), .second, .val (.int (1 : Int32)), .unset, .unset] [(.int (2 : Int32)), (.ref b14)])) (fun t kt => XS.iconst X26.here hx rfl (hb hby at_294) kt) ?_
  refine own_baload X26 hx hZ rfl V25_h26 ⟨by decide, by decide⟩ (v := (.int (own_byte p1 (16 : Int32)))) rfl (g := (mkF m 295 #[.val (.int p1), .val (.int p2), .val (.int p3), .val (.ref b1), .val (.int y4), .val (.ref b5), .val (.ref b14), .val (.ref b20), .val (.long y27), .second, .val (.int (1 : Int32)), .unset, .unset] [(.int (2 : Int32)), (.ref b14)])) rfl rfl (hb hby at_295) ?_
  show OEnds _ _ _ _ _ _ T26 (mkF m 296 #[.val (.int p1), .val (.int p2), .val (.int p3), .val (.ref b1), .val (.int y4), .val (.ref b5), .val (.ref b14), .val (.ref b20), .val (.long y27), .second, .val (.int (1 : Int32)), .unset, .unset] [(.int (own_byte p1 (16 : Int32)))])
  refine own_go (g' := (mkF m 298 #[.val (.int p1), .val (.int p2), .val (.int p3), .val (.ref b1), .val (.int y4), .val (.ref b5), .val (.ref b14), .val (.ref b20), .val (.long y27), .second, .val (.int (1 : Int32)), .unset, .unset] [(.long y27), (.int (own_byte p1 (16 : Int32)))])) (fun t kt => XS.lload X26.here hx rfl (hb hby at_296) rfl kt) ?_
  refine own_go (g' := (mkF m 300 #[.val (.int p1), .val (.int p2), .val (.int p3), .val (.ref b1), .val (.int y4), .val (.ref b5), .val (.ref b14), .val (.ref b20), .val (.long y27), .second, .val (.int (1 : Int32)), .unset, .unset] [(.int (16 : Int32)), (.long y27), (.int (own_byte p1 (16 : Int32)))])) (fun t kt => XS.bipush X26.here hx rfl (hb hby at_298) kt) ?_
  refine own_go (g' := (mkF m 301 #[.val (.int p1), .val (.int p2), .val (.int p3), .val (.ref b1), .val (.int y4), .val (.ref b5), .val (.ref b14), .val (.ref b20), .val (.long y27), .second, .val (.int (1 : Int32)), .unset, .unset] [(.long ((y27.toUInt64 >>> ((16 : Int32) &&& 0x3f).toInt64.toUInt64).toInt64)), (.int (own_byte p1 (16 : Int32)))])) (fun t kt => XS.lushr X26.here hx rfl (hb hby at_300) rfl kt) ?_
  refine own_go (g' := (mkF m 302 #[.val (.int p1), .val (.int p2), .val (.int p3), .val (.ref b1), .val (.int y4), .val (.ref b5), .val (.ref b14), .val (.ref b20), .val (.long y27), .second, .val (.int (1 : Int32)), .unset, .unset] [(.int (((y27.toUInt64 >>> ((16 : Int32) &&& 0x3f).toInt64.toUInt64).toInt64).toInt32)), (.int (own_byte p1 (16 : Int32)))])) (fun t kt => XS.l2i X26.here hx rfl (hb hby at_301) rfl kt) ?_
  refine own_go (g' := (mkF m 303 #[.val (.int p1), .val (.int p2), .val (.int p3), .val (.ref b1), .val (.int y4), .val (.ref b5), .val (.ref b14), .val (.ref b20), .val (.long y27), .second, .val (.int (1 : Int32)), .unset, .unset] [(.int ((((y27.toUInt64 >>> ((16 : Int32) &&& 0x3f).toInt64.toUInt64).toInt64).toInt32).toInt8.toInt32)), (.int (own_byte p1 (16 : Int32)))])) (fun t kt => XS.i2b X26.here hx rfl (hb hby at_302) rfl kt) ?_
  refine own_go (g' := (mkF m 306 #[.val (.int p1), .val (.int p2), .val (.int p3), .val (.ref b1), .val (.int y4), .val (.ref b5), .val (.ref b14), .val (.ref b20), .val (.long y27), .second, .val (.int (1 : Int32)), .unset, .unset] [])) (fun t kt => XS.icmpNo X26.here hx rfl (hb hby at_303) rfl (teq (own_v16 p1 p2 y27 hv_y27 : (own_byte p1 (16 : Int32)) = ((((y27.toUInt64 >>> ((16 : Int32) &&& 0x3f).toInt64.toUInt64).toInt64).toInt32).toInt8.toInt32))).2 kt) ?_
  refine own_go (g' := (mkF m 308 #[.val (.int p1), .val (.int p2), .val (.int p3), .val (.ref b1), .val (.int y4), .val (.ref b5), .val (.ref b14), .val (.ref b20), .val (.long y27), .second, .val (.int (1 : Int32)), .unset, .unset] [(.ref b14)])) (fun t kt => XS.aload X26.here hx rfl (hb hby at_306) rfl rfl kt) ?_
  refine own_go (g' := (mkF m 309 #[.val (.int p1), .val (.int p2), .val (.int p3), .val (.ref b1), .val (.int y4), .val (.ref b5), .val (.ref b14), .val (.ref b20), .val (.long y27), .second, .val (.int (1 : Int32)), .unset, .unset] [(.int (3 : Int32)), (.ref b14)])) (fun t kt => XS.iconst X26.here hx rfl (hb hby at_308) kt) ?_
  refine own_baload X26 hx hZ rfl V25_h26 ⟨by decide, by decide⟩ (v := (.int (own_byte p1 (8 : Int32)))) rfl (g := (mkF m 309 #[.val (.int p1), .val (.int p2), .val (.int p3), .val (.ref b1), .val (.int y4), .val (.ref b5), .val (.ref b14), .val (.ref b20), .val (.long y27), .second, .val (.int (1 : Int32)), .unset, .unset] [(.int (3 : Int32)), (.ref b14)])) rfl rfl (hb hby at_309) ?_
  show OEnds _ _ _ _ _ _ T26 (mkF m 310 #[.val (.int p1), .val (.int p2), .val (.int p3), .val (.ref b1), .val (.int y4), .val (.ref b5), .val (.ref b14), .val (.ref b20), .val (.long y27), .second, .val (.int (1 : Int32)), .unset, .unset] [(.int (own_byte p1 (8 : Int32)))])
  refine own_go (g' := (mkF m 312 #[.val (.int p1), .val (.int p2), .val (.int p3), .val (.ref b1), .val (.int y4), .val (.ref b5), .val (.ref b14), .val (.ref b20), .val (.long y27), .second, .val (.int (1 : Int32)), .unset, .unset] [(.long y27), (.int (own_byte p1 (8 : Int32)))])) (fun t kt => XS.lload X26.here hx rfl (hb hby at_310) rfl kt) ?_
  refine own_go (g' := (mkF m 314 #[.val (.int p1), .val (.int p2), .val (.int p3), .val (.ref b1), .val (.int y4), .val (.ref b5), .val (.ref b14), .val (.ref b20), .val (.long y27), .second, .val (.int (1 : Int32)), .unset, .unset] [(.int (8 : Int32)), (.long y27), (.int (own_byte p1 (8 : Int32)))])) (fun t kt => XS.bipush X26.here hx rfl (hb hby at_312) kt) ?_
  refine own_go (g' := (mkF m 315 #[.val (.int p1), .val (.int p2), .val (.int p3), .val (.ref b1), .val (.int y4), .val (.ref b5), .val (.ref b14), .val (.ref b20), .val (.long y27), .second, .val (.int (1 : Int32)), .unset, .unset] [(.long ((y27.toUInt64 >>> ((8 : Int32) &&& 0x3f).toInt64.toUInt64).toInt64)), (.int (own_byte p1 (8 : Int32)))])) (fun t kt => XS.lushr X26.here hx rfl (hb hby at_314) rfl kt) ?_
  refine own_go (g' := (mkF m 316 #[.val (.int p1), .val (.int p2), .val (.int p3), .val (.ref b1), .val (.int y4), .val (.ref b5), .val (.ref b14), .val (.ref b20), .val (.long y27), .second, .val (.int (1 : Int32)), .unset, .unset] [(.int (((y27.toUInt64 >>> ((8 : Int32) &&& 0x3f).toInt64.toUInt64).toInt64).toInt32)), (.int (own_byte p1 (8 : Int32)))])) (fun t kt => XS.l2i X26.here hx rfl (hb hby at_315) rfl kt) ?_
  refine own_go (g' := (mkF m 317 #[.val (.int p1), .val (.int p2), .val (.int p3), .val (.ref b1), .val (.int y4), .val (.ref b5), .val (.ref b14), .val (.ref b20), .val (.long y27), .second, .val (.int (1 : Int32)), .unset, .unset] [(.int ((((y27.toUInt64 >>> ((8 : Int32) &&& 0x3f).toInt64.toUInt64).toInt64).toInt32).toInt8.toInt32)), (.int (own_byte p1 (8 : Int32)))])) (fun t kt => XS.i2b X26.here hx rfl (hb hby at_316) rfl kt) ?_
  refine own_go (g' := (mkF m 320 #[.val (.int p1), .val (.int p2), .val (.int p3), .val (.ref b1), .val (.int y4), .val (.ref b5), .val (.ref b14), .val (.ref b20), .val (.long y27), .second, .val (.int (1 : Int32)), .unset, .unset] [])) (fun t kt => XS.icmpNo X26.here hx rfl (hb hby at_317) rfl (teq (own_v8 p1 p2 y27 hv_y27 : (own_byte p1 (8 : Int32)) = ((((y27.toUInt64 >>> ((8 : Int32) &&& 0x3f).toInt64.toUInt64).toInt64).toInt32).toInt8.toInt32))).2 kt) ?_
  refine own_go (g' := (mkF m 322 #[.val (.int p1), .val (.int p2), .val (.int p3), .val (.ref b1), .val (.int y4), .val (.ref b5), .val (.ref b14), .val (.ref b20), .val (.long y27), .second, .val (.int (1 : Int32)), .unset, .unset] [(.ref b14)])) (fun t kt => XS.aload X26.here hx rfl (hb hby at_320) rfl rfl kt) ?_
  refine own_go (g' := (mkF m 323 #[.val (.int p1), .val (.int p2), .val (.int p3), .val (.ref b1), .val (.int y4), .val (.ref b5), .val (.ref b14), .val (.ref b20), .val (.long y27), .second, .val (.int (1 : Int32)), .unset, .unset] [(.int (4 : Int32)), (.ref b14)])) (fun t kt => XS.iconst X26.here hx rfl (hb hby at_322) kt) ?_
  refine own_baload X26 hx hZ rfl V25_h26 ⟨by decide, by decide⟩ (v := (.int (own_byte p1 (0 : Int32)))) rfl (g := (mkF m 323 #[.val (.int p1), .val (.int p2), .val (.int p3), .val (.ref b1), .val (.int y4), .val (.ref b5), .val (.ref b14), .val (.ref b20), .val (.long y27), .second, .val (.int (1 : Int32)), .unset, .unset] [(.int (4 : Int32)), (.ref b14)])) rfl rfl (hb hby at_323) ?_
  show OEnds _ _ _ _ _ _ T26 (mkF m 324 #[.val (.int p1), .val (.int p2), .val (.int p3), .val (.ref b1), .val (.int y4), .val (.ref b5), .val (.ref b14), .val (.ref b20), .val (.long y27), .second, .val (.int (1 : Int32)), .unset, .unset] [(.int (own_byte p1 (0 : Int32)))])
  refine own_go (g' := (mkF m 326 #[.val (.int p1), .val (.int p2), .val (.int p3), .val (.ref b1), .val (.int y4), .val (.ref b5), .val (.ref b14), .val (.ref b20), .val (.long y27), .second, .val (.int (1 : Int32)), .unset, .unset] [(.long y27), (.int (own_byte p1 (0 : Int32)))])) (fun t kt => XS.lload X26.here hx rfl (hb hby at_324) rfl kt) ?_
  refine own_go (g' := (mkF m 327 #[.val (.int p1), .val (.int p2), .val (.int p3), .val (.ref b1), .val (.int y4), .val (.ref b5), .val (.ref b14), .val (.ref b20), .val (.long y27), .second, .val (.int (1 : Int32)), .unset, .unset] [(.int (y27.toInt32)), (.int (own_byte p1 (0 : Int32)))])) (fun t kt => XS.l2i X26.here hx rfl (hb hby at_326) rfl kt) ?_
  refine own_go (g' := (mkF m 328 #[.val (.int p1), .val (.int p2), .val (.int p3), .val (.ref b1), .val (.int y4), .val (.ref b5), .val (.ref b14), .val (.ref b20), .val (.long y27), .second, .val (.int (1 : Int32)), .unset, .unset] [(.int ((y27.toInt32).toInt8.toInt32)), (.int (own_byte p1 (0 : Int32)))])) (fun t kt => XS.i2b X26.here hx rfl (hb hby at_327) rfl kt) ?_
  refine own_go (g' := (mkF m 331 #[.val (.int p1), .val (.int p2), .val (.int p3), .val (.ref b1), .val (.int y4), .val (.ref b5), .val (.ref b14), .val (.ref b20), .val (.long y27), .second, .val (.int (1 : Int32)), .unset, .unset] [])) (fun t kt => XS.icmpNo X26.here hx rfl (hb hby at_328) rfl (teq (own_v0 p1 p2 y27 hv_y27 : (own_byte p1 (0 : Int32)) = ((y27.toInt32).toInt8.toInt32))).2 kt) ?_
  refine own_go (g' := (mkF m 332 #[.val (.int p1), .val (.int p2), .val (.int p3), .val (.ref b1), .val (.int y4), .val (.ref b5), .val (.ref b14), .val (.ref b20), .val (.long y27), .second, .val (.int (1 : Int32)), .unset, .unset] [(.int (1 : Int32))])) (fun t kt => XS.iconst X26.here hx rfl (hb hby at_331) kt) ?_
  refine own_go (g' := (mkF m 336 #[.val (.int p1), .val (.int p2), .val (.int p3), .val (.ref b1), .val (.int y4), .val (.ref b5), .val (.ref b14), .val (.ref b20), .val (.long y27), .second, .val (.int (1 : Int32)), .unset, .unset] [(.int (1 : Int32))])) (fun t kt => XS.goto X26.here hx rfl (pc0 := 332) (pc' := 336) rfl (hb hby at_332) (by decide) (by decide) kt) ?_
  refine own_go (g' := (mkF m 338 #[.val (.int p1), .val (.int p2), .val (.int p3), .val (.ref b1), .val (.int y4), .val (.ref b5), .val (.ref b14), .val (.ref b20), .val (.long y27), .second, .val (.int (1 : Int32)), .val (.int (1 : Int32)), .unset] [])) (fun t kt => XS.istore X26.here hx rfl (hb hby at_336) rfl (l' := #[.val (.int p1), .val (.int p2), .val (.int p3), .val (.ref b1), .val (.int y4), .val (.ref b5), .val (.ref b14), .val (.ref b20), .val (.long y27), .second, .val (.int (1 : Int32)), .val (.int (1 : Int32)), .unset]) rfl kt) ?_
  refine own_go (g' := (mkF m 340 #[.val (.int p1), .val (.int p2), .val (.int p3), .val (.ref b1), .val (.int y4), .val (.ref b5), .val (.ref b14), .val (.ref b20), .val (.long y27), .second, .val (.int (1 : Int32)), .val (.int (1 : Int32)), .unset] [(.ref b20)])) (fun t kt => XS.aload X26.here hx rfl (hb hby at_338) rfl rfl kt) ?_
  refine own_go (g' := (mkF m 341 #[.val (.int p1), .val (.int p2), .val (.int p3), .val (.ref b1), .val (.int y4), .val (.ref b5), .val (.ref b14), .val (.ref b20), .val (.long y27), .second, .val (.int (1 : Int32)), .val (.int (1 : Int32)), .unset] [(.int (0 : Int32)), (.ref b20)])) (fun t kt => XS.iconst X26.here hx rfl (hb hby at_340) kt) ?_
  refine own_baload X26 hx hZ rfl V26 ⟨by decide, by decide⟩ (v := (.int (own_byte p1 (16 : Int32)))) rfl (g := (mkF m 341 #[.val (.int p1), .val (.int p2), .val (.int p3), .val (.ref b1), .val (.int y4), .val (.ref b5), .val (.ref b14), .val (.ref b20), .val (.long y27), .second, .val (.int (1 : Int32)), .val (.int (1 : Int32)), .unset] [(.int (0 : Int32)), (.ref b20)])) rfl rfl (hb hby at_341) ?_
  show OEnds _ _ _ _ _ _ T26 (mkF m 342 #[.val (.int p1), .val (.int p2), .val (.int p3), .val (.ref b1), .val (.int y4), .val (.ref b5), .val (.ref b14), .val (.ref b20), .val (.long y27), .second, .val (.int (1 : Int32)), .val (.int (1 : Int32)), .unset] [(.int (own_byte p1 (16 : Int32)))])
  refine own_go (g' := (mkF m 344 #[.val (.int p1), .val (.int p2), .val (.int p3), .val (.ref b1), .val (.int y4), .val (.ref b5), .val (.ref b14), .val (.ref b20), .val (.long y27), .second, .val (.int (1 : Int32)), .val (.int (1 : Int32)), .unset] [(.long y27), (.int (own_byte p1 (16 : Int32)))])) (fun t kt => XS.lload X26.here hx rfl (hb hby at_342) rfl kt) ?_
  refine own_go (g' := (mkF m 346 #[.val (.int p1), .val (.int p2), .val (.int p3), .val (.ref b1), .val (.int y4), .val (.ref b5), .val (.ref b14), .val (.ref b20), .val (.long y27), .second, .val (.int (1 : Int32)), .val (.int (1 : Int32)), .unset] [(.int (16 : Int32)), (.long y27), (.int (own_byte p1 (16 : Int32)))])) (fun t kt => XS.bipush X26.here hx rfl (hb hby at_344) kt) ?_
  refine own_go (g' := (mkF m 347 #[.val (.int p1), .val (.int p2), .val (.int p3), .val (.ref b1), .val (.int y4), .val (.ref b5), .val (.ref b14), .val (.ref b20), .val (.long y27), .second, .val (.int (1 : Int32)), .val (.int (1 : Int32)), .unset] [(.long ((y27.toUInt64 >>> ((16 : Int32) &&& 0x3f).toInt64.toUInt64).toInt64)), (.int (own_byte p1 (16 : Int32)))])) (fun t kt => XS.lushr X26.here hx rfl (hb hby at_346) rfl kt) ?_
  refine own_go (g' := (mkF m 348 #[.val (.int p1), .val (.int p2), .val (.int p3), .val (.ref b1), .val (.int y4), .val (.ref b5), .val (.ref b14), .val (.ref b20), .val (.long y27), .second, .val (.int (1 : Int32)), .val (.int (1 : Int32)), .unset] [(.int (((y27.toUInt64 >>> ((16 : Int32) &&& 0x3f).toInt64.toUInt64).toInt64).toInt32)), (.int (own_byte p1 (16 : Int32)))])) (fun t kt => XS.l2i X26.here hx rfl (hb hby at_347) rfl kt) ?_
  refine own_go (g' := (mkF m 349 #[.val (.int p1), .val (.int p2), .val (.int p3), .val (.ref b1), .val (.int y4), .val (.ref b5), .val (.ref b14), .val (.ref b20), .val (.long y27), .second, .val (.int (1 : Int32)), .val (.int (1 : Int32)), .unset] [(.int ((((y27.toUInt64 >>> ((16 : Int32) &&& 0x3f).toInt64.toUInt64).toInt64).toInt32).toInt8.toInt32)), (.int (own_byte p1 (16 : Int32)))])) (fun t kt => XS.i2b X26.here hx rfl (hb hby at_348) rfl kt) ?_
  refine own_go (g' := (mkF m 352 #[.val (.int p1), .val (.int p2), .val (.int p3), .val (.ref b1), .val (.int y4), .val (.ref b5), .val (.ref b14), .val (.ref b20), .val (.long y27), .second, .val (.int (1 : Int32)), .val (.int (1 : Int32)), .unset] [])) (fun t kt => XS.icmpNo X26.here hx rfl (hb hby at_349) rfl (teq (own_v16 p1 p2 y27 hv_y27 : (own_byte p1 (16 : Int32)) = ((((y27.toUInt64 >>> ((16 : Int32) &&& 0x3f).toInt64.toUInt64).toInt64).toInt32).toInt8.toInt32))).2 kt) ?_
  refine own_go (g' := (mkF m 354 #[.val (.int p1), .val (.int p2), .val (.int p3), .val (.ref b1), .val (.int y4), .val (.ref b5), .val (.ref b14), .val (.ref b20), .val (.long y27), .second, .val (.int (1 : Int32)), .val (.int (1 : Int32)), .unset] [(.ref b20)])) (fun t kt => XS.aload X26.here hx rfl (hb hby at_352) rfl rfl kt) ?_
  refine own_go (g' := (mkF m 355 #[.val (.int p1), .val (.int p2), .val (.int p3), .val (.ref b1), .val (.int y4), .val (.ref b5), .val (.ref b14), .val (.ref b20), .val (.long y27), .second, .val (.int (1 : Int32)), .val (.int (1 : Int32)), .unset] [(.int (1 : Int32)), (.ref b20)])) (fun t kt => XS.iconst X26.here hx rfl (hb hby at_354) kt) ?_
  refine own_baload X26 hx hZ rfl V26 ⟨by decide, by decide⟩ (v := (.int (own_byte p1 (8 : Int32)))) rfl (g := (mkF m 355 #[.val (.int p1), .val (.int p2), .val (.int p3), .val (.ref b1), .val (.int y4), .val (.ref b5), .val (.ref b14), .val (.ref b20), .val (.long y27), .second, .val (.int (1 : Int32)), .val (.int (1 : Int32)), .unset] [(.int (1 : Int32)), (.ref b20)])) rfl rfl (hb hby at_355) ?_
  show OEnds _ _ _ _ _ _ T26 (mkF m 356 #[.val (.int p1), .val (.int p2), .val (.int p3), .val (.ref b1), .val (.int y4), .val (.ref b5), .val (.ref b14), .val (.ref b20), .val (.long y27), .second, .val (.int (1 : Int32)), .val (.int (1 : Int32)), .unset] [(.int (own_byte p1 (8 : Int32)))])
  refine own_go (g' := (mkF m 358 #[.val (.int p1), .val (.int p2), .val (.int p3), .val (.ref b1), .val (.int y4), .val (.ref b5), .val (.ref b14), .val (.ref b20), .val (.long y27), .second, .val (.int (1 : Int32)), .val (.int (1 : Int32)), .unset] [(.long y27), (.int (own_byte p1 (8 : Int32)))])) (fun t kt => XS.lload X26.here hx rfl (hb hby at_356) rfl kt) ?_
  refine own_go (g' := (mkF m 360 #[.val (.int p1), .val (.int p2), .val (.int p3), .val (.ref b1), .val (.int y4), .val (.ref b5), .val (.ref b14), .val (.ref b20), .val (.long y27), .second, .val (.int (1 : Int32)), .val (.int (1 : Int32)), .unset] [(.int (8 : Int32)), (.long y27), (.int (own_byte p1 (8 : Int32)))])) (fun t kt => XS.bipush X26.here hx rfl (hb hby at_358) kt) ?_
  refine own_go (g' := (mkF m 361 #[.val (.int p1), .val (.int p2), .val (.int p3), .val (.ref b1), .val (.int y4), .val (.ref b5), .val (.ref b14), .val (.ref b20), .val (.long y27), .second, .val (.int (1 : Int32)), .val (.int (1 : Int32)), .unset] [(.long ((y27.toUInt64 >>> ((8 : Int32) &&& 0x3f).toInt64.toUInt64).toInt64)), (.int (own_byte p1 (8 : Int32)))])) (fun t kt => XS.lushr X26.here hx rfl (hb hby at_360) rfl kt) ?_
  refine own_go (g' := (mkF m 362 #[.val (.int p1), .val (.int p2), .val (.int p3), .val (.ref b1), .val (.int y4), .val (.ref b5), .val (.ref b14), .val (.ref b20), .val (.long y27), .second, .val (.int (1 : Int32)), .val (.int (1 : Int32)), .unset] [(.int (((y27.toUInt64 >>> ((8 : Int32) &&& 0x3f).toInt64.toUInt64).toInt64).toInt32)), (.int (own_byte p1 (8 : Int32)))])) (fun t kt => XS.l2i X26.here hx rfl (hb hby at_361) rfl kt) ?_
  refine own_go (g' := (mkF m 363 #[.val (.int p1), .val (.int p2), .val (.int p3), .val (.ref b1), .val (.int y4), .val (.ref b5), .val (.ref b14), .val (.ref b20), .val (.long y27), .second, .val (.int (1 : Int32)), .val (.int (1 : Int32)), .unset] [(.int ((((y27.toUInt64 >>> ((8 : Int32) &&& 0x3f).toInt64.toUInt64).toInt64).toInt32).toInt8.toInt32)), (.int (own_byte p1 (8 : Int32)))])) (fun t kt => XS.i2b X26.here hx rfl (hb hby at_362) rfl kt) ?_
  refine own_go (g' := (mkF m 366 #[.val (.int p1), .val (.int p2), .val (.int p3), .val (.ref b1), .val (.int y4), .val (.ref b5), .val (.ref b14), .val (.ref b20), .val (.long y27), .second, .val (.int (1 : Int32)), .val (.int (1 : Int32)), .unset] [])) (fun t kt => XS.icmpNo X26.here hx rfl (hb hby at_363) rfl (teq (own_v8 p1 p2 y27 hv_y27 : (own_byte p1 (8 : Int32)) = ((((y27.toUInt64 >>> ((8 : Int32) &&& 0x3f).toInt64.toUInt64).toInt64).toInt32).toInt8.toInt32))).2 kt) ?_
  refine own_go (g' := (mkF m 368 #[.val (.int p1), .val (.int p2), .val (.int p3), .val (.ref b1), .val (.int y4), .val (.ref b5), .val (.ref b14), .val (.ref b20), .val (.long y27), .second, .val (.int (1 : Int32)), .val (.int (1 : Int32)), .unset] [(.ref b20)])) (fun t kt => XS.aload X26.here hx rfl (hb hby at_366) rfl rfl kt) ?_
  refine own_go (g' := (mkF m 369 #[.val (.int p1), .val (.int p2), .val (.int p3), .val (.ref b1), .val (.int y4), .val (.ref b5), .val (.ref b14), .val (.ref b20), .val (.long y27), .second, .val (.int (1 : Int32)), .val (.int (1 : Int32)), .unset] [(.int (2 : Int32)), (.ref b20)])) (fun t kt => XS.iconst X26.here hx rfl (hb hby at_368) kt) ?_
  refine own_baload X26 hx hZ rfl V26 ⟨by decide, by decide⟩ (v := (.int (own_byte p1 (0 : Int32)))) rfl (g := (mkF m 369 #[.val (.int p1), .val (.int p2), .val (.int p3), .val (.ref b1), .val (.int y4), .val (.ref b5), .val (.ref b14), .val (.ref b20), .val (.long y27), .second, .val (.int (1 : Int32)), .val (.int (1 : Int32)), .unset] [(.int (2 : Int32)), (.ref b20)])) rfl rfl (hb hby at_369) ?_
  show OEnds _ _ _ _ _ _ T26 (mkF m 370 #[.val (.int p1), .val (.int p2), .val (.int p3), .val (.ref b1), .val (.int y4), .val (.ref b5), .val (.ref b14), .val (.ref b20), .val (.long y27), .second, .val (.int (1 : Int32)), .val (.int (1 : Int32)), .unset] [(.int (own_byte p1 (0 : Int32)))])
  refine own_go (g' := (mkF m 372 #[.val (.int p1), .val (.int p2), .val (.int p3), .val (.ref b1), .val (.int y4), .val (.ref b5), .val (.ref b14), .val (.ref b20), .val (.long y27), .second, .val (.int (1 : Int32)), .val (.int (1 : Int32)), .unset] [(.long y27), (.int (own_byte p1 (0 : Int32)))])) (fun t kt => XS.lload X26.here hx rfl (hb hby at_370) rfl kt) ?_
  refine own_go (g' := (mkF m 373 #[.val (.int p1), .val (.int p2), .val (.int p3), .val (.ref b1), .val (.int y4), .val (.ref b5), .val (.ref b14), .val (.ref b20), .val (.long y27), .second, .val (.int (1 : Int32)), .val (.int (1 : Int32)), .unset] [(.int (y27.toInt32)), (.int (own_byte p1 (0 : Int32)))])) (fun t kt => XS.l2i X26.here hx rfl (hb hby at_372) rfl kt) ?_
  refine own_go (g' := (mkF m 374 #[.val (.int p1), .val (.int p2), .val (.int p3), .val (.ref b1), .val (.int y4), .val (.ref b5), .val (.ref b14), .val (.ref b20), .val (.long y27), .second, .val (.int (1 : Int32)), .val (.int (1 : Int32)), .unset] [(.int ((y27.toInt32).toInt8.toInt32)), (.int (own_byte p1 (0 : Int32)))])) (fun t kt => XS.i2b X26.here hx rfl (hb hby at_373) rfl kt) ?_
  refine own_go (g' := (mkF m 377 #[.val (.int p1), .val (.int p2), .val (.int p3), .val (.ref b1), .val (.int y4), .val (.ref b5), .val (.ref b14), .val (.ref b20), .val (.long y27), .second, .val (.int (1 : Int32)), .val (.int (1 : Int32)), .unset] [])) (fun t kt => XS.icmpNo X26.here hx rfl (hb hby at_374) rfl (teq (own_v0 p1 p2 y27 hv_y27 : (own_byte p1 (0 : Int32)) = ((y27.toInt32).toInt8.toInt32))).2 kt) ?_
  refine own_go (g' := (mkF m 378 #[.val (.int p1), .val (.int p2), .val (.int p3), .val (.ref b1), .val (.int y4), .val (.ref b5), .val (.ref b14), .val (.ref b20), .val (.long y27), .second, .val (.int (1 : Int32)), .val (.int (1 : Int32)), .unset] [(.int (1 : Int32))])) (fun t kt => XS.iconst X26.here hx rfl (hb hby at_377) kt) ?_
  refine own_go (g' := (mkF m 382 #[.val (.int p1), .val (.int p2), .val (.int p3), .val (.ref b1), .val (.int y4), .val (.ref b5), .val (.ref b14), .val (.ref b20), .val (.long y27), .second, .val (.int (1 : Int32)), .val (.int (1 : Int32)), .unset] [(.int (1 : Int32))])) (fun t kt => XS.goto X26.here hx rfl (pc0 := 378) (pc' := 382) rfl (hb hby at_378) (by decide) (by decide) kt) ?_
  refine own_go (g' := (mkF m 384 #[.val (.int p1), .val (.int p2), .val (.int p3), .val (.ref b1), .val (.int y4), .val (.ref b5), .val (.ref b14), .val (.ref b20), .val (.long y27), .second, .val (.int (1 : Int32)), .val (.int (1 : Int32)), .val (.int (1 : Int32))] [])) (fun t kt => XS.istore X26.here hx rfl (hb hby at_382) rfl (l' := #[.val (.int p1), .val (.int p2), .val (.int p3), .val (.ref b1), .val (.int y4), .val (.ref b5), .val (.ref b14), .val (.ref b20), .val (.long y27), .second, .val (.int (1 : Int32)), .val (.int (1 : Int32)), .val (.int (1 : Int32))]) rfl kt) ?_
  refine own_go (g' := (mkF m 386 #[.val (.int p1), .val (.int p2), .val (.int p3), .val (.ref b1), .val (.int y4), .val (.ref b5), .val (.ref b14), .val (.ref b20), .val (.long y27), .second, .val (.int (1 : Int32)), .val (.int (1 : Int32)), .val (.int (1 : Int32))] [(.int (1 : Int32))])) (fun t kt => XS.iload X26.here hx rfl (hb hby at_384) rfl kt) ?_
  refine own_go (g' := (mkF m 389 #[.val (.int p1), .val (.int p2), .val (.int p3), .val (.ref b1), .val (.int y4), .val (.ref b5), .val (.ref b14), .val (.ref b20), .val (.long y27), .second, .val (.int (1 : Int32)), .val (.int (1 : Int32)), .val (.int (1 : Int32))] [])) (fun t kt => XS.ifNo X26.here hx rfl (hb hby at_386) rfl ((if0 _ _).trans (feq ((by decide) : ¬ ((1 : Int32) = (0 : Int32)))).1) kt) ?_
  refine own_go (g' := (mkF m 391 #[.val (.int p1), .val (.int p2), .val (.int p3), .val (.ref b1), .val (.int y4), .val (.ref b5), .val (.ref b14), .val (.ref b20), .val (.long y27), .second, .val (.int (1 : Int32)), .val (.int (1 : Int32)), .val (.int (1 : Int32))] [(.int (1 : Int32))])) (fun t kt => XS.iload X26.here hx rfl (hb hby at_389) rfl kt) ?_
  refine own_go (g' := (mkF m 394 #[.val (.int p1), .val (.int p2), .val (.int p3), .val (.ref b1), .val (.int y4), .val (.ref b5), .val (.ref b14), .val (.ref b20), .val (.long y27), .second, .val (.int (1 : Int32)), .val (.int (1 : Int32)), .val (.int (1 : Int32))] [])) (fun t kt => XS.ifNo X26.here hx rfl (hb hby at_391) rfl ((if0 _ _).trans (feq ((by decide) : ¬ ((1 : Int32) = (0 : Int32)))).1) kt) ?_
  refine own_go (g' := (mkF m 396 #[.val (.int p1), .val (.int p2), .val (.int p3), .val (.ref b1), .val (.int y4), .val (.ref b5), .val (.ref b14), .val (.ref b20), .val (.long y27), .second, .val (.int (1 : Int32)), .val (.int (1 : Int32)), .val (.int (1 : Int32))] [(.int (1 : Int32))])) (fun t kt => XS.iload X26.here hx rfl (hb hby at_394) rfl kt) ?_
  refine own_go (g' := (mkF m 399 #[.val (.int p1), .val (.int p2), .val (.int p3), .val (.ref b1), .val (.int y4), .val (.ref b5), .val (.ref b14), .val (.ref b20), .val (.long y27), .second, .val (.int (1 : Int32)), .val (.int (1 : Int32)), .val (.int (1 : Int32))] [])) (fun t kt => XS.ifNo X26.here hx rfl (hb hby at_396) rfl ((if0 _ _).trans (feq ((by decide) : ¬ ((1 : Int32) = (0 : Int32)))).1) kt) ?_
  refine own_go (g' := (mkF m 400 #[.val (.int p1), .val (.int p2), .val (.int p3), .val (.ref b1), .val (.int y4), .val (.ref b5), .val (.ref b14), .val (.ref b20), .val (.long y27), .second, .val (.int (1 : Int32)), .val (.int (1 : Int32)), .val (.int (1 : Int32))] [(.ref b1)])) (fun t kt => XS.aloadN X26.here hx rfl (hb hby at_399) rfl rfl kt) ?_
  refine own_go (g' := (mkF m 401 #[.val (.int p1), .val (.int p2), .val (.int p3), .val (.ref b1), .val (.int y4), .val (.ref b5), .val (.ref b14), .val (.ref b20), .val (.long y27), .second, .val (.int (1 : Int32)), .val (.int (1 : Int32)), .val (.int (1 : Int32))] [(.int (0 : Int32)), (.ref b1)])) (fun t kt => XS.iconst X26.here hx rfl (hb hby at_400) kt) ?_
  refine own_iaload X26 hx hZ rfl V3_h26 ⟨by decide, by decide⟩ (v := (.int p1)) rfl (g := (mkF m 401 #[.val (.int p1), .val (.int p2), .val (.int p3), .val (.ref b1), .val (.int y4), .val (.ref b5), .val (.ref b14), .val (.ref b20), .val (.long y27), .second, .val (.int (1 : Int32)), .val (.int (1 : Int32)), .val (.int (1 : Int32))] [(.int (0 : Int32)), (.ref b1)])) rfl rfl (hb hby at_401) ?_
  show OEnds _ _ _ _ _ _ T26 (mkF m 402 #[.val (.int p1), .val (.int p2), .val (.int p3), .val (.ref b1), .val (.int y4), .val (.ref b5), .val (.ref b14), .val (.ref b20), .val (.long y27), .second, .val (.int (1 : Int32)), .val (.int (1 : Int32)), .val (.int (1 : Int32))] [(.int p1)])
  refine own_go (g' := (mkF m 403 #[.val (.int p1), .val (.int p2), .val (.int p3), .val (.ref b1), .val (.int y4), .val (.ref b5), .val (.ref b14), .val (.ref b20), .val (.long y27), .second, .val (.int (1 : Int32)), .val (.int (1 : Int32)), .val (.int (1 : Int32))] [(.int p1), (.int p1)])) (fun t kt => XS.iloadN X26.here hx rfl (hb hby at_402) rfl kt) ?_
  refine own_go (g' := (mkF m 406 #[.val (.int p1), .val (.int p2), .val (.int p3), .val (.ref b1), .val (.int y4), .val (.ref b5), .val (.ref b14), .val (.ref b20), .val (.long y27), .second, .val (.int (1 : Int32)), .val (.int (1 : Int32)), .val (.int (1 : Int32))] [])) (fun t kt => XS.icmpNo X26.here hx rfl (hb hby at_403) rfl (teq (rfl : p1 = p1)).2 kt) ?_
  refine own_go (g' := (mkF m 407 #[.val (.int p1), .val (.int p2), .val (.int p3), .val (.ref b1), .val (.int y4), .val (.ref b5), .val (.ref b14), .val (.ref b20), .val (.long y27), .second, .val (.int (1 : Int32)), .val (.int (1 : Int32)), .val (.int (1 : Int32))] [(.ref b1)])) (fun t kt => XS.aloadN X26.here hx rfl (hb hby at_406) rfl rfl kt) ?_
  refine own_go (g' := (mkF m 408 #[.val (.int p1), .val (.int p2), .val (.int p3), .val (.ref b1), .val (.int y4), .val (.ref b5), .val (.ref b14), .val (.ref b20), .val (.long y27), .second, .val (.int (1 : Int32)), .val (.int (1 : Int32)), .val (.int (1 : Int32))] [(.int (1 : Int32)), (.ref b1)])) (fun t kt => XS.iconst X26.here hx rfl (hb hby at_407) kt) ?_
  refine own_iaload X26 hx hZ rfl V3_h26 ⟨by decide, by decide⟩ (v := (.int p2)) rfl (g := (mkF m 408 #[.val (.int p1), .val (.int p2), .val (.int p3), .val (.ref b1), .val (.int y4), .val (.ref b5), .val (.ref b14), .val (.ref b20), .val (.long y27), .second, .val (.int (1 : Int32)), .val (.int (1 : Int32)), .val (.int (1 : Int32))] [(.int (1 : Int32)), (.ref b1)])) rfl rfl (hb hby at_408) ?_
  show OEnds _ _ _ _ _ _ T26 (mkF m 409 #[.val (.int p1), .val (.int p2), .val (.int p3), .val (.ref b1), .val (.int y4), .val (.ref b5), .val (.ref b14), .val (.ref b20), .val (.long y27), .second, .val (.int (1 : Int32)), .val (.int (1 : Int32)), .val (.int (1 : Int32))] [(.int p2)])
  refine own_go (g' := (mkF m 410 #[.val (.int p1), .val (.int p2), .val (.int p3), .val (.ref b1), .val (.int y4), .val (.ref b5), .val (.ref b14), .val (.ref b20), .val (.long y27), .second, .val (.int (1 : Int32)), .val (.int (1 : Int32)), .val (.int (1 : Int32))] [(.int p2), (.int p2)])) (fun t kt => XS.iloadN X26.here hx rfl (hb hby at_409) rfl kt) ?_
  refine own_go (g' := (mkF m 413 #[.val (.int p1), .val (.int p2), .val (.int p3), .val (.ref b1), .val (.int y4), .val (.ref b5), .val (.ref b14), .val (.ref b20), .val (.long y27), .second, .val (.int (1 : Int32)), .val (.int (1 : Int32)), .val (.int (1 : Int32))] [])) (fun t kt => XS.icmpNo X26.here hx rfl (hb hby at_410) rfl (teq (rfl : p2 = p2)).2 kt) ?_
  refine own_go (g' := (mkF m 414 #[.val (.int p1), .val (.int p2), .val (.int p3), .val (.ref b1), .val (.int y4), .val (.ref b5), .val (.ref b14), .val (.ref b20), .val (.long y27), .second, .val (.int (1 : Int32)), .val (.int (1 : Int32)), .val (.int (1 : Int32))] [(.int (1 : Int32))])) (fun t kt => XS.iconst X26.here hx rfl (hb hby at_413) kt) ?_
  refine own_go (g' := (mkF m 418 #[.val (.int p1), .val (.int p2), .val (.int p3), .val (.ref b1), .val (.int y4), .val (.ref b5), .val (.ref b14), .val (.ref b20), .val (.long y27), .second, .val (.int (1 : Int32)), .val (.int (1 : Int32)), .val (.int (1 : Int32))] [(.int (1 : Int32))])) (fun t kt => XS.goto X26.here hx rfl (pc0 := 414) (pc' := 418) rfl (hb hby at_414) (by decide) (by decide) kt) ?_
  exact own_retN X26 hx hlk (t := .boolean) (z' := (1 : Int32)) hret (by simp) (hb hby at_418) rfl rfl N26 (by decide) (by decide) (rfl)
set_option maxRecDepth 65536 in
set_option maxHeartbeats 40000000 in
theorem comes_1 {Post : Tables → Env → Array Value → State → Outcome → State → Prop} (hpost : ∀ tb e args s v u, (limb_1_1.after args s (.returned v) u = true ∧ limb_1_2.after args s (.returned v) u = true ∧ True) → FrameEnd s (.returned v) u (Jvm.fieldLocs frame_1_writes args s ++ Jvm.arrayLocs frame_1_arrays args s ++ Jvm.staticLocs frame_1_statics s) 16 128 → Post tb e args s (.returned v) u) :
    ArmFor flags0 classFile x code maxLocals ret World_1 tables_1 room_1 Calls_1 rest_1 Pre_1 Post := by
  intro l hfl _ _ p e ha hc hk s m args below hf hA hF happ hP
  obtain ⟨hcalls, hrest, hpre⟩ := hP
  obtain ⟨-, -, -, hnamed, -, -, -, hat⟩ := (Spec.applies_iff hf).mp happ
  obtain ⟨hg, hn⟩ := and_e (Cond.before_iff.mp (show (Jvm.Cond.and given_1 narrow_1).before args s = true from hpre))
  obtain ⟨g0, r0⟩ := and_e hg
  obtain ⟨k0, r1⟩ := and_e r0
  obtain ⟨k1, k2⟩ := and_e r1
  obtain ⟨w0, w1, w2, rfl⟩ : ∃ w0 w1 w2 : Value, args = #[w0, w1, w2] := by
    have hs : args.size = 3 := by simpa [Cond.value, given_1] using g0
    obtain ⟨L⟩ := args
    match L, hs with
    | [w0, w1, w2], _ => exact ⟨w0, w1, w2, rfl⟩
  have hw := fun d (hd : d ∈ tables_1) => atoms_spec (ws := Jvm.Cond.code x code maxLocals ret :: tables_1) hat d (List.mem_cons_of_mem _ hd)
  have hfit : Fit s := fun {y c} hc i hi => by
    obtain ⟨ha, rfl⟩ := Array.getElem?_eq_some_iff.mp hc
    have q := List.all_eq_true.mp ((Array.all_eq_true_iff_forall_mem.mp hF) _ (Array.getElem_mem ha)) i (List.mem_range.mpr hi)
    simpa [Array.getElem?_eq_getElem hi] using q
  obtain ⟨i0, ei0⟩ := is_v k0
  obtain rfl : w0 = (.int i0) := Option.some.inj ei0
  obtain ⟨i1, ei1⟩ := is_v k1
  obtain rfl : w1 = (.int i1) := Option.some.inj ei1
  obtain ⟨i2, ei2⟩ := is_v k2
  obtain rfl : w2 = (.int i2) := Option.some.inj ei2
  obtain ⟨n, o, h1, h2, h3, _, L, rfl, ⟨N, rfl⟩, hq⟩ := own_law l s _ hw i0 i1 i2 s.heap s.heap.size (Nat.le_refl _)  tables_1 p e ha hc hk s m _ below hf ((Spec.applies_iff_loose hf).mp happ).1 ⟨rfl, State.Warmed39.refl s, rfl⟩ trivial
  refine ⟨n, _, h1, h2, h3, hpost _ _ _ _ _ _ ⟨Cond.after_iff.mpr rfl, Cond.after_iff.mpr (eq_i res_at (Term.int_eval (1)) rfl), trivial⟩ ⟨hq.1, hq.2.1, (hq.2.2.sift fun y hy => Or.inr (N y hy)).mono (by decide) (by decide)⟩⟩
theorem main_1_1 : Claimed_1_1 := comes_1 fun _ _ _ _ _ _ h hF => ⟨h.1, hF⟩
theorem main_1_2 : Claimed_1_2 := comes_1 fun _ _ _ _ _ _ h hF => ⟨h.2.1, hF⟩
end Jvm.Pilot.@@N@@
namespace Jvm.Pilot.@@N@@
open Jvm Jvm.ClassFile Sem Op Lib Jvm.Free Jvm.Stand Jvm.Pilot.@@N@@.Jvm.D
/-! MADE BY PROGRAM (witnessworld.py) out of the Statement's table words and the real class files: 9 classes; the members and pool entries that the words name. The judged class is class 1, her method 1. -/
namespace start1
open Jvm.ClassFile
def u (s : String) : CpInfo := .utf8 (stringToUtf16 s)
/-- a pool by its gaps: so many unusable entries, then the entry; so many at the end -/
def gap : Nat → List CpInfo → List CpInfo
  | 0, r => r
  | n + 1, r => .unusable :: gap n r
def poolList (es : List (Nat × CpInfo)) (last : Nat) : List CpInfo := es.foldr (fun e r => gap e.1 (e.2 :: r)) (gap last [])
def pool (es : List (Nat × CpInfo)) (last : Nat) : Array CpInfo := ⟨poolList es last⟩
def fileOf (pool : Array CpInfo) (this : Nat) (attrs : Array Attribute := #[]) (ms : Array MethodInfo := #[]) (fl : Nat := 33) (sup : Nat := 0) (ifs : Array Nat := #[]) (fds : Array FieldInfo := #[]) : ClassFile where
  minorVersion := 0
  majorVersion := 65
  constantPool := pool
  accessFlags := fl
  thisClass := this
  superClass := sup
  interfaces := ifs
  fields := fds
  methods := ms
  attributes := attrs
def plain (name : String) (sup : Option ClassId) : Class where
  name := name
  kind := .ordinary
  loader := none
  accessFlags := 33
  super := sup
  interfaces := #[]
  cf := none
  fields := #[]
  methods := #[]
  instanceTypes := #[]
  staticTypes := #[]
  resolved := #[]
  callSites := []
  init := .initialized
  statics := none
  mirror := none

def pool0 : Array CpInfo := pool [(5, u "<init>"), (0, u "()V"), (1, .class_ 10), (1, u "java/lang/Object")] 113

def k0m0 : Method := { name := "<init>", desc := "()V", sig := { parameters := [], returnType := none }, accessFlags := 1, code := none }
/-- java/lang/Object -/
def k0 : Class := { plain "java/lang/Object" none with
  accessFlags := 33
  interfaces := #[]
  cf := some (fileOf pool0 8 #[] #[{ accessFlags := 1, nameIndex := 5, descriptorIndex := 6, attributes := #[] }] 33 0 #[] #[])
  fields := #[]
  methods := #[k0m0]
  instanceTypes := #[]
  staticTypes := #[]
  resolved := Array.replicate 124 none
  statics := none }

def pool1 : Array CpInfo := pool [(2, .class_ 4), (1, u "java/lang/Object"), (0, u "<init>"), (0, u "()V"), (0, .methodref 8 9), (0, .class_ 10), (0, .nameAndType 11 12), (0, u "com/example/clearcycle/clearcycle/Montgomery"), (0, u "toBytes"), (0, u "([I[B)V"), (0, .long 4294967295), (1, .class_ 16), (0, u "com/example/clearcycle/clearcycle/MontgomeryToBytesPinLaw"), (2, u "law"), (0, u "(III)Z")] 7

def k1m0 : Method := { name := "<init>", desc := "()V", sig := { parameters := [], returnType := none }, accessFlags := 1, code := none }
def k1c1 : Code := { maxStack := 6, maxLocals := 13, code := code, exceptionTable := #[], attributes := #[] }
def k1m1 : Method := { name := "law", desc := "(III)Z", sig := { parameters := [.int, .int, .int], returnType := some .boolean }, accessFlags := 9, code := some k1c1 }
/-- com/example/clearcycle/clearcycle/MontgomeryToBytesPinLaw -/
def k1 : Class := { plain "com/example/clearcycle/clearcycle/MontgomeryToBytesPinLaw" (some 0) with
  accessFlags := 49
  interfaces := #[]
  cf := some (fileOf pool1 15 #[] #[{ accessFlags := 1, nameIndex := 5, descriptorIndex := 6, attributes := #[] }, { accessFlags := 9, nameIndex := 19, descriptorIndex := 20, attributes := #[] }] 49 2 #[] #[])
  fields := #[]
  methods := #[k1m0, k1m1]
  instanceTypes := #[]
  staticTypes := #[]
  resolved := Array.replicate 28 none
  statics := none }

def pool2 : Array CpInfo := pool [(4, .class_ 6), (1, u "java/lang/Object"), (2, .class_ 10), (0, u "com/example/clearcycle/clearcycle/Montgomery"), (1, u "[I"), (2, u "powers"), (0, u "[[I"), (31, u "words"), (0, u "I"), (5, u "modulus"), (21, u "inverse"), (0, u "J"), (5, u "rSquared"), (2, u "formOfOne"), (2, u "one"), (2, u "sum"), (2, u "less"), (2, u "wide"), (2, u "picked"), (50, u "WORD"), (2, u "WINDOW"), (1, u "LOW"), (8, u "toBytes"), (0, u "([I[B)V")] 24

def k2c0 : Code := { maxStack := 5, maxLocals := 4, code := prog_59_method_7_code, exceptionTable := #[], attributes := #[] }
def k2m0 : Method := { name := "toBytes", desc := "([I[B)V", sig := { parameters := [(.array .int), (.array .byte)], returnType := none }, accessFlags := 8, code := some k2c0 }
/-- com/example/clearcycle/clearcycle/Montgomery -/
def k2 : Class := { plain "com/example/clearcycle/clearcycle/Montgomery" (some 0) with
  accessFlags := 48
  interfaces := #[]
  cf := some (fileOf pool2 9 #[] #[{ accessFlags := 8, nameIndex := 167, descriptorIndex := 168, attributes := #[] }] 48 4 #[] #[{ accessFlags := 24, nameIndex := 153, descriptorIndex := 49, attributes := #[] }, { accessFlags := 26, nameIndex := 156, descriptorIndex := 49, attributes := #[] }, { accessFlags := 24, nameIndex := 158, descriptorIndex := 78, attributes := #[] }, { accessFlags := 18, nameIndex := 55, descriptorIndex := 12, attributes := #[] }, { accessFlags := 18, nameIndex := 48, descriptorIndex := 49, attributes := #[] }, { accessFlags := 18, nameIndex := 77, descriptorIndex := 78, attributes := #[] }, { accessFlags := 18, nameIndex := 84, descriptorIndex := 12, attributes := #[] }, { accessFlags := 18, nameIndex := 90, descriptorIndex := 12, attributes := #[] }, { accessFlags := 18, nameIndex := 93, descriptorIndex := 12, attributes := #[] }, { accessFlags := 18, nameIndex := 96, descriptorIndex := 12, attributes := #[] }, { accessFlags := 18, nameIndex := 99, descriptorIndex := 12, attributes := #[] }, { accessFlags := 18, nameIndex := 15, descriptorIndex := 16, attributes := #[] }, { accessFlags := 18, nameIndex := 102, descriptorIndex := 12, attributes := #[] }, { accessFlags := 18, nameIndex := 87, descriptorIndex := 12, attributes := #[] }])
  fields := #[{ name := "WORD", type := .int, accessFlags := 24, slot := 0, constantValue := 0 }, { name := "WINDOW", type := .int, accessFlags := 26, slot := 1, constantValue := 0 }, { name := "LOW", type := .long, accessFlags := 24, slot := 2, constantValue := 0 }, { name := "modulus", type := (.array .int), accessFlags := 18, slot := 0, constantValue := 0 }, { name := "words", type := .int, accessFlags := 18, slot := 1, constantValue := 0 }, { name := "inverse", type := .long, accessFlags := 18, slot := 2, constantValue := 0 }, { name := "rSquared", type := (.array .int), accessFlags := 18, slot := 3, constantValue := 0 }, { name := "one", type := (.array .int), accessFlags := 18, slot := 4, constantValue := 0 }, { name := "sum", type := (.array .int), accessFlags := 18, slot := 5, constantValue := 0 }, { name := "less", type := (.array .int), accessFlags := 18, slot := 6, constantValue := 0 }, { name := "wide", type := (.array .int), accessFlags := 18, slot := 7, constantValue := 0 }, { name := "powers", type := (.array (.array .int)), accessFlags := 18, slot := 8, constantValue := 0 }, { name := "picked", type := (.array .int), accessFlags := 18, slot := 9, constantValue := 0 }, { name := "formOfOne", type := (.array .int), accessFlags := 18, slot := 10, constantValue := 0 }]
  methods := #[k2m0]
  instanceTypes := #[(.array .int), .int, .long, (.array .int), (.array .int), (.array .int), (.array .int), (.array .int), (.array (.array .int)), (.array .int), (.array .int)]
  staticTypes := #[.int, .int, .long]
  resolved := Array.replicate 193 none
  statics := none }

def pool3 : Array CpInfo := pool [(1, u "java/lang/Cloneable"), (0, .class_ 1), (0, u "java/lang/Object"), (0, .class_ 3)] 3

/-- java/lang/Cloneable -/
def k3 : Class := { plain "java/lang/Cloneable" (some 0) with
  accessFlags := 1537
  interfaces := #[]
  cf := some (fileOf pool3 2 #[] #[] 1537 4 #[] #[])
  fields := #[]
  methods := #[]
  instanceTypes := #[]
  staticTypes := #[]
  resolved := Array.replicate 8 none
  statics := none }

def pool4 : Array CpInfo := pool [(1, u "java/io/Serializable"), (0, .class_ 1), (0, u "java/lang/Object"), (0, .class_ 3)] 3

/-- java/io/Serializable -/
def k4 : Class := { plain "java/io/Serializable" (some 0) with
  accessFlags := 1537
  interfaces := #[]
  cf := some (fileOf pool4 2 #[] #[] 1537 4 #[] #[])
  fields := #[]
  methods := #[]
  instanceTypes := #[]
  staticTypes := #[]
  resolved := Array.replicate 8 none
  statics := none }

/-- the primitive byte -/
def k5 : Class := { plain "byte" none with kind := .primitive 'B', accessFlags := 0x411 }
/-- [B -/
def k6 : Class := { plain "[B" (some 0) with kind := .array 5 .byte, interfaces := #[3, 4], accessFlags := 1041 }

/-- the primitive int -/
def k7 : Class := { plain "int" none with kind := .primitive 'I', accessFlags := 0x411 }
/-- [I -/
def k8 : Class := { plain "[I" (some 0) with kind := .array 7 .int, interfaces := #[3, 4], accessFlags := 1041 }

def heap : Heap := #[]
def classes : Array Class := #[k0, k1, k2, k3, k4, k5, k6, k7, k8]
def interned : List (Array UInt16 × Addr) := []
def slotsUsed : Nat := 0
def theMethod : MethodId := ⟨1, 1⟩
def args0 : Array Value := #[.int 5, .int 7, .int 3]
def aboutOver (below : List Frame) : State where
  vm := { classes := classes, interned := interned.toArray }
  heap := heap
  slotsUsed := slotsUsed
  threads := #[{ frames := .invoking theMethod args0 :: below }]
def below0 : List Frame := [.native { method := ⟨0, 0⟩, args := #[] }]
def about1 : State := aboutOver below0
def p0 : Program := .bare "" "" ""
def e0 : Env := launch0.env 0 0 0
theorem w_frames : about1.frames = Frame.invoking theMethod args0 :: below0 := rfl
set_option maxRecDepth 65536 in
theorem w_args : argsFit about1.vm theMethod args0 = true := by decide +kernel
set_option maxRecDepth 65536 in
theorem w_heap : heapFits about1 = true := by decide +kernel
set_option maxRecDepth 65536 in
theorem w_runnable : about1.curStatus? = some .runnable := by decide +kernel
set_option maxRecDepth 65536 in
theorem w_alone : about1.alone = true := by decide +kernel
set_option maxRecDepth 65536 in
theorem w_named : about1.methodNamed? x = some theMethod := by decide +kernel
set_option maxRecDepth 65536 in
theorem w_hears : about1.hears theMethod below0 = true := by decide +kernel
set_option maxRecDepth 65536 in
theorem w_ripe : about1.ripe theMethod args0 below0 = true := by decide +kernel
theorem w_running : about1.status = .running := rfl
set_option maxRecDepth 65536 in
theorem w_room : about1.hasRoom e0.platform room_1 = true :=
  launch0.hasRoom_least _ room_1 (by decide +kernel) (by decide +kernel) (by decide +kernel) (by decide +kernel) (by decide +kernel) (by decide +kernel)
theorem allAtoms_all (ts : List Jvm.Cond) (a : Array Jvm.Value) (st : Jvm.State) : (allAtoms ts).before a st = ts.all (fun c => c.before a st) := by
  induction ts with
  | nil => rfl
  | cons c t ih =>
    show (Jvm.Cond.and c (allAtoms t)).before a st = _
    rw [Jvm.Cond.before_and, ih, List.all_cons]
def words1 : List Jvm.Cond := Jvm.Cond.code x code maxLocals ret :: tables_1
/-- a 'code' word, met by the world's own term for the bytes: nothing is compared byte by byte -/
theorem code_word {y : MethodName} {bytes : ByteArray} {mx : Nat} {rt : Option FieldType} {a : Array Value} {s : State} {m : MethodId} {meth : Method} {c : Code} (h1 : s.methodNamed? y = some m) (h2 : s.vm.method? m = some meth) (h3 : meth.code = some c) (h4 : c.code = bytes)
    (h5 : (c.maxLocals == mx && c.exceptionTable.isEmpty && decide (c.maxStack ≤ mostOperands) && decide (meth.sig.returnType = rt) && !meth.locks && decide (parseMethodDescriptor y.desc = some meth.sig)) = true) : (Jvm.Cond.code y bytes mx rt).before a s = true := by
  simp only [Bool.and_eq_true, beq_iff_eq, Bool.not_eq_true', decide_eq_true_eq] at h5
  obtain ⟨⟨⟨⟨⟨g1, g2⟩, g3⟩, g4⟩, g5⟩, g6⟩ := h5
  simp [Cond.before, Cond.holds, Cond.value, h1, h2, h3, h4, g1, g2, g3, g4, g5, g6]
def isCode : Jvm.Cond → Bool
  | .code _ _ _ _ => true
  | _ => false
theorem all_split {L : List Jvm.Cond} {P : Jvm.Cond → Bool} (h1 : L.all (fun c => isCode c || P c) = true) (h2 : ∀ c ∈ L.filter isCode, P c = true) : L.all P = true := by
  refine List.all_eq_true.mpr fun c hc => ?_
  have h := List.all_eq_true.mp h1 c hc
  rcases Bool.eq_false_or_eq_true (isCode c) with hi | hi
  · exact h2 c (List.mem_filter.mpr ⟨hc, hi⟩)
  · simpa [hi] using h
set_option maxRecDepth 65536 in
theorem w_c0 : (Jvm.Cond.code x code maxLocals ret).before args0 about1 = true := code_word (m := ⟨1, 1⟩) (meth := k1m1) (c := k1c1) (by decide +kernel) rfl rfl rfl (by decide +kernel)
set_option maxRecDepth 65536 in
theorem w_c1 : (Jvm.Cond.code ({ cls := "com/example/clearcycle/clearcycle/Montgomery", name := "toBytes", desc := "([I[B)V" } : Jvm.MethodName) prog_59_method_7_code (4 : Nat) (Option.none : Option Jvm.ClassFile.FieldType)).before args0 about1 = true := code_word (m := ⟨2, 0⟩) (meth := k2m0) (c := k2c0) (by decide +kernel) rfl rfl rfl (by decide +kernel)
def codes1 : List Jvm.Cond := [Jvm.Cond.code x code maxLocals ret, Jvm.Cond.code ({ cls := "com/example/clearcycle/clearcycle/Montgomery", name := "toBytes", desc := "([I[B)V" } : Jvm.MethodName) prog_59_method_7_code (4 : Nat) (Option.none : Option Jvm.ClassFile.FieldType)]
set_option maxRecDepth 65536 in
theorem codes_eq : words1.filter isCode = codes1 := rfl
theorem w_codes : ∀ c ∈ words1.filter isCode, c.before args0 about1 = true := by
  rw [codes_eq]
  intro c hc
  simp only [codes1, List.mem_cons, List.not_mem_nil, or_false] at hc
  rcases hc with rfl | rfl
  · exact w_c0
  · exact w_c1
set_option maxRecDepth 65536 in
theorem w_t1 : words1.all (fun c => isCode c || c.before args0 about1) = true := by decide +kernel
theorem w_tables : (allAtoms (Jvm.Cond.code x code maxLocals ret :: tables_1)).before args0 about1 = true := by
  rw [allAtoms_all]
  show words1.all (fun c => c.before args0 about1) = true
  refine all_split ?_ w_codes
  rw [w_t1]
set_option maxRecDepth 65536 in
theorem w_case : (Jvm.Cond.and given_1 narrow_1).before args0 about1 = true := by decide +kernel
theorem w_applies : (headSpec (Jvm.Cond.code x code maxLocals ret :: tables_1) room_1).applies x e0.platform about1 = true :=
  (Spec.applies_iff w_frames).mpr ⟨w_running, w_runnable, w_alone, w_named, w_hears, w_ripe, w_room, w_tables⟩
theorem atStart : AtStart classFile x code maxLocals ret World_1 tables_1 room_1 Calls_1 rest_1 Pre_1 launch0 p0 e0 about1 theMethod args0 below0 :=
  ⟨lists_1, trivial, launch0.admits_env _ _ _, launch0.least_env, fairChoices_fair.cas, fairChoices_fair.clock, w_frames, w_args, w_heap, w_applies, trivial, trivial, w_case⟩
end start1
theorem witness_1 : WitnessClaimed_1 := ⟨start1.p0, start1.e0, start1.about1, start1.theMethod, start1.args0, start1.below0, start1.atStart⟩
end Jvm.Pilot.@@N@@
