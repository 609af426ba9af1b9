import JvmDerived
import JvmDerived.Pilot.@@N@@Statement
import JvmDerived.Pilot.@@N@@Code
set_option linter.unusedVariables false
set_option linter.unusedSimpArgs false
namespace Jvm.Pilot.@@N@@
open Jvm Jvm.ClassFile Sem Op Lib Jvm.Free Jvm.Stand Jvm.LawKit Jvm.RoadKit Bundle Jvm.Pilot.@@N@@.Jvm.D
section Own
variable {p : Program} {l : Launch} {e : Env} {R : Room} {s : State} {m : MethodId} {args : Array Value} {below : List Frame} {meth : Method} {c : Code} {T T' : State} {locs : List Loc} {cells slots : Nat} {g g' : JFrame} {C S n0 : Nat} {F : Outcome → State → List Loc → Prop} {Q : Option Value → Heap → Prop} {Z : State} {a0 : Array Value} {h h' h0 : Heap} {rest argsL : List Value} {own : String} {index : Nat} {a b : Addr} {k : ClassId} {ty : FieldType} {n j : Int32} {vs : List Value} {dv v : Value}
/-- from here the run comes to its return, and what it leaves is Q -/
def OEnds (p : Program) (e : Env) (below : List Frame) (F : Outcome → State → List Loc → Prop) (n0 : Nat) (Q : Option Value → Heap → Prop) (T : State) (g : JFrame) : Prop :=
  ∃ t o, Steps p.tables e below (T.setTop g) t ∧ t.status = .running ∧ Ended t below o ∧ ∃ v L, o = .returned v ∧ (Fr n0 L ∧ Q v t.heap) ∧ F o t L
/-- a body's contract -/
def OCon (l : Launch) (y : MethodName) (bytes : ByteArray) (ml : Nat) (ret : Option FieldType) (rm : Room) (Z : State) (as : Array Value) (h0 : Heap) (n0 : Nat) (Q : Option Value → Heap → Prop) : Prop :=
  ∀ ws, MetFree l y (head1 (Jvm.Cond.code y bytes ml ret :: ws) rm) (fun a U => a = as ∧ Z.Warmed39 U.vm ∧ U.heap = h0) (fun _ _ _ _ _ => True) (fun _ U o U' => ∃ v L, o = .returned v ∧ (Fr n0 L ∧ Q v U'.heap) ∧ FrameEnd U o U' L rm.cells rm.slots)
theorem own_body {y : MethodName} {bytes : ByteArray} {ml : Nat} {ret : Option FieldType} {rm : Room} {as : Array Value} (hp : plainFor y = true)
    (kk : ∀ (p : Program) (e : Env) (s : State) (m : MethodId) (below : List Frame) (meth : Method) (c : Code) (T : State), p.tables.exec = Jvm.exec → Z.Warmed39 s.vm → c.code = bytes → c.maxLocals = ml → s.vm.findClass y.cls = some m.cls → meth.name = y.name → meth.sig.returnType = ret → meth.locks = false → T.heap = h0 →
      Stand p l e rm s m as below meth c T [] 0 0 → OEnds p e below (fun o t L => FrameEnd s o t L rm.cells rm.slots) n0 Q T (entryFrame m as ml)) : OCon l y bytes ml ret rm Z as h0 n0 Q := by
  intro ws
  refine MetFree.of_bodySF hp hisR ?_
  intro p e s m args below meth c s₁ Bd hml0 hP hK
  obtain ⟨rfl, hZ, hh⟩ := hP
  exact kk p e s m below meth c s₁ Bd.exec hZ Bd.bytes hml0 (findClass_of_methodNamed Bd.named) (name_of_methodNamed Bd.named Bd.method).1 Bd.returns Bd.notSynchronized (by rw [← hh, Bd.state]; rfl) (Stand.of_body Bd)
theorem own_go (kk : ∀ t, Steps p.tables e below (T'.setTop g') t → Steps p.tables e below (T.setTop g) t) (hE : OEnds p e below F n0 Q T' g') : OEnds p e below F n0 Q T g := by
  obtain ⟨t, o, h1, h2⟩ := hE
  exact ⟨t, o, kk t h1, h2⟩
theorem own_at (q : g = g') (hE : OEnds p e below F n0 Q T g') : OEnds p e below F n0 Q T g := q ▸ hE
theorem own_let {α : Sort _} {P : α → Prop} (a : α) (hh : ∀ x, x = a → P x) : P a := hh a rfl
theorem own_cast {α : Sort _} {P : α → Prop} {a b : α} (q : a = b) (hh : P b) : P a := q ▸ hh
theorem own_fin (X : Stand p l e R s m args below meth c T locs cells slots) (hlk : meth.locks = false) {v : Option Value} (hv : meth.sig.returnType = none → v = none)
    (st : ∀ fs, (∀ (f : JFrame) (acts : List Action), f.method = m → f.locked = none → f.entered = [] → (doReturn e (T.setTop f) acts v).1 = T.setFrames fs) → Steps p.tables e below (T.setTop g) (T.setFrames fs))
    (N : Fr n0 locs) (hc : cells ≤ C) (hs : slots ≤ S) (q : Q v T.heap) : OEnds p e below (fun o t L => FrameEnd s o t L C S) n0 Q T g := by
  obtain ⟨fs, hr, hrun, hended, hW, hsame⟩ := X.leave (v := v) hv hlk
  exact ⟨_, _, st fs hr, hrun, hended, _, _, rfl, ⟨N, q⟩, ⟨_, rfl⟩, hW, hsame.mono hc hs⟩
theorem own_retI0 (X : Stand p l e R s m args below meth c T locs cells slots) (hx : p.tables.exec = Jvm.exec) {pc : Nat} {Ls : Array Slot} {z : Int32} {rest : List Value} (hret : meth.sig.returnType = some .int) (hd : decode c.code pc = .ok (.ireturn, 1)) {fs : List Frame}
    (hl : ∀ (f : JFrame) (acts : List Action), f.method = m → f.locked = none → f.entered = [] → (doReturn e (T.setTop f) acts (some (.int z))).1 = T.setFrames fs) : Steps p.tables e below (T.setTop (mkF m pc Ls (.int z :: rest))) (T.setFrames fs) := by
  have hm' : T.vm.method? m = some meth := X.method'
  have hn : narrow .int (.int z) = .int z := rfl
  show Steps p.tables e below (T.setTop { method := m, pc := pc, locals := Ls, stack := _ :: rest, locked := none }) _
  jvm_step X.here [X.here.top, hx, hd, hm', hret, hn]
  first | (intro acts; rw [hl _ acts rfl rfl rfl]) | rw [hl _ _ rfl rfl rfl]
  exact Steps.refl _
theorem own_retI (X : Stand p l e R s m args below meth c T locs cells slots) (hx : p.tables.exec = Jvm.exec) (hlk : meth.locks = false) {pc : Nat} {Ls : Array Slot} {z : Int32} (hret : meth.sig.returnType = some .int) (hd : decode c.code pc = .ok (.ireturn, 1)) (eT : T.heap = h) (N : Fr n0 locs) (hc : cells ≤ C) (hs : slots ≤ S) (q : Q (some (.int z)) h) : OEnds p e below (fun o t L => FrameEnd s o t L C S) n0 Q T (mkF m pc Ls (.int z :: rest)) :=
  own_fin X hlk (fun hn => by rw [hret] at hn; cases hn) (fun fs hl => own_retI0 X hx hret hd hl) N hc hs (eT ▸ q)
theorem own_retN (X : Stand p l e R s m args below meth c T locs cells slots) (hx : p.tables.exec = Jvm.exec) (hlk : meth.locks = false) {t : FieldType} {pc : Nat} {Ls : Array Slot} {z z' : Int32} (hret : meth.sig.returnType = some t) (ht : t = .boolean ∨ t = .byte ∨ t = .char ∨ t = .short) (hd : decode c.code pc = .ok (.ireturn, 1)) (hz : nar t z = z') (eT : T.heap = h) (N : Fr n0 locs) (hc : cells ≤ C) (hs : slots ≤ S) (q : Q (some (.int z')) h) : OEnds p e below (fun o t L => FrameEnd s o t L C S) n0 Q T (mkF m pc Ls (.int z :: rest)) :=
  own_fin X hlk (v := some (.int (nar t z))) (fun hn => by rw [hret] at hn; cases hn) (fun fs hl => retN X hx hret ht hd hl) N hc hs (by rw [hz, eT]; exact q)
theorem own_retJ (X : Stand p l e R s m args below meth c T locs cells slots) (hx : p.tables.exec = Jvm.exec) (hlk : meth.locks = false) {pc : Nat} {Ls : Array Slot} {z : Int64} (hret : meth.sig.returnType = some .long) (hd : decode c.code pc = .ok (.lreturn, 1)) (eT : T.heap = h) (N : Fr n0 locs) (hc : cells ≤ C) (hs : slots ≤ S) (q : Q (some (.long z)) h) : OEnds p e below (fun o t L => FrameEnd s o t L C S) n0 Q T (mkF m pc Ls [.long z]) :=
  own_fin X hlk (fun hn => by rw [hret] at hn; cases hn) (fun fs hl => X.lreturnOut hx hret hd hl) N hc hs (eT ▸ q)
theorem own_retA (X : Stand p l e R s m args below meth c T locs cells slots) (hx : p.tables.exec = Jvm.exec) (hlk : meth.locks = false) {t : FieldType} {pc : Nat} {Ls : Array Slot} {w : Value} (hw : w.isRef = true) (hret : meth.sig.returnType = some t) (ht : t.isReference = true) (hd : decode c.code pc = .ok (.areturn, 1)) (eT : T.heap = h) (N : Fr n0 locs) (hc : cells ≤ C) (hs : slots ≤ S) (q : Q (some w) h) : OEnds p e below (fun o t L => FrameEnd s o t L C S) n0 Q T (mkF m pc Ls [w]) :=
  own_fin X hlk (fun hn => by rw [hret] at hn; cases hn) (fun fs hl => X.areturnOut hx hw hret ht hd hl) N hc hs (eT ▸ q)
theorem own_retV (X : Stand p l e R s m args below meth c T locs cells slots) (hx : p.tables.exec = Jvm.exec) (hlk : meth.locks = false) {pc : Nat} {Ls : Array Slot} (hret : meth.sig.returnType = none) (hd : decode c.code pc = .ok (.return_, 1)) (eT : T.heap = h) (N : Fr n0 locs) (hc : cells ≤ C) (hs : slots ≤ S) (q : Q none h) : OEnds p e below (fun o t L => FrameEnd s o t L C S) n0 Q T (mkF m pc Ls []) :=
  own_fin X hlk (fun _ => rfl) (fun fs hl => X.returnOut hx hret hd hl) N hc hs (eT ▸ q)
/-! calls -/
theorem own_callS (X : Stand p l e R s m args below meth c T locs cells slots) (hx : p.tables.exec = Jvm.exec) (hZ : Z.Warmed39 s.vm) {y : MethodName} {bytes : ByteArray} {maxL W : Nat} {ret : Option FieldType} {rm : Room} {Qc : Option Value → Heap → Prop} (hown : s.vm.findClass own = some m.cls)
    (w1 : (Cond.methodLink own index y).before a0 Z = true) (w2 : (Cond.static y).before a0 Z = true) (w3 : (Cond.initialized y.cls).before a0 Z = true) (w4 : (Cond.code y bytes maxL ret).before a0 Z = true) (hy : y.cls ≠ "java/lang/invoke/MethodHandle" ∧ y.cls ≠ "java/lang/invoke/VarHandle")
    (K : OCon l y bytes maxL ret rm Z argsL.toArray h n0 Qc) (hfr : rm.frames + 1 ≤ R.frames) (hlo : W + (maxL + 11) + rm.locals ≤ R.locals) (hg : g.method = m) (hsize : g.locals.size = c.maxLocals) (hlen : ∀ sig, parseMethodDescriptor y.desc = some sig → argsL.length = sig.parameters.length)
    (hstack : g.stack = argsL.reverse ++ rest) (hW : 2 * g.monitorRoom + (rest.map fun v => v.category).sum ≤ W) (hd : decode c.code g.pc = .ok (.invokestatic index, 3)) (eT : T.heap = h) (N : Fr n0 locs) (hc : cells + rm.cells ≤ R.cells) (hs : slots + rm.slots ≤ R.slots)
    (kk : ∀ (v : Option Value) (T' : State) (locs' : List Loc), Stand p l e R s m args below meth c T' locs' (cells + rm.cells) (slots + rm.slots) → Fr n0 locs' → Qc v T'.heap → OEnds p e below F n0 Q T' { g with pc := g.pc + 3, stack := v.toList ++ rest }) : OEnds p e below F n0 Q T g := by
  obtain ⟨v, vm₁, ⟨T', L', k', n'⟩, -, X', ⟨Lc, ⟨N', hQ⟩, l', y', z'⟩, st⟩ := Jvm.LawKit.callS X hx hown (mvT hZ w1) (mvT hZ w2) (mvT hZ w3) (mvT hZ w4) hy (backOf (W := W) (Q := fun v h L => Fr n0 L ∧ Qc v h) (K []) hZ w4 w3 hfr hlo) hg hsize hlen hstack hW hd (fun _ _ => ⟨rfl, eT, hc, hs⟩)
  dsimp only [Pt.U, Pt.locs, Pt.cells, Pt.slots] at X' l' y' z' st hQ
  subst l' y' z'
  exact own_go st (kk v T' _ X' (Fr.app N N') hQ)
theorem own_callC (X : Stand p l e R s m args below meth c T locs cells slots) (hx : p.tables.exec = Jvm.exec) (hZ : Z.Warmed39 s.vm) {y : MethodName} {bytes : ByteArray} {maxL W : Nat} {rm : Room} {Qc : Option Value → Heap → Prop} (hy1 : y.name = "<init>") (hown : s.vm.findClass own = some m.cls)
    (w1 : (Cond.methodLink own index y).before a0 Z = true) (w2 : (Cond.instanceMethod y).before a0 Z = true) (w3 : (Cond.initialized y.cls).before a0 Z = true) (w4 : (Cond.code y bytes maxL none).before a0 Z = true) (hy : y.cls ≠ "java/lang/invoke/MethodHandle" ∧ y.cls ≠ "java/lang/invoke/VarHandle")
    (K : OCon l y bytes maxL none rm Z (.ref a :: argsL).toArray h n0 Qc) (hfr : rm.frames + 1 ≤ R.frames) (hlo : W + (maxL + 11) + rm.locals ≤ R.locals) (hg : g.method = m) (hsize : g.locals.size = c.maxLocals) (hlen : ∀ sig, parseMethodDescriptor y.desc = some sig → argsL.length = sig.parameters.length)
    (hstack : g.stack = argsL.reverse ++ .ref a :: rest) (hW : 2 * g.monitorRoom + (rest.map fun v => v.category).sum ≤ W) (hd : decode c.code g.pc = .ok (.invokespecial index, 3)) (eT : T.heap = h) (N : Fr n0 locs) (hc : cells + rm.cells ≤ R.cells) (hs : slots + rm.slots ≤ R.slots)
    (kk : ∀ (v : Option Value) (T' : State) (locs' : List Loc), Stand p l e R s m args below meth c T' locs' (cells + rm.cells) (slots + rm.slots) → Fr n0 locs' → Qc v T'.heap → OEnds p e below F n0 Q T' { g with pc := g.pc + 3, stack := v.toList ++ rest }) : OEnds p e below F n0 Q T g := by
  obtain ⟨v, vm₁, ⟨T', L', k', n'⟩, -, X', ⟨Lc, ⟨N', hQ⟩, l', y', z'⟩, st⟩ := X.specialBack hx hy1 hown (mvT hZ w1) (mvT hZ w2) (mvT hZ w4) hy (backOf (W := W) (Q := fun v h L => Fr n0 L ∧ Qc v h) (K []) hZ w4 w3 hfr hlo) hg hsize (Steps.refl _) hlen hstack hW hd (fun _ _ => ⟨rfl, eT, hc, hs⟩)
  dsimp only [Pt.U, Pt.locs, Pt.cells, Pt.slots] at X' l' y' z' st hQ
  subst l' y' z'
  exact own_go (fun t kt => st.trans kt) (kk v T' _ X' (Fr.app N N') hQ)
theorem own_callV (X : Stand p l e R s m args below meth c T locs cells slots) (hx : p.tables.exec = Jvm.exec) (hZ : Z.Warmed39 s.vm) {y : MethodName} {bytes : ByteArray} {maxL W : Nat} {ret : Option FieldType} {rm : Room} {Qc : Option Value → Heap → Prop} {C0 : String} (hown : s.vm.findClass own = some m.cls)
    (w1 : (Cond.methodLink own index y).before a0 Z = true) (wd : (Cond.declares y).before a0 Z = true) (ws : (Cond.selects C0 y y).before a0 Z = true) (w2 : (Cond.instanceMethod y).before a0 Z = true) (w3 : (Cond.initialized y.cls).before a0 Z = true) (w4 : (Cond.code y bytes maxL ret).before a0 Z = true) (hy : y.cls ≠ "java/lang/invoke/MethodHandle" ∧ y.cls ≠ "java/lang/invoke/VarHandle")
    (K : OCon l y bytes maxL ret rm Z (.ref a :: argsL).toArray h n0 Qc) (E : Exa Z h a C0) (hfr : rm.frames + 1 ≤ R.frames) (hlo : W + (maxL + 11) + rm.locals ≤ R.locals) (hg : g.method = m) (hsize : g.locals.size = c.maxLocals) (hlen : ∀ sig, parseMethodDescriptor y.desc = some sig → argsL.length = sig.parameters.length)
    (hstack : g.stack = argsL.reverse ++ .ref a :: rest) (hW : 2 * g.monitorRoom + (rest.map fun v => v.category).sum ≤ W) (hd : decode c.code g.pc = .ok (.invokevirtual index, 3)) (eT : T.heap = h) (N : Fr n0 locs) (hc : cells + rm.cells ≤ R.cells) (hs : slots + rm.slots ≤ R.slots)
    (kk : ∀ (v : Option Value) (T' : State) (locs' : List Loc), Stand p l e R s m args below meth c T' locs' (cells + rm.cells) (slots + rm.slots) → Fr n0 locs' → Qc v T'.heap → OEnds p e below F n0 Q T' { g with pc := g.pc + 3, stack := v.toList ++ rest }) : OEnds p e below F n0 Q T g := by
  obtain ⟨cq, kq, qa, qb, qc⟩ := isOf hZ eT E
  obtain ⟨v, vm₁, ⟨T', L', k', n'⟩, -, X', ⟨Lc, ⟨N', hQ⟩, l', y', z'⟩, st⟩ := X.virtualBack hx hown (mvT hZ w1) (mvT hZ wd) (notFace_of_selects (args := #[]) (mvT hZ ws)) (mvT hZ ws) (mvT hZ w2) hy (backOf (W := W) (Q := fun v h L => Fr n0 L ∧ Qc v h) (K []) hZ w4 w3 hfr hlo) qa qc hg hsize (Steps.refl _) hlen hstack hW hd (fun _ _ => ⟨rfl, eT, hc, hs⟩)
  dsimp only [Pt.U, Pt.locs, Pt.cells, Pt.slots] at X' l' y' z' st hQ
  subst l' y' z'
  exact own_go (fun t kt => st.trans kt) (kk v T' _ X' (Fr.app N N') hQ)
/-! fields -/
theorem own_getF (X : Stand p l e R s m args below meth c T locs cells slots) (hx : p.tables.exec = Jvm.exec) (hZ : Z.Warmed39 s.vm) {O nm d : String} (hown : s.vm.findClass own = some m.cls) (w : (Cond.fieldLink own index O nm d).before a0 Z = true) (eT : T.heap = h) (Fv : Fld Z h a O nm d v) (hg : g.method = m) (hs : g.stack = .ref a :: rest) (hd : decode c.code g.pc = .ok (.getfield index, 3))
    (kk : ∀ T', Stand p l e R s m args below meth c T' locs cells slots → T'.heap = h → OEnds p e below F n0 Q T' { g with pc := g.pc + 3, stack := v :: rest }) : OEnds p e below F n0 Q T g := by
  obtain ⟨T', X', e', st⟩ := getF X hx hZ hown (host := "") (Or.inl w) Via.refl eT Fv hg hs hd
  exact own_go st (kk T' X' e')
theorem own_putF (X : Stand p l e R s m args below meth c T locs cells slots) (hx : p.tables.exec = Jvm.exec) (hZ : Z.Warmed39 s.vm) {O nm d C0 : String} {kk0 : Nat} {v' old : Value} (hown : s.vm.findClass own = some m.cls) (w : (Cond.fieldLink own index O nm d).before a0 Z = true) (eT : T.heap = h) (Fv : Fld Z h a O nm d old) (E : Exa Z h a C0)
    (L : (Cond.lays C0 O nm d).before a0 Z = true ∨ ((Cond.laysFinal C0 O nm d).before a0 Z = true ∧ own = O ∧ meth.name = "<init>")) (wi : (Cond.instantiable C0 kk0).before a0 Z = true) (hty : parseFieldDescriptor d = some ty) (hn : narrow ty v = v') (hf : fits ty v' = true) (N : Fr n0 locs) (ga : n0 ≤ a) (hg : g.method = m) (hs : g.stack = v :: .ref a :: rest) (hd : decode c.code g.pc = .ok (.putfield index, 3))
    (kk : ∀ T' h' locs', Stand p l e R s m args below meth c T' locs' cells slots → T'.heap = h' → Fr n0 locs' → Wr h h' a (RoadKit.slotOf Z O nm d) v' → Fld Z h' a O nm d v' → OEnds p e below F n0 Q T' { g with pc := g.pc + 3, stack := rest }) : OEnds p e below F n0 Q T g := by
  obtain ⟨T', h', X', e', W', st⟩ := putFN X hx hZ hown w Via.refl eT Fv E L wi hty hn hf hg hs hd
  exact own_go st (kk T' h' _ X' e' (Fr.snoc X' N ga) W' (Fv.same W'))
theorem own_initO (X : Stand p l e R s m args below meth c T locs cells slots) (hx : p.tables.exec = Jvm.exec) (hZ : Z.Warmed39 s.vm) {W : Nat} (hown : s.vm.findClass own = some m.cls) (w1 : (Cond.methodLink own index Lib.objectInit).before a0 Z = true) (w2 : (Cond.instanceMethod Lib.objectInit).before a0 Z = true)
    (w3 : (Cond.code Lib.objectInit ⟨#[0xb1]⟩ 1 none).before a0 Z = true) (eT : T.heap = h) (hg : g.method = m) (hsize : g.locals.size = c.maxLocals) (hs : g.stack = .ref a :: rest) (hd : decode c.code g.pc = .ok (.invokespecial index, 3)) (hf : 1 ≤ R.frames) (hW : 2 * g.monitorRoom + (rest.map fun v => v.category).sum ≤ W) (hl : W + 12 ≤ R.locals)
    (kk : ∀ T', Stand p l e R s m args below meth c T' locs cells slots → T'.heap = h → OEnds p e below F n0 Q T' { g with pc := g.pc + 3, stack := rest }) : OEnds p e below F n0 Q T g := by
  obtain ⟨T', X', e', st⟩ := initO X hx hZ hown w1 w2 w3 eT hg hsize hs hd hf hW hl
  exact own_go st (kk T' X' e')
theorem own_new (X : Stand p l e R s m args below meth c T locs cells slots) (hx : p.tables.exec = Jvm.exec) (hZ : Z.Warmed39 s.vm) {C0 : String} {sl : Nat} (hown : s.vm.findClass own = some m.cls) (w : (Cond.classLink own index C0).before a0 Z = true) (wi : (Cond.instantiable C0 sl).before a0 Z = true) (wz : (Cond.initialized C0).before a0 Z = true) (eT : T.heap = h) (hg : g.method = m) (hd : decode c.code g.pc = .ok (.new index, 3)) (hc : cells + 1 ≤ R.cells) (hl : slots + sl ≤ R.slots)
    (kk : ∀ T' h' b, b = h.size → Stand p l e R s m args below meth c T' locs (cells + 1) (slots + sl) → T'.heap = h' → Ext h h' → Exa Z h' b C0 → (∀ {O nm d : String} {ty : FieldType}, Laid Z a0 C0 O nm d → parseFieldDescriptor d = some ty → Fld Z h' b O nm d (defaultValue ty)) → OEnds p e below F n0 Q T' { g with pc := g.pc + 3, stack := .ref b :: g.stack }) : OEnds p e below F n0 Q T g := by
  obtain ⟨T', h', X', e', E', A', D', -, st⟩ := newO X hx hZ hown w wi wz eT hg hd hc hl
  exact own_go st (kk T' h' _ rfl X' e' E' A' D')
/-! arrays -/
theorem own_newarr (X : Stand p l e R s m args below meth c T locs cells slots) (hx : p.tables.exec = Jvm.exec) (hZ : Z.Warmed39 s.vm) {aty : ArrayType} (w : (Cond.arrayClass (newarray.typeOf aty)).before a0 Z = true) (eT : T.heap = h) (hg : g.method = m) (hd : decode c.code g.pc = .ok (.newarray aty, 2)) (hs : g.stack = .int n :: rest) (hn : ¬ n < 0) {cap : Nat} (hcap : n.toNatClampNeg ≤ cap) (hb : cap * 8 ≤ 536870912) (hc : cells + 1 ≤ R.cells) (hl : slots + cap ≤ R.slots)
    (kk : ∀ T' h' b k, b = h.size → Stand p l e R s m args below meth c T' locs (cells + 1) (slots + cap) → T'.heap = h' → Ext h h' → Arv Z h' b k (newarray.typeOf aty) n (List.replicate cap (defaultValue (newarray.typeOf aty))) (defaultValue (newarray.typeOf aty)) → OEnds p e below F n0 Q T' { g with pc := g.pc + 2, stack := .ref b :: rest }) : OEnds p e below F n0 Q T g := by
  obtain ⟨T', h', kA, X', e', E', A', st⟩ := newP X hx hZ w eT hg hd hs hn hcap hb hc hl
  exact own_go st (kk T' h' _ kA rfl X' e' E' ((Arv.new A' hn).pad (pad_rep [] _ cap)))
theorem own_alen (X : Stand p l e R s m args below meth c T locs cells slots) (hx : p.tables.exec = Jvm.exec) (hZ : Z.Warmed39 s.vm) (eT : T.heap = h) (V : Arv Z h a k ty n vs dv) (hg : g.method = m) (hs : g.stack = .ref a :: rest) (hd : decode c.code g.pc = .ok (.arraylength, 1))
    (kk : OEnds p e below F n0 Q T { g with pc := g.pc + 1, stack := .int n :: rest }) : OEnds p e below F n0 Q T g := by
  obtain ⟨cl, Ar, -, Sz, M, H, -⟩ := V
  refine own_go (fun t kt => X.arraylength hx (by rw [eT]; exact Ar.1) (State.isArrayOf_alike hZ.alike Ar.2.1) hg hs hd t kt) ?_
  rw [len_of Sz M]; exact kk
theorem own_iaload (X : Stand p l e R s m args below meth c T locs cells slots) (hx : p.tables.exec = Jvm.exec) (hZ : Z.Warmed39 s.vm) (eT : T.heap = h) (V : Arv Z h a k .int n vs dv) (hj : ¬ j < 0 ∧ j < n) (hv : vs.getD j.toNatClampNeg dv = v) (hg : g.method = m) (hs : g.stack = .int j :: .ref a :: rest) (hd : decode c.code g.pc = .ok (.iaload, 1))
    (kk : OEnds p e below F n0 Q T { g with pc := g.pc + 1, stack := v :: rest }) : OEnds p e below F n0 Q T g := by
  obtain ⟨cl, Ar, -, Sz, M, H, -⟩ := V
  exact own_go (fun t kt => X.iaload hx (by rw [eT]; exact Ar.1) (State.isArrayOf_alike hZ.alike Ar.2.1) Ar.2.2 (inb_of Sz hj) (H.at (inb_of Sz hj) hv) hg hs hd t kt) kk
theorem own_laload (X : Stand p l e R s m args below meth c T locs cells slots) (hx : p.tables.exec = Jvm.exec) (hZ : Z.Warmed39 s.vm) (eT : T.heap = h) (V : Arv Z h a k .long n vs dv) (hj : ¬ j < 0 ∧ j < n) (hv : vs.getD j.toNatClampNeg dv = v) (hg : g.method = m) (hs : g.stack = .int j :: .ref a :: rest) (hd : decode c.code g.pc = .ok (.laload, 1))
    (kk : OEnds p e below F n0 Q T { g with pc := g.pc + 1, stack := v :: rest }) : OEnds p e below F n0 Q T g := by
  obtain ⟨cl, Ar, -, Sz, M, H, -⟩ := V
  exact own_go (fun t kt => X.laload hx (by rw [eT]; exact Ar.1) (State.isArrayOf_alike hZ.alike Ar.2.1) Ar.2.2 (inb_of Sz hj) (H.at (inb_of Sz hj) hv) hg hs hd t kt) kk
theorem own_caload (X : Stand p l e R s m args below meth c T locs cells slots) (hx : p.tables.exec = Jvm.exec) (hZ : Z.Warmed39 s.vm) (eT : T.heap = h) (V : Arv Z h a k .char n vs dv) (hj : ¬ j < 0 ∧ j < n) (hv : vs.getD j.toNatClampNeg dv = v) (hg : g.method = m) (hs : g.stack = .int j :: .ref a :: rest) (hd : decode c.code g.pc = .ok (.caload, 1))
    (kk : OEnds p e below F n0 Q T { g with pc := g.pc + 1, stack := v :: rest }) : OEnds p e below F n0 Q T g := by
  obtain ⟨cl, Ar, -, Sz, M, H, -⟩ := V
  exact own_go (fun t kt => X.caload hx (by rw [eT]; exact Ar.1) (State.isArrayOf_alike hZ.alike Ar.2.1) Ar.2.2 (inb_of Sz hj) (H.at (inb_of Sz hj) hv) hg hs hd t kt) kk
theorem own_baload (X : Stand p l e R s m args below meth c T locs cells slots) (hx : p.tables.exec = Jvm.exec) (hZ : Z.Warmed39 s.vm) (eT : T.heap = h) (V : Arv Z h a k .byte n vs dv) (hj : ¬ j < 0 ∧ j < n) (hv : vs.getD j.toNatClampNeg dv = v) (hg : g.method = m) (hs : g.stack = .int j :: .ref a :: rest) (hd : decode c.code g.pc = .ok (.baload, 1))
    (kk : OEnds p e below F n0 Q T { g with pc := g.pc + 1, stack := v :: rest }) : OEnds p e below F n0 Q T g := by
  obtain ⟨cl, Ar, -, Sz, M, H, -⟩ := V
  exact own_go (fun t kt => X.baloadBytes hx (by rw [eT]; exact Ar.1) (State.isArrayOf_alike hZ.alike Ar.2.1) Ar.2.2 (inb_of Sz hj) (H.at (inb_of Sz hj) hv) hg hs hd t kt) kk
theorem own_iastore (X : Stand p l e R s m args below meth c T locs cells slots) (hx : p.tables.exec = Jvm.exec) (hZ : Z.Warmed39 s.vm) {x : Int32} (eT : T.heap = h) (V : Arv Z h a k .int n vs dv) (hj : ¬ j < 0 ∧ j < n) (i : Nat) (hi : j.toNatClampNeg = i) (hl : i < vs.length) (N : Fr n0 locs) (ga : n0 ≤ a) (hg : g.method = m) (hs : g.stack = .int x :: .int j :: .ref a :: rest) (hd : decode c.code g.pc = .ok (.iastore, 1))
    (kk : ∀ T' h' locs', Stand p l e R s m args below meth c T' locs' cells slots → T'.heap = h' → Fr n0 locs' → Wr h h' a j.toNatClampNeg (.int x) → Arv Z h' a k .int n (vs.set i (.int x)) dv → OEnds p e below F n0 Q T' { g with pc := g.pc + 1, stack := rest }) : OEnds p e below F n0 Q T g := by
  obtain ⟨cl, Ar, q, Sz, M, H, G⟩ := V
  obtain ⟨T', h', X', e', W', st⟩ := stI X hx hZ eT Ar (j := j) (inb_of Sz hj) hg hs hd
  exact own_go st (kk T' h' _ X' e' (Fr.snoc X' N ga) W' (Arv.set Ar q Sz M H G rfl W' i hi hl))
theorem own_lastore (X : Stand p l e R s m args below meth c T locs cells slots) (hx : p.tables.exec = Jvm.exec) (hZ : Z.Warmed39 s.vm) {x : Int64} (eT : T.heap = h) (V : Arv Z h a k .long n vs dv) (hj : ¬ j < 0 ∧ j < n) (i : Nat) (hi : j.toNatClampNeg = i) (hl : i < vs.length) (N : Fr n0 locs) (ga : n0 ≤ a) (hg : g.method = m) (hs : g.stack = .long x :: .int j :: .ref a :: rest) (hd : decode c.code g.pc = .ok (.lastore, 1))
    (kk : ∀ T' h' locs', Stand p l e R s m args below meth c T' locs' cells slots → T'.heap = h' → Fr n0 locs' → Wr h h' a j.toNatClampNeg (.long x) → Arv Z h' a k .long n (vs.set i (.long x)) dv → OEnds p e below F n0 Q T' { g with pc := g.pc + 1, stack := rest }) : OEnds p e below F n0 Q T g := by
  obtain ⟨cl, Ar, q, Sz, M, H, G⟩ := V
  obtain ⟨T', h', X', e', W', st⟩ := stJ X hx hZ eT Ar (j := j) (inb_of Sz hj) hg hs hd
  exact own_go st (kk T' h' _ X' e' (Fr.snoc X' N ga) W' (Arv.set Ar q Sz M H G rfl W' i hi hl))
theorem own_bastore (X : Stand p l e R s m args below meth c T locs cells slots) (hx : p.tables.exec = Jvm.exec) (hZ : Z.Warmed39 s.vm) {x : Int32} (eT : T.heap = h) (V : Arv Z h a k .byte n vs dv) (hj : ¬ j < 0 ∧ j < n) (i : Nat) (hi : j.toNatClampNeg = i) (hl : i < vs.length) (N : Fr n0 locs) (ga : n0 ≤ a) (hg : g.method = m) (hs : g.stack = .int x :: .int j :: .ref a :: rest) (hd : decode c.code g.pc = .ok (.bastore, 1))
    (kk : ∀ T' h' locs', Stand p l e R s m args below meth c T' locs' cells slots → T'.heap = h' → Fr n0 locs' → Wr h h' a j.toNatClampNeg (.int (nar .byte x)) → Arv Z h' a k .byte n (vs.set i (.int (nar .byte x))) dv → OEnds p e below F n0 Q T' { g with pc := g.pc + 1, stack := rest }) : OEnds p e below F n0 Q T g := by
  obtain ⟨cl, Ar, q, Sz, M, H, G⟩ := V
  obtain ⟨T', h', X', e', W', st⟩ := stB X hx hZ eT Ar (j := j) (inb_of Sz hj) hg hs hd
  exact own_go st (kk T' h' _ X' e' (Fr.snoc X' N ga) W' (Arv.set Ar q Sz M H G (fits_nar_byte _) W' i hi hl))
theorem own_castore (X : Stand p l e R s m args below meth c T locs cells slots) (hx : p.tables.exec = Jvm.exec) (hZ : Z.Warmed39 s.vm) {x : Int32} (eT : T.heap = h) (V : Arv Z h a k .char n vs dv) (hj : ¬ j < 0 ∧ j < n) (i : Nat) (hi : j.toNatClampNeg = i) (hl : i < vs.length) (N : Fr n0 locs) (ga : n0 ≤ a) (hg : g.method = m) (hs : g.stack = .int x :: .int j :: .ref a :: rest) (hd : decode c.code g.pc = .ok (.castore, 1))
    (kk : ∀ T' h' locs', Stand p l e R s m args below meth c T' locs' cells slots → T'.heap = h' → Fr n0 locs' → Wr h h' a j.toNatClampNeg (.int (nar .char x)) → Arv Z h' a k .char n (vs.set i (.int (nar .char x))) dv → OEnds p e below F n0 Q T' { g with pc := g.pc + 1, stack := rest }) : OEnds p e below F n0 Q T g := by
  obtain ⟨cl, Ar, q, Sz, M, H, G⟩ := V
  obtain ⟨T', h', X', e', W', st⟩ := stC X hx hZ eT Ar (j := j) (inb_of Sz hj) hg hs hd
  exact own_go st (kk T' h' _ X' e' (Fr.snoc X' N ga) W' (Arv.set Ar q Sz M H G (fits_nar_char _) W' i hi hl))
/-! numbers -/
theorem own_lT {x y : Int64} (hh : x < y) : ifCond.holds .lt (lcmpW x y) = true ∧ ifCond.holds .ge (lcmpW x y) = false ∧ ifCond.holds .gt (lcmpW y x) = true ∧ ifCond.holds .le (lcmpW y x) = false := by
  simp only [if0]
  exact ⟨(tlt ((lw_lt x y).mpr hh)).1, (tlt ((lw_lt x y).mpr hh)).2.1, (tlt ((lw_gt y x).mpr hh)).2.2.1, (tlt ((lw_gt y x).mpr hh)).2.2.2⟩
theorem own_lF {x y : Int64} (hh : ¬ x < y) : ifCond.holds .lt (lcmpW x y) = false ∧ ifCond.holds .ge (lcmpW x y) = true ∧ ifCond.holds .gt (lcmpW y x) = false ∧ ifCond.holds .le (lcmpW y x) = true := by
  simp only [if0]
  have h1 : ¬ lcmpW x y < 0 := fun q => hh ((lw_lt x y).mp q)
  have h2 : ¬ 0 < lcmpW y x := fun q => hh ((lw_gt y x).mp q)
  exact ⟨(flt h1).1, (flt h1).2.1, (flt h2).2.2.1, (flt h2).2.2.2⟩
theorem own_eT {x y : Int64} (hh : x = y) : ifCond.holds .eq (lcmpW x y) = true ∧ ifCond.holds .ne (lcmpW x y) = false := by
  simp only [if0]
  exact teq ((lw_eq x y).mpr hh)
theorem own_eF {x y : Int64} (hh : ¬ x = y) : ifCond.holds .eq (lcmpW x y) = false ∧ ifCond.holds .ne (lcmpW x y) = true := by
  simp only [if0]
  exact feq (fun q => hh ((lw_eq x y).mp q))
end Own
def own_isw (c : Int32) : Int32 := if c = 32 ∨ c = 9 ∨ c = 10 ∨ c = 13 then 1 else 0
theorem own_low : ∀ k : Fin 64, ((((1 : Int64) <<< ((Int32.ofNat k.1) &&& 0x3f).toInt64) &&& (4294977024 : Int64)) = (0 : Int64)) ↔ own_isw (Int32.ofNat k.1) = 0 := by decide +kernel
theorem own_01 (c : Int32) : own_isw c = 0 ∨ own_isw c = 1 := by
  unfold own_isw
  split
  · exact Or.inr rfl
  · exact Or.inl rfl
theorem own_back (c : Int32) (h0 : ¬ c < 0) (h1 : c < 64) : ∃ k : Fin 64, c = Int32.ofNat k.1 := by
  rw [Int32.lt_iff_toInt_lt] at h0 h1
  have e0 : (0 : Int32).toInt = 0 := rfl
  have e1 : (64 : Int32).toInt = 64 := rfl
  refine ⟨⟨c.toInt.toNat, by omega⟩, ?_⟩
  have := Int32.ofInt_toInt c
  conv => lhs; rw [← this]
  show Int32.ofInt c.toInt = Int32.ofNat c.toInt.toNat
  have e2 : c.toInt = ((c.toInt.toNat : Nat) : Int) := by omega
  conv => lhs; rw [e2]
  rfl
theorem own_high (c : Int32) (h1 : ¬ c < 64) : own_isw c = 0 := by
  unfold own_isw
  split
  · rename_i q
    rcases q with rfl | rfl | rfl | rfl <;> exact absurd (by decide) h1
  · rfl
theorem own_char (x : Int32) : ¬ x.toUInt32.toUInt16.toUInt32.toInt32 < 0 := by
  have := rng_char (fits_nar_char x)
  exact this.1
theorem own_lowT (x c : Int32) (e : c = x.toUInt32.toUInt16.toUInt32.toInt32) (h1 : c < 64) (hb : (((1 : Int64) <<< (c &&& 0x3f).toInt64) &&& (4294977024 : Int64)) = (0 : Int64)) : own_isw c = 0 := by
  obtain ⟨k, hk⟩ := own_back c (by rw [e]; exact own_char _) h1
  have hz := own_low k
  rw [← hk] at hz
  exact hz.mp hb
theorem own_lowF (x c : Int32) (e : c = x.toUInt32.toUInt16.toUInt32.toInt32) (h1 : c < 64) (hb : ¬ (((1 : Int64) <<< (c &&& 0x3f).toInt64) &&& (4294977024 : Int64)) = (0 : Int64)) : own_isw c = 1 := by
  obtain ⟨k, hk⟩ := own_back c (by rw [e]; exact own_char _) h1
  have hz := own_low k
  rw [← hk] at hz
  rcases own_01 c with q | q
  · exact absurd (hz.mpr q) hb
  · exact q
theorem own_d1_0 : decode prog_114_method_27_code 0 = .ok (.iload_n 0, 1) := by decide +kernel
theorem own_d1_1 : decode prog_114_method_27_code 1 = .ok (.bipush 32, 2) := by decide +kernel
theorem own_d1_3 : decode prog_114_method_27_code 3 = .ok (.if_icmp .eq 21, 3) := by decide +kernel
theorem own_d1_6 : decode prog_114_method_27_code 6 = .ok (.iload_n 0, 1) := by decide +kernel
theorem own_d1_7 : decode prog_114_method_27_code 7 = .ok (.bipush 9, 2) := by decide +kernel
theorem own_d1_9 : decode prog_114_method_27_code 9 = .ok (.if_icmp .eq 15, 3) := by decide +kernel
theorem own_d1_12 : decode prog_114_method_27_code 12 = .ok (.iload_n 0, 1) := by decide +kernel
theorem own_d1_13 : decode prog_114_method_27_code 13 = .ok (.bipush 10, 2) := by decide +kernel
theorem own_d1_15 : decode prog_114_method_27_code 15 = .ok (.if_icmp .eq 9, 3) := by decide +kernel
theorem own_d1_18 : decode prog_114_method_27_code 18 = .ok (.iload_n 0, 1) := by decide +kernel
theorem own_d1_19 : decode prog_114_method_27_code 19 = .ok (.bipush 13, 2) := by decide +kernel
theorem own_d1_21 : decode prog_114_method_27_code 21 = .ok (.if_icmp .ne 7, 3) := by decide +kernel
theorem own_d1_24 : decode prog_114_method_27_code 24 = .ok (.iconst 1, 1) := by decide +kernel
theorem own_d1_25 : decode prog_114_method_27_code 25 = .ok (.goto 4, 3) := by decide +kernel
theorem own_d1_28 : decode prog_114_method_27_code 28 = .ok (.iconst 0, 1) := by decide +kernel
theorem own_d1_29 : decode prog_114_method_27_code 29 = .ok (.ireturn, 1) := by decide +kernel
theorem own_pn_1 : plainFor (⟨"com/example/clearcycle/clearcycle/SimpleType", "isWhiteSpace", "(C)Z"⟩ : MethodName) = true := by first | exact plainFor_of_name (by first | (simp [plainName, overriddenIn]; done) | decide +kernel) | decide +kernel
theorem own_ef_own_ws (m : MethodId) (x0 : Int32) : entryFrame m #[(.int x0)] 1 = mkF m 0 #[.val (.int x0)] [] := by first | (simp [entryFrame, mkF, argsToLocals, Value.category]; done) | rfl
set_option maxRecDepth 65536 in
set_option maxHeartbeats 40000000 in
theorem own_ws (l : Launch) (Z : State) (a0 : Array Value) (hw : ∀ d ∈ tables_1, d.before a0 Z = true) (p1 : Int32) (h0 : Heap) (n0 : Nat) (Z0 : n0 ≤ h0.size)  :
    OCon l (⟨"com/example/clearcycle/clearcycle/SimpleType", "isWhiteSpace", "(C)Z"⟩ : MethodName) prog_114_method_27_code 1 (some .boolean) ({ frames := 0, cells := 0, slots := 0, locals := 0 } : Room) Z #[(.int p1)] h0 n0 (fun v h => v = some (.int (own_isw p1)) ∧ h = h0) := by
  refine own_body own_pn_1 ?_
  intro p e s m below meth c T0 hx hZ hby hml hown hnm hret hlk e0 X0
  replace hown : s.vm.findClass "com/example/clearcycle/clearcycle/SimpleType" = some m.cls := hown
  replace hnm : meth.name = "isWhiteSpace" := hnm
  have N0 := Fr.nil n0
  have K0 : Keep h0 h0 [] := Keep.refl _ _
  refine own_at (own_ef_own_ws m p1) ?_
  refine own_go (g' := (mkF m 1 #[.val (.int p1)] [(.int p1)])) (fun t kt => XS.iloadN X0.here hx rfl (hb hby own_d1_0) rfl kt) ?_
  refine own_go (g' := (mkF m 3 #[.val (.int p1)] [(.int (32 : Int32)), (.int p1)])) (fun t kt => XS.bipush X0.here hx rfl (hb hby own_d1_1) kt) ?_
  by_cases hc1 : p1 = (32 : Int32)
  · refine own_go (g' := (mkF m 24 #[.val (.int p1)] [])) (fun t kt => XS.icmpYes X0.here hx rfl (pc0 := 3) (pc' := 24) rfl (hb hby own_d1_3) rfl (teq hc1).1 (by decide) (by decide) kt) ?_
    refine own_go (g' := (mkF m 25 #[.val (.int p1)] [(.int (1 : Int32))])) (fun t kt => XS.iconst X0.here hx rfl (hb hby own_d1_24) kt) ?_
    refine own_go (g' := (mkF m 29 #[.val (.int p1)] [(.int (1 : Int32))])) (fun t kt => XS.goto X0.here hx rfl (pc0 := 25) (pc' := 29) rfl (hb hby own_d1_25) (by decide) (by decide) kt) ?_
    exact own_retN X0 hx hlk (t := .boolean) (z' := (1 : Int32)) hret (by simp) (hb hby own_d1_29) rfl e0 N0 (by decide) (by decide) (⟨by simp [own_isw, hc1], rfl⟩)
  · refine own_go (g' := (mkF m 6 #[.val (.int p1)] [])) (fun t kt => XS.icmpNo X0.here hx rfl (hb hby own_d1_3) rfl (feq hc1).1 kt) ?_
    refine own_go (g' := (mkF m 7 #[.val (.int p1)] [(.int p1)])) (fun t kt => XS.iloadN X0.here hx rfl (hb hby own_d1_6) rfl kt) ?_
    refine own_go (g' := (mkF m 9 #[.val (.int p1)] [(.int (9 : Int32)), (.int p1)])) (fun t kt => XS.bipush X0.here hx rfl (hb hby own_d1_7) kt) ?_
    by_cases hc2 : p1 = (9 : Int32)
    · refine own_go (g' := (mkF m 24 #[.val (.int p1)] [])) (fun t kt => XS.icmpYes X0.here hx rfl (pc0 := 9) (pc' := 24) rfl (hb hby own_d1_9) rfl (teq hc2).1 (by decide) (by decide) kt) ?_
      refine own_go (g' := (mkF m 25 #[.val (.int p1)] [(.int (1 : Int32))])) (fun t kt => XS.iconst X0.here hx rfl (hb hby own_d1_24) kt) ?_
      refine own_go (g' := (mkF m 29 #[.val (.int p1)] [(.int (1 : Int32))])) (fun t kt => XS.goto X0.here hx rfl (pc0 := 25) (pc' := 29) rfl (hb hby own_d1_25) (by decide) (by decide) kt) ?_
      exact own_retN X0 hx hlk (t := .boolean) (z' := (1 : Int32)) hret (by simp) (hb hby own_d1_29) rfl e0 N0 (by decide) (by decide) (⟨by simp [own_isw, hc1, hc2], rfl⟩)
    · refine own_go (g' := (mkF m 12 #[.val (.int p1)] [])) (fun t kt => XS.icmpNo X0.here hx rfl (hb hby own_d1_9) rfl (feq hc2).1 kt) ?_
      refine own_go (g' := (mkF m 13 #[.val (.int p1)] [(.int p1)])) (fun t kt => XS.iloadN X0.here hx rfl (hb hby own_d1_12) rfl kt) ?_
      refine own_go (g' := (mkF m 15 #[.val (.int p1)] [(.int (10 : Int32)), (.int p1)])) (fun t kt => XS.bipush X0.here hx rfl (hb hby own_d1_13) kt) ?_
      by_cases hc3 : p1 = (10 : Int32)
      · refine own_go (g' := (mkF m 24 #[.val (.int p1)] [])) (fun t kt => XS.icmpYes X0.here hx rfl (pc0 := 15) (pc' := 24) rfl (hb hby own_d1_15) rfl (teq hc3).1 (by decide) (by decide) kt) ?_
        refine own_go (g' := (mkF m 25 #[.val (.int p1)] [(.int (1 : Int32))])) (fun t kt => XS.iconst X0.here hx rfl (hb hby own_d1_24) kt) ?_
        refine own_go (g' := (mkF m 29 #[.val (.int p1)] [(.int (1 : Int32))])) (fun t kt => XS.goto X0.here hx rfl (pc0 := 25) (pc' := 29) rfl (hb hby own_d1_25) (by decide) (by decide) kt) ?_
        exact own_retN X0 hx hlk (t := .boolean) (z' := (1 : Int32)) hret (by simp) (hb hby own_d1_29) rfl e0 N0 (by decide) (by decide) (⟨by simp [own_isw, hc1, hc2, hc3], rfl⟩)
      · refine own_go (g' := (mkF m 18 #[.val (.int p1)] [])) (fun t kt => XS.icmpNo X0.here hx rfl (hb hby own_d1_15) rfl (feq hc3).1 kt) ?_
        refine own_go (g' := (mkF m 19 #[.val (.int p1)] [(.int p1)])) (fun t kt => XS.iloadN X0.here hx rfl (hb hby own_d1_18) rfl kt) ?_
        refine own_go (g' := (mkF m 21 #[.val (.int p1)] [(.int (13 : Int32)), (.int p1)])) (fun t kt => XS.bipush X0.here hx rfl (hb hby own_d1_19) kt) ?_
        by_cases hc4 : p1 = (13 : Int32)
        · refine own_go (g' := (mkF m 24 #[.val (.int p1)] [])) (fun t kt => XS.icmpNo X0.here hx rfl (hb hby own_d1_21) rfl (teq hc4).2 kt) ?_
          refine own_go (g' := (mkF m 25 #[.val (.int p1)] [(.int (1 : Int32))])) (fun t kt => XS.iconst X0.here hx rfl (hb hby own_d1_24) kt) ?_
          refine own_go (g' := (mkF m 29 #[.val (.int p1)] [(.int (1 : Int32))])) (fun t kt => XS.goto X0.here hx rfl (pc0 := 25) (pc' := 29) rfl (hb hby own_d1_25) (by decide) (by decide) kt) ?_
          exact own_retN X0 hx hlk (t := .boolean) (z' := (1 : Int32)) hret (by simp) (hb hby own_d1_29) rfl e0 N0 (by decide) (by decide) (⟨by simp [own_isw, hc1, hc2, hc3, hc4], rfl⟩)
        · refine own_go (g' := (mkF m 28 #[.val (.int p1)] [])) (fun t kt => XS.icmpYes X0.here hx rfl (pc0 := 21) (pc' := 28) rfl (hb hby own_d1_21) rfl (feq hc4).2 (by decide) (by decide) kt) ?_
          refine own_go (g' := (mkF m 29 #[.val (.int p1)] [(.int (0 : Int32))])) (fun t kt => XS.iconst X0.here hx rfl (hb hby own_d1_28) kt) ?_
          exact own_retN X0 hx hlk (t := .boolean) (z' := (0 : Int32)) hret (by simp) (hb hby own_d1_29) rfl e0 N0 (by decide) (by decide) (⟨by simp [own_isw, hc1, hc2, hc3, hc4], rfl⟩)
theorem own_pd0 : parseMethodDescriptor "(C)Z" = some ⟨[.char], some .boolean⟩ := by decide +kernel
theorem own_pn_0 : plainFor x = true := by first | exact plainFor_of_name (by first | (simp [plainName, overriddenIn]; done) | decide +kernel) | decide +kernel
theorem own_ef_own_law (m : MethodId) (x0 : Int32) : entryFrame m #[(.int x0)] maxLocals = mkF m 0 #[.val (.int x0), .unset, .unset] [] := by first | (simp [entryFrame, mkF, argsToLocals, Value.category, maxLocals]; done) | rfl
set_option maxRecDepth 65536 in
set_option maxHeartbeats 40000000 in
theorem own_law (l : Launch) (Z : State) (a0 : Array Value) (hw : ∀ d ∈ tables_1, d.before a0 Z = true) (p1 : Int32) (h0 : Heap) (n0 : Nat) (Z0 : n0 ≤ h0.size)  :
    OCon l x code maxLocals ret room_1 Z #[(.int p1)] h0 n0 (fun v h => v = some (.int 1)) := by
  refine own_body own_pn_0 ?_
  intro p e s m below meth c T0 hx hZ hby hml hown hnm hret hlk e0 X0
  replace hml : c.maxLocals = 3 := hml
  replace hown : s.vm.findClass "com/example/clearcycle/clearcycle/SimpleTypeIsWhiteSpacePinLaw" = some m.cls := hown
  replace hnm : meth.name = "law" := hnm
  have N0 := Fr.nil n0
  have K0 : Keep h0 h0 [] := Keep.refl _ _
  refine own_at (own_ef_own_law m p1) ?_
  refine own_go (g' := (mkF m 1 #[.val (.int p1), .unset, .unset] [(.int p1)])) (fun t kt => XS.iloadN X0.here hx rfl (hb hby at_0) rfl kt) ?_
  refine own_go (g' := (mkF m 3 #[.val (.int p1), .unset, .unset] [(.int (65535 : Int32)), (.int p1)])) (fun t kt => X0.ldcInt hx hown (mvT hZ (hw _ (List.mem_of_getElem? (i := 0) rfl))) (g := (mkF m 1 #[.val (.int p1), .unset, .unset] [(.int p1)])) rfl (hb hby at_1) t kt) ?_
  refine own_go (g' := (mkF m 4 #[.val (.int p1), .unset, .unset] [(.int (p1 &&& (65535 : Int32)))])) (fun t kt => XS.iand X0.here hx rfl (hb hby at_3) rfl kt) ?_
  refine own_go (g' := (mkF m 5 #[.val (.int p1), .unset, .unset] [(.int ((p1 &&& (65535 : Int32)).toUInt32.toUInt16.toUInt32.toInt32))])) (fun t kt => XS.i2c X0.here hx rfl (hb hby at_4) rfl kt) ?_
  refine own_go (g' := (mkF m 6 #[.val (.int p1), .val (.int ((p1 &&& (65535 : Int32)).toUInt32.toUInt16.toUInt32.toInt32)), .unset] [])) (fun t kt => XS.istoreN X0.here hx rfl (hb hby at_5) rfl (l' := #[.val (.int p1), .val (.int ((p1 &&& (65535 : Int32)).toUInt32.toUInt16.toUInt32.toInt32)), .unset]) rfl kt) ?_
  refine own_let (P := fun y1 => OEnds _ _ _ _ _ _ T0 (mkF m 6 #[.val (.int p1), .val (.int y1), .unset] [])) ((p1 &&& (65535 : Int32)).toUInt32.toUInt16.toUInt32.toInt32) (fun y1 hv_y1 => ?_)
  refine own_go (g' := (mkF m 7 #[.val (.int p1), .val (.int y1), .unset] [(.int y1)])) (fun t kt => XS.iloadN X0.here hx rfl (hb hby at_6) rfl kt) ?_
  refine own_go (g' := (mkF m 9 #[.val (.int p1), .val (.int y1), .unset] [(.int (64 : Int32)), (.int y1)])) (fun t kt => XS.bipush X0.here hx rfl (hb hby at_7) kt) ?_
  by_cases hc2 : y1 < (64 : Int32)
  · refine own_go (g' := (mkF m 12 #[.val (.int p1), .val (.int y1), .unset] [])) (fun t kt => XS.icmpNo X0.here hx rfl (hb hby at_9) rfl (tlt hc2).2.1 kt) ?_
    refine own_go (g' := (mkF m 13 #[.val (.int p1), .val (.int y1), .unset] [(.long (1 : Int64))])) (fun t kt => XS.lconst X0.here hx rfl (hb hby at_12) kt) ?_
    refine own_go (g' := (mkF m 14 #[.val (.int p1), .val (.int y1), .unset] [(.int y1), (.long (1 : Int64))])) (fun t kt => XS.iloadN X0.here hx rfl (hb hby at_13) rfl kt) ?_
    refine own_go (g' := (mkF m 15 #[.val (.int p1), .val (.int y1), .unset] [(.long ((1 : Int64) <<< (y1 &&& 0x3f).toInt64))])) (fun t kt => XS.lshl X0.here hx rfl (hb hby at_14) rfl kt) ?_
    refine own_go (g' := (mkF m 18 #[.val (.int p1), .val (.int y1), .unset] [(.long (4294977024 : Int64)), (.long ((1 : Int64) <<< (y1 &&& 0x3f).toInt64))])) (fun t kt => X0.ldc2Long hx hown (mvT hZ (hw _ (List.mem_of_getElem? (i := 1) rfl))) (g := (mkF m 15 #[.val (.int p1), .val (.int y1), .unset] [(.long ((1 : Int64) <<< (y1 &&& 0x3f).toInt64))])) rfl (hb hby at_15) t kt) ?_
    refine own_go (g' := (mkF m 19 #[.val (.int p1), .val (.int y1), .unset] [(.long (((1 : Int64) <<< (y1 &&& 0x3f).toInt64) &&& (4294977024 : Int64)))])) (fun t kt => XS.land X0.here hx rfl (hb hby at_18) rfl kt) ?_
    refine own_go (g' := (mkF m 20 #[.val (.int p1), .val (.int y1), .unset] [(.long (0 : Int64)), (.long (((1 : Int64) <<< (y1 &&& 0x3f).toInt64) &&& (4294977024 : Int64)))])) (fun t kt => XS.lconst X0.here hx rfl (hb hby at_19) kt) ?_
    refine own_go (g' := (mkF m 21 #[.val (.int p1), .val (.int y1), .unset] [(.int (lcmpW (((1 : Int64) <<< (y1 &&& 0x3f).toInt64) &&& (4294977024 : Int64)) (0 : Int64)))])) (fun t kt => XS.lcmp X0.here hx rfl (hb hby at_20) rfl kt) ?_
    by_cases hc3 : (((1 : Int64) <<< (y1 &&& 0x3f).toInt64) &&& (4294977024 : Int64)) = (0 : Int64)
    · refine own_go (g' := (mkF m 28 #[.val (.int p1), .val (.int y1), .unset] [])) (fun t kt => XS.ifYes X0.here hx rfl (pc0 := 21) (pc' := 28) rfl (hb hby at_21) rfl (own_eT hc3).1 (by decide) (by decide) kt) ?_
      refine own_go (g' := (mkF m 29 #[.val (.int p1), .val (.int y1), .unset] [(.int (0 : Int32))])) (fun t kt => XS.iconst X0.here hx rfl (hb hby at_28) kt) ?_
      refine own_go (g' := (mkF m 30 #[.val (.int p1), .val (.int y1), .val (.int (0 : Int32))] [])) (fun t kt => XS.istoreN X0.here hx rfl (hb hby at_29) rfl (l' := #[.val (.int p1), .val (.int y1), .val (.int (0 : Int32))]) rfl kt) ?_
      refine own_go (g' := (mkF m 31 #[.val (.int p1), .val (.int y1), .val (.int (0 : Int32))] [(.int y1)])) (fun t kt => XS.iloadN X0.here hx rfl (hb hby at_30) rfl kt) ?_
      refine own_callS X0 hx hZ (W := 0) (argsL := [(.int y1)]) (rest := []) hown (hw _ (List.mem_of_getElem? (i := 2) rfl)) (hw _ (List.mem_of_getElem? (i := 3) rfl)) (hw _ (List.mem_of_getElem? (i := 4) rfl)) (hw _ (List.mem_of_getElem? (i := 5) rfl)) (by decide) (own_ws l Z a0 hw y1 h0 n0 (Nat.le_trans Z0 K0.1)) (by decide) (by decide) (g := (mkF m 31 #[.val (.int p1), .val (.int y1), .val (.int (0 : Int32))] [(.int y1)])) rfl (by rw [hml]; rfl) (lenOf own_pd0 rfl) rfl (by show 2 * 0 + _ ≤ _; exact Nat.le_of_eq rfl) (hb hby at_31) e0 N0 (by decide) (by decide) (fun v4 T4 L4 X4 N4 hq4 => ?_)
      obtain ⟨rfl, e4⟩ := hq4
      show OEnds _ _ _ _ _ _ T4 (mkF m 34 #[.val (.int p1), .val (.int y1), .val (.int (0 : Int32))] [(.int (own_isw y1))])
      refine own_go (g' := (mkF m 35 #[.val (.int p1), .val (.int y1), .val (.int (0 : Int32))] [(.int (0 : Int32)), (.int (own_isw y1))])) (fun t kt => XS.iloadN X4.here hx rfl (hb hby at_34) rfl kt) ?_
      refine own_go (g' := (mkF m 38 #[.val (.int p1), .val (.int y1), .val (.int (0 : Int32))] [])) (fun t kt => XS.icmpNo X4.here hx rfl (hb hby at_35) rfl (teq (own_lowT _ _ hv_y1 hc2 hc3 : (own_isw y1) = (0 : Int32))).2 kt) ?_
      refine own_go (g' := (mkF m 39 #[.val (.int p1), .val (.int y1), .val (.int (0 : Int32))] [(.int (1 : Int32))])) (fun t kt => XS.iconst X4.here hx rfl (hb hby at_38) kt) ?_
      refine own_go (g' := (mkF m 43 #[.val (.int p1), .val (.int y1), .val (.int (0 : Int32))] [(.int (1 : Int32))])) (fun t kt => XS.goto X4.here hx rfl (pc0 := 39) (pc' := 43) rfl (hb hby at_39) (by decide) (by decide) kt) ?_
      exact own_retN X4 hx hlk (t := .boolean) (z' := (1 : Int32)) hret (by simp) (hb hby at_43) rfl e4 N4 (by decide) (by decide) (rfl)
    · refine own_go (g' := (mkF m 24 #[.val (.int p1), .val (.int y1), .unset] [])) (fun t kt => XS.ifNo X0.here hx rfl (hb hby at_21) rfl (own_eF hc3).1 kt) ?_
      refine own_go (g' := (mkF m 25 #[.val (.int p1), .val (.int y1), .unset] [(.int (1 : Int32))])) (fun t kt => XS.iconst X0.here hx rfl (hb hby at_24) kt) ?_
      refine own_go (g' := (mkF m 29 #[.val (.int p1), .val (.int y1), .unset] [(.int (1 : Int32))])) (fun t kt => XS.goto X0.here hx rfl (pc0 := 25) (pc' := 29) rfl (hb hby at_25) (by decide) (by decide) kt) ?_
      refine own_go (g' := (mkF m 30 #[.val (.int p1), .val (.int y1), .val (.int (1 : Int32))] [])) (fun t kt => XS.istoreN X0.here hx rfl (hb hby at_29) rfl (l' := #[.val (.int p1), .val (.int y1), .val (.int (1 : Int32))]) rfl kt) ?_
      refine own_go (g' := (mkF m 31 #[.val (.int p1), .val (.int y1), .val (.int (1 : Int32))] [(.int y1)])) (fun t kt => XS.iloadN X0.here hx rfl (hb hby at_30) rfl kt) ?_
      refine own_callS X0 hx hZ (W := 0) (argsL := [(.int y1)]) (rest := []) hown (hw _ (List.mem_of_getElem? (i := 2) rfl)) (hw _ (List.mem_of_getElem? (i := 3) rfl)) (hw _ (List.mem_of_getElem? (i := 4) rfl)) (hw _ (List.mem_of_getElem? (i := 5) rfl)) (by decide) (own_ws l Z a0 hw y1 h0 n0 (Nat.le_trans Z0 K0.1)) (by decide) (by decide) (g := (mkF m 31 #[.val (.int p1), .val (.int y1), .val (.int (1 : Int32))] [(.int y1)])) rfl (by rw [hml]; rfl) (lenOf own_pd0 rfl) rfl (by show 2 * 0 + _ ≤ _; exact Nat.le_of_eq rfl) (hb hby at_31) e0 N0 (by decide) (by decide) (fun v5 T5 L5 X5 N5 hq5 => ?_)
      obtain ⟨rfl, e5⟩ := hq5
      show OEnds _ _ _ _ _ _ T5 (mkF m 34 #[.val (.int p1), .val (.int y1), .val (.int (1 : Int32))] [(.int (own_isw y1))])
      refine own_go (g' := (mkF m 35 #[.val (.int p1), .val (.int y1), .val (.int (1 : Int32))] [(.int (1 : Int32)), (.int (own_isw y1))])) (fun t kt => XS.iloadN X5.here hx rfl (hb hby at_34) rfl kt) ?_
      refine own_go (g' := (mkF m 38 #[.val (.int p1), .val (.int y1), .val (.int (1 : Int32))] [])) (fun t kt => XS.icmpNo X5.here hx rfl (hb hby at_35) rfl (teq (own_lowF _ _ hv_y1 hc2 hc3 : (own_isw y1) = (1 : Int32))).2 kt) ?_
      refine own_go (g' := (mkF m 39 #[.val (.int p1), .val (.int y1), .val (.int (1 : Int32))] [(.int (1 : Int32))])) (fun t kt => XS.iconst X5.here hx rfl (hb hby at_38) kt) ?_
      refine own_go (g' := (mkF m 43 #[.val (.int p1), .val (.int y1), .val (.int (1 : Int32))] [(.int (1 : Int32))])) (fun t kt => XS.goto X5.here hx rfl (pc0 := 39) (pc' := 43) rfl (hb hby at_39) (by decide) (by decide) kt) ?_
      exact own_retN X5 hx hlk (t := .boolean) (z' := (1 : Int32)) hret (by simp) (hb hby at_43) rfl e5 N5 (by decide) (by decide) (rfl)
  · refine own_go (g' := (mkF m 28 #[.val (.int p1), .val (.int y1), .unset] [])) (fun t kt => XS.icmpYes X0.here hx rfl (pc0 := 9) (pc' := 28) rfl (hb hby at_9) rfl (flt hc2).2.1 (by decide) (by decide) kt) ?_
    refine own_go (g' := (mkF m 29 #[.val (.int p1), .val (.int y1), .unset] [(.int (0 : Int32))])) (fun t kt => XS.iconst X0.here hx rfl (hb hby at_28) kt) ?_
    refine own_go (g' := (mkF m 30 #[.val (.int p1), .val (.int y1), .val (.int (0 : Int32))] [])) (fun t kt => XS.istoreN X0.here hx rfl (hb hby at_29) rfl (l' := #[.val (.int p1), .val (.int y1), .val (.int (0 : Int32))]) rfl kt) ?_
    refine own_go (g' := (mkF m 31 #[.val (.int p1), .val (.int y1), .val (.int (0 : Int32))] [(.int y1)])) (fun t kt => XS.iloadN X0.here hx rfl (hb hby at_30) rfl kt) ?_
    refine own_callS X0 hx hZ (W := 0) (argsL := [(.int y1)]) (rest := []) hown (hw _ (List.mem_of_getElem? (i := 2) rfl)) (hw _ (List.mem_of_getElem? (i := 3) rfl)) (hw _ (List.mem_of_getElem? (i := 4) rfl)) (hw _ (List.mem_of_getElem? (i := 5) rfl)) (by decide) (own_ws l Z a0 hw y1 h0 n0 (Nat.le_trans Z0 K0.1)) (by decide) (by decide) (g := (mkF m 31 #[.val (.int p1), .val (.int y1), .val (.int (0 : Int32))] [(.int y1)])) rfl (by rw [hml]; rfl) (lenOf own_pd0 rfl) rfl (by show 2 * 0 + _ ≤ _; exact Nat.le_of_eq rfl) (hb hby at_31) e0 N0 (by decide) (by decide) (fun v6 T6 L6 X6 N6 hq6 => ?_)
    obtain ⟨rfl, e6⟩ := hq6
    show OEnds _ _ _ _ _ _ T6 (mkF m 34 #[.val (.int p1), .val (.int y1), .val (.int (0 : Int32))] [(.int (own_isw y1))])
    refine own_go (g' := (mkF m 35 #[.val (.int p1), .val (.int y1), .val (.int (0 : Int32))] [(.int (0 : Int32)), (.int (own_isw y1))])) (fun t kt => XS.iloadN X6.here hx rfl (hb hby at_34) rfl kt) ?_
    refine own_go (g' := (mkF m 38 #[.val (.int p1), .val (.int y1), .val (.int (0 : Int32))] [])) (fun t kt => XS.icmpNo X6.here hx rfl (hb hby at_35) rfl (teq (own_high y1 hc2 : (own_isw y1) = (0 : Int32))).2 kt) ?_
    refine own_go (g' := (mkF m 39 #[.val (.int p1), .val (.int y1), .val (.int (0 : Int32))] [(.int (1 : Int32))])) (fun t kt => XS.iconst X6.here hx rfl (hb hby at_38) kt) ?_
    refine own_go (g' := (mkF m 43 #[.val (.int p1), .val (.int y1), .val (.int (0 : Int32))] [(.int (1 : Int32))])) (fun t kt => XS.goto X6.here hx rfl (pc0 := 39) (pc' := 43) rfl (hb hby at_39) (by decide) (by decide) kt) ?_
    exact own_retN X6 hx hlk (t := .boolean) (z' := (1 : Int32)) hret (by simp) (hb hby at_43) rfl e6 N6 (by decide) (by decide) (rfl)
set_option maxRecDepth 65536 in
set_option maxHeartbeats 40000000 in
theorem comes_1 {Post : Tables → Env → Array Value → State → Outcome → State → Prop} (hpost : ∀ tb e args s v u, (limb_1_1.after args s (.returned v) u = true ∧ limb_1_2.after args s (.returned v) u = true ∧ True) → FrameEnd s (.returned v) u (Jvm.fieldLocs frame_1_writes args s ++ Jvm.arrayLocs frame_1_arrays args s ++ Jvm.staticLocs frame_1_statics s) 0 0 → Post tb e args s (.returned v) u) :
    ArmFor flags0 classFile x code maxLocals ret World_1 tables_1 room_1 Calls_1 rest_1 Pre_1 Post := by
  intro l hfl _ _ p e ha hc hk s m args below hf hA hF happ hP
  obtain ⟨hcalls, hrest, hpre⟩ := hP
  obtain ⟨-, -, -, hnamed, -, -, -, hat⟩ := (Spec.applies_iff hf).mp happ
  obtain ⟨hg, hn⟩ := and_e (Cond.before_iff.mp (show (Jvm.Cond.and given_1 narrow_1).before args s = true from hpre))
  obtain ⟨g0, k0⟩ := and_e hg
  obtain ⟨w0, rfl⟩ : ∃ w0 : Value, args = #[w0] := by
    have hs : args.size = 1 := by simpa [Cond.value, given_1] using g0
    obtain ⟨L⟩ := args
    match L, hs with
    | [w0], _ => exact ⟨w0, rfl⟩
  have hw := fun d (hd : d ∈ tables_1) => atoms_spec (ws := Jvm.Cond.code x code maxLocals ret :: tables_1) hat d (List.mem_cons_of_mem _ hd)
  have hfit : Fit s := fun {y c} hc i hi => by
    obtain ⟨ha, rfl⟩ := Array.getElem?_eq_some_iff.mp hc
    have q := List.all_eq_true.mp ((Array.all_eq_true_iff_forall_mem.mp hF) _ (Array.getElem_mem ha)) i (List.mem_range.mpr hi)
    simpa [Array.getElem?_eq_getElem hi] using q
  obtain ⟨i0, ei0⟩ := is_v k0
  obtain rfl : w0 = (.int i0) := Option.some.inj ei0
  obtain ⟨n, o, h1, h2, h3, _, L, rfl, ⟨N, rfl⟩, hq⟩ := own_law l s _ hw i0 s.heap s.heap.size (Nat.le_refl _)  tables_1 p e ha hc hk s m _ below hf ((Spec.applies_iff_loose hf).mp happ).1 ⟨rfl, State.Warmed39.refl s, rfl⟩ trivial
  refine ⟨n, _, h1, h2, h3, hpost _ _ _ _ _ _ ⟨Cond.after_iff.mpr rfl, Cond.after_iff.mpr (eq_i res_at (Term.int_eval (1)) rfl), trivial⟩ ⟨hq.1, hq.2.1, (hq.2.2.sift fun y hy => Or.inr (N y hy)).mono (by decide) (by decide)⟩⟩
theorem main_1_1 : Claimed_1_1 := comes_1 fun _ _ _ _ _ _ h hF => ⟨h.1, hF⟩
theorem main_1_2 : Claimed_1_2 := comes_1 fun _ _ _ _ _ _ h hF => ⟨h.2.1, hF⟩
end Jvm.Pilot.@@N@@
namespace Jvm.Pilot.@@N@@
open Jvm Jvm.ClassFile Sem Op Lib Jvm.Free Jvm.Stand Jvm.Pilot.@@N@@.Jvm.D
/-! MADE BY PROGRAM (witnessworld.py) out of the Statement's table words and the real class files: 9 classes; the members and pool entries that the words name. The judged class is class 1, her method 1. -/
namespace start1
open Jvm.ClassFile
def u (s : String) : CpInfo := .utf8 (stringToUtf16 s)
/-- a pool by its gaps: so many unusable entries, then the entry; so many at the end -/
def gap : Nat → List CpInfo → List CpInfo
  | 0, r => r
  | n + 1, r => .unusable :: gap n r
def poolList (es : List (Nat × CpInfo)) (last : Nat) : List CpInfo := es.foldr (fun e r => gap e.1 (e.2 :: r)) (gap last [])
def pool (es : List (Nat × CpInfo)) (last : Nat) : Array CpInfo := ⟨poolList es last⟩
def fileOf (pool : Array CpInfo) (this : Nat) (attrs : Array Attribute := #[]) (ms : Array MethodInfo := #[]) (fl : Nat := 33) (sup : Nat := 0) (ifs : Array Nat := #[]) (fds : Array FieldInfo := #[]) : ClassFile where
  minorVersion := 0
  majorVersion := 65
  constantPool := pool
  accessFlags := fl
  thisClass := this
  superClass := sup
  interfaces := ifs
  fields := fds
  methods := ms
  attributes := attrs
def plain (name : String) (sup : Option ClassId) : Class where
  name := name
  kind := .ordinary
  loader := none
  accessFlags := 33
  super := sup
  interfaces := #[]
  cf := none
  fields := #[]
  methods := #[]
  instanceTypes := #[]
  staticTypes := #[]
  resolved := #[]
  callSites := []
  init := .initialized
  statics := none
  mirror := none

def pool0 : Array CpInfo := pool [(5, u "<init>"), (0, u "()V"), (1, .class_ 10), (1, u "java/lang/Object")] 113

def k0m0 : Method := { name := "<init>", desc := "()V", sig := { parameters := [], returnType := none }, accessFlags := 1, code := none }
/-- java/lang/Object -/
def k0 : Class := { plain "java/lang/Object" none with
  accessFlags := 33
  interfaces := #[]
  cf := some (fileOf pool0 8 #[] #[{ accessFlags := 1, nameIndex := 5, descriptorIndex := 6, attributes := #[] }] 33 0 #[] #[])
  fields := #[]
  methods := #[k0m0]
  instanceTypes := #[]
  staticTypes := #[]
  resolved := Array.replicate 124 none
  statics := none }

def pool1 : Array CpInfo := pool [(2, .class_ 4), (1, u "java/lang/Object"), (0, u "<init>"), (0, u "()V"), (0, .integer 65535), (0, .class_ 9), (0, u "com/example/clearcycle/clearcycle/SimpleTypeIsWhiteSpacePinLaw"), (0, .long 4294977024), (1, .methodref 13 14), (0, .class_ 15), (0, .nameAndType 16 17), (0, u "com/example/clearcycle/clearcycle/SimpleType"), (0, u "isWhiteSpace"), (0, u "(C)Z"), (0, u "XML_SPACES"), (0, u "J"), (3, u "law"), (0, u "(I)Z")] 3

def k1m0 : Method := { name := "<init>", desc := "()V", sig := { parameters := [], returnType := none }, accessFlags := 2, code := none }
def k1c1 : Code := { maxStack := 4, maxLocals := 3, code := code, exceptionTable := #[], attributes := #[] }
def k1m1 : Method := { name := "law", desc := "(I)Z", sig := { parameters := [.int], returnType := some .boolean }, accessFlags := 9, code := some k1c1 }
/-- com/example/clearcycle/clearcycle/SimpleTypeIsWhiteSpacePinLaw -/
def k1 : Class := { plain "com/example/clearcycle/clearcycle/SimpleTypeIsWhiteSpacePinLaw" (some 0) with
  accessFlags := 49
  interfaces := #[]
  cf := some (fileOf pool1 8 #[] #[{ accessFlags := 2, nameIndex := 5, descriptorIndex := 6, attributes := #[] }, { accessFlags := 9, nameIndex := 23, descriptorIndex := 24, attributes := #[] }] 49 2 #[] #[{ accessFlags := 26, nameIndex := 18, descriptorIndex := 19, attributes := #[] }])
  fields := #[{ name := "XML_SPACES", type := .long, accessFlags := 26, slot := 0, constantValue := 0 }]
  methods := #[k1m0, k1m1]
  instanceTypes := #[]
  staticTypes := #[.long]
  resolved := Array.replicate 28 none
  statics := none }

def pool2 : Array CpInfo := pool [(2, .class_ 4), (1, u "java/lang/Object"), (3, .class_ 10), (1, u "com/example/clearcycle/clearcycle/SimpleType"), (0, u "name"), (0, u "Ljava/lang/String;"), (2, u "facets"), (0, u "Lcom/example/clearcycle/clearcycle/SimpleType$Facets;"), (1, .class_ 20), (1, u "com/example/clearcycle/clearcycle/SimpleType$Facets"), (0, u "codes"), (8, u "Lcom/example/clearcycle/clearcycle/SortedTexts;"), (2, u "pattern"), (8, u "Lcom/example/clearcycle/clearcycle/SchemaPattern;"), (14, .class_ 59), (1, u "com/example/clearcycle/clearcycle/SimpleType$Base"), (31, u "isWhiteSpace"), (0, u "(C)Z"), (65, u "BOOLEANS"), (0, u "Ljava/util/List;")] 86

def k2c0 : Code := { maxStack := 2, maxLocals := 1, code := prog_114_method_27_code, exceptionTable := #[], attributes := #[] }
def k2m0 : Method := { name := "isWhiteSpace", desc := "(C)Z", sig := { parameters := [.char], returnType := some .boolean }, accessFlags := 8, code := some k2c0 }
/-- com/example/clearcycle/clearcycle/SimpleType -/
def k2 : Class := { plain "com/example/clearcycle/clearcycle/SimpleType" (some 0) with
  accessFlags := 48
  interfaces := #[]
  cf := some (fileOf pool2 8 #[.nestMembers #[18, 57]] #[{ accessFlags := 8, nameIndex := 91, descriptorIndex := 92, attributes := #[] }] 48 2 #[] #[{ accessFlags := 26, nameIndex := 158, descriptorIndex := 159, attributes := #[] }, { accessFlags := 18, nameIndex := 11, descriptorIndex := 12, attributes := #[] }, { accessFlags := 18, nameIndex := 15, descriptorIndex := 16, attributes := #[] }, { accessFlags := 18, nameIndex := 21, descriptorIndex := 30, attributes := #[] }, { accessFlags := 18, nameIndex := 33, descriptorIndex := 42, attributes := #[] }])
  fields := #[{ name := "BOOLEANS", type := (.object "java/util/List"), accessFlags := 26, slot := 0, constantValue := 0 }, { name := "name", type := (.object "java/lang/String"), accessFlags := 18, slot := 0, constantValue := 0 }, { name := "facets", type := (.object "com/example/clearcycle/clearcycle/SimpleType$Facets"), accessFlags := 18, slot := 1, constantValue := 0 }, { name := "codes", type := (.object "com/example/clearcycle/clearcycle/SortedTexts"), accessFlags := 18, slot := 2, constantValue := 0 }, { name := "pattern", type := (.object "com/example/clearcycle/clearcycle/SchemaPattern"), accessFlags := 18, slot := 3, constantValue := 0 }]
  methods := #[k2m0]
  instanceTypes := #[(.object "java/lang/String"), (.object "com/example/clearcycle/clearcycle/SimpleType$Facets"), (.object "com/example/clearcycle/clearcycle/SortedTexts"), (.object "com/example/clearcycle/clearcycle/SchemaPattern")]
  staticTypes := #[(.object "java/util/List")]
  resolved := Array.replicate 246 none
  statics := none }

def pool3 : Array CpInfo := pool [(1, u "java/lang/Cloneable"), (0, .class_ 1), (0, u "java/lang/Object"), (0, .class_ 3)] 3

/-- java/lang/Cloneable -/
def k3 : Class := { plain "java/lang/Cloneable" (some 0) with
  accessFlags := 1537
  interfaces := #[]
  cf := some (fileOf pool3 2 #[] #[] 1537 4 #[] #[])
  fields := #[]
  methods := #[]
  instanceTypes := #[]
  staticTypes := #[]
  resolved := Array.replicate 8 none
  statics := none }

def pool4 : Array CpInfo := pool [(1, u "java/io/Serializable"), (0, .class_ 1), (0, u "java/lang/Object"), (0, .class_ 3)] 3

/-- java/io/Serializable -/
def k4 : Class := { plain "java/io/Serializable" (some 0) with
  accessFlags := 1537
  interfaces := #[]
  cf := some (fileOf pool4 2 #[] #[] 1537 4 #[] #[])
  fields := #[]
  methods := #[]
  instanceTypes := #[]
  staticTypes := #[]
  resolved := Array.replicate 8 none
  statics := none }

/-- the primitive byte -/
def k5 : Class := { plain "byte" none with kind := .primitive 'B', accessFlags := 0x411 }
/-- [B -/
def k6 : Class := { plain "[B" (some 0) with kind := .array 5 .byte, interfaces := #[3, 4], accessFlags := 1041 }

/-- the primitive int -/
def k7 : Class := { plain "int" none with kind := .primitive 'I', accessFlags := 0x411 }
/-- [I -/
def k8 : Class := { plain "[I" (some 0) with kind := .array 7 .int, interfaces := #[3, 4], accessFlags := 1041 }

def heap : Heap := #[]
def classes : Array Class := #[k0, k1, k2, k3, k4, k5, k6, k7, k8]
def interned : List (Array UInt16 × Addr) := []
def slotsUsed : Nat := 0
def theMethod : MethodId := ⟨1, 1⟩
def args0 : Array Value := #[.int 5]
def aboutOver (below : List Frame) : State where
  vm := { classes := classes, interned := interned.toArray }
  heap := heap
  slotsUsed := slotsUsed
  threads := #[{ frames := .invoking theMethod args0 :: below }]
def below0 : List Frame := [.native { method := ⟨0, 0⟩, args := #[] }]
def about1 : State := aboutOver below0
def p0 : Program := .bare "" "" ""
def e0 : Env := launch0.env 0 0 0
theorem w_frames : about1.frames = Frame.invoking theMethod args0 :: below0 := rfl
set_option maxRecDepth 65536 in
theorem w_args : argsFit about1.vm theMethod args0 = true := by decide +kernel
set_option maxRecDepth 65536 in
theorem w_heap : heapFits about1 = true := by decide +kernel
set_option maxRecDepth 65536 in
theorem w_runnable : about1.curStatus? = some .runnable := by decide +kernel
set_option maxRecDepth 65536 in
theorem w_alone : about1.alone = true := by decide +kernel
set_option maxRecDepth 65536 in
theorem w_named : about1.methodNamed? x = some theMethod := by decide +kernel
set_option maxRecDepth 65536 in
theorem w_hears : about1.hears theMethod below0 = true := by decide +kernel
set_option maxRecDepth 65536 in
theorem w_ripe : about1.ripe theMethod args0 below0 = true := by decide +kernel
theorem w_running : about1.status = .running := rfl
set_option maxRecDepth 65536 in
theorem w_room : about1.hasRoom e0.platform room_1 = true :=
  launch0.hasRoom_least _ room_1 (by decide +kernel) (by decide +kernel) (by decide +kernel) (by decide +kernel) (by decide +kernel) (by decide +kernel)
theorem allAtoms_all (ts : List Jvm.Cond) (a : Array Jvm.Value) (st : Jvm.State) : (allAtoms ts).before a st = ts.all (fun c => c.before a st) := by
  induction ts with
  | nil => rfl
  | cons c t ih =>
    show (Jvm.Cond.and c (allAtoms t)).before a st = _
    rw [Jvm.Cond.before_and, ih, List.all_cons]
def words1 : List Jvm.Cond := Jvm.Cond.code x code maxLocals ret :: tables_1
/-- a 'code' word, met by the world's own term for the bytes: nothing is compared byte by byte -/
theorem code_word {y : MethodName} {bytes : ByteArray} {mx : Nat} {rt : Option FieldType} {a : Array Value} {s : State} {m : MethodId} {meth : Method} {c : Code} (h1 : s.methodNamed? y = some m) (h2 : s.vm.method? m = some meth) (h3 : meth.code = some c) (h4 : c.code = bytes)
    (h5 : (c.maxLocals == mx && c.exceptionTable.isEmpty && decide (c.maxStack ≤ mostOperands) && decide (meth.sig.returnType = rt) && !meth.locks && decide (parseMethodDescriptor y.desc = some meth.sig)) = true) : (Jvm.Cond.code y bytes mx rt).before a s = true := by
  simp only [Bool.and_eq_true, beq_iff_eq, Bool.not_eq_true', decide_eq_true_eq] at h5
  obtain ⟨⟨⟨⟨⟨g1, g2⟩, g3⟩, g4⟩, g5⟩, g6⟩ := h5
  simp [Cond.before, Cond.holds, Cond.value, h1, h2, h3, h4, g1, g2, g3, g4, g5, g6]
def isCode : Jvm.Cond → Bool
  | .code _ _ _ _ => true
  | _ => false
theorem all_split {L : List Jvm.Cond} {P : Jvm.Cond → Bool} (h1 : L.all (fun c => isCode c || P c) = true) (h2 : ∀ c ∈ L.filter isCode, P c = true) : L.all P = true := by
  refine List.all_eq_true.mpr fun c hc => ?_
  have h := List.all_eq_true.mp h1 c hc
  rcases Bool.eq_false_or_eq_true (isCode c) with hi | hi
  · exact h2 c (List.mem_filter.mpr ⟨hc, hi⟩)
  · simpa [hi] using h
set_option maxRecDepth 65536 in
theorem w_c0 : (Jvm.Cond.code x code maxLocals ret).before args0 about1 = true := code_word (m := ⟨1, 1⟩) (meth := k1m1) (c := k1c1) (by decide +kernel) rfl rfl rfl (by decide +kernel)
set_option maxRecDepth 65536 in
theorem w_c1 : (Jvm.Cond.code ({ cls := "com/example/clearcycle/clearcycle/SimpleType", name := "isWhiteSpace", desc := "(C)Z" } : Jvm.MethodName) prog_114_method_27_code (1 : Nat) (Option.some Jvm.ClassFile.FieldType.boolean)).before args0 about1 = true := code_word (m := ⟨2, 0⟩) (meth := k2m0) (c := k2c0) (by decide +kernel) rfl rfl rfl (by decide +kernel)
def codes1 : List Jvm.Cond := [Jvm.Cond.code x code maxLocals ret, Jvm.Cond.code ({ cls := "com/example/clearcycle/clearcycle/SimpleType", name := "isWhiteSpace", desc := "(C)Z" } : Jvm.MethodName) prog_114_method_27_code (1 : Nat) (Option.some Jvm.ClassFile.FieldType.boolean)]
set_option maxRecDepth 65536 in
theorem codes_eq : words1.filter isCode = codes1 := rfl
theorem w_codes : ∀ c ∈ words1.filter isCode, c.before args0 about1 = true := by
  rw [codes_eq]
  intro c hc
  simp only [codes1, List.mem_cons, List.not_mem_nil, or_false] at hc
  rcases hc with rfl | rfl
  · exact w_c0
  · exact w_c1
set_option maxRecDepth 65536 in
theorem w_t1 : words1.all (fun c => isCode c || c.before args0 about1) = true := by decide +kernel
theorem w_tables : (allAtoms (Jvm.Cond.code x code maxLocals ret :: tables_1)).before args0 about1 = true := by
  rw [allAtoms_all]
  show words1.all (fun c => c.before args0 about1) = true
  refine all_split ?_ w_codes
  rw [w_t1]
set_option maxRecDepth 65536 in
theorem w_case : (Jvm.Cond.and given_1 narrow_1).before args0 about1 = true := by decide +kernel
theorem w_applies : (headSpec (Jvm.Cond.code x code maxLocals ret :: tables_1) room_1).applies x e0.platform about1 = true :=
  (Spec.applies_iff w_frames).mpr ⟨w_running, w_runnable, w_alone, w_named, w_hears, w_ripe, w_room, w_tables⟩
theorem atStart : AtStart classFile x code maxLocals ret World_1 tables_1 room_1 Calls_1 rest_1 Pre_1 launch0 p0 e0 about1 theMethod args0 below0 :=
  ⟨lists_1, trivial, launch0.admits_env _ _ _, launch0.least_env, fairChoices_fair.cas, fairChoices_fair.clock, w_frames, w_args, w_heap, w_applies, trivial, trivial, w_case⟩
end start1
theorem witness_1 : WitnessClaimed_1 := ⟨start1.p0, start1.e0, start1.about1, start1.theMethod, start1.args0, start1.below0, start1.atStart⟩
end Jvm.Pilot.@@N@@
