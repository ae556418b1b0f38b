import JvmDerived
import JvmDerived.Pilot.@@N@@Statement
import JvmDerived.Pilot.@@N@@Code
set_option linter.unusedVariables false
set_option linter.unusedSimpArgs false
namespace Jvm.Pilot.@@N@@
open Jvm Jvm.ClassFile Sem Op Lib Jvm.Free Jvm.Stand Jvm.LawKit Jvm.RoadKit Bundle Jvm.Pilot.@@N@@.Jvm.D
/-! own prelude: 'own_Goes' says that from state T with top frame g the invocation comes to its end with what Q says -/
section OwnPrelude
variable {p : Program} {l : Launch} {e : Env} {R : Room} {s : State} {m : MethodId} {args : Array Value} {below : List Frame} {meth : Method} {c : Code} {T T' : State} {locs : List Loc} {cells slots : Nat} {Z : State} {a0 : Array Value} {h : Heap} {kc ks : Nat} {Q : Option Value → Heap → List Loc → Prop} {g g' : JFrame}
def own_Goes (p : Program) (e : Env) (below : List Frame) (s : State) (kc ks : Nat) (Q : Option Value → Heap → List Loc → Prop) (T : State) (g : JFrame) : Prop :=
  ∃ t o, Steps p.tables e below (T.setTop g) t ∧ t.status = .running ∧ Ended t below o ∧ ∃ v L, o = .returned v ∧ Q v t.heap L ∧ FrameEnd s o t L kc ks
abbrev own_Ctr (l : Launch) (Z : State) (y : MethodName) (bytes : ByteArray) (maxL : Nat) (ret : Option FieldType) (ws : List Jvm.Cond) (rm : Room) (kc ks : Nat) (as' : Array Value) (h : Heap) (Q : Option Value → Heap → List Loc → Prop) : Prop :=
  MetFree l y (head1 (Jvm.Cond.code y bytes maxL ret :: ws) rm) (fun a U => a = as' ∧ Z.Warmed39 U.vm ∧ U.heap = h) (fun _ _ _ _ _ => True) (fun _ U o U' => ∃ v L, o = .returned v ∧ Q v U'.heap L ∧ FrameEnd U o U' L kc ks)
theorem own_by (st : ∀ t, Steps p.tables e below (T'.setTop g') t → Steps p.tables e below (T.setTop g) t) (k : own_Goes p e below s kc ks Q T' g') : own_Goes p e below s kc ks Q T g := by
  obtain ⟨t, o, h1, r⟩ := k; exact ⟨t, o, st t h1, r⟩
theorem own_cast (q : g = g') (k : own_Goes p e below s kc ks Q T g') : own_Goes p e below s kc ks Q T g := q ▸ k
theorem own_enter {y : MethodName} {bytes : ByteArray} {maxL : Nat} {ret : Option FieldType} {ws : List Jvm.Cond} {rm : Room} {as' : Array Value} (hpl : plainFor y = true)
    (k : ∀ p e s m below meth c s₁, Stand p l e rm s m as' below meth c s₁ [] 0 0 → p.tables.exec = Jvm.exec → Z.Warmed39 s.vm → c.code = bytes → c.maxLocals = maxL → s.vm.findClass y.cls = some m.cls → meth.name = y.name → meth.locks = false → meth.sig.returnType = ret → s₁.heap = h → own_Goes p e below s kc ks Q s₁ (entryFrame m as' maxL)) :
    own_Ctr l Z y bytes maxL ret ws rm kc ks as' h Q := by
  refine MetFree.of_bodySF hpl hisR ?_
  intro p e s m args below meth c s₁ Bd hml0 hP hK
  obtain ⟨rfl, hZ, hh⟩ := hP
  exact k p e s m below meth c s₁ (Stand.of_body Bd) Bd.exec hZ Bd.bytes hml0 (findClass_of_methodNamed Bd.named) (name_of_methodNamed Bd.named Bd.method).1 Bd.notSynchronized Bd.returns (by rw [← hh, Bd.state]; rfl)
theorem own_mono (X : Stand p l e R s m args below meth c T locs cells slots) {c' n' : Nat} (h1 : cells ≤ c') (h2 : slots ≤ n') : Stand p l e R s m args below meth c T locs c' n' :=
  { X with same := X.same.mono h1 h2 }
theorem own_out (X : Stand p l e R s m args below meth c T locs cells slots) (hlk : meth.locks = false) {v : Option Value} (hv : meth.sig.returnType = none → v = none)
    (st : ∀ fs, (∀ (f : JFrame) (acts : List Action), f.method = m → f.locked = none → f.entered = [] → (doReturn e (T.setTop f) acts v).1 = T.setFrames fs) → Steps p.tables e below (T.setTop g) (T.setFrames fs))
    (hc : cells ≤ kc) (hs : slots ≤ ks) (hQ : Q v T.heap locs) : own_Goes p e below s kc ks Q T g := by
  obtain ⟨fs, hr, hrun, hended, hW, hsame⟩ := X.leave (v := v) hv hlk
  exact ⟨_, _, st fs hr, hrun, hended, v, locs, rfl, hQ, ⟨_, rfl⟩, hW, hsame.mono hc hs⟩
theorem own_ret {w : Value} {t : FieldType} {i : Instr} {pc : Nat} {Ls : Array Slot} {rest : List Value} (X : Stand p l e R s m args below meth c T locs cells slots) (hx : p.tables.exec = Jvm.exec) (hlk : meth.locks = false) (hret : meth.sig.returnType = some t) (hn : narrow t w = w)
    (hi : (i = .ireturn ∧ (t = .int ∨ t = .boolean ∨ t = .byte ∨ t = .char ∨ t = .short) ∧ ∃ z, w = .int z) ∨ (i = .lreturn ∧ t = .long ∧ ∃ z, w = .long z) ∨ (i = .dreturn ∧ t = .double ∧ ∃ z, w = .double z) ∨ (i = .freturn ∧ t = .float ∧ ∃ z, w = .float z) ∨ (i = .areturn ∧ t.isReference = true ∧ w.isRef = true))
    (hd : decode c.code pc = .ok (i, 1)) (hc : cells ≤ kc) (hs : slots ≤ ks) (hQ : Q (some w) T.heap locs) : own_Goes p e below s kc ks Q T (mkF m pc Ls (w :: rest)) :=
  own_out X hlk (fun h => by rw [hret] at h; cases h) (fun fs hr => retOut X hx hret hn hi hd hr) hc hs hQ
theorem own_retI {z : Int32} {pc : Nat} {Ls : Array Slot} {rest : List Value} (X : Stand p l e R s m args below meth c T locs cells slots) (hx : p.tables.exec = Jvm.exec) (hlk : meth.locks = false) (hret : meth.sig.returnType = some .int)
    (hd : decode c.code pc = .ok (.ireturn, 1)) (hc : cells ≤ kc) (hs : slots ≤ ks) (hQ : Q (some (.int z)) T.heap locs) : own_Goes p e below s kc ks Q T (mkF m pc Ls (.int z :: rest)) :=
  own_ret X hx hlk hret rfl (Or.inl ⟨rfl, Or.inl rfl, z, rfl⟩) hd hc hs hQ
theorem own_retJ {z : Int64} {pc : Nat} {Ls : Array Slot} {rest : List Value} (X : Stand p l e R s m args below meth c T locs cells slots) (hx : p.tables.exec = Jvm.exec) (hlk : meth.locks = false) (hret : meth.sig.returnType = some .long)
    (hd : decode c.code pc = .ok (.lreturn, 1)) (hc : cells ≤ kc) (hs : slots ≤ ks) (hQ : Q (some (.long z)) T.heap locs) : own_Goes p e below s kc ks Q T (mkF m pc Ls (.long z :: rest)) :=
  own_ret X hx hlk hret rfl (Or.inr (Or.inl ⟨rfl, rfl, z, rfl⟩)) hd hc hs hQ
theorem own_retD {z : UInt64} {pc : Nat} {Ls : Array Slot} {rest : List Value} (X : Stand p l e R s m args below meth c T locs cells slots) (hx : p.tables.exec = Jvm.exec) (hlk : meth.locks = false) (hret : meth.sig.returnType = some .double)
    (hd : decode c.code pc = .ok (.dreturn, 1)) (hc : cells ≤ kc) (hs : slots ≤ ks) (hQ : Q (some (.double z)) T.heap locs) : own_Goes p e below s kc ks Q T (mkF m pc Ls (.double z :: rest)) :=
  own_ret X hx hlk hret rfl (Or.inr (Or.inr (Or.inl ⟨rfl, rfl, z, rfl⟩))) hd hc hs hQ
theorem own_fitR {t : FieldType} {w : Value} (ht : t.isReference = true) (hw : w.isRef = true) : fits t w = true := by cases t <;> simp [FieldType.isReference] at ht <;> rcases ref_cases hw with rfl | ⟨a, rfl⟩ <;> rfl
theorem own_cat1 {w : Value} (hw : w.isRef = true) : w.category = 1 := by rcases ref_cases hw with rfl | ⟨a, rfl⟩ <;> rfl
theorem own_stG {ls l' : Array Slot} {i : Nat} {v : Value} {o : Slot} (hold : ls[i]? = some o) (ho : o = .unset ∨ ∃ w, o = .val w ∧ w.category = 1) (hv : v.category = 1) (q : ls.setIfInBounds i (.val v) = l') : storeLocals ls i v = some l' := q ▸ XS.store1 hold ho hv
theorem own_narR {t : FieldType} {w : Value} (ht : t.isReference = true) : narrow t w = w := by cases t <;> simp [FieldType.isReference] at ht <;> cases w <;> rfl
theorem own_retA {w : Value} {t : FieldType} {pc : Nat} {Ls : Array Slot} {rest : List Value} (X : Stand p l e R s m args below meth c T locs cells slots) (hx : p.tables.exec = Jvm.exec) (hlk : meth.locks = false) (hret : meth.sig.returnType = some t) (ht : t.isReference = true) (hw : w.isRef = true)
    (hd : decode c.code pc = .ok (.areturn, 1)) (hc : cells ≤ kc) (hs : slots ≤ ks) (hQ : Q (some w) T.heap locs) : own_Goes p e below s kc ks Q T (mkF m pc Ls (w :: rest)) :=
  own_ret X hx hlk hret (own_narR ht) (Or.inr (Or.inr (Or.inr (Or.inr ⟨rfl, ht, hw⟩)))) hd hc hs hQ
theorem own_retN {z : Int32} {t : FieldType} {pc : Nat} {Ls : Array Slot} {rest : List Value} (X : Stand p l e R s m args below meth c T locs cells slots) (hx : p.tables.exec = Jvm.exec) (hlk : meth.locks = false) (hret : meth.sig.returnType = some t) (ht : t = .boolean ∨ t = .byte ∨ t = .char ∨ t = .short)
    (hd : decode c.code pc = .ok (.ireturn, 1)) (hc : cells ≤ kc) (hs : slots ≤ ks) (hQ : Q (some (.int (nar t z))) T.heap locs) : own_Goes p e below s kc ks Q T (mkF m pc Ls (.int z :: rest)) :=
  own_out X hlk (fun h => by rw [hret] at h; cases h) (fun fs hr => retN X hx hret ht hd hr) hc hs hQ
theorem own_retV {pc : Nat} {Ls : Array Slot} (X : Stand p l e R s m args below meth c T locs cells slots) (hx : p.tables.exec = Jvm.exec) (hlk : meth.locks = false) (hret : meth.sig.returnType = none)
    (hd : decode c.code pc = .ok (.return_, 1)) (hc : cells ≤ kc) (hs : slots ≤ ks) (hQ : Q none T.heap locs) : own_Goes p e below s kc ks Q T (mkF m pc Ls []) :=
  own_out X hlk (fun _ => rfl) (fun fs hr => X.returnOut hx hret hd hr) hc hs hQ
/-- an array of that type and length, whatever it holds -/
def own_Arz (Z : State) (h : Heap) (a : Addr) (ty : FieldType) (z : Int32) : Prop := ∃ c : Cell, Arr Z h a c ty ∧ c.slots.size = z.toNatClampNeg ∧ ¬ z < 0
theorem own_Arz.of {a : Addr} {k : ClassId} {ty : FieldType} {z : Int32} {vs : List Value} {dv : Value} (F : Arv Z h a k ty z vs dv) : own_Arz Z h a ty z := by obtain ⟨c, A, -, S, q, -⟩ := F; exact ⟨c, A, S, q⟩
theorem own_Arz.lt {a : Addr} {ty : FieldType} {z : Int32} (F : own_Arz Z h a ty z) : a < h.size := by obtain ⟨c, A, -⟩ := F; exact A.lt
theorem own_Arz.ext {h' : Heap} {a : Addr} {ty : FieldType} {z : Int32} (F : own_Arz Z h a ty z) (E : Ext h h') : own_Arz Z h' a ty z := by obtain ⟨c, A, r⟩ := F; exact ⟨c, A.ext E, r⟩
theorem own_Arz.other {h' : Heap} {a b : Addr} {ty : FieldType} {z : Int32} {sl : Nat} {v : Value} (F : own_Arz Z h b ty z) (W : Wr h h' a sl v) (q : b ≠ a) : own_Arz Z h' b ty z := by obtain ⟨c, A, r⟩ := F; exact ⟨c, A.other W q, r⟩
theorem own_Arz.same {h' : Heap} {a : Addr} {ty : FieldType} {z : Int32} {sl : Nat} {v : Value} (F : own_Arz Z h a ty z) (W : Wr h h' a sl v) : own_Arz Z h' a ty z := by obtain ⟨c, A, r1, r2⟩ := F; exact ⟨_, A.same W, by rw [sz_set]; exact r1, r2⟩
theorem own_Arz.keep {h' : Heap} {a : Addr} {ty : FieldType} {z : Int32} {ws : List Addr} (F : own_Arz Z h a ty z) (K : Keep h h' ws) (q : a ∉ ws) : own_Arz Z h' a ty z := by obtain ⟨c, A, r⟩ := F; exact ⟨c, ⟨K.2.1 a c A.1 q, A.2⟩, r⟩
section OwnCalls
variable {own : String} {index : Nat} {y z : MethodName} {bytes : ByteArray} {maxL : Nat} {ret : Option FieldType} {rm : Room} {Q' : Option Value → Heap → List Loc → Prop} {argsL rest : List Value}
theorem own_callS (X : Stand p l e R s m args below meth c T locs cells slots) (hx : p.tables.exec = Jvm.exec) (hZ : Z.Warmed39 s.vm) (hown : s.vm.findClass own = some m.cls)
    (w1 : (Cond.methodLink own index y).before a0 Z = true) (w2 : (Cond.static y).before a0 Z = true) (w3 : (Cond.initialized y.cls).before a0 Z = true) (w4 : (Cond.code y bytes maxL ret).before a0 Z = true)
    (hy : y.cls ≠ "java/lang/invoke/MethodHandle" ∧ y.cls ≠ "java/lang/invoke/VarHandle") (hM : own_Ctr l Z y bytes maxL ret [] rm rm.cells rm.slots argsL.toArray h Q') (W : Nat)
    (hf : rm.frames + 1 ≤ R.frames) (hl : W + (maxL + 11) + rm.locals ≤ R.locals) (hc : cells + rm.cells ≤ R.cells) (hs : slots + rm.slots ≤ R.slots) (eT : T.heap = h)
    (hg : g.method = m) (hsize : g.locals.size = c.maxLocals) (hlen : ∀ sig, parseMethodDescriptor y.desc = some sig → argsL.length = sig.parameters.length) (hstack : g.stack = argsL.reverse ++ rest)
    (hW : 2 * g.monitorRoom + (rest.map fun v => v.category).sum ≤ W) (hd : decode c.code g.pc = .ok (.invokestatic index, 3))
    (k : ∀ v T' L, Stand p l e R s m args below meth c T' (locs ++ L) (cells + rm.cells) (slots + rm.slots) → Q' v T'.heap L → own_Goes p e below s kc ks Q T' { g with pc := g.pc + 3, stack := v.toList ++ rest }) : own_Goes p e below s kc ks Q T g := by
  obtain ⟨v, _, ⟨T', L', k', n'⟩, -, X', ⟨Lc, hQ, l1, y1, z1⟩, st⟩ := Jvm.LawKit.callS X hx hown (mvT hZ w1) (mvT hZ w2) (mvT hZ w3) (mvT hZ w4) hy (backOf (W := W) hM hZ w4 w3 hf hl) hg hsize hlen hstack hW hd (fun _ _ => ⟨rfl, eT, hc, hs⟩)
  dsimp only [Pt.U, Pt.locs, Pt.cells, Pt.slots] at X' l1 y1 z1 st hQ
  subst l1 y1 z1
  exact own_by st (k v T' Lc X' hQ)
theorem own_callI (X : Stand p l e R s m args below meth c T locs cells slots) (hx : p.tables.exec = Jvm.exec) (hZ : Z.Warmed39 s.vm) (hown : s.vm.findClass own = some m.cls) (hy1 : y.name = "<init>")
    (w1 : (Cond.methodLink own index y).before a0 Z = true) (w2 : (Cond.instanceMethod y).before a0 Z = true) (w3 : (Cond.initialized y.cls).before a0 Z = true) (w4 : (Cond.code y bytes maxL none).before a0 Z = true)
    (hy : y.cls ≠ "java/lang/invoke/MethodHandle" ∧ y.cls ≠ "java/lang/invoke/VarHandle") {a : Addr} (hM : own_Ctr l Z y bytes maxL none [] rm rm.cells rm.slots (.ref a :: argsL).toArray h Q') (W : Nat)
    (hf : rm.frames + 1 ≤ R.frames) (hl : W + (maxL + 11) + rm.locals ≤ R.locals) (hc : cells + rm.cells ≤ R.cells) (hs : slots + rm.slots ≤ R.slots) (eT : T.heap = h)
    (hg : g.method = m) (hsize : g.locals.size = c.maxLocals) (hlen : ∀ sig, parseMethodDescriptor y.desc = some sig → argsL.length = sig.parameters.length) (hstack : g.stack = argsL.reverse ++ .ref a :: rest)
    (hW : 2 * g.monitorRoom + (rest.map fun v => v.category).sum ≤ W) (hd : decode c.code g.pc = .ok (.invokespecial index, 3))
    (k : ∀ v T' L, Stand p l e R s m args below meth c T' (locs ++ L) (cells + rm.cells) (slots + rm.slots) → Q' v T'.heap L → own_Goes p e below s kc ks Q T' { g with pc := g.pc + 3, stack := v.toList ++ rest }) : own_Goes p e below s kc ks Q T g := by
  obtain ⟨v, _, ⟨T', L', k', n'⟩, -, X', ⟨Lc, hQ, l1, y1, z1⟩, st⟩ := X.specialBack hx hy1 hown (mvT hZ w1) (mvT hZ w2) (mvT hZ w4) hy (backOf (W := W) hM hZ w4 w3 hf hl) hg hsize (Steps.refl _) hlen hstack hW hd (fun _ _ => ⟨rfl, eT, hc, hs⟩)
  dsimp only [Pt.U, Pt.locs, Pt.cells, Pt.slots] at X' l1 y1 z1 st hQ
  subst l1 y1 z1
  exact own_by (fun t kt => st.trans kt) (k v T' Lc X' hQ)
theorem own_callIN {host : String} (X : Stand p l e R s m args below meth c T locs cells slots) (hx : p.tables.exec = Jvm.exec) (hZ : Z.Warmed39 s.vm) (hown : s.vm.findClass own = some m.cls) (hy1 : y.name = "<init>")
    (w1 : (Cond.methodLinkNest own index y host).before a0 Z = true) (w2 : (Cond.instanceMethod y).before a0 Z = true) (w3 : (Cond.initialized y.cls).before a0 Z = true) (w4 : (Cond.code y bytes maxL none).before a0 Z = true)
    (hy : y.cls ≠ "java/lang/invoke/MethodHandle" ∧ y.cls ≠ "java/lang/invoke/VarHandle") {a : Addr} (hM : own_Ctr l Z y bytes maxL none [] rm rm.cells rm.slots (.ref a :: argsL).toArray h Q') (W : Nat)
    (hf : rm.frames + 1 ≤ R.frames) (hl : W + (maxL + 11) + rm.locals ≤ R.locals) (hc : cells + rm.cells ≤ R.cells) (hs : slots + rm.slots ≤ R.slots) (eT : T.heap = h)
    (hg : g.method = m) (hsize : g.locals.size = c.maxLocals) (hlen : ∀ sig, parseMethodDescriptor y.desc = some sig → argsL.length = sig.parameters.length) (hstack : g.stack = argsL.reverse ++ .ref a :: rest)
    (hW : 2 * g.monitorRoom + (rest.map fun v => v.category).sum ≤ W) (hd : decode c.code g.pc = .ok (.invokespecial index, 3))
    (k : ∀ v T' L, Stand p l e R s m args below meth c T' (locs ++ L) (cells + rm.cells) (slots + rm.slots) → Q' v T'.heap L → own_Goes p e below s kc ks Q T' { g with pc := g.pc + 3, stack := v.toList ++ rest }) : own_Goes p e below s kc ks Q T g := by
  obtain ⟨v, _, ⟨T', L', k', n'⟩, -, X', ⟨Lc, hQ, l1, y1, z1⟩, st⟩ := X.specialBackNest hx hy1 hown (Cond.methodLinkNest_wide hZ w1 :) (mvT hZ w2) (mvT hZ w4) hy (backOf (W := W) hM hZ w4 w3 hf hl) hg hsize (Steps.refl _) hlen hstack hW hd (fun _ _ => ⟨rfl, eT, hc, hs⟩)
  dsimp only [Pt.U, Pt.locs, Pt.cells, Pt.slots] at X' l1 y1 z1 st hQ
  subst l1 y1 z1
  exact own_by (fun t kt => st.trans kt) (k v T' Lc X' hQ)
theorem own_callV {C : String} (X : Stand p l e R s m args below meth c T locs cells slots) (hx : p.tables.exec = Jvm.exec) (hZ : Z.Warmed39 s.vm) (hown : s.vm.findClass own = some m.cls)
    (w1 : (Cond.methodLink own index y).before a0 Z = true) (w2 : (Cond.declares y).before a0 Z = true) (hnf : NotFace s y) (w3 : (Cond.selects C y z).before a0 Z = true) (w4 : (Cond.instanceMethod z).before a0 Z = true) (w5 : (Cond.code z bytes maxL ret).before a0 Z = true) (w6 : (Cond.initialized z.cls).before a0 Z = true)
    (hy : y.cls ≠ "java/lang/invoke/MethodHandle" ∧ y.cls ≠ "java/lang/invoke/VarHandle") {a : Addr} (E : Exa Z h a C) (hM : own_Ctr l Z z bytes maxL ret [] rm rm.cells rm.slots (.ref a :: argsL).toArray h Q') (W : Nat)
    (hf : rm.frames + 1 ≤ R.frames) (hl : W + (maxL + 11) + rm.locals ≤ R.locals) (hc : cells + rm.cells ≤ R.cells) (hs : slots + rm.slots ≤ R.slots) (eT : T.heap = h)
    (hg : g.method = m) (hsize : g.locals.size = c.maxLocals) (hlen : ∀ sig, parseMethodDescriptor y.desc = some sig → argsL.length = sig.parameters.length) (hstack : g.stack = argsL.reverse ++ .ref a :: rest)
    (hW : 2 * g.monitorRoom + (rest.map fun v => v.category).sum ≤ W) (hd : decode c.code g.pc = .ok (.invokevirtual index, 3))
    (k : ∀ v T' L, Stand p l e R s m args below meth c T' (locs ++ L) (cells + rm.cells) (slots + rm.slots) → Q' v T'.heap L → own_Goes p e below s kc ks Q T' { g with pc := g.pc + 3, stack := v.toList ++ rest }) : own_Goes p e below s kc ks Q T g := by
  obtain ⟨cq, kq, qa, qb, qc⟩ := isOf hZ eT E
  obtain ⟨v, _, ⟨T', L', k', n'⟩, -, X', ⟨Lc, hQ, l1, y1, z1⟩, st⟩ := X.virtualBack hx hown (mvT hZ w1) (mvT hZ w2) hnf (mvT hZ w3) (mvT hZ w4) hy (backOf (W := W) hM hZ w5 w6 hf hl) qa qc hg hsize (Steps.refl _) hlen hstack hW hd (fun _ _ => ⟨rfl, eT, hc, hs⟩)
  dsimp only [Pt.U, Pt.locs, Pt.cells, Pt.slots] at X' l1 y1 z1 st hQ
  subst l1 y1 z1
  exact own_by (fun t kt => st.trans kt) (k v T' Lc X' hQ)
theorem own_callP (X : Stand p l e R s m args below meth c T locs cells slots) (hx : p.tables.exec = Jvm.exec) (hZ : Z.Warmed39 s.vm) (hown : s.vm.findClass own = some m.cls)
    (w1 : (Cond.methodLink own index y).before a0 Z = true) (w2 : (Cond.instanceMethod y).before a0 Z = true) (w3 : (Cond.selects y.cls y y).before a0 Z = true) (w4 : (Cond.privateMethod y).before a0 Z = true) (w5 : (Cond.code y bytes maxL ret).before a0 Z = true) (w6 : (Cond.initialized y.cls).before a0 Z = true)
    (hy : y.cls ≠ "java/lang/invoke/MethodHandle" ∧ y.cls ≠ "java/lang/invoke/VarHandle") {a : Addr} {C : String} (E : Exa Z h a C) (hM : own_Ctr l Z y bytes maxL ret [] rm rm.cells rm.slots (.ref a :: argsL).toArray h Q') (W : Nat)
    (hf : rm.frames + 1 ≤ R.frames) (hl : W + (maxL + 11) + rm.locals ≤ R.locals) (hc : cells + rm.cells ≤ R.cells) (hs : slots + rm.slots ≤ R.slots) (eT : T.heap = h)
    (hg : g.method = m) (hsize : g.locals.size = c.maxLocals) (hlen : ∀ sig, parseMethodDescriptor y.desc = some sig → argsL.length = sig.parameters.length) (hstack : g.stack = argsL.reverse ++ .ref a :: rest)
    (hW : 2 * g.monitorRoom + (rest.map fun v => v.category).sum ≤ W) (hd : decode c.code g.pc = .ok (.invokevirtual index, 3))
    (k : ∀ v T' L, Stand p l e R s m args below meth c T' (locs ++ L) (cells + rm.cells) (slots + rm.slots) → Q' v T'.heap L → own_Goes p e below s kc ks Q T' { g with pc := g.pc + 3, stack := v.toList ++ rest }) : own_Goes p e below s kc ks Q T g := by
  obtain ⟨cq, q1, q2⟩ := E.cell
  obtain ⟨v, _, ⟨T', L', k', n'⟩, -, X', ⟨Lc, hQ, l1, y1, z1⟩, st⟩ := X.privateBack hx hown (mvT hZ w1) (mvT hZ w2) (mvT hZ w3) (Cond.privateMethod_at (mvP hZ w4 (args := #[]))) (mvT hZ w5) hy (backOf (W := W) hM hZ w5 w6 hf hl) hg hsize (Steps.refl _) (a := a) (by rw [eT]; exact q1) q2 hlen hstack hW hd (fun _ _ => ⟨rfl, eT, hc, hs⟩)
  dsimp only [Pt.U, Pt.locs, Pt.cells, Pt.slots] at X' l1 y1 z1 st hQ
  subst l1 y1 z1
  exact own_by (fun t kt => st.trans kt) (k v T' Lc X' hQ)
theorem own_callF {C : String} {count : Nat} (X : Stand p l e R s m args below meth c T locs cells slots) (hx : p.tables.exec = Jvm.exec) (hZ : Z.Warmed39 s.vm) (hown : s.vm.findClass own = some m.cls)
    (w1 : (Cond.methodLink own index y).before a0 Z = true) (w2 : (Cond.declares y).before a0 Z = true) (w2f : (Cond.interfaceMethod y.cls y.cls y.name y.desc).before a0 Z = true) (w3 : (Cond.selects C y z).before a0 Z = true) (w4 : (Cond.instanceMethod z).before a0 Z = true)
    (wp : (Cond.publicMethod z).before a0 Z = true) (wu : (Cond.unhidden C y.name y.desc).before a0 Z = true) (wk : (Cond.castable C y.cls).before a0 Z = true) (w5 : (Cond.code z bytes maxL ret).before a0 Z = true) (w6 : (Cond.initialized z.cls).before a0 Z = true)
    (hy : y.cls ≠ "java/lang/invoke/MethodHandle" ∧ y.cls ≠ "java/lang/invoke/VarHandle") {a : Addr} (E : Exa Z h a C) (hM : own_Ctr l Z z bytes maxL ret [] rm rm.cells rm.slots (.ref a :: argsL).toArray h Q') (W : Nat)
    (hf : rm.frames + 1 ≤ R.frames) (hl : W + (maxL + 11) + rm.locals ≤ R.locals) (hc : cells + rm.cells ≤ R.cells) (hs : slots + rm.slots ≤ R.slots) (eT : T.heap = h)
    (hg : g.method = m) (hsize : g.locals.size = c.maxLocals) (hlen : ∀ sig, parseMethodDescriptor y.desc = some sig → argsL.length = sig.parameters.length) (hstack : g.stack = argsL.reverse ++ .ref a :: rest)
    (hW : 2 * g.monitorRoom + (rest.map fun v => v.category).sum ≤ W) (hd : decode c.code g.pc = .ok (.invokeinterface index count, 5))
    (k : ∀ v T' L, Stand p l e R s m args below meth c T' (locs ++ L) (cells + rm.cells) (slots + rm.slots) → Q' v T'.heap L → own_Goes p e below s kc ks Q T' { g with pc := g.pc + 5, stack := v.toList ++ rest }) : own_Goes p e below s kc ks Q T g := by
  obtain ⟨cq, kq, qa, qb, qc⟩ := isOf hZ eT E
  have hface : ((Cond.interfaceMethod y.cls y.cls y.name y.desc).onTables && (Cond.interfaceMethod y.cls y.cls y.name y.desc).keepsFace) = true := by simp [Cond.onTables, Cond.keepsFace, Cond.keeps, Cond.steady, Cond.faceAtom, hy.1, hy.2]
  obtain ⟨v, _, ⟨T', L', k', n'⟩, -, X', ⟨Lc, hQ, l1, y1, z1⟩, st⟩ := X.interfaceBack hx hown (mvT hZ w1) (mvT hZ w2) (mvT hZ w2f hface) (mvT hZ w3) (mvT hZ w4) (mvT hZ wp) (mvT hZ wu) (mvT hZ wk) hy (backOf (W := W) hM hZ w5 w6 hf hl) qa qb qc hg hsize (Steps.refl _) hlen hstack hW hd (fun _ _ => ⟨rfl, eT, hc, hs⟩)
  dsimp only [Pt.U, Pt.locs, Pt.cells, Pt.slots] at X' l1 y1 z1 st hQ
  subst l1 y1 z1
  exact own_by (fun t kt => st.trans kt) (k v T' Lc X' hQ)
end OwnCalls
end OwnPrelude
abbrev own_sh (z : Int64) (k : Int32) : Int64 := ((z).toUInt64 >>> (k &&& 0x3f).toInt64.toUInt64).toInt64
def own_mix (z : Int64) : Int64 :=
  let a := (z ^^^ own_sh z (30 : Int32)) * (-4658895280553007687 : Int64)
  let b := (a ^^^ own_sh a (27 : Int32)) * (-7723592293110705685 : Int64)
  b ^^^ own_sh b (31 : Int32)
def own_inv (c : Int64) : Int64 :=
  let x1 := c * ((2 : Int64) - c * c)
  let x2 := x1 * ((2 : Int64) - c * x1)
  let x3 := x2 * ((2 : Int64) - c * x2)
  let x4 := x3 * ((2 : Int64) - c * x3)
  x4 * ((2 : Int64) - c * x4)
def own_unmix (r : Int64) : Int64 :=
  let a := (r ^^^ own_sh r (31 : Int32)) ^^^ own_sh r (62 : Int32)
  let b := a * own_inv (-7723592293110705685 : Int64)
  let d := (b ^^^ own_sh b (27 : Int32)) ^^^ own_sh b (54 : Int32)
  let f := d * own_inv (-4658895280553007687 : Int64)
  (f ^^^ own_sh f (30 : Int32)) ^^^ own_sh f (60 : Int32)
theorem own_shbv (z : Int64) (k : Int32) (n : Nat) (hk : (k &&& 0x3f).toInt64.toUInt64.toBitVec = BitVec.ofNat 64 n) (hn : n < 64) : (own_sh z k).toBitVec = z.toBitVec >>> n := by
  show (z.toUInt64 >>> (k &&& 0x3f).toInt64.toUInt64).toBitVec = _
  rw [UInt64.toBitVec_shiftRight, hk]
  have e : (BitVec.ofNat 64 n % 64#64).toNat = n := by simp [BitVec.toNat_umod]; omega
  show z.toBitVec >>> (BitVec.ofNat 64 n % 64#64) = _
  rw [BitVec.ushiftRight_eq', e]
theorem own_xs (x : BitVec 64) (n : Nat) (hn : 64 ≤ 3 * n) (y : BitVec 64) (hy : y = x ^^^ (x >>> n)) : (y ^^^ (y >>> n)) ^^^ (y >>> (2 * n)) = x := by
  subst hy
  have h3 : x >>> n >>> (2 * n) = 0#64 := by
    rw [← BitVec.shiftRight_add]; exact BitVec.ushiftRight_eq_zero (by omega)
  rw [BitVec.ushiftRight_xor_distrib, BitVec.ushiftRight_xor_distrib, h3, ← BitVec.shiftRight_add, show n + n = 2 * n from by omega]
  ext i hi
  simp only [BitVec.getElem_xor]
  generalize x[i] = a; generalize (x >>> n)[i] = b; generalize (x >>> (2 * n))[i] = c
  cases a <;> cases b <;> cases c <;> simp
theorem own_xsL (x : Int64) (k k2 : Int32) (n : Nat) (h1 : (k &&& 0x3f).toInt64.toUInt64.toBitVec = BitVec.ofNat 64 n) (h2 : (k2 &&& 0x3f).toInt64.toUInt64.toBitVec = BitVec.ofNat 64 (2 * n)) (hn : 64 ≤ 3 * n) (hn2 : 2 * n < 64) :
    ((x ^^^ own_sh x k) ^^^ own_sh (x ^^^ own_sh x k) k) ^^^ own_sh (x ^^^ own_sh x k) k2 = x := by
  apply Int64.toBitVec_inj.mp
  simp only [Int64.toBitVec_xor, own_shbv _ k n h1 (by omega), own_shbv _ k2 (2 * n) h2 hn2]
  exact own_xs _ n hn _ rfl
theorem own_inv1 : (-7723592293110705685 : Int64) * own_inv (-7723592293110705685 : Int64) = 1 := by decide +kernel
theorem own_inv2 : (-4658895280553007687 : Int64) * own_inv (-4658895280553007687 : Int64) = 1 := by decide +kernel
theorem own_back (z : Int64) : own_unmix (own_mix z) = z := by
  unfold own_unmix own_mix
  simp only []
  rw [own_xsL _ 31 62 31 (by decide) (by decide) (by decide) (by decide), Int64.mul_assoc, own_inv1, Int64.mul_one]
  rw [own_xsL _ 27 54 27 (by decide) (by decide) (by decide) (by decide), Int64.mul_assoc, own_inv2, Int64.mul_one]
  rw [own_xsL _ 30 60 30 (by decide) (by decide) (by decide) (by decide)]
theorem own_s2 (z : Int64) : (z + (-7046029254386353131 : Int64)) + (-7046029254386353131 : Int64) = z + (2 : Int64) * (-7046029254386353131 : Int64) := by
  rw [Int64.add_assoc]; rfl
theorem own_s3 (z : Int64) : ((z + (-7046029254386353131 : Int64)) + (-7046029254386353131 : Int64)) + (-7046029254386353131 : Int64) = z + (3 : Int64) * (-7046029254386353131 : Int64) := by
  rw [Int64.add_assoc, Int64.add_assoc]; rfl
theorem own_pn0 : plainName "com/example/tallysieve/tallysieve/SplitMix64" = true := by first | (simp [plainName, overriddenIn]; done) | decide +kernel
theorem own_d1_0 : decode prog_5_method_1_code 0 = .ok (.aload_n 0, 1) := by decide +kernel
theorem own_d1_1 : decode prog_5_method_1_code 1 = .ok (.invokespecial 1, 3) := by decide +kernel
theorem own_d1_4 : decode prog_5_method_1_code 4 = .ok (.aload_n 0, 1) := by decide +kernel
theorem own_d1_5 : decode prog_5_method_1_code 5 = .ok (.lload_n 1, 1) := by decide +kernel
theorem own_d1_6 : decode prog_5_method_1_code 6 = .ok (.putfield 7, 3) := by decide +kernel
theorem own_d1_9 : decode prog_5_method_1_code 9 = .ok (.return_, 1) := by decide +kernel
def Q_own_init (Z : State) (r1 : Addr) (u1 : Int64) (h0 : Heap) (n0 : Nat) (v : Option Value) (h : Heap) (L : List Loc) : Prop := v = none ∧ Fr n0 L ∧ Keep h0 h [r1] ∧ Exa Z h r1 "com/example/tallysieve/tallysieve/SplitMix64" ∧ Fld Z h r1 "com/example/tallysieve/tallysieve/SplitMix64" "state" "J" (.long u1)
theorem own_ef_own_init (m : MethodId) (r1 : Addr) (u1 : Int64) : entryFrame m #[(.ref r1), (.long u1)] 3 = mkF m 0 #[.val (.ref r1), .val (.long u1), .second] [] := by first | (simp [entryFrame, mkF, argsToLocals, Value.category]; done) | rfl
set_option maxRecDepth 65536 in
set_option maxHeartbeats 40000000 in
theorem own_init (l : Launch) (Z : State) (a0 : Array Value) (hw : ∀ d ∈ tables_1, d.before a0 Z = true) (ws : List Jvm.Cond) (r1 : Addr) (u1 : Int64) (h0 : Heap) (n0 : Nat) (Z0 : n0 ≤ h0.size) (E1 : Exa Z h0 r1 "com/example/tallysieve/tallysieve/SplitMix64") (F1 : Fld Z h0 r1 "com/example/tallysieve/tallysieve/SplitMix64" "state" "J" (.long (0 : Int64))) (g1 : n0 ≤ r1) :
    own_Ctr l Z (⟨"com/example/tallysieve/tallysieve/SplitMix64", "<init>", "(J)V"⟩ : MethodName) prog_5_method_1_code 3 none ws ({ frames := 1, cells := 0, slots := 0, locals := 12 } : Room) (({ frames := 1, cells := 0, slots := 0, locals := 12 } : Room)).cells (({ frames := 1, cells := 0, slots := 0, locals := 12 } : Room)).slots #[(.ref r1), (.long u1)] h0 (Q_own_init Z r1 u1 h0 n0) := by
  refine own_enter (plainFor_of_name own_pn0) ?_
  intro p e s m below meth c s₁ X0 hx hZ hby hml hown hnm hlk hret e0
  have N0 := Fr.nil n0
  refine own_cast (own_ef_own_init m r1 u1) ?_
  refine own_by (g' := (mkF m 1 #[.val (.ref r1), .val (.long u1), .second] [(.ref r1)])) (fun t k => XS.aloadN X0.here hx rfl (hb hby own_d1_0) rfl rfl k) ?_
  obtain ⟨T101, X101, e101, st101⟩ := initO X0 hx hZ hown (hw _ (List.mem_of_getElem? (i := 6) rfl)) (hw _ (List.mem_of_getElem? (i := 7) rfl)) (hw _ (List.mem_of_getElem? (i := 8) rfl)) e0 (g := (mkF m 1 #[.val (.ref r1), .val (.long u1), .second] [(.ref r1)])) rfl (by rw [hml]; rfl) rfl (hb hby own_d1_1) (by decide) (W := 0) (by show 2 * 0 + _ ≤ _; exact Nat.le_of_eq rfl) (by decide)
  refine own_by (g' := (mkF m 4 #[.val (.ref r1), .val (.long u1), .second] [])) st101 ?_
  refine own_by (g' := (mkF m 5 #[.val (.ref r1), .val (.long u1), .second] [(.ref r1)])) (fun t k => XS.aloadN X101.here hx rfl (hb hby own_d1_4) rfl rfl k) ?_
  refine own_by (g' := (mkF m 6 #[.val (.ref r1), .val (.long u1), .second] [(.long u1), (.ref r1)])) (fun t k => XS.lloadN X101.here hx rfl (hb hby own_d1_5) rfl k) ?_
  obtain ⟨T102, h102, X102, e102, W102, st102⟩ := putF X101 hx hZ hown (host := "") (Or.inl (hw _ (List.mem_of_getElem? (i := 9) rfl))) Via.refl e101 F1 E1 (Or.inl (hw _ (List.mem_of_getElem? (i := 10) rfl))) (hw _ (List.mem_of_getElem? (i := 1) rfl)) (ty := .long) (by decide) rfl rfl (g := (mkF m 6 #[.val (.ref r1), .val (.long u1), .second] [(.long u1), (.ref r1)])) rfl rfl (hb hby own_d1_6)
  have f103 := F1.same W102
  have N102 := Fr.snoc X102 N0 g1
  refine own_by (g' := (mkF m 9 #[.val (.ref r1), .val (.long u1), .second] [])) st102 ?_
  have f104 := (E1.wr W102)
  refine own_retV X102 hx hlk hret (hb hby own_d1_9) (by decide) (by decide) ?_
  rw [e102]
  exact ⟨rfl, N102, ((Keep.refl h0 [r1]).wr W102 (Or.inl (List.mem_of_getElem? (i := 0) rfl))), f104, f103⟩
theorem own_d3_0 : decode prog_5_method_2_code 0 = .ok (.aload_n 0, 1) := by decide +kernel
theorem own_d3_1 : decode prog_5_method_2_code 1 = .ok (.dup, 1) := by decide +kernel
theorem own_d3_2 : decode prog_5_method_2_code 2 = .ok (.getfield 7, 3) := by decide +kernel
theorem own_d3_5 : decode prog_5_method_2_code 5 = .ok (.ldc2_w 13, 3) := by decide +kernel
theorem own_d3_8 : decode prog_5_method_2_code 8 = .ok (.ladd, 1) := by decide +kernel
theorem own_d3_9 : decode prog_5_method_2_code 9 = .ok (.putfield 7, 3) := by decide +kernel
theorem own_d3_12 : decode prog_5_method_2_code 12 = .ok (.aload_n 0, 1) := by decide +kernel
theorem own_d3_13 : decode prog_5_method_2_code 13 = .ok (.getfield 7, 3) := by decide +kernel
theorem own_d3_16 : decode prog_5_method_2_code 16 = .ok (.lstore_n 1, 1) := by decide +kernel
theorem own_d3_17 : decode prog_5_method_2_code 17 = .ok (.lload_n 1, 1) := by decide +kernel
theorem own_d3_18 : decode prog_5_method_2_code 18 = .ok (.lload_n 1, 1) := by decide +kernel
theorem own_d3_19 : decode prog_5_method_2_code 19 = .ok (.bipush 30, 2) := by decide +kernel
theorem own_d3_21 : decode prog_5_method_2_code 21 = .ok (.lushr, 1) := by decide +kernel
theorem own_d3_22 : decode prog_5_method_2_code 22 = .ok (.lxor, 1) := by decide +kernel
theorem own_d3_23 : decode prog_5_method_2_code 23 = .ok (.ldc2_w 15, 3) := by decide +kernel
theorem own_d3_26 : decode prog_5_method_2_code 26 = .ok (.lmul, 1) := by decide +kernel
theorem own_d3_27 : decode prog_5_method_2_code 27 = .ok (.lstore_n 1, 1) := by decide +kernel
theorem own_d3_28 : decode prog_5_method_2_code 28 = .ok (.lload_n 1, 1) := by decide +kernel
theorem own_d3_29 : decode prog_5_method_2_code 29 = .ok (.lload_n 1, 1) := by decide +kernel
theorem own_d3_30 : decode prog_5_method_2_code 30 = .ok (.bipush 27, 2) := by decide +kernel
theorem own_d3_32 : decode prog_5_method_2_code 32 = .ok (.lushr, 1) := by decide +kernel
theorem own_d3_33 : decode prog_5_method_2_code 33 = .ok (.lxor, 1) := by decide +kernel
theorem own_d3_34 : decode prog_5_method_2_code 34 = .ok (.ldc2_w 17, 3) := by decide +kernel
theorem own_d3_37 : decode prog_5_method_2_code 37 = .ok (.lmul, 1) := by decide +kernel
theorem own_d3_38 : decode prog_5_method_2_code 38 = .ok (.lstore_n 1, 1) := by decide +kernel
theorem own_d3_39 : decode prog_5_method_2_code 39 = .ok (.lload_n 1, 1) := by decide +kernel
theorem own_d3_40 : decode prog_5_method_2_code 40 = .ok (.lload_n 1, 1) := by decide +kernel
theorem own_d3_41 : decode prog_5_method_2_code 41 = .ok (.bipush 31, 2) := by decide +kernel
theorem own_d3_43 : decode prog_5_method_2_code 43 = .ok (.lushr, 1) := by decide +kernel
theorem own_d3_44 : decode prog_5_method_2_code 44 = .ok (.lxor, 1) := by decide +kernel
theorem own_d3_45 : decode prog_5_method_2_code 45 = .ok (.lreturn, 1) := by decide +kernel
def Q_own_next (Z : State) (r1 : Addr) (u1 : Int64) (h0 : Heap) (n0 : Nat) (v : Option Value) (h : Heap) (L : List Loc) : Prop := v = some (.long (own_mix (u1 + (-7046029254386353131 : Int64)))) ∧ Fr n0 L ∧ Keep h0 h [r1] ∧ Exa Z h r1 "com/example/tallysieve/tallysieve/SplitMix64" ∧ Fld Z h r1 "com/example/tallysieve/tallysieve/SplitMix64" "state" "J" (.long (u1 + (-7046029254386353131 : Int64)))
theorem own_ef_own_next (m : MethodId) (r1 : Addr) : entryFrame m #[(.ref r1)] 3 = mkF m 0 #[.val (.ref r1), .unset, .unset] [] := by first | (simp [entryFrame, mkF, argsToLocals, Value.category]; done) | rfl
set_option maxRecDepth 65536 in
set_option maxHeartbeats 40000000 in
theorem own_next (l : Launch) (Z : State) (a0 : Array Value) (hw : ∀ d ∈ tables_1, d.before a0 Z = true) (ws : List Jvm.Cond) (r1 : Addr) (u1 : Int64) (h0 : Heap) (n0 : Nat) (Z0 : n0 ≤ h0.size) (E1 : Exa Z h0 r1 "com/example/tallysieve/tallysieve/SplitMix64") (F1 : Fld Z h0 r1 "com/example/tallysieve/tallysieve/SplitMix64" "state" "J" (.long u1)) (g1 : n0 ≤ r1) :
    own_Ctr l Z (⟨"com/example/tallysieve/tallysieve/SplitMix64", "nextLong", "()J"⟩ : MethodName) prog_5_method_2_code 3 (some .long) ws ({ frames := 0, cells := 0, slots := 0, locals := 0 } : Room) (({ frames := 0, cells := 0, slots := 0, locals := 0 } : Room)).cells (({ frames := 0, cells := 0, slots := 0, locals := 0 } : Room)).slots #[(.ref r1)] h0 (Q_own_next Z r1 u1 h0 n0) := by
  refine own_enter (plainFor_of_name own_pn0) ?_
  intro p e s m below meth c s₁ X0 hx hZ hby hml hown hnm hlk hret e0
  have N0 := Fr.nil n0
  refine own_cast (own_ef_own_next m r1) ?_
  refine own_by (g' := (mkF m 1 #[.val (.ref r1), .unset, .unset] [(.ref r1)])) (fun t k => XS.aloadN X0.here hx rfl (hb hby own_d3_0) rfl rfl k) ?_
  refine own_by (g' := (mkF m 2 #[.val (.ref r1), .unset, .unset] [(.ref r1), (.ref r1)])) (fun t k => XS.dup X0.here hx rfl (hb hby own_d3_1) rfl rfl k) ?_
  obtain ⟨T101, X101, e101, st101⟩ := getF X0 hx hZ hown (host := "") (Or.inl (hw _ (List.mem_of_getElem? (i := 9) rfl))) Via.refl e0 F1 (g := (mkF m 2 #[.val (.ref r1), .unset, .unset] [(.ref r1), (.ref r1)])) rfl rfl (hb hby own_d3_2)
  refine own_by (g' := (mkF m 5 #[.val (.ref r1), .unset, .unset] [(.long u1), (.ref r1)])) st101 ?_
  refine own_by (g' := (mkF m 8 #[.val (.ref r1), .unset, .unset] [(.long (-7046029254386353131 : Int64)), (.long u1), (.ref r1)])) (fun t k => X101.ldc2Long hx hown (mvT hZ (hw _ (List.mem_of_getElem? (i := 16) rfl))) (g := (mkF m 5 #[.val (.ref r1), .unset, .unset] [(.long u1), (.ref r1)])) rfl (hb hby own_d3_5) t k) ?_
  refine own_by (g' := (mkF m 9 #[.val (.ref r1), .unset, .unset] [(.long (u1 + (-7046029254386353131 : Int64))), (.ref r1)])) (fun t k => XS.ladd X101.here hx rfl (hb hby own_d3_8) rfl k) ?_
  obtain ⟨T102, h102, X102, e102, W102, st102⟩ := putF X101 hx hZ hown (host := "") (Or.inl (hw _ (List.mem_of_getElem? (i := 9) rfl))) Via.refl e101 F1 E1 (Or.inl (hw _ (List.mem_of_getElem? (i := 10) rfl))) (hw _ (List.mem_of_getElem? (i := 1) rfl)) (ty := .long) (by decide) rfl rfl (g := (mkF m 9 #[.val (.ref r1), .unset, .unset] [(.long (u1 + (-7046029254386353131 : Int64))), (.ref r1)])) rfl rfl (hb hby own_d3_9)
  have f103 := F1.same W102
  have N102 := Fr.snoc X102 N0 g1
  refine own_by (g' := (mkF m 12 #[.val (.ref r1), .unset, .unset] [])) st102 ?_
  refine own_by (g' := (mkF m 13 #[.val (.ref r1), .unset, .unset] [(.ref r1)])) (fun t k => XS.aloadN X102.here hx rfl (hb hby own_d3_12) rfl rfl k) ?_
  obtain ⟨T104, X104, e104, st104⟩ := getF X102 hx hZ hown (host := "") (Or.inl (hw _ (List.mem_of_getElem? (i := 9) rfl))) Via.refl e102 f103 (g := (mkF m 13 #[.val (.ref r1), .unset, .unset] [(.ref r1)])) rfl rfl (hb hby own_d3_13)
  refine own_by (g' := (mkF m 16 #[.val (.ref r1), .unset, .unset] [(.long (u1 + (-7046029254386353131 : Int64)))])) st104 ?_
  generalize hv105 : (u1 + (-7046029254386353131 : Int64)) = v105
  refine own_by (g' := (mkF m 17 #[.val (.ref r1), .val (.long v105), .second] [])) (fun t k => XS.lstoreN X104.here hx rfl (hb hby own_d3_16) rfl (l' := #[.val (.ref r1), .val (.long v105), .second]) rfl k) ?_
  refine own_by (g' := (mkF m 18 #[.val (.ref r1), .val (.long v105), .second] [(.long v105)])) (fun t k => XS.lloadN X104.here hx rfl (hb hby own_d3_17) rfl k) ?_
  refine own_by (g' := (mkF m 19 #[.val (.ref r1), .val (.long v105), .second] [(.long v105), (.long v105)])) (fun t k => XS.lloadN X104.here hx rfl (hb hby own_d3_18) rfl k) ?_
  refine own_by (g' := (mkF m 21 #[.val (.ref r1), .val (.long v105), .second] [(.int (30 : Int32)), (.long v105), (.long v105)])) (fun t k => XS.bipush X104.here hx rfl (hb hby own_d3_19) k) ?_
  refine own_by (g' := (mkF m 22 #[.val (.ref r1), .val (.long v105), .second] [(.long ((v105).toUInt64 >>> ((30 : Int32) &&& 0x3f).toInt64.toUInt64).toInt64), (.long v105)])) (fun t k => XS.lushr X104.here hx rfl (hb hby own_d3_21) rfl k) ?_
  refine own_by (g' := (mkF m 23 #[.val (.ref r1), .val (.long v105), .second] [(.long (v105 ^^^ ((v105).toUInt64 >>> ((30 : Int32) &&& 0x3f).toInt64.toUInt64).toInt64))])) (fun t k => XS.lxor X104.here hx rfl (hb hby own_d3_22) rfl k) ?_
  refine own_by (g' := (mkF m 26 #[.val (.ref r1), .val (.long v105), .second] [(.long (-4658895280553007687 : Int64)), (.long (v105 ^^^ ((v105).toUInt64 >>> ((30 : Int32) &&& 0x3f).toInt64.toUInt64).toInt64))])) (fun t k => X104.ldc2Long hx hown (mvT hZ (hw _ (List.mem_of_getElem? (i := 17) rfl))) (g := (mkF m 23 #[.val (.ref r1), .val (.long v105), .second] [(.long (v105 ^^^ ((v105).toUInt64 >>> ((30 : Int32) &&& 0x3f).toInt64.toUInt64).toInt64))])) rfl (hb hby own_d3_23) t k) ?_
  refine own_by (g' := (mkF m 27 #[.val (.ref r1), .val (.long v105), .second] [(.long ((v105 ^^^ ((v105).toUInt64 >>> ((30 : Int32) &&& 0x3f).toInt64.toUInt64).toInt64) * (-4658895280553007687 : Int64)))])) (fun t k => XS.lmul X104.here hx rfl (hb hby own_d3_26) rfl k) ?_
  generalize hv106 : ((v105 ^^^ ((v105).toUInt64 >>> ((30 : Int32) &&& 0x3f).toInt64.toUInt64).toInt64) * (-4658895280553007687 : Int64)) = v106
  refine own_by (g' := (mkF m 28 #[.val (.ref r1), .val (.long v106), .second] [])) (fun t k => XS.lstoreN X104.here hx rfl (hb hby own_d3_27) rfl (l' := #[.val (.ref r1), .val (.long v106), .second]) rfl k) ?_
  refine own_by (g' := (mkF m 29 #[.val (.ref r1), .val (.long v106), .second] [(.long v106)])) (fun t k => XS.lloadN X104.here hx rfl (hb hby own_d3_28) rfl k) ?_
  refine own_by (g' := (mkF m 30 #[.val (.ref r1), .val (.long v106), .second] [(.long v106), (.long v106)])) (fun t k => XS.lloadN X104.here hx rfl (hb hby own_d3_29) rfl k) ?_
  refine own_by (g' := (mkF m 32 #[.val (.ref r1), .val (.long v106), .second] [(.int (27 : Int32)), (.long v106), (.long v106)])) (fun t k => XS.bipush X104.here hx rfl (hb hby own_d3_30) k) ?_
  refine own_by (g' := (mkF m 33 #[.val (.ref r1), .val (.long v106), .second] [(.long ((v106).toUInt64 >>> ((27 : Int32) &&& 0x3f).toInt64.toUInt64).toInt64), (.long v106)])) (fun t k => XS.lushr X104.here hx rfl (hb hby own_d3_32) rfl k) ?_
  refine own_by (g' := (mkF m 34 #[.val (.ref r1), .val (.long v106), .second] [(.long (v106 ^^^ ((v106).toUInt64 >>> ((27 : Int32) &&& 0x3f).toInt64.toUInt64).toInt64))])) (fun t k => XS.lxor X104.here hx rfl (hb hby own_d3_33) rfl k) ?_
  refine own_by (g' := (mkF m 37 #[.val (.ref r1), .val (.long v106), .second] [(.long (-7723592293110705685 : Int64)), (.long (v106 ^^^ ((v106).toUInt64 >>> ((27 : Int32) &&& 0x3f).toInt64.toUInt64).toInt64))])) (fun t k => X104.ldc2Long hx hown (mvT hZ (hw _ (List.mem_of_getElem? (i := 18) rfl))) (g := (mkF m 34 #[.val (.ref r1), .val (.long v106), .second] [(.long (v106 ^^^ ((v106).toUInt64 >>> ((27 : Int32) &&& 0x3f).toInt64.toUInt64).toInt64))])) rfl (hb hby own_d3_34) t k) ?_
  refine own_by (g' := (mkF m 38 #[.val (.ref r1), .val (.long v106), .second] [(.long ((v106 ^^^ ((v106).toUInt64 >>> ((27 : Int32) &&& 0x3f).toInt64.toUInt64).toInt64) * (-7723592293110705685 : Int64)))])) (fun t k => XS.lmul X104.here hx rfl (hb hby own_d3_37) rfl k) ?_
  generalize hv107 : ((v106 ^^^ ((v106).toUInt64 >>> ((27 : Int32) &&& 0x3f).toInt64.toUInt64).toInt64) * (-7723592293110705685 : Int64)) = v107
  refine own_by (g' := (mkF m 39 #[.val (.ref r1), .val (.long v107), .second] [])) (fun t k => XS.lstoreN X104.here hx rfl (hb hby own_d3_38) rfl (l' := #[.val (.ref r1), .val (.long v107), .second]) rfl k) ?_
  refine own_by (g' := (mkF m 40 #[.val (.ref r1), .val (.long v107), .second] [(.long v107)])) (fun t k => XS.lloadN X104.here hx rfl (hb hby own_d3_39) rfl k) ?_
  refine own_by (g' := (mkF m 41 #[.val (.ref r1), .val (.long v107), .second] [(.long v107), (.long v107)])) (fun t k => XS.lloadN X104.here hx rfl (hb hby own_d3_40) rfl k) ?_
  refine own_by (g' := (mkF m 43 #[.val (.ref r1), .val (.long v107), .second] [(.int (31 : Int32)), (.long v107), (.long v107)])) (fun t k => XS.bipush X104.here hx rfl (hb hby own_d3_41) k) ?_
  refine own_by (g' := (mkF m 44 #[.val (.ref r1), .val (.long v107), .second] [(.long ((v107).toUInt64 >>> ((31 : Int32) &&& 0x3f).toInt64.toUInt64).toInt64), (.long v107)])) (fun t k => XS.lushr X104.here hx rfl (hb hby own_d3_43) rfl k) ?_
  refine own_by (g' := (mkF m 45 #[.val (.ref r1), .val (.long v107), .second] [(.long (v107 ^^^ ((v107).toUInt64 >>> ((31 : Int32) &&& 0x3f).toInt64.toUInt64).toInt64))])) (fun t k => XS.lxor X104.here hx rfl (hb hby own_d3_44) rfl k) ?_
  have f108 := (E1.wr W102)
  refine own_retJ X104 hx hlk hret (hb hby own_d3_45) (by decide) (by decide) ?_
  rw [e104]
  exact ⟨(by subst hv105 hv106 hv107; rfl), N102, ((Keep.refl h0 [r1]).wr W102 (Or.inl (List.mem_of_getElem? (i := 0) rfl))), f108, f103⟩
theorem own_pn1 : plainName "com/example/tallysieve/tallysieve/SplitMix64NextLongPinLaw" = true := by first | (simp [plainName, overriddenIn]; done) | decide +kernel
theorem own_d5_0 : decode method_2_code 0 = .ok (.lload_n 0, 1) := by decide +kernel
theorem own_d5_1 : decode method_2_code 1 = .ok (.lstore_n 2, 1) := by decide +kernel
theorem own_d5_2 : decode method_2_code 2 = .ok (.lload_n 2, 1) := by decide +kernel
theorem own_d5_3 : decode method_2_code 3 = .ok (.ldc2_w 7, 3) := by decide +kernel
theorem own_d5_6 : decode method_2_code 6 = .ok (.lload_n 0, 1) := by decide +kernel
theorem own_d5_7 : decode method_2_code 7 = .ok (.lload_n 2, 1) := by decide +kernel
theorem own_d5_8 : decode method_2_code 8 = .ok (.lmul, 1) := by decide +kernel
theorem own_d5_9 : decode method_2_code 9 = .ok (.lsub, 1) := by decide +kernel
theorem own_d5_10 : decode method_2_code 10 = .ok (.lmul, 1) := by decide +kernel
theorem own_d5_11 : decode method_2_code 11 = .ok (.lstore_n 2, 1) := by decide +kernel
theorem own_d5_12 : decode method_2_code 12 = .ok (.lload_n 2, 1) := by decide +kernel
theorem own_d5_13 : decode method_2_code 13 = .ok (.ldc2_w 7, 3) := by decide +kernel
theorem own_d5_16 : decode method_2_code 16 = .ok (.lload_n 0, 1) := by decide +kernel
theorem own_d5_17 : decode method_2_code 17 = .ok (.lload_n 2, 1) := by decide +kernel
theorem own_d5_18 : decode method_2_code 18 = .ok (.lmul, 1) := by decide +kernel
theorem own_d5_19 : decode method_2_code 19 = .ok (.lsub, 1) := by decide +kernel
theorem own_d5_20 : decode method_2_code 20 = .ok (.lmul, 1) := by decide +kernel
theorem own_d5_21 : decode method_2_code 21 = .ok (.lstore_n 2, 1) := by decide +kernel
theorem own_d5_22 : decode method_2_code 22 = .ok (.lload_n 2, 1) := by decide +kernel
theorem own_d5_23 : decode method_2_code 23 = .ok (.ldc2_w 7, 3) := by decide +kernel
theorem own_d5_26 : decode method_2_code 26 = .ok (.lload_n 0, 1) := by decide +kernel
theorem own_d5_27 : decode method_2_code 27 = .ok (.lload_n 2, 1) := by decide +kernel
theorem own_d5_28 : decode method_2_code 28 = .ok (.lmul, 1) := by decide +kernel
theorem own_d5_29 : decode method_2_code 29 = .ok (.lsub, 1) := by decide +kernel
theorem own_d5_30 : decode method_2_code 30 = .ok (.lmul, 1) := by decide +kernel
theorem own_d5_31 : decode method_2_code 31 = .ok (.lstore_n 2, 1) := by decide +kernel
theorem own_d5_32 : decode method_2_code 32 = .ok (.lload_n 2, 1) := by decide +kernel
theorem own_d5_33 : decode method_2_code 33 = .ok (.ldc2_w 7, 3) := by decide +kernel
theorem own_d5_36 : decode method_2_code 36 = .ok (.lload_n 0, 1) := by decide +kernel
theorem own_d5_37 : decode method_2_code 37 = .ok (.lload_n 2, 1) := by decide +kernel
theorem own_d5_38 : decode method_2_code 38 = .ok (.lmul, 1) := by decide +kernel
theorem own_d5_39 : decode method_2_code 39 = .ok (.lsub, 1) := by decide +kernel
theorem own_d5_40 : decode method_2_code 40 = .ok (.lmul, 1) := by decide +kernel
theorem own_d5_41 : decode method_2_code 41 = .ok (.lstore_n 2, 1) := by decide +kernel
theorem own_d5_42 : decode method_2_code 42 = .ok (.lload_n 2, 1) := by decide +kernel
theorem own_d5_43 : decode method_2_code 43 = .ok (.ldc2_w 7, 3) := by decide +kernel
theorem own_d5_46 : decode method_2_code 46 = .ok (.lload_n 0, 1) := by decide +kernel
theorem own_d5_47 : decode method_2_code 47 = .ok (.lload_n 2, 1) := by decide +kernel
theorem own_d5_48 : decode method_2_code 48 = .ok (.lmul, 1) := by decide +kernel
theorem own_d5_49 : decode method_2_code 49 = .ok (.lsub, 1) := by decide +kernel
theorem own_d5_50 : decode method_2_code 50 = .ok (.lmul, 1) := by decide +kernel
theorem own_d5_51 : decode method_2_code 51 = .ok (.lstore_n 2, 1) := by decide +kernel
theorem own_d5_52 : decode method_2_code 52 = .ok (.lload_n 2, 1) := by decide +kernel
theorem own_d5_53 : decode method_2_code 53 = .ok (.lreturn, 1) := by decide +kernel
def Q_own_cinv (Z : State) (u1 : Int64) (h0 : Heap) (n0 : Nat) (v : Option Value) (h : Heap) (L : List Loc) : Prop := v = some (.long (own_inv u1)) ∧ Fr n0 L ∧ h = h0
theorem own_ef_own_cinv (m : MethodId) (u1 : Int64) : entryFrame m #[(.long u1)] 4 = mkF m 0 #[.val (.long u1), .second, .unset, .unset] [] := by first | (simp [entryFrame, mkF, argsToLocals, Value.category]; done) | rfl
set_option maxRecDepth 65536 in
set_option maxHeartbeats 40000000 in
theorem own_cinv (l : Launch) (Z : State) (a0 : Array Value) (hw : ∀ d ∈ tables_1, d.before a0 Z = true) (ws : List Jvm.Cond) (u1 : Int64) (h0 : Heap) (n0 : Nat) (Z0 : n0 ≤ h0.size)  :
    own_Ctr l Z (⟨"com/example/tallysieve/tallysieve/SplitMix64NextLongPinLaw", "inverse", "(J)J"⟩ : MethodName) method_2_code 4 (some .long) ws ({ frames := 0, cells := 0, slots := 0, locals := 0 } : Room) (({ frames := 0, cells := 0, slots := 0, locals := 0 } : Room)).cells (({ frames := 0, cells := 0, slots := 0, locals := 0 } : Room)).slots #[(.long u1)] h0 (Q_own_cinv Z u1 h0 n0) := by
  refine own_enter (plainFor_of_name own_pn1) ?_
  intro p e s m below meth c s₁ X0 hx hZ hby hml hown hnm hlk hret e0
  have N0 := Fr.nil n0
  refine own_cast (own_ef_own_cinv m u1) ?_
  refine own_by (g' := (mkF m 1 #[.val (.long u1), .second, .unset, .unset] [(.long u1)])) (fun t k => XS.lloadN X0.here hx rfl (hb hby own_d5_0) rfl k) ?_
  refine own_by (g' := (mkF m 2 #[.val (.long u1), .second, .val (.long u1), .second] [])) (fun t k => XS.lstoreN X0.here hx rfl (hb hby own_d5_1) rfl (l' := #[.val (.long u1), .second, .val (.long u1), .second]) rfl k) ?_
  refine own_by (g' := (mkF m 3 #[.val (.long u1), .second, .val (.long u1), .second] [(.long u1)])) (fun t k => XS.lloadN X0.here hx rfl (hb hby own_d5_2) rfl k) ?_
  refine own_by (g' := (mkF m 6 #[.val (.long u1), .second, .val (.long u1), .second] [(.long (2 : Int64)), (.long u1)])) (fun t k => X0.ldc2Long hx hown (mvT hZ (hw _ (List.mem_of_getElem? (i := 28) rfl))) (g := (mkF m 3 #[.val (.long u1), .second, .val (.long u1), .second] [(.long u1)])) rfl (hb hby own_d5_3) t k) ?_
  refine own_by (g' := (mkF m 7 #[.val (.long u1), .second, .val (.long u1), .second] [(.long u1), (.long (2 : Int64)), (.long u1)])) (fun t k => XS.lloadN X0.here hx rfl (hb hby own_d5_6) rfl k) ?_
  refine own_by (g' := (mkF m 8 #[.val (.long u1), .second, .val (.long u1), .second] [(.long u1), (.long u1), (.long (2 : Int64)), (.long u1)])) (fun t k => XS.lloadN X0.here hx rfl (hb hby own_d5_7) rfl k) ?_
  refine own_by (g' := (mkF m 9 #[.val (.long u1), .second, .val (.long u1), .second] [(.long (u1 * u1)), (.long (2 : Int64)), (.long u1)])) (fun t k => XS.lmul X0.here hx rfl (hb hby own_d5_8) rfl k) ?_
  refine own_by (g' := (mkF m 10 #[.val (.long u1), .second, .val (.long u1), .second] [(.long ((2 : Int64) - (u1 * u1))), (.long u1)])) (fun t k => XS.lsub X0.here hx rfl (hb hby own_d5_9) rfl k) ?_
  refine own_by (g' := (mkF m 11 #[.val (.long u1), .second, .val (.long u1), .second] [(.long (u1 * ((2 : Int64) - (u1 * u1))))])) (fun t k => XS.lmul X0.here hx rfl (hb hby own_d5_10) rfl k) ?_
  generalize hv101 : (u1 * ((2 : Int64) - (u1 * u1))) = v101
  refine own_by (g' := (mkF m 12 #[.val (.long u1), .second, .val (.long v101), .second] [])) (fun t k => XS.lstoreN X0.here hx rfl (hb hby own_d5_11) rfl (l' := #[.val (.long u1), .second, .val (.long v101), .second]) rfl k) ?_
  refine own_by (g' := (mkF m 13 #[.val (.long u1), .second, .val (.long v101), .second] [(.long v101)])) (fun t k => XS.lloadN X0.here hx rfl (hb hby own_d5_12) rfl k) ?_
  refine own_by (g' := (mkF m 16 #[.val (.long u1), .second, .val (.long v101), .second] [(.long (2 : Int64)), (.long v101)])) (fun t k => X0.ldc2Long hx hown (mvT hZ (hw _ (List.mem_of_getElem? (i := 28) rfl))) (g := (mkF m 13 #[.val (.long u1), .second, .val (.long v101), .second] [(.long v101)])) rfl (hb hby own_d5_13) t k) ?_
  refine own_by (g' := (mkF m 17 #[.val (.long u1), .second, .val (.long v101), .second] [(.long u1), (.long (2 : Int64)), (.long v101)])) (fun t k => XS.lloadN X0.here hx rfl (hb hby own_d5_16) rfl k) ?_
  refine own_by (g' := (mkF m 18 #[.val (.long u1), .second, .val (.long v101), .second] [(.long v101), (.long u1), (.long (2 : Int64)), (.long v101)])) (fun t k => XS.lloadN X0.here hx rfl (hb hby own_d5_17) rfl k) ?_
  refine own_by (g' := (mkF m 19 #[.val (.long u1), .second, .val (.long v101), .second] [(.long (u1 * v101)), (.long (2 : Int64)), (.long v101)])) (fun t k => XS.lmul X0.here hx rfl (hb hby own_d5_18) rfl k) ?_
  refine own_by (g' := (mkF m 20 #[.val (.long u1), .second, .val (.long v101), .second] [(.long ((2 : Int64) - (u1 * v101))), (.long v101)])) (fun t k => XS.lsub X0.here hx rfl (hb hby own_d5_19) rfl k) ?_
  refine own_by (g' := (mkF m 21 #[.val (.long u1), .second, .val (.long v101), .second] [(.long (v101 * ((2 : Int64) - (u1 * v101))))])) (fun t k => XS.lmul X0.here hx rfl (hb hby own_d5_20) rfl k) ?_
  generalize hv102 : (v101 * ((2 : Int64) - (u1 * v101))) = v102
  refine own_by (g' := (mkF m 22 #[.val (.long u1), .second, .val (.long v102), .second] [])) (fun t k => XS.lstoreN X0.here hx rfl (hb hby own_d5_21) rfl (l' := #[.val (.long u1), .second, .val (.long v102), .second]) rfl k) ?_
  refine own_by (g' := (mkF m 23 #[.val (.long u1), .second, .val (.long v102), .second] [(.long v102)])) (fun t k => XS.lloadN X0.here hx rfl (hb hby own_d5_22) rfl k) ?_
  refine own_by (g' := (mkF m 26 #[.val (.long u1), .second, .val (.long v102), .second] [(.long (2 : Int64)), (.long v102)])) (fun t k => X0.ldc2Long hx hown (mvT hZ (hw _ (List.mem_of_getElem? (i := 28) rfl))) (g := (mkF m 23 #[.val (.long u1), .second, .val (.long v102), .second] [(.long v102)])) rfl (hb hby own_d5_23) t k) ?_
  refine own_by (g' := (mkF m 27 #[.val (.long u1), .second, .val (.long v102), .second] [(.long u1), (.long (2 : Int64)), (.long v102)])) (fun t k => XS.lloadN X0.here hx rfl (hb hby own_d5_26) rfl k) ?_
  refine own_by (g' := (mkF m 28 #[.val (.long u1), .second, .val (.long v102), .second] [(.long v102), (.long u1), (.long (2 : Int64)), (.long v102)])) (fun t k => XS.lloadN X0.here hx rfl (hb hby own_d5_27) rfl k) ?_
  refine own_by (g' := (mkF m 29 #[.val (.long u1), .second, .val (.long v102), .second] [(.long (u1 * v102)), (.long (2 : Int64)), (.long v102)])) (fun t k => XS.lmul X0.here hx rfl (hb hby own_d5_28) rfl k) ?_
  refine own_by (g' := (mkF m 30 #[.val (.long u1), .second, .val (.long v102), .second] [(.long ((2 : Int64) - (u1 * v102))), (.long v102)])) (fun t k => XS.lsub X0.here hx rfl (hb hby own_d5_29) rfl k) ?_
  refine own_by (g' := (mkF m 31 #[.val (.long u1), .second, .val (.long v102), .second] [(.long (v102 * ((2 : Int64) - (u1 * v102))))])) (fun t k => XS.lmul X0.here hx rfl (hb hby own_d5_30) rfl k) ?_
  generalize hv103 : (v102 * ((2 : Int64) - (u1 * v102))) = v103
  refine own_by (g' := (mkF m 32 #[.val (.long u1), .second, .val (.long v103), .second] [])) (fun t k => XS.lstoreN X0.here hx rfl (hb hby own_d5_31) rfl (l' := #[.val (.long u1), .second, .val (.long v103), .second]) rfl k) ?_
  refine own_by (g' := (mkF m 33 #[.val (.long u1), .second, .val (.long v103), .second] [(.long v103)])) (fun t k => XS.lloadN X0.here hx rfl (hb hby own_d5_32) rfl k) ?_
  refine own_by (g' := (mkF m 36 #[.val (.long u1), .second, .val (.long v103), .second] [(.long (2 : Int64)), (.long v103)])) (fun t k => X0.ldc2Long hx hown (mvT hZ (hw _ (List.mem_of_getElem? (i := 28) rfl))) (g := (mkF m 33 #[.val (.long u1), .second, .val (.long v103), .second] [(.long v103)])) rfl (hb hby own_d5_33) t k) ?_
  refine own_by (g' := (mkF m 37 #[.val (.long u1), .second, .val (.long v103), .second] [(.long u1), (.long (2 : Int64)), (.long v103)])) (fun t k => XS.lloadN X0.here hx rfl (hb hby own_d5_36) rfl k) ?_
  refine own_by (g' := (mkF m 38 #[.val (.long u1), .second, .val (.long v103), .second] [(.long v103), (.long u1), (.long (2 : Int64)), (.long v103)])) (fun t k => XS.lloadN X0.here hx rfl (hb hby own_d5_37) rfl k) ?_
  refine own_by (g' := (mkF m 39 #[.val (.long u1), .second, .val (.long v103), .second] [(.long (u1 * v103)), (.long (2 : Int64)), (.long v103)])) (fun t k => XS.lmul X0.here hx rfl (hb hby own_d5_38) rfl k) ?_
  refine own_by (g' := (mkF m 40 #[.val (.long u1), .second, .val (.long v103), .second] [(.long ((2 : Int64) - (u1 * v103))), (.long v103)])) (fun t k => XS.lsub X0.here hx rfl (hb hby own_d5_39) rfl k) ?_
  refine own_by (g' := (mkF m 41 #[.val (.long u1), .second, .val (.long v103), .second] [(.long (v103 * ((2 : Int64) - (u1 * v103))))])) (fun t k => XS.lmul X0.here hx rfl (hb hby own_d5_40) rfl k) ?_
  generalize hv104 : (v103 * ((2 : Int64) - (u1 * v103))) = v104
  refine own_by (g' := (mkF m 42 #[.val (.long u1), .second, .val (.long v104), .second] [])) (fun t k => XS.lstoreN X0.here hx rfl (hb hby own_d5_41) rfl (l' := #[.val (.long u1), .second, .val (.long v104), .second]) rfl k) ?_
  refine own_by (g' := (mkF m 43 #[.val (.long u1), .second, .val (.long v104), .second] [(.long v104)])) (fun t k => XS.lloadN X0.here hx rfl (hb hby own_d5_42) rfl k) ?_
  refine own_by (g' := (mkF m 46 #[.val (.long u1), .second, .val (.long v104), .second] [(.long (2 : Int64)), (.long v104)])) (fun t k => X0.ldc2Long hx hown (mvT hZ (hw _ (List.mem_of_getElem? (i := 28) rfl))) (g := (mkF m 43 #[.val (.long u1), .second, .val (.long v104), .second] [(.long v104)])) rfl (hb hby own_d5_43) t k) ?_
  refine own_by (g' := (mkF m 47 #[.val (.long u1), .second, .val (.long v104), .second] [(.long u1), (.long (2 : Int64)), (.long v104)])) (fun t k => XS.lloadN X0.here hx rfl (hb hby own_d5_46) rfl k) ?_
  refine own_by (g' := (mkF m 48 #[.val (.long u1), .second, .val (.long v104), .second] [(.long v104), (.long u1), (.long (2 : Int64)), (.long v104)])) (fun t k => XS.lloadN X0.here hx rfl (hb hby own_d5_47) rfl k) ?_
  refine own_by (g' := (mkF m 49 #[.val (.long u1), .second, .val (.long v104), .second] [(.long (u1 * v104)), (.long (2 : Int64)), (.long v104)])) (fun t k => XS.lmul X0.here hx rfl (hb hby own_d5_48) rfl k) ?_
  refine own_by (g' := (mkF m 50 #[.val (.long u1), .second, .val (.long v104), .second] [(.long ((2 : Int64) - (u1 * v104))), (.long v104)])) (fun t k => XS.lsub X0.here hx rfl (hb hby own_d5_49) rfl k) ?_
  refine own_by (g' := (mkF m 51 #[.val (.long u1), .second, .val (.long v104), .second] [(.long (v104 * ((2 : Int64) - (u1 * v104))))])) (fun t k => XS.lmul X0.here hx rfl (hb hby own_d5_50) rfl k) ?_
  generalize hv105 : (v104 * ((2 : Int64) - (u1 * v104))) = v105
  refine own_by (g' := (mkF m 52 #[.val (.long u1), .second, .val (.long v105), .second] [])) (fun t k => XS.lstoreN X0.here hx rfl (hb hby own_d5_51) rfl (l' := #[.val (.long u1), .second, .val (.long v105), .second]) rfl k) ?_
  refine own_by (g' := (mkF m 53 #[.val (.long u1), .second, .val (.long v105), .second] [(.long v105)])) (fun t k => XS.lloadN X0.here hx rfl (hb hby own_d5_52) rfl k) ?_
  refine own_retJ X0 hx hlk hret (hb hby own_d5_53) (by decide) (by decide) ?_
  exact ⟨(by subst hv101 hv102 hv103 hv104 hv105; rfl), N0, e0⟩
theorem own_d4_0 : decode method_3_code 0 = .ok (.lload_n 0, 1) := by decide +kernel
theorem own_d4_1 : decode method_3_code 1 = .ok (.lload_n 0, 1) := by decide +kernel
theorem own_d4_2 : decode method_3_code 2 = .ok (.bipush 31, 2) := by decide +kernel
theorem own_d4_4 : decode method_3_code 4 = .ok (.lushr, 1) := by decide +kernel
theorem own_d4_5 : decode method_3_code 5 = .ok (.lxor, 1) := by decide +kernel
theorem own_d4_6 : decode method_3_code 6 = .ok (.lload_n 0, 1) := by decide +kernel
theorem own_d4_7 : decode method_3_code 7 = .ok (.bipush 62, 2) := by decide +kernel
theorem own_d4_9 : decode method_3_code 9 = .ok (.lushr, 1) := by decide +kernel
theorem own_d4_10 : decode method_3_code 10 = .ok (.lxor, 1) := by decide +kernel
theorem own_d4_11 : decode method_3_code 11 = .ok (.lstore_n 2, 1) := by decide +kernel
theorem own_d4_12 : decode method_3_code 12 = .ok (.lload_n 2, 1) := by decide +kernel
theorem own_d4_13 : decode method_3_code 13 = .ok (.ldc2_w 9, 3) := by decide +kernel
theorem own_d4_16 : decode method_3_code 16 = .ok (.invokestatic 11, 3) := by decide +kernel
theorem own_pd0 : parseMethodDescriptor "(J)J" = some ⟨[.long], some .long⟩ := by decide +kernel
theorem own_d4_19 : decode method_3_code 19 = .ok (.lmul, 1) := by decide +kernel
theorem own_d4_20 : decode method_3_code 20 = .ok (.lstore_n 2, 1) := by decide +kernel
theorem own_d4_21 : decode method_3_code 21 = .ok (.lload_n 2, 1) := by decide +kernel
theorem own_d4_22 : decode method_3_code 22 = .ok (.lload_n 2, 1) := by decide +kernel
theorem own_d4_23 : decode method_3_code 23 = .ok (.bipush 27, 2) := by decide +kernel
theorem own_d4_25 : decode method_3_code 25 = .ok (.lushr, 1) := by decide +kernel
theorem own_d4_26 : decode method_3_code 26 = .ok (.lxor, 1) := by decide +kernel
theorem own_d4_27 : decode method_3_code 27 = .ok (.lload_n 2, 1) := by decide +kernel
theorem own_d4_28 : decode method_3_code 28 = .ok (.bipush 54, 2) := by decide +kernel
theorem own_d4_30 : decode method_3_code 30 = .ok (.lushr, 1) := by decide +kernel
theorem own_d4_31 : decode method_3_code 31 = .ok (.lxor, 1) := by decide +kernel
theorem own_d4_32 : decode method_3_code 32 = .ok (.lstore_n 2, 1) := by decide +kernel
theorem own_d4_33 : decode method_3_code 33 = .ok (.lload_n 2, 1) := by decide +kernel
theorem own_d4_34 : decode method_3_code 34 = .ok (.ldc2_w 17, 3) := by decide +kernel
theorem own_d4_37 : decode method_3_code 37 = .ok (.invokestatic 11, 3) := by decide +kernel
theorem own_d4_40 : decode method_3_code 40 = .ok (.lmul, 1) := by decide +kernel
theorem own_d4_41 : decode method_3_code 41 = .ok (.lstore_n 2, 1) := by decide +kernel
theorem own_d4_42 : decode method_3_code 42 = .ok (.lload_n 2, 1) := by decide +kernel
theorem own_d4_43 : decode method_3_code 43 = .ok (.lload_n 2, 1) := by decide +kernel
theorem own_d4_44 : decode method_3_code 44 = .ok (.bipush 30, 2) := by decide +kernel
theorem own_d4_46 : decode method_3_code 46 = .ok (.lushr, 1) := by decide +kernel
theorem own_d4_47 : decode method_3_code 47 = .ok (.lxor, 1) := by decide +kernel
theorem own_d4_48 : decode method_3_code 48 = .ok (.lload_n 2, 1) := by decide +kernel
theorem own_d4_49 : decode method_3_code 49 = .ok (.bipush 60, 2) := by decide +kernel
theorem own_d4_51 : decode method_3_code 51 = .ok (.lushr, 1) := by decide +kernel
theorem own_d4_52 : decode method_3_code 52 = .ok (.lxor, 1) := by decide +kernel
theorem own_d4_53 : decode method_3_code 53 = .ok (.lstore_n 2, 1) := by decide +kernel
theorem own_d4_54 : decode method_3_code 54 = .ok (.lload_n 2, 1) := by decide +kernel
theorem own_d4_55 : decode method_3_code 55 = .ok (.lreturn, 1) := by decide +kernel
def Q_own_cunmix (Z : State) (u1 : Int64) (h0 : Heap) (n0 : Nat) (v : Option Value) (h : Heap) (L : List Loc) : Prop := v = some (.long (own_unmix u1)) ∧ Fr n0 L ∧ h = h0
theorem own_ef_own_cunmix (m : MethodId) (u1 : Int64) : entryFrame m #[(.long u1)] 4 = mkF m 0 #[.val (.long u1), .second, .unset, .unset] [] := by first | (simp [entryFrame, mkF, argsToLocals, Value.category]; done) | rfl
set_option maxRecDepth 65536 in
set_option maxHeartbeats 40000000 in
theorem own_cunmix (l : Launch) (Z : State) (a0 : Array Value) (hw : ∀ d ∈ tables_1, d.before a0 Z = true) (ws : List Jvm.Cond) (u1 : Int64) (h0 : Heap) (n0 : Nat) (Z0 : n0 ≤ h0.size)  :
    own_Ctr l Z (⟨"com/example/tallysieve/tallysieve/SplitMix64NextLongPinLaw", "unmix", "(J)J"⟩ : MethodName) method_3_code 4 (some .long) ws ({ frames := 1, cells := 0, slots := 0, locals := 17 } : Room) (({ frames := 1, cells := 0, slots := 0, locals := 17 } : Room)).cells (({ frames := 1, cells := 0, slots := 0, locals := 17 } : Room)).slots #[(.long u1)] h0 (Q_own_cunmix Z u1 h0 n0) := by
  refine own_enter (plainFor_of_name own_pn1) ?_
  intro p e s m below meth c s₁ X0 hx hZ hby hml hown hnm hlk hret e0
  have N0 := Fr.nil n0
  refine own_cast (own_ef_own_cunmix m u1) ?_
  refine own_by (g' := (mkF m 1 #[.val (.long u1), .second, .unset, .unset] [(.long u1)])) (fun t k => XS.lloadN X0.here hx rfl (hb hby own_d4_0) rfl k) ?_
  refine own_by (g' := (mkF m 2 #[.val (.long u1), .second, .unset, .unset] [(.long u1), (.long u1)])) (fun t k => XS.lloadN X0.here hx rfl (hb hby own_d4_1) rfl k) ?_
  refine own_by (g' := (mkF m 4 #[.val (.long u1), .second, .unset, .unset] [(.int (31 : Int32)), (.long u1), (.long u1)])) (fun t k => XS.bipush X0.here hx rfl (hb hby own_d4_2) k) ?_
  refine own_by (g' := (mkF m 5 #[.val (.long u1), .second, .unset, .unset] [(.long ((u1).toUInt64 >>> ((31 : Int32) &&& 0x3f).toInt64.toUInt64).toInt64), (.long u1)])) (fun t k => XS.lushr X0.here hx rfl (hb hby own_d4_4) rfl k) ?_
  refine own_by (g' := (mkF m 6 #[.val (.long u1), .second, .unset, .unset] [(.long (u1 ^^^ ((u1).toUInt64 >>> ((31 : Int32) &&& 0x3f).toInt64.toUInt64).toInt64))])) (fun t k => XS.lxor X0.here hx rfl (hb hby own_d4_5) rfl k) ?_
  refine own_by (g' := (mkF m 7 #[.val (.long u1), .second, .unset, .unset] [(.long u1), (.long (u1 ^^^ ((u1).toUInt64 >>> ((31 : Int32) &&& 0x3f).toInt64.toUInt64).toInt64))])) (fun t k => XS.lloadN X0.here hx rfl (hb hby own_d4_6) rfl k) ?_
  refine own_by (g' := (mkF m 9 #[.val (.long u1), .second, .unset, .unset] [(.int (62 : Int32)), (.long u1), (.long (u1 ^^^ ((u1).toUInt64 >>> ((31 : Int32) &&& 0x3f).toInt64.toUInt64).toInt64))])) (fun t k => XS.bipush X0.here hx rfl (hb hby own_d4_7) k) ?_
  refine own_by (g' := (mkF m 10 #[.val (.long u1), .second, .unset, .unset] [(.long ((u1).toUInt64 >>> ((62 : Int32) &&& 0x3f).toInt64.toUInt64).toInt64), (.long (u1 ^^^ ((u1).toUInt64 >>> ((31 : Int32) &&& 0x3f).toInt64.toUInt64).toInt64))])) (fun t k => XS.lushr X0.here hx rfl (hb hby own_d4_9) rfl k) ?_
  refine own_by (g' := (mkF m 11 #[.val (.long u1), .second, .unset, .unset] [(.long ((u1 ^^^ ((u1).toUInt64 >>> ((31 : Int32) &&& 0x3f).toInt64.toUInt64).toInt64) ^^^ ((u1).toUInt64 >>> ((62 : Int32) &&& 0x3f).toInt64.toUInt64).toInt64))])) (fun t k => XS.lxor X0.here hx rfl (hb hby own_d4_10) rfl k) ?_
  generalize hv101 : ((u1 ^^^ ((u1).toUInt64 >>> ((31 : Int32) &&& 0x3f).toInt64.toUInt64).toInt64) ^^^ ((u1).toUInt64 >>> ((62 : Int32) &&& 0x3f).toInt64.toUInt64).toInt64) = v101
  refine own_by (g' := (mkF m 12 #[.val (.long u1), .second, .val (.long v101), .second] [])) (fun t k => XS.lstoreN X0.here hx rfl (hb hby own_d4_11) rfl (l' := #[.val (.long u1), .second, .val (.long v101), .second]) rfl k) ?_
  refine own_by (g' := (mkF m 13 #[.val (.long u1), .second, .val (.long v101), .second] [(.long v101)])) (fun t k => XS.lloadN X0.here hx rfl (hb hby own_d4_12) rfl k) ?_
  refine own_by (g' := (mkF m 16 #[.val (.long u1), .second, .val (.long v101), .second] [(.long (-7723592293110705685 : Int64)), (.long v101)])) (fun t k => X0.ldc2Long hx hown (mvT hZ (hw _ (List.mem_of_getElem? (i := 24) rfl))) (g := (mkF m 13 #[.val (.long u1), .second, .val (.long v101), .second] [(.long v101)])) rfl (hb hby own_d4_13) t k) ?_
  refine own_callS X0 hx hZ hown (hw _ (List.mem_of_getElem? (i := 25) rfl)) (hw _ (List.mem_of_getElem? (i := 26) rfl)) (hw _ (List.mem_of_getElem? (i := 22) rfl)) (hw _ (List.mem_of_getElem? (i := 27) rfl)) (by decide) (own_cinv l Z a0 hw [] ((-7723592293110705685 : Int64)) h0 n0 Z0 ) 2 (by decide) (by decide) (by decide) (by decide) e0 (g := (mkF m 16 #[.val (.long u1), .second, .val (.long v101), .second] [(.long (-7723592293110705685 : Int64)), (.long v101)])) rfl (by rw [hml]; rfl) (argsL := [(.long (-7723592293110705685 : Int64))]) (rest := [(.long v101)]) (lenOf own_pd0 rfl) rfl (by show 2 * 0 + _ ≤ _; exact Nat.le_of_eq rfl) (hb hby own_d4_16) ?_
  intro v102 T102 L102 X102 q102
  obtain ⟨rfl, N102q, e102⟩ := q102
  have N102 := Fr.app N0 N102q
  show own_Goes p e below s _ _ _ T102 (mkF m 19 #[.val (.long u1), .second, .val (.long v101), .second] [(.long (own_inv (-7723592293110705685 : Int64))), (.long v101)])
  refine own_by (g' := (mkF m 20 #[.val (.long u1), .second, .val (.long v101), .second] [(.long (v101 * (own_inv (-7723592293110705685 : Int64))))])) (fun t k => XS.lmul X102.here hx rfl (hb hby own_d4_19) rfl k) ?_
  generalize hv103 : (v101 * (own_inv (-7723592293110705685 : Int64))) = v103
  refine own_by (g' := (mkF m 21 #[.val (.long u1), .second, .val (.long v103), .second] [])) (fun t k => XS.lstoreN X102.here hx rfl (hb hby own_d4_20) rfl (l' := #[.val (.long u1), .second, .val (.long v103), .second]) rfl k) ?_
  refine own_by (g' := (mkF m 22 #[.val (.long u1), .second, .val (.long v103), .second] [(.long v103)])) (fun t k => XS.lloadN X102.here hx rfl (hb hby own_d4_21) rfl k) ?_
  refine own_by (g' := (mkF m 23 #[.val (.long u1), .second, .val (.long v103), .second] [(.long v103), (.long v103)])) (fun t k => XS.lloadN X102.here hx rfl (hb hby own_d4_22) rfl k) ?_
  refine own_by (g' := (mkF m 25 #[.val (.long u1), .second, .val (.long v103), .second] [(.int (27 : Int32)), (.long v103), (.long v103)])) (fun t k => XS.bipush X102.here hx rfl (hb hby own_d4_23) k) ?_
  refine own_by (g' := (mkF m 26 #[.val (.long u1), .second, .val (.long v103), .second] [(.long ((v103).toUInt64 >>> ((27 : Int32) &&& 0x3f).toInt64.toUInt64).toInt64), (.long v103)])) (fun t k => XS.lushr X102.here hx rfl (hb hby own_d4_25) rfl k) ?_
  refine own_by (g' := (mkF m 27 #[.val (.long u1), .second, .val (.long v103), .second] [(.long (v103 ^^^ ((v103).toUInt64 >>> ((27 : Int32) &&& 0x3f).toInt64.toUInt64).toInt64))])) (fun t k => XS.lxor X102.here hx rfl (hb hby own_d4_26) rfl k) ?_
  refine own_by (g' := (mkF m 28 #[.val (.long u1), .second, .val (.long v103), .second] [(.long v103), (.long (v103 ^^^ ((v103).toUInt64 >>> ((27 : Int32) &&& 0x3f).toInt64.toUInt64).toInt64))])) (fun t k => XS.lloadN X102.here hx rfl (hb hby own_d4_27) rfl k) ?_
  refine own_by (g' := (mkF m 30 #[.val (.long u1), .second, .val (.long v103), .second] [(.int (54 : Int32)), (.long v103), (.long (v103 ^^^ ((v103).toUInt64 >>> ((27 : Int32) &&& 0x3f).toInt64.toUInt64).toInt64))])) (fun t k => XS.bipush X102.here hx rfl (hb hby own_d4_28) k) ?_
  refine own_by (g' := (mkF m 31 #[.val (.long u1), .second, .val (.long v103), .second] [(.long ((v103).toUInt64 >>> ((54 : Int32) &&& 0x3f).toInt64.toUInt64).toInt64), (.long (v103 ^^^ ((v103).toUInt64 >>> ((27 : Int32) &&& 0x3f).toInt64.toUInt64).toInt64))])) (fun t k => XS.lushr X102.here hx rfl (hb hby own_d4_30) rfl k) ?_
  refine own_by (g' := (mkF m 32 #[.val (.long u1), .second, .val (.long v103), .second] [(.long ((v103 ^^^ ((v103).toUInt64 >>> ((27 : Int32) &&& 0x3f).toInt64.toUInt64).toInt64) ^^^ ((v103).toUInt64 >>> ((54 : Int32) &&& 0x3f).toInt64.toUInt64).toInt64))])) (fun t k => XS.lxor X102.here hx rfl (hb hby own_d4_31) rfl k) ?_
  generalize hv104 : ((v103 ^^^ ((v103).toUInt64 >>> ((27 : Int32) &&& 0x3f).toInt64.toUInt64).toInt64) ^^^ ((v103).toUInt64 >>> ((54 : Int32) &&& 0x3f).toInt64.toUInt64).toInt64) = v104
  refine own_by (g' := (mkF m 33 #[.val (.long u1), .second, .val (.long v104), .second] [])) (fun t k => XS.lstoreN X102.here hx rfl (hb hby own_d4_32) rfl (l' := #[.val (.long u1), .second, .val (.long v104), .second]) rfl k) ?_
  refine own_by (g' := (mkF m 34 #[.val (.long u1), .second, .val (.long v104), .second] [(.long v104)])) (fun t k => XS.lloadN X102.here hx rfl (hb hby own_d4_33) rfl k) ?_
  refine own_by (g' := (mkF m 37 #[.val (.long u1), .second, .val (.long v104), .second] [(.long (-4658895280553007687 : Int64)), (.long v104)])) (fun t k => X102.ldc2Long hx hown (mvT hZ (hw _ (List.mem_of_getElem? (i := 29) rfl))) (g := (mkF m 34 #[.val (.long u1), .second, .val (.long v104), .second] [(.long v104)])) rfl (hb hby own_d4_34) t k) ?_
  refine own_callS X102 hx hZ hown (hw _ (List.mem_of_getElem? (i := 25) rfl)) (hw _ (List.mem_of_getElem? (i := 26) rfl)) (hw _ (List.mem_of_getElem? (i := 22) rfl)) (hw _ (List.mem_of_getElem? (i := 27) rfl)) (by decide) (own_cinv l Z a0 hw [] ((-4658895280553007687 : Int64)) h0 n0 Z0 ) 2 (by decide) (by decide) (by decide) (by decide) e102 (g := (mkF m 37 #[.val (.long u1), .second, .val (.long v104), .second] [(.long (-4658895280553007687 : Int64)), (.long v104)])) rfl (by rw [hml]; rfl) (argsL := [(.long (-4658895280553007687 : Int64))]) (rest := [(.long v104)]) (lenOf own_pd0 rfl) rfl (by show 2 * 0 + _ ≤ _; exact Nat.le_of_eq rfl) (hb hby own_d4_37) ?_
  intro v105 T105 L105 X105 q105
  obtain ⟨rfl, N105q, e105⟩ := q105
  have N105 := Fr.app N102 N105q
  show own_Goes p e below s _ _ _ T105 (mkF m 40 #[.val (.long u1), .second, .val (.long v104), .second] [(.long (own_inv (-4658895280553007687 : Int64))), (.long v104)])
  refine own_by (g' := (mkF m 41 #[.val (.long u1), .second, .val (.long v104), .second] [(.long (v104 * (own_inv (-4658895280553007687 : Int64))))])) (fun t k => XS.lmul X105.here hx rfl (hb hby own_d4_40) rfl k) ?_
  generalize hv106 : (v104 * (own_inv (-4658895280553007687 : Int64))) = v106
  refine own_by (g' := (mkF m 42 #[.val (.long u1), .second, .val (.long v106), .second] [])) (fun t k => XS.lstoreN X105.here hx rfl (hb hby own_d4_41) rfl (l' := #[.val (.long u1), .second, .val (.long v106), .second]) rfl k) ?_
  refine own_by (g' := (mkF m 43 #[.val (.long u1), .second, .val (.long v106), .second] [(.long v106)])) (fun t k => XS.lloadN X105.here hx rfl (hb hby own_d4_42) rfl k) ?_
  refine own_by (g' := (mkF m 44 #[.val (.long u1), .second, .val (.long v106), .second] [(.long v106), (.long v106)])) (fun t k => XS.lloadN X105.here hx rfl (hb hby own_d4_43) rfl k) ?_
  refine own_by (g' := (mkF m 46 #[.val (.long u1), .second, .val (.long v106), .second] [(.int (30 : Int32)), (.long v106), (.long v106)])) (fun t k => XS.bipush X105.here hx rfl (hb hby own_d4_44) k) ?_
  refine own_by (g' := (mkF m 47 #[.val (.long u1), .second, .val (.long v106), .second] [(.long ((v106).toUInt64 >>> ((30 : Int32) &&& 0x3f).toInt64.toUInt64).toInt64), (.long v106)])) (fun t k => XS.lushr X105.here hx rfl (hb hby own_d4_46) rfl k) ?_
  refine own_by (g' := (mkF m 48 #[.val (.long u1), .second, .val (.long v106), .second] [(.long (v106 ^^^ ((v106).toUInt64 >>> ((30 : Int32) &&& 0x3f).toInt64.toUInt64).toInt64))])) (fun t k => XS.lxor X105.here hx rfl (hb hby own_d4_47) rfl k) ?_
  refine own_by (g' := (mkF m 49 #[.val (.long u1), .second, .val (.long v106), .second] [(.long v106), (.long (v106 ^^^ ((v106).toUInt64 >>> ((30 : Int32) &&& 0x3f).toInt64.toUInt64).toInt64))])) (fun t k => XS.lloadN X105.here hx rfl (hb hby own_d4_48) rfl k) ?_
  refine own_by (g' := (mkF m 51 #[.val (.long u1), .second, .val (.long v106), .second] [(.int (60 : Int32)), (.long v106), (.long (v106 ^^^ ((v106).toUInt64 >>> ((30 : Int32) &&& 0x3f).toInt64.toUInt64).toInt64))])) (fun t k => XS.bipush X105.here hx rfl (hb hby own_d4_49) k) ?_
  refine own_by (g' := (mkF m 52 #[.val (.long u1), .second, .val (.long v106), .second] [(.long ((v106).toUInt64 >>> ((60 : Int32) &&& 0x3f).toInt64.toUInt64).toInt64), (.long (v106 ^^^ ((v106).toUInt64 >>> ((30 : Int32) &&& 0x3f).toInt64.toUInt64).toInt64))])) (fun t k => XS.lushr X105.here hx rfl (hb hby own_d4_51) rfl k) ?_
  refine own_by (g' := (mkF m 53 #[.val (.long u1), .second, .val (.long v106), .second] [(.long ((v106 ^^^ ((v106).toUInt64 >>> ((30 : Int32) &&& 0x3f).toInt64.toUInt64).toInt64) ^^^ ((v106).toUInt64 >>> ((60 : Int32) &&& 0x3f).toInt64.toUInt64).toInt64))])) (fun t k => XS.lxor X105.here hx rfl (hb hby own_d4_52) rfl k) ?_
  generalize hv107 : ((v106 ^^^ ((v106).toUInt64 >>> ((30 : Int32) &&& 0x3f).toInt64.toUInt64).toInt64) ^^^ ((v106).toUInt64 >>> ((60 : Int32) &&& 0x3f).toInt64.toUInt64).toInt64) = v107
  refine own_by (g' := (mkF m 54 #[.val (.long u1), .second, .val (.long v107), .second] [])) (fun t k => XS.lstoreN X105.here hx rfl (hb hby own_d4_53) rfl (l' := #[.val (.long u1), .second, .val (.long v107), .second]) rfl k) ?_
  refine own_by (g' := (mkF m 55 #[.val (.long u1), .second, .val (.long v107), .second] [(.long v107)])) (fun t k => XS.lloadN X105.here hx rfl (hb hby own_d4_54) rfl k) ?_
  refine own_retJ X105 hx hlk hret (hb hby own_d4_55) (by decide) (by decide) ?_
  exact ⟨(by subst hv101 hv103 hv104 hv106 hv107; rfl), N105, e105⟩
theorem own_pd1 : parseMethodDescriptor "(J)V" = some ⟨[.long], none⟩ := by decide +kernel
theorem own_pd2 : parseMethodDescriptor "()J" = some ⟨[], some .long⟩ := by decide +kernel
def Q_own_law (Z : State) (u1 : Int64) (h0 : Heap) (n0 : Nat) (v : Option Value) (h : Heap) (L : List Loc) : Prop := v = some (.int (1 : Int32)) ∧ Fr n0 L ∧ Keep h0 h []
theorem own_ef_own_law (m : MethodId) (u1 : Int64) : entryFrame m #[(.long u1)] maxLocals = mkF m 0 #[.val (.long u1), .second, .unset, .unset, .unset, .unset, .unset, .unset, .unset, .unset, .unset] [] := by first | (simp [entryFrame, mkF, argsToLocals, Value.category, maxLocals]; done) | rfl
set_option maxRecDepth 65536 in
set_option maxHeartbeats 40000000 in
theorem own_law (l : Launch) (Z : State) (a0 : Array Value) (hw : ∀ d ∈ tables_1, d.before a0 Z = true) (ws : List Jvm.Cond) (u1 : Int64) (h0 : Heap) (n0 : Nat) (Z0 : n0 ≤ h0.size)  :
    own_Ctr l Z x code maxLocals ret ws room_1 1 1 #[(.long u1)] h0 (Q_own_law Z u1 h0 n0) := by
  refine own_enter (plainFor_of_name own_pn1) ?_
  intro p e s m below meth c s₁ X0 hx hZ hby hml hown hnm hlk hret e0
  have N0 := Fr.nil n0
  refine own_cast (own_ef_own_law m u1) ?_
  obtain ⟨T101, h101, X101, e101, E101, A101, D101, U101, st101⟩ := newO X0 hx hZ hown (hw _ (List.mem_of_getElem? (i := 0) rfl)) (hw _ (List.mem_of_getElem? (i := 1) rfl)) (hw _ (List.mem_of_getElem? (i := 2) rfl)) e0 (g := (mkF m 0 #[.val (.long u1), .second, .unset, .unset, .unset, .unset, .unset, .unset, .unset, .unset, .unset] [])) rfl (hb hby at_0) (by decide) (by decide)
  obtain ⟨b101, g101⟩ : ∃ z, z = h0.size := ⟨_, rfl⟩
  rw [← g101] at A101 D101 U101 st101
  have sz_b101 : h0.size ≤ b101 := Nat.le_trans (Nat.le_refl _) (Nat.le_of_eq g101.symm)
  have g_b101 : n0 ≤ b101 := Nat.le_trans Z0 sz_b101
  have f102 : Fld Z h101 b101 "com/example/tallysieve/tallysieve/SplitMix64" "state" "J" (.long (0 : Int64)) := D101 (Or.inl (hw _ (List.mem_of_getElem? (i := 10) rfl))) (ty := .long) (by decide)
  refine own_by (g' := (mkF m 3 #[.val (.long u1), .second, .unset, .unset, .unset, .unset, .unset, .unset, .unset, .unset, .unset] [(.ref b101)])) st101 ?_
  refine own_by (g' := (mkF m 4 #[.val (.long u1), .second, .unset, .unset, .unset, .unset, .unset, .unset, .unset, .unset, .unset] [(.ref b101), (.ref b101)])) (fun t k => XS.dup X101.here hx rfl (hb hby at_3) rfl rfl k) ?_
  refine own_by (g' := (mkF m 5 #[.val (.long u1), .second, .unset, .unset, .unset, .unset, .unset, .unset, .unset, .unset, .unset] [(.long u1), (.ref b101), (.ref b101)])) (fun t k => XS.lloadN X101.here hx rfl (hb hby at_4) rfl k) ?_
  refine own_callI X101 hx hZ hown rfl (hw _ (List.mem_of_getElem? (i := 3) rfl)) (hw _ (List.mem_of_getElem? (i := 4) rfl)) (hw _ (List.mem_of_getElem? (i := 2) rfl)) (hw _ (List.mem_of_getElem? (i := 5) rfl)) (by decide) (a := b101) (own_init l Z a0 hw [] (b101) (u1) h101 n0 (Nat.le_trans Z0 E101.1) A101 f102 g_b101) 1 (by decide) (by decide) (by decide) (by decide) e101 (g := (mkF m 5 #[.val (.long u1), .second, .unset, .unset, .unset, .unset, .unset, .unset, .unset, .unset, .unset] [(.long u1), (.ref b101), (.ref b101)])) rfl (by rw [hml]; rfl) (argsL := [(.long u1)]) (rest := [(.ref b101)]) (lenOf own_pd1 rfl) rfl (by show 2 * 0 + _ ≤ _; exact Nat.le_of_eq rfl) (hb hby at_5) ?_
  intro v103 T103 L103 X103 q103
  obtain ⟨rfl, N103q, K103, f104, f105⟩ := q103
  have N103 := Fr.app N0 N103q
  show own_Goes p e below s _ _ _ T103 (mkF m 8 #[.val (.long u1), .second, .unset, .unset, .unset, .unset, .unset, .unset, .unset, .unset, .unset] [(.ref b101)])
  refine own_by (g' := (mkF m 9 #[.val (.long u1), .second, .val (.ref b101), .unset, .unset, .unset, .unset, .unset, .unset, .unset, .unset] [])) (fun t k => XS.astoreN X103.here hx rfl (hb hby at_8) rfl rfl (l' := #[.val (.long u1), .second, .val (.ref b101), .unset, .unset, .unset, .unset, .unset, .unset, .unset, .unset]) rfl k) ?_
  refine own_by (g' := (mkF m 10 #[.val (.long u1), .second, .val (.ref b101), .unset, .unset, .unset, .unset, .unset, .unset, .unset, .unset] [(.ref b101)])) (fun t k => XS.aloadN X103.here hx rfl (hb hby at_9) rfl rfl k) ?_
  refine own_callV X103 hx hZ hown (hw _ (List.mem_of_getElem? (i := 11) rfl)) (hw _ (List.mem_of_getElem? (i := 12) rfl)) (notFace_of_selects (args := #[]) (mvT hZ (hw _ (List.mem_of_getElem? (i := 14) rfl)))) (hw _ (List.mem_of_getElem? (i := 14) rfl)) (hw _ (List.mem_of_getElem? (i := 13) rfl)) (hw _ (List.mem_of_getElem? (i := 15) rfl)) (hw _ (List.mem_of_getElem? (i := 2) rfl)) (by decide) (a := b101) f104 (own_next l Z a0 hw [] (b101) (u1) T103.heap n0 (Nat.le_trans Z0 (Nat.le_trans E101.1 K103.1)) f104 f105 g_b101) 0 (by decide) (by decide) (by decide) (by decide) rfl (g := (mkF m 10 #[.val (.long u1), .second, .val (.ref b101), .unset, .unset, .unset, .unset, .unset, .unset, .unset, .unset] [(.ref b101)])) rfl (by rw [hml]; rfl) (argsL := []) (rest := []) (lenOf own_pd2 rfl) rfl (by show 2 * 0 + _ ≤ _; exact Nat.le_of_eq rfl) (hb hby at_10) ?_
  intro v106 T106 L106 X106 q106
  obtain ⟨rfl, N106q, K106, f107, f108⟩ := q106
  have N106 := Fr.app N103 N106q
  show own_Goes p e below s _ _ _ T106 (mkF m 13 #[.val (.long u1), .second, .val (.ref b101), .unset, .unset, .unset, .unset, .unset, .unset, .unset, .unset] [(.long (own_mix (u1 + (-7046029254386353131 : Int64))))])
  generalize hv109 : (own_mix (u1 + (-7046029254386353131 : Int64))) = v109
  refine own_by (g' := (mkF m 14 #[.val (.long u1), .second, .val (.ref b101), .val (.long v109), .second, .unset, .unset, .unset, .unset, .unset, .unset] [])) (fun t k => XS.lstoreN X106.here hx rfl (hb hby at_13) rfl (l' := #[.val (.long u1), .second, .val (.ref b101), .val (.long v109), .second, .unset, .unset, .unset, .unset, .unset, .unset]) rfl k) ?_
  refine own_by (g' := (mkF m 15 #[.val (.long u1), .second, .val (.ref b101), .val (.long v109), .second, .unset, .unset, .unset, .unset, .unset, .unset] [(.ref b101)])) (fun t k => XS.aloadN X106.here hx rfl (hb hby at_14) rfl rfl k) ?_
  refine own_callV X106 hx hZ hown (hw _ (List.mem_of_getElem? (i := 11) rfl)) (hw _ (List.mem_of_getElem? (i := 12) rfl)) (notFace_of_selects (args := #[]) (mvT hZ (hw _ (List.mem_of_getElem? (i := 14) rfl)))) (hw _ (List.mem_of_getElem? (i := 14) rfl)) (hw _ (List.mem_of_getElem? (i := 13) rfl)) (hw _ (List.mem_of_getElem? (i := 15) rfl)) (hw _ (List.mem_of_getElem? (i := 2) rfl)) (by decide) (a := b101) f107 (own_next l Z a0 hw [] (b101) ((u1 + (-7046029254386353131 : Int64))) T106.heap n0 (Nat.le_trans Z0 (Nat.le_trans (Nat.le_trans E101.1 K103.1) K106.1)) f107 f108 g_b101) 0 (by decide) (by decide) (by decide) (by decide) rfl (g := (mkF m 15 #[.val (.long u1), .second, .val (.ref b101), .val (.long v109), .second, .unset, .unset, .unset, .unset, .unset, .unset] [(.ref b101)])) rfl (by rw [hml]; rfl) (argsL := []) (rest := []) (lenOf own_pd2 rfl) rfl (by show 2 * 0 + _ ≤ _; exact Nat.le_of_eq rfl) (hb hby at_15) ?_
  intro v110 T110 L110 X110 q110
  obtain ⟨rfl, N110q, K110, f111, f112⟩ := q110
  have N110 := Fr.app N106 N110q
  show own_Goes p e below s _ _ _ T110 (mkF m 18 #[.val (.long u1), .second, .val (.ref b101), .val (.long v109), .second, .unset, .unset, .unset, .unset, .unset, .unset] [(.long (own_mix ((u1 + (-7046029254386353131 : Int64)) + (-7046029254386353131 : Int64))))])
  generalize hv113 : (own_mix ((u1 + (-7046029254386353131 : Int64)) + (-7046029254386353131 : Int64))) = v113
  refine own_by (g' := (mkF m 20 #[.val (.long u1), .second, .val (.ref b101), .val (.long v109), .second, .val (.long v113), .second, .unset, .unset, .unset, .unset] [])) (fun t k => XS.lstore X110.here hx rfl (hb hby at_18) rfl (l' := #[.val (.long u1), .second, .val (.ref b101), .val (.long v109), .second, .val (.long v113), .second, .unset, .unset, .unset, .unset]) rfl k) ?_
  refine own_by (g' := (mkF m 21 #[.val (.long u1), .second, .val (.ref b101), .val (.long v109), .second, .val (.long v113), .second, .unset, .unset, .unset, .unset] [(.ref b101)])) (fun t k => XS.aloadN X110.here hx rfl (hb hby at_20) rfl rfl k) ?_
  refine own_callV X110 hx hZ hown (hw _ (List.mem_of_getElem? (i := 11) rfl)) (hw _ (List.mem_of_getElem? (i := 12) rfl)) (notFace_of_selects (args := #[]) (mvT hZ (hw _ (List.mem_of_getElem? (i := 14) rfl)))) (hw _ (List.mem_of_getElem? (i := 14) rfl)) (hw _ (List.mem_of_getElem? (i := 13) rfl)) (hw _ (List.mem_of_getElem? (i := 15) rfl)) (hw _ (List.mem_of_getElem? (i := 2) rfl)) (by decide) (a := b101) f111 (own_next l Z a0 hw [] (b101) (((u1 + (-7046029254386353131 : Int64)) + (-7046029254386353131 : Int64))) T110.heap n0 (Nat.le_trans Z0 (Nat.le_trans (Nat.le_trans (Nat.le_trans E101.1 K103.1) K106.1) K110.1)) f111 f112 g_b101) 0 (by decide) (by decide) (by decide) (by decide) rfl (g := (mkF m 21 #[.val (.long u1), .second, .val (.ref b101), .val (.long v109), .second, .val (.long v113), .second, .unset, .unset, .unset, .unset] [(.ref b101)])) rfl (by rw [hml]; rfl) (argsL := []) (rest := []) (lenOf own_pd2 rfl) rfl (by show 2 * 0 + _ ≤ _; exact Nat.le_of_eq rfl) (hb hby at_21) ?_
  intro v114 T114 L114 X114 q114
  obtain ⟨rfl, N114q, K114, f115, f116⟩ := q114
  have N114 := Fr.app N110 N114q
  show own_Goes p e below s _ _ _ T114 (mkF m 24 #[.val (.long u1), .second, .val (.ref b101), .val (.long v109), .second, .val (.long v113), .second, .unset, .unset, .unset, .unset] [(.long (own_mix (((u1 + (-7046029254386353131 : Int64)) + (-7046029254386353131 : Int64)) + (-7046029254386353131 : Int64))))])
  generalize hv117 : (own_mix (((u1 + (-7046029254386353131 : Int64)) + (-7046029254386353131 : Int64)) + (-7046029254386353131 : Int64))) = v117
  refine own_by (g' := (mkF m 26 #[.val (.long u1), .second, .val (.ref b101), .val (.long v109), .second, .val (.long v113), .second, .val (.long v117), .second, .unset, .unset] [])) (fun t k => XS.lstore X114.here hx rfl (hb hby at_24) rfl (l' := #[.val (.long u1), .second, .val (.ref b101), .val (.long v109), .second, .val (.long v113), .second, .val (.long v117), .second, .unset, .unset]) rfl k) ?_
  refine own_by (g' := (mkF m 29 #[.val (.long u1), .second, .val (.ref b101), .val (.long v109), .second, .val (.long v113), .second, .val (.long v117), .second, .unset, .unset] [(.long (-7046029254386353131 : Int64))])) (fun t k => X114.ldc2Long hx hown (mvT hZ (hw _ (List.mem_of_getElem? (i := 19) rfl))) (g := (mkF m 26 #[.val (.long u1), .second, .val (.ref b101), .val (.long v109), .second, .val (.long v113), .second, .val (.long v117), .second, .unset, .unset] [])) rfl (hb hby at_26) t k) ?_
  refine own_by (g' := (mkF m 31 #[.val (.long u1), .second, .val (.ref b101), .val (.long v109), .second, .val (.long v113), .second, .val (.long v117), .second, .val (.long (-7046029254386353131 : Int64)), .second] [])) (fun t k => XS.lstore X114.here hx rfl (hb hby at_29) rfl (l' := #[.val (.long u1), .second, .val (.ref b101), .val (.long v109), .second, .val (.long v113), .second, .val (.long v117), .second, .val (.long (-7046029254386353131 : Int64)), .second]) rfl k) ?_
  refine own_by (g' := (mkF m 32 #[.val (.long u1), .second, .val (.ref b101), .val (.long v109), .second, .val (.long v113), .second, .val (.long v117), .second, .val (.long (-7046029254386353131 : Int64)), .second] [(.long v109)])) (fun t k => XS.lloadN X114.here hx rfl (hb hby at_31) rfl k) ?_
  refine own_callS X114 hx hZ hown (hw _ (List.mem_of_getElem? (i := 20) rfl)) (hw _ (List.mem_of_getElem? (i := 21) rfl)) (hw _ (List.mem_of_getElem? (i := 22) rfl)) (hw _ (List.mem_of_getElem? (i := 23) rfl)) (by decide) (own_cunmix l Z a0 hw [] (v109) T114.heap n0 (Nat.le_trans Z0 (Nat.le_trans (Nat.le_trans (Nat.le_trans (Nat.le_trans E101.1 K103.1) K106.1) K110.1) K114.1)) ) 0 (by decide) (by decide) (by decide) (by decide) rfl (g := (mkF m 32 #[.val (.long u1), .second, .val (.ref b101), .val (.long v109), .second, .val (.long v113), .second, .val (.long v117), .second, .val (.long (-7046029254386353131 : Int64)), .second] [(.long v109)])) rfl (by rw [hml]; rfl) (argsL := [(.long v109)]) (rest := []) (lenOf own_pd0 rfl) rfl (by show 2 * 0 + _ ≤ _; exact Nat.le_of_eq rfl) (hb hby at_32) ?_
  intro v118 T118 L118 X118 q118
  obtain ⟨rfl, N118q, e118⟩ := q118
  have N118 := Fr.app N114 N118q
  show own_Goes p e below s _ _ _ T118 (mkF m 35 #[.val (.long u1), .second, .val (.ref b101), .val (.long v109), .second, .val (.long v113), .second, .val (.long v117), .second, .val (.long (-7046029254386353131 : Int64)), .second] [(.long (own_unmix v109))])
  refine own_by (g' := (mkF m 36 #[.val (.long u1), .second, .val (.ref b101), .val (.long v109), .second, .val (.long v113), .second, .val (.long v117), .second, .val (.long (-7046029254386353131 : Int64)), .second] [(.long u1), (.long (own_unmix v109))])) (fun t k => XS.lloadN X118.here hx rfl (hb hby at_35) rfl k) ?_
  refine own_by (g' := (mkF m 38 #[.val (.long u1), .second, .val (.ref b101), .val (.long v109), .second, .val (.long v113), .second, .val (.long v117), .second, .val (.long (-7046029254386353131 : Int64)), .second] [(.long (-7046029254386353131 : Int64)), (.long u1), (.long (own_unmix v109))])) (fun t k => XS.lload X118.here hx rfl (hb hby at_36) rfl k) ?_
  refine own_by (g' := (mkF m 39 #[.val (.long u1), .second, .val (.ref b101), .val (.long v109), .second, .val (.long v113), .second, .val (.long v117), .second, .val (.long (-7046029254386353131 : Int64)), .second] [(.long (u1 + (-7046029254386353131 : Int64))), (.long (own_unmix v109))])) (fun t k => XS.ladd X118.here hx rfl (hb hby at_38) rfl k) ?_
  refine own_by (g' := (mkF m 40 #[.val (.long u1), .second, .val (.ref b101), .val (.long v109), .second, .val (.long v113), .second, .val (.long v117), .second, .val (.long (-7046029254386353131 : Int64)), .second] [(.int (lcmpW (own_unmix v109) (u1 + (-7046029254386353131 : Int64))))])) (fun t k => XS.lcmp X118.here hx rfl (hb hby at_39) rfl k) ?_
  refine own_by (g' := (mkF m 43 #[.val (.long u1), .second, .val (.ref b101), .val (.long v109), .second, .val (.long v113), .second, .val (.long v117), .second, .val (.long (-7046029254386353131 : Int64)), .second] [])) (fun t k => XS.ifNo X118.here hx rfl (hb hby at_40) rfl ((if0 _ _).trans (teq ((lw_eq (own_unmix v109) (u1 + (-7046029254386353131 : Int64))).mpr (by subst hv109 hv113 hv117; rw [own_back]))).2) k) ?_
  refine own_by (g' := (mkF m 45 #[.val (.long u1), .second, .val (.ref b101), .val (.long v109), .second, .val (.long v113), .second, .val (.long v117), .second, .val (.long (-7046029254386353131 : Int64)), .second] [(.long v113)])) (fun t k => XS.lload X118.here hx rfl (hb hby at_43) rfl k) ?_
  refine own_callS X118 hx hZ hown (hw _ (List.mem_of_getElem? (i := 20) rfl)) (hw _ (List.mem_of_getElem? (i := 21) rfl)) (hw _ (List.mem_of_getElem? (i := 22) rfl)) (hw _ (List.mem_of_getElem? (i := 23) rfl)) (by decide) (own_cunmix l Z a0 hw [] (v113) T114.heap n0 (Nat.le_trans Z0 (Nat.le_trans (Nat.le_trans (Nat.le_trans (Nat.le_trans E101.1 K103.1) K106.1) K110.1) K114.1)) ) 0 (by decide) (by decide) (by decide) (by decide) e118 (g := (mkF m 45 #[.val (.long u1), .second, .val (.ref b101), .val (.long v109), .second, .val (.long v113), .second, .val (.long v117), .second, .val (.long (-7046029254386353131 : Int64)), .second] [(.long v113)])) rfl (by rw [hml]; rfl) (argsL := [(.long v113)]) (rest := []) (lenOf own_pd0 rfl) rfl (by show 2 * 0 + _ ≤ _; exact Nat.le_of_eq rfl) (hb hby at_45) ?_
  intro v119 T119 L119 X119 q119
  obtain ⟨rfl, N119q, e119⟩ := q119
  have N119 := Fr.app N118 N119q
  show own_Goes p e below s _ _ _ T119 (mkF m 48 #[.val (.long u1), .second, .val (.ref b101), .val (.long v109), .second, .val (.long v113), .second, .val (.long v117), .second, .val (.long (-7046029254386353131 : Int64)), .second] [(.long (own_unmix v113))])
  refine own_by (g' := (mkF m 49 #[.val (.long u1), .second, .val (.ref b101), .val (.long v109), .second, .val (.long v113), .second, .val (.long v117), .second, .val (.long (-7046029254386353131 : Int64)), .second] [(.long u1), (.long (own_unmix v113))])) (fun t k => XS.lloadN X119.here hx rfl (hb hby at_48) rfl k) ?_
  refine own_by (g' := (mkF m 52 #[.val (.long u1), .second, .val (.ref b101), .val (.long v109), .second, .val (.long v113), .second, .val (.long v117), .second, .val (.long (-7046029254386353131 : Int64)), .second] [(.long (2 : Int64)), (.long u1), (.long (own_unmix v113))])) (fun t k => X119.ldc2Long hx hown (mvT hZ (hw _ (List.mem_of_getElem? (i := 28) rfl))) (g := (mkF m 49 #[.val (.long u1), .second, .val (.ref b101), .val (.long v109), .second, .val (.long v113), .second, .val (.long v117), .second, .val (.long (-7046029254386353131 : Int64)), .second] [(.long u1), (.long (own_unmix v113))])) rfl (hb hby at_49) t k) ?_
  refine own_by (g' := (mkF m 54 #[.val (.long u1), .second, .val (.ref b101), .val (.long v109), .second, .val (.long v113), .second, .val (.long v117), .second, .val (.long (-7046029254386353131 : Int64)), .second] [(.long (-7046029254386353131 : Int64)), (.long (2 : Int64)), (.long u1), (.long (own_unmix v113))])) (fun t k => XS.lload X119.here hx rfl (hb hby at_52) rfl k) ?_
  refine own_by (g' := (mkF m 55 #[.val (.long u1), .second, .val (.ref b101), .val (.long v109), .second, .val (.long v113), .second, .val (.long v117), .second, .val (.long (-7046029254386353131 : Int64)), .second] [(.long (4354685564936845354 : Int64)), (.long u1), (.long (own_unmix v113))])) (fun t k => XS.lmul X119.here hx rfl (hb hby at_54) rfl k) ?_
  refine own_by (g' := (mkF m 56 #[.val (.long u1), .second, .val (.ref b101), .val (.long v109), .second, .val (.long v113), .second, .val (.long v117), .second, .val (.long (-7046029254386353131 : Int64)), .second] [(.long (u1 + (4354685564936845354 : Int64))), (.long (own_unmix v113))])) (fun t k => XS.ladd X119.here hx rfl (hb hby at_55) rfl k) ?_
  refine own_by (g' := (mkF m 57 #[.val (.long u1), .second, .val (.ref b101), .val (.long v109), .second, .val (.long v113), .second, .val (.long v117), .second, .val (.long (-7046029254386353131 : Int64)), .second] [(.int (lcmpW (own_unmix v113) (u1 + (4354685564936845354 : Int64))))])) (fun t k => XS.lcmp X119.here hx rfl (hb hby at_56) rfl k) ?_
  refine own_by (g' := (mkF m 60 #[.val (.long u1), .second, .val (.ref b101), .val (.long v109), .second, .val (.long v113), .second, .val (.long v117), .second, .val (.long (-7046029254386353131 : Int64)), .second] [])) (fun t k => XS.ifNo X119.here hx rfl (hb hby at_57) rfl ((if0 _ _).trans (teq ((lw_eq (own_unmix v113) (u1 + (4354685564936845354 : Int64))).mpr (by subst hv109 hv113 hv117; rw [own_back]; exact own_s2 u1))).2) k) ?_
  refine own_by (g' := (mkF m 62 #[.val (.long u1), .second, .val (.ref b101), .val (.long v109), .second, .val (.long v113), .second, .val (.long v117), .second, .val (.long (-7046029254386353131 : Int64)), .second] [(.long v117)])) (fun t k => XS.lload X119.here hx rfl (hb hby at_60) rfl k) ?_
  refine own_callS X119 hx hZ hown (hw _ (List.mem_of_getElem? (i := 20) rfl)) (hw _ (List.mem_of_getElem? (i := 21) rfl)) (hw _ (List.mem_of_getElem? (i := 22) rfl)) (hw _ (List.mem_of_getElem? (i := 23) rfl)) (by decide) (own_cunmix l Z a0 hw [] (v117) T114.heap n0 (Nat.le_trans Z0 (Nat.le_trans (Nat.le_trans (Nat.le_trans (Nat.le_trans E101.1 K103.1) K106.1) K110.1) K114.1)) ) 0 (by decide) (by decide) (by decide) (by decide) e119 (g := (mkF m 62 #[.val (.long u1), .second, .val (.ref b101), .val (.long v109), .second, .val (.long v113), .second, .val (.long v117), .second, .val (.long (-7046029254386353131 : Int64)), .second] [(.long v117)])) rfl (by rw [hml]; rfl) (argsL := [(.long v117)]) (rest := []) (lenOf own_pd0 rfl) rfl (by show 2 * 0 + _ ≤ _; exact Nat.le_of_eq rfl) (hb hby at_62) ?_
  intro v120 T120 L120 X120 q120
  obtain ⟨rfl, N120q, e120⟩ := q120
  have N120 := Fr.app N119 N120q
  show own_Goes p e below s _ _ _ T120 (mkF m 65 #[.val (.long u1), .second, .val (.ref b101), .val (.long v109), .second, .val (.long v113), .second, .val (.long v117), .second, .val (.long (-7046029254386353131 : Int64)), .second] [(.long (own_unmix v117))])
  refine own_by (g' := (mkF m 66 #[.val (.long u1), .second, .val (.ref b101), .val (.long v109), .second, .val (.long v113), .second, .val (.long v117), .second, .val (.long (-7046029254386353131 : Int64)), .second] [(.long u1), (.long (own_unmix v117))])) (fun t k => XS.lloadN X120.here hx rfl (hb hby at_65) rfl k) ?_
  refine own_by (g' := (mkF m 69 #[.val (.long u1), .second, .val (.ref b101), .val (.long v109), .second, .val (.long v113), .second, .val (.long v117), .second, .val (.long (-7046029254386353131 : Int64)), .second] [(.long (3 : Int64)), (.long u1), (.long (own_unmix v117))])) (fun t k => X120.ldc2Long hx hown (mvT hZ (hw _ (List.mem_of_getElem? (i := 30) rfl))) (g := (mkF m 66 #[.val (.long u1), .second, .val (.ref b101), .val (.long v109), .second, .val (.long v113), .second, .val (.long v117), .second, .val (.long (-7046029254386353131 : Int64)), .second] [(.long u1), (.long (own_unmix v117))])) rfl (hb hby at_66) t k) ?_
  refine own_by (g' := (mkF m 71 #[.val (.long u1), .second, .val (.ref b101), .val (.long v109), .second, .val (.long v113), .second, .val (.long v117), .second, .val (.long (-7046029254386353131 : Int64)), .second] [(.long (-7046029254386353131 : Int64)), (.long (3 : Int64)), (.long u1), (.long (own_unmix v117))])) (fun t k => XS.lload X120.here hx rfl (hb hby at_69) rfl k) ?_
  refine own_by (g' := (mkF m 72 #[.val (.long u1), .second, .val (.ref b101), .val (.long v109), .second, .val (.long v113), .second, .val (.long v117), .second, .val (.long (-7046029254386353131 : Int64)), .second] [(.long (-2691343689449507777 : Int64)), (.long u1), (.long (own_unmix v117))])) (fun t k => XS.lmul X120.here hx rfl (hb hby at_71) rfl k) ?_
  refine own_by (g' := (mkF m 73 #[.val (.long u1), .second, .val (.ref b101), .val (.long v109), .second, .val (.long v113), .second, .val (.long v117), .second, .val (.long (-7046029254386353131 : Int64)), .second] [(.long (u1 + (-2691343689449507777 : Int64))), (.long (own_unmix v117))])) (fun t k => XS.ladd X120.here hx rfl (hb hby at_72) rfl k) ?_
  refine own_by (g' := (mkF m 74 #[.val (.long u1), .second, .val (.ref b101), .val (.long v109), .second, .val (.long v113), .second, .val (.long v117), .second, .val (.long (-7046029254386353131 : Int64)), .second] [(.int (lcmpW (own_unmix v117) (u1 + (-2691343689449507777 : Int64))))])) (fun t k => XS.lcmp X120.here hx rfl (hb hby at_73) rfl k) ?_
  refine own_by (g' := (mkF m 77 #[.val (.long u1), .second, .val (.ref b101), .val (.long v109), .second, .val (.long v113), .second, .val (.long v117), .second, .val (.long (-7046029254386353131 : Int64)), .second] [])) (fun t k => XS.ifNo X120.here hx rfl (hb hby at_74) rfl ((if0 _ _).trans (teq ((lw_eq (own_unmix v117) (u1 + (-2691343689449507777 : Int64))).mpr (by subst hv109 hv113 hv117; rw [own_back]; exact own_s3 u1))).2) k) ?_
  refine own_by (g' := (mkF m 78 #[.val (.long u1), .second, .val (.ref b101), .val (.long v109), .second, .val (.long v113), .second, .val (.long v117), .second, .val (.long (-7046029254386353131 : Int64)), .second] [(.int (1 : Int32))])) (fun t k => XS.iconst X120.here hx rfl (hb hby at_77) k) ?_
  refine own_by (g' := (mkF m 82 #[.val (.long u1), .second, .val (.ref b101), .val (.long v109), .second, .val (.long v113), .second, .val (.long v117), .second, .val (.long (-7046029254386353131 : Int64)), .second] [(.int (1 : Int32))])) (fun t k => XS.goto X120.here hx rfl (pc0 := 78) (pc' := 82) rfl (hb hby at_78) (by decide) (by decide) k) ?_
  refine own_retN X120 hx hlk hret (t := .boolean) (by simp) (hb hby at_82) (by decide) (by decide) ?_
  rw [e120]
  exact ⟨rfl, N120, ((((((Keep.refl h0 []).ext E101).trans K103 (allS (Or.inr sz_b101) all0)).trans K106 (allS (Or.inr sz_b101) all0)).trans K110 (allS (Or.inr sz_b101) all0)).trans K114 (allS (Or.inr sz_b101) all0))⟩
set_option maxRecDepth 65536 in
set_option maxHeartbeats 40000000 in
theorem comes_1 {Post : Tables → Env → Array Value → State → Outcome → State → Prop} (hpost : ∀ tb e args s v u, (limb_1_1.after args s (.returned v) u = true ∧ limb_1_2.after args s (.returned v) u = true ∧ True) → FrameEnd s (.returned v) u (Jvm.fieldLocs frame_1_writes args s ++ Jvm.arrayLocs frame_1_arrays args s ++ Jvm.staticLocs frame_1_statics s) 16 128 → Post tb e args s (.returned v) u) :
    ArmFor flags0 classFile x code maxLocals ret World_1 tables_1 room_1 Calls_1 rest_1 Pre_1 Post := by
  intro l hfl _ _ p e ha hc hk s m args below hf hA hF happ hP
  obtain ⟨hcalls, hrest, hpre⟩ := hP
  obtain ⟨-, -, -, hnamed, -, -, -, hat⟩ := (Spec.applies_iff hf).mp happ
  obtain ⟨hg, hn⟩ := and_e (Cond.before_iff.mp (show (Jvm.Cond.and given_1 narrow_1).before args s = true from hpre))
  obtain ⟨ga1, gb1⟩ := and_e hg
  obtain ⟨w0, rfl⟩ : ∃ w0 : Value, args = #[w0] := by
    have hs : args.size = 1 := by simpa [Cond.value, given_1] using ga1
    obtain ⟨L⟩ := args
    match L, hs with
    | [w0], _ => exact ⟨w0, rfl⟩
  have hw := fun d (hd : d ∈ tables_1) => atoms_spec (ws := Jvm.Cond.code x code maxLocals ret :: tables_1) hat d (List.mem_cons_of_mem _ hd)
  have hfit : Fit s := fun {y c} hc i hi => by
    obtain ⟨ha, rfl⟩ := Array.getElem?_eq_some_iff.mp hc
    have q := List.all_eq_true.mp ((Array.all_eq_true_iff_forall_mem.mp hF) _ (Array.getElem_mem ha)) i (List.mem_range.mpr hi)
    simpa [Array.getElem?_eq_getElem hi] using q
  obtain ⟨i0, ei0⟩ := isL_v gb1
  obtain rfl : w0 = (.long i0) := Option.some.inj ei0
  obtain ⟨n, o, h1, h2, h3, _, L, rfl, ⟨rfl, N, -⟩, hq⟩ := own_law l s _ hw tables_1 i0 s.heap s.heap.size (Nat.le_refl _)  p e ha hc hk s m _ below hf ((Spec.applies_iff_loose hf).mp happ).1 ⟨rfl, State.Warmed39.refl s, rfl⟩ trivial
  exact ⟨n, _, h1, h2, h3, hpost _ _ _ _ _ _ ⟨Cond.after_iff.mpr rfl, Cond.after_iff.mpr (eq_i res_at (Term.int_eval (1)) rfl), trivial⟩ ⟨hq.1, hq.2.1, (hq.2.2.sift fun y hy => Or.inr (N y hy)).mono (by decide) (by decide)⟩⟩
theorem main_1_1 : Claimed_1_1 := comes_1 fun _ _ _ _ _ _ h hF => ⟨h.1, hF⟩
theorem main_1_2 : Claimed_1_2 := comes_1 fun _ _ _ _ _ _ h hF => ⟨h.2.1, hF⟩
end Jvm.Pilot.@@N@@
namespace Jvm.Pilot.@@N@@
open Jvm Jvm.ClassFile Sem Op Lib Jvm.Free Jvm.Stand Jvm.Pilot.@@N@@.Jvm.D
/-! MADE BY PROGRAM (witnessworld.py) out of the Statement's table words and the real class files: 9 classes; the members and pool entries that the words name. The judged class is class 1, her method 3. -/
namespace start1
open Jvm.ClassFile
def u (s : String) : CpInfo := .utf8 (stringToUtf16 s)
/-- a pool by its gaps: so many unusable entries, then the entry; so many at the end -/
def gap : Nat → List CpInfo → List CpInfo
  | 0, r => r
  | n + 1, r => .unusable :: gap n r
def poolList (es : List (Nat × CpInfo)) (last : Nat) : List CpInfo := es.foldr (fun e r => gap e.1 (e.2 :: r)) (gap last [])
def pool (es : List (Nat × CpInfo)) (last : Nat) : Array CpInfo := ⟨poolList es last⟩
def fileOf (pool : Array CpInfo) (this : Nat) (attrs : Array Attribute := #[]) (ms : Array MethodInfo := #[]) (fl : Nat := 33) (sup : Nat := 0) (ifs : Array Nat := #[]) (fds : Array FieldInfo := #[]) : ClassFile where
  minorVersion := 0
  majorVersion := 65
  constantPool := pool
  accessFlags := fl
  thisClass := this
  superClass := sup
  interfaces := ifs
  fields := fds
  methods := ms
  attributes := attrs
def plain (name : String) (sup : Option ClassId) : Class where
  name := name
  kind := .ordinary
  loader := none
  accessFlags := 33
  super := sup
  interfaces := #[]
  cf := none
  fields := #[]
  methods := #[]
  instanceTypes := #[]
  staticTypes := #[]
  resolved := #[]
  callSites := []
  init := .initialized
  statics := none
  mirror := none

def pool0 : Array CpInfo := pool [(5, u "<init>"), (0, u "()V"), (1, .class_ 10), (1, u "java/lang/Object")] 113

def k0c0 : Code := { maxStack := 0, maxLocals := 1, code := object_method_1_code, exceptionTable := #[], attributes := #[] }
def k0m0 : Method := { name := "<init>", desc := "()V", sig := { parameters := [], returnType := none }, accessFlags := 1, code := some k0c0 }
/-- java/lang/Object -/
def k0 : Class := { plain "java/lang/Object" none with
  accessFlags := 33
  interfaces := #[]
  cf := some (fileOf pool0 8 #[] #[{ accessFlags := 1, nameIndex := 5, descriptorIndex := 6, attributes := #[] }] 33 0 #[] #[])
  fields := #[]
  methods := #[k0m0]
  instanceTypes := #[]
  staticTypes := #[]
  resolved := Array.replicate 124 none
  statics := none }

def pool1 : Array CpInfo := pool [(2, .class_ 4), (1, u "java/lang/Object"), (0, u "<init>"), (0, u "()V"), (0, .long 2), (1, .long 10723151780598845931), (1, .methodref 12 13), (0, .class_ 14), (0, .nameAndType 15 16), (0, u "com/example/tallysieve/tallysieve/SplitMix64NextLongPinLaw"), (0, u "inverse"), (0, u "(J)J"), (0, .long 13787848793156543929), (1, .class_ 20), (0, u "com/example/tallysieve/tallysieve/SplitMix64"), (0, .methodref 19 22), (0, .nameAndType 5 23), (0, u "(J)V"), (0, .methodref 19 25), (0, .nameAndType 26 27), (0, u "nextLong"), (0, u "()J"), (0, .long 11400714819323198485), (1, .methodref 12 31), (0, .nameAndType 32 16), (0, u "unmix"), (0, .long 3), (3, u "law"), (0, u "(J)Z")] 3

def k1m0 : Method := { name := "<init>", desc := "()V", sig := { parameters := [], returnType := none }, accessFlags := 2, code := none }
def k1c1 : Code := { maxStack := 8, maxLocals := 4, code := method_2_code, exceptionTable := #[], attributes := #[] }
def k1m1 : Method := { name := "inverse", desc := "(J)J", sig := { parameters := [.long], returnType := some .long }, accessFlags := 10, code := some k1c1 }
def k1c2 : Code := { maxStack := 5, maxLocals := 4, code := method_3_code, exceptionTable := #[], attributes := #[] }
def k1m2 : Method := { name := "unmix", desc := "(J)J", sig := { parameters := [.long], returnType := some .long }, accessFlags := 10, code := some k1c2 }
def k1c3 : Code := { maxStack := 8, maxLocals := 11, code := code, exceptionTable := #[], attributes := #[] }
def k1m3 : Method := { name := "law", desc := "(J)Z", sig := { parameters := [.long], returnType := some .boolean }, accessFlags := 9, code := some k1c3 }
/-- com/example/tallysieve/tallysieve/SplitMix64NextLongPinLaw -/
def k1 : Class := { plain "com/example/tallysieve/tallysieve/SplitMix64NextLongPinLaw" (some 0) with
  accessFlags := 49
  interfaces := #[]
  cf := some (fileOf pool1 12 #[] #[{ accessFlags := 2, nameIndex := 5, descriptorIndex := 6, attributes := #[] }, { accessFlags := 10, nameIndex := 15, descriptorIndex := 16, attributes := #[] }, { accessFlags := 10, nameIndex := 32, descriptorIndex := 16, attributes := #[] }, { accessFlags := 9, nameIndex := 37, descriptorIndex := 38, attributes := #[] }] 49 2 #[] #[])
  fields := #[]
  methods := #[k1m0, k1m1, k1m2, k1m3]
  instanceTypes := #[]
  staticTypes := #[]
  resolved := Array.replicate 42 none
  statics := none }

def pool2 : Array CpInfo := pool [(1, .methodref 2 3), (0, .class_ 4), (0, .nameAndType 5 6), (0, u "java/lang/Object"), (0, u "<init>"), (0, u "()V"), (0, .fieldref 8 9), (0, .class_ 10), (0, .nameAndType 11 12), (0, u "com/example/tallysieve/tallysieve/SplitMix64"), (0, u "state"), (0, u "J"), (0, .long 11400714819323198485), (1, .long 13787848793156543929), (1, .long 10723151780598845931), (3, u "nextLong"), (0, u "()J"), (2, u "GAMMA"), (1, u "(J)V")] 6

def k2c0 : Code := { maxStack := 3, maxLocals := 3, code := prog_5_method_1_code, exceptionTable := #[], attributes := #[] }
def k2m0 : Method := { name := "<init>", desc := "(J)V", sig := { parameters := [.long], returnType := none }, accessFlags := 0, code := some k2c0 }
def k2c1 : Code := { maxStack := 5, maxLocals := 3, code := prog_5_method_2_code, exceptionTable := #[], attributes := #[] }
def k2m1 : Method := { name := "nextLong", desc := "()J", sig := { parameters := [], returnType := some .long }, accessFlags := 0, code := some k2c1 }
/-- com/example/tallysieve/tallysieve/SplitMix64 -/
def k2 : Class := { plain "com/example/tallysieve/tallysieve/SplitMix64" (some 0) with
  accessFlags := 48
  interfaces := #[]
  cf := some (fileOf pool2 8 #[] #[{ accessFlags := 0, nameIndex := 5, descriptorIndex := 27, attributes := #[] }, { accessFlags := 0, nameIndex := 21, descriptorIndex := 22, attributes := #[] }] 48 2 #[] #[{ accessFlags := 26, nameIndex := 25, descriptorIndex := 12, attributes := #[] }, { accessFlags := 2, nameIndex := 11, descriptorIndex := 12, attributes := #[] }])
  fields := #[{ name := "GAMMA", type := .long, accessFlags := 26, slot := 0, constantValue := 0 }, { name := "state", type := .long, accessFlags := 2, slot := 0, constantValue := 0 }]
  methods := #[k2m0, k2m1]
  instanceTypes := #[.long]
  staticTypes := #[.long]
  resolved := Array.replicate 34 none
  statics := none }

def pool3 : Array CpInfo := pool [(1, u "java/lang/Cloneable"), (0, .class_ 1), (0, u "java/lang/Object"), (0, .class_ 3)] 3

/-- java/lang/Cloneable -/
def k3 : Class := { plain "java/lang/Cloneable" (some 0) with
  accessFlags := 1537
  interfaces := #[]
  cf := some (fileOf pool3 2 #[] #[] 1537 4 #[] #[])
  fields := #[]
  methods := #[]
  instanceTypes := #[]
  staticTypes := #[]
  resolved := Array.replicate 8 none
  statics := none }

def pool4 : Array CpInfo := pool [(1, u "java/io/Serializable"), (0, .class_ 1), (0, u "java/lang/Object"), (0, .class_ 3)] 3

/-- java/io/Serializable -/
def k4 : Class := { plain "java/io/Serializable" (some 0) with
  accessFlags := 1537
  interfaces := #[]
  cf := some (fileOf pool4 2 #[] #[] 1537 4 #[] #[])
  fields := #[]
  methods := #[]
  instanceTypes := #[]
  staticTypes := #[]
  resolved := Array.replicate 8 none
  statics := none }

/-- the primitive byte -/
def k5 : Class := { plain "byte" none with kind := .primitive 'B', accessFlags := 0x411 }
/-- [B -/
def k6 : Class := { plain "[B" (some 0) with kind := .array 5 .byte, interfaces := #[3, 4], accessFlags := 1041 }

/-- the primitive int -/
def k7 : Class := { plain "int" none with kind := .primitive 'I', accessFlags := 0x411 }
/-- [I -/
def k8 : Class := { plain "[I" (some 0) with kind := .array 7 .int, interfaces := #[3, 4], accessFlags := 1041 }

def heap : Heap := #[]
def classes : Array Class := #[k0, k1, k2, k3, k4, k5, k6, k7, k8]
def interned : List (Array UInt16 × Addr) := []
def slotsUsed : Nat := 0
def theMethod : MethodId := ⟨1, 3⟩
def args0 : Array Value := #[.long 5]
def aboutOver (below : List Frame) : State where
  vm := { classes := classes, interned := interned.toArray }
  heap := heap
  slotsUsed := slotsUsed
  threads := #[{ frames := .invoking theMethod args0 :: below }]
def below0 : List Frame := [.native { method := ⟨0, 0⟩, args := #[] }]
def about1 : State := aboutOver below0
def p0 : Program := .bare "" "" ""
def e0 : Env := launch0.env 0 0 0
theorem w_frames : about1.frames = Frame.invoking theMethod args0 :: below0 := rfl
set_option maxRecDepth 65536 in
theorem w_args : argsFit about1.vm theMethod args0 = true := by decide +kernel
set_option maxRecDepth 65536 in
theorem w_heap : heapFits about1 = true := by decide +kernel
set_option maxRecDepth 65536 in
theorem w_runnable : about1.curStatus? = some .runnable := by decide +kernel
set_option maxRecDepth 65536 in
theorem w_alone : about1.alone = true := by decide +kernel
set_option maxRecDepth 65536 in
theorem w_named : about1.methodNamed? x = some theMethod := by decide +kernel
set_option maxRecDepth 65536 in
theorem w_hears : about1.hears theMethod below0 = true := by decide +kernel
set_option maxRecDepth 65536 in
theorem w_ripe : about1.ripe theMethod args0 below0 = true := by decide +kernel
theorem w_running : about1.status = .running := rfl
set_option maxRecDepth 65536 in
theorem w_room : about1.hasRoom e0.platform room_1 = true :=
  launch0.hasRoom_least _ room_1 (by decide +kernel) (by decide +kernel) (by decide +kernel) (by decide +kernel) (by decide +kernel) (by decide +kernel)
theorem allAtoms_all (ts : List Jvm.Cond) (a : Array Jvm.Value) (st : Jvm.State) : (allAtoms ts).before a st = ts.all (fun c => c.before a st) := by
  induction ts with
  | nil => rfl
  | cons c t ih =>
    show (Jvm.Cond.and c (allAtoms t)).before a st = _
    rw [Jvm.Cond.before_and, ih, List.all_cons]
def words1 : List Jvm.Cond := Jvm.Cond.code x code maxLocals ret :: tables_1
/-- a 'code' word, met by the world's own term for the bytes: nothing is compared byte by byte -/
theorem code_word {y : MethodName} {bytes : ByteArray} {mx : Nat} {rt : Option FieldType} {a : Array Value} {s : State} {m : MethodId} {meth : Method} {c : Code} (h1 : s.methodNamed? y = some m) (h2 : s.vm.method? m = some meth) (h3 : meth.code = some c) (h4 : c.code = bytes)
    (h5 : (c.maxLocals == mx && c.exceptionTable.isEmpty && decide (c.maxStack ≤ mostOperands) && decide (meth.sig.returnType = rt) && !meth.locks && decide (parseMethodDescriptor y.desc = some meth.sig)) = true) : (Jvm.Cond.code y bytes mx rt).before a s = true := by
  simp only [Bool.and_eq_true, beq_iff_eq, Bool.not_eq_true', decide_eq_true_eq] at h5
  obtain ⟨⟨⟨⟨⟨g1, g2⟩, g3⟩, g4⟩, g5⟩, g6⟩ := h5
  simp [Cond.before, Cond.holds, Cond.value, h1, h2, h3, h4, g1, g2, g3, g4, g5, g6]
def isCode : Jvm.Cond → Bool
  | .code _ _ _ _ => true
  | _ => false
theorem all_split {L : List Jvm.Cond} {P : Jvm.Cond → Bool} (h1 : L.all (fun c => isCode c || P c) = true) (h2 : ∀ c ∈ L.filter isCode, P c = true) : L.all P = true := by
  refine List.all_eq_true.mpr fun c hc => ?_
  have h := List.all_eq_true.mp h1 c hc
  rcases Bool.eq_false_or_eq_true (isCode c) with hi | hi
  · exact h2 c (List.mem_filter.mpr ⟨hc, hi⟩)
  · simpa [hi] using h
set_option maxRecDepth 65536 in
theorem w_c0 : (Jvm.Cond.code x code maxLocals ret).before args0 about1 = true := code_word (m := ⟨1, 3⟩) (meth := k1m3) (c := k1c3) (by decide +kernel) rfl rfl rfl (by decide +kernel)
set_option maxRecDepth 65536 in
theorem w_c1 : (Jvm.Cond.code ({ cls := "com/example/tallysieve/tallysieve/SplitMix64", name := "<init>", desc := "(J)V" } : Jvm.MethodName) prog_5_method_1_code (3 : Nat) (Option.none : Option Jvm.ClassFile.FieldType)).before args0 about1 = true := code_word (m := ⟨2, 0⟩) (meth := k2m0) (c := k2c0) (by decide +kernel) rfl rfl rfl (by decide +kernel)
set_option maxRecDepth 65536 in
theorem w_c2 : (Jvm.Cond.code ({ cls := "java/lang/Object", name := "<init>", desc := "()V" } : Jvm.MethodName) object_method_1_code (1 : Nat) (Option.none : Option Jvm.ClassFile.FieldType)).before args0 about1 = true := code_word (m := ⟨0, 0⟩) (meth := k0m0) (c := k0c0) (by decide +kernel) rfl rfl rfl (by decide +kernel)
set_option maxRecDepth 65536 in
theorem w_c3 : (Jvm.Cond.code ({ cls := "com/example/tallysieve/tallysieve/SplitMix64", name := "nextLong", desc := "()J" } : Jvm.MethodName) prog_5_method_2_code (3 : Nat) (Option.some Jvm.ClassFile.FieldType.long)).before args0 about1 = true := code_word (m := ⟨2, 1⟩) (meth := k2m1) (c := k2c1) (by decide +kernel) rfl rfl rfl (by decide +kernel)
set_option maxRecDepth 65536 in
theorem w_c4 : (Jvm.Cond.code ({ cls := "com/example/tallysieve/tallysieve/SplitMix64NextLongPinLaw", name := "unmix", desc := "(J)J" } : Jvm.MethodName) method_3_code (4 : Nat) (Option.some Jvm.ClassFile.FieldType.long)).before args0 about1 = true := code_word (m := ⟨1, 2⟩) (meth := k1m2) (c := k1c2) (by decide +kernel) rfl rfl rfl (by decide +kernel)
set_option maxRecDepth 65536 in
theorem w_c5 : (Jvm.Cond.code ({ cls := "com/example/tallysieve/tallysieve/SplitMix64NextLongPinLaw", name := "inverse", desc := "(J)J" } : Jvm.MethodName) method_2_code (4 : Nat) (Option.some Jvm.ClassFile.FieldType.long)).before args0 about1 = true := code_word (m := ⟨1, 1⟩) (meth := k1m1) (c := k1c1) (by decide +kernel) rfl rfl rfl (by decide +kernel)
def codes1 : List Jvm.Cond := [Jvm.Cond.code x code maxLocals ret, Jvm.Cond.code ({ cls := "com/example/tallysieve/tallysieve/SplitMix64", name := "<init>", desc := "(J)V" } : Jvm.MethodName) prog_5_method_1_code (3 : Nat) (Option.none : Option Jvm.ClassFile.FieldType), Jvm.Cond.code ({ cls := "java/lang/Object", name := "<init>", desc := "()V" } : Jvm.MethodName) object_method_1_code (1 : Nat) (Option.none : Option Jvm.ClassFile.FieldType), Jvm.Cond.code ({ cls := "com/example/tallysieve/tallysieve/SplitMix64", name := "nextLong", desc := "()J" } : Jvm.MethodName) prog_5_method_2_code (3 : Nat) (Option.some Jvm.ClassFile.FieldType.long), Jvm.Cond.code ({ cls := "com/example/tallysieve/tallysieve/SplitMix64NextLongPinLaw", name := "unmix", desc := "(J)J" } : Jvm.MethodName) method_3_code (4 : Nat) (Option.some Jvm.ClassFile.FieldType.long), Jvm.Cond.code ({ cls := "com/example/tallysieve/tallysieve/SplitMix64NextLongPinLaw", name := "inverse", desc := "(J)J" } : Jvm.MethodName) method_2_code (4 : Nat) (Option.some Jvm.ClassFile.FieldType.long)]
set_option maxRecDepth 65536 in
theorem codes_eq : words1.filter isCode = codes1 := rfl
theorem w_codes : ∀ c ∈ words1.filter isCode, c.before args0 about1 = true := by
  rw [codes_eq]
  intro c hc
  simp only [codes1, List.mem_cons, List.not_mem_nil, or_false] at hc
  rcases hc with rfl | rfl | rfl | rfl | rfl | rfl
  · exact w_c0
  · exact w_c1
  · exact w_c2
  · exact w_c3
  · exact w_c4
  · exact w_c5
set_option maxRecDepth 65536 in
theorem w_t1 : (words1.take 24).all (fun c => isCode c || c.before args0 about1) = true := by decide +kernel
set_option maxRecDepth 65536 in
theorem w_t2 : (words1.drop 24).all (fun c => isCode c || c.before args0 about1) = true := by decide +kernel
theorem w_tables : (allAtoms (Jvm.Cond.code x code maxLocals ret :: tables_1)).before args0 about1 = true := by
  rw [allAtoms_all]
  show words1.all (fun c => c.before args0 about1) = true
  refine all_split ?_ w_codes
  rw [← List.take_append_drop 24 words1, List.all_append, w_t1, w_t2]
  rfl
set_option maxRecDepth 65536 in
theorem w_case : (Jvm.Cond.and given_1 narrow_1).before args0 about1 = true := by decide +kernel
theorem w_applies : (headSpec (Jvm.Cond.code x code maxLocals ret :: tables_1) room_1).applies x e0.platform about1 = true :=
  (Spec.applies_iff w_frames).mpr ⟨w_running, w_runnable, w_alone, w_named, w_hears, w_ripe, w_room, w_tables⟩
theorem atStart : AtStart classFile x code maxLocals ret World_1 tables_1 room_1 Calls_1 rest_1 Pre_1 launch0 p0 e0 about1 theMethod args0 below0 :=
  ⟨lists_1, trivial, launch0.admits_env _ _ _, launch0.least_env, fairChoices_fair.cas, fairChoices_fair.clock, w_frames, w_args, w_heap, w_applies, trivial, trivial, w_case⟩
end start1
theorem witness_1 : WitnessClaimed_1 := ⟨start1.p0, start1.e0, start1.about1, start1.theMethod, start1.args0, start1.below0, start1.atStart⟩
end Jvm.Pilot.@@N@@
