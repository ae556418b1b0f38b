import JvmDerived
import JvmDerived.Pilot.@@N@@Statement
import JvmDerived.Pilot.@@N@@Code
set_option linter.unusedVariables false
set_option linter.unusedSimpArgs false
namespace Jvm.Pilot.@@N@@
open Jvm Jvm.ClassFile Sem Op Lib Jvm.Free Jvm.Stand Jvm.LawKit Jvm.RoadKit Bundle Jvm.Pilot.@@N@@.Jvm.D
/-! own prelude: 'own_Goes' says that from state T with top frame g the invocation comes to its end with what Q says -/
section OwnPrelude
variable {p : Program} {l : Launch} {e : Env} {R : Room} {s : State} {m : MethodId} {args : Array Value} {below : List Frame} {meth : Method} {c : Code} {T T' : State} {locs : List Loc} {cells slots : Nat} {Z : State} {a0 : Array Value} {h : Heap} {kc ks : Nat} {Q : Option Value → Heap → List Loc → Prop} {g g' : JFrame}
def own_Goes (p : Program) (e : Env) (below : List Frame) (s : State) (kc ks : Nat) (Q : Option Value → Heap → List Loc → Prop) (T : State) (g : JFrame) : Prop :=
  ∃ t o, Steps p.tables e below (T.setTop g) t ∧ t.status = .running ∧ Ended t below o ∧ ∃ v L, o = .returned v ∧ Q v t.heap L ∧ FrameEnd s o t L kc ks
abbrev own_Ctr (l : Launch) (Z : State) (y : MethodName) (bytes : ByteArray) (maxL : Nat) (ret : Option FieldType) (ws : List Jvm.Cond) (rm : Room) (kc ks : Nat) (as' : Array Value) (h : Heap) (Q : Option Value → Heap → List Loc → Prop) : Prop :=
  MetFree l y (head1 (Jvm.Cond.code y bytes maxL ret :: ws) rm) (fun a U => a = as' ∧ Z.Warmed39 U.vm ∧ U.heap = h) (fun _ _ _ _ _ => True) (fun _ U o U' => ∃ v L, o = .returned v ∧ Q v U'.heap L ∧ FrameEnd U o U' L kc ks)
theorem own_by (st : ∀ t, Steps p.tables e below (T'.setTop g') t → Steps p.tables e below (T.setTop g) t) (k : own_Goes p e below s kc ks Q T' g') : own_Goes p e below s kc ks Q T g := by
  obtain ⟨t, o, h1, r⟩ := k; exact ⟨t, o, st t h1, r⟩
theorem own_cast (q : g = g') (k : own_Goes p e below s kc ks Q T g') : own_Goes p e below s kc ks Q T g := q ▸ k
theorem own_enter {y : MethodName} {bytes : ByteArray} {maxL : Nat} {ret : Option FieldType} {ws : List Jvm.Cond} {rm : Room} {as' : Array Value} (hpl : plainFor y = true)
    (k : ∀ p e s m below meth c s₁, Stand p l e rm s m as' below meth c s₁ [] 0 0 → p.tables.exec = Jvm.exec → Z.Warmed39 s.vm → c.code = bytes → c.maxLocals = maxL → s.vm.findClass y.cls = some m.cls → meth.name = y.name → meth.locks = false → meth.sig.returnType = ret → s₁.heap = h → own_Goes p e below s kc ks Q s₁ (entryFrame m as' maxL)) :
    own_Ctr l Z y bytes maxL ret ws rm kc ks as' h Q := by
  refine MetFree.of_bodySF hpl hisR ?_
  intro p e s m args below meth c s₁ Bd hml0 hP hK
  obtain ⟨rfl, hZ, hh⟩ := hP
  exact k p e s m below meth c s₁ (Stand.of_body Bd) Bd.exec hZ Bd.bytes hml0 (findClass_of_methodNamed Bd.named) (name_of_methodNamed Bd.named Bd.method).1 Bd.notSynchronized Bd.returns (by rw [← hh, Bd.state]; rfl)
theorem own_mono (X : Stand p l e R s m args below meth c T locs cells slots) {c' n' : Nat} (h1 : cells ≤ c') (h2 : slots ≤ n') : Stand p l e R s m args below meth c T locs c' n' :=
  { X with same := X.same.mono h1 h2 }
theorem own_out (X : Stand p l e R s m args below meth c T locs cells slots) (hlk : meth.locks = false) {v : Option Value} (hv : meth.sig.returnType = none → v = none)
    (st : ∀ fs, (∀ (f : JFrame) (acts : List Action), f.method = m → f.locked = none → f.entered = [] → (doReturn e (T.setTop f) acts v).1 = T.setFrames fs) → Steps p.tables e below (T.setTop g) (T.setFrames fs))
    (hc : cells ≤ kc) (hs : slots ≤ ks) (hQ : Q v T.heap locs) : own_Goes p e below s kc ks Q T g := by
  obtain ⟨fs, hr, hrun, hended, hW, hsame⟩ := X.leave (v := v) hv hlk
  exact ⟨_, _, st fs hr, hrun, hended, v, locs, rfl, hQ, ⟨_, rfl⟩, hW, hsame.mono hc hs⟩
theorem own_ret {w : Value} {t : FieldType} {i : Instr} {pc : Nat} {Ls : Array Slot} {rest : List Value} (X : Stand p l e R s m args below meth c T locs cells slots) (hx : p.tables.exec = Jvm.exec) (hlk : meth.locks = false) (hret : meth.sig.returnType = some t) (hn : narrow t w = w)
    (hi : (i = .ireturn ∧ (t = .int ∨ t = .boolean ∨ t = .byte ∨ t = .char ∨ t = .short) ∧ ∃ z, w = .int z) ∨ (i = .lreturn ∧ t = .long ∧ ∃ z, w = .long z) ∨ (i = .dreturn ∧ t = .double ∧ ∃ z, w = .double z) ∨ (i = .freturn ∧ t = .float ∧ ∃ z, w = .float z) ∨ (i = .areturn ∧ t.isReference = true ∧ w.isRef = true))
    (hd : decode c.code pc = .ok (i, 1)) (hc : cells ≤ kc) (hs : slots ≤ ks) (hQ : Q (some w) T.heap locs) : own_Goes p e below s kc ks Q T (mkF m pc Ls (w :: rest)) :=
  own_out X hlk (fun h => by rw [hret] at h; cases h) (fun fs hr => retOut X hx hret hn hi hd hr) hc hs hQ
theorem own_retI {z : Int32} {pc : Nat} {Ls : Array Slot} {rest : List Value} (X : Stand p l e R s m args below meth c T locs cells slots) (hx : p.tables.exec = Jvm.exec) (hlk : meth.locks = false) (hret : meth.sig.returnType = some .int)
    (hd : decode c.code pc = .ok (.ireturn, 1)) (hc : cells ≤ kc) (hs : slots ≤ ks) (hQ : Q (some (.int z)) T.heap locs) : own_Goes p e below s kc ks Q T (mkF m pc Ls (.int z :: rest)) :=
  own_ret X hx hlk hret rfl (Or.inl ⟨rfl, Or.inl rfl, z, rfl⟩) hd hc hs hQ
theorem own_retJ {z : Int64} {pc : Nat} {Ls : Array Slot} {rest : List Value} (X : Stand p l e R s m args below meth c T locs cells slots) (hx : p.tables.exec = Jvm.exec) (hlk : meth.locks = false) (hret : meth.sig.returnType = some .long)
    (hd : decode c.code pc = .ok (.lreturn, 1)) (hc : cells ≤ kc) (hs : slots ≤ ks) (hQ : Q (some (.long z)) T.heap locs) : own_Goes p e below s kc ks Q T (mkF m pc Ls (.long z :: rest)) :=
  own_ret X hx hlk hret rfl (Or.inr (Or.inl ⟨rfl, rfl, z, rfl⟩)) hd hc hs hQ
theorem own_retD {z : UInt64} {pc : Nat} {Ls : Array Slot} {rest : List Value} (X : Stand p l e R s m args below meth c T locs cells slots) (hx : p.tables.exec = Jvm.exec) (hlk : meth.locks = false) (hret : meth.sig.returnType = some .double)
    (hd : decode c.code pc = .ok (.dreturn, 1)) (hc : cells ≤ kc) (hs : slots ≤ ks) (hQ : Q (some (.double z)) T.heap locs) : own_Goes p e below s kc ks Q T (mkF m pc Ls (.double z :: rest)) :=
  own_ret X hx hlk hret rfl (Or.inr (Or.inr (Or.inl ⟨rfl, rfl, z, rfl⟩))) hd hc hs hQ
theorem own_fitR {t : FieldType} {w : Value} (ht : t.isReference = true) (hw : w.isRef = true) : fits t w = true := by cases t <;> simp [FieldType.isReference] at ht <;> rcases ref_cases hw with rfl | ⟨a, rfl⟩ <;> rfl
theorem own_cat1 {w : Value} (hw : w.isRef = true) : w.category = 1 := by rcases ref_cases hw with rfl | ⟨a, rfl⟩ <;> rfl
theorem own_stG {ls l' : Array Slot} {i : Nat} {v : Value} {o : Slot} (hold : ls[i]? = some o) (ho : o = .unset ∨ ∃ w, o = .val w ∧ w.category = 1) (hv : v.category = 1) (q : ls.setIfInBounds i (.val v) = l') : storeLocals ls i v = some l' := q ▸ XS.store1 hold ho hv
theorem own_narR {t : FieldType} {w : Value} (ht : t.isReference = true) : narrow t w = w := by cases t <;> simp [FieldType.isReference] at ht <;> cases w <;> rfl
theorem own_retA {w : Value} {t : FieldType} {pc : Nat} {Ls : Array Slot} {rest : List Value} (X : Stand p l e R s m args below meth c T locs cells slots) (hx : p.tables.exec = Jvm.exec) (hlk : meth.locks = false) (hret : meth.sig.returnType = some t) (ht : t.isReference = true) (hw : w.isRef = true)
    (hd : decode c.code pc = .ok (.areturn, 1)) (hc : cells ≤ kc) (hs : slots ≤ ks) (hQ : Q (some w) T.heap locs) : own_Goes p e below s kc ks Q T (mkF m pc Ls (w :: rest)) :=
  own_ret X hx hlk hret (own_narR ht) (Or.inr (Or.inr (Or.inr (Or.inr ⟨rfl, ht, hw⟩)))) hd hc hs hQ
theorem own_retN {z : Int32} {t : FieldType} {pc : Nat} {Ls : Array Slot} {rest : List Value} (X : Stand p l e R s m args below meth c T locs cells slots) (hx : p.tables.exec = Jvm.exec) (hlk : meth.locks = false) (hret : meth.sig.returnType = some t) (ht : t = .boolean ∨ t = .byte ∨ t = .char ∨ t = .short)
    (hd : decode c.code pc = .ok (.ireturn, 1)) (hc : cells ≤ kc) (hs : slots ≤ ks) (hQ : Q (some (.int (nar t z))) T.heap locs) : own_Goes p e below s kc ks Q T (mkF m pc Ls (.int z :: rest)) :=
  own_out X hlk (fun h => by rw [hret] at h; cases h) (fun fs hr => retN X hx hret ht hd hr) hc hs hQ
theorem own_retV {pc : Nat} {Ls : Array Slot} (X : Stand p l e R s m args below meth c T locs cells slots) (hx : p.tables.exec = Jvm.exec) (hlk : meth.locks = false) (hret : meth.sig.returnType = none)
    (hd : decode c.code pc = .ok (.return_, 1)) (hc : cells ≤ kc) (hs : slots ≤ ks) (hQ : Q none T.heap locs) : own_Goes p e below s kc ks Q T (mkF m pc Ls []) :=
  own_out X hlk (fun _ => rfl) (fun fs hr => X.returnOut hx hret hd hr) hc hs hQ
/-- an array of that type and length, whatever it holds -/
def own_Arz (Z : State) (h : Heap) (a : Addr) (ty : FieldType) (z : Int32) : Prop := ∃ c : Cell, Arr Z h a c ty ∧ c.slots.size = z.toNatClampNeg ∧ ¬ z < 0
theorem own_Arz.of {a : Addr} {k : ClassId} {ty : FieldType} {z : Int32} {vs : List Value} {dv : Value} (F : Arv Z h a k ty z vs dv) : own_Arz Z h a ty z := by obtain ⟨c, A, -, S, q, -⟩ := F; exact ⟨c, A, S, q⟩
theorem own_Arz.lt {a : Addr} {ty : FieldType} {z : Int32} (F : own_Arz Z h a ty z) : a < h.size := by obtain ⟨c, A, -⟩ := F; exact A.lt
theorem own_Arz.ext {h' : Heap} {a : Addr} {ty : FieldType} {z : Int32} (F : own_Arz Z h a ty z) (E : Ext h h') : own_Arz Z h' a ty z := by obtain ⟨c, A, r⟩ := F; exact ⟨c, A.ext E, r⟩
theorem own_Arz.other {h' : Heap} {a b : Addr} {ty : FieldType} {z : Int32} {sl : Nat} {v : Value} (F : own_Arz Z h b ty z) (W : Wr h h' a sl v) (q : b ≠ a) : own_Arz Z h' b ty z := by obtain ⟨c, A, r⟩ := F; exact ⟨c, A.other W q, r⟩
theorem own_Arz.same {h' : Heap} {a : Addr} {ty : FieldType} {z : Int32} {sl : Nat} {v : Value} (F : own_Arz Z h a ty z) (W : Wr h h' a sl v) : own_Arz Z h' a ty z := by obtain ⟨c, A, r1, r2⟩ := F; exact ⟨_, A.same W, by rw [sz_set]; exact r1, r2⟩
theorem own_Arz.keep {h' : Heap} {a : Addr} {ty : FieldType} {z : Int32} {ws : List Addr} (F : own_Arz Z h a ty z) (K : Keep h h' ws) (q : a ∉ ws) : own_Arz Z h' a ty z := by obtain ⟨c, A, r⟩ := F; exact ⟨c, ⟨K.2.1 a c A.1 q, A.2⟩, r⟩
section OwnCalls
variable {own : String} {index : Nat} {y z : MethodName} {bytes : ByteArray} {maxL : Nat} {ret : Option FieldType} {rm : Room} {Q' : Option Value → Heap → List Loc → Prop} {argsL rest : List Value}
theorem own_callS (X : Stand p l e R s m args below meth c T locs cells slots) (hx : p.tables.exec = Jvm.exec) (hZ : Z.Warmed39 s.vm) (hown : s.vm.findClass own = some m.cls)
    (w1 : (Cond.methodLink own index y).before a0 Z = true) (w2 : (Cond.static y).before a0 Z = true) (w3 : (Cond.initialized y.cls).before a0 Z = true) (w4 : (Cond.code y bytes maxL ret).before a0 Z = true)
    (hy : y.cls ≠ "java/lang/invoke/MethodHandle" ∧ y.cls ≠ "java/lang/invoke/VarHandle") (hM : own_Ctr l Z y bytes maxL ret [] rm rm.cells rm.slots argsL.toArray h Q') (W : Nat)
    (hf : rm.frames + 1 ≤ R.frames) (hl : W + (maxL + 11) + rm.locals ≤ R.locals) (hc : cells + rm.cells ≤ R.cells) (hs : slots + rm.slots ≤ R.slots) (eT : T.heap = h)
    (hg : g.method = m) (hsize : g.locals.size = c.maxLocals) (hlen : ∀ sig, parseMethodDescriptor y.desc = some sig → argsL.length = sig.parameters.length) (hstack : g.stack = argsL.reverse ++ rest)
    (hW : 2 * g.monitorRoom + (rest.map fun v => v.category).sum ≤ W) (hd : decode c.code g.pc = .ok (.invokestatic index, 3))
    (k : ∀ v T' L, Stand p l e R s m args below meth c T' (locs ++ L) (cells + rm.cells) (slots + rm.slots) → Q' v T'.heap L → own_Goes p e below s kc ks Q T' { g with pc := g.pc + 3, stack := v.toList ++ rest }) : own_Goes p e below s kc ks Q T g := by
  obtain ⟨v, _, ⟨T', L', k', n'⟩, -, X', ⟨Lc, hQ, l1, y1, z1⟩, st⟩ := Jvm.LawKit.callS X hx hown (mvT hZ w1) (mvT hZ w2) (mvT hZ w3) (mvT hZ w4) hy (backOf (W := W) hM hZ w4 w3 hf hl) hg hsize hlen hstack hW hd (fun _ _ => ⟨rfl, eT, hc, hs⟩)
  dsimp only [Pt.U, Pt.locs, Pt.cells, Pt.slots] at X' l1 y1 z1 st hQ
  subst l1 y1 z1
  exact own_by st (k v T' Lc X' hQ)
theorem own_callI (X : Stand p l e R s m args below meth c T locs cells slots) (hx : p.tables.exec = Jvm.exec) (hZ : Z.Warmed39 s.vm) (hown : s.vm.findClass own = some m.cls) (hy1 : y.name = "<init>")
    (w1 : (Cond.methodLink own index y).before a0 Z = true) (w2 : (Cond.instanceMethod y).before a0 Z = true) (w3 : (Cond.initialized y.cls).before a0 Z = true) (w4 : (Cond.code y bytes maxL none).before a0 Z = true)
    (hy : y.cls ≠ "java/lang/invoke/MethodHandle" ∧ y.cls ≠ "java/lang/invoke/VarHandle") {a : Addr} (hM : own_Ctr l Z y bytes maxL none [] rm rm.cells rm.slots (.ref a :: argsL).toArray h Q') (W : Nat)
    (hf : rm.frames + 1 ≤ R.frames) (hl : W + (maxL + 11) + rm.locals ≤ R.locals) (hc : cells + rm.cells ≤ R.cells) (hs : slots + rm.slots ≤ R.slots) (eT : T.heap = h)
    (hg : g.method = m) (hsize : g.locals.size = c.maxLocals) (hlen : ∀ sig, parseMethodDescriptor y.desc = some sig → argsL.length = sig.parameters.length) (hstack : g.stack = argsL.reverse ++ .ref a :: rest)
    (hW : 2 * g.monitorRoom + (rest.map fun v => v.category).sum ≤ W) (hd : decode c.code g.pc = .ok (.invokespecial index, 3))
    (k : ∀ v T' L, Stand p l e R s m args below meth c T' (locs ++ L) (cells + rm.cells) (slots + rm.slots) → Q' v T'.heap L → own_Goes p e below s kc ks Q T' { g with pc := g.pc + 3, stack := v.toList ++ rest }) : own_Goes p e below s kc ks Q T g := by
  obtain ⟨v, _, ⟨T', L', k', n'⟩, -, X', ⟨Lc, hQ, l1, y1, z1⟩, st⟩ := X.specialBack hx hy1 hown (mvT hZ w1) (mvT hZ w2) (mvT hZ w4) hy (backOf (W := W) hM hZ w4 w3 hf hl) hg hsize (Steps.refl _) hlen hstack hW hd (fun _ _ => ⟨rfl, eT, hc, hs⟩)
  dsimp only [Pt.U, Pt.locs, Pt.cells, Pt.slots] at X' l1 y1 z1 st hQ
  subst l1 y1 z1
  exact own_by (fun t kt => st.trans kt) (k v T' Lc X' hQ)
theorem own_callIN {host : String} (X : Stand p l e R s m args below meth c T locs cells slots) (hx : p.tables.exec = Jvm.exec) (hZ : Z.Warmed39 s.vm) (hown : s.vm.findClass own = some m.cls) (hy1 : y.name = "<init>")
    (w1 : (Cond.methodLinkNest own index y host).before a0 Z = true) (w2 : (Cond.instanceMethod y).before a0 Z = true) (w3 : (Cond.initialized y.cls).before a0 Z = true) (w4 : (Cond.code y bytes maxL none).before a0 Z = true)
    (hy : y.cls ≠ "java/lang/invoke/MethodHandle" ∧ y.cls ≠ "java/lang/invoke/VarHandle") {a : Addr} (hM : own_Ctr l Z y bytes maxL none [] rm rm.cells rm.slots (.ref a :: argsL).toArray h Q') (W : Nat)
    (hf : rm.frames + 1 ≤ R.frames) (hl : W + (maxL + 11) + rm.locals ≤ R.locals) (hc : cells + rm.cells ≤ R.cells) (hs : slots + rm.slots ≤ R.slots) (eT : T.heap = h)
    (hg : g.method = m) (hsize : g.locals.size = c.maxLocals) (hlen : ∀ sig, parseMethodDescriptor y.desc = some sig → argsL.length = sig.parameters.length) (hstack : g.stack = argsL.reverse ++ .ref a :: rest)
    (hW : 2 * g.monitorRoom + (rest.map fun v => v.category).sum ≤ W) (hd : decode c.code g.pc = .ok (.invokespecial index, 3))
    (k : ∀ v T' L, Stand p l e R s m args below meth c T' (locs ++ L) (cells + rm.cells) (slots + rm.slots) → Q' v T'.heap L → own_Goes p e below s kc ks Q T' { g with pc := g.pc + 3, stack := v.toList ++ rest }) : own_Goes p e below s kc ks Q T g := by
  obtain ⟨v, _, ⟨T', L', k', n'⟩, -, X', ⟨Lc, hQ, l1, y1, z1⟩, st⟩ := X.specialBackNest hx hy1 hown (Cond.methodLinkNest_wide hZ w1 :) (mvT hZ w2) (mvT hZ w4) hy (backOf (W := W) hM hZ w4 w3 hf hl) hg hsize (Steps.refl _) hlen hstack hW hd (fun _ _ => ⟨rfl, eT, hc, hs⟩)
  dsimp only [Pt.U, Pt.locs, Pt.cells, Pt.slots] at X' l1 y1 z1 st hQ
  subst l1 y1 z1
  exact own_by (fun t kt => st.trans kt) (k v T' Lc X' hQ)
theorem own_callV {C : String} (X : Stand p l e R s m args below meth c T locs cells slots) (hx : p.tables.exec = Jvm.exec) (hZ : Z.Warmed39 s.vm) (hown : s.vm.findClass own = some m.cls)
    (w1 : (Cond.methodLink own index y).before a0 Z = true) (w2 : (Cond.declares y).before a0 Z = true) (hnf : NotFace s y) (w3 : (Cond.selects C y z).before a0 Z = true) (w4 : (Cond.instanceMethod z).before a0 Z = true) (w5 : (Cond.code z bytes maxL ret).before a0 Z = true) (w6 : (Cond.initialized z.cls).before a0 Z = true)
    (hy : y.cls ≠ "java/lang/invoke/MethodHandle" ∧ y.cls ≠ "java/lang/invoke/VarHandle") {a : Addr} (E : Exa Z h a C) (hM : own_Ctr l Z z bytes maxL ret [] rm rm.cells rm.slots (.ref a :: argsL).toArray h Q') (W : Nat)
    (hf : rm.frames + 1 ≤ R.frames) (hl : W + (maxL + 11) + rm.locals ≤ R.locals) (hc : cells + rm.cells ≤ R.cells) (hs : slots + rm.slots ≤ R.slots) (eT : T.heap = h)
    (hg : g.method = m) (hsize : g.locals.size = c.maxLocals) (hlen : ∀ sig, parseMethodDescriptor y.desc = some sig → argsL.length = sig.parameters.length) (hstack : g.stack = argsL.reverse ++ .ref a :: rest)
    (hW : 2 * g.monitorRoom + (rest.map fun v => v.category).sum ≤ W) (hd : decode c.code g.pc = .ok (.invokevirtual index, 3))
    (k : ∀ v T' L, Stand p l e R s m args below meth c T' (locs ++ L) (cells + rm.cells) (slots + rm.slots) → Q' v T'.heap L → own_Goes p e below s kc ks Q T' { g with pc := g.pc + 3, stack := v.toList ++ rest }) : own_Goes p e below s kc ks Q T g := by
  obtain ⟨cq, kq, qa, qb, qc⟩ := isOf hZ eT E
  obtain ⟨v, _, ⟨T', L', k', n'⟩, -, X', ⟨Lc, hQ, l1, y1, z1⟩, st⟩ := X.virtualBack hx hown (mvT hZ w1) (mvT hZ w2) hnf (mvT hZ w3) (mvT hZ w4) hy (backOf (W := W) hM hZ w5 w6 hf hl) qa qc hg hsize (Steps.refl _) hlen hstack hW hd (fun _ _ => ⟨rfl, eT, hc, hs⟩)
  dsimp only [Pt.U, Pt.locs, Pt.cells, Pt.slots] at X' l1 y1 z1 st hQ
  subst l1 y1 z1
  exact own_by (fun t kt => st.trans kt) (k v T' Lc X' hQ)
theorem own_callP (X : Stand p l e R s m args below meth c T locs cells slots) (hx : p.tables.exec = Jvm.exec) (hZ : Z.Warmed39 s.vm) (hown : s.vm.findClass own = some m.cls)
    (w1 : (Cond.methodLink own index y).before a0 Z = true) (w2 : (Cond.instanceMethod y).before a0 Z = true) (w3 : (Cond.selects y.cls y y).before a0 Z = true) (w4 : (Cond.privateMethod y).before a0 Z = true) (w5 : (Cond.code y bytes maxL ret).before a0 Z = true) (w6 : (Cond.initialized y.cls).before a0 Z = true)
    (hy : y.cls ≠ "java/lang/invoke/MethodHandle" ∧ y.cls ≠ "java/lang/invoke/VarHandle") {a : Addr} {C : String} (E : Exa Z h a C) (hM : own_Ctr l Z y bytes maxL ret [] rm rm.cells rm.slots (.ref a :: argsL).toArray h Q') (W : Nat)
    (hf : rm.frames + 1 ≤ R.frames) (hl : W + (maxL + 11) + rm.locals ≤ R.locals) (hc : cells + rm.cells ≤ R.cells) (hs : slots + rm.slots ≤ R.slots) (eT : T.heap = h)
    (hg : g.method = m) (hsize : g.locals.size = c.maxLocals) (hlen : ∀ sig, parseMethodDescriptor y.desc = some sig → argsL.length = sig.parameters.length) (hstack : g.stack = argsL.reverse ++ .ref a :: rest)
    (hW : 2 * g.monitorRoom + (rest.map fun v => v.category).sum ≤ W) (hd : decode c.code g.pc = .ok (.invokevirtual index, 3))
    (k : ∀ v T' L, Stand p l e R s m args below meth c T' (locs ++ L) (cells + rm.cells) (slots + rm.slots) → Q' v T'.heap L → own_Goes p e below s kc ks Q T' { g with pc := g.pc + 3, stack := v.toList ++ rest }) : own_Goes p e below s kc ks Q T g := by
  obtain ⟨cq, q1, q2⟩ := E.cell
  obtain ⟨v, _, ⟨T', L', k', n'⟩, -, X', ⟨Lc, hQ, l1, y1, z1⟩, st⟩ := X.privateBack hx hown (mvT hZ w1) (mvT hZ w2) (mvT hZ w3) (Cond.privateMethod_at (mvP hZ w4 (args := #[]))) (mvT hZ w5) hy (backOf (W := W) hM hZ w5 w6 hf hl) hg hsize (Steps.refl _) (a := a) (by rw [eT]; exact q1) q2 hlen hstack hW hd (fun _ _ => ⟨rfl, eT, hc, hs⟩)
  dsimp only [Pt.U, Pt.locs, Pt.cells, Pt.slots] at X' l1 y1 z1 st hQ
  subst l1 y1 z1
  exact own_by (fun t kt => st.trans kt) (k v T' Lc X' hQ)
theorem own_callF {C : String} {count : Nat} (X : Stand p l e R s m args below meth c T locs cells slots) (hx : p.tables.exec = Jvm.exec) (hZ : Z.Warmed39 s.vm) (hown : s.vm.findClass own = some m.cls)
    (w1 : (Cond.methodLink own index y).before a0 Z = true) (w2 : (Cond.declares y).before a0 Z = true) (w2f : (Cond.interfaceMethod y.cls y.cls y.name y.desc).before a0 Z = true) (w3 : (Cond.selects C y z).before a0 Z = true) (w4 : (Cond.instanceMethod z).before a0 Z = true)
    (wp : (Cond.publicMethod z).before a0 Z = true) (wu : (Cond.unhidden C y.name y.desc).before a0 Z = true) (wk : (Cond.castable C y.cls).before a0 Z = true) (w5 : (Cond.code z bytes maxL ret).before a0 Z = true) (w6 : (Cond.initialized z.cls).before a0 Z = true)
    (hy : y.cls ≠ "java/lang/invoke/MethodHandle" ∧ y.cls ≠ "java/lang/invoke/VarHandle") {a : Addr} (E : Exa Z h a C) (hM : own_Ctr l Z z bytes maxL ret [] rm rm.cells rm.slots (.ref a :: argsL).toArray h Q') (W : Nat)
    (hf : rm.frames + 1 ≤ R.frames) (hl : W + (maxL + 11) + rm.locals ≤ R.locals) (hc : cells + rm.cells ≤ R.cells) (hs : slots + rm.slots ≤ R.slots) (eT : T.heap = h)
    (hg : g.method = m) (hsize : g.locals.size = c.maxLocals) (hlen : ∀ sig, parseMethodDescriptor y.desc = some sig → argsL.length = sig.parameters.length) (hstack : g.stack = argsL.reverse ++ .ref a :: rest)
    (hW : 2 * g.monitorRoom + (rest.map fun v => v.category).sum ≤ W) (hd : decode c.code g.pc = .ok (.invokeinterface index count, 5))
    (k : ∀ v T' L, Stand p l e R s m args below meth c T' (locs ++ L) (cells + rm.cells) (slots + rm.slots) → Q' v T'.heap L → own_Goes p e below s kc ks Q T' { g with pc := g.pc + 5, stack := v.toList ++ rest }) : own_Goes p e below s kc ks Q T g := by
  obtain ⟨cq, kq, qa, qb, qc⟩ := isOf hZ eT E
  have hface : ((Cond.interfaceMethod y.cls y.cls y.name y.desc).onTables && (Cond.interfaceMethod y.cls y.cls y.name y.desc).keepsFace) = true := by simp [Cond.onTables, Cond.keepsFace, Cond.keeps, Cond.steady, Cond.faceAtom, hy.1, hy.2]
  obtain ⟨v, _, ⟨T', L', k', n'⟩, -, X', ⟨Lc, hQ, l1, y1, z1⟩, st⟩ := X.interfaceBack hx hown (mvT hZ w1) (mvT hZ w2) (mvT hZ w2f hface) (mvT hZ w3) (mvT hZ w4) (mvT hZ wp) (mvT hZ wu) (mvT hZ wk) hy (backOf (W := W) hM hZ w5 w6 hf hl) qa qb qc hg hsize (Steps.refl _) hlen hstack hW hd (fun _ _ => ⟨rfl, eT, hc, hs⟩)
  dsimp only [Pt.U, Pt.locs, Pt.cells, Pt.slots] at X' l1 y1 z1 st hQ
  subst l1 y1 z1
  exact own_by (fun t kt => st.trans kt) (k v T' Lc X' hQ)
end OwnCalls
end OwnPrelude
theorem own_pn0 : plainName "java/util/AbstractMap" = true := by first | (simp [plainName, overriddenIn]; done) | decide +kernel
theorem own_d5_0 : decode jdk_71_method_1_code 0 = .ok (.aload_n 0, 1) := by decide +kernel
theorem own_d5_1 : decode jdk_71_method_1_code 1 = .ok (.invokespecial 1, 3) := by decide +kernel
theorem own_d5_4 : decode jdk_71_method_1_code 4 = .ok (.return_, 1) := by decide +kernel
def Q_own_am (Z : State) (r1 : Addr) (h0 : Heap) (n0 : Nat) (v : Option Value) (h : Heap) (L : List Loc) : Prop := v = none ∧ Fr n0 L ∧ h = h0
theorem own_ef_own_am (m : MethodId) (r1 : Addr) : entryFrame m #[(.ref r1)] 1 = mkF m 0 #[.val (.ref r1)] [] := by first | (simp [entryFrame, mkF, argsToLocals, Value.category]; done) | rfl
set_option maxRecDepth 65536 in
set_option maxHeartbeats 40000000 in
theorem own_am (l : Launch) (Z : State) (a0 : Array Value) (hw : ∀ d ∈ tables_1, d.before a0 Z = true) (ws : List Jvm.Cond) (r1 : Addr) (h0 : Heap) (n0 : Nat) (Z0 : n0 ≤ h0.size)  :
    own_Ctr l Z (⟨"java/util/AbstractMap", "<init>", "()V"⟩ : MethodName) jdk_71_method_1_code 1 none ws ({ frames := 1, cells := 0, slots := 0, locals := 12 } : Room) (({ frames := 1, cells := 0, slots := 0, locals := 12 } : Room)).cells (({ frames := 1, cells := 0, slots := 0, locals := 12 } : Room)).slots #[(.ref r1)] h0 (Q_own_am Z r1 h0 n0) := by
  refine own_enter (plainFor_of_name own_pn0) ?_
  intro p e s m below meth c s₁ X0 hx hZ hby hml hown hnm hlk hret e0
  have N0 := Fr.nil n0
  refine own_cast (own_ef_own_am m r1) ?_
  refine own_by (g' := (mkF m 1 #[.val (.ref r1)] [(.ref r1)])) (fun t k => XS.aloadN X0.here hx rfl (hb hby own_d5_0) rfl rfl k) ?_
  obtain ⟨T101, X101, e101, st101⟩ := initO X0 hx hZ hown (hw _ (List.mem_of_getElem? (i := 26) rfl)) (hw _ (List.mem_of_getElem? (i := 12) rfl)) (hw _ (List.mem_of_getElem? (i := 13) rfl)) e0 (g := (mkF m 1 #[.val (.ref r1)] [(.ref r1)])) rfl (by rw [hml]; rfl) rfl (hb hby own_d5_1) (by decide) (W := 0) (by show 2 * 0 + _ ≤ _; exact Nat.le_of_eq rfl) (by decide)
  refine own_by (g' := (mkF m 4 #[.val (.ref r1)] [])) st101 ?_
  refine own_retV X101 hx hlk hret (hb hby own_d5_4) (by decide) (by decide) ?_
  exact ⟨rfl, N0, e101⟩
theorem own_pn1 : plainName "java/util/IdentityHashMap" = true := by first | (simp [plainName, overriddenIn]; done) | decide +kernel
theorem own_d6_0 : decode jdk_2581_method_6_code 0 = .ok (.aload_n 0, 1) := by decide +kernel
theorem own_d6_1 : decode jdk_2581_method_6_code 1 = .ok (.iconst 2, 1) := by decide +kernel
theorem own_d6_2 : decode jdk_2581_method_6_code 2 = .ok (.iload_n 1, 1) := by decide +kernel
theorem own_d6_3 : decode jdk_2581_method_6_code 3 = .ok (.imul, 1) := by decide +kernel
theorem own_d6_4 : decode jdk_2581_method_6_code 4 = .ok (.anewarray 49, 3) := by decide +kernel
theorem own_ad_java_lang_Object : "[" ++ (FieldType.object "java/lang/Object").toString = "[Ljava/lang/Object;" := by decide +kernel
theorem own_d6_7 : decode jdk_2581_method_6_code 7 = .ok (.putfield 51, 3) := by decide +kernel
theorem own_d6_10 : decode jdk_2581_method_6_code 10 = .ok (.return_, 1) := by decide +kernel
def Q_own_it (Z : State) (r1 : Addr) (h0 : Heap) (n0 : Nat) (v : Option Value) (h : Heap) (L : List Loc) : Prop := ∃ (bt : Addr), ∃ (kt : ClassId), v = none ∧ Fr n0 L ∧ Keep h0 h [r1] ∧ h0.size ≤ bt ∧ Exa Z h r1 "java/util/IdentityHashMap" ∧ Fld Z h r1 "java/util/IdentityHashMap" "table" "[Ljava/lang/Object;" (.ref bt) ∧ Arv Z h bt kt (.object "java/lang/Object") (64 : Int32) [] .null
theorem own_ef_own_it (m : MethodId) (r1 : Addr) : entryFrame m #[(.ref r1), (.int (32 : Int32))] 2 = mkF m 0 #[.val (.ref r1), .val (.int (32 : Int32))] [] := by first | (simp [entryFrame, mkF, argsToLocals, Value.category]; done) | rfl
set_option maxRecDepth 65536 in
set_option maxHeartbeats 40000000 in
theorem own_it (l : Launch) (Z : State) (a0 : Array Value) (hw : ∀ d ∈ tables_1, d.before a0 Z = true) (ws : List Jvm.Cond) (r1 : Addr) (h0 : Heap) (n0 : Nat) (Z0 : n0 ≤ h0.size) (E1 : Exa Z h0 r1 "java/util/IdentityHashMap") (F1 : Fld Z h0 r1 "java/util/IdentityHashMap" "table" "[Ljava/lang/Object;" .null) (g1 : n0 ≤ r1) :
    own_Ctr l Z (⟨"java/util/IdentityHashMap", "init", "(I)V"⟩ : MethodName) jdk_2581_method_6_code 2 none ws ({ frames := 0, cells := 1, slots := 64, locals := 0 } : Room) (({ frames := 0, cells := 1, slots := 64, locals := 0 } : Room)).cells (({ frames := 0, cells := 1, slots := 64, locals := 0 } : Room)).slots #[(.ref r1), (.int (32 : Int32))] h0 (Q_own_it Z r1 h0 n0) := by
  refine own_enter (plainFor_of_name own_pn1) ?_
  intro p e s m below meth c s₁ X0 hx hZ hby hml hown hnm hlk hret e0
  have N0 := Fr.nil n0
  refine own_cast (own_ef_own_it m r1) ?_
  refine own_by (g' := (mkF m 1 #[.val (.ref r1), .val (.int (32 : Int32))] [(.ref r1)])) (fun t k => XS.aloadN X0.here hx rfl (hb hby own_d6_0) rfl rfl k) ?_
  refine own_by (g' := (mkF m 2 #[.val (.ref r1), .val (.int (32 : Int32))] [(.int (2 : Int32)), (.ref r1)])) (fun t k => XS.iconst X0.here hx rfl (hb hby own_d6_1) k) ?_
  refine own_by (g' := (mkF m 3 #[.val (.ref r1), .val (.int (32 : Int32))] [(.int (32 : Int32)), (.int (2 : Int32)), (.ref r1)])) (fun t k => XS.iloadN X0.here hx rfl (hb hby own_d6_2) rfl k) ?_
  refine own_by (g' := (mkF m 4 #[.val (.ref r1), .val (.int (32 : Int32))] [(.int (64 : Int32)), (.ref r1)])) (fun t k => XS.imul X0.here hx rfl (hb hby own_d6_3) rfl k) ?_
  obtain ⟨T101, h101, k101, X101, e101, E101, A101, Y101, O101, st101⟩ := newRE X0 hx hZ hown (hw _ (List.mem_of_getElem? (i := 32) rfl)) (hw _ (List.mem_of_getElem? (i := 33) rfl)) e0 (g := (mkF m 4 #[.val (.ref r1), .val (.int (32 : Int32))] [(.int (64 : Int32)), (.ref r1)])) rfl (hb hby own_d6_4) rfl (by decide) (cap := 64) (by decide) (by decide) (by decide) (by decide) (ad := "[Ljava/lang/Object;") own_ad_java_lang_Object
  obtain ⟨b101, g101⟩ : ∃ z, z = h0.size := ⟨_, rfl⟩
  rw [← g101] at A101 Y101 st101
  have sz_b101 : h0.size ≤ b101 := Nat.le_trans (Nat.le_refl _) (Nat.le_of_eq g101.symm)
  have g_b101 : n0 ≤ b101 := Nat.le_trans Z0 sz_b101
  have V101 : Arv Z h101 b101 k101 (.object "java/lang/Object") (64 : Int32) [] .null := Arv.new A101 (by decide)
  refine own_by (g' := (mkF m 7 #[.val (.ref r1), .val (.int (32 : Int32))] [(.ref b101), (.ref r1)])) st101 ?_
  have f102 := (F1.ext E101)
  have f103 := (E1.ext E101)
  obtain ⟨T104, h104, X104, e104, W104, st104⟩ := putF X101 hx hZ hown (host := "") (Or.inl (hw _ (List.mem_of_getElem? (i := 34) rfl))) Via.refl e101 f102 f103 (Or.inl (hw _ (List.mem_of_getElem? (i := 35) rfl))) (hw _ (List.mem_of_getElem? (i := 15) rfl)) (ty := (.array (.object "java/lang/Object"))) (by decide) rfl rfl (g := (mkF m 7 #[.val (.ref r1), .val (.int (32 : Int32))] [(.ref b101), (.ref r1)])) rfl rfl (hb hby own_d6_7)
  have f105 := f102.same W104
  have N104 := Fr.snoc X104 N0 g1
  refine own_by (g' := (mkF m 10 #[.val (.ref r1), .val (.int (32 : Int32))] [])) st104 ?_
  have f106 := (f103.wr W104)
  have f107 := (V101.other W104 (Ne.symm (Nat.ne_of_lt (Nat.lt_of_lt_of_le (Nat.lt_of_lt_of_le E1.lt (Nat.le_refl _)) (Nat.le_of_eq g101.symm)))))
  refine own_retV X104 hx hlk hret (hb hby own_d6_10) (by decide) (by decide) ?_
  rw [e104]
  exact ⟨b101, k101, rfl, N104, (((Keep.refl h0 [r1]).ext E101).wr W104 (Or.inl (List.mem_of_getElem? (i := 0) rfl))), sz_b101, f106, f105, f107⟩
theorem own_d4_0 : decode jdk_2581_method_3_code 0 = .ok (.aload_n 0, 1) := by decide +kernel
theorem own_d4_1 : decode jdk_2581_method_3_code 1 = .ok (.invokespecial 7, 3) := by decide +kernel
theorem own_pd0 : parseMethodDescriptor "()V" = some ⟨[], none⟩ := by decide +kernel
theorem own_d4_4 : decode jdk_2581_method_3_code 4 = .ok (.aload_n 0, 1) := by decide +kernel
theorem own_d4_5 : decode jdk_2581_method_3_code 5 = .ok (.bipush 32, 2) := by decide +kernel
theorem own_d4_7 : decode jdk_2581_method_3_code 7 = .ok (.invokevirtual 13, 3) := by decide +kernel
theorem own_pd1 : parseMethodDescriptor "(I)V" = some ⟨[.int], none⟩ := by decide +kernel
theorem own_d4_10 : decode jdk_2581_method_3_code 10 = .ok (.return_, 1) := by decide +kernel
def Q_own_im (Z : State) (r1 : Addr) (h0 : Heap) (n0 : Nat) (v : Option Value) (h : Heap) (L : List Loc) : Prop := ∃ (bt : Addr), ∃ (kt : ClassId), v = none ∧ Fr n0 L ∧ Keep h0 h [r1] ∧ h0.size ≤ bt ∧ Exa Z h r1 "java/util/IdentityHashMap" ∧ Fld Z h r1 "java/util/IdentityHashMap" "table" "[Ljava/lang/Object;" (.ref bt) ∧ Arv Z h bt kt (.object "java/lang/Object") (64 : Int32) [] .null
theorem own_ef_own_im (m : MethodId) (r1 : Addr) : entryFrame m #[(.ref r1)] 1 = mkF m 0 #[.val (.ref r1)] [] := by first | (simp [entryFrame, mkF, argsToLocals, Value.category]; done) | rfl
set_option maxRecDepth 65536 in
set_option maxHeartbeats 40000000 in
theorem own_im (l : Launch) (Z : State) (a0 : Array Value) (hw : ∀ d ∈ tables_1, d.before a0 Z = true) (ws : List Jvm.Cond) (r1 : Addr) (h0 : Heap) (n0 : Nat) (Z0 : n0 ≤ h0.size) (E1 : Exa Z h0 r1 "java/util/IdentityHashMap") (F1 : Fld Z h0 r1 "java/util/IdentityHashMap" "table" "[Ljava/lang/Object;" .null) (g1 : n0 ≤ r1) :
    own_Ctr l Z (⟨"java/util/IdentityHashMap", "<init>", "()V"⟩ : MethodName) jdk_2581_method_3_code 1 none ws ({ frames := 2, cells := 1, slots := 64, locals := 24 } : Room) (({ frames := 2, cells := 1, slots := 64, locals := 24 } : Room)).cells (({ frames := 2, cells := 1, slots := 64, locals := 24 } : Room)).slots #[(.ref r1)] h0 (Q_own_im Z r1 h0 n0) := by
  refine own_enter (plainFor_of_name own_pn1) ?_
  intro p e s m below meth c s₁ X0 hx hZ hby hml hown hnm hlk hret e0
  have N0 := Fr.nil n0
  refine own_cast (own_ef_own_im m r1) ?_
  refine own_by (g' := (mkF m 1 #[.val (.ref r1)] [(.ref r1)])) (fun t k => XS.aloadN X0.here hx rfl (hb hby own_d4_0) rfl rfl k) ?_
  refine own_callI X0 hx hZ hown rfl (hw _ (List.mem_of_getElem? (i := 20) rfl)) (hw _ (List.mem_of_getElem? (i := 21) rfl)) (hw _ (List.mem_of_getElem? (i := 24) rfl)) (hw _ (List.mem_of_getElem? (i := 25) rfl)) (by decide) (a := r1) (own_am l Z a0 hw [] (r1) h0 n0 Z0 ) 0 (by decide) (by decide) (by decide) (by decide) e0 (g := (mkF m 1 #[.val (.ref r1)] [(.ref r1)])) rfl (by rw [hml]; rfl) (argsL := []) (rest := []) (lenOf own_pd0 rfl) rfl (by show 2 * 0 + _ ≤ _; exact Nat.le_of_eq rfl) (hb hby own_d4_1) ?_
  intro v101 T101 L101 X101 q101
  obtain ⟨rfl, N101q, e101⟩ := q101
  have N101 := Fr.app N0 N101q
  show own_Goes p e below s _ _ _ T101 (mkF m 4 #[.val (.ref r1)] [])
  refine own_by (g' := (mkF m 5 #[.val (.ref r1)] [(.ref r1)])) (fun t k => XS.aloadN X101.here hx rfl (hb hby own_d4_4) rfl rfl k) ?_
  refine own_by (g' := (mkF m 7 #[.val (.ref r1)] [(.int (32 : Int32)), (.ref r1)])) (fun t k => XS.bipush X101.here hx rfl (hb hby own_d4_5) k) ?_
  refine own_callP X101 hx hZ hown (hw _ (List.mem_of_getElem? (i := 27) rfl)) (hw _ (List.mem_of_getElem? (i := 28) rfl)) (hw _ (List.mem_of_getElem? (i := 30) rfl)) (hw _ (List.mem_of_getElem? (i := 29) rfl)) (hw _ (List.mem_of_getElem? (i := 31) rfl)) (hw _ (List.mem_of_getElem? (i := 16) rfl)) (by decide) (a := r1) E1 (own_it l Z a0 hw [] (r1) h0 n0 Z0 E1 F1 g1) 0 (by decide) (by decide) (by decide) (by decide) e101 (g := (mkF m 7 #[.val (.ref r1)] [(.int (32 : Int32)), (.ref r1)])) rfl (by rw [hml]; rfl) (argsL := [(.int (32 : Int32))]) (rest := []) (lenOf own_pd1 rfl) rfl (by show 2 * 0 + _ ≤ _; exact Nat.le_of_eq rfl) (hb hby own_d4_7) ?_
  intro v102 T102 L102 X102 q102
  obtain ⟨bt102, kt102, rfl, N102q, K102, f103, f104, f105, f106⟩ := q102
  have N102 := Fr.app N101 N102q
  show own_Goes p e below s _ _ _ T102 (mkF m 10 #[.val (.ref r1)] [])
  refine own_retV X102 hx hlk hret (hb hby own_d4_10) (by decide) (by decide) ?_
  exact ⟨bt102, kt102, rfl, N102, ((Keep.refl h0 [r1]).trans K102 (allS (Or.inl (List.mem_of_getElem? (i := 0) rfl)) all0)), (Nat.le_trans (Nat.le_refl _) f103), f104, f105, f106⟩
theorem own_pn2 : plainName "com/example/purlin/purlin/framework/ServiceUse" = true := by first | (simp [plainName, overriddenIn]; done) | decide +kernel
theorem own_d2_0 : decode prog_4_method_1_code 0 = .ok (.aload_n 0, 1) := by decide +kernel
theorem own_d2_1 : decode prog_4_method_1_code 1 = .ok (.invokespecial 1, 3) := by decide +kernel
theorem own_d2_4 : decode prog_4_method_1_code 4 = .ok (.aload_n 0, 1) := by decide +kernel
theorem own_d2_5 : decode prog_4_method_1_code 5 = .ok (.new 7, 3) := by decide +kernel
theorem own_d2_8 : decode prog_4_method_1_code 8 = .ok (.dup, 1) := by decide +kernel
theorem own_d2_9 : decode prog_4_method_1_code 9 = .ok (.invokespecial 9, 3) := by decide +kernel
theorem own_d2_12 : decode prog_4_method_1_code 12 = .ok (.putfield 10, 3) := by decide +kernel
theorem own_d2_15 : decode prog_4_method_1_code 15 = .ok (.return_, 1) := by decide +kernel
def Q_own_si (Z : State) (r1 : Addr) (h0 : Heap) (n0 : Nat) (v : Option Value) (h : Heap) (L : List Loc) : Prop := ∃ (bm : Addr), v = none ∧ Fr n0 L ∧ Keep h0 h [r1] ∧ Exa Z h r1 "com/example/purlin/purlin/framework/ServiceUse" ∧ Fld Z h r1 "com/example/purlin/purlin/framework/ServiceUse" "prototypes" "Ljava/util/Map;" (.ref bm) ∧ Fld Z h r1 "com/example/purlin/purlin/framework/ServiceUse" "object" "Ljava/lang/Object;" .null ∧ Fld Z h r1 "com/example/purlin/purlin/framework/ServiceUse" "count" "I" (.int (0 : Int32))
theorem own_ef_own_si (m : MethodId) (r1 : Addr) : entryFrame m #[(.ref r1)] 1 = mkF m 0 #[.val (.ref r1)] [] := by first | (simp [entryFrame, mkF, argsToLocals, Value.category]; done) | rfl
set_option maxRecDepth 65536 in
set_option maxHeartbeats 40000000 in
theorem own_si (l : Launch) (Z : State) (a0 : Array Value) (hw : ∀ d ∈ tables_1, d.before a0 Z = true) (ws : List Jvm.Cond) (r1 : Addr) (h0 : Heap) (n0 : Nat) (Z0 : n0 ≤ h0.size) (E1 : Exa Z h0 r1 "com/example/purlin/purlin/framework/ServiceUse") (F1 : Fld Z h0 r1 "com/example/purlin/purlin/framework/ServiceUse" "prototypes" "Ljava/util/Map;" .null) (F2 : Fld Z h0 r1 "com/example/purlin/purlin/framework/ServiceUse" "object" "Ljava/lang/Object;" .null) (F3 : Fld Z h0 r1 "com/example/purlin/purlin/framework/ServiceUse" "count" "I" (.int (0 : Int32))) (g1 : n0 ≤ r1) :
    own_Ctr l Z (⟨"com/example/purlin/purlin/framework/ServiceUse", "<init>", "()V"⟩ : MethodName) prog_4_method_1_code 1 none ws ({ frames := 3, cells := 2, slots := 70, locals := 38 } : Room) (({ frames := 3, cells := 2, slots := 70, locals := 38 } : Room)).cells (({ frames := 3, cells := 2, slots := 70, locals := 38 } : Room)).slots #[(.ref r1)] h0 (Q_own_si Z r1 h0 n0) := by
  refine own_enter (plainFor_of_name own_pn2) ?_
  intro p e s m below meth c s₁ X0 hx hZ hby hml hown hnm hlk hret e0
  have N0 := Fr.nil n0
  refine own_cast (own_ef_own_si m r1) ?_
  refine own_by (g' := (mkF m 1 #[.val (.ref r1)] [(.ref r1)])) (fun t k => XS.aloadN X0.here hx rfl (hb hby own_d2_0) rfl rfl k) ?_
  obtain ⟨T101, X101, e101, st101⟩ := initO X0 hx hZ hown (hw _ (List.mem_of_getElem? (i := 11) rfl)) (hw _ (List.mem_of_getElem? (i := 12) rfl)) (hw _ (List.mem_of_getElem? (i := 13) rfl)) e0 (g := (mkF m 1 #[.val (.ref r1)] [(.ref r1)])) rfl (by rw [hml]; rfl) rfl (hb hby own_d2_1) (by decide) (W := 0) (by show 2 * 0 + _ ≤ _; exact Nat.le_of_eq rfl) (by decide)
  refine own_by (g' := (mkF m 4 #[.val (.ref r1)] [])) st101 ?_
  refine own_by (g' := (mkF m 5 #[.val (.ref r1)] [(.ref r1)])) (fun t k => XS.aloadN X101.here hx rfl (hb hby own_d2_4) rfl rfl k) ?_
  obtain ⟨T102, h102, X102, e102, E102, A102, D102, U102, st102⟩ := newO X101 hx hZ hown (hw _ (List.mem_of_getElem? (i := 14) rfl)) (hw _ (List.mem_of_getElem? (i := 15) rfl)) (hw _ (List.mem_of_getElem? (i := 16) rfl)) e101 (g := (mkF m 5 #[.val (.ref r1)] [(.ref r1)])) rfl (hb hby own_d2_5) (by decide) (by decide)
  obtain ⟨b102, g102⟩ : ∃ z, z = h0.size := ⟨_, rfl⟩
  rw [← g102] at A102 D102 U102 st102
  have sz_b102 : h0.size ≤ b102 := Nat.le_trans (Nat.le_refl _) (Nat.le_of_eq g102.symm)
  have g_b102 : n0 ≤ b102 := Nat.le_trans Z0 sz_b102
  have f103 : Fld Z h102 b102 "java/util/IdentityHashMap" "table" "[Ljava/lang/Object;" .null := D102 (Or.inl (hw _ (List.mem_of_getElem? (i := 35) rfl))) (ty := (.array (.object "java/lang/Object"))) (by decide)
  refine own_by (g' := (mkF m 8 #[.val (.ref r1)] [(.ref b102), (.ref r1)])) st102 ?_
  refine own_by (g' := (mkF m 9 #[.val (.ref r1)] [(.ref b102), (.ref b102), (.ref r1)])) (fun t k => XS.dup X102.here hx rfl (hb hby own_d2_8) rfl rfl k) ?_
  refine own_callI X102 hx hZ hown rfl (hw _ (List.mem_of_getElem? (i := 17) rfl)) (hw _ (List.mem_of_getElem? (i := 18) rfl)) (hw _ (List.mem_of_getElem? (i := 16) rfl)) (hw _ (List.mem_of_getElem? (i := 19) rfl)) (by decide) (a := b102) (own_im l Z a0 hw [] (b102) h102 n0 (Nat.le_trans Z0 E102.1) A102 f103 g_b102) 2 (by decide) (by decide) (by decide) (by decide) e102 (g := (mkF m 9 #[.val (.ref r1)] [(.ref b102), (.ref b102), (.ref r1)])) rfl (by rw [hml]; rfl) (argsL := []) (rest := [(.ref b102), (.ref r1)]) (lenOf own_pd0 rfl) rfl (by show 2 * 0 + _ ≤ _; exact Nat.le_of_eq rfl) (hb hby own_d2_9) ?_
  intro v104 T104 L104 X104 q104
  obtain ⟨bt104, kt104, rfl, N104q, K104, f105, f106, f107, f108⟩ := q104
  have N104 := Fr.app N0 N104q
  show own_Goes p e below s _ _ _ T104 (mkF m 12 #[.val (.ref r1)] [(.ref b102), (.ref r1)])
  have f109 := ((F1.ext E102).keep K104 (ninS (Nat.ne_of_lt (Nat.lt_of_lt_of_le (Nat.lt_of_lt_of_le E1.lt (Nat.le_refl _)) (Nat.le_of_eq g102.symm))) nin0))
  have f110 := ((E1.ext E102).keep K104)
  obtain ⟨T111, h111, X111, e111, W111, st111⟩ := putF X104 hx hZ hown (host := "") (Or.inl (hw _ (List.mem_of_getElem? (i := 36) rfl))) Via.refl rfl f109 f110 (Or.inr ⟨(hw _ (List.mem_of_getElem? (i := 37) rfl)), rfl, hnm⟩) (hw _ (List.mem_of_getElem? (i := 6) rfl)) (ty := (.object "java/util/Map")) (by decide) rfl rfl (g := (mkF m 12 #[.val (.ref r1)] [(.ref b102), (.ref r1)])) rfl rfl (hb hby own_d2_12)
  have f112 := f109.same W111
  have N111 := Fr.snoc X111 N104 g1
  refine own_by (g' := (mkF m 15 #[.val (.ref r1)] [])) st111 ?_
  have f113 := (f110.wr W111)
  have f114 := (((F2.ext E102).keep K104 (ninS (Nat.ne_of_lt (Nat.lt_of_lt_of_le (Nat.lt_of_lt_of_le E1.lt (Nat.le_refl _)) (Nat.le_of_eq g102.symm))) nin0)).other W111 (Or.inr (slot_ne (Or.inl (hw _ (List.mem_of_getElem? (i := 44) rfl))) (Or.inr (hw _ (List.mem_of_getElem? (i := 37) rfl))) (by decide) (t := (.object "java/lang/Object")) (t' := (.object "java/util/Map")) (by decide) (by decide))))
  have f115 := (((F3.ext E102).keep K104 (ninS (Nat.ne_of_lt (Nat.lt_of_lt_of_le (Nat.lt_of_lt_of_le E1.lt (Nat.le_refl _)) (Nat.le_of_eq g102.symm))) nin0)).other W111 (Or.inr (slot_ne (Or.inl (hw _ (List.mem_of_getElem? (i := 51) rfl))) (Or.inr (hw _ (List.mem_of_getElem? (i := 37) rfl))) (by decide) (t := .int) (t' := (.object "java/util/Map")) (by decide) (by decide))))
  refine own_retV X111 hx hlk hret (hb hby own_d2_15) (by decide) (by decide) ?_
  rw [e111]
  exact ⟨b102, rfl, N111, ((((Keep.refl h0 [r1]).ext E102).trans K104 (allS (Or.inr sz_b102) all0)).wr W111 (Or.inl (List.mem_of_getElem? (i := 0) rfl))), f113, f112, f114, f115⟩
theorem own_d7_0 : decode prog_4_method_2_code 0 = .ok (.aload_n 0, 1) := by decide +kernel
theorem own_d7_1 : decode prog_4_method_2_code 1 = .ok (.getfield 16, 3) := by decide +kernel
theorem own_d7_4 : decode prog_4_method_2_code 4 = .ok (.areturn, 1) := by decide +kernel
def Q_own_ob (Z : State) (r1 : Addr) (w1 : Value) (h0 : Heap) (n0 : Nat) (v : Option Value) (h : Heap) (L : List Loc) : Prop := v = some w1 ∧ Fr n0 L ∧ h = h0
theorem own_ef_own_ob (m : MethodId) (r1 : Addr) : entryFrame m #[(.ref r1)] 1 = mkF m 0 #[.val (.ref r1)] [] := by first | (simp [entryFrame, mkF, argsToLocals, Value.category]; done) | rfl
set_option maxRecDepth 65536 in
set_option maxHeartbeats 40000000 in
theorem own_ob (l : Launch) (Z : State) (a0 : Array Value) (hw : ∀ d ∈ tables_1, d.before a0 Z = true) (ws : List Jvm.Cond) (r1 : Addr) (w1 : Value) (h0 : Heap) (n0 : Nat) (Z0 : n0 ≤ h0.size) (F1 : Fld Z h0 r1 "com/example/purlin/purlin/framework/ServiceUse" "object" "Ljava/lang/Object;" w1) (hr1 : (w1).isRef = true) :
    own_Ctr l Z (⟨"com/example/purlin/purlin/framework/ServiceUse", "object", "()Ljava/lang/Object;"⟩ : MethodName) prog_4_method_2_code 1 (some (.object "java/lang/Object")) ws ({ frames := 0, cells := 0, slots := 0, locals := 0 } : Room) (({ frames := 0, cells := 0, slots := 0, locals := 0 } : Room)).cells (({ frames := 0, cells := 0, slots := 0, locals := 0 } : Room)).slots #[(.ref r1)] h0 (Q_own_ob Z r1 w1 h0 n0) := by
  refine own_enter (plainFor_of_name own_pn2) ?_
  intro p e s m below meth c s₁ X0 hx hZ hby hml hown hnm hlk hret e0
  have N0 := Fr.nil n0
  refine own_cast (own_ef_own_ob m r1) ?_
  refine own_by (g' := (mkF m 1 #[.val (.ref r1)] [(.ref r1)])) (fun t k => XS.aloadN X0.here hx rfl (hb hby own_d7_0) rfl rfl k) ?_
  obtain ⟨T101, X101, e101, st101⟩ := getF X0 hx hZ hown (host := "") (Or.inl (hw _ (List.mem_of_getElem? (i := 43) rfl))) Via.refl e0 F1 (g := (mkF m 1 #[.val (.ref r1)] [(.ref r1)])) rfl rfl (hb hby own_d7_1)
  refine own_by (g' := (mkF m 4 #[.val (.ref r1)] [w1])) st101 ?_
  refine own_retA X101 hx hlk hret rfl hr1 (hb hby own_d7_4) (by decide) (by decide) ?_
  exact ⟨rfl, N0, e101⟩
theorem own_d8_0 : decode prog_4_method_7_code 0 = .ok (.aload_n 0, 1) := by decide +kernel
theorem own_d8_1 : decode prog_4_method_7_code 1 = .ok (.getfield 24, 3) := by decide +kernel
theorem own_d8_4 : decode prog_4_method_7_code 4 = .ok (.ifCond .le 7, 3) := by decide +kernel
theorem own_d8_7 : decode prog_4_method_7_code 7 = .ok (.iconst 1, 1) := by decide +kernel
theorem own_d8_8 : decode prog_4_method_7_code 8 = .ok (.goto 4, 3) := by decide +kernel
theorem own_d8_12 : decode prog_4_method_7_code 12 = .ok (.ireturn, 1) := by decide +kernel
def Q_own_ic1 (Z : State) (r1 : Addr) (u1 : Int32) (h0 : Heap) (n0 : Nat) (v : Option Value) (h : Heap) (L : List Loc) : Prop := v = some (.int (1 : Int32)) ∧ Fr n0 L ∧ h = h0
theorem own_ef_own_ic1 (m : MethodId) (r1 : Addr) : entryFrame m #[(.ref r1)] 1 = mkF m 0 #[.val (.ref r1)] [] := by first | (simp [entryFrame, mkF, argsToLocals, Value.category]; done) | rfl
set_option maxRecDepth 65536 in
set_option maxHeartbeats 40000000 in
theorem own_ic1 (l : Launch) (Z : State) (a0 : Array Value) (hw : ∀ d ∈ tables_1, d.before a0 Z = true) (ws : List Jvm.Cond) (r1 : Addr) (u1 : Int32) (h0 : Heap) (n0 : Nat) (Z0 : n0 ≤ h0.size) (F1 : Fld Z h0 r1 "com/example/purlin/purlin/framework/ServiceUse" "count" "I" (.int u1)) (hp : (0 : Int32) < u1) :
    own_Ctr l Z (⟨"com/example/purlin/purlin/framework/ServiceUse", "isCounted", "()Z"⟩ : MethodName) prog_4_method_7_code 1 (some .boolean) ws ({ frames := 0, cells := 0, slots := 0, locals := 0 } : Room) (({ frames := 0, cells := 0, slots := 0, locals := 0 } : Room)).cells (({ frames := 0, cells := 0, slots := 0, locals := 0 } : Room)).slots #[(.ref r1)] h0 (Q_own_ic1 Z r1 u1 h0 n0) := by
  refine own_enter (plainFor_of_name own_pn2) ?_
  intro p e s m below meth c s₁ X0 hx hZ hby hml hown hnm hlk hret e0
  have N0 := Fr.nil n0
  refine own_cast (own_ef_own_ic1 m r1) ?_
  refine own_by (g' := (mkF m 1 #[.val (.ref r1)] [(.ref r1)])) (fun t k => XS.aloadN X0.here hx rfl (hb hby own_d8_0) rfl rfl k) ?_
  obtain ⟨T101, X101, e101, st101⟩ := getF X0 hx hZ hown (host := "") (Or.inl (hw _ (List.mem_of_getElem? (i := 50) rfl))) Via.refl e0 F1 (g := (mkF m 1 #[.val (.ref r1)] [(.ref r1)])) rfl rfl (hb hby own_d8_1)
  refine own_by (g' := (mkF m 4 #[.val (.ref r1)] [(.int u1)])) st101 ?_
  refine own_by (g' := (mkF m 7 #[.val (.ref r1)] [])) (fun t k => XS.ifNo X101.here hx rfl (hb hby own_d8_4) rfl ((if0 _ _).trans (tlt hp).2.2.2) k) ?_
  refine own_by (g' := (mkF m 8 #[.val (.ref r1)] [(.int (1 : Int32))])) (fun t k => XS.iconst X101.here hx rfl (hb hby own_d8_7) k) ?_
  refine own_by (g' := (mkF m 12 #[.val (.ref r1)] [(.int (1 : Int32))])) (fun t k => XS.goto X101.here hx rfl (pc0 := 8) (pc' := 12) rfl (hb hby own_d8_8) (by decide) (by decide) k) ?_
  refine own_retN X101 hx hlk hret (t := .boolean) (by simp) (hb hby own_d8_12) (by decide) (by decide) ?_
  exact ⟨rfl, N0, e101⟩
theorem own_d8_11 : decode prog_4_method_7_code 11 = .ok (.iconst 0, 1) := by decide +kernel
def Q_own_ic0 (Z : State) (r1 : Addr) (u1 : Int32) (h0 : Heap) (n0 : Nat) (v : Option Value) (h : Heap) (L : List Loc) : Prop := v = some (.int (0 : Int32)) ∧ Fr n0 L ∧ h = h0
theorem own_ef_own_ic0 (m : MethodId) (r1 : Addr) : entryFrame m #[(.ref r1)] 1 = mkF m 0 #[.val (.ref r1)] [] := by first | (simp [entryFrame, mkF, argsToLocals, Value.category]; done) | rfl
set_option maxRecDepth 65536 in
set_option maxHeartbeats 40000000 in
theorem own_ic0 (l : Launch) (Z : State) (a0 : Array Value) (hw : ∀ d ∈ tables_1, d.before a0 Z = true) (ws : List Jvm.Cond) (r1 : Addr) (u1 : Int32) (h0 : Heap) (n0 : Nat) (Z0 : n0 ≤ h0.size) (F1 : Fld Z h0 r1 "com/example/purlin/purlin/framework/ServiceUse" "count" "I" (.int u1)) (hp : ¬ (0 : Int32) < u1) :
    own_Ctr l Z (⟨"com/example/purlin/purlin/framework/ServiceUse", "isCounted", "()Z"⟩ : MethodName) prog_4_method_7_code 1 (some .boolean) ws ({ frames := 0, cells := 0, slots := 0, locals := 0 } : Room) (({ frames := 0, cells := 0, slots := 0, locals := 0 } : Room)).cells (({ frames := 0, cells := 0, slots := 0, locals := 0 } : Room)).slots #[(.ref r1)] h0 (Q_own_ic0 Z r1 u1 h0 n0) := by
  refine own_enter (plainFor_of_name own_pn2) ?_
  intro p e s m below meth c s₁ X0 hx hZ hby hml hown hnm hlk hret e0
  have N0 := Fr.nil n0
  refine own_cast (own_ef_own_ic0 m r1) ?_
  refine own_by (g' := (mkF m 1 #[.val (.ref r1)] [(.ref r1)])) (fun t k => XS.aloadN X0.here hx rfl (hb hby own_d8_0) rfl rfl k) ?_
  obtain ⟨T101, X101, e101, st101⟩ := getF X0 hx hZ hown (host := "") (Or.inl (hw _ (List.mem_of_getElem? (i := 50) rfl))) Via.refl e0 F1 (g := (mkF m 1 #[.val (.ref r1)] [(.ref r1)])) rfl rfl (hb hby own_d8_1)
  refine own_by (g' := (mkF m 4 #[.val (.ref r1)] [(.int u1)])) st101 ?_
  refine own_by (g' := (mkF m 11 #[.val (.ref r1)] [])) (fun t k => XS.ifYes X101.here hx rfl (pc0 := 4) (pc' := 11) rfl (hb hby own_d8_4) rfl ((if0 _ _).trans (flt hp).2.2.2) (by decide) (by decide) k) ?_
  refine own_by (g' := (mkF m 12 #[.val (.ref r1)] [(.int (0 : Int32))])) (fun t k => XS.iconst X101.here hx rfl (hb hby own_d8_11) k) ?_
  refine own_retN X101 hx hlk hret (t := .boolean) (by simp) (hb hby own_d8_12) (by decide) (by decide) ?_
  exact ⟨rfl, N0, e101⟩
theorem own_d9_0 : decode prog_4_method_5_code 0 = .ok (.aload_n 0, 1) := by decide +kernel
theorem own_d9_1 : decode prog_4_method_5_code 1 = .ok (.getfield 24, 3) := by decide +kernel
theorem own_d9_4 : decode prog_4_method_5_code 4 = .ok (.ifCond .ne 8, 3) := by decide +kernel
theorem own_d9_7 : decode prog_4_method_5_code 7 = .ok (.aload_n 0, 1) := by decide +kernel
theorem own_d9_8 : decode prog_4_method_5_code 8 = .ok (.aload_n 1, 1) := by decide +kernel
theorem own_d9_9 : decode prog_4_method_5_code 9 = .ok (.putfield 16, 3) := by decide +kernel
theorem own_d9_12 : decode prog_4_method_5_code 12 = .ok (.aload_n 0, 1) := by decide +kernel
theorem own_d9_13 : decode prog_4_method_5_code 13 = .ok (.dup, 1) := by decide +kernel
theorem own_d9_14 : decode prog_4_method_5_code 14 = .ok (.getfield 24, 3) := by decide +kernel
theorem own_d9_17 : decode prog_4_method_5_code 17 = .ok (.iconst 1, 1) := by decide +kernel
theorem own_d9_18 : decode prog_4_method_5_code 18 = .ok (.iadd, 1) := by decide +kernel
theorem own_d9_19 : decode prog_4_method_5_code 19 = .ok (.putfield 24, 3) := by decide +kernel
theorem own_d9_22 : decode prog_4_method_5_code 22 = .ok (.return_, 1) := by decide +kernel
def Q_own_use0 (Z : State) (r1 : Addr) (w2 : Value) (w1 : Value) (u1 : Int32) (h0 : Heap) (n0 : Nat) (v : Option Value) (h : Heap) (L : List Loc) : Prop := v = none ∧ Fr n0 L ∧ Keep h0 h [r1] ∧ Exa Z h r1 "com/example/purlin/purlin/framework/ServiceUse" ∧ Fld Z h r1 "com/example/purlin/purlin/framework/ServiceUse" "object" "Ljava/lang/Object;" w2 ∧ Fld Z h r1 "com/example/purlin/purlin/framework/ServiceUse" "count" "I" (.int (u1 + (1 : Int32)))
theorem own_ef_own_use0 (m : MethodId) (r1 : Addr) (w2 : Value) (hr2 : (w2).isRef = true) : entryFrame m #[(.ref r1), w2] 2 = mkF m 0 #[.val (.ref r1), .val w2] [] := by
  rcases ref_cases hr2 with rfl | ⟨_, rfl⟩ <;>
  first | (simp [entryFrame, mkF, argsToLocals, Value.category]; done) | rfl
set_option maxRecDepth 65536 in
set_option maxHeartbeats 40000000 in
theorem own_use0 (l : Launch) (Z : State) (a0 : Array Value) (hw : ∀ d ∈ tables_1, d.before a0 Z = true) (ws : List Jvm.Cond) (r1 : Addr) (w2 : Value) (w1 : Value) (u1 : Int32) (h0 : Heap) (n0 : Nat) (Z0 : n0 ≤ h0.size) (E1 : Exa Z h0 r1 "com/example/purlin/purlin/framework/ServiceUse") (F1 : Fld Z h0 r1 "com/example/purlin/purlin/framework/ServiceUse" "object" "Ljava/lang/Object;" w1) (F2 : Fld Z h0 r1 "com/example/purlin/purlin/framework/ServiceUse" "count" "I" (.int u1)) (hr1 : (w1).isRef = true) (g1 : n0 ≤ r1) (hr2 : (w2).isRef = true) (hp : u1 = (0 : Int32)) :
    own_Ctr l Z (⟨"com/example/purlin/purlin/framework/ServiceUse", "use", "(Ljava/lang/Object;)V"⟩ : MethodName) prog_4_method_5_code 2 none ws ({ frames := 0, cells := 0, slots := 0, locals := 0 } : Room) (({ frames := 0, cells := 0, slots := 0, locals := 0 } : Room)).cells (({ frames := 0, cells := 0, slots := 0, locals := 0 } : Room)).slots #[(.ref r1), w2] h0 (Q_own_use0 Z r1 w2 w1 u1 h0 n0) := by
  refine own_enter (plainFor_of_name own_pn2) ?_
  intro p e s m below meth c s₁ X0 hx hZ hby hml hown hnm hlk hret e0
  have N0 := Fr.nil n0
  refine own_cast (own_ef_own_use0 m r1 w2 hr2) ?_
  refine own_by (g' := (mkF m 1 #[.val (.ref r1), .val w2] [(.ref r1)])) (fun t k => XS.aloadN X0.here hx rfl (hb hby own_d9_0) rfl rfl k) ?_
  obtain ⟨T101, X101, e101, st101⟩ := getF X0 hx hZ hown (host := "") (Or.inl (hw _ (List.mem_of_getElem? (i := 50) rfl))) Via.refl e0 F2 (g := (mkF m 1 #[.val (.ref r1), .val w2] [(.ref r1)])) rfl rfl (hb hby own_d9_1)
  refine own_by (g' := (mkF m 4 #[.val (.ref r1), .val w2] [(.int u1)])) st101 ?_
  refine own_by (g' := (mkF m 7 #[.val (.ref r1), .val w2] [])) (fun t k => XS.ifNo X101.here hx rfl (hb hby own_d9_4) rfl ((if0 _ _).trans (teq hp).2) k) ?_
  refine own_by (g' := (mkF m 8 #[.val (.ref r1), .val w2] [(.ref r1)])) (fun t k => XS.aloadN X101.here hx rfl (hb hby own_d9_7) rfl rfl k) ?_
  refine own_by (g' := (mkF m 9 #[.val (.ref r1), .val w2] [w2, (.ref r1)])) (fun t k => XS.aloadN X101.here hx rfl (hb hby own_d9_8) rfl hr2 k) ?_
  obtain ⟨T102, h102, X102, e102, W102, st102⟩ := putF X101 hx hZ hown (host := "") (Or.inl (hw _ (List.mem_of_getElem? (i := 43) rfl))) Via.refl e101 F1 E1 (Or.inl (hw _ (List.mem_of_getElem? (i := 44) rfl))) (hw _ (List.mem_of_getElem? (i := 6) rfl)) (ty := (.object "java/lang/Object")) (by decide) (own_narR rfl) (own_fitR rfl hr2) (g := (mkF m 9 #[.val (.ref r1), .val w2] [w2, (.ref r1)])) rfl rfl (hb hby own_d9_9)
  have f103 := F1.same W102
  have N102 := Fr.snoc X102 N0 g1
  refine own_by (g' := (mkF m 12 #[.val (.ref r1), .val w2] [])) st102 ?_
  refine own_by (g' := (mkF m 13 #[.val (.ref r1), .val w2] [(.ref r1)])) (fun t k => XS.aloadN X102.here hx rfl (hb hby own_d9_12) rfl rfl k) ?_
  refine own_by (g' := (mkF m 14 #[.val (.ref r1), .val w2] [(.ref r1), (.ref r1)])) (fun t k => XS.dup X102.here hx rfl (hb hby own_d9_13) rfl rfl k) ?_
  have f104 := (F2.other W102 (Or.inr (slot_ne (Or.inl (hw _ (List.mem_of_getElem? (i := 51) rfl))) (Or.inl (hw _ (List.mem_of_getElem? (i := 44) rfl))) (by decide) (t := .int) (t' := (.object "java/lang/Object")) (by decide) (by decide))))
  obtain ⟨T105, X105, e105, st105⟩ := getF X102 hx hZ hown (host := "") (Or.inl (hw _ (List.mem_of_getElem? (i := 50) rfl))) Via.refl e102 f104 (g := (mkF m 14 #[.val (.ref r1), .val w2] [(.ref r1), (.ref r1)])) rfl rfl (hb hby own_d9_14)
  refine own_by (g' := (mkF m 17 #[.val (.ref r1), .val w2] [(.int u1), (.ref r1)])) st105 ?_
  refine own_by (g' := (mkF m 18 #[.val (.ref r1), .val w2] [(.int (1 : Int32)), (.int u1), (.ref r1)])) (fun t k => XS.iconst X105.here hx rfl (hb hby own_d9_17) k) ?_
  refine own_by (g' := (mkF m 19 #[.val (.ref r1), .val w2] [(.int (u1 + (1 : Int32))), (.ref r1)])) (fun t k => XS.iadd X105.here hx rfl (hb hby own_d9_18) rfl k) ?_
  have f106 := (E1.wr W102)
  obtain ⟨T107, h107, X107, e107, W107, st107⟩ := putF X105 hx hZ hown (host := "") (Or.inl (hw _ (List.mem_of_getElem? (i := 50) rfl))) Via.refl e105 f104 f106 (Or.inl (hw _ (List.mem_of_getElem? (i := 51) rfl))) (hw _ (List.mem_of_getElem? (i := 6) rfl)) (ty := .int) (by decide) rfl rfl (g := (mkF m 19 #[.val (.ref r1), .val w2] [(.int (u1 + (1 : Int32))), (.ref r1)])) rfl rfl (hb hby own_d9_19)
  have f108 := f104.same W107
  have N107 := Fr.snoc X107 N102 g1
  refine own_by (g' := (mkF m 22 #[.val (.ref r1), .val w2] [])) st107 ?_
  have f109 := (f106.wr W107)
  have f110 := (f103.other W107 (Or.inr (slot_ne (Or.inl (hw _ (List.mem_of_getElem? (i := 44) rfl))) (Or.inl (hw _ (List.mem_of_getElem? (i := 51) rfl))) (by decide) (t := (.object "java/lang/Object")) (t' := .int) (by decide) (by decide))))
  refine own_retV X107 hx hlk hret (hb hby own_d9_22) (by decide) (by decide) ?_
  rw [e107]
  exact ⟨rfl, N107, (((Keep.refl h0 [r1]).wr W102 (Or.inl (List.mem_of_getElem? (i := 0) rfl))).wr W107 (Or.inl (List.mem_of_getElem? (i := 0) rfl))), f109, f110, f108⟩
def Q_own_use1 (Z : State) (r1 : Addr) (w2 : Value) (w1 : Value) (u1 : Int32) (h0 : Heap) (n0 : Nat) (v : Option Value) (h : Heap) (L : List Loc) : Prop := v = none ∧ Fr n0 L ∧ Keep h0 h [r1] ∧ Exa Z h r1 "com/example/purlin/purlin/framework/ServiceUse" ∧ Fld Z h r1 "com/example/purlin/purlin/framework/ServiceUse" "object" "Ljava/lang/Object;" w1 ∧ Fld Z h r1 "com/example/purlin/purlin/framework/ServiceUse" "count" "I" (.int (u1 + (1 : Int32)))
theorem own_ef_own_use1 (m : MethodId) (r1 : Addr) (w2 : Value) (hr2 : (w2).isRef = true) : entryFrame m #[(.ref r1), w2] 2 = mkF m 0 #[.val (.ref r1), .val w2] [] := by
  rcases ref_cases hr2 with rfl | ⟨_, rfl⟩ <;>
  first | (simp [entryFrame, mkF, argsToLocals, Value.category]; done) | rfl
set_option maxRecDepth 65536 in
set_option maxHeartbeats 40000000 in
theorem own_use1 (l : Launch) (Z : State) (a0 : Array Value) (hw : ∀ d ∈ tables_1, d.before a0 Z = true) (ws : List Jvm.Cond) (r1 : Addr) (w2 : Value) (w1 : Value) (u1 : Int32) (h0 : Heap) (n0 : Nat) (Z0 : n0 ≤ h0.size) (E1 : Exa Z h0 r1 "com/example/purlin/purlin/framework/ServiceUse") (F1 : Fld Z h0 r1 "com/example/purlin/purlin/framework/ServiceUse" "object" "Ljava/lang/Object;" w1) (F2 : Fld Z h0 r1 "com/example/purlin/purlin/framework/ServiceUse" "count" "I" (.int u1)) (hr1 : (w1).isRef = true) (g1 : n0 ≤ r1) (hr2 : (w2).isRef = true) (hp : ¬ u1 = (0 : Int32)) :
    own_Ctr l Z (⟨"com/example/purlin/purlin/framework/ServiceUse", "use", "(Ljava/lang/Object;)V"⟩ : MethodName) prog_4_method_5_code 2 none ws ({ frames := 0, cells := 0, slots := 0, locals := 0 } : Room) (({ frames := 0, cells := 0, slots := 0, locals := 0 } : Room)).cells (({ frames := 0, cells := 0, slots := 0, locals := 0 } : Room)).slots #[(.ref r1), w2] h0 (Q_own_use1 Z r1 w2 w1 u1 h0 n0) := by
  refine own_enter (plainFor_of_name own_pn2) ?_
  intro p e s m below meth c s₁ X0 hx hZ hby hml hown hnm hlk hret e0
  have N0 := Fr.nil n0
  refine own_cast (own_ef_own_use1 m r1 w2 hr2) ?_
  refine own_by (g' := (mkF m 1 #[.val (.ref r1), .val w2] [(.ref r1)])) (fun t k => XS.aloadN X0.here hx rfl (hb hby own_d9_0) rfl rfl k) ?_
  obtain ⟨T101, X101, e101, st101⟩ := getF X0 hx hZ hown (host := "") (Or.inl (hw _ (List.mem_of_getElem? (i := 50) rfl))) Via.refl e0 F2 (g := (mkF m 1 #[.val (.ref r1), .val w2] [(.ref r1)])) rfl rfl (hb hby own_d9_1)
  refine own_by (g' := (mkF m 4 #[.val (.ref r1), .val w2] [(.int u1)])) st101 ?_
  refine own_by (g' := (mkF m 12 #[.val (.ref r1), .val w2] [])) (fun t k => XS.ifYes X101.here hx rfl (pc0 := 4) (pc' := 12) rfl (hb hby own_d9_4) rfl ((if0 _ _).trans (feq hp).2) (by decide) (by decide) k) ?_
  refine own_by (g' := (mkF m 13 #[.val (.ref r1), .val w2] [(.ref r1)])) (fun t k => XS.aloadN X101.here hx rfl (hb hby own_d9_12) rfl rfl k) ?_
  refine own_by (g' := (mkF m 14 #[.val (.ref r1), .val w2] [(.ref r1), (.ref r1)])) (fun t k => XS.dup X101.here hx rfl (hb hby own_d9_13) rfl rfl k) ?_
  obtain ⟨T102, X102, e102, st102⟩ := getF X101 hx hZ hown (host := "") (Or.inl (hw _ (List.mem_of_getElem? (i := 50) rfl))) Via.refl e101 F2 (g := (mkF m 14 #[.val (.ref r1), .val w2] [(.ref r1), (.ref r1)])) rfl rfl (hb hby own_d9_14)
  refine own_by (g' := (mkF m 17 #[.val (.ref r1), .val w2] [(.int u1), (.ref r1)])) st102 ?_
  refine own_by (g' := (mkF m 18 #[.val (.ref r1), .val w2] [(.int (1 : Int32)), (.int u1), (.ref r1)])) (fun t k => XS.iconst X102.here hx rfl (hb hby own_d9_17) k) ?_
  refine own_by (g' := (mkF m 19 #[.val (.ref r1), .val w2] [(.int (u1 + (1 : Int32))), (.ref r1)])) (fun t k => XS.iadd X102.here hx rfl (hb hby own_d9_18) rfl k) ?_
  obtain ⟨T103, h103, X103, e103, W103, st103⟩ := putF X102 hx hZ hown (host := "") (Or.inl (hw _ (List.mem_of_getElem? (i := 50) rfl))) Via.refl e102 F2 E1 (Or.inl (hw _ (List.mem_of_getElem? (i := 51) rfl))) (hw _ (List.mem_of_getElem? (i := 6) rfl)) (ty := .int) (by decide) rfl rfl (g := (mkF m 19 #[.val (.ref r1), .val w2] [(.int (u1 + (1 : Int32))), (.ref r1)])) rfl rfl (hb hby own_d9_19)
  have f104 := F2.same W103
  have N103 := Fr.snoc X103 N0 g1
  refine own_by (g' := (mkF m 22 #[.val (.ref r1), .val w2] [])) st103 ?_
  have f105 := (E1.wr W103)
  have f106 := (F1.other W103 (Or.inr (slot_ne (Or.inl (hw _ (List.mem_of_getElem? (i := 44) rfl))) (Or.inl (hw _ (List.mem_of_getElem? (i := 51) rfl))) (by decide) (t := (.object "java/lang/Object")) (t' := .int) (by decide) (by decide))))
  refine own_retV X103 hx hlk hret (hb hby own_d9_22) (by decide) (by decide) ?_
  rw [e103]
  exact ⟨rfl, N103, ((Keep.refl h0 [r1]).wr W103 (Or.inl (List.mem_of_getElem? (i := 0) rfl))), f105, f106, f104⟩
theorem own_d10_0 : decode prog_4_method_6_code 0 = .ok (.aload_n 0, 1) := by decide +kernel
theorem own_d10_1 : decode prog_4_method_6_code 1 = .ok (.dup, 1) := by decide +kernel
theorem own_d10_2 : decode prog_4_method_6_code 2 = .ok (.getfield 24, 3) := by decide +kernel
theorem own_d10_5 : decode prog_4_method_6_code 5 = .ok (.iconst 1, 1) := by decide +kernel
theorem own_d10_6 : decode prog_4_method_6_code 6 = .ok (.isub, 1) := by decide +kernel
theorem own_d10_7 : decode prog_4_method_6_code 7 = .ok (.dup_x1, 1) := by decide +kernel
theorem own_d10_8 : decode prog_4_method_6_code 8 = .ok (.putfield 24, 3) := by decide +kernel
theorem own_d10_11 : decode prog_4_method_6_code 11 = .ok (.ifCond .le 5, 3) := by decide +kernel
theorem own_d10_14 : decode prog_4_method_6_code 14 = .ok (.aconst_null, 1) := by decide +kernel
theorem own_d10_15 : decode prog_4_method_6_code 15 = .ok (.areturn, 1) := by decide +kernel
def Q_own_un1 (Z : State) (r1 : Addr) (w1 : Value) (u1 : Int32) (h0 : Heap) (n0 : Nat) (v : Option Value) (h : Heap) (L : List Loc) : Prop := v = some .null ∧ Fr n0 L ∧ Keep h0 h [r1] ∧ Exa Z h r1 "com/example/purlin/purlin/framework/ServiceUse" ∧ Fld Z h r1 "com/example/purlin/purlin/framework/ServiceUse" "object" "Ljava/lang/Object;" w1 ∧ Fld Z h r1 "com/example/purlin/purlin/framework/ServiceUse" "count" "I" (.int (u1 - (1 : Int32)))
theorem own_ef_own_un1 (m : MethodId) (r1 : Addr) : entryFrame m #[(.ref r1)] 2 = mkF m 0 #[.val (.ref r1), .unset] [] := by first | (simp [entryFrame, mkF, argsToLocals, Value.category]; done) | rfl
set_option maxRecDepth 65536 in
set_option maxHeartbeats 40000000 in
theorem own_un1 (l : Launch) (Z : State) (a0 : Array Value) (hw : ∀ d ∈ tables_1, d.before a0 Z = true) (ws : List Jvm.Cond) (r1 : Addr) (w1 : Value) (u1 : Int32) (h0 : Heap) (n0 : Nat) (Z0 : n0 ≤ h0.size) (E1 : Exa Z h0 r1 "com/example/purlin/purlin/framework/ServiceUse") (F1 : Fld Z h0 r1 "com/example/purlin/purlin/framework/ServiceUse" "object" "Ljava/lang/Object;" w1) (F2 : Fld Z h0 r1 "com/example/purlin/purlin/framework/ServiceUse" "count" "I" (.int u1)) (hr1 : (w1).isRef = true) (g1 : n0 ≤ r1) (hp : (0 : Int32) < (u1 - (1 : Int32))) :
    own_Ctr l Z (⟨"com/example/purlin/purlin/framework/ServiceUse", "unuse", "()Ljava/lang/Object;"⟩ : MethodName) prog_4_method_6_code 2 (some (.object "java/lang/Object")) ws ({ frames := 0, cells := 0, slots := 0, locals := 0 } : Room) (({ frames := 0, cells := 0, slots := 0, locals := 0 } : Room)).cells (({ frames := 0, cells := 0, slots := 0, locals := 0 } : Room)).slots #[(.ref r1)] h0 (Q_own_un1 Z r1 w1 u1 h0 n0) := by
  refine own_enter (plainFor_of_name own_pn2) ?_
  intro p e s m below meth c s₁ X0 hx hZ hby hml hown hnm hlk hret e0
  have N0 := Fr.nil n0
  refine own_cast (own_ef_own_un1 m r1) ?_
  refine own_by (g' := (mkF m 1 #[.val (.ref r1), .unset] [(.ref r1)])) (fun t k => XS.aloadN X0.here hx rfl (hb hby own_d10_0) rfl rfl k) ?_
  refine own_by (g' := (mkF m 2 #[.val (.ref r1), .unset] [(.ref r1), (.ref r1)])) (fun t k => XS.dup X0.here hx rfl (hb hby own_d10_1) rfl rfl k) ?_
  obtain ⟨T101, X101, e101, st101⟩ := getF X0 hx hZ hown (host := "") (Or.inl (hw _ (List.mem_of_getElem? (i := 50) rfl))) Via.refl e0 F2 (g := (mkF m 2 #[.val (.ref r1), .unset] [(.ref r1), (.ref r1)])) rfl rfl (hb hby own_d10_2)
  refine own_by (g' := (mkF m 5 #[.val (.ref r1), .unset] [(.int u1), (.ref r1)])) st101 ?_
  refine own_by (g' := (mkF m 6 #[.val (.ref r1), .unset] [(.int (1 : Int32)), (.int u1), (.ref r1)])) (fun t k => XS.iconst X101.here hx rfl (hb hby own_d10_5) k) ?_
  refine own_by (g' := (mkF m 7 #[.val (.ref r1), .unset] [(.int (u1 - (1 : Int32))), (.ref r1)])) (fun t k => XS.isub X101.here hx rfl (hb hby own_d10_6) rfl k) ?_
  refine own_by (g' := (mkF m 8 #[.val (.ref r1), .unset] [(.int (u1 - (1 : Int32))), (.ref r1), (.int (u1 - (1 : Int32)))])) (fun t k => XS.dupX1 X101.here hx rfl (hb hby own_d10_7) rfl rfl rfl k) ?_
  obtain ⟨T102, h102, X102, e102, W102, st102⟩ := putF X101 hx hZ hown (host := "") (Or.inl (hw _ (List.mem_of_getElem? (i := 50) rfl))) Via.refl e101 F2 E1 (Or.inl (hw _ (List.mem_of_getElem? (i := 51) rfl))) (hw _ (List.mem_of_getElem? (i := 6) rfl)) (ty := .int) (by decide) rfl rfl (g := (mkF m 8 #[.val (.ref r1), .unset] [(.int (u1 - (1 : Int32))), (.ref r1), (.int (u1 - (1 : Int32)))])) rfl rfl (hb hby own_d10_8)
  have f103 := F2.same W102
  have N102 := Fr.snoc X102 N0 g1
  refine own_by (g' := (mkF m 11 #[.val (.ref r1), .unset] [(.int (u1 - (1 : Int32)))])) st102 ?_
  refine own_by (g' := (mkF m 14 #[.val (.ref r1), .unset] [])) (fun t k => XS.ifNo X102.here hx rfl (hb hby own_d10_11) rfl ((if0 _ _).trans (tlt hp).2.2.2) k) ?_
  refine own_by (g' := (mkF m 15 #[.val (.ref r1), .unset] [.null])) (fun t k => XS.aconstNull X102.here hx rfl (hb hby own_d10_14) k) ?_
  have f104 := (E1.wr W102)
  have f105 := (F1.other W102 (Or.inr (slot_ne (Or.inl (hw _ (List.mem_of_getElem? (i := 44) rfl))) (Or.inl (hw _ (List.mem_of_getElem? (i := 51) rfl))) (by decide) (t := (.object "java/lang/Object")) (t' := .int) (by decide) (by decide))))
  refine own_retA X102 hx hlk hret rfl rfl (hb hby own_d10_15) (by decide) (by decide) ?_
  rw [e102]
  exact ⟨rfl, N102, ((Keep.refl h0 [r1]).wr W102 (Or.inl (List.mem_of_getElem? (i := 0) rfl))), f104, f105, f103⟩
theorem own_d10_16 : decode prog_4_method_6_code 16 = .ok (.aload_n 0, 1) := by decide +kernel
theorem own_d10_17 : decode prog_4_method_6_code 17 = .ok (.getfield 16, 3) := by decide +kernel
theorem own_d10_20 : decode prog_4_method_6_code 20 = .ok (.astore_n 1, 1) := by decide +kernel
theorem own_d10_21 : decode prog_4_method_6_code 21 = .ok (.aload_n 0, 1) := by decide +kernel
theorem own_d10_22 : decode prog_4_method_6_code 22 = .ok (.aconst_null, 1) := by decide +kernel
theorem own_d10_23 : decode prog_4_method_6_code 23 = .ok (.putfield 16, 3) := by decide +kernel
theorem own_d10_26 : decode prog_4_method_6_code 26 = .ok (.aload_n 1, 1) := by decide +kernel
theorem own_d10_27 : decode prog_4_method_6_code 27 = .ok (.areturn, 1) := by decide +kernel
def Q_own_un0 (Z : State) (r1 : Addr) (w1 : Value) (u1 : Int32) (h0 : Heap) (n0 : Nat) (v : Option Value) (h : Heap) (L : List Loc) : Prop := v = some w1 ∧ Fr n0 L ∧ Keep h0 h [r1] ∧ Exa Z h r1 "com/example/purlin/purlin/framework/ServiceUse" ∧ Fld Z h r1 "com/example/purlin/purlin/framework/ServiceUse" "object" "Ljava/lang/Object;" .null ∧ Fld Z h r1 "com/example/purlin/purlin/framework/ServiceUse" "count" "I" (.int (u1 - (1 : Int32)))
theorem own_ef_own_un0 (m : MethodId) (r1 : Addr) : entryFrame m #[(.ref r1)] 2 = mkF m 0 #[.val (.ref r1), .unset] [] := by first | (simp [entryFrame, mkF, argsToLocals, Value.category]; done) | rfl
set_option maxRecDepth 65536 in
set_option maxHeartbeats 40000000 in
theorem own_un0 (l : Launch) (Z : State) (a0 : Array Value) (hw : ∀ d ∈ tables_1, d.before a0 Z = true) (ws : List Jvm.Cond) (r1 : Addr) (w1 : Value) (u1 : Int32) (h0 : Heap) (n0 : Nat) (Z0 : n0 ≤ h0.size) (E1 : Exa Z h0 r1 "com/example/purlin/purlin/framework/ServiceUse") (F1 : Fld Z h0 r1 "com/example/purlin/purlin/framework/ServiceUse" "object" "Ljava/lang/Object;" w1) (F2 : Fld Z h0 r1 "com/example/purlin/purlin/framework/ServiceUse" "count" "I" (.int u1)) (hr1 : (w1).isRef = true) (g1 : n0 ≤ r1) (hp : ¬ (0 : Int32) < (u1 - (1 : Int32))) :
    own_Ctr l Z (⟨"com/example/purlin/purlin/framework/ServiceUse", "unuse", "()Ljava/lang/Object;"⟩ : MethodName) prog_4_method_6_code 2 (some (.object "java/lang/Object")) ws ({ frames := 0, cells := 0, slots := 0, locals := 0 } : Room) (({ frames := 0, cells := 0, slots := 0, locals := 0 } : Room)).cells (({ frames := 0, cells := 0, slots := 0, locals := 0 } : Room)).slots #[(.ref r1)] h0 (Q_own_un0 Z r1 w1 u1 h0 n0) := by
  refine own_enter (plainFor_of_name own_pn2) ?_
  intro p e s m below meth c s₁ X0 hx hZ hby hml hown hnm hlk hret e0
  have N0 := Fr.nil n0
  refine own_cast (own_ef_own_un0 m r1) ?_
  refine own_by (g' := (mkF m 1 #[.val (.ref r1), .unset] [(.ref r1)])) (fun t k => XS.aloadN X0.here hx rfl (hb hby own_d10_0) rfl rfl k) ?_
  refine own_by (g' := (mkF m 2 #[.val (.ref r1), .unset] [(.ref r1), (.ref r1)])) (fun t k => XS.dup X0.here hx rfl (hb hby own_d10_1) rfl rfl k) ?_
  obtain ⟨T101, X101, e101, st101⟩ := getF X0 hx hZ hown (host := "") (Or.inl (hw _ (List.mem_of_getElem? (i := 50) rfl))) Via.refl e0 F2 (g := (mkF m 2 #[.val (.ref r1), .unset] [(.ref r1), (.ref r1)])) rfl rfl (hb hby own_d10_2)
  refine own_by (g' := (mkF m 5 #[.val (.ref r1), .unset] [(.int u1), (.ref r1)])) st101 ?_
  refine own_by (g' := (mkF m 6 #[.val (.ref r1), .unset] [(.int (1 : Int32)), (.int u1), (.ref r1)])) (fun t k => XS.iconst X101.here hx rfl (hb hby own_d10_5) k) ?_
  refine own_by (g' := (mkF m 7 #[.val (.ref r1), .unset] [(.int (u1 - (1 : Int32))), (.ref r1)])) (fun t k => XS.isub X101.here hx rfl (hb hby own_d10_6) rfl k) ?_
  refine own_by (g' := (mkF m 8 #[.val (.ref r1), .unset] [(.int (u1 - (1 : Int32))), (.ref r1), (.int (u1 - (1 : Int32)))])) (fun t k => XS.dupX1 X101.here hx rfl (hb hby own_d10_7) rfl rfl rfl k) ?_
  obtain ⟨T102, h102, X102, e102, W102, st102⟩ := putF X101 hx hZ hown (host := "") (Or.inl (hw _ (List.mem_of_getElem? (i := 50) rfl))) Via.refl e101 F2 E1 (Or.inl (hw _ (List.mem_of_getElem? (i := 51) rfl))) (hw _ (List.mem_of_getElem? (i := 6) rfl)) (ty := .int) (by decide) rfl rfl (g := (mkF m 8 #[.val (.ref r1), .unset] [(.int (u1 - (1 : Int32))), (.ref r1), (.int (u1 - (1 : Int32)))])) rfl rfl (hb hby own_d10_8)
  have f103 := F2.same W102
  have N102 := Fr.snoc X102 N0 g1
  refine own_by (g' := (mkF m 11 #[.val (.ref r1), .unset] [(.int (u1 - (1 : Int32)))])) st102 ?_
  refine own_by (g' := (mkF m 16 #[.val (.ref r1), .unset] [])) (fun t k => XS.ifYes X102.here hx rfl (pc0 := 11) (pc' := 16) rfl (hb hby own_d10_11) rfl ((if0 _ _).trans (flt hp).2.2.2) (by decide) (by decide) k) ?_
  refine own_by (g' := (mkF m 17 #[.val (.ref r1), .unset] [(.ref r1)])) (fun t k => XS.aloadN X102.here hx rfl (hb hby own_d10_16) rfl rfl k) ?_
  have f104 := (F1.other W102 (Or.inr (slot_ne (Or.inl (hw _ (List.mem_of_getElem? (i := 44) rfl))) (Or.inl (hw _ (List.mem_of_getElem? (i := 51) rfl))) (by decide) (t := (.object "java/lang/Object")) (t' := .int) (by decide) (by decide))))
  obtain ⟨T105, X105, e105, st105⟩ := getF X102 hx hZ hown (host := "") (Or.inl (hw _ (List.mem_of_getElem? (i := 43) rfl))) Via.refl e102 f104 (g := (mkF m 17 #[.val (.ref r1), .unset] [(.ref r1)])) rfl rfl (hb hby own_d10_17)
  refine own_by (g' := (mkF m 20 #[.val (.ref r1), .unset] [w1])) st105 ?_
  refine own_by (g' := (mkF m 21 #[.val (.ref r1), .val w1] [])) (fun t k => XS.astoreN X105.here hx rfl (hb hby own_d10_20) rfl hr1 (l' := #[.val (.ref r1), .val w1]) (own_stG (o := .unset) rfl (Or.inl rfl) (own_cat1 hr1) rfl) k) ?_
  refine own_by (g' := (mkF m 22 #[.val (.ref r1), .val w1] [(.ref r1)])) (fun t k => XS.aloadN X105.here hx rfl (hb hby own_d10_21) rfl rfl k) ?_
  refine own_by (g' := (mkF m 23 #[.val (.ref r1), .val w1] [.null, (.ref r1)])) (fun t k => XS.aconstNull X105.here hx rfl (hb hby own_d10_22) k) ?_
  have f106 := (E1.wr W102)
  obtain ⟨T107, h107, X107, e107, W107, st107⟩ := putF X105 hx hZ hown (host := "") (Or.inl (hw _ (List.mem_of_getElem? (i := 43) rfl))) Via.refl e105 f104 f106 (Or.inl (hw _ (List.mem_of_getElem? (i := 44) rfl))) (hw _ (List.mem_of_getElem? (i := 6) rfl)) (ty := (.object "java/lang/Object")) (by decide) rfl rfl (g := (mkF m 23 #[.val (.ref r1), .val w1] [.null, (.ref r1)])) rfl rfl (hb hby own_d10_23)
  have f108 := f104.same W107
  have N107 := Fr.snoc X107 N102 g1
  refine own_by (g' := (mkF m 26 #[.val (.ref r1), .val w1] [])) st107 ?_
  refine own_by (g' := (mkF m 27 #[.val (.ref r1), .val w1] [w1])) (fun t k => XS.aloadN X107.here hx rfl (hb hby own_d10_26) rfl hr1 k) ?_
  have f109 := (f106.wr W107)
  have f110 := (f103.other W107 (Or.inr (slot_ne (Or.inl (hw _ (List.mem_of_getElem? (i := 51) rfl))) (Or.inl (hw _ (List.mem_of_getElem? (i := 44) rfl))) (by decide) (t := .int) (t' := (.object "java/lang/Object")) (by decide) (by decide))))
  refine own_retA X107 hx hlk hret rfl hr1 (hb hby own_d10_27) (by decide) (by decide) ?_
  rw [e107]
  exact ⟨rfl, N107, (((Keep.refl h0 [r1]).wr W102 (Or.inl (List.mem_of_getElem? (i := 0) rfl))).wr W107 (Or.inl (List.mem_of_getElem? (i := 0) rfl))), f109, f108, f110⟩
theorem own_pn3 : plainName "com/example/purlin/purlin/framework/ServiceUseUsePinLaw" = true := by first | (simp [plainName, overriddenIn]; done) | decide +kernel
theorem own_d1_0 : decode method_2_code 0 = .ok (.iload_n 0, 1) := by decide +kernel
theorem own_d1_1 : decode method_2_code 1 = .ok (.iconst 3, 1) := by decide +kernel
theorem own_d1_2 : decode method_2_code 2 = .ok (.iand, 1) := by decide +kernel
theorem own_d1_3 : decode method_2_code 3 = .ok (.istore 4, 2) := by decide +kernel
theorem own_d1_5 : decode method_2_code 5 = .ok (.iload 4, 2) := by decide +kernel
theorem own_d1_7 : decode method_2_code 7 = .ok (.ifCond .ne 5, 3) := by decide +kernel
theorem own_d1_10 : decode method_2_code 10 = .ok (.aload_n 1, 1) := by decide +kernel
theorem own_d1_11 : decode method_2_code 11 = .ok (.areturn, 1) := by decide +kernel
theorem own_d1_12 : decode method_2_code 12 = .ok (.iload 4, 2) := by decide +kernel
theorem own_d1_14 : decode method_2_code 14 = .ok (.iconst 1, 1) := by decide +kernel
theorem own_d1_15 : decode method_2_code 15 = .ok (.if_icmp .ne 5, 3) := by decide +kernel
theorem own_d1_18 : decode method_2_code 18 = .ok (.aload_n 2, 1) := by decide +kernel
theorem own_d1_19 : decode method_2_code 19 = .ok (.areturn, 1) := by decide +kernel
theorem own_d1_20 : decode method_2_code 20 = .ok (.iload 4, 2) := by decide +kernel
theorem own_d1_22 : decode method_2_code 22 = .ok (.iconst 2, 1) := by decide +kernel
theorem own_d1_23 : decode method_2_code 23 = .ok (.if_icmp .ne 5, 3) := by decide +kernel
theorem own_d1_26 : decode method_2_code 26 = .ok (.aconst_null, 1) := by decide +kernel
theorem own_d1_27 : decode method_2_code 27 = .ok (.areturn, 1) := by decide +kernel
theorem own_d1_28 : decode method_2_code 28 = .ok (.aload_n 3, 1) := by decide +kernel
theorem own_d1_29 : decode method_2_code 29 = .ok (.areturn, 1) := by decide +kernel
def Q_own_pick (Z : State) (u1 : Int32) (r1 : Addr) (r2 : Addr) (r3 : Addr) (h0 : Heap) (n0 : Nat) (v : Option Value) (h : Heap) (L : List Loc) : Prop := ∃ (wr : Value), v = some wr ∧ Fr n0 L ∧ h = h0 ∧ (wr).isRef = true
theorem own_ef_own_pick (m : MethodId) (u1 : Int32) (r1 : Addr) (r2 : Addr) (r3 : Addr) : entryFrame m #[(.int u1), (.ref r1), (.ref r2), (.ref r3)] 5 = mkF m 0 #[.val (.int u1), .val (.ref r1), .val (.ref r2), .val (.ref r3), .unset] [] := by first | (simp [entryFrame, mkF, argsToLocals, Value.category]; done) | rfl
set_option maxRecDepth 65536 in
set_option maxHeartbeats 40000000 in
theorem own_pick (l : Launch) (Z : State) (a0 : Array Value) (hw : ∀ d ∈ tables_1, d.before a0 Z = true) (ws : List Jvm.Cond) (u1 : Int32) (r1 : Addr) (r2 : Addr) (r3 : Addr) (h0 : Heap) (n0 : Nat) (Z0 : n0 ≤ h0.size)  :
    own_Ctr l Z (⟨"com/example/purlin/purlin/framework/ServiceUseUsePinLaw", "pick", "(I[I[I[I)[I"⟩ : MethodName) method_2_code 5 (some (.array .int)) ws ({ frames := 0, cells := 0, slots := 0, locals := 0 } : Room) (({ frames := 0, cells := 0, slots := 0, locals := 0 } : Room)).cells (({ frames := 0, cells := 0, slots := 0, locals := 0 } : Room)).slots #[(.int u1), (.ref r1), (.ref r2), (.ref r3)] h0 (Q_own_pick Z u1 r1 r2 r3 h0 n0) := by
  refine own_enter (plainFor_of_name own_pn3) ?_
  intro p e s m below meth c s₁ X0 hx hZ hby hml hown hnm hlk hret e0
  have N0 := Fr.nil n0
  refine own_cast (own_ef_own_pick m u1 r1 r2 r3) ?_
  refine own_by (g' := (mkF m 1 #[.val (.int u1), .val (.ref r1), .val (.ref r2), .val (.ref r3), .unset] [(.int u1)])) (fun t k => XS.iloadN X0.here hx rfl (hb hby own_d1_0) rfl k) ?_
  refine own_by (g' := (mkF m 2 #[.val (.int u1), .val (.ref r1), .val (.ref r2), .val (.ref r3), .unset] [(.int (3 : Int32)), (.int u1)])) (fun t k => XS.iconst X0.here hx rfl (hb hby own_d1_1) k) ?_
  refine own_by (g' := (mkF m 3 #[.val (.int u1), .val (.ref r1), .val (.ref r2), .val (.ref r3), .unset] [(.int (u1 &&& (3 : Int32)))])) (fun t k => XS.iand X0.here hx rfl (hb hby own_d1_2) rfl k) ?_
  generalize hv101 : (u1 &&& (3 : Int32)) = v101
  refine own_by (g' := (mkF m 5 #[.val (.int u1), .val (.ref r1), .val (.ref r2), .val (.ref r3), .val (.int v101)] [])) (fun t k => XS.istore X0.here hx rfl (hb hby own_d1_3) rfl (l' := #[.val (.int u1), .val (.ref r1), .val (.ref r2), .val (.ref r3), .val (.int v101)]) rfl k) ?_
  refine own_by (g' := (mkF m 7 #[.val (.int u1), .val (.ref r1), .val (.ref r2), .val (.ref r3), .val (.int v101)] [(.int v101)])) (fun t k => XS.iload X0.here hx rfl (hb hby own_d1_5) rfl k) ?_
  by_cases hc102 : v101 = (0 : Int32)
  ·
    refine own_by (g' := (mkF m 10 #[.val (.int u1), .val (.ref r1), .val (.ref r2), .val (.ref r3), .val (.int v101)] [])) (fun t k => XS.ifNo X0.here hx rfl (hb hby own_d1_7) rfl ((if0 _ _).trans (teq hc102).2) k) ?_
    refine own_by (g' := (mkF m 11 #[.val (.int u1), .val (.ref r1), .val (.ref r2), .val (.ref r3), .val (.int v101)] [(.ref r1)])) (fun t k => XS.aloadN X0.here hx rfl (hb hby own_d1_10) rfl rfl k) ?_
    refine own_retA X0 hx hlk hret rfl rfl (hb hby own_d1_11) (by decide) (by decide) ?_
    exact ⟨(.ref r1), rfl, N0, e0, rfl⟩
  ·
    refine own_by (g' := (mkF m 12 #[.val (.int u1), .val (.ref r1), .val (.ref r2), .val (.ref r3), .val (.int v101)] [])) (fun t k => XS.ifYes X0.here hx rfl (pc0 := 7) (pc' := 12) rfl (hb hby own_d1_7) rfl ((if0 _ _).trans (feq hc102).2) (by decide) (by decide) k) ?_
    refine own_by (g' := (mkF m 14 #[.val (.int u1), .val (.ref r1), .val (.ref r2), .val (.ref r3), .val (.int v101)] [(.int v101)])) (fun t k => XS.iload X0.here hx rfl (hb hby own_d1_12) rfl k) ?_
    refine own_by (g' := (mkF m 15 #[.val (.int u1), .val (.ref r1), .val (.ref r2), .val (.ref r3), .val (.int v101)] [(.int (1 : Int32)), (.int v101)])) (fun t k => XS.iconst X0.here hx rfl (hb hby own_d1_14) k) ?_
    by_cases hc103 : v101 = (1 : Int32)
    ·
      refine own_by (g' := (mkF m 18 #[.val (.int u1), .val (.ref r1), .val (.ref r2), .val (.ref r3), .val (.int v101)] [])) (fun t k => XS.icmpNo X0.here hx rfl (hb hby own_d1_15) rfl (teq hc103).2 k) ?_
      refine own_by (g' := (mkF m 19 #[.val (.int u1), .val (.ref r1), .val (.ref r2), .val (.ref r3), .val (.int v101)] [(.ref r2)])) (fun t k => XS.aloadN X0.here hx rfl (hb hby own_d1_18) rfl rfl k) ?_
      refine own_retA X0 hx hlk hret rfl rfl (hb hby own_d1_19) (by decide) (by decide) ?_
      exact ⟨(.ref r2), rfl, N0, e0, rfl⟩
    ·
      refine own_by (g' := (mkF m 20 #[.val (.int u1), .val (.ref r1), .val (.ref r2), .val (.ref r3), .val (.int v101)] [])) (fun t k => XS.icmpYes X0.here hx rfl (pc0 := 15) (pc' := 20) rfl (hb hby own_d1_15) rfl (feq hc103).2 (by decide) (by decide) k) ?_
      refine own_by (g' := (mkF m 22 #[.val (.int u1), .val (.ref r1), .val (.ref r2), .val (.ref r3), .val (.int v101)] [(.int v101)])) (fun t k => XS.iload X0.here hx rfl (hb hby own_d1_20) rfl k) ?_
      refine own_by (g' := (mkF m 23 #[.val (.int u1), .val (.ref r1), .val (.ref r2), .val (.ref r3), .val (.int v101)] [(.int (2 : Int32)), (.int v101)])) (fun t k => XS.iconst X0.here hx rfl (hb hby own_d1_22) k) ?_
      by_cases hc104 : v101 = (2 : Int32)
      ·
        refine own_by (g' := (mkF m 26 #[.val (.int u1), .val (.ref r1), .val (.ref r2), .val (.ref r3), .val (.int v101)] [])) (fun t k => XS.icmpNo X0.here hx rfl (hb hby own_d1_23) rfl (teq hc104).2 k) ?_
        refine own_by (g' := (mkF m 27 #[.val (.int u1), .val (.ref r1), .val (.ref r2), .val (.ref r3), .val (.int v101)] [.null])) (fun t k => XS.aconstNull X0.here hx rfl (hb hby own_d1_26) k) ?_
        refine own_retA X0 hx hlk hret rfl rfl (hb hby own_d1_27) (by decide) (by decide) ?_
        exact ⟨.null, rfl, N0, e0, rfl⟩
      ·
        refine own_by (g' := (mkF m 28 #[.val (.int u1), .val (.ref r1), .val (.ref r2), .val (.ref r3), .val (.int v101)] [])) (fun t k => XS.icmpYes X0.here hx rfl (pc0 := 23) (pc' := 28) rfl (hb hby own_d1_23) rfl (feq hc104).2 (by decide) (by decide) k) ?_
        refine own_by (g' := (mkF m 29 #[.val (.int u1), .val (.ref r1), .val (.ref r2), .val (.ref r3), .val (.int v101)] [(.ref r3)])) (fun t k => XS.aloadN X0.here hx rfl (hb hby own_d1_28) rfl rfl k) ?_
        refine own_retA X0 hx hlk hret rfl rfl (hb hby own_d1_29) (by decide) (by decide) ?_
        exact ⟨(.ref r3), rfl, N0, e0, rfl⟩
theorem own_lt23 {a : Int32} (h : a < (2 : Int32)) : a < (3 : Int32) := by
  rw [Int32.lt_iff_toInt_lt] at *
  have e2 : (2 : Int32).toInt = 2 := by decide
  have e3 : (3 : Int32).toInt = 3 := by decide
  omega
theorem own_ad_int : "[" ++ (newarray.typeOf .int).toString = "[I" := by decide +kernel
theorem own_pd2 : parseMethodDescriptor "(I[I[I[I)[I" = some ⟨[.int, (.array .int), (.array .int), (.array .int)], some (.array .int)⟩ := by decide +kernel
theorem own_pd3 : parseMethodDescriptor "()Ljava/lang/Object;" = some ⟨[], some (.object "java/lang/Object")⟩ := by decide +kernel
theorem own_pd4 : parseMethodDescriptor "()Z" = some ⟨[], some .boolean⟩ := by decide +kernel
theorem own_pd5 : parseMethodDescriptor "(Ljava/lang/Object;)V" = some ⟨[(.object "java/lang/Object")], none⟩ := by decide +kernel
def Q_own_law (Z : State) (u1 : Int32) (u2 : Int32) (h0 : Heap) (n0 : Nat) (v : Option Value) (h : Heap) (L : List Loc) : Prop := v = some (.int (1 : Int32)) ∧ Fr n0 L ∧ Keep h0 h []
theorem own_ef_own_law (m : MethodId) (u1 : Int32) (u2 : Int32) : entryFrame m #[(.int u1), (.int u2)] maxLocals = mkF m 0 #[.val (.int u1), .val (.int u2), .unset, .unset, .unset, .unset, .unset, .unset, .unset, .unset, .unset, .unset] [] := by first | (simp [entryFrame, mkF, argsToLocals, Value.category, maxLocals]; done) | rfl
set_option maxRecDepth 65536 in
set_option maxHeartbeats 40000000 in
theorem own_law (l : Launch) (Z : State) (a0 : Array Value) (hw : ∀ d ∈ tables_1, d.before a0 Z = true) (ws : List Jvm.Cond) (u1 : Int32) (u2 : Int32) (h0 : Heap) (n0 : Nat) (Z0 : n0 ≤ h0.size)  :
    own_Ctr l Z x code maxLocals ret ws room_1 6 77 #[(.int u1), (.int u2)] h0 (Q_own_law Z u1 u2 h0 n0) := by
  refine own_enter (plainFor_of_name own_pn3) ?_
  intro p e s m below meth c s₁ X0 hx hZ hby hml hown hnm hlk hret e0
  have N0 := Fr.nil n0
  refine own_cast (own_ef_own_law m u1 u2) ?_
  refine own_by (g' := (mkF m 1 #[.val (.int u1), .val (.int u2), .unset, .unset, .unset, .unset, .unset, .unset, .unset, .unset, .unset, .unset] [(.int u1)])) (fun t k => XS.iloadN X0.here hx rfl (hb hby at_0) rfl k) ?_
  refine own_by (g' := (mkF m 2 #[.val (.int u1), .val (.int u2), .unset, .unset, .unset, .unset, .unset, .unset, .unset, .unset, .unset, .unset] [(.int (3 : Int32)), (.int u1)])) (fun t k => XS.iconst X0.here hx rfl (hb hby at_1) k) ?_
  refine own_by (g' := (mkF m 3 #[.val (.int u1), .val (.int u2), .unset, .unset, .unset, .unset, .unset, .unset, .unset, .unset, .unset, .unset] [(.int (u1 &&& (3 : Int32)))])) (fun t k => XS.iand X0.here hx rfl (hb hby at_2) rfl k) ?_
  refine own_by (g' := (mkF m 4 #[.val (.int u1), .val (.int u2), .unset, .unset, .unset, .unset, .unset, .unset, .unset, .unset, .unset, .unset] [(.int (3 : Int32)), (.int (u1 &&& (3 : Int32)))])) (fun t k => XS.iconst X0.here hx rfl (hb hby at_3) k) ?_
  refine own_by (g' := (mkF m 5 #[.val (.int u1), .val (.int u2), .unset, .unset, .unset, .unset, .unset, .unset, .unset, .unset, .unset, .unset] [(.int ((u1 &&& (3 : Int32)) % (3 : Int32)))])) (fun t k => iremM X0 hx rfl (hb hby at_4) rfl (by decide) k) ?_
  refine own_by (g' := (mkF m 6 #[.val (.int u1), .val (.int u2), .unset, .unset, .unset, .unset, .unset, .unset, .unset, .unset, .unset, .unset] [(.int (1 : Int32)), (.int ((u1 &&& (3 : Int32)) % (3 : Int32)))])) (fun t k => XS.iconst X0.here hx rfl (hb hby at_5) k) ?_
  refine own_by (g' := (mkF m 7 #[.val (.int u1), .val (.int u2), .unset, .unset, .unset, .unset, .unset, .unset, .unset, .unset, .unset, .unset] [(.int (((u1 &&& (3 : Int32)) % (3 : Int32)) + (1 : Int32)))])) (fun t k => XS.iadd X0.here hx rfl (hb hby at_6) rfl k) ?_
  generalize hv101 : (((u1 &&& (3 : Int32)) % (3 : Int32)) + (1 : Int32)) = v101
  refine own_by (g' := (mkF m 8 #[.val (.int u1), .val (.int u2), .val (.int v101), .unset, .unset, .unset, .unset, .unset, .unset, .unset, .unset, .unset] [])) (fun t k => XS.istoreN X0.here hx rfl (hb hby at_7) rfl (l' := #[.val (.int u1), .val (.int u2), .val (.int v101), .unset, .unset, .unset, .unset, .unset, .unset, .unset, .unset, .unset]) rfl k) ?_
  refine own_by (g' := (mkF m 9 #[.val (.int u1), .val (.int u2), .val (.int v101), .unset, .unset, .unset, .unset, .unset, .unset, .unset, .unset, .unset] [(.int (1 : Int32))])) (fun t k => XS.iconst X0.here hx rfl (hb hby at_8) k) ?_
  obtain ⟨T102, h102, k102, X102, e102, E102, A102, Y102, st102⟩ := newPE X0 hx hZ (hw _ (List.mem_of_getElem? (i := 0) rfl)) e0 (g := (mkF m 9 #[.val (.int u1), .val (.int u2), .val (.int v101), .unset, .unset, .unset, .unset, .unset, .unset, .unset, .unset, .unset] [(.int (1 : Int32))])) rfl (hb hby at_9) rfl (by decide) (cap := 1) (by decide) (by decide) (by decide) (by decide) (ad := "[I") own_ad_int
  obtain ⟨b102, g102⟩ : ∃ z, z = h0.size := ⟨_, rfl⟩
  rw [← g102] at A102 Y102 st102
  have sz_b102 : h0.size ≤ b102 := Nat.le_trans (Nat.le_refl _) (Nat.le_of_eq g102.symm)
  have g_b102 : n0 ≤ b102 := Nat.le_trans Z0 sz_b102
  have V102 : Arv Z h102 b102 k102 .int (1 : Int32) [(.int (0 : Int32))] (.int (0 : Int32)) := (Arv.new A102 (by decide)).pad (pad_rep [] (.int (0 : Int32)) 1)
  refine own_by (g' := (mkF m 11 #[.val (.int u1), .val (.int u2), .val (.int v101), .unset, .unset, .unset, .unset, .unset, .unset, .unset, .unset, .unset] [(.ref b102)])) st102 ?_
  refine own_by (g' := (mkF m 12 #[.val (.int u1), .val (.int u2), .val (.int v101), .val (.ref b102), .unset, .unset, .unset, .unset, .unset, .unset, .unset, .unset] [])) (fun t k => XS.astoreN X102.here hx rfl (hb hby at_11) rfl rfl (l' := #[.val (.int u1), .val (.int u2), .val (.int v101), .val (.ref b102), .unset, .unset, .unset, .unset, .unset, .unset, .unset, .unset]) rfl k) ?_
  refine own_by (g' := (mkF m 13 #[.val (.int u1), .val (.int u2), .val (.int v101), .val (.ref b102), .unset, .unset, .unset, .unset, .unset, .unset, .unset, .unset] [(.int (1 : Int32))])) (fun t k => XS.iconst X102.here hx rfl (hb hby at_12) k) ?_
  obtain ⟨T103, h103, k103, X103, e103, E103, A103, Y103, st103⟩ := newPE X102 hx hZ (hw _ (List.mem_of_getElem? (i := 0) rfl)) e102 (g := (mkF m 13 #[.val (.int u1), .val (.int u2), .val (.int v101), .val (.ref b102), .unset, .unset, .unset, .unset, .unset, .unset, .unset, .unset] [(.int (1 : Int32))])) rfl (hb hby at_13) rfl (by decide) (cap := 1) (by decide) (by decide) (by decide) (by decide) (ad := "[I") own_ad_int
  obtain ⟨b103, g103⟩ : ∃ z, z = h102.size := ⟨_, rfl⟩
  rw [← g103] at A103 Y103 st103
  have sz_b103 : h0.size ≤ b103 := Nat.le_trans E102.1 (Nat.le_of_eq g103.symm)
  have g_b103 : n0 ≤ b103 := Nat.le_trans Z0 sz_b103
  have V103 : Arv Z h103 b103 k103 .int (1 : Int32) [(.int (0 : Int32))] (.int (0 : Int32)) := (Arv.new A103 (by decide)).pad (pad_rep [] (.int (0 : Int32)) 1)
  refine own_by (g' := (mkF m 15 #[.val (.int u1), .val (.int u2), .val (.int v101), .val (.ref b102), .unset, .unset, .unset, .unset, .unset, .unset, .unset, .unset] [(.ref b103)])) st103 ?_
  refine own_by (g' := (mkF m 17 #[.val (.int u1), .val (.int u2), .val (.int v101), .val (.ref b102), .val (.ref b103), .unset, .unset, .unset, .unset, .unset, .unset, .unset] [])) (fun t k => XS.astore X103.here hx rfl (hb hby at_15) rfl rfl (l' := #[.val (.int u1), .val (.int u2), .val (.int v101), .val (.ref b102), .val (.ref b103), .unset, .unset, .unset, .unset, .unset, .unset, .unset]) rfl k) ?_
  refine own_by (g' := (mkF m 18 #[.val (.int u1), .val (.int u2), .val (.int v101), .val (.ref b102), .val (.ref b103), .unset, .unset, .unset, .unset, .unset, .unset, .unset] [(.int (1 : Int32))])) (fun t k => XS.iconst X103.here hx rfl (hb hby at_17) k) ?_
  obtain ⟨T104, h104, k104, X104, e104, E104, A104, Y104, st104⟩ := newPE X103 hx hZ (hw _ (List.mem_of_getElem? (i := 0) rfl)) e103 (g := (mkF m 18 #[.val (.int u1), .val (.int u2), .val (.int v101), .val (.ref b102), .val (.ref b103), .unset, .unset, .unset, .unset, .unset, .unset, .unset] [(.int (1 : Int32))])) rfl (hb hby at_18) rfl (by decide) (cap := 1) (by decide) (by decide) (by decide) (by decide) (ad := "[I") own_ad_int
  obtain ⟨b104, g104⟩ : ∃ z, z = h103.size := ⟨_, rfl⟩
  rw [← g104] at A104 Y104 st104
  have sz_b104 : h0.size ≤ b104 := Nat.le_trans (Nat.le_trans E102.1 E103.1) (Nat.le_of_eq g104.symm)
  have g_b104 : n0 ≤ b104 := Nat.le_trans Z0 sz_b104
  have V104 : Arv Z h104 b104 k104 .int (1 : Int32) [(.int (0 : Int32))] (.int (0 : Int32)) := (Arv.new A104 (by decide)).pad (pad_rep [] (.int (0 : Int32)) 1)
  refine own_by (g' := (mkF m 20 #[.val (.int u1), .val (.int u2), .val (.int v101), .val (.ref b102), .val (.ref b103), .unset, .unset, .unset, .unset, .unset, .unset, .unset] [(.ref b104)])) st104 ?_
  refine own_by (g' := (mkF m 22 #[.val (.int u1), .val (.int u2), .val (.int v101), .val (.ref b102), .val (.ref b103), .val (.ref b104), .unset, .unset, .unset, .unset, .unset, .unset] [])) (fun t k => XS.astore X104.here hx rfl (hb hby at_20) rfl rfl (l' := #[.val (.int u1), .val (.int u2), .val (.int v101), .val (.ref b102), .val (.ref b103), .val (.ref b104), .unset, .unset, .unset, .unset, .unset, .unset]) rfl k) ?_
  refine own_by (g' := (mkF m 23 #[.val (.int u1), .val (.int u2), .val (.int v101), .val (.ref b102), .val (.ref b103), .val (.ref b104), .unset, .unset, .unset, .unset, .unset, .unset] [(.int u2)])) (fun t k => XS.iloadN X104.here hx rfl (hb hby at_22) rfl k) ?_
  refine own_by (g' := (mkF m 24 #[.val (.int u1), .val (.int u2), .val (.int v101), .val (.ref b102), .val (.ref b103), .val (.ref b104), .unset, .unset, .unset, .unset, .unset, .unset] [(.ref b102), (.int u2)])) (fun t k => XS.aloadN X104.here hx rfl (hb hby at_23) rfl rfl k) ?_
  refine own_by (g' := (mkF m 26 #[.val (.int u1), .val (.int u2), .val (.int v101), .val (.ref b102), .val (.ref b103), .val (.ref b104), .unset, .unset, .unset, .unset, .unset, .unset] [(.ref b103), (.ref b102), (.int u2)])) (fun t k => XS.aload X104.here hx rfl (hb hby at_24) rfl rfl k) ?_
  refine own_by (g' := (mkF m 28 #[.val (.int u1), .val (.int u2), .val (.int v101), .val (.ref b102), .val (.ref b103), .val (.ref b104), .unset, .unset, .unset, .unset, .unset, .unset] [(.ref b104), (.ref b103), (.ref b102), (.int u2)])) (fun t k => XS.aload X104.here hx rfl (hb hby at_26) rfl rfl k) ?_
  refine own_callS X104 hx hZ hown (hw _ (List.mem_of_getElem? (i := 1) rfl)) (hw _ (List.mem_of_getElem? (i := 2) rfl)) (hw _ (List.mem_of_getElem? (i := 3) rfl)) (hw _ (List.mem_of_getElem? (i := 4) rfl)) (by decide) (own_pick l Z a0 hw [] (u2) (b102) (b103) (b104) h104 n0 (Nat.le_trans Z0 (Nat.le_trans (Nat.le_trans E102.1 E103.1) E104.1)) ) 0 (by decide) (by decide) (by decide) (by decide) e104 (g := (mkF m 28 #[.val (.int u1), .val (.int u2), .val (.int v101), .val (.ref b102), .val (.ref b103), .val (.ref b104), .unset, .unset, .unset, .unset, .unset, .unset] [(.ref b104), (.ref b103), (.ref b102), (.int u2)])) rfl (by rw [hml]; rfl) (argsL := [(.int u2), (.ref b102), (.ref b103), (.ref b104)]) (rest := []) (lenOf own_pd2 rfl) rfl (by show 2 * 0 + _ ≤ _; exact Nat.le_of_eq rfl) (hb hby at_28) ?_
  intro v105 T105 L105 X105 q105
  obtain ⟨wr105, rfl, N105q, e105, f106⟩ := q105
  have N105 := Fr.app N0 N105q
  show own_Goes p e below s _ _ _ T105 (mkF m 31 #[.val (.int u1), .val (.int u2), .val (.int v101), .val (.ref b102), .val (.ref b103), .val (.ref b104), .unset, .unset, .unset, .unset, .unset, .unset] [wr105])
  refine own_by (g' := (mkF m 33 #[.val (.int u1), .val (.int u2), .val (.int v101), .val (.ref b102), .val (.ref b103), .val (.ref b104), .val wr105, .unset, .unset, .unset, .unset, .unset] [])) (fun t k => XS.astore X105.here hx rfl (hb hby at_31) rfl f106 (l' := #[.val (.int u1), .val (.int u2), .val (.int v101), .val (.ref b102), .val (.ref b103), .val (.ref b104), .val wr105, .unset, .unset, .unset, .unset, .unset]) (own_stG (o := .unset) rfl (Or.inl rfl) (own_cat1 f106) rfl) k) ?_
  refine own_by (g' := (mkF m 34 #[.val (.int u1), .val (.int u2), .val (.int v101), .val (.ref b102), .val (.ref b103), .val (.ref b104), .val wr105, .unset, .unset, .unset, .unset, .unset] [(.int u2)])) (fun t k => XS.iloadN X105.here hx rfl (hb hby at_33) rfl k) ?_
  refine own_by (g' := (mkF m 35 #[.val (.int u1), .val (.int u2), .val (.int v101), .val (.ref b102), .val (.ref b103), .val (.ref b104), .val wr105, .unset, .unset, .unset, .unset, .unset] [(.int (2 : Int32)), (.int u2)])) (fun t k => XS.iconst X105.here hx rfl (hb hby at_34) k) ?_
  refine own_by (g' := (mkF m 36 #[.val (.int u1), .val (.int u2), .val (.int v101), .val (.ref b102), .val (.ref b103), .val (.ref b104), .val wr105, .unset, .unset, .unset, .unset, .unset] [(.int ((u2).toUInt32 >>> ((2 : Int32) &&& 31).toUInt32).toInt32)])) (fun t k => XS.iushr X105.here hx rfl (hb hby at_35) rfl k) ?_
  refine own_by (g' := (mkF m 37 #[.val (.int u1), .val (.int u2), .val (.int v101), .val (.ref b102), .val (.ref b103), .val (.ref b104), .val wr105, .unset, .unset, .unset, .unset, .unset] [(.ref b102), (.int ((u2).toUInt32 >>> ((2 : Int32) &&& 31).toUInt32).toInt32)])) (fun t k => XS.aloadN X105.here hx rfl (hb hby at_36) rfl rfl k) ?_
  refine own_by (g' := (mkF m 39 #[.val (.int u1), .val (.int u2), .val (.int v101), .val (.ref b102), .val (.ref b103), .val (.ref b104), .val wr105, .unset, .unset, .unset, .unset, .unset] [(.ref b103), (.ref b102), (.int ((u2).toUInt32 >>> ((2 : Int32) &&& 31).toUInt32).toInt32)])) (fun t k => XS.aload X105.here hx rfl (hb hby at_37) rfl rfl k) ?_
  refine own_by (g' := (mkF m 41 #[.val (.int u1), .val (.int u2), .val (.int v101), .val (.ref b102), .val (.ref b103), .val (.ref b104), .val wr105, .unset, .unset, .unset, .unset, .unset] [(.ref b104), (.ref b103), (.ref b102), (.int ((u2).toUInt32 >>> ((2 : Int32) &&& 31).toUInt32).toInt32)])) (fun t k => XS.aload X105.here hx rfl (hb hby at_39) rfl rfl k) ?_
  refine own_callS X105 hx hZ hown (hw _ (List.mem_of_getElem? (i := 1) rfl)) (hw _ (List.mem_of_getElem? (i := 2) rfl)) (hw _ (List.mem_of_getElem? (i := 3) rfl)) (hw _ (List.mem_of_getElem? (i := 4) rfl)) (by decide) (own_pick l Z a0 hw [] (((u2).toUInt32 >>> ((2 : Int32) &&& 31).toUInt32).toInt32) (b102) (b103) (b104) h104 n0 (Nat.le_trans Z0 (Nat.le_trans (Nat.le_trans E102.1 E103.1) E104.1)) ) 0 (by decide) (by decide) (by decide) (by decide) e105 (g := (mkF m 41 #[.val (.int u1), .val (.int u2), .val (.int v101), .val (.ref b102), .val (.ref b103), .val (.ref b104), .val wr105, .unset, .unset, .unset, .unset, .unset] [(.ref b104), (.ref b103), (.ref b102), (.int ((u2).toUInt32 >>> ((2 : Int32) &&& 31).toUInt32).toInt32)])) rfl (by rw [hml]; rfl) (argsL := [(.int ((u2).toUInt32 >>> ((2 : Int32) &&& 31).toUInt32).toInt32), (.ref b102), (.ref b103), (.ref b104)]) (rest := []) (lenOf own_pd2 rfl) rfl (by show 2 * 0 + _ ≤ _; exact Nat.le_of_eq rfl) (hb hby at_41) ?_
  intro v107 T107 L107 X107 q107
  obtain ⟨wr107, rfl, N107q, e107, f108⟩ := q107
  have N107 := Fr.app N105 N107q
  show own_Goes p e below s _ _ _ T107 (mkF m 44 #[.val (.int u1), .val (.int u2), .val (.int v101), .val (.ref b102), .val (.ref b103), .val (.ref b104), .val wr105, .unset, .unset, .unset, .unset, .unset] [wr107])
  refine own_by (g' := (mkF m 46 #[.val (.int u1), .val (.int u2), .val (.int v101), .val (.ref b102), .val (.ref b103), .val (.ref b104), .val wr105, .val wr107, .unset, .unset, .unset, .unset] [])) (fun t k => XS.astore X107.here hx rfl (hb hby at_44) rfl f108 (l' := #[.val (.int u1), .val (.int u2), .val (.int v101), .val (.ref b102), .val (.ref b103), .val (.ref b104), .val wr105, .val wr107, .unset, .unset, .unset, .unset]) (own_stG (o := .unset) rfl (Or.inl rfl) (own_cat1 f108) rfl) k) ?_
  refine own_by (g' := (mkF m 47 #[.val (.int u1), .val (.int u2), .val (.int v101), .val (.ref b102), .val (.ref b103), .val (.ref b104), .val wr105, .val wr107, .unset, .unset, .unset, .unset] [(.int u2)])) (fun t k => XS.iloadN X107.here hx rfl (hb hby at_46) rfl k) ?_
  refine own_by (g' := (mkF m 48 #[.val (.int u1), .val (.int u2), .val (.int v101), .val (.ref b102), .val (.ref b103), .val (.ref b104), .val wr105, .val wr107, .unset, .unset, .unset, .unset] [(.int (4 : Int32)), (.int u2)])) (fun t k => XS.iconst X107.here hx rfl (hb hby at_47) k) ?_
  refine own_by (g' := (mkF m 49 #[.val (.int u1), .val (.int u2), .val (.int v101), .val (.ref b102), .val (.ref b103), .val (.ref b104), .val wr105, .val wr107, .unset, .unset, .unset, .unset] [(.int ((u2).toUInt32 >>> ((4 : Int32) &&& 31).toUInt32).toInt32)])) (fun t k => XS.iushr X107.here hx rfl (hb hby at_48) rfl k) ?_
  refine own_by (g' := (mkF m 50 #[.val (.int u1), .val (.int u2), .val (.int v101), .val (.ref b102), .val (.ref b103), .val (.ref b104), .val wr105, .val wr107, .unset, .unset, .unset, .unset] [(.ref b102), (.int ((u2).toUInt32 >>> ((4 : Int32) &&& 31).toUInt32).toInt32)])) (fun t k => XS.aloadN X107.here hx rfl (hb hby at_49) rfl rfl k) ?_
  refine own_by (g' := (mkF m 52 #[.val (.int u1), .val (.int u2), .val (.int v101), .val (.ref b102), .val (.ref b103), .val (.ref b104), .val wr105, .val wr107, .unset, .unset, .unset, .unset] [(.ref b103), (.ref b102), (.int ((u2).toUInt32 >>> ((4 : Int32) &&& 31).toUInt32).toInt32)])) (fun t k => XS.aload X107.here hx rfl (hb hby at_50) rfl rfl k) ?_
  refine own_by (g' := (mkF m 54 #[.val (.int u1), .val (.int u2), .val (.int v101), .val (.ref b102), .val (.ref b103), .val (.ref b104), .val wr105, .val wr107, .unset, .unset, .unset, .unset] [(.ref b104), (.ref b103), (.ref b102), (.int ((u2).toUInt32 >>> ((4 : Int32) &&& 31).toUInt32).toInt32)])) (fun t k => XS.aload X107.here hx rfl (hb hby at_52) rfl rfl k) ?_
  refine own_callS X107 hx hZ hown (hw _ (List.mem_of_getElem? (i := 1) rfl)) (hw _ (List.mem_of_getElem? (i := 2) rfl)) (hw _ (List.mem_of_getElem? (i := 3) rfl)) (hw _ (List.mem_of_getElem? (i := 4) rfl)) (by decide) (own_pick l Z a0 hw [] (((u2).toUInt32 >>> ((4 : Int32) &&& 31).toUInt32).toInt32) (b102) (b103) (b104) h104 n0 (Nat.le_trans Z0 (Nat.le_trans (Nat.le_trans E102.1 E103.1) E104.1)) ) 0 (by decide) (by decide) (by decide) (by decide) e107 (g := (mkF m 54 #[.val (.int u1), .val (.int u2), .val (.int v101), .val (.ref b102), .val (.ref b103), .val (.ref b104), .val wr105, .val wr107, .unset, .unset, .unset, .unset] [(.ref b104), (.ref b103), (.ref b102), (.int ((u2).toUInt32 >>> ((4 : Int32) &&& 31).toUInt32).toInt32)])) rfl (by rw [hml]; rfl) (argsL := [(.int ((u2).toUInt32 >>> ((4 : Int32) &&& 31).toUInt32).toInt32), (.ref b102), (.ref b103), (.ref b104)]) (rest := []) (lenOf own_pd2 rfl) rfl (by show 2 * 0 + _ ≤ _; exact Nat.le_of_eq rfl) (hb hby at_54) ?_
  intro v109 T109 L109 X109 q109
  obtain ⟨wr109, rfl, N109q, e109, f110⟩ := q109
  have N109 := Fr.app N107 N109q
  show own_Goes p e below s _ _ _ T109 (mkF m 57 #[.val (.int u1), .val (.int u2), .val (.int v101), .val (.ref b102), .val (.ref b103), .val (.ref b104), .val wr105, .val wr107, .unset, .unset, .unset, .unset] [wr109])
  refine own_by (g' := (mkF m 59 #[.val (.int u1), .val (.int u2), .val (.int v101), .val (.ref b102), .val (.ref b103), .val (.ref b104), .val wr105, .val wr107, .val wr109, .unset, .unset, .unset] [])) (fun t k => XS.astore X109.here hx rfl (hb hby at_57) rfl f110 (l' := #[.val (.int u1), .val (.int u2), .val (.int v101), .val (.ref b102), .val (.ref b103), .val (.ref b104), .val wr105, .val wr107, .val wr109, .unset, .unset, .unset]) (own_stG (o := .unset) rfl (Or.inl rfl) (own_cat1 f110) rfl) k) ?_
  refine own_by (g' := (mkF m 60 #[.val (.int u1), .val (.int u2), .val (.int v101), .val (.ref b102), .val (.ref b103), .val (.ref b104), .val wr105, .val wr107, .val wr109, .unset, .unset, .unset] [(.int u2)])) (fun t k => XS.iloadN X109.here hx rfl (hb hby at_59) rfl k) ?_
  refine own_by (g' := (mkF m 62 #[.val (.int u1), .val (.int u2), .val (.int v101), .val (.ref b102), .val (.ref b103), .val (.ref b104), .val wr105, .val wr107, .val wr109, .unset, .unset, .unset] [(.int (6 : Int32)), (.int u2)])) (fun t k => XS.bipush X109.here hx rfl (hb hby at_60) k) ?_
  refine own_by (g' := (mkF m 63 #[.val (.int u1), .val (.int u2), .val (.int v101), .val (.ref b102), .val (.ref b103), .val (.ref b104), .val wr105, .val wr107, .val wr109, .unset, .unset, .unset] [(.int ((u2).toUInt32 >>> ((6 : Int32) &&& 31).toUInt32).toInt32)])) (fun t k => XS.iushr X109.here hx rfl (hb hby at_62) rfl k) ?_
  refine own_by (g' := (mkF m 64 #[.val (.int u1), .val (.int u2), .val (.int v101), .val (.ref b102), .val (.ref b103), .val (.ref b104), .val wr105, .val wr107, .val wr109, .unset, .unset, .unset] [(.ref b102), (.int ((u2).toUInt32 >>> ((6 : Int32) &&& 31).toUInt32).toInt32)])) (fun t k => XS.aloadN X109.here hx rfl (hb hby at_63) rfl rfl k) ?_
  refine own_by (g' := (mkF m 66 #[.val (.int u1), .val (.int u2), .val (.int v101), .val (.ref b102), .val (.ref b103), .val (.ref b104), .val wr105, .val wr107, .val wr109, .unset, .unset, .unset] [(.ref b103), (.ref b102), (.int ((u2).toUInt32 >>> ((6 : Int32) &&& 31).toUInt32).toInt32)])) (fun t k => XS.aload X109.here hx rfl (hb hby at_64) rfl rfl k) ?_
  refine own_by (g' := (mkF m 68 #[.val (.int u1), .val (.int u2), .val (.int v101), .val (.ref b102), .val (.ref b103), .val (.ref b104), .val wr105, .val wr107, .val wr109, .unset, .unset, .unset] [(.ref b104), (.ref b103), (.ref b102), (.int ((u2).toUInt32 >>> ((6 : Int32) &&& 31).toUInt32).toInt32)])) (fun t k => XS.aload X109.here hx rfl (hb hby at_66) rfl rfl k) ?_
  refine own_callS X109 hx hZ hown (hw _ (List.mem_of_getElem? (i := 1) rfl)) (hw _ (List.mem_of_getElem? (i := 2) rfl)) (hw _ (List.mem_of_getElem? (i := 3) rfl)) (hw _ (List.mem_of_getElem? (i := 4) rfl)) (by decide) (own_pick l Z a0 hw [] (((u2).toUInt32 >>> ((6 : Int32) &&& 31).toUInt32).toInt32) (b102) (b103) (b104) h104 n0 (Nat.le_trans Z0 (Nat.le_trans (Nat.le_trans E102.1 E103.1) E104.1)) ) 0 (by decide) (by decide) (by decide) (by decide) e109 (g := (mkF m 68 #[.val (.int u1), .val (.int u2), .val (.int v101), .val (.ref b102), .val (.ref b103), .val (.ref b104), .val wr105, .val wr107, .val wr109, .unset, .unset, .unset] [(.ref b104), (.ref b103), (.ref b102), (.int ((u2).toUInt32 >>> ((6 : Int32) &&& 31).toUInt32).toInt32)])) rfl (by rw [hml]; rfl) (argsL := [(.int ((u2).toUInt32 >>> ((6 : Int32) &&& 31).toUInt32).toInt32), (.ref b102), (.ref b103), (.ref b104)]) (rest := []) (lenOf own_pd2 rfl) rfl (by show 2 * 0 + _ ≤ _; exact Nat.le_of_eq rfl) (hb hby at_68) ?_
  intro v111 T111 L111 X111 q111
  obtain ⟨wr111, rfl, N111q, e111, f112⟩ := q111
  have N111 := Fr.app N109 N111q
  show own_Goes p e below s _ _ _ T111 (mkF m 71 #[.val (.int u1), .val (.int u2), .val (.int v101), .val (.ref b102), .val (.ref b103), .val (.ref b104), .val wr105, .val wr107, .val wr109, .unset, .unset, .unset] [wr111])
  refine own_by (g' := (mkF m 73 #[.val (.int u1), .val (.int u2), .val (.int v101), .val (.ref b102), .val (.ref b103), .val (.ref b104), .val wr105, .val wr107, .val wr109, .val wr111, .unset, .unset] [])) (fun t k => XS.astore X111.here hx rfl (hb hby at_71) rfl f112 (l' := #[.val (.int u1), .val (.int u2), .val (.int v101), .val (.ref b102), .val (.ref b103), .val (.ref b104), .val wr105, .val wr107, .val wr109, .val wr111, .unset, .unset]) (own_stG (o := .unset) rfl (Or.inl rfl) (own_cat1 f112) rfl) k) ?_
  obtain ⟨T113, h113, X113, e113, E113, A113, D113, U113, st113⟩ := newO X111 hx hZ hown (hw _ (List.mem_of_getElem? (i := 5) rfl)) (hw _ (List.mem_of_getElem? (i := 6) rfl)) (hw _ (List.mem_of_getElem? (i := 7) rfl)) e111 (g := (mkF m 73 #[.val (.int u1), .val (.int u2), .val (.int v101), .val (.ref b102), .val (.ref b103), .val (.ref b104), .val wr105, .val wr107, .val wr109, .val wr111, .unset, .unset] [])) rfl (hb hby at_73) (by decide) (by decide)
  obtain ⟨b113, g113⟩ : ∃ z, z = h104.size := ⟨_, rfl⟩
  rw [← g113] at A113 D113 U113 st113
  have sz_b113 : h0.size ≤ b113 := Nat.le_trans (Nat.le_trans (Nat.le_trans E102.1 E103.1) E104.1) (Nat.le_of_eq g113.symm)
  have g_b113 : n0 ≤ b113 := Nat.le_trans Z0 sz_b113
  have f114 : Fld Z h113 b113 "com/example/purlin/purlin/framework/ServiceUse" "prototypes" "Ljava/util/Map;" .null := D113 (Or.inr (hw _ (List.mem_of_getElem? (i := 37) rfl))) (ty := (.object "java/util/Map")) (by decide)
  have f115 : Fld Z h113 b113 "com/example/purlin/purlin/framework/ServiceUse" "object" "Ljava/lang/Object;" .null := D113 (Or.inl (hw _ (List.mem_of_getElem? (i := 44) rfl))) (ty := (.object "java/lang/Object")) (by decide)
  have f116 : Fld Z h113 b113 "com/example/purlin/purlin/framework/ServiceUse" "count" "I" (.int (0 : Int32)) := D113 (Or.inl (hw _ (List.mem_of_getElem? (i := 51) rfl))) (ty := .int) (by decide)
  refine own_by (g' := (mkF m 76 #[.val (.int u1), .val (.int u2), .val (.int v101), .val (.ref b102), .val (.ref b103), .val (.ref b104), .val wr105, .val wr107, .val wr109, .val wr111, .unset, .unset] [(.ref b113)])) st113 ?_
  refine own_by (g' := (mkF m 77 #[.val (.int u1), .val (.int u2), .val (.int v101), .val (.ref b102), .val (.ref b103), .val (.ref b104), .val wr105, .val wr107, .val wr109, .val wr111, .unset, .unset] [(.ref b113), (.ref b113)])) (fun t k => XS.dup X113.here hx rfl (hb hby at_76) rfl rfl k) ?_
  refine own_callI X113 hx hZ hown rfl (hw _ (List.mem_of_getElem? (i := 8) rfl)) (hw _ (List.mem_of_getElem? (i := 9) rfl)) (hw _ (List.mem_of_getElem? (i := 7) rfl)) (hw _ (List.mem_of_getElem? (i := 10) rfl)) (by decide) (a := b113) (own_si l Z a0 hw [] (b113) h113 n0 (Nat.le_trans Z0 (Nat.le_trans (Nat.le_trans (Nat.le_trans E102.1 E103.1) E104.1) E113.1)) A113 f114 f115 f116 g_b113) 1 (by decide) (by decide) (by decide) (by decide) e113 (g := (mkF m 77 #[.val (.int u1), .val (.int u2), .val (.int v101), .val (.ref b102), .val (.ref b103), .val (.ref b104), .val wr105, .val wr107, .val wr109, .val wr111, .unset, .unset] [(.ref b113), (.ref b113)])) rfl (by rw [hml]; rfl) (argsL := []) (rest := [(.ref b113)]) (lenOf own_pd0 rfl) rfl (by show 2 * 0 + _ ≤ _; exact Nat.le_of_eq rfl) (hb hby at_77) ?_
  intro v117 T117 L117 X117 q117
  obtain ⟨bm117, rfl, N117q, K117, f118, f119, f120, f121⟩ := q117
  have N117 := Fr.app N111 N117q
  show own_Goes p e below s _ _ _ T117 (mkF m 80 #[.val (.int u1), .val (.int u2), .val (.int v101), .val (.ref b102), .val (.ref b103), .val (.ref b104), .val wr105, .val wr107, .val wr109, .val wr111, .unset, .unset] [(.ref b113)])
  refine own_by (g' := (mkF m 82 #[.val (.int u1), .val (.int u2), .val (.int v101), .val (.ref b102), .val (.ref b103), .val (.ref b104), .val wr105, .val wr107, .val wr109, .val wr111, .val (.ref b113), .unset] [])) (fun t k => XS.astore X117.here hx rfl (hb hby at_80) rfl rfl (l' := #[.val (.int u1), .val (.int u2), .val (.int v101), .val (.ref b102), .val (.ref b103), .val (.ref b104), .val wr105, .val wr107, .val wr109, .val wr111, .val (.ref b113), .unset]) rfl k) ?_
  refine own_by (g' := (mkF m 84 #[.val (.int u1), .val (.int u2), .val (.int v101), .val (.ref b102), .val (.ref b103), .val (.ref b104), .val wr105, .val wr107, .val wr109, .val wr111, .val (.ref b113), .unset] [(.ref b113)])) (fun t k => XS.aload X117.here hx rfl (hb hby at_82) rfl rfl k) ?_
  refine own_callV X117 hx hZ hown (hw _ (List.mem_of_getElem? (i := 38) rfl)) (hw _ (List.mem_of_getElem? (i := 39) rfl)) (notFace_of_selects (args := #[]) (mvT hZ (hw _ (List.mem_of_getElem? (i := 41) rfl)))) (hw _ (List.mem_of_getElem? (i := 41) rfl)) (hw _ (List.mem_of_getElem? (i := 40) rfl)) (hw _ (List.mem_of_getElem? (i := 42) rfl)) (hw _ (List.mem_of_getElem? (i := 7) rfl)) (by decide) (a := b113) f118 (own_ob l Z a0 hw [] (b113) (.null) T117.heap n0 (Nat.le_trans Z0 (Nat.le_trans (Nat.le_trans (Nat.le_trans (Nat.le_trans E102.1 E103.1) E104.1) E113.1) K117.1)) f120 rfl) 0 (by decide) (by decide) (by decide) (by decide) rfl (g := (mkF m 84 #[.val (.int u1), .val (.int u2), .val (.int v101), .val (.ref b102), .val (.ref b103), .val (.ref b104), .val wr105, .val wr107, .val wr109, .val wr111, .val (.ref b113), .unset] [(.ref b113)])) rfl (by rw [hml]; rfl) (argsL := []) (rest := []) (lenOf own_pd3 rfl) rfl (by show 2 * 0 + _ ≤ _; exact Nat.le_of_eq rfl) (hb hby at_84) ?_
  intro v122 T122 L122 X122 q122
  obtain ⟨rfl, N122q, e122⟩ := q122
  have N122 := Fr.app N117 N122q
  show own_Goes p e below s _ _ _ T122 (mkF m 87 #[.val (.int u1), .val (.int u2), .val (.int v101), .val (.ref b102), .val (.ref b103), .val (.ref b104), .val wr105, .val wr107, .val wr109, .val wr111, .val (.ref b113), .unset] [.null])
  refine own_by (g' := (mkF m 90 #[.val (.int u1), .val (.int u2), .val (.int v101), .val (.ref b102), .val (.ref b103), .val (.ref b104), .val wr105, .val wr107, .val wr109, .val wr111, .val (.ref b113), .unset] [])) (fun t k => XS.ifnonnullNo X122.here hx rfl (hb hby at_87) rfl k) ?_
  refine own_by (g' := (mkF m 92 #[.val (.int u1), .val (.int u2), .val (.int v101), .val (.ref b102), .val (.ref b103), .val (.ref b104), .val wr105, .val wr107, .val wr109, .val wr111, .val (.ref b113), .unset] [(.ref b113)])) (fun t k => XS.aload X122.here hx rfl (hb hby at_90) rfl rfl k) ?_
  refine own_callV X122 hx hZ hown (hw _ (List.mem_of_getElem? (i := 45) rfl)) (hw _ (List.mem_of_getElem? (i := 46) rfl)) (notFace_of_selects (args := #[]) (mvT hZ (hw _ (List.mem_of_getElem? (i := 48) rfl)))) (hw _ (List.mem_of_getElem? (i := 48) rfl)) (hw _ (List.mem_of_getElem? (i := 47) rfl)) (hw _ (List.mem_of_getElem? (i := 49) rfl)) (hw _ (List.mem_of_getElem? (i := 7) rfl)) (by decide) (a := b113) f118 (own_ic0 l Z a0 hw [] (b113) ((0 : Int32)) T117.heap n0 (Nat.le_trans Z0 (Nat.le_trans (Nat.le_trans (Nat.le_trans (Nat.le_trans E102.1 E103.1) E104.1) E113.1) K117.1)) f121 (by first | assumption | decide)) 0 (by decide) (by decide) (by decide) (by decide) e122 (g := (mkF m 92 #[.val (.int u1), .val (.int u2), .val (.int v101), .val (.ref b102), .val (.ref b103), .val (.ref b104), .val wr105, .val wr107, .val wr109, .val wr111, .val (.ref b113), .unset] [(.ref b113)])) rfl (by rw [hml]; rfl) (argsL := []) (rest := []) (lenOf own_pd4 rfl) rfl (by show 2 * 0 + _ ≤ _; exact Nat.le_of_eq rfl) (hb hby at_92) ?_
  intro v123 T123 L123 X123 q123
  obtain ⟨rfl, N123q, e123⟩ := q123
  have N123 := Fr.app N122 N123q
  show own_Goes p e below s _ _ _ T123 (mkF m 95 #[.val (.int u1), .val (.int u2), .val (.int v101), .val (.ref b102), .val (.ref b103), .val (.ref b104), .val wr105, .val wr107, .val wr109, .val wr111, .val (.ref b113), .unset] [(.int (0 : Int32))])
  refine own_by (g' := (mkF m 98 #[.val (.int u1), .val (.int u2), .val (.int v101), .val (.ref b102), .val (.ref b103), .val (.ref b104), .val wr105, .val wr107, .val wr109, .val wr111, .val (.ref b113), .unset] [])) (fun t k => XS.ifNo X123.here hx rfl (hb hby at_95) rfl ((if0 _ _).trans (teq (by decide : (0 : Int32) = (0 : Int32))).2) k) ?_
  refine own_by (g' := (mkF m 99 #[.val (.int u1), .val (.int u2), .val (.int v101), .val (.ref b102), .val (.ref b103), .val (.ref b104), .val wr105, .val wr107, .val wr109, .val wr111, .val (.ref b113), .unset] [(.int (1 : Int32))])) (fun t k => XS.iconst X123.here hx rfl (hb hby at_98) k) ?_
  refine own_by (g' := (mkF m 103 #[.val (.int u1), .val (.int u2), .val (.int v101), .val (.ref b102), .val (.ref b103), .val (.ref b104), .val wr105, .val wr107, .val wr109, .val wr111, .val (.ref b113), .unset] [(.int (1 : Int32))])) (fun t k => XS.goto X123.here hx rfl (pc0 := 99) (pc' := 103) rfl (hb hby at_99) (by decide) (by decide) k) ?_
  refine own_by (g' := (mkF m 105 #[.val (.int u1), .val (.int u2), .val (.int v101), .val (.ref b102), .val (.ref b103), .val (.ref b104), .val wr105, .val wr107, .val wr109, .val wr111, .val (.ref b113), .val (.int (1 : Int32))] [])) (fun t k => XS.istore X123.here hx rfl (hb hby at_103) rfl (l' := #[.val (.int u1), .val (.int u2), .val (.int v101), .val (.ref b102), .val (.ref b103), .val (.ref b104), .val wr105, .val wr107, .val wr109, .val wr111, .val (.ref b113), .val (.int (1 : Int32))]) rfl k) ?_
  refine own_by (g' := (mkF m 107 #[.val (.int u1), .val (.int u2), .val (.int v101), .val (.ref b102), .val (.ref b103), .val (.ref b104), .val wr105, .val wr107, .val wr109, .val wr111, .val (.ref b113), .val (.int (1 : Int32))] [(.ref b113)])) (fun t k => XS.aload X123.here hx rfl (hb hby at_105) rfl rfl k) ?_
  refine own_by (g' := (mkF m 109 #[.val (.int u1), .val (.int u2), .val (.int v101), .val (.ref b102), .val (.ref b103), .val (.ref b104), .val wr105, .val wr107, .val wr109, .val wr111, .val (.ref b113), .val (.int (1 : Int32))] [wr105, (.ref b113)])) (fun t k => XS.aload X123.here hx rfl (hb hby at_107) rfl f106 k) ?_
  refine own_callV X123 hx hZ hown (hw _ (List.mem_of_getElem? (i := 52) rfl)) (hw _ (List.mem_of_getElem? (i := 53) rfl)) (notFace_of_selects (args := #[]) (mvT hZ (hw _ (List.mem_of_getElem? (i := 55) rfl)))) (hw _ (List.mem_of_getElem? (i := 55) rfl)) (hw _ (List.mem_of_getElem? (i := 54) rfl)) (hw _ (List.mem_of_getElem? (i := 56) rfl)) (hw _ (List.mem_of_getElem? (i := 7) rfl)) (by decide) (a := b113) f118 (own_use0 l Z a0 hw [] (b113) (wr105) (.null) ((0 : Int32)) T117.heap n0 (Nat.le_trans Z0 (Nat.le_trans (Nat.le_trans (Nat.le_trans (Nat.le_trans E102.1 E103.1) E104.1) E113.1) K117.1)) f118 f120 f121 rfl g_b113 f106 (by first | assumption | decide)) 0 (by decide) (by decide) (by decide) (by decide) e123 (g := (mkF m 109 #[.val (.int u1), .val (.int u2), .val (.int v101), .val (.ref b102), .val (.ref b103), .val (.ref b104), .val wr105, .val wr107, .val wr109, .val wr111, .val (.ref b113), .val (.int (1 : Int32))] [wr105, (.ref b113)])) rfl (by rw [hml]; rfl) (argsL := [wr105]) (rest := []) (lenOf own_pd5 rfl) rfl (by show 2 * 0 + _ ≤ _; exact Nat.le_of_eq rfl) (hb hby at_109) ?_
  intro v124 T124 L124 X124 q124
  obtain ⟨rfl, N124q, K124, f125, f126, f127⟩ := q124
  have N124 := Fr.app N123 N124q
  have f128 : Fld Z T124.heap b113 "com/example/purlin/purlin/framework/ServiceUse" "count" "I" (.int (1 : Int32)) := f127
  show own_Goes p e below s _ _ _ T124 (mkF m 112 #[.val (.int u1), .val (.int u2), .val (.int v101), .val (.ref b102), .val (.ref b103), .val (.ref b104), .val wr105, .val wr107, .val wr109, .val wr111, .val (.ref b113), .val (.int (1 : Int32))] [])
  refine own_by (g' := (mkF m 114 #[.val (.int u1), .val (.int u2), .val (.int v101), .val (.ref b102), .val (.ref b103), .val (.ref b104), .val wr105, .val wr107, .val wr109, .val wr111, .val (.ref b113), .val (.int (1 : Int32))] [(.int (1 : Int32))])) (fun t k => XS.iload X124.here hx rfl (hb hby at_112) rfl k) ?_
  refine own_by (g' := (mkF m 117 #[.val (.int u1), .val (.int u2), .val (.int v101), .val (.ref b102), .val (.ref b103), .val (.ref b104), .val wr105, .val wr107, .val wr109, .val wr111, .val (.ref b113), .val (.int (1 : Int32))] [])) (fun t k => XS.ifNo X124.here hx rfl (hb hby at_114) rfl ((if0 _ _).trans (feq (by decide : ¬ ((1 : Int32) = (0 : Int32)))).1) k) ?_
  refine own_by (g' := (mkF m 119 #[.val (.int u1), .val (.int u2), .val (.int v101), .val (.ref b102), .val (.ref b103), .val (.ref b104), .val wr105, .val wr107, .val wr109, .val wr111, .val (.ref b113), .val (.int (1 : Int32))] [(.ref b113)])) (fun t k => XS.aload X124.here hx rfl (hb hby at_117) rfl rfl k) ?_
  refine own_callV X124 hx hZ hown (hw _ (List.mem_of_getElem? (i := 38) rfl)) (hw _ (List.mem_of_getElem? (i := 39) rfl)) (notFace_of_selects (args := #[]) (mvT hZ (hw _ (List.mem_of_getElem? (i := 41) rfl)))) (hw _ (List.mem_of_getElem? (i := 41) rfl)) (hw _ (List.mem_of_getElem? (i := 40) rfl)) (hw _ (List.mem_of_getElem? (i := 42) rfl)) (hw _ (List.mem_of_getElem? (i := 7) rfl)) (by decide) (a := b113) f125 (own_ob l Z a0 hw [] (b113) (wr105) T124.heap n0 (Nat.le_trans Z0 (Nat.le_trans (Nat.le_trans (Nat.le_trans (Nat.le_trans (Nat.le_trans E102.1 E103.1) E104.1) E113.1) K117.1) K124.1)) f126 f106) 0 (by decide) (by decide) (by decide) (by decide) rfl (g := (mkF m 119 #[.val (.int u1), .val (.int u2), .val (.int v101), .val (.ref b102), .val (.ref b103), .val (.ref b104), .val wr105, .val wr107, .val wr109, .val wr111, .val (.ref b113), .val (.int (1 : Int32))] [(.ref b113)])) rfl (by rw [hml]; rfl) (argsL := []) (rest := []) (lenOf own_pd3 rfl) rfl (by show 2 * 0 + _ ≤ _; exact Nat.le_of_eq rfl) (hb hby at_119) ?_
  intro v129 T129 L129 X129 q129
  obtain ⟨rfl, N129q, e129⟩ := q129
  have N129 := Fr.app N124 N129q
  show own_Goes p e below s _ _ _ T129 (mkF m 122 #[.val (.int u1), .val (.int u2), .val (.int v101), .val (.ref b102), .val (.ref b103), .val (.ref b104), .val wr105, .val wr107, .val wr109, .val wr111, .val (.ref b113), .val (.int (1 : Int32))] [wr105])
  refine own_by (g' := (mkF m 124 #[.val (.int u1), .val (.int u2), .val (.int v101), .val (.ref b102), .val (.ref b103), .val (.ref b104), .val wr105, .val wr107, .val wr109, .val wr111, .val (.ref b113), .val (.int (1 : Int32))] [wr105, wr105])) (fun t k => XS.aload X129.here hx rfl (hb hby at_122) rfl f106 k) ?_
  refine own_by (g' := (mkF m 127 #[.val (.int u1), .val (.int u2), .val (.int v101), .val (.ref b102), .val (.ref b103), .val (.ref b104), .val wr105, .val wr107, .val wr109, .val wr111, .val (.ref b113), .val (.int (1 : Int32))] [])) (fun t k => Jvm.RoadKit.acmp (g := (mkF m 124 #[.val (.int u1), .val (.int u2), .val (.int v101), .val (.ref b102), .val (.ref b103), .val (.ref b104), .val wr105, .val wr107, .val wr109, .val wr111, .val (.ref b113), .val (.int (1 : Int32))] [wr105, wr105])) X129 hx rfl f106 f106 (pc0 := 124) (pc' := 127) (same := true) rfl (hb hby at_124) rfl (decide_eq_true rfl) (by decide) (by decide) k) ?_
  refine own_by (g' := (mkF m 129 #[.val (.int u1), .val (.int u2), .val (.int v101), .val (.ref b102), .val (.ref b103), .val (.ref b104), .val wr105, .val wr107, .val wr109, .val wr111, .val (.ref b113), .val (.int (1 : Int32))] [(.ref b113)])) (fun t k => XS.aload X129.here hx rfl (hb hby at_127) rfl rfl k) ?_
  refine own_callV X129 hx hZ hown (hw _ (List.mem_of_getElem? (i := 45) rfl)) (hw _ (List.mem_of_getElem? (i := 46) rfl)) (notFace_of_selects (args := #[]) (mvT hZ (hw _ (List.mem_of_getElem? (i := 48) rfl)))) (hw _ (List.mem_of_getElem? (i := 48) rfl)) (hw _ (List.mem_of_getElem? (i := 47) rfl)) (hw _ (List.mem_of_getElem? (i := 49) rfl)) (hw _ (List.mem_of_getElem? (i := 7) rfl)) (by decide) (a := b113) f125 (own_ic1 l Z a0 hw [] (b113) ((1 : Int32)) T124.heap n0 (Nat.le_trans Z0 (Nat.le_trans (Nat.le_trans (Nat.le_trans (Nat.le_trans (Nat.le_trans E102.1 E103.1) E104.1) E113.1) K117.1) K124.1)) f128 (by first | assumption | decide)) 0 (by decide) (by decide) (by decide) (by decide) e129 (g := (mkF m 129 #[.val (.int u1), .val (.int u2), .val (.int v101), .val (.ref b102), .val (.ref b103), .val (.ref b104), .val wr105, .val wr107, .val wr109, .val wr111, .val (.ref b113), .val (.int (1 : Int32))] [(.ref b113)])) rfl (by rw [hml]; rfl) (argsL := []) (rest := []) (lenOf own_pd4 rfl) rfl (by show 2 * 0 + _ ≤ _; exact Nat.le_of_eq rfl) (hb hby at_129) ?_
  intro v130 T130 L130 X130 q130
  obtain ⟨rfl, N130q, e130⟩ := q130
  have N130 := Fr.app N129 N130q
  show own_Goes p e below s _ _ _ T130 (mkF m 132 #[.val (.int u1), .val (.int u2), .val (.int v101), .val (.ref b102), .val (.ref b103), .val (.ref b104), .val wr105, .val wr107, .val wr109, .val wr111, .val (.ref b113), .val (.int (1 : Int32))] [(.int (1 : Int32))])
  refine own_by (g' := (mkF m 135 #[.val (.int u1), .val (.int u2), .val (.int v101), .val (.ref b102), .val (.ref b103), .val (.ref b104), .val wr105, .val wr107, .val wr109, .val wr111, .val (.ref b113), .val (.int (1 : Int32))] [])) (fun t k => XS.ifNo X130.here hx rfl (hb hby at_132) rfl ((if0 _ _).trans (feq (by decide : ¬ ((1 : Int32) = (0 : Int32)))).1) k) ?_
  refine own_by (g' := (mkF m 136 #[.val (.int u1), .val (.int u2), .val (.int v101), .val (.ref b102), .val (.ref b103), .val (.ref b104), .val wr105, .val wr107, .val wr109, .val wr111, .val (.ref b113), .val (.int (1 : Int32))] [(.int (1 : Int32))])) (fun t k => XS.iconst X130.here hx rfl (hb hby at_135) k) ?_
  refine own_by (g' := (mkF m 140 #[.val (.int u1), .val (.int u2), .val (.int v101), .val (.ref b102), .val (.ref b103), .val (.ref b104), .val wr105, .val wr107, .val wr109, .val wr111, .val (.ref b113), .val (.int (1 : Int32))] [(.int (1 : Int32))])) (fun t k => XS.goto X130.here hx rfl (pc0 := 136) (pc' := 140) rfl (hb hby at_136) (by decide) (by decide) k) ?_
  refine own_by (g' := (mkF m 142 #[.val (.int u1), .val (.int u2), .val (.int v101), .val (.ref b102), .val (.ref b103), .val (.ref b104), .val wr105, .val wr107, .val wr109, .val wr111, .val (.ref b113), .val (.int (1 : Int32))] [])) (fun t k => XS.istore X130.here hx rfl (hb hby at_140) rfl (l' := #[.val (.int u1), .val (.int u2), .val (.int v101), .val (.ref b102), .val (.ref b103), .val (.ref b104), .val wr105, .val wr107, .val wr109, .val wr111, .val (.ref b113), .val (.int (1 : Int32))]) rfl k) ?_
  refine own_by (g' := (mkF m 143 #[.val (.int u1), .val (.int u2), .val (.int v101), .val (.ref b102), .val (.ref b103), .val (.ref b104), .val wr105, .val wr107, .val wr109, .val wr111, .val (.ref b113), .val (.int (1 : Int32))] [(.int v101)])) (fun t k => XS.iloadN X130.here hx rfl (hb hby at_142) rfl k) ?_
  refine own_by (g' := (mkF m 144 #[.val (.int u1), .val (.int u2), .val (.int v101), .val (.ref b102), .val (.ref b103), .val (.ref b104), .val wr105, .val wr107, .val wr109, .val wr111, .val (.ref b113), .val (.int (1 : Int32))] [(.int (2 : Int32)), (.int v101)])) (fun t k => XS.iconst X130.here hx rfl (hb hby at_143) k) ?_
  by_cases hc131 : v101 < (2 : Int32)
  ·
    refine own_by (g' := (mkF m 176 #[.val (.int u1), .val (.int u2), .val (.int v101), .val (.ref b102), .val (.ref b103), .val (.ref b104), .val wr105, .val wr107, .val wr109, .val wr111, .val (.ref b113), .val (.int (1 : Int32))] [])) (fun t k => XS.icmpYes X130.here hx rfl (pc0 := 144) (pc' := 176) rfl (hb hby at_144) rfl (tlt hc131).1 (by decide) (by decide) k) ?_
    refine own_by (g' := (mkF m 177 #[.val (.int u1), .val (.int u2), .val (.int v101), .val (.ref b102), .val (.ref b103), .val (.ref b104), .val wr105, .val wr107, .val wr109, .val wr111, .val (.ref b113), .val (.int (1 : Int32))] [(.int v101)])) (fun t k => XS.iloadN X130.here hx rfl (hb hby at_176) rfl k) ?_
    refine own_by (g' := (mkF m 178 #[.val (.int u1), .val (.int u2), .val (.int v101), .val (.ref b102), .val (.ref b103), .val (.ref b104), .val wr105, .val wr107, .val wr109, .val wr111, .val (.ref b113), .val (.int (1 : Int32))] [(.int (3 : Int32)), (.int v101)])) (fun t k => XS.iconst X130.here hx rfl (hb hby at_177) k) ?_
    refine own_by (g' := (mkF m 210 #[.val (.int u1), .val (.int u2), .val (.int v101), .val (.ref b102), .val (.ref b103), .val (.ref b104), .val wr105, .val wr107, .val wr109, .val wr111, .val (.ref b113), .val (.int (1 : Int32))] [])) (fun t k => XS.icmpYes X130.here hx rfl (pc0 := 178) (pc' := 210) rfl (hb hby at_178) rfl (tlt (own_lt23 hc131)).1 (by decide) (by decide) k) ?_
    refine own_by (g' := (mkF m 211 #[.val (.int u1), .val (.int u2), .val (.int v101), .val (.ref b102), .val (.ref b103), .val (.ref b104), .val wr105, .val wr107, .val wr109, .val wr111, .val (.ref b113), .val (.int (1 : Int32))] [(.int v101)])) (fun t k => XS.iloadN X130.here hx rfl (hb hby at_210) rfl k) ?_
    refine own_by (g' := (mkF m 212 #[.val (.int u1), .val (.int u2), .val (.int v101), .val (.ref b102), .val (.ref b103), .val (.ref b104), .val wr105, .val wr107, .val wr109, .val wr111, .val (.ref b113), .val (.int (1 : Int32))] [(.int (2 : Int32)), (.int v101)])) (fun t k => XS.iconst X130.here hx rfl (hb hby at_211) k) ?_
    refine own_by (g' := (mkF m 253 #[.val (.int u1), .val (.int u2), .val (.int v101), .val (.ref b102), .val (.ref b103), .val (.ref b104), .val wr105, .val wr107, .val wr109, .val wr111, .val (.ref b113), .val (.int (1 : Int32))] [])) (fun t k => XS.icmpYes X130.here hx rfl (pc0 := 212) (pc' := 253) rfl (hb hby at_212) rfl (tlt hc131).1 (by decide) (by decide) k) ?_
    refine own_by (g' := (mkF m 254 #[.val (.int u1), .val (.int u2), .val (.int v101), .val (.ref b102), .val (.ref b103), .val (.ref b104), .val wr105, .val wr107, .val wr109, .val wr111, .val (.ref b113), .val (.int (1 : Int32))] [(.int v101)])) (fun t k => XS.iloadN X130.here hx rfl (hb hby at_253) rfl k) ?_
    refine own_by (g' := (mkF m 255 #[.val (.int u1), .val (.int u2), .val (.int v101), .val (.ref b102), .val (.ref b103), .val (.ref b104), .val wr105, .val wr107, .val wr109, .val wr111, .val (.ref b113), .val (.int (1 : Int32))] [(.int (3 : Int32)), (.int v101)])) (fun t k => XS.iconst X130.here hx rfl (hb hby at_254) k) ?_
    refine own_by (g' := (mkF m 296 #[.val (.int u1), .val (.int u2), .val (.int v101), .val (.ref b102), .val (.ref b103), .val (.ref b104), .val wr105, .val wr107, .val wr109, .val wr111, .val (.ref b113), .val (.int (1 : Int32))] [])) (fun t k => XS.icmpYes X130.here hx rfl (pc0 := 255) (pc' := 296) rfl (hb hby at_255) rfl (tlt (own_lt23 hc131)).1 (by decide) (by decide) k) ?_
    refine own_by (g' := (mkF m 298 #[.val (.int u1), .val (.int u2), .val (.int v101), .val (.ref b102), .val (.ref b103), .val (.ref b104), .val wr105, .val wr107, .val wr109, .val wr111, .val (.ref b113), .val (.int (1 : Int32))] [(.int (1 : Int32))])) (fun t k => XS.iload X130.here hx rfl (hb hby at_296) rfl k) ?_
    refine own_by (g' := (mkF m 301 #[.val (.int u1), .val (.int u2), .val (.int v101), .val (.ref b102), .val (.ref b103), .val (.ref b104), .val wr105, .val wr107, .val wr109, .val wr111, .val (.ref b113), .val (.int (1 : Int32))] [])) (fun t k => XS.ifNo X130.here hx rfl (hb hby at_298) rfl ((if0 _ _).trans (feq (by decide : ¬ ((1 : Int32) = (0 : Int32)))).1) k) ?_
    refine own_by (g' := (mkF m 303 #[.val (.int u1), .val (.int u2), .val (.int v101), .val (.ref b102), .val (.ref b103), .val (.ref b104), .val wr105, .val wr107, .val wr109, .val wr111, .val (.ref b113), .val (.int (1 : Int32))] [(.ref b113)])) (fun t k => XS.aload X130.here hx rfl (hb hby at_301) rfl rfl k) ?_
    refine own_callV X130 hx hZ hown (hw _ (List.mem_of_getElem? (i := 57) rfl)) (hw _ (List.mem_of_getElem? (i := 58) rfl)) (notFace_of_selects (args := #[]) (mvT hZ (hw _ (List.mem_of_getElem? (i := 60) rfl)))) (hw _ (List.mem_of_getElem? (i := 60) rfl)) (hw _ (List.mem_of_getElem? (i := 59) rfl)) (hw _ (List.mem_of_getElem? (i := 61) rfl)) (hw _ (List.mem_of_getElem? (i := 7) rfl)) (by decide) (a := b113) f125 (own_un0 l Z a0 hw [] (b113) (wr105) ((1 : Int32)) T124.heap n0 (Nat.le_trans Z0 (Nat.le_trans (Nat.le_trans (Nat.le_trans (Nat.le_trans (Nat.le_trans E102.1 E103.1) E104.1) E113.1) K117.1) K124.1)) f125 f126 f128 f106 g_b113 (by first | assumption | decide)) 0 (by decide) (by decide) (by decide) (by decide) e130 (g := (mkF m 303 #[.val (.int u1), .val (.int u2), .val (.int v101), .val (.ref b102), .val (.ref b103), .val (.ref b104), .val wr105, .val wr107, .val wr109, .val wr111, .val (.ref b113), .val (.int (1 : Int32))] [(.ref b113)])) rfl (by rw [hml]; rfl) (argsL := []) (rest := []) (lenOf own_pd3 rfl) rfl (by show 2 * 0 + _ ≤ _; exact Nat.le_of_eq rfl) (hb hby at_303) ?_
    intro v132 T132 L132 X132 q132
    obtain ⟨rfl, N132q, K132, f133, f134, f135⟩ := q132
    have N132 := Fr.app N130 N132q
    have f136 : Fld Z T132.heap b113 "com/example/purlin/purlin/framework/ServiceUse" "count" "I" (.int (0 : Int32)) := f135
    show own_Goes p e below s _ _ _ T132 (mkF m 306 #[.val (.int u1), .val (.int u2), .val (.int v101), .val (.ref b102), .val (.ref b103), .val (.ref b104), .val wr105, .val wr107, .val wr109, .val wr111, .val (.ref b113), .val (.int (1 : Int32))] [wr105])
    refine own_by (g' := (mkF m 308 #[.val (.int u1), .val (.int u2), .val (.int v101), .val (.ref b102), .val (.ref b103), .val (.ref b104), .val wr105, .val wr107, .val wr109, .val wr111, .val (.ref b113), .val (.int (1 : Int32))] [wr105, wr105])) (fun t k => XS.aload X132.here hx rfl (hb hby at_306) rfl f106 k) ?_
    refine own_by (g' := (mkF m 311 #[.val (.int u1), .val (.int u2), .val (.int v101), .val (.ref b102), .val (.ref b103), .val (.ref b104), .val wr105, .val wr107, .val wr109, .val wr111, .val (.ref b113), .val (.int (1 : Int32))] [])) (fun t k => Jvm.RoadKit.acmp (g := (mkF m 308 #[.val (.int u1), .val (.int u2), .val (.int v101), .val (.ref b102), .val (.ref b103), .val (.ref b104), .val wr105, .val wr107, .val wr109, .val wr111, .val (.ref b113), .val (.int (1 : Int32))] [wr105, wr105])) X132 hx rfl f106 f106 (pc0 := 308) (pc' := 311) (same := true) rfl (hb hby at_308) rfl (decide_eq_true rfl) (by decide) (by decide) k) ?_
    refine own_by (g' := (mkF m 313 #[.val (.int u1), .val (.int u2), .val (.int v101), .val (.ref b102), .val (.ref b103), .val (.ref b104), .val wr105, .val wr107, .val wr109, .val wr111, .val (.ref b113), .val (.int (1 : Int32))] [(.ref b113)])) (fun t k => XS.aload X132.here hx rfl (hb hby at_311) rfl rfl k) ?_
    refine own_callV X132 hx hZ hown (hw _ (List.mem_of_getElem? (i := 45) rfl)) (hw _ (List.mem_of_getElem? (i := 46) rfl)) (notFace_of_selects (args := #[]) (mvT hZ (hw _ (List.mem_of_getElem? (i := 48) rfl)))) (hw _ (List.mem_of_getElem? (i := 48) rfl)) (hw _ (List.mem_of_getElem? (i := 47) rfl)) (hw _ (List.mem_of_getElem? (i := 49) rfl)) (hw _ (List.mem_of_getElem? (i := 7) rfl)) (by decide) (a := b113) f133 (own_ic0 l Z a0 hw [] (b113) ((0 : Int32)) T132.heap n0 (Nat.le_trans Z0 (Nat.le_trans (Nat.le_trans (Nat.le_trans (Nat.le_trans (Nat.le_trans (Nat.le_trans E102.1 E103.1) E104.1) E113.1) K117.1) K124.1) K132.1)) f136 (by first | assumption | decide)) 0 (by decide) (by decide) (by decide) (by decide) rfl (g := (mkF m 313 #[.val (.int u1), .val (.int u2), .val (.int v101), .val (.ref b102), .val (.ref b103), .val (.ref b104), .val wr105, .val wr107, .val wr109, .val wr111, .val (.ref b113), .val (.int (1 : Int32))] [(.ref b113)])) rfl (by rw [hml]; rfl) (argsL := []) (rest := []) (lenOf own_pd4 rfl) rfl (by show 2 * 0 + _ ≤ _; exact Nat.le_of_eq rfl) (hb hby at_313) ?_
    intro v137 T137 L137 X137 q137
    obtain ⟨rfl, N137q, e137⟩ := q137
    have N137 := Fr.app N132 N137q
    show own_Goes p e below s _ _ _ T137 (mkF m 316 #[.val (.int u1), .val (.int u2), .val (.int v101), .val (.ref b102), .val (.ref b103), .val (.ref b104), .val wr105, .val wr107, .val wr109, .val wr111, .val (.ref b113), .val (.int (1 : Int32))] [(.int (0 : Int32))])
    refine own_by (g' := (mkF m 319 #[.val (.int u1), .val (.int u2), .val (.int v101), .val (.ref b102), .val (.ref b103), .val (.ref b104), .val wr105, .val wr107, .val wr109, .val wr111, .val (.ref b113), .val (.int (1 : Int32))] [])) (fun t k => XS.ifNo X137.here hx rfl (hb hby at_316) rfl ((if0 _ _).trans (teq (by decide : (0 : Int32) = (0 : Int32))).2) k) ?_
    refine own_by (g' := (mkF m 321 #[.val (.int u1), .val (.int u2), .val (.int v101), .val (.ref b102), .val (.ref b103), .val (.ref b104), .val wr105, .val wr107, .val wr109, .val wr111, .val (.ref b113), .val (.int (1 : Int32))] [(.ref b113)])) (fun t k => XS.aload X137.here hx rfl (hb hby at_319) rfl rfl k) ?_
    refine own_callV X137 hx hZ hown (hw _ (List.mem_of_getElem? (i := 38) rfl)) (hw _ (List.mem_of_getElem? (i := 39) rfl)) (notFace_of_selects (args := #[]) (mvT hZ (hw _ (List.mem_of_getElem? (i := 41) rfl)))) (hw _ (List.mem_of_getElem? (i := 41) rfl)) (hw _ (List.mem_of_getElem? (i := 40) rfl)) (hw _ (List.mem_of_getElem? (i := 42) rfl)) (hw _ (List.mem_of_getElem? (i := 7) rfl)) (by decide) (a := b113) f133 (own_ob l Z a0 hw [] (b113) (.null) T132.heap n0 (Nat.le_trans Z0 (Nat.le_trans (Nat.le_trans (Nat.le_trans (Nat.le_trans (Nat.le_trans (Nat.le_trans E102.1 E103.1) E104.1) E113.1) K117.1) K124.1) K132.1)) f134 rfl) 0 (by decide) (by decide) (by decide) (by decide) e137 (g := (mkF m 321 #[.val (.int u1), .val (.int u2), .val (.int v101), .val (.ref b102), .val (.ref b103), .val (.ref b104), .val wr105, .val wr107, .val wr109, .val wr111, .val (.ref b113), .val (.int (1 : Int32))] [(.ref b113)])) rfl (by rw [hml]; rfl) (argsL := []) (rest := []) (lenOf own_pd3 rfl) rfl (by show 2 * 0 + _ ≤ _; exact Nat.le_of_eq rfl) (hb hby at_321) ?_
    intro v138 T138 L138 X138 q138
    obtain ⟨rfl, N138q, e138⟩ := q138
    have N138 := Fr.app N137 N138q
    show own_Goes p e below s _ _ _ T138 (mkF m 324 #[.val (.int u1), .val (.int u2), .val (.int v101), .val (.ref b102), .val (.ref b103), .val (.ref b104), .val wr105, .val wr107, .val wr109, .val wr111, .val (.ref b113), .val (.int (1 : Int32))] [.null])
    refine own_by (g' := (mkF m 327 #[.val (.int u1), .val (.int u2), .val (.int v101), .val (.ref b102), .val (.ref b103), .val (.ref b104), .val wr105, .val wr107, .val wr109, .val wr111, .val (.ref b113), .val (.int (1 : Int32))] [])) (fun t k => XS.ifnonnullNo X138.here hx rfl (hb hby at_324) rfl k) ?_
    refine own_by (g' := (mkF m 328 #[.val (.int u1), .val (.int u2), .val (.int v101), .val (.ref b102), .val (.ref b103), .val (.ref b104), .val wr105, .val wr107, .val wr109, .val wr111, .val (.ref b113), .val (.int (1 : Int32))] [(.int (1 : Int32))])) (fun t k => XS.iconst X138.here hx rfl (hb hby at_327) k) ?_
    refine own_by (g' := (mkF m 332 #[.val (.int u1), .val (.int u2), .val (.int v101), .val (.ref b102), .val (.ref b103), .val (.ref b104), .val wr105, .val wr107, .val wr109, .val wr111, .val (.ref b113), .val (.int (1 : Int32))] [(.int (1 : Int32))])) (fun t k => XS.goto X138.here hx rfl (pc0 := 328) (pc' := 332) rfl (hb hby at_328) (by decide) (by decide) k) ?_
    refine own_by (g' := (mkF m 334 #[.val (.int u1), .val (.int u2), .val (.int v101), .val (.ref b102), .val (.ref b103), .val (.ref b104), .val wr105, .val wr107, .val wr109, .val wr111, .val (.ref b113), .val (.int (1 : Int32))] [])) (fun t k => XS.istore X138.here hx rfl (hb hby at_332) rfl (l' := #[.val (.int u1), .val (.int u2), .val (.int v101), .val (.ref b102), .val (.ref b103), .val (.ref b104), .val wr105, .val wr107, .val wr109, .val wr111, .val (.ref b113), .val (.int (1 : Int32))]) rfl k) ?_
    refine own_by (g' := (mkF m 336 #[.val (.int u1), .val (.int u2), .val (.int v101), .val (.ref b102), .val (.ref b103), .val (.ref b104), .val wr105, .val wr107, .val wr109, .val wr111, .val (.ref b113), .val (.int (1 : Int32))] [(.ref b113)])) (fun t k => XS.aload X138.here hx rfl (hb hby at_334) rfl rfl k) ?_
    refine own_by (g' := (mkF m 338 #[.val (.int u1), .val (.int u2), .val (.int v101), .val (.ref b102), .val (.ref b103), .val (.ref b104), .val wr105, .val wr107, .val wr109, .val wr111, .val (.ref b113), .val (.int (1 : Int32))] [wr111, (.ref b113)])) (fun t k => XS.aload X138.here hx rfl (hb hby at_336) rfl f112 k) ?_
    refine own_callV X138 hx hZ hown (hw _ (List.mem_of_getElem? (i := 52) rfl)) (hw _ (List.mem_of_getElem? (i := 53) rfl)) (notFace_of_selects (args := #[]) (mvT hZ (hw _ (List.mem_of_getElem? (i := 55) rfl)))) (hw _ (List.mem_of_getElem? (i := 55) rfl)) (hw _ (List.mem_of_getElem? (i := 54) rfl)) (hw _ (List.mem_of_getElem? (i := 56) rfl)) (hw _ (List.mem_of_getElem? (i := 7) rfl)) (by decide) (a := b113) f133 (own_use0 l Z a0 hw [] (b113) (wr111) (.null) ((0 : Int32)) T132.heap n0 (Nat.le_trans Z0 (Nat.le_trans (Nat.le_trans (Nat.le_trans (Nat.le_trans (Nat.le_trans (Nat.le_trans E102.1 E103.1) E104.1) E113.1) K117.1) K124.1) K132.1)) f133 f134 f136 rfl g_b113 f112 (by first | assumption | decide)) 0 (by decide) (by decide) (by decide) (by decide) e138 (g := (mkF m 338 #[.val (.int u1), .val (.int u2), .val (.int v101), .val (.ref b102), .val (.ref b103), .val (.ref b104), .val wr105, .val wr107, .val wr109, .val wr111, .val (.ref b113), .val (.int (1 : Int32))] [wr111, (.ref b113)])) rfl (by rw [hml]; rfl) (argsL := [wr111]) (rest := []) (lenOf own_pd5 rfl) rfl (by show 2 * 0 + _ ≤ _; exact Nat.le_of_eq rfl) (hb hby at_338) ?_
    intro v139 T139 L139 X139 q139
    obtain ⟨rfl, N139q, K139, f140, f141, f142⟩ := q139
    have N139 := Fr.app N138 N139q
    have f143 : Fld Z T139.heap b113 "com/example/purlin/purlin/framework/ServiceUse" "count" "I" (.int (1 : Int32)) := f142
    show own_Goes p e below s _ _ _ T139 (mkF m 341 #[.val (.int u1), .val (.int u2), .val (.int v101), .val (.ref b102), .val (.ref b103), .val (.ref b104), .val wr105, .val wr107, .val wr109, .val wr111, .val (.ref b113), .val (.int (1 : Int32))] [])
    refine own_by (g' := (mkF m 343 #[.val (.int u1), .val (.int u2), .val (.int v101), .val (.ref b102), .val (.ref b103), .val (.ref b104), .val wr105, .val wr107, .val wr109, .val wr111, .val (.ref b113), .val (.int (1 : Int32))] [(.int (1 : Int32))])) (fun t k => XS.iload X139.here hx rfl (hb hby at_341) rfl k) ?_
    refine own_by (g' := (mkF m 346 #[.val (.int u1), .val (.int u2), .val (.int v101), .val (.ref b102), .val (.ref b103), .val (.ref b104), .val wr105, .val wr107, .val wr109, .val wr111, .val (.ref b113), .val (.int (1 : Int32))] [])) (fun t k => XS.ifNo X139.here hx rfl (hb hby at_343) rfl ((if0 _ _).trans (feq (by decide : ¬ ((1 : Int32) = (0 : Int32)))).1) k) ?_
    refine own_by (g' := (mkF m 348 #[.val (.int u1), .val (.int u2), .val (.int v101), .val (.ref b102), .val (.ref b103), .val (.ref b104), .val wr105, .val wr107, .val wr109, .val wr111, .val (.ref b113), .val (.int (1 : Int32))] [(.ref b113)])) (fun t k => XS.aload X139.here hx rfl (hb hby at_346) rfl rfl k) ?_
    refine own_callV X139 hx hZ hown (hw _ (List.mem_of_getElem? (i := 38) rfl)) (hw _ (List.mem_of_getElem? (i := 39) rfl)) (notFace_of_selects (args := #[]) (mvT hZ (hw _ (List.mem_of_getElem? (i := 41) rfl)))) (hw _ (List.mem_of_getElem? (i := 41) rfl)) (hw _ (List.mem_of_getElem? (i := 40) rfl)) (hw _ (List.mem_of_getElem? (i := 42) rfl)) (hw _ (List.mem_of_getElem? (i := 7) rfl)) (by decide) (a := b113) f140 (own_ob l Z a0 hw [] (b113) (wr111) T139.heap n0 (Nat.le_trans Z0 (Nat.le_trans (Nat.le_trans (Nat.le_trans (Nat.le_trans (Nat.le_trans (Nat.le_trans (Nat.le_trans E102.1 E103.1) E104.1) E113.1) K117.1) K124.1) K132.1) K139.1)) f141 f112) 0 (by decide) (by decide) (by decide) (by decide) rfl (g := (mkF m 348 #[.val (.int u1), .val (.int u2), .val (.int v101), .val (.ref b102), .val (.ref b103), .val (.ref b104), .val wr105, .val wr107, .val wr109, .val wr111, .val (.ref b113), .val (.int (1 : Int32))] [(.ref b113)])) rfl (by rw [hml]; rfl) (argsL := []) (rest := []) (lenOf own_pd3 rfl) rfl (by show 2 * 0 + _ ≤ _; exact Nat.le_of_eq rfl) (hb hby at_348) ?_
    intro v144 T144 L144 X144 q144
    obtain ⟨rfl, N144q, e144⟩ := q144
    have N144 := Fr.app N139 N144q
    show own_Goes p e below s _ _ _ T144 (mkF m 351 #[.val (.int u1), .val (.int u2), .val (.int v101), .val (.ref b102), .val (.ref b103), .val (.ref b104), .val wr105, .val wr107, .val wr109, .val wr111, .val (.ref b113), .val (.int (1 : Int32))] [wr111])
    refine own_by (g' := (mkF m 353 #[.val (.int u1), .val (.int u2), .val (.int v101), .val (.ref b102), .val (.ref b103), .val (.ref b104), .val wr105, .val wr107, .val wr109, .val wr111, .val (.ref b113), .val (.int (1 : Int32))] [wr111, wr111])) (fun t k => XS.aload X144.here hx rfl (hb hby at_351) rfl f112 k) ?_
    refine own_by (g' := (mkF m 356 #[.val (.int u1), .val (.int u2), .val (.int v101), .val (.ref b102), .val (.ref b103), .val (.ref b104), .val wr105, .val wr107, .val wr109, .val wr111, .val (.ref b113), .val (.int (1 : Int32))] [])) (fun t k => Jvm.RoadKit.acmp (g := (mkF m 353 #[.val (.int u1), .val (.int u2), .val (.int v101), .val (.ref b102), .val (.ref b103), .val (.ref b104), .val wr105, .val wr107, .val wr109, .val wr111, .val (.ref b113), .val (.int (1 : Int32))] [wr111, wr111])) X144 hx rfl f112 f112 (pc0 := 353) (pc' := 356) (same := true) rfl (hb hby at_353) rfl (decide_eq_true rfl) (by decide) (by decide) k) ?_
    refine own_by (g' := (mkF m 358 #[.val (.int u1), .val (.int u2), .val (.int v101), .val (.ref b102), .val (.ref b103), .val (.ref b104), .val wr105, .val wr107, .val wr109, .val wr111, .val (.ref b113), .val (.int (1 : Int32))] [(.ref b113)])) (fun t k => XS.aload X144.here hx rfl (hb hby at_356) rfl rfl k) ?_
    refine own_callV X144 hx hZ hown (hw _ (List.mem_of_getElem? (i := 45) rfl)) (hw _ (List.mem_of_getElem? (i := 46) rfl)) (notFace_of_selects (args := #[]) (mvT hZ (hw _ (List.mem_of_getElem? (i := 48) rfl)))) (hw _ (List.mem_of_getElem? (i := 48) rfl)) (hw _ (List.mem_of_getElem? (i := 47) rfl)) (hw _ (List.mem_of_getElem? (i := 49) rfl)) (hw _ (List.mem_of_getElem? (i := 7) rfl)) (by decide) (a := b113) f140 (own_ic1 l Z a0 hw [] (b113) ((1 : Int32)) T139.heap n0 (Nat.le_trans Z0 (Nat.le_trans (Nat.le_trans (Nat.le_trans (Nat.le_trans (Nat.le_trans (Nat.le_trans (Nat.le_trans E102.1 E103.1) E104.1) E113.1) K117.1) K124.1) K132.1) K139.1)) f143 (by first | assumption | decide)) 0 (by decide) (by decide) (by decide) (by decide) e144 (g := (mkF m 358 #[.val (.int u1), .val (.int u2), .val (.int v101), .val (.ref b102), .val (.ref b103), .val (.ref b104), .val wr105, .val wr107, .val wr109, .val wr111, .val (.ref b113), .val (.int (1 : Int32))] [(.ref b113)])) rfl (by rw [hml]; rfl) (argsL := []) (rest := []) (lenOf own_pd4 rfl) rfl (by show 2 * 0 + _ ≤ _; exact Nat.le_of_eq rfl) (hb hby at_358) ?_
    intro v145 T145 L145 X145 q145
    obtain ⟨rfl, N145q, e145⟩ := q145
    have N145 := Fr.app N144 N145q
    show own_Goes p e below s _ _ _ T145 (mkF m 361 #[.val (.int u1), .val (.int u2), .val (.int v101), .val (.ref b102), .val (.ref b103), .val (.ref b104), .val wr105, .val wr107, .val wr109, .val wr111, .val (.ref b113), .val (.int (1 : Int32))] [(.int (1 : Int32))])
    refine own_by (g' := (mkF m 364 #[.val (.int u1), .val (.int u2), .val (.int v101), .val (.ref b102), .val (.ref b103), .val (.ref b104), .val wr105, .val wr107, .val wr109, .val wr111, .val (.ref b113), .val (.int (1 : Int32))] [])) (fun t k => XS.ifNo X145.here hx rfl (hb hby at_361) rfl ((if0 _ _).trans (feq (by decide : ¬ ((1 : Int32) = (0 : Int32)))).1) k) ?_
    refine own_by (g' := (mkF m 365 #[.val (.int u1), .val (.int u2), .val (.int v101), .val (.ref b102), .val (.ref b103), .val (.ref b104), .val wr105, .val wr107, .val wr109, .val wr111, .val (.ref b113), .val (.int (1 : Int32))] [(.int (1 : Int32))])) (fun t k => XS.iconst X145.here hx rfl (hb hby at_364) k) ?_
    refine own_by (g' := (mkF m 369 #[.val (.int u1), .val (.int u2), .val (.int v101), .val (.ref b102), .val (.ref b103), .val (.ref b104), .val wr105, .val wr107, .val wr109, .val wr111, .val (.ref b113), .val (.int (1 : Int32))] [(.int (1 : Int32))])) (fun t k => XS.goto X145.here hx rfl (pc0 := 365) (pc' := 369) rfl (hb hby at_365) (by decide) (by decide) k) ?_
    refine own_by (g' := (mkF m 371 #[.val (.int u1), .val (.int u2), .val (.int v101), .val (.ref b102), .val (.ref b103), .val (.ref b104), .val wr105, .val wr107, .val wr109, .val wr111, .val (.ref b113), .val (.int (1 : Int32))] [])) (fun t k => XS.istore X145.here hx rfl (hb hby at_369) rfl (l' := #[.val (.int u1), .val (.int u2), .val (.int v101), .val (.ref b102), .val (.ref b103), .val (.ref b104), .val wr105, .val wr107, .val wr109, .val wr111, .val (.ref b113), .val (.int (1 : Int32))]) rfl k) ?_
    refine own_by (g' := (mkF m 373 #[.val (.int u1), .val (.int u2), .val (.int v101), .val (.ref b102), .val (.ref b103), .val (.ref b104), .val wr105, .val wr107, .val wr109, .val wr111, .val (.ref b113), .val (.int (1 : Int32))] [(.int (1 : Int32))])) (fun t k => XS.iload X145.here hx rfl (hb hby at_371) rfl k) ?_
    refine own_retN X145 hx hlk hret (t := .boolean) (by simp) (hb hby at_373) (by decide) (by decide) ?_
    rw [e145]
    exact ⟨rfl, N145, (((((((((Keep.refl h0 []).ext E102).ext E103).ext E104).ext E113).trans K117 (allS (Or.inr sz_b113) all0)).trans K124 (allS (Or.inr sz_b113) all0)).trans K132 (allS (Or.inr sz_b113) all0)).trans K139 (allS (Or.inr sz_b113) all0))⟩
  ·
    refine own_by (g' := (mkF m 147 #[.val (.int u1), .val (.int u2), .val (.int v101), .val (.ref b102), .val (.ref b103), .val (.ref b104), .val wr105, .val wr107, .val wr109, .val wr111, .val (.ref b113), .val (.int (1 : Int32))] [])) (fun t k => XS.icmpNo X130.here hx rfl (hb hby at_144) rfl (flt hc131).1 k) ?_
    refine own_by (g' := (mkF m 149 #[.val (.int u1), .val (.int u2), .val (.int v101), .val (.ref b102), .val (.ref b103), .val (.ref b104), .val wr105, .val wr107, .val wr109, .val wr111, .val (.ref b113), .val (.int (1 : Int32))] [(.ref b113)])) (fun t k => XS.aload X130.here hx rfl (hb hby at_147) rfl rfl k) ?_
    refine own_by (g' := (mkF m 151 #[.val (.int u1), .val (.int u2), .val (.int v101), .val (.ref b102), .val (.ref b103), .val (.ref b104), .val wr105, .val wr107, .val wr109, .val wr111, .val (.ref b113), .val (.int (1 : Int32))] [wr107, (.ref b113)])) (fun t k => XS.aload X130.here hx rfl (hb hby at_149) rfl f108 k) ?_
    refine own_callV X130 hx hZ hown (hw _ (List.mem_of_getElem? (i := 52) rfl)) (hw _ (List.mem_of_getElem? (i := 53) rfl)) (notFace_of_selects (args := #[]) (mvT hZ (hw _ (List.mem_of_getElem? (i := 55) rfl)))) (hw _ (List.mem_of_getElem? (i := 55) rfl)) (hw _ (List.mem_of_getElem? (i := 54) rfl)) (hw _ (List.mem_of_getElem? (i := 56) rfl)) (hw _ (List.mem_of_getElem? (i := 7) rfl)) (by decide) (a := b113) f125 (own_use1 l Z a0 hw [] (b113) (wr107) (wr105) ((1 : Int32)) T124.heap n0 (Nat.le_trans Z0 (Nat.le_trans (Nat.le_trans (Nat.le_trans (Nat.le_trans (Nat.le_trans E102.1 E103.1) E104.1) E113.1) K117.1) K124.1)) f125 f126 f128 f106 g_b113 f108 (by first | assumption | decide)) 0 (by decide) (by decide) (by decide) (by decide) e130 (g := (mkF m 151 #[.val (.int u1), .val (.int u2), .val (.int v101), .val (.ref b102), .val (.ref b103), .val (.ref b104), .val wr105, .val wr107, .val wr109, .val wr111, .val (.ref b113), .val (.int (1 : Int32))] [wr107, (.ref b113)])) rfl (by rw [hml]; rfl) (argsL := [wr107]) (rest := []) (lenOf own_pd5 rfl) rfl (by show 2 * 0 + _ ≤ _; exact Nat.le_of_eq rfl) (hb hby at_151) ?_
    intro v146 T146 L146 X146 q146
    obtain ⟨rfl, N146q, K146, f147, f148, f149⟩ := q146
    have N146 := Fr.app N130 N146q
    have f150 : Fld Z T146.heap b113 "com/example/purlin/purlin/framework/ServiceUse" "count" "I" (.int (2 : Int32)) := f149
    show own_Goes p e below s _ _ _ T146 (mkF m 154 #[.val (.int u1), .val (.int u2), .val (.int v101), .val (.ref b102), .val (.ref b103), .val (.ref b104), .val wr105, .val wr107, .val wr109, .val wr111, .val (.ref b113), .val (.int (1 : Int32))] [])
    refine own_by (g' := (mkF m 156 #[.val (.int u1), .val (.int u2), .val (.int v101), .val (.ref b102), .val (.ref b103), .val (.ref b104), .val wr105, .val wr107, .val wr109, .val wr111, .val (.ref b113), .val (.int (1 : Int32))] [(.int (1 : Int32))])) (fun t k => XS.iload X146.here hx rfl (hb hby at_154) rfl k) ?_
    refine own_by (g' := (mkF m 159 #[.val (.int u1), .val (.int u2), .val (.int v101), .val (.ref b102), .val (.ref b103), .val (.ref b104), .val wr105, .val wr107, .val wr109, .val wr111, .val (.ref b113), .val (.int (1 : Int32))] [])) (fun t k => XS.ifNo X146.here hx rfl (hb hby at_156) rfl ((if0 _ _).trans (feq (by decide : ¬ ((1 : Int32) = (0 : Int32)))).1) k) ?_
    refine own_by (g' := (mkF m 161 #[.val (.int u1), .val (.int u2), .val (.int v101), .val (.ref b102), .val (.ref b103), .val (.ref b104), .val wr105, .val wr107, .val wr109, .val wr111, .val (.ref b113), .val (.int (1 : Int32))] [(.ref b113)])) (fun t k => XS.aload X146.here hx rfl (hb hby at_159) rfl rfl k) ?_
    refine own_callV X146 hx hZ hown (hw _ (List.mem_of_getElem? (i := 38) rfl)) (hw _ (List.mem_of_getElem? (i := 39) rfl)) (notFace_of_selects (args := #[]) (mvT hZ (hw _ (List.mem_of_getElem? (i := 41) rfl)))) (hw _ (List.mem_of_getElem? (i := 41) rfl)) (hw _ (List.mem_of_getElem? (i := 40) rfl)) (hw _ (List.mem_of_getElem? (i := 42) rfl)) (hw _ (List.mem_of_getElem? (i := 7) rfl)) (by decide) (a := b113) f147 (own_ob l Z a0 hw [] (b113) (wr105) T146.heap n0 (Nat.le_trans Z0 (Nat.le_trans (Nat.le_trans (Nat.le_trans (Nat.le_trans (Nat.le_trans (Nat.le_trans E102.1 E103.1) E104.1) E113.1) K117.1) K124.1) K146.1)) f148 f106) 0 (by decide) (by decide) (by decide) (by decide) rfl (g := (mkF m 161 #[.val (.int u1), .val (.int u2), .val (.int v101), .val (.ref b102), .val (.ref b103), .val (.ref b104), .val wr105, .val wr107, .val wr109, .val wr111, .val (.ref b113), .val (.int (1 : Int32))] [(.ref b113)])) rfl (by rw [hml]; rfl) (argsL := []) (rest := []) (lenOf own_pd3 rfl) rfl (by show 2 * 0 + _ ≤ _; exact Nat.le_of_eq rfl) (hb hby at_161) ?_
    intro v151 T151 L151 X151 q151
    obtain ⟨rfl, N151q, e151⟩ := q151
    have N151 := Fr.app N146 N151q
    show own_Goes p e below s _ _ _ T151 (mkF m 164 #[.val (.int u1), .val (.int u2), .val (.int v101), .val (.ref b102), .val (.ref b103), .val (.ref b104), .val wr105, .val wr107, .val wr109, .val wr111, .val (.ref b113), .val (.int (1 : Int32))] [wr105])
    refine own_by (g' := (mkF m 166 #[.val (.int u1), .val (.int u2), .val (.int v101), .val (.ref b102), .val (.ref b103), .val (.ref b104), .val wr105, .val wr107, .val wr109, .val wr111, .val (.ref b113), .val (.int (1 : Int32))] [wr105, wr105])) (fun t k => XS.aload X151.here hx rfl (hb hby at_164) rfl f106 k) ?_
    refine own_by (g' := (mkF m 169 #[.val (.int u1), .val (.int u2), .val (.int v101), .val (.ref b102), .val (.ref b103), .val (.ref b104), .val wr105, .val wr107, .val wr109, .val wr111, .val (.ref b113), .val (.int (1 : Int32))] [])) (fun t k => Jvm.RoadKit.acmp (g := (mkF m 166 #[.val (.int u1), .val (.int u2), .val (.int v101), .val (.ref b102), .val (.ref b103), .val (.ref b104), .val wr105, .val wr107, .val wr109, .val wr111, .val (.ref b113), .val (.int (1 : Int32))] [wr105, wr105])) X151 hx rfl f106 f106 (pc0 := 166) (pc' := 169) (same := true) rfl (hb hby at_166) rfl (decide_eq_true rfl) (by decide) (by decide) k) ?_
    refine own_by (g' := (mkF m 170 #[.val (.int u1), .val (.int u2), .val (.int v101), .val (.ref b102), .val (.ref b103), .val (.ref b104), .val wr105, .val wr107, .val wr109, .val wr111, .val (.ref b113), .val (.int (1 : Int32))] [(.int (1 : Int32))])) (fun t k => XS.iconst X151.here hx rfl (hb hby at_169) k) ?_
    refine own_by (g' := (mkF m 174 #[.val (.int u1), .val (.int u2), .val (.int v101), .val (.ref b102), .val (.ref b103), .val (.ref b104), .val wr105, .val wr107, .val wr109, .val wr111, .val (.ref b113), .val (.int (1 : Int32))] [(.int (1 : Int32))])) (fun t k => XS.goto X151.here hx rfl (pc0 := 170) (pc' := 174) rfl (hb hby at_170) (by decide) (by decide) k) ?_
    refine own_by (g' := (mkF m 176 #[.val (.int u1), .val (.int u2), .val (.int v101), .val (.ref b102), .val (.ref b103), .val (.ref b104), .val wr105, .val wr107, .val wr109, .val wr111, .val (.ref b113), .val (.int (1 : Int32))] [])) (fun t k => XS.istore X151.here hx rfl (hb hby at_174) rfl (l' := #[.val (.int u1), .val (.int u2), .val (.int v101), .val (.ref b102), .val (.ref b103), .val (.ref b104), .val wr105, .val wr107, .val wr109, .val wr111, .val (.ref b113), .val (.int (1 : Int32))]) rfl k) ?_
    refine own_by (g' := (mkF m 177 #[.val (.int u1), .val (.int u2), .val (.int v101), .val (.ref b102), .val (.ref b103), .val (.ref b104), .val wr105, .val wr107, .val wr109, .val wr111, .val (.ref b113), .val (.int (1 : Int32))] [(.int v101)])) (fun t k => XS.iloadN X151.here hx rfl (hb hby at_176) rfl k) ?_
    refine own_by (g' := (mkF m 178 #[.val (.int u1), .val (.int u2), .val (.int v101), .val (.ref b102), .val (.ref b103), .val (.ref b104), .val wr105, .val wr107, .val wr109, .val wr111, .val (.ref b113), .val (.int (1 : Int32))] [(.int (3 : Int32)), (.int v101)])) (fun t k => XS.iconst X151.here hx rfl (hb hby at_177) k) ?_
    by_cases hc152 : v101 < (3 : Int32)
    ·
      refine own_by (g' := (mkF m 210 #[.val (.int u1), .val (.int u2), .val (.int v101), .val (.ref b102), .val (.ref b103), .val (.ref b104), .val wr105, .val wr107, .val wr109, .val wr111, .val (.ref b113), .val (.int (1 : Int32))] [])) (fun t k => XS.icmpYes X151.here hx rfl (pc0 := 178) (pc' := 210) rfl (hb hby at_178) rfl (tlt hc152).1 (by decide) (by decide) k) ?_
      refine own_by (g' := (mkF m 211 #[.val (.int u1), .val (.int u2), .val (.int v101), .val (.ref b102), .val (.ref b103), .val (.ref b104), .val wr105, .val wr107, .val wr109, .val wr111, .val (.ref b113), .val (.int (1 : Int32))] [(.int v101)])) (fun t k => XS.iloadN X151.here hx rfl (hb hby at_210) rfl k) ?_
      refine own_by (g' := (mkF m 212 #[.val (.int u1), .val (.int u2), .val (.int v101), .val (.ref b102), .val (.ref b103), .val (.ref b104), .val wr105, .val wr107, .val wr109, .val wr111, .val (.ref b113), .val (.int (1 : Int32))] [(.int (2 : Int32)), (.int v101)])) (fun t k => XS.iconst X151.here hx rfl (hb hby at_211) k) ?_
      refine own_by (g' := (mkF m 215 #[.val (.int u1), .val (.int u2), .val (.int v101), .val (.ref b102), .val (.ref b103), .val (.ref b104), .val wr105, .val wr107, .val wr109, .val wr111, .val (.ref b113), .val (.int (1 : Int32))] [])) (fun t k => XS.icmpNo X151.here hx rfl (hb hby at_212) rfl (flt hc131).1 k) ?_
      refine own_by (g' := (mkF m 217 #[.val (.int u1), .val (.int u2), .val (.int v101), .val (.ref b102), .val (.ref b103), .val (.ref b104), .val wr105, .val wr107, .val wr109, .val wr111, .val (.ref b113), .val (.int (1 : Int32))] [(.int (1 : Int32))])) (fun t k => XS.iload X151.here hx rfl (hb hby at_215) rfl k) ?_
      refine own_by (g' := (mkF m 220 #[.val (.int u1), .val (.int u2), .val (.int v101), .val (.ref b102), .val (.ref b103), .val (.ref b104), .val wr105, .val wr107, .val wr109, .val wr111, .val (.ref b113), .val (.int (1 : Int32))] [])) (fun t k => XS.ifNo X151.here hx rfl (hb hby at_217) rfl ((if0 _ _).trans (feq (by decide : ¬ ((1 : Int32) = (0 : Int32)))).1) k) ?_
      refine own_by (g' := (mkF m 222 #[.val (.int u1), .val (.int u2), .val (.int v101), .val (.ref b102), .val (.ref b103), .val (.ref b104), .val wr105, .val wr107, .val wr109, .val wr111, .val (.ref b113), .val (.int (1 : Int32))] [(.ref b113)])) (fun t k => XS.aload X151.here hx rfl (hb hby at_220) rfl rfl k) ?_
      refine own_callV X151 hx hZ hown (hw _ (List.mem_of_getElem? (i := 57) rfl)) (hw _ (List.mem_of_getElem? (i := 58) rfl)) (notFace_of_selects (args := #[]) (mvT hZ (hw _ (List.mem_of_getElem? (i := 60) rfl)))) (hw _ (List.mem_of_getElem? (i := 60) rfl)) (hw _ (List.mem_of_getElem? (i := 59) rfl)) (hw _ (List.mem_of_getElem? (i := 61) rfl)) (hw _ (List.mem_of_getElem? (i := 7) rfl)) (by decide) (a := b113) f147 (own_un1 l Z a0 hw [] (b113) (wr105) ((2 : Int32)) T146.heap n0 (Nat.le_trans Z0 (Nat.le_trans (Nat.le_trans (Nat.le_trans (Nat.le_trans (Nat.le_trans (Nat.le_trans E102.1 E103.1) E104.1) E113.1) K117.1) K124.1) K146.1)) f147 f148 f150 f106 g_b113 (by first | assumption | decide)) 0 (by decide) (by decide) (by decide) (by decide) e151 (g := (mkF m 222 #[.val (.int u1), .val (.int u2), .val (.int v101), .val (.ref b102), .val (.ref b103), .val (.ref b104), .val wr105, .val wr107, .val wr109, .val wr111, .val (.ref b113), .val (.int (1 : Int32))] [(.ref b113)])) rfl (by rw [hml]; rfl) (argsL := []) (rest := []) (lenOf own_pd3 rfl) rfl (by show 2 * 0 + _ ≤ _; exact Nat.le_of_eq rfl) (hb hby at_222) ?_
      intro v153 T153 L153 X153 q153
      obtain ⟨rfl, N153q, K153, f154, f155, f156⟩ := q153
      have N153 := Fr.app N151 N153q
      have f157 : Fld Z T153.heap b113 "com/example/purlin/purlin/framework/ServiceUse" "count" "I" (.int (1 : Int32)) := f156
      show own_Goes p e below s _ _ _ T153 (mkF m 225 #[.val (.int u1), .val (.int u2), .val (.int v101), .val (.ref b102), .val (.ref b103), .val (.ref b104), .val wr105, .val wr107, .val wr109, .val wr111, .val (.ref b113), .val (.int (1 : Int32))] [.null])
      refine own_by (g' := (mkF m 228 #[.val (.int u1), .val (.int u2), .val (.int v101), .val (.ref b102), .val (.ref b103), .val (.ref b104), .val wr105, .val wr107, .val wr109, .val wr111, .val (.ref b113), .val (.int (1 : Int32))] [])) (fun t k => XS.ifnonnullNo X153.here hx rfl (hb hby at_225) rfl k) ?_
      refine own_by (g' := (mkF m 230 #[.val (.int u1), .val (.int u2), .val (.int v101), .val (.ref b102), .val (.ref b103), .val (.ref b104), .val wr105, .val wr107, .val wr109, .val wr111, .val (.ref b113), .val (.int (1 : Int32))] [(.ref b113)])) (fun t k => XS.aload X153.here hx rfl (hb hby at_228) rfl rfl k) ?_
      refine own_callV X153 hx hZ hown (hw _ (List.mem_of_getElem? (i := 45) rfl)) (hw _ (List.mem_of_getElem? (i := 46) rfl)) (notFace_of_selects (args := #[]) (mvT hZ (hw _ (List.mem_of_getElem? (i := 48) rfl)))) (hw _ (List.mem_of_getElem? (i := 48) rfl)) (hw _ (List.mem_of_getElem? (i := 47) rfl)) (hw _ (List.mem_of_getElem? (i := 49) rfl)) (hw _ (List.mem_of_getElem? (i := 7) rfl)) (by decide) (a := b113) f154 (own_ic1 l Z a0 hw [] (b113) ((1 : Int32)) T153.heap n0 (Nat.le_trans Z0 (Nat.le_trans (Nat.le_trans (Nat.le_trans (Nat.le_trans (Nat.le_trans (Nat.le_trans (Nat.le_trans E102.1 E103.1) E104.1) E113.1) K117.1) K124.1) K146.1) K153.1)) f157 (by first | assumption | decide)) 0 (by decide) (by decide) (by decide) (by decide) rfl (g := (mkF m 230 #[.val (.int u1), .val (.int u2), .val (.int v101), .val (.ref b102), .val (.ref b103), .val (.ref b104), .val wr105, .val wr107, .val wr109, .val wr111, .val (.ref b113), .val (.int (1 : Int32))] [(.ref b113)])) rfl (by rw [hml]; rfl) (argsL := []) (rest := []) (lenOf own_pd4 rfl) rfl (by show 2 * 0 + _ ≤ _; exact Nat.le_of_eq rfl) (hb hby at_230) ?_
      intro v158 T158 L158 X158 q158
      obtain ⟨rfl, N158q, e158⟩ := q158
      have N158 := Fr.app N153 N158q
      show own_Goes p e below s _ _ _ T158 (mkF m 233 #[.val (.int u1), .val (.int u2), .val (.int v101), .val (.ref b102), .val (.ref b103), .val (.ref b104), .val wr105, .val wr107, .val wr109, .val wr111, .val (.ref b113), .val (.int (1 : Int32))] [(.int (1 : Int32))])
      refine own_by (g' := (mkF m 236 #[.val (.int u1), .val (.int u2), .val (.int v101), .val (.ref b102), .val (.ref b103), .val (.ref b104), .val wr105, .val wr107, .val wr109, .val wr111, .val (.ref b113), .val (.int (1 : Int32))] [])) (fun t k => XS.ifNo X158.here hx rfl (hb hby at_233) rfl ((if0 _ _).trans (feq (by decide : ¬ ((1 : Int32) = (0 : Int32)))).1) k) ?_
      refine own_by (g' := (mkF m 238 #[.val (.int u1), .val (.int u2), .val (.int v101), .val (.ref b102), .val (.ref b103), .val (.ref b104), .val wr105, .val wr107, .val wr109, .val wr111, .val (.ref b113), .val (.int (1 : Int32))] [(.ref b113)])) (fun t k => XS.aload X158.here hx rfl (hb hby at_236) rfl rfl k) ?_
      refine own_callV X158 hx hZ hown (hw _ (List.mem_of_getElem? (i := 38) rfl)) (hw _ (List.mem_of_getElem? (i := 39) rfl)) (notFace_of_selects (args := #[]) (mvT hZ (hw _ (List.mem_of_getElem? (i := 41) rfl)))) (hw _ (List.mem_of_getElem? (i := 41) rfl)) (hw _ (List.mem_of_getElem? (i := 40) rfl)) (hw _ (List.mem_of_getElem? (i := 42) rfl)) (hw _ (List.mem_of_getElem? (i := 7) rfl)) (by decide) (a := b113) f154 (own_ob l Z a0 hw [] (b113) (wr105) T153.heap n0 (Nat.le_trans Z0 (Nat.le_trans (Nat.le_trans (Nat.le_trans (Nat.le_trans (Nat.le_trans (Nat.le_trans (Nat.le_trans E102.1 E103.1) E104.1) E113.1) K117.1) K124.1) K146.1) K153.1)) f155 f106) 0 (by decide) (by decide) (by decide) (by decide) e158 (g := (mkF m 238 #[.val (.int u1), .val (.int u2), .val (.int v101), .val (.ref b102), .val (.ref b103), .val (.ref b104), .val wr105, .val wr107, .val wr109, .val wr111, .val (.ref b113), .val (.int (1 : Int32))] [(.ref b113)])) rfl (by rw [hml]; rfl) (argsL := []) (rest := []) (lenOf own_pd3 rfl) rfl (by show 2 * 0 + _ ≤ _; exact Nat.le_of_eq rfl) (hb hby at_238) ?_
      intro v159 T159 L159 X159 q159
      obtain ⟨rfl, N159q, e159⟩ := q159
      have N159 := Fr.app N158 N159q
      show own_Goes p e below s _ _ _ T159 (mkF m 241 #[.val (.int u1), .val (.int u2), .val (.int v101), .val (.ref b102), .val (.ref b103), .val (.ref b104), .val wr105, .val wr107, .val wr109, .val wr111, .val (.ref b113), .val (.int (1 : Int32))] [wr105])
      refine own_by (g' := (mkF m 243 #[.val (.int u1), .val (.int u2), .val (.int v101), .val (.ref b102), .val (.ref b103), .val (.ref b104), .val wr105, .val wr107, .val wr109, .val wr111, .val (.ref b113), .val (.int (1 : Int32))] [wr105, wr105])) (fun t k => XS.aload X159.here hx rfl (hb hby at_241) rfl f106 k) ?_
      refine own_by (g' := (mkF m 246 #[.val (.int u1), .val (.int u2), .val (.int v101), .val (.ref b102), .val (.ref b103), .val (.ref b104), .val wr105, .val wr107, .val wr109, .val wr111, .val (.ref b113), .val (.int (1 : Int32))] [])) (fun t k => Jvm.RoadKit.acmp (g := (mkF m 243 #[.val (.int u1), .val (.int u2), .val (.int v101), .val (.ref b102), .val (.ref b103), .val (.ref b104), .val wr105, .val wr107, .val wr109, .val wr111, .val (.ref b113), .val (.int (1 : Int32))] [wr105, wr105])) X159 hx rfl f106 f106 (pc0 := 243) (pc' := 246) (same := true) rfl (hb hby at_243) rfl (decide_eq_true rfl) (by decide) (by decide) k) ?_
      refine own_by (g' := (mkF m 247 #[.val (.int u1), .val (.int u2), .val (.int v101), .val (.ref b102), .val (.ref b103), .val (.ref b104), .val wr105, .val wr107, .val wr109, .val wr111, .val (.ref b113), .val (.int (1 : Int32))] [(.int (1 : Int32))])) (fun t k => XS.iconst X159.here hx rfl (hb hby at_246) k) ?_
      refine own_by (g' := (mkF m 251 #[.val (.int u1), .val (.int u2), .val (.int v101), .val (.ref b102), .val (.ref b103), .val (.ref b104), .val wr105, .val wr107, .val wr109, .val wr111, .val (.ref b113), .val (.int (1 : Int32))] [(.int (1 : Int32))])) (fun t k => XS.goto X159.here hx rfl (pc0 := 247) (pc' := 251) rfl (hb hby at_247) (by decide) (by decide) k) ?_
      refine own_by (g' := (mkF m 253 #[.val (.int u1), .val (.int u2), .val (.int v101), .val (.ref b102), .val (.ref b103), .val (.ref b104), .val wr105, .val wr107, .val wr109, .val wr111, .val (.ref b113), .val (.int (1 : Int32))] [])) (fun t k => XS.istore X159.here hx rfl (hb hby at_251) rfl (l' := #[.val (.int u1), .val (.int u2), .val (.int v101), .val (.ref b102), .val (.ref b103), .val (.ref b104), .val wr105, .val wr107, .val wr109, .val wr111, .val (.ref b113), .val (.int (1 : Int32))]) rfl k) ?_
      refine own_by (g' := (mkF m 254 #[.val (.int u1), .val (.int u2), .val (.int v101), .val (.ref b102), .val (.ref b103), .val (.ref b104), .val wr105, .val wr107, .val wr109, .val wr111, .val (.ref b113), .val (.int (1 : Int32))] [(.int v101)])) (fun t k => XS.iloadN X159.here hx rfl (hb hby at_253) rfl k) ?_
      refine own_by (g' := (mkF m 255 #[.val (.int u1), .val (.int u2), .val (.int v101), .val (.ref b102), .val (.ref b103), .val (.ref b104), .val wr105, .val wr107, .val wr109, .val wr111, .val (.ref b113), .val (.int (1 : Int32))] [(.int (3 : Int32)), (.int v101)])) (fun t k => XS.iconst X159.here hx rfl (hb hby at_254) k) ?_
      refine own_by (g' := (mkF m 296 #[.val (.int u1), .val (.int u2), .val (.int v101), .val (.ref b102), .val (.ref b103), .val (.ref b104), .val wr105, .val wr107, .val wr109, .val wr111, .val (.ref b113), .val (.int (1 : Int32))] [])) (fun t k => XS.icmpYes X159.here hx rfl (pc0 := 255) (pc' := 296) rfl (hb hby at_255) rfl (tlt hc152).1 (by decide) (by decide) k) ?_
      refine own_by (g' := (mkF m 298 #[.val (.int u1), .val (.int u2), .val (.int v101), .val (.ref b102), .val (.ref b103), .val (.ref b104), .val wr105, .val wr107, .val wr109, .val wr111, .val (.ref b113), .val (.int (1 : Int32))] [(.int (1 : Int32))])) (fun t k => XS.iload X159.here hx rfl (hb hby at_296) rfl k) ?_
      refine own_by (g' := (mkF m 301 #[.val (.int u1), .val (.int u2), .val (.int v101), .val (.ref b102), .val (.ref b103), .val (.ref b104), .val wr105, .val wr107, .val wr109, .val wr111, .val (.ref b113), .val (.int (1 : Int32))] [])) (fun t k => XS.ifNo X159.here hx rfl (hb hby at_298) rfl ((if0 _ _).trans (feq (by decide : ¬ ((1 : Int32) = (0 : Int32)))).1) k) ?_
      refine own_by (g' := (mkF m 303 #[.val (.int u1), .val (.int u2), .val (.int v101), .val (.ref b102), .val (.ref b103), .val (.ref b104), .val wr105, .val wr107, .val wr109, .val wr111, .val (.ref b113), .val (.int (1 : Int32))] [(.ref b113)])) (fun t k => XS.aload X159.here hx rfl (hb hby at_301) rfl rfl k) ?_
      refine own_callV X159 hx hZ hown (hw _ (List.mem_of_getElem? (i := 57) rfl)) (hw _ (List.mem_of_getElem? (i := 58) rfl)) (notFace_of_selects (args := #[]) (mvT hZ (hw _ (List.mem_of_getElem? (i := 60) rfl)))) (hw _ (List.mem_of_getElem? (i := 60) rfl)) (hw _ (List.mem_of_getElem? (i := 59) rfl)) (hw _ (List.mem_of_getElem? (i := 61) rfl)) (hw _ (List.mem_of_getElem? (i := 7) rfl)) (by decide) (a := b113) f154 (own_un0 l Z a0 hw [] (b113) (wr105) ((1 : Int32)) T153.heap n0 (Nat.le_trans Z0 (Nat.le_trans (Nat.le_trans (Nat.le_trans (Nat.le_trans (Nat.le_trans (Nat.le_trans (Nat.le_trans E102.1 E103.1) E104.1) E113.1) K117.1) K124.1) K146.1) K153.1)) f154 f155 f157 f106 g_b113 (by first | assumption | decide)) 0 (by decide) (by decide) (by decide) (by decide) e159 (g := (mkF m 303 #[.val (.int u1), .val (.int u2), .val (.int v101), .val (.ref b102), .val (.ref b103), .val (.ref b104), .val wr105, .val wr107, .val wr109, .val wr111, .val (.ref b113), .val (.int (1 : Int32))] [(.ref b113)])) rfl (by rw [hml]; rfl) (argsL := []) (rest := []) (lenOf own_pd3 rfl) rfl (by show 2 * 0 + _ ≤ _; exact Nat.le_of_eq rfl) (hb hby at_303) ?_
      intro v160 T160 L160 X160 q160
      obtain ⟨rfl, N160q, K160, f161, f162, f163⟩ := q160
      have N160 := Fr.app N159 N160q
      have f164 : Fld Z T160.heap b113 "com/example/purlin/purlin/framework/ServiceUse" "count" "I" (.int (0 : Int32)) := f163
      show own_Goes p e below s _ _ _ T160 (mkF m 306 #[.val (.int u1), .val (.int u2), .val (.int v101), .val (.ref b102), .val (.ref b103), .val (.ref b104), .val wr105, .val wr107, .val wr109, .val wr111, .val (.ref b113), .val (.int (1 : Int32))] [wr105])
      refine own_by (g' := (mkF m 308 #[.val (.int u1), .val (.int u2), .val (.int v101), .val (.ref b102), .val (.ref b103), .val (.ref b104), .val wr105, .val wr107, .val wr109, .val wr111, .val (.ref b113), .val (.int (1 : Int32))] [wr105, wr105])) (fun t k => XS.aload X160.here hx rfl (hb hby at_306) rfl f106 k) ?_
      refine own_by (g' := (mkF m 311 #[.val (.int u1), .val (.int u2), .val (.int v101), .val (.ref b102), .val (.ref b103), .val (.ref b104), .val wr105, .val wr107, .val wr109, .val wr111, .val (.ref b113), .val (.int (1 : Int32))] [])) (fun t k => Jvm.RoadKit.acmp (g := (mkF m 308 #[.val (.int u1), .val (.int u2), .val (.int v101), .val (.ref b102), .val (.ref b103), .val (.ref b104), .val wr105, .val wr107, .val wr109, .val wr111, .val (.ref b113), .val (.int (1 : Int32))] [wr105, wr105])) X160 hx rfl f106 f106 (pc0 := 308) (pc' := 311) (same := true) rfl (hb hby at_308) rfl (decide_eq_true rfl) (by decide) (by decide) k) ?_
      refine own_by (g' := (mkF m 313 #[.val (.int u1), .val (.int u2), .val (.int v101), .val (.ref b102), .val (.ref b103), .val (.ref b104), .val wr105, .val wr107, .val wr109, .val wr111, .val (.ref b113), .val (.int (1 : Int32))] [(.ref b113)])) (fun t k => XS.aload X160.here hx rfl (hb hby at_311) rfl rfl k) ?_
      refine own_callV X160 hx hZ hown (hw _ (List.mem_of_getElem? (i := 45) rfl)) (hw _ (List.mem_of_getElem? (i := 46) rfl)) (notFace_of_selects (args := #[]) (mvT hZ (hw _ (List.mem_of_getElem? (i := 48) rfl)))) (hw _ (List.mem_of_getElem? (i := 48) rfl)) (hw _ (List.mem_of_getElem? (i := 47) rfl)) (hw _ (List.mem_of_getElem? (i := 49) rfl)) (hw _ (List.mem_of_getElem? (i := 7) rfl)) (by decide) (a := b113) f161 (own_ic0 l Z a0 hw [] (b113) ((0 : Int32)) T160.heap n0 (Nat.le_trans Z0 (Nat.le_trans (Nat.le_trans (Nat.le_trans (Nat.le_trans (Nat.le_trans (Nat.le_trans (Nat.le_trans (Nat.le_trans E102.1 E103.1) E104.1) E113.1) K117.1) K124.1) K146.1) K153.1) K160.1)) f164 (by first | assumption | decide)) 0 (by decide) (by decide) (by decide) (by decide) rfl (g := (mkF m 313 #[.val (.int u1), .val (.int u2), .val (.int v101), .val (.ref b102), .val (.ref b103), .val (.ref b104), .val wr105, .val wr107, .val wr109, .val wr111, .val (.ref b113), .val (.int (1 : Int32))] [(.ref b113)])) rfl (by rw [hml]; rfl) (argsL := []) (rest := []) (lenOf own_pd4 rfl) rfl (by show 2 * 0 + _ ≤ _; exact Nat.le_of_eq rfl) (hb hby at_313) ?_
      intro v165 T165 L165 X165 q165
      obtain ⟨rfl, N165q, e165⟩ := q165
      have N165 := Fr.app N160 N165q
      show own_Goes p e below s _ _ _ T165 (mkF m 316 #[.val (.int u1), .val (.int u2), .val (.int v101), .val (.ref b102), .val (.ref b103), .val (.ref b104), .val wr105, .val wr107, .val wr109, .val wr111, .val (.ref b113), .val (.int (1 : Int32))] [(.int (0 : Int32))])
      refine own_by (g' := (mkF m 319 #[.val (.int u1), .val (.int u2), .val (.int v101), .val (.ref b102), .val (.ref b103), .val (.ref b104), .val wr105, .val wr107, .val wr109, .val wr111, .val (.ref b113), .val (.int (1 : Int32))] [])) (fun t k => XS.ifNo X165.here hx rfl (hb hby at_316) rfl ((if0 _ _).trans (teq (by decide : (0 : Int32) = (0 : Int32))).2) k) ?_
      refine own_by (g' := (mkF m 321 #[.val (.int u1), .val (.int u2), .val (.int v101), .val (.ref b102), .val (.ref b103), .val (.ref b104), .val wr105, .val wr107, .val wr109, .val wr111, .val (.ref b113), .val (.int (1 : Int32))] [(.ref b113)])) (fun t k => XS.aload X165.here hx rfl (hb hby at_319) rfl rfl k) ?_
      refine own_callV X165 hx hZ hown (hw _ (List.mem_of_getElem? (i := 38) rfl)) (hw _ (List.mem_of_getElem? (i := 39) rfl)) (notFace_of_selects (args := #[]) (mvT hZ (hw _ (List.mem_of_getElem? (i := 41) rfl)))) (hw _ (List.mem_of_getElem? (i := 41) rfl)) (hw _ (List.mem_of_getElem? (i := 40) rfl)) (hw _ (List.mem_of_getElem? (i := 42) rfl)) (hw _ (List.mem_of_getElem? (i := 7) rfl)) (by decide) (a := b113) f161 (own_ob l Z a0 hw [] (b113) (.null) T160.heap n0 (Nat.le_trans Z0 (Nat.le_trans (Nat.le_trans (Nat.le_trans (Nat.le_trans (Nat.le_trans (Nat.le_trans (Nat.le_trans (Nat.le_trans E102.1 E103.1) E104.1) E113.1) K117.1) K124.1) K146.1) K153.1) K160.1)) f162 rfl) 0 (by decide) (by decide) (by decide) (by decide) e165 (g := (mkF m 321 #[.val (.int u1), .val (.int u2), .val (.int v101), .val (.ref b102), .val (.ref b103), .val (.ref b104), .val wr105, .val wr107, .val wr109, .val wr111, .val (.ref b113), .val (.int (1 : Int32))] [(.ref b113)])) rfl (by rw [hml]; rfl) (argsL := []) (rest := []) (lenOf own_pd3 rfl) rfl (by show 2 * 0 + _ ≤ _; exact Nat.le_of_eq rfl) (hb hby at_321) ?_
      intro v166 T166 L166 X166 q166
      obtain ⟨rfl, N166q, e166⟩ := q166
      have N166 := Fr.app N165 N166q
      show own_Goes p e below s _ _ _ T166 (mkF m 324 #[.val (.int u1), .val (.int u2), .val (.int v101), .val (.ref b102), .val (.ref b103), .val (.ref b104), .val wr105, .val wr107, .val wr109, .val wr111, .val (.ref b113), .val (.int (1 : Int32))] [.null])
      refine own_by (g' := (mkF m 327 #[.val (.int u1), .val (.int u2), .val (.int v101), .val (.ref b102), .val (.ref b103), .val (.ref b104), .val wr105, .val wr107, .val wr109, .val wr111, .val (.ref b113), .val (.int (1 : Int32))] [])) (fun t k => XS.ifnonnullNo X166.here hx rfl (hb hby at_324) rfl k) ?_
      refine own_by (g' := (mkF m 328 #[.val (.int u1), .val (.int u2), .val (.int v101), .val (.ref b102), .val (.ref b103), .val (.ref b104), .val wr105, .val wr107, .val wr109, .val wr111, .val (.ref b113), .val (.int (1 : Int32))] [(.int (1 : Int32))])) (fun t k => XS.iconst X166.here hx rfl (hb hby at_327) k) ?_
      refine own_by (g' := (mkF m 332 #[.val (.int u1), .val (.int u2), .val (.int v101), .val (.ref b102), .val (.ref b103), .val (.ref b104), .val wr105, .val wr107, .val wr109, .val wr111, .val (.ref b113), .val (.int (1 : Int32))] [(.int (1 : Int32))])) (fun t k => XS.goto X166.here hx rfl (pc0 := 328) (pc' := 332) rfl (hb hby at_328) (by decide) (by decide) k) ?_
      refine own_by (g' := (mkF m 334 #[.val (.int u1), .val (.int u2), .val (.int v101), .val (.ref b102), .val (.ref b103), .val (.ref b104), .val wr105, .val wr107, .val wr109, .val wr111, .val (.ref b113), .val (.int (1 : Int32))] [])) (fun t k => XS.istore X166.here hx rfl (hb hby at_332) rfl (l' := #[.val (.int u1), .val (.int u2), .val (.int v101), .val (.ref b102), .val (.ref b103), .val (.ref b104), .val wr105, .val wr107, .val wr109, .val wr111, .val (.ref b113), .val (.int (1 : Int32))]) rfl k) ?_
      refine own_by (g' := (mkF m 336 #[.val (.int u1), .val (.int u2), .val (.int v101), .val (.ref b102), .val (.ref b103), .val (.ref b104), .val wr105, .val wr107, .val wr109, .val wr111, .val (.ref b113), .val (.int (1 : Int32))] [(.ref b113)])) (fun t k => XS.aload X166.here hx rfl (hb hby at_334) rfl rfl k) ?_
      refine own_by (g' := (mkF m 338 #[.val (.int u1), .val (.int u2), .val (.int v101), .val (.ref b102), .val (.ref b103), .val (.ref b104), .val wr105, .val wr107, .val wr109, .val wr111, .val (.ref b113), .val (.int (1 : Int32))] [wr111, (.ref b113)])) (fun t k => XS.aload X166.here hx rfl (hb hby at_336) rfl f112 k) ?_
      refine own_callV X166 hx hZ hown (hw _ (List.mem_of_getElem? (i := 52) rfl)) (hw _ (List.mem_of_getElem? (i := 53) rfl)) (notFace_of_selects (args := #[]) (mvT hZ (hw _ (List.mem_of_getElem? (i := 55) rfl)))) (hw _ (List.mem_of_getElem? (i := 55) rfl)) (hw _ (List.mem_of_getElem? (i := 54) rfl)) (hw _ (List.mem_of_getElem? (i := 56) rfl)) (hw _ (List.mem_of_getElem? (i := 7) rfl)) (by decide) (a := b113) f161 (own_use0 l Z a0 hw [] (b113) (wr111) (.null) ((0 : Int32)) T160.heap n0 (Nat.le_trans Z0 (Nat.le_trans (Nat.le_trans (Nat.le_trans (Nat.le_trans (Nat.le_trans (Nat.le_trans (Nat.le_trans (Nat.le_trans E102.1 E103.1) E104.1) E113.1) K117.1) K124.1) K146.1) K153.1) K160.1)) f161 f162 f164 rfl g_b113 f112 (by first | assumption | decide)) 0 (by decide) (by decide) (by decide) (by decide) e166 (g := (mkF m 338 #[.val (.int u1), .val (.int u2), .val (.int v101), .val (.ref b102), .val (.ref b103), .val (.ref b104), .val wr105, .val wr107, .val wr109, .val wr111, .val (.ref b113), .val (.int (1 : Int32))] [wr111, (.ref b113)])) rfl (by rw [hml]; rfl) (argsL := [wr111]) (rest := []) (lenOf own_pd5 rfl) rfl (by show 2 * 0 + _ ≤ _; exact Nat.le_of_eq rfl) (hb hby at_338) ?_
      intro v167 T167 L167 X167 q167
      obtain ⟨rfl, N167q, K167, f168, f169, f170⟩ := q167
      have N167 := Fr.app N166 N167q
      have f171 : Fld Z T167.heap b113 "com/example/purlin/purlin/framework/ServiceUse" "count" "I" (.int (1 : Int32)) := f170
      show own_Goes p e below s _ _ _ T167 (mkF m 341 #[.val (.int u1), .val (.int u2), .val (.int v101), .val (.ref b102), .val (.ref b103), .val (.ref b104), .val wr105, .val wr107, .val wr109, .val wr111, .val (.ref b113), .val (.int (1 : Int32))] [])
      refine own_by (g' := (mkF m 343 #[.val (.int u1), .val (.int u2), .val (.int v101), .val (.ref b102), .val (.ref b103), .val (.ref b104), .val wr105, .val wr107, .val wr109, .val wr111, .val (.ref b113), .val (.int (1 : Int32))] [(.int (1 : Int32))])) (fun t k => XS.iload X167.here hx rfl (hb hby at_341) rfl k) ?_
      refine own_by (g' := (mkF m 346 #[.val (.int u1), .val (.int u2), .val (.int v101), .val (.ref b102), .val (.ref b103), .val (.ref b104), .val wr105, .val wr107, .val wr109, .val wr111, .val (.ref b113), .val (.int (1 : Int32))] [])) (fun t k => XS.ifNo X167.here hx rfl (hb hby at_343) rfl ((if0 _ _).trans (feq (by decide : ¬ ((1 : Int32) = (0 : Int32)))).1) k) ?_
      refine own_by (g' := (mkF m 348 #[.val (.int u1), .val (.int u2), .val (.int v101), .val (.ref b102), .val (.ref b103), .val (.ref b104), .val wr105, .val wr107, .val wr109, .val wr111, .val (.ref b113), .val (.int (1 : Int32))] [(.ref b113)])) (fun t k => XS.aload X167.here hx rfl (hb hby at_346) rfl rfl k) ?_
      refine own_callV X167 hx hZ hown (hw _ (List.mem_of_getElem? (i := 38) rfl)) (hw _ (List.mem_of_getElem? (i := 39) rfl)) (notFace_of_selects (args := #[]) (mvT hZ (hw _ (List.mem_of_getElem? (i := 41) rfl)))) (hw _ (List.mem_of_getElem? (i := 41) rfl)) (hw _ (List.mem_of_getElem? (i := 40) rfl)) (hw _ (List.mem_of_getElem? (i := 42) rfl)) (hw _ (List.mem_of_getElem? (i := 7) rfl)) (by decide) (a := b113) f168 (own_ob l Z a0 hw [] (b113) (wr111) T167.heap n0 (Nat.le_trans Z0 (Nat.le_trans (Nat.le_trans (Nat.le_trans (Nat.le_trans (Nat.le_trans (Nat.le_trans (Nat.le_trans (Nat.le_trans (Nat.le_trans E102.1 E103.1) E104.1) E113.1) K117.1) K124.1) K146.1) K153.1) K160.1) K167.1)) f169 f112) 0 (by decide) (by decide) (by decide) (by decide) rfl (g := (mkF m 348 #[.val (.int u1), .val (.int u2), .val (.int v101), .val (.ref b102), .val (.ref b103), .val (.ref b104), .val wr105, .val wr107, .val wr109, .val wr111, .val (.ref b113), .val (.int (1 : Int32))] [(.ref b113)])) rfl (by rw [hml]; rfl) (argsL := []) (rest := []) (lenOf own_pd3 rfl) rfl (by show 2 * 0 + _ ≤ _; exact Nat.le_of_eq rfl) (hb hby at_348) ?_
      intro v172 T172 L172 X172 q172
      obtain ⟨rfl, N172q, e172⟩ := q172
      have N172 := Fr.app N167 N172q
      show own_Goes p e below s _ _ _ T172 (mkF m 351 #[.val (.int u1), .val (.int u2), .val (.int v101), .val (.ref b102), .val (.ref b103), .val (.ref b104), .val wr105, .val wr107, .val wr109, .val wr111, .val (.ref b113), .val (.int (1 : Int32))] [wr111])
      refine own_by (g' := (mkF m 353 #[.val (.int u1), .val (.int u2), .val (.int v101), .val (.ref b102), .val (.ref b103), .val (.ref b104), .val wr105, .val wr107, .val wr109, .val wr111, .val (.ref b113), .val (.int (1 : Int32))] [wr111, wr111])) (fun t k => XS.aload X172.here hx rfl (hb hby at_351) rfl f112 k) ?_
      refine own_by (g' := (mkF m 356 #[.val (.int u1), .val (.int u2), .val (.int v101), .val (.ref b102), .val (.ref b103), .val (.ref b104), .val wr105, .val wr107, .val wr109, .val wr111, .val (.ref b113), .val (.int (1 : Int32))] [])) (fun t k => Jvm.RoadKit.acmp (g := (mkF m 353 #[.val (.int u1), .val (.int u2), .val (.int v101), .val (.ref b102), .val (.ref b103), .val (.ref b104), .val wr105, .val wr107, .val wr109, .val wr111, .val (.ref b113), .val (.int (1 : Int32))] [wr111, wr111])) X172 hx rfl f112 f112 (pc0 := 353) (pc' := 356) (same := true) rfl (hb hby at_353) rfl (decide_eq_true rfl) (by decide) (by decide) k) ?_
      refine own_by (g' := (mkF m 358 #[.val (.int u1), .val (.int u2), .val (.int v101), .val (.ref b102), .val (.ref b103), .val (.ref b104), .val wr105, .val wr107, .val wr109, .val wr111, .val (.ref b113), .val (.int (1 : Int32))] [(.ref b113)])) (fun t k => XS.aload X172.here hx rfl (hb hby at_356) rfl rfl k) ?_
      refine own_callV X172 hx hZ hown (hw _ (List.mem_of_getElem? (i := 45) rfl)) (hw _ (List.mem_of_getElem? (i := 46) rfl)) (notFace_of_selects (args := #[]) (mvT hZ (hw _ (List.mem_of_getElem? (i := 48) rfl)))) (hw _ (List.mem_of_getElem? (i := 48) rfl)) (hw _ (List.mem_of_getElem? (i := 47) rfl)) (hw _ (List.mem_of_getElem? (i := 49) rfl)) (hw _ (List.mem_of_getElem? (i := 7) rfl)) (by decide) (a := b113) f168 (own_ic1 l Z a0 hw [] (b113) ((1 : Int32)) T167.heap n0 (Nat.le_trans Z0 (Nat.le_trans (Nat.le_trans (Nat.le_trans (Nat.le_trans (Nat.le_trans (Nat.le_trans (Nat.le_trans (Nat.le_trans (Nat.le_trans E102.1 E103.1) E104.1) E113.1) K117.1) K124.1) K146.1) K153.1) K160.1) K167.1)) f171 (by first | assumption | decide)) 0 (by decide) (by decide) (by decide) (by decide) e172 (g := (mkF m 358 #[.val (.int u1), .val (.int u2), .val (.int v101), .val (.ref b102), .val (.ref b103), .val (.ref b104), .val wr105, .val wr107, .val wr109, .val wr111, .val (.ref b113), .val (.int (1 : Int32))] [(.ref b113)])) rfl (by rw [hml]; rfl) (argsL := []) (rest := []) (lenOf own_pd4 rfl) rfl (by show 2 * 0 + _ ≤ _; exact Nat.le_of_eq rfl) (hb hby at_358) ?_
      intro v173 T173 L173 X173 q173
      obtain ⟨rfl, N173q, e173⟩ := q173
      have N173 := Fr.app N172 N173q
      show own_Goes p e below s _ _ _ T173 (mkF m 361 #[.val (.int u1), .val (.int u2), .val (.int v101), .val (.ref b102), .val (.ref b103), .val (.ref b104), .val wr105, .val wr107, .val wr109, .val wr111, .val (.ref b113), .val (.int (1 : Int32))] [(.int (1 : Int32))])
      refine own_by (g' := (mkF m 364 #[.val (.int u1), .val (.int u2), .val (.int v101), .val (.ref b102), .val (.ref b103), .val (.ref b104), .val wr105, .val wr107, .val wr109, .val wr111, .val (.ref b113), .val (.int (1 : Int32))] [])) (fun t k => XS.ifNo X173.here hx rfl (hb hby at_361) rfl ((if0 _ _).trans (feq (by decide : ¬ ((1 : Int32) = (0 : Int32)))).1) k) ?_
      refine own_by (g' := (mkF m 365 #[.val (.int u1), .val (.int u2), .val (.int v101), .val (.ref b102), .val (.ref b103), .val (.ref b104), .val wr105, .val wr107, .val wr109, .val wr111, .val (.ref b113), .val (.int (1 : Int32))] [(.int (1 : Int32))])) (fun t k => XS.iconst X173.here hx rfl (hb hby at_364) k) ?_
      refine own_by (g' := (mkF m 369 #[.val (.int u1), .val (.int u2), .val (.int v101), .val (.ref b102), .val (.ref b103), .val (.ref b104), .val wr105, .val wr107, .val wr109, .val wr111, .val (.ref b113), .val (.int (1 : Int32))] [(.int (1 : Int32))])) (fun t k => XS.goto X173.here hx rfl (pc0 := 365) (pc' := 369) rfl (hb hby at_365) (by decide) (by decide) k) ?_
      refine own_by (g' := (mkF m 371 #[.val (.int u1), .val (.int u2), .val (.int v101), .val (.ref b102), .val (.ref b103), .val (.ref b104), .val wr105, .val wr107, .val wr109, .val wr111, .val (.ref b113), .val (.int (1 : Int32))] [])) (fun t k => XS.istore X173.here hx rfl (hb hby at_369) rfl (l' := #[.val (.int u1), .val (.int u2), .val (.int v101), .val (.ref b102), .val (.ref b103), .val (.ref b104), .val wr105, .val wr107, .val wr109, .val wr111, .val (.ref b113), .val (.int (1 : Int32))]) rfl k) ?_
      refine own_by (g' := (mkF m 373 #[.val (.int u1), .val (.int u2), .val (.int v101), .val (.ref b102), .val (.ref b103), .val (.ref b104), .val wr105, .val wr107, .val wr109, .val wr111, .val (.ref b113), .val (.int (1 : Int32))] [(.int (1 : Int32))])) (fun t k => XS.iload X173.here hx rfl (hb hby at_371) rfl k) ?_
      refine own_retN X173 hx hlk hret (t := .boolean) (by simp) (hb hby at_373) (by decide) (by decide) ?_
      rw [e173]
      exact ⟨rfl, N173, (((((((((((Keep.refl h0 []).ext E102).ext E103).ext E104).ext E113).trans K117 (allS (Or.inr sz_b113) all0)).trans K124 (allS (Or.inr sz_b113) all0)).trans K146 (allS (Or.inr sz_b113) all0)).trans K153 (allS (Or.inr sz_b113) all0)).trans K160 (allS (Or.inr sz_b113) all0)).trans K167 (allS (Or.inr sz_b113) all0))⟩
    ·
      refine own_by (g' := (mkF m 181 #[.val (.int u1), .val (.int u2), .val (.int v101), .val (.ref b102), .val (.ref b103), .val (.ref b104), .val wr105, .val wr107, .val wr109, .val wr111, .val (.ref b113), .val (.int (1 : Int32))] [])) (fun t k => XS.icmpNo X151.here hx rfl (hb hby at_178) rfl (flt hc152).1 k) ?_
      refine own_by (g' := (mkF m 183 #[.val (.int u1), .val (.int u2), .val (.int v101), .val (.ref b102), .val (.ref b103), .val (.ref b104), .val wr105, .val wr107, .val wr109, .val wr111, .val (.ref b113), .val (.int (1 : Int32))] [(.ref b113)])) (fun t k => XS.aload X151.here hx rfl (hb hby at_181) rfl rfl k) ?_
      refine own_by (g' := (mkF m 185 #[.val (.int u1), .val (.int u2), .val (.int v101), .val (.ref b102), .val (.ref b103), .val (.ref b104), .val wr105, .val wr107, .val wr109, .val wr111, .val (.ref b113), .val (.int (1 : Int32))] [wr109, (.ref b113)])) (fun t k => XS.aload X151.here hx rfl (hb hby at_183) rfl f110 k) ?_
      refine own_callV X151 hx hZ hown (hw _ (List.mem_of_getElem? (i := 52) rfl)) (hw _ (List.mem_of_getElem? (i := 53) rfl)) (notFace_of_selects (args := #[]) (mvT hZ (hw _ (List.mem_of_getElem? (i := 55) rfl)))) (hw _ (List.mem_of_getElem? (i := 55) rfl)) (hw _ (List.mem_of_getElem? (i := 54) rfl)) (hw _ (List.mem_of_getElem? (i := 56) rfl)) (hw _ (List.mem_of_getElem? (i := 7) rfl)) (by decide) (a := b113) f147 (own_use1 l Z a0 hw [] (b113) (wr109) (wr105) ((2 : Int32)) T146.heap n0 (Nat.le_trans Z0 (Nat.le_trans (Nat.le_trans (Nat.le_trans (Nat.le_trans (Nat.le_trans (Nat.le_trans E102.1 E103.1) E104.1) E113.1) K117.1) K124.1) K146.1)) f147 f148 f150 f106 g_b113 f110 (by first | assumption | decide)) 0 (by decide) (by decide) (by decide) (by decide) e151 (g := (mkF m 185 #[.val (.int u1), .val (.int u2), .val (.int v101), .val (.ref b102), .val (.ref b103), .val (.ref b104), .val wr105, .val wr107, .val wr109, .val wr111, .val (.ref b113), .val (.int (1 : Int32))] [wr109, (.ref b113)])) rfl (by rw [hml]; rfl) (argsL := [wr109]) (rest := []) (lenOf own_pd5 rfl) rfl (by show 2 * 0 + _ ≤ _; exact Nat.le_of_eq rfl) (hb hby at_185) ?_
      intro v174 T174 L174 X174 q174
      obtain ⟨rfl, N174q, K174, f175, f176, f177⟩ := q174
      have N174 := Fr.app N151 N174q
      have f178 : Fld Z T174.heap b113 "com/example/purlin/purlin/framework/ServiceUse" "count" "I" (.int (3 : Int32)) := f177
      show own_Goes p e below s _ _ _ T174 (mkF m 188 #[.val (.int u1), .val (.int u2), .val (.int v101), .val (.ref b102), .val (.ref b103), .val (.ref b104), .val wr105, .val wr107, .val wr109, .val wr111, .val (.ref b113), .val (.int (1 : Int32))] [])
      refine own_by (g' := (mkF m 190 #[.val (.int u1), .val (.int u2), .val (.int v101), .val (.ref b102), .val (.ref b103), .val (.ref b104), .val wr105, .val wr107, .val wr109, .val wr111, .val (.ref b113), .val (.int (1 : Int32))] [(.int (1 : Int32))])) (fun t k => XS.iload X174.here hx rfl (hb hby at_188) rfl k) ?_
      refine own_by (g' := (mkF m 193 #[.val (.int u1), .val (.int u2), .val (.int v101), .val (.ref b102), .val (.ref b103), .val (.ref b104), .val wr105, .val wr107, .val wr109, .val wr111, .val (.ref b113), .val (.int (1 : Int32))] [])) (fun t k => XS.ifNo X174.here hx rfl (hb hby at_190) rfl ((if0 _ _).trans (feq (by decide : ¬ ((1 : Int32) = (0 : Int32)))).1) k) ?_
      refine own_by (g' := (mkF m 195 #[.val (.int u1), .val (.int u2), .val (.int v101), .val (.ref b102), .val (.ref b103), .val (.ref b104), .val wr105, .val wr107, .val wr109, .val wr111, .val (.ref b113), .val (.int (1 : Int32))] [(.ref b113)])) (fun t k => XS.aload X174.here hx rfl (hb hby at_193) rfl rfl k) ?_
      refine own_callV X174 hx hZ hown (hw _ (List.mem_of_getElem? (i := 38) rfl)) (hw _ (List.mem_of_getElem? (i := 39) rfl)) (notFace_of_selects (args := #[]) (mvT hZ (hw _ (List.mem_of_getElem? (i := 41) rfl)))) (hw _ (List.mem_of_getElem? (i := 41) rfl)) (hw _ (List.mem_of_getElem? (i := 40) rfl)) (hw _ (List.mem_of_getElem? (i := 42) rfl)) (hw _ (List.mem_of_getElem? (i := 7) rfl)) (by decide) (a := b113) f175 (own_ob l Z a0 hw [] (b113) (wr105) T174.heap n0 (Nat.le_trans Z0 (Nat.le_trans (Nat.le_trans (Nat.le_trans (Nat.le_trans (Nat.le_trans (Nat.le_trans (Nat.le_trans E102.1 E103.1) E104.1) E113.1) K117.1) K124.1) K146.1) K174.1)) f176 f106) 0 (by decide) (by decide) (by decide) (by decide) rfl (g := (mkF m 195 #[.val (.int u1), .val (.int u2), .val (.int v101), .val (.ref b102), .val (.ref b103), .val (.ref b104), .val wr105, .val wr107, .val wr109, .val wr111, .val (.ref b113), .val (.int (1 : Int32))] [(.ref b113)])) rfl (by rw [hml]; rfl) (argsL := []) (rest := []) (lenOf own_pd3 rfl) rfl (by show 2 * 0 + _ ≤ _; exact Nat.le_of_eq rfl) (hb hby at_195) ?_
      intro v179 T179 L179 X179 q179
      obtain ⟨rfl, N179q, e179⟩ := q179
      have N179 := Fr.app N174 N179q
      show own_Goes p e below s _ _ _ T179 (mkF m 198 #[.val (.int u1), .val (.int u2), .val (.int v101), .val (.ref b102), .val (.ref b103), .val (.ref b104), .val wr105, .val wr107, .val wr109, .val wr111, .val (.ref b113), .val (.int (1 : Int32))] [wr105])
      refine own_by (g' := (mkF m 200 #[.val (.int u1), .val (.int u2), .val (.int v101), .val (.ref b102), .val (.ref b103), .val (.ref b104), .val wr105, .val wr107, .val wr109, .val wr111, .val (.ref b113), .val (.int (1 : Int32))] [wr105, wr105])) (fun t k => XS.aload X179.here hx rfl (hb hby at_198) rfl f106 k) ?_
      refine own_by (g' := (mkF m 203 #[.val (.int u1), .val (.int u2), .val (.int v101), .val (.ref b102), .val (.ref b103), .val (.ref b104), .val wr105, .val wr107, .val wr109, .val wr111, .val (.ref b113), .val (.int (1 : Int32))] [])) (fun t k => Jvm.RoadKit.acmp (g := (mkF m 200 #[.val (.int u1), .val (.int u2), .val (.int v101), .val (.ref b102), .val (.ref b103), .val (.ref b104), .val wr105, .val wr107, .val wr109, .val wr111, .val (.ref b113), .val (.int (1 : Int32))] [wr105, wr105])) X179 hx rfl f106 f106 (pc0 := 200) (pc' := 203) (same := true) rfl (hb hby at_200) rfl (decide_eq_true rfl) (by decide) (by decide) k) ?_
      refine own_by (g' := (mkF m 204 #[.val (.int u1), .val (.int u2), .val (.int v101), .val (.ref b102), .val (.ref b103), .val (.ref b104), .val wr105, .val wr107, .val wr109, .val wr111, .val (.ref b113), .val (.int (1 : Int32))] [(.int (1 : Int32))])) (fun t k => XS.iconst X179.here hx rfl (hb hby at_203) k) ?_
      refine own_by (g' := (mkF m 208 #[.val (.int u1), .val (.int u2), .val (.int v101), .val (.ref b102), .val (.ref b103), .val (.ref b104), .val wr105, .val wr107, .val wr109, .val wr111, .val (.ref b113), .val (.int (1 : Int32))] [(.int (1 : Int32))])) (fun t k => XS.goto X179.here hx rfl (pc0 := 204) (pc' := 208) rfl (hb hby at_204) (by decide) (by decide) k) ?_
      refine own_by (g' := (mkF m 210 #[.val (.int u1), .val (.int u2), .val (.int v101), .val (.ref b102), .val (.ref b103), .val (.ref b104), .val wr105, .val wr107, .val wr109, .val wr111, .val (.ref b113), .val (.int (1 : Int32))] [])) (fun t k => XS.istore X179.here hx rfl (hb hby at_208) rfl (l' := #[.val (.int u1), .val (.int u2), .val (.int v101), .val (.ref b102), .val (.ref b103), .val (.ref b104), .val wr105, .val wr107, .val wr109, .val wr111, .val (.ref b113), .val (.int (1 : Int32))]) rfl k) ?_
      refine own_by (g' := (mkF m 211 #[.val (.int u1), .val (.int u2), .val (.int v101), .val (.ref b102), .val (.ref b103), .val (.ref b104), .val wr105, .val wr107, .val wr109, .val wr111, .val (.ref b113), .val (.int (1 : Int32))] [(.int v101)])) (fun t k => XS.iloadN X179.here hx rfl (hb hby at_210) rfl k) ?_
      refine own_by (g' := (mkF m 212 #[.val (.int u1), .val (.int u2), .val (.int v101), .val (.ref b102), .val (.ref b103), .val (.ref b104), .val wr105, .val wr107, .val wr109, .val wr111, .val (.ref b113), .val (.int (1 : Int32))] [(.int (2 : Int32)), (.int v101)])) (fun t k => XS.iconst X179.here hx rfl (hb hby at_211) k) ?_
      refine own_by (g' := (mkF m 215 #[.val (.int u1), .val (.int u2), .val (.int v101), .val (.ref b102), .val (.ref b103), .val (.ref b104), .val wr105, .val wr107, .val wr109, .val wr111, .val (.ref b113), .val (.int (1 : Int32))] [])) (fun t k => XS.icmpNo X179.here hx rfl (hb hby at_212) rfl (flt hc131).1 k) ?_
      refine own_by (g' := (mkF m 217 #[.val (.int u1), .val (.int u2), .val (.int v101), .val (.ref b102), .val (.ref b103), .val (.ref b104), .val wr105, .val wr107, .val wr109, .val wr111, .val (.ref b113), .val (.int (1 : Int32))] [(.int (1 : Int32))])) (fun t k => XS.iload X179.here hx rfl (hb hby at_215) rfl k) ?_
      refine own_by (g' := (mkF m 220 #[.val (.int u1), .val (.int u2), .val (.int v101), .val (.ref b102), .val (.ref b103), .val (.ref b104), .val wr105, .val wr107, .val wr109, .val wr111, .val (.ref b113), .val (.int (1 : Int32))] [])) (fun t k => XS.ifNo X179.here hx rfl (hb hby at_217) rfl ((if0 _ _).trans (feq (by decide : ¬ ((1 : Int32) = (0 : Int32)))).1) k) ?_
      refine own_by (g' := (mkF m 222 #[.val (.int u1), .val (.int u2), .val (.int v101), .val (.ref b102), .val (.ref b103), .val (.ref b104), .val wr105, .val wr107, .val wr109, .val wr111, .val (.ref b113), .val (.int (1 : Int32))] [(.ref b113)])) (fun t k => XS.aload X179.here hx rfl (hb hby at_220) rfl rfl k) ?_
      refine own_callV X179 hx hZ hown (hw _ (List.mem_of_getElem? (i := 57) rfl)) (hw _ (List.mem_of_getElem? (i := 58) rfl)) (notFace_of_selects (args := #[]) (mvT hZ (hw _ (List.mem_of_getElem? (i := 60) rfl)))) (hw _ (List.mem_of_getElem? (i := 60) rfl)) (hw _ (List.mem_of_getElem? (i := 59) rfl)) (hw _ (List.mem_of_getElem? (i := 61) rfl)) (hw _ (List.mem_of_getElem? (i := 7) rfl)) (by decide) (a := b113) f175 (own_un1 l Z a0 hw [] (b113) (wr105) ((3 : Int32)) T174.heap n0 (Nat.le_trans Z0 (Nat.le_trans (Nat.le_trans (Nat.le_trans (Nat.le_trans (Nat.le_trans (Nat.le_trans (Nat.le_trans E102.1 E103.1) E104.1) E113.1) K117.1) K124.1) K146.1) K174.1)) f175 f176 f178 f106 g_b113 (by first | assumption | decide)) 0 (by decide) (by decide) (by decide) (by decide) e179 (g := (mkF m 222 #[.val (.int u1), .val (.int u2), .val (.int v101), .val (.ref b102), .val (.ref b103), .val (.ref b104), .val wr105, .val wr107, .val wr109, .val wr111, .val (.ref b113), .val (.int (1 : Int32))] [(.ref b113)])) rfl (by rw [hml]; rfl) (argsL := []) (rest := []) (lenOf own_pd3 rfl) rfl (by show 2 * 0 + _ ≤ _; exact Nat.le_of_eq rfl) (hb hby at_222) ?_
      intro v180 T180 L180 X180 q180
      obtain ⟨rfl, N180q, K180, f181, f182, f183⟩ := q180
      have N180 := Fr.app N179 N180q
      have f184 : Fld Z T180.heap b113 "com/example/purlin/purlin/framework/ServiceUse" "count" "I" (.int (2 : Int32)) := f183
      show own_Goes p e below s _ _ _ T180 (mkF m 225 #[.val (.int u1), .val (.int u2), .val (.int v101), .val (.ref b102), .val (.ref b103), .val (.ref b104), .val wr105, .val wr107, .val wr109, .val wr111, .val (.ref b113), .val (.int (1 : Int32))] [.null])
      refine own_by (g' := (mkF m 228 #[.val (.int u1), .val (.int u2), .val (.int v101), .val (.ref b102), .val (.ref b103), .val (.ref b104), .val wr105, .val wr107, .val wr109, .val wr111, .val (.ref b113), .val (.int (1 : Int32))] [])) (fun t k => XS.ifnonnullNo X180.here hx rfl (hb hby at_225) rfl k) ?_
      refine own_by (g' := (mkF m 230 #[.val (.int u1), .val (.int u2), .val (.int v101), .val (.ref b102), .val (.ref b103), .val (.ref b104), .val wr105, .val wr107, .val wr109, .val wr111, .val (.ref b113), .val (.int (1 : Int32))] [(.ref b113)])) (fun t k => XS.aload X180.here hx rfl (hb hby at_228) rfl rfl k) ?_
      refine own_callV X180 hx hZ hown (hw _ (List.mem_of_getElem? (i := 45) rfl)) (hw _ (List.mem_of_getElem? (i := 46) rfl)) (notFace_of_selects (args := #[]) (mvT hZ (hw _ (List.mem_of_getElem? (i := 48) rfl)))) (hw _ (List.mem_of_getElem? (i := 48) rfl)) (hw _ (List.mem_of_getElem? (i := 47) rfl)) (hw _ (List.mem_of_getElem? (i := 49) rfl)) (hw _ (List.mem_of_getElem? (i := 7) rfl)) (by decide) (a := b113) f181 (own_ic1 l Z a0 hw [] (b113) ((2 : Int32)) T180.heap n0 (Nat.le_trans Z0 (Nat.le_trans (Nat.le_trans (Nat.le_trans (Nat.le_trans (Nat.le_trans (Nat.le_trans (Nat.le_trans (Nat.le_trans E102.1 E103.1) E104.1) E113.1) K117.1) K124.1) K146.1) K174.1) K180.1)) f184 (by first | assumption | decide)) 0 (by decide) (by decide) (by decide) (by decide) rfl (g := (mkF m 230 #[.val (.int u1), .val (.int u2), .val (.int v101), .val (.ref b102), .val (.ref b103), .val (.ref b104), .val wr105, .val wr107, .val wr109, .val wr111, .val (.ref b113), .val (.int (1 : Int32))] [(.ref b113)])) rfl (by rw [hml]; rfl) (argsL := []) (rest := []) (lenOf own_pd4 rfl) rfl (by show 2 * 0 + _ ≤ _; exact Nat.le_of_eq rfl) (hb hby at_230) ?_
      intro v185 T185 L185 X185 q185
      obtain ⟨rfl, N185q, e185⟩ := q185
      have N185 := Fr.app N180 N185q
      show own_Goes p e below s _ _ _ T185 (mkF m 233 #[.val (.int u1), .val (.int u2), .val (.int v101), .val (.ref b102), .val (.ref b103), .val (.ref b104), .val wr105, .val wr107, .val wr109, .val wr111, .val (.ref b113), .val (.int (1 : Int32))] [(.int (1 : Int32))])
      refine own_by (g' := (mkF m 236 #[.val (.int u1), .val (.int u2), .val (.int v101), .val (.ref b102), .val (.ref b103), .val (.ref b104), .val wr105, .val wr107, .val wr109, .val wr111, .val (.ref b113), .val (.int (1 : Int32))] [])) (fun t k => XS.ifNo X185.here hx rfl (hb hby at_233) rfl ((if0 _ _).trans (feq (by decide : ¬ ((1 : Int32) = (0 : Int32)))).1) k) ?_
      refine own_by (g' := (mkF m 238 #[.val (.int u1), .val (.int u2), .val (.int v101), .val (.ref b102), .val (.ref b103), .val (.ref b104), .val wr105, .val wr107, .val wr109, .val wr111, .val (.ref b113), .val (.int (1 : Int32))] [(.ref b113)])) (fun t k => XS.aload X185.here hx rfl (hb hby at_236) rfl rfl k) ?_
      refine own_callV X185 hx hZ hown (hw _ (List.mem_of_getElem? (i := 38) rfl)) (hw _ (List.mem_of_getElem? (i := 39) rfl)) (notFace_of_selects (args := #[]) (mvT hZ (hw _ (List.mem_of_getElem? (i := 41) rfl)))) (hw _ (List.mem_of_getElem? (i := 41) rfl)) (hw _ (List.mem_of_getElem? (i := 40) rfl)) (hw _ (List.mem_of_getElem? (i := 42) rfl)) (hw _ (List.mem_of_getElem? (i := 7) rfl)) (by decide) (a := b113) f181 (own_ob l Z a0 hw [] (b113) (wr105) T180.heap n0 (Nat.le_trans Z0 (Nat.le_trans (Nat.le_trans (Nat.le_trans (Nat.le_trans (Nat.le_trans (Nat.le_trans (Nat.le_trans (Nat.le_trans E102.1 E103.1) E104.1) E113.1) K117.1) K124.1) K146.1) K174.1) K180.1)) f182 f106) 0 (by decide) (by decide) (by decide) (by decide) e185 (g := (mkF m 238 #[.val (.int u1), .val (.int u2), .val (.int v101), .val (.ref b102), .val (.ref b103), .val (.ref b104), .val wr105, .val wr107, .val wr109, .val wr111, .val (.ref b113), .val (.int (1 : Int32))] [(.ref b113)])) rfl (by rw [hml]; rfl) (argsL := []) (rest := []) (lenOf own_pd3 rfl) rfl (by show 2 * 0 + _ ≤ _; exact Nat.le_of_eq rfl) (hb hby at_238) ?_
      intro v186 T186 L186 X186 q186
      obtain ⟨rfl, N186q, e186⟩ := q186
      have N186 := Fr.app N185 N186q
      show own_Goes p e below s _ _ _ T186 (mkF m 241 #[.val (.int u1), .val (.int u2), .val (.int v101), .val (.ref b102), .val (.ref b103), .val (.ref b104), .val wr105, .val wr107, .val wr109, .val wr111, .val (.ref b113), .val (.int (1 : Int32))] [wr105])
      refine own_by (g' := (mkF m 243 #[.val (.int u1), .val (.int u2), .val (.int v101), .val (.ref b102), .val (.ref b103), .val (.ref b104), .val wr105, .val wr107, .val wr109, .val wr111, .val (.ref b113), .val (.int (1 : Int32))] [wr105, wr105])) (fun t k => XS.aload X186.here hx rfl (hb hby at_241) rfl f106 k) ?_
      refine own_by (g' := (mkF m 246 #[.val (.int u1), .val (.int u2), .val (.int v101), .val (.ref b102), .val (.ref b103), .val (.ref b104), .val wr105, .val wr107, .val wr109, .val wr111, .val (.ref b113), .val (.int (1 : Int32))] [])) (fun t k => Jvm.RoadKit.acmp (g := (mkF m 243 #[.val (.int u1), .val (.int u2), .val (.int v101), .val (.ref b102), .val (.ref b103), .val (.ref b104), .val wr105, .val wr107, .val wr109, .val wr111, .val (.ref b113), .val (.int (1 : Int32))] [wr105, wr105])) X186 hx rfl f106 f106 (pc0 := 243) (pc' := 246) (same := true) rfl (hb hby at_243) rfl (decide_eq_true rfl) (by decide) (by decide) k) ?_
      refine own_by (g' := (mkF m 247 #[.val (.int u1), .val (.int u2), .val (.int v101), .val (.ref b102), .val (.ref b103), .val (.ref b104), .val wr105, .val wr107, .val wr109, .val wr111, .val (.ref b113), .val (.int (1 : Int32))] [(.int (1 : Int32))])) (fun t k => XS.iconst X186.here hx rfl (hb hby at_246) k) ?_
      refine own_by (g' := (mkF m 251 #[.val (.int u1), .val (.int u2), .val (.int v101), .val (.ref b102), .val (.ref b103), .val (.ref b104), .val wr105, .val wr107, .val wr109, .val wr111, .val (.ref b113), .val (.int (1 : Int32))] [(.int (1 : Int32))])) (fun t k => XS.goto X186.here hx rfl (pc0 := 247) (pc' := 251) rfl (hb hby at_247) (by decide) (by decide) k) ?_
      refine own_by (g' := (mkF m 253 #[.val (.int u1), .val (.int u2), .val (.int v101), .val (.ref b102), .val (.ref b103), .val (.ref b104), .val wr105, .val wr107, .val wr109, .val wr111, .val (.ref b113), .val (.int (1 : Int32))] [])) (fun t k => XS.istore X186.here hx rfl (hb hby at_251) rfl (l' := #[.val (.int u1), .val (.int u2), .val (.int v101), .val (.ref b102), .val (.ref b103), .val (.ref b104), .val wr105, .val wr107, .val wr109, .val wr111, .val (.ref b113), .val (.int (1 : Int32))]) rfl k) ?_
      refine own_by (g' := (mkF m 254 #[.val (.int u1), .val (.int u2), .val (.int v101), .val (.ref b102), .val (.ref b103), .val (.ref b104), .val wr105, .val wr107, .val wr109, .val wr111, .val (.ref b113), .val (.int (1 : Int32))] [(.int v101)])) (fun t k => XS.iloadN X186.here hx rfl (hb hby at_253) rfl k) ?_
      refine own_by (g' := (mkF m 255 #[.val (.int u1), .val (.int u2), .val (.int v101), .val (.ref b102), .val (.ref b103), .val (.ref b104), .val wr105, .val wr107, .val wr109, .val wr111, .val (.ref b113), .val (.int (1 : Int32))] [(.int (3 : Int32)), (.int v101)])) (fun t k => XS.iconst X186.here hx rfl (hb hby at_254) k) ?_
      refine own_by (g' := (mkF m 258 #[.val (.int u1), .val (.int u2), .val (.int v101), .val (.ref b102), .val (.ref b103), .val (.ref b104), .val wr105, .val wr107, .val wr109, .val wr111, .val (.ref b113), .val (.int (1 : Int32))] [])) (fun t k => XS.icmpNo X186.here hx rfl (hb hby at_255) rfl (flt hc152).1 k) ?_
      refine own_by (g' := (mkF m 260 #[.val (.int u1), .val (.int u2), .val (.int v101), .val (.ref b102), .val (.ref b103), .val (.ref b104), .val wr105, .val wr107, .val wr109, .val wr111, .val (.ref b113), .val (.int (1 : Int32))] [(.int (1 : Int32))])) (fun t k => XS.iload X186.here hx rfl (hb hby at_258) rfl k) ?_
      refine own_by (g' := (mkF m 263 #[.val (.int u1), .val (.int u2), .val (.int v101), .val (.ref b102), .val (.ref b103), .val (.ref b104), .val wr105, .val wr107, .val wr109, .val wr111, .val (.ref b113), .val (.int (1 : Int32))] [])) (fun t k => XS.ifNo X186.here hx rfl (hb hby at_260) rfl ((if0 _ _).trans (feq (by decide : ¬ ((1 : Int32) = (0 : Int32)))).1) k) ?_
      refine own_by (g' := (mkF m 265 #[.val (.int u1), .val (.int u2), .val (.int v101), .val (.ref b102), .val (.ref b103), .val (.ref b104), .val wr105, .val wr107, .val wr109, .val wr111, .val (.ref b113), .val (.int (1 : Int32))] [(.ref b113)])) (fun t k => XS.aload X186.here hx rfl (hb hby at_263) rfl rfl k) ?_
      refine own_callV X186 hx hZ hown (hw _ (List.mem_of_getElem? (i := 57) rfl)) (hw _ (List.mem_of_getElem? (i := 58) rfl)) (notFace_of_selects (args := #[]) (mvT hZ (hw _ (List.mem_of_getElem? (i := 60) rfl)))) (hw _ (List.mem_of_getElem? (i := 60) rfl)) (hw _ (List.mem_of_getElem? (i := 59) rfl)) (hw _ (List.mem_of_getElem? (i := 61) rfl)) (hw _ (List.mem_of_getElem? (i := 7) rfl)) (by decide) (a := b113) f181 (own_un1 l Z a0 hw [] (b113) (wr105) ((2 : Int32)) T180.heap n0 (Nat.le_trans Z0 (Nat.le_trans (Nat.le_trans (Nat.le_trans (Nat.le_trans (Nat.le_trans (Nat.le_trans (Nat.le_trans (Nat.le_trans E102.1 E103.1) E104.1) E113.1) K117.1) K124.1) K146.1) K174.1) K180.1)) f181 f182 f184 f106 g_b113 (by first | assumption | decide)) 0 (by decide) (by decide) (by decide) (by decide) e186 (g := (mkF m 265 #[.val (.int u1), .val (.int u2), .val (.int v101), .val (.ref b102), .val (.ref b103), .val (.ref b104), .val wr105, .val wr107, .val wr109, .val wr111, .val (.ref b113), .val (.int (1 : Int32))] [(.ref b113)])) rfl (by rw [hml]; rfl) (argsL := []) (rest := []) (lenOf own_pd3 rfl) rfl (by show 2 * 0 + _ ≤ _; exact Nat.le_of_eq rfl) (hb hby at_265) ?_
      intro v187 T187 L187 X187 q187
      obtain ⟨rfl, N187q, K187, f188, f189, f190⟩ := q187
      have N187 := Fr.app N186 N187q
      have f191 : Fld Z T187.heap b113 "com/example/purlin/purlin/framework/ServiceUse" "count" "I" (.int (1 : Int32)) := f190
      show own_Goes p e below s _ _ _ T187 (mkF m 268 #[.val (.int u1), .val (.int u2), .val (.int v101), .val (.ref b102), .val (.ref b103), .val (.ref b104), .val wr105, .val wr107, .val wr109, .val wr111, .val (.ref b113), .val (.int (1 : Int32))] [.null])
      refine own_by (g' := (mkF m 271 #[.val (.int u1), .val (.int u2), .val (.int v101), .val (.ref b102), .val (.ref b103), .val (.ref b104), .val wr105, .val wr107, .val wr109, .val wr111, .val (.ref b113), .val (.int (1 : Int32))] [])) (fun t k => XS.ifnonnullNo X187.here hx rfl (hb hby at_268) rfl k) ?_
      refine own_by (g' := (mkF m 273 #[.val (.int u1), .val (.int u2), .val (.int v101), .val (.ref b102), .val (.ref b103), .val (.ref b104), .val wr105, .val wr107, .val wr109, .val wr111, .val (.ref b113), .val (.int (1 : Int32))] [(.ref b113)])) (fun t k => XS.aload X187.here hx rfl (hb hby at_271) rfl rfl k) ?_
      refine own_callV X187 hx hZ hown (hw _ (List.mem_of_getElem? (i := 45) rfl)) (hw _ (List.mem_of_getElem? (i := 46) rfl)) (notFace_of_selects (args := #[]) (mvT hZ (hw _ (List.mem_of_getElem? (i := 48) rfl)))) (hw _ (List.mem_of_getElem? (i := 48) rfl)) (hw _ (List.mem_of_getElem? (i := 47) rfl)) (hw _ (List.mem_of_getElem? (i := 49) rfl)) (hw _ (List.mem_of_getElem? (i := 7) rfl)) (by decide) (a := b113) f188 (own_ic1 l Z a0 hw [] (b113) ((1 : Int32)) T187.heap n0 (Nat.le_trans Z0 (Nat.le_trans (Nat.le_trans (Nat.le_trans (Nat.le_trans (Nat.le_trans (Nat.le_trans (Nat.le_trans (Nat.le_trans (Nat.le_trans E102.1 E103.1) E104.1) E113.1) K117.1) K124.1) K146.1) K174.1) K180.1) K187.1)) f191 (by first | assumption | decide)) 0 (by decide) (by decide) (by decide) (by decide) rfl (g := (mkF m 273 #[.val (.int u1), .val (.int u2), .val (.int v101), .val (.ref b102), .val (.ref b103), .val (.ref b104), .val wr105, .val wr107, .val wr109, .val wr111, .val (.ref b113), .val (.int (1 : Int32))] [(.ref b113)])) rfl (by rw [hml]; rfl) (argsL := []) (rest := []) (lenOf own_pd4 rfl) rfl (by show 2 * 0 + _ ≤ _; exact Nat.le_of_eq rfl) (hb hby at_273) ?_
      intro v192 T192 L192 X192 q192
      obtain ⟨rfl, N192q, e192⟩ := q192
      have N192 := Fr.app N187 N192q
      show own_Goes p e below s _ _ _ T192 (mkF m 276 #[.val (.int u1), .val (.int u2), .val (.int v101), .val (.ref b102), .val (.ref b103), .val (.ref b104), .val wr105, .val wr107, .val wr109, .val wr111, .val (.ref b113), .val (.int (1 : Int32))] [(.int (1 : Int32))])
      refine own_by (g' := (mkF m 279 #[.val (.int u1), .val (.int u2), .val (.int v101), .val (.ref b102), .val (.ref b103), .val (.ref b104), .val wr105, .val wr107, .val wr109, .val wr111, .val (.ref b113), .val (.int (1 : Int32))] [])) (fun t k => XS.ifNo X192.here hx rfl (hb hby at_276) rfl ((if0 _ _).trans (feq (by decide : ¬ ((1 : Int32) = (0 : Int32)))).1) k) ?_
      refine own_by (g' := (mkF m 281 #[.val (.int u1), .val (.int u2), .val (.int v101), .val (.ref b102), .val (.ref b103), .val (.ref b104), .val wr105, .val wr107, .val wr109, .val wr111, .val (.ref b113), .val (.int (1 : Int32))] [(.ref b113)])) (fun t k => XS.aload X192.here hx rfl (hb hby at_279) rfl rfl k) ?_
      refine own_callV X192 hx hZ hown (hw _ (List.mem_of_getElem? (i := 38) rfl)) (hw _ (List.mem_of_getElem? (i := 39) rfl)) (notFace_of_selects (args := #[]) (mvT hZ (hw _ (List.mem_of_getElem? (i := 41) rfl)))) (hw _ (List.mem_of_getElem? (i := 41) rfl)) (hw _ (List.mem_of_getElem? (i := 40) rfl)) (hw _ (List.mem_of_getElem? (i := 42) rfl)) (hw _ (List.mem_of_getElem? (i := 7) rfl)) (by decide) (a := b113) f188 (own_ob l Z a0 hw [] (b113) (wr105) T187.heap n0 (Nat.le_trans Z0 (Nat.le_trans (Nat.le_trans (Nat.le_trans (Nat.le_trans (Nat.le_trans (Nat.le_trans (Nat.le_trans (Nat.le_trans (Nat.le_trans E102.1 E103.1) E104.1) E113.1) K117.1) K124.1) K146.1) K174.1) K180.1) K187.1)) f189 f106) 0 (by decide) (by decide) (by decide) (by decide) e192 (g := (mkF m 281 #[.val (.int u1), .val (.int u2), .val (.int v101), .val (.ref b102), .val (.ref b103), .val (.ref b104), .val wr105, .val wr107, .val wr109, .val wr111, .val (.ref b113), .val (.int (1 : Int32))] [(.ref b113)])) rfl (by rw [hml]; rfl) (argsL := []) (rest := []) (lenOf own_pd3 rfl) rfl (by show 2 * 0 + _ ≤ _; exact Nat.le_of_eq rfl) (hb hby at_281) ?_
      intro v193 T193 L193 X193 q193
      obtain ⟨rfl, N193q, e193⟩ := q193
      have N193 := Fr.app N192 N193q
      show own_Goes p e below s _ _ _ T193 (mkF m 284 #[.val (.int u1), .val (.int u2), .val (.int v101), .val (.ref b102), .val (.ref b103), .val (.ref b104), .val wr105, .val wr107, .val wr109, .val wr111, .val (.ref b113), .val (.int (1 : Int32))] [wr105])
      refine own_by (g' := (mkF m 286 #[.val (.int u1), .val (.int u2), .val (.int v101), .val (.ref b102), .val (.ref b103), .val (.ref b104), .val wr105, .val wr107, .val wr109, .val wr111, .val (.ref b113), .val (.int (1 : Int32))] [wr105, wr105])) (fun t k => XS.aload X193.here hx rfl (hb hby at_284) rfl f106 k) ?_
      refine own_by (g' := (mkF m 289 #[.val (.int u1), .val (.int u2), .val (.int v101), .val (.ref b102), .val (.ref b103), .val (.ref b104), .val wr105, .val wr107, .val wr109, .val wr111, .val (.ref b113), .val (.int (1 : Int32))] [])) (fun t k => Jvm.RoadKit.acmp (g := (mkF m 286 #[.val (.int u1), .val (.int u2), .val (.int v101), .val (.ref b102), .val (.ref b103), .val (.ref b104), .val wr105, .val wr107, .val wr109, .val wr111, .val (.ref b113), .val (.int (1 : Int32))] [wr105, wr105])) X193 hx rfl f106 f106 (pc0 := 286) (pc' := 289) (same := true) rfl (hb hby at_286) rfl (decide_eq_true rfl) (by decide) (by decide) k) ?_
      refine own_by (g' := (mkF m 290 #[.val (.int u1), .val (.int u2), .val (.int v101), .val (.ref b102), .val (.ref b103), .val (.ref b104), .val wr105, .val wr107, .val wr109, .val wr111, .val (.ref b113), .val (.int (1 : Int32))] [(.int (1 : Int32))])) (fun t k => XS.iconst X193.here hx rfl (hb hby at_289) k) ?_
      refine own_by (g' := (mkF m 294 #[.val (.int u1), .val (.int u2), .val (.int v101), .val (.ref b102), .val (.ref b103), .val (.ref b104), .val wr105, .val wr107, .val wr109, .val wr111, .val (.ref b113), .val (.int (1 : Int32))] [(.int (1 : Int32))])) (fun t k => XS.goto X193.here hx rfl (pc0 := 290) (pc' := 294) rfl (hb hby at_290) (by decide) (by decide) k) ?_
      refine own_by (g' := (mkF m 296 #[.val (.int u1), .val (.int u2), .val (.int v101), .val (.ref b102), .val (.ref b103), .val (.ref b104), .val wr105, .val wr107, .val wr109, .val wr111, .val (.ref b113), .val (.int (1 : Int32))] [])) (fun t k => XS.istore X193.here hx rfl (hb hby at_294) rfl (l' := #[.val (.int u1), .val (.int u2), .val (.int v101), .val (.ref b102), .val (.ref b103), .val (.ref b104), .val wr105, .val wr107, .val wr109, .val wr111, .val (.ref b113), .val (.int (1 : Int32))]) rfl k) ?_
      refine own_by (g' := (mkF m 298 #[.val (.int u1), .val (.int u2), .val (.int v101), .val (.ref b102), .val (.ref b103), .val (.ref b104), .val wr105, .val wr107, .val wr109, .val wr111, .val (.ref b113), .val (.int (1 : Int32))] [(.int (1 : Int32))])) (fun t k => XS.iload X193.here hx rfl (hb hby at_296) rfl k) ?_
      refine own_by (g' := (mkF m 301 #[.val (.int u1), .val (.int u2), .val (.int v101), .val (.ref b102), .val (.ref b103), .val (.ref b104), .val wr105, .val wr107, .val wr109, .val wr111, .val (.ref b113), .val (.int (1 : Int32))] [])) (fun t k => XS.ifNo X193.here hx rfl (hb hby at_298) rfl ((if0 _ _).trans (feq (by decide : ¬ ((1 : Int32) = (0 : Int32)))).1) k) ?_
      refine own_by (g' := (mkF m 303 #[.val (.int u1), .val (.int u2), .val (.int v101), .val (.ref b102), .val (.ref b103), .val (.ref b104), .val wr105, .val wr107, .val wr109, .val wr111, .val (.ref b113), .val (.int (1 : Int32))] [(.ref b113)])) (fun t k => XS.aload X193.here hx rfl (hb hby at_301) rfl rfl k) ?_
      refine own_callV X193 hx hZ hown (hw _ (List.mem_of_getElem? (i := 57) rfl)) (hw _ (List.mem_of_getElem? (i := 58) rfl)) (notFace_of_selects (args := #[]) (mvT hZ (hw _ (List.mem_of_getElem? (i := 60) rfl)))) (hw _ (List.mem_of_getElem? (i := 60) rfl)) (hw _ (List.mem_of_getElem? (i := 59) rfl)) (hw _ (List.mem_of_getElem? (i := 61) rfl)) (hw _ (List.mem_of_getElem? (i := 7) rfl)) (by decide) (a := b113) f188 (own_un0 l Z a0 hw [] (b113) (wr105) ((1 : Int32)) T187.heap n0 (Nat.le_trans Z0 (Nat.le_trans (Nat.le_trans (Nat.le_trans (Nat.le_trans (Nat.le_trans (Nat.le_trans (Nat.le_trans (Nat.le_trans (Nat.le_trans E102.1 E103.1) E104.1) E113.1) K117.1) K124.1) K146.1) K174.1) K180.1) K187.1)) f188 f189 f191 f106 g_b113 (by first | assumption | decide)) 0 (by decide) (by decide) (by decide) (by decide) e193 (g := (mkF m 303 #[.val (.int u1), .val (.int u2), .val (.int v101), .val (.ref b102), .val (.ref b103), .val (.ref b104), .val wr105, .val wr107, .val wr109, .val wr111, .val (.ref b113), .val (.int (1 : Int32))] [(.ref b113)])) rfl (by rw [hml]; rfl) (argsL := []) (rest := []) (lenOf own_pd3 rfl) rfl (by show 2 * 0 + _ ≤ _; exact Nat.le_of_eq rfl) (hb hby at_303) ?_
      intro v194 T194 L194 X194 q194
      obtain ⟨rfl, N194q, K194, f195, f196, f197⟩ := q194
      have N194 := Fr.app N193 N194q
      have f198 : Fld Z T194.heap b113 "com/example/purlin/purlin/framework/ServiceUse" "count" "I" (.int (0 : Int32)) := f197
      show own_Goes p e below s _ _ _ T194 (mkF m 306 #[.val (.int u1), .val (.int u2), .val (.int v101), .val (.ref b102), .val (.ref b103), .val (.ref b104), .val wr105, .val wr107, .val wr109, .val wr111, .val (.ref b113), .val (.int (1 : Int32))] [wr105])
      refine own_by (g' := (mkF m 308 #[.val (.int u1), .val (.int u2), .val (.int v101), .val (.ref b102), .val (.ref b103), .val (.ref b104), .val wr105, .val wr107, .val wr109, .val wr111, .val (.ref b113), .val (.int (1 : Int32))] [wr105, wr105])) (fun t k => XS.aload X194.here hx rfl (hb hby at_306) rfl f106 k) ?_
      refine own_by (g' := (mkF m 311 #[.val (.int u1), .val (.int u2), .val (.int v101), .val (.ref b102), .val (.ref b103), .val (.ref b104), .val wr105, .val wr107, .val wr109, .val wr111, .val (.ref b113), .val (.int (1 : Int32))] [])) (fun t k => Jvm.RoadKit.acmp (g := (mkF m 308 #[.val (.int u1), .val (.int u2), .val (.int v101), .val (.ref b102), .val (.ref b103), .val (.ref b104), .val wr105, .val wr107, .val wr109, .val wr111, .val (.ref b113), .val (.int (1 : Int32))] [wr105, wr105])) X194 hx rfl f106 f106 (pc0 := 308) (pc' := 311) (same := true) rfl (hb hby at_308) rfl (decide_eq_true rfl) (by decide) (by decide) k) ?_
      refine own_by (g' := (mkF m 313 #[.val (.int u1), .val (.int u2), .val (.int v101), .val (.ref b102), .val (.ref b103), .val (.ref b104), .val wr105, .val wr107, .val wr109, .val wr111, .val (.ref b113), .val (.int (1 : Int32))] [(.ref b113)])) (fun t k => XS.aload X194.here hx rfl (hb hby at_311) rfl rfl k) ?_
      refine own_callV X194 hx hZ hown (hw _ (List.mem_of_getElem? (i := 45) rfl)) (hw _ (List.mem_of_getElem? (i := 46) rfl)) (notFace_of_selects (args := #[]) (mvT hZ (hw _ (List.mem_of_getElem? (i := 48) rfl)))) (hw _ (List.mem_of_getElem? (i := 48) rfl)) (hw _ (List.mem_of_getElem? (i := 47) rfl)) (hw _ (List.mem_of_getElem? (i := 49) rfl)) (hw _ (List.mem_of_getElem? (i := 7) rfl)) (by decide) (a := b113) f195 (own_ic0 l Z a0 hw [] (b113) ((0 : Int32)) T194.heap n0 (Nat.le_trans Z0 (Nat.le_trans (Nat.le_trans (Nat.le_trans (Nat.le_trans (Nat.le_trans (Nat.le_trans (Nat.le_trans (Nat.le_trans (Nat.le_trans (Nat.le_trans E102.1 E103.1) E104.1) E113.1) K117.1) K124.1) K146.1) K174.1) K180.1) K187.1) K194.1)) f198 (by first | assumption | decide)) 0 (by decide) (by decide) (by decide) (by decide) rfl (g := (mkF m 313 #[.val (.int u1), .val (.int u2), .val (.int v101), .val (.ref b102), .val (.ref b103), .val (.ref b104), .val wr105, .val wr107, .val wr109, .val wr111, .val (.ref b113), .val (.int (1 : Int32))] [(.ref b113)])) rfl (by rw [hml]; rfl) (argsL := []) (rest := []) (lenOf own_pd4 rfl) rfl (by show 2 * 0 + _ ≤ _; exact Nat.le_of_eq rfl) (hb hby at_313) ?_
      intro v199 T199 L199 X199 q199
      obtain ⟨rfl, N199q, e199⟩ := q199
      have N199 := Fr.app N194 N199q
      show own_Goes p e below s _ _ _ T199 (mkF m 316 #[.val (.int u1), .val (.int u2), .val (.int v101), .val (.ref b102), .val (.ref b103), .val (.ref b104), .val wr105, .val wr107, .val wr109, .val wr111, .val (.ref b113), .val (.int (1 : Int32))] [(.int (0 : Int32))])
      refine own_by (g' := (mkF m 319 #[.val (.int u1), .val (.int u2), .val (.int v101), .val (.ref b102), .val (.ref b103), .val (.ref b104), .val wr105, .val wr107, .val wr109, .val wr111, .val (.ref b113), .val (.int (1 : Int32))] [])) (fun t k => XS.ifNo X199.here hx rfl (hb hby at_316) rfl ((if0 _ _).trans (teq (by decide : (0 : Int32) = (0 : Int32))).2) k) ?_
      refine own_by (g' := (mkF m 321 #[.val (.int u1), .val (.int u2), .val (.int v101), .val (.ref b102), .val (.ref b103), .val (.ref b104), .val wr105, .val wr107, .val wr109, .val wr111, .val (.ref b113), .val (.int (1 : Int32))] [(.ref b113)])) (fun t k => XS.aload X199.here hx rfl (hb hby at_319) rfl rfl k) ?_
      refine own_callV X199 hx hZ hown (hw _ (List.mem_of_getElem? (i := 38) rfl)) (hw _ (List.mem_of_getElem? (i := 39) rfl)) (notFace_of_selects (args := #[]) (mvT hZ (hw _ (List.mem_of_getElem? (i := 41) rfl)))) (hw _ (List.mem_of_getElem? (i := 41) rfl)) (hw _ (List.mem_of_getElem? (i := 40) rfl)) (hw _ (List.mem_of_getElem? (i := 42) rfl)) (hw _ (List.mem_of_getElem? (i := 7) rfl)) (by decide) (a := b113) f195 (own_ob l Z a0 hw [] (b113) (.null) T194.heap n0 (Nat.le_trans Z0 (Nat.le_trans (Nat.le_trans (Nat.le_trans (Nat.le_trans (Nat.le_trans (Nat.le_trans (Nat.le_trans (Nat.le_trans (Nat.le_trans (Nat.le_trans E102.1 E103.1) E104.1) E113.1) K117.1) K124.1) K146.1) K174.1) K180.1) K187.1) K194.1)) f196 rfl) 0 (by decide) (by decide) (by decide) (by decide) e199 (g := (mkF m 321 #[.val (.int u1), .val (.int u2), .val (.int v101), .val (.ref b102), .val (.ref b103), .val (.ref b104), .val wr105, .val wr107, .val wr109, .val wr111, .val (.ref b113), .val (.int (1 : Int32))] [(.ref b113)])) rfl (by rw [hml]; rfl) (argsL := []) (rest := []) (lenOf own_pd3 rfl) rfl (by show 2 * 0 + _ ≤ _; exact Nat.le_of_eq rfl) (hb hby at_321) ?_
      intro v200 T200 L200 X200 q200
      obtain ⟨rfl, N200q, e200⟩ := q200
      have N200 := Fr.app N199 N200q
      show own_Goes p e below s _ _ _ T200 (mkF m 324 #[.val (.int u1), .val (.int u2), .val (.int v101), .val (.ref b102), .val (.ref b103), .val (.ref b104), .val wr105, .val wr107, .val wr109, .val wr111, .val (.ref b113), .val (.int (1 : Int32))] [.null])
      refine own_by (g' := (mkF m 327 #[.val (.int u1), .val (.int u2), .val (.int v101), .val (.ref b102), .val (.ref b103), .val (.ref b104), .val wr105, .val wr107, .val wr109, .val wr111, .val (.ref b113), .val (.int (1 : Int32))] [])) (fun t k => XS.ifnonnullNo X200.here hx rfl (hb hby at_324) rfl k) ?_
      refine own_by (g' := (mkF m 328 #[.val (.int u1), .val (.int u2), .val (.int v101), .val (.ref b102), .val (.ref b103), .val (.ref b104), .val wr105, .val wr107, .val wr109, .val wr111, .val (.ref b113), .val (.int (1 : Int32))] [(.int (1 : Int32))])) (fun t k => XS.iconst X200.here hx rfl (hb hby at_327) k) ?_
      refine own_by (g' := (mkF m 332 #[.val (.int u1), .val (.int u2), .val (.int v101), .val (.ref b102), .val (.ref b103), .val (.ref b104), .val wr105, .val wr107, .val wr109, .val wr111, .val (.ref b113), .val (.int (1 : Int32))] [(.int (1 : Int32))])) (fun t k => XS.goto X200.here hx rfl (pc0 := 328) (pc' := 332) rfl (hb hby at_328) (by decide) (by decide) k) ?_
      refine own_by (g' := (mkF m 334 #[.val (.int u1), .val (.int u2), .val (.int v101), .val (.ref b102), .val (.ref b103), .val (.ref b104), .val wr105, .val wr107, .val wr109, .val wr111, .val (.ref b113), .val (.int (1 : Int32))] [])) (fun t k => XS.istore X200.here hx rfl (hb hby at_332) rfl (l' := #[.val (.int u1), .val (.int u2), .val (.int v101), .val (.ref b102), .val (.ref b103), .val (.ref b104), .val wr105, .val wr107, .val wr109, .val wr111, .val (.ref b113), .val (.int (1 : Int32))]) rfl k) ?_
      refine own_by (g' := (mkF m 336 #[.val (.int u1), .val (.int u2), .val (.int v101), .val (.ref b102), .val (.ref b103), .val (.ref b104), .val wr105, .val wr107, .val wr109, .val wr111, .val (.ref b113), .val (.int (1 : Int32))] [(.ref b113)])) (fun t k => XS.aload X200.here hx rfl (hb hby at_334) rfl rfl k) ?_
      refine own_by (g' := (mkF m 338 #[.val (.int u1), .val (.int u2), .val (.int v101), .val (.ref b102), .val (.ref b103), .val (.ref b104), .val wr105, .val wr107, .val wr109, .val wr111, .val (.ref b113), .val (.int (1 : Int32))] [wr111, (.ref b113)])) (fun t k => XS.aload X200.here hx rfl (hb hby at_336) rfl f112 k) ?_
      refine own_callV X200 hx hZ hown (hw _ (List.mem_of_getElem? (i := 52) rfl)) (hw _ (List.mem_of_getElem? (i := 53) rfl)) (notFace_of_selects (args := #[]) (mvT hZ (hw _ (List.mem_of_getElem? (i := 55) rfl)))) (hw _ (List.mem_of_getElem? (i := 55) rfl)) (hw _ (List.mem_of_getElem? (i := 54) rfl)) (hw _ (List.mem_of_getElem? (i := 56) rfl)) (hw _ (List.mem_of_getElem? (i := 7) rfl)) (by decide) (a := b113) f195 (own_use0 l Z a0 hw [] (b113) (wr111) (.null) ((0 : Int32)) T194.heap n0 (Nat.le_trans Z0 (Nat.le_trans (Nat.le_trans (Nat.le_trans (Nat.le_trans (Nat.le_trans (Nat.le_trans (Nat.le_trans (Nat.le_trans (Nat.le_trans (Nat.le_trans E102.1 E103.1) E104.1) E113.1) K117.1) K124.1) K146.1) K174.1) K180.1) K187.1) K194.1)) f195 f196 f198 rfl g_b113 f112 (by first | assumption | decide)) 0 (by decide) (by decide) (by decide) (by decide) e200 (g := (mkF m 338 #[.val (.int u1), .val (.int u2), .val (.int v101), .val (.ref b102), .val (.ref b103), .val (.ref b104), .val wr105, .val wr107, .val wr109, .val wr111, .val (.ref b113), .val (.int (1 : Int32))] [wr111, (.ref b113)])) rfl (by rw [hml]; rfl) (argsL := [wr111]) (rest := []) (lenOf own_pd5 rfl) rfl (by show 2 * 0 + _ ≤ _; exact Nat.le_of_eq rfl) (hb hby at_338) ?_
      intro v201 T201 L201 X201 q201
      obtain ⟨rfl, N201q, K201, f202, f203, f204⟩ := q201
      have N201 := Fr.app N200 N201q
      have f205 : Fld Z T201.heap b113 "com/example/purlin/purlin/framework/ServiceUse" "count" "I" (.int (1 : Int32)) := f204
      show own_Goes p e below s _ _ _ T201 (mkF m 341 #[.val (.int u1), .val (.int u2), .val (.int v101), .val (.ref b102), .val (.ref b103), .val (.ref b104), .val wr105, .val wr107, .val wr109, .val wr111, .val (.ref b113), .val (.int (1 : Int32))] [])
      refine own_by (g' := (mkF m 343 #[.val (.int u1), .val (.int u2), .val (.int v101), .val (.ref b102), .val (.ref b103), .val (.ref b104), .val wr105, .val wr107, .val wr109, .val wr111, .val (.ref b113), .val (.int (1 : Int32))] [(.int (1 : Int32))])) (fun t k => XS.iload X201.here hx rfl (hb hby at_341) rfl k) ?_
      refine own_by (g' := (mkF m 346 #[.val (.int u1), .val (.int u2), .val (.int v101), .val (.ref b102), .val (.ref b103), .val (.ref b104), .val wr105, .val wr107, .val wr109, .val wr111, .val (.ref b113), .val (.int (1 : Int32))] [])) (fun t k => XS.ifNo X201.here hx rfl (hb hby at_343) rfl ((if0 _ _).trans (feq (by decide : ¬ ((1 : Int32) = (0 : Int32)))).1) k) ?_
      refine own_by (g' := (mkF m 348 #[.val (.int u1), .val (.int u2), .val (.int v101), .val (.ref b102), .val (.ref b103), .val (.ref b104), .val wr105, .val wr107, .val wr109, .val wr111, .val (.ref b113), .val (.int (1 : Int32))] [(.ref b113)])) (fun t k => XS.aload X201.here hx rfl (hb hby at_346) rfl rfl k) ?_
      refine own_callV X201 hx hZ hown (hw _ (List.mem_of_getElem? (i := 38) rfl)) (hw _ (List.mem_of_getElem? (i := 39) rfl)) (notFace_of_selects (args := #[]) (mvT hZ (hw _ (List.mem_of_getElem? (i := 41) rfl)))) (hw _ (List.mem_of_getElem? (i := 41) rfl)) (hw _ (List.mem_of_getElem? (i := 40) rfl)) (hw _ (List.mem_of_getElem? (i := 42) rfl)) (hw _ (List.mem_of_getElem? (i := 7) rfl)) (by decide) (a := b113) f202 (own_ob l Z a0 hw [] (b113) (wr111) T201.heap n0 (Nat.le_trans Z0 (Nat.le_trans (Nat.le_trans (Nat.le_trans (Nat.le_trans (Nat.le_trans (Nat.le_trans (Nat.le_trans (Nat.le_trans (Nat.le_trans (Nat.le_trans (Nat.le_trans E102.1 E103.1) E104.1) E113.1) K117.1) K124.1) K146.1) K174.1) K180.1) K187.1) K194.1) K201.1)) f203 f112) 0 (by decide) (by decide) (by decide) (by decide) rfl (g := (mkF m 348 #[.val (.int u1), .val (.int u2), .val (.int v101), .val (.ref b102), .val (.ref b103), .val (.ref b104), .val wr105, .val wr107, .val wr109, .val wr111, .val (.ref b113), .val (.int (1 : Int32))] [(.ref b113)])) rfl (by rw [hml]; rfl) (argsL := []) (rest := []) (lenOf own_pd3 rfl) rfl (by show 2 * 0 + _ ≤ _; exact Nat.le_of_eq rfl) (hb hby at_348) ?_
      intro v206 T206 L206 X206 q206
      obtain ⟨rfl, N206q, e206⟩ := q206
      have N206 := Fr.app N201 N206q
      show own_Goes p e below s _ _ _ T206 (mkF m 351 #[.val (.int u1), .val (.int u2), .val (.int v101), .val (.ref b102), .val (.ref b103), .val (.ref b104), .val wr105, .val wr107, .val wr109, .val wr111, .val (.ref b113), .val (.int (1 : Int32))] [wr111])
      refine own_by (g' := (mkF m 353 #[.val (.int u1), .val (.int u2), .val (.int v101), .val (.ref b102), .val (.ref b103), .val (.ref b104), .val wr105, .val wr107, .val wr109, .val wr111, .val (.ref b113), .val (.int (1 : Int32))] [wr111, wr111])) (fun t k => XS.aload X206.here hx rfl (hb hby at_351) rfl f112 k) ?_
      refine own_by (g' := (mkF m 356 #[.val (.int u1), .val (.int u2), .val (.int v101), .val (.ref b102), .val (.ref b103), .val (.ref b104), .val wr105, .val wr107, .val wr109, .val wr111, .val (.ref b113), .val (.int (1 : Int32))] [])) (fun t k => Jvm.RoadKit.acmp (g := (mkF m 353 #[.val (.int u1), .val (.int u2), .val (.int v101), .val (.ref b102), .val (.ref b103), .val (.ref b104), .val wr105, .val wr107, .val wr109, .val wr111, .val (.ref b113), .val (.int (1 : Int32))] [wr111, wr111])) X206 hx rfl f112 f112 (pc0 := 353) (pc' := 356) (same := true) rfl (hb hby at_353) rfl (decide_eq_true rfl) (by decide) (by decide) k) ?_
      refine own_by (g' := (mkF m 358 #[.val (.int u1), .val (.int u2), .val (.int v101), .val (.ref b102), .val (.ref b103), .val (.ref b104), .val wr105, .val wr107, .val wr109, .val wr111, .val (.ref b113), .val (.int (1 : Int32))] [(.ref b113)])) (fun t k => XS.aload X206.here hx rfl (hb hby at_356) rfl rfl k) ?_
      refine own_callV X206 hx hZ hown (hw _ (List.mem_of_getElem? (i := 45) rfl)) (hw _ (List.mem_of_getElem? (i := 46) rfl)) (notFace_of_selects (args := #[]) (mvT hZ (hw _ (List.mem_of_getElem? (i := 48) rfl)))) (hw _ (List.mem_of_getElem? (i := 48) rfl)) (hw _ (List.mem_of_getElem? (i := 47) rfl)) (hw _ (List.mem_of_getElem? (i := 49) rfl)) (hw _ (List.mem_of_getElem? (i := 7) rfl)) (by decide) (a := b113) f202 (own_ic1 l Z a0 hw [] (b113) ((1 : Int32)) T201.heap n0 (Nat.le_trans Z0 (Nat.le_trans (Nat.le_trans (Nat.le_trans (Nat.le_trans (Nat.le_trans (Nat.le_trans (Nat.le_trans (Nat.le_trans (Nat.le_trans (Nat.le_trans (Nat.le_trans E102.1 E103.1) E104.1) E113.1) K117.1) K124.1) K146.1) K174.1) K180.1) K187.1) K194.1) K201.1)) f205 (by first | assumption | decide)) 0 (by decide) (by decide) (by decide) (by decide) e206 (g := (mkF m 358 #[.val (.int u1), .val (.int u2), .val (.int v101), .val (.ref b102), .val (.ref b103), .val (.ref b104), .val wr105, .val wr107, .val wr109, .val wr111, .val (.ref b113), .val (.int (1 : Int32))] [(.ref b113)])) rfl (by rw [hml]; rfl) (argsL := []) (rest := []) (lenOf own_pd4 rfl) rfl (by show 2 * 0 + _ ≤ _; exact Nat.le_of_eq rfl) (hb hby at_358) ?_
      intro v207 T207 L207 X207 q207
      obtain ⟨rfl, N207q, e207⟩ := q207
      have N207 := Fr.app N206 N207q
      show own_Goes p e below s _ _ _ T207 (mkF m 361 #[.val (.int u1), .val (.int u2), .val (.int v101), .val (.ref b102), .val (.ref b103), .val (.ref b104), .val wr105, .val wr107, .val wr109, .val wr111, .val (.ref b113), .val (.int (1 : Int32))] [(.int (1 : Int32))])
      refine own_by (g' := (mkF m 364 #[.val (.int u1), .val (.int u2), .val (.int v101), .val (.ref b102), .val (.ref b103), .val (.ref b104), .val wr105, .val wr107, .val wr109, .val wr111, .val (.ref b113), .val (.int (1 : Int32))] [])) (fun t k => XS.ifNo X207.here hx rfl (hb hby at_361) rfl ((if0 _ _).trans (feq (by decide : ¬ ((1 : Int32) = (0 : Int32)))).1) k) ?_
      refine own_by (g' := (mkF m 365 #[.val (.int u1), .val (.int u2), .val (.int v101), .val (.ref b102), .val (.ref b103), .val (.ref b104), .val wr105, .val wr107, .val wr109, .val wr111, .val (.ref b113), .val (.int (1 : Int32))] [(.int (1 : Int32))])) (fun t k => XS.iconst X207.here hx rfl (hb hby at_364) k) ?_
      refine own_by (g' := (mkF m 369 #[.val (.int u1), .val (.int u2), .val (.int v101), .val (.ref b102), .val (.ref b103), .val (.ref b104), .val wr105, .val wr107, .val wr109, .val wr111, .val (.ref b113), .val (.int (1 : Int32))] [(.int (1 : Int32))])) (fun t k => XS.goto X207.here hx rfl (pc0 := 365) (pc' := 369) rfl (hb hby at_365) (by decide) (by decide) k) ?_
      refine own_by (g' := (mkF m 371 #[.val (.int u1), .val (.int u2), .val (.int v101), .val (.ref b102), .val (.ref b103), .val (.ref b104), .val wr105, .val wr107, .val wr109, .val wr111, .val (.ref b113), .val (.int (1 : Int32))] [])) (fun t k => XS.istore X207.here hx rfl (hb hby at_369) rfl (l' := #[.val (.int u1), .val (.int u2), .val (.int v101), .val (.ref b102), .val (.ref b103), .val (.ref b104), .val wr105, .val wr107, .val wr109, .val wr111, .val (.ref b113), .val (.int (1 : Int32))]) rfl k) ?_
      refine own_by (g' := (mkF m 373 #[.val (.int u1), .val (.int u2), .val (.int v101), .val (.ref b102), .val (.ref b103), .val (.ref b104), .val wr105, .val wr107, .val wr109, .val wr111, .val (.ref b113), .val (.int (1 : Int32))] [(.int (1 : Int32))])) (fun t k => XS.iload X207.here hx rfl (hb hby at_371) rfl k) ?_
      refine own_retN X207 hx hlk hret (t := .boolean) (by simp) (hb hby at_373) (by decide) (by decide) ?_
      rw [e207]
      exact ⟨rfl, N207, (((((((((((((Keep.refl h0 []).ext E102).ext E103).ext E104).ext E113).trans K117 (allS (Or.inr sz_b113) all0)).trans K124 (allS (Or.inr sz_b113) all0)).trans K146 (allS (Or.inr sz_b113) all0)).trans K174 (allS (Or.inr sz_b113) all0)).trans K180 (allS (Or.inr sz_b113) all0)).trans K187 (allS (Or.inr sz_b113) all0)).trans K194 (allS (Or.inr sz_b113) all0)).trans K201 (allS (Or.inr sz_b113) all0))⟩
set_option maxRecDepth 65536 in
set_option maxHeartbeats 40000000 in
theorem comes_1 {Post : Tables → Env → Array Value → State → Outcome → State → Prop} (hpost : ∀ tb e args s v u, (limb_1_1.after args s (.returned v) u = true ∧ limb_1_2.after args s (.returned v) u = true ∧ True) → FrameEnd s (.returned v) u (Jvm.fieldLocs frame_1_writes args s ++ Jvm.arrayLocs frame_1_arrays args s ++ Jvm.staticLocs frame_1_statics s) 24 256 → Post tb e args s (.returned v) u) :
    ArmFor flags0 classFile x code maxLocals ret World_1 tables_1 room_1 Calls_1 rest_1 Pre_1 Post := by
  intro l hfl _ _ p e ha hc hk s m args below hf hA hF happ hP
  obtain ⟨hcalls, hrest, hpre⟩ := hP
  obtain ⟨-, -, -, hnamed, -, -, -, hat⟩ := (Spec.applies_iff hf).mp happ
  obtain ⟨hg, hn⟩ := and_e (Cond.before_iff.mp (show (Jvm.Cond.and given_1 narrow_1).before args s = true from hpre))
  obtain ⟨ga1, gb1⟩ := and_e hg
  obtain ⟨ga2, gb2⟩ := and_e gb1
  obtain ⟨w0, w1, rfl⟩ : ∃ w0 w1 : Value, args = #[w0, w1] := by
    have hs : args.size = 2 := by simpa [Cond.value, given_1] using ga1
    obtain ⟨L⟩ := args
    match L, hs with
    | [w0, w1], _ => exact ⟨w0, w1, rfl⟩
  have hw := fun d (hd : d ∈ tables_1) => atoms_spec (ws := Jvm.Cond.code x code maxLocals ret :: tables_1) hat d (List.mem_cons_of_mem _ hd)
  have hfit : Fit s := fun {y c} hc i hi => by
    obtain ⟨ha, rfl⟩ := Array.getElem?_eq_some_iff.mp hc
    have q := List.all_eq_true.mp ((Array.all_eq_true_iff_forall_mem.mp hF) _ (Array.getElem_mem ha)) i (List.mem_range.mpr hi)
    simpa [Array.getElem?_eq_getElem hi] using q
  obtain ⟨i0, ei0⟩ := is_v ga2
  obtain rfl : w0 = (.int i0) := Option.some.inj ei0
  obtain ⟨i1, ei1⟩ := is_v gb2
  obtain rfl : w1 = (.int i1) := Option.some.inj ei1
  obtain ⟨n, o, h1, h2, h3, _, L, rfl, ⟨rfl, N, -⟩, hq⟩ := own_law l s _ hw tables_1 i0 i1 s.heap s.heap.size (Nat.le_refl _)  p e ha hc hk s m _ below hf ((Spec.applies_iff_loose hf).mp happ).1 ⟨rfl, State.Warmed39.refl s, rfl⟩ trivial
  exact ⟨n, _, h1, h2, h3, hpost _ _ _ _ _ _ ⟨Cond.after_iff.mpr rfl, Cond.after_iff.mpr (eq_i res_at (Term.int_eval (1)) rfl), trivial⟩ ⟨hq.1, hq.2.1, (hq.2.2.sift fun y hy => Or.inr (N y hy)).mono (by decide) (by decide)⟩⟩
theorem main_1_1 : Claimed_1_1 := comes_1 fun _ _ _ _ _ _ h hF => ⟨h.1, hF⟩
theorem main_1_2 : Claimed_1_2 := comes_1 fun _ _ _ _ _ _ h hF => ⟨h.2.1, hF⟩
end Jvm.Pilot.@@N@@
namespace Jvm.Pilot.@@N@@
open Jvm Jvm.ClassFile Sem Op Lib Jvm.Free Jvm.Stand Jvm.Pilot.@@N@@.Jvm.D
/-! MADE BY PROGRAM (witnessworld.py) out of the Statement's table words and the real class files: 13 classes; the members and pool entries that the words name. The judged class is class 1, her method 2. -/
namespace start1
open Jvm.ClassFile
def u (s : String) : CpInfo := .utf8 (stringToUtf16 s)
/-- a pool by its gaps: so many unusable entries, then the entry; so many at the end -/
def gap : Nat → List CpInfo → List CpInfo
  | 0, r => r
  | n + 1, r => .unusable :: gap n r
def poolList (es : List (Nat × CpInfo)) (last : Nat) : List CpInfo := es.foldr (fun e r => gap e.1 (e.2 :: r)) (gap last [])
def pool (es : List (Nat × CpInfo)) (last : Nat) : Array CpInfo := ⟨poolList es last⟩
def fileOf (pool : Array CpInfo) (this : Nat) (attrs : Array Attribute := #[]) (ms : Array MethodInfo := #[]) (fl : Nat := 33) (sup : Nat := 0) (ifs : Array Nat := #[]) (fds : Array FieldInfo := #[]) : ClassFile where
  minorVersion := 0
  majorVersion := 65
  constantPool := pool
  accessFlags := fl
  thisClass := this
  superClass := sup
  interfaces := ifs
  fields := fds
  methods := ms
  attributes := attrs
def plain (name : String) (sup : Option ClassId) : Class where
  name := name
  kind := .ordinary
  loader := none
  accessFlags := 33
  super := sup
  interfaces := #[]
  cf := none
  fields := #[]
  methods := #[]
  instanceTypes := #[]
  staticTypes := #[]
  resolved := #[]
  callSites := []
  init := .initialized
  statics := none
  mirror := none

def pool0 : Array CpInfo := pool [(5, u "<init>"), (0, u "()V"), (1, .class_ 10), (1, u "java/lang/Object")] 113

def k0c0 : Code := { maxStack := 0, maxLocals := 1, code := object_method_1_code, exceptionTable := #[], attributes := #[] }
def k0m0 : Method := { name := "<init>", desc := "()V", sig := { parameters := [], returnType := none }, accessFlags := 1, code := some k0c0 }
/-- java/lang/Object -/
def k0 : Class := { plain "java/lang/Object" none with
  accessFlags := 33
  interfaces := #[]
  cf := some (fileOf pool0 8 #[] #[{ accessFlags := 1, nameIndex := 5, descriptorIndex := 6, attributes := #[] }] 33 0 #[] #[])
  fields := #[]
  methods := #[k0m0]
  instanceTypes := #[]
  staticTypes := #[]
  resolved := Array.replicate 124 none
  statics := none }

def pool1 : Array CpInfo := pool [(2, .class_ 4), (0, .nameAndType 5 6), (0, u "java/lang/Object"), (0, u "<init>"), (0, u "()V"), (0, .methodref 8 9), (0, .class_ 10), (0, .nameAndType 11 12), (0, u "com/example/purlin/purlin/framework/ServiceUseUsePinLaw"), (0, u "pick"), (0, u "(I[I[I[I)[I"), (0, .class_ 14), (0, u "com/example/purlin/purlin/framework/ServiceUse"), (0, .methodref 13 3), (0, .methodref 13 17), (0, .nameAndType 18 19), (0, u "object"), (0, u "()Ljava/lang/Object;"), (0, .methodref 13 21), (0, .nameAndType 22 23), (0, u "isCounted"), (0, u "()Z"), (0, .methodref 13 25), (0, .nameAndType 26 27), (0, u "use"), (0, u "(Ljava/lang/Object;)V"), (0, .methodref 13 29), (0, .nameAndType 30 19), (0, u "unuse"), (3, u "law"), (0, u "(II)Z")] 4

def k1m0 : Method := { name := "<init>", desc := "()V", sig := { parameters := [], returnType := none }, accessFlags := 1, code := none }
def k1c1 : Code := { maxStack := 2, maxLocals := 5, code := method_2_code, exceptionTable := #[], attributes := #[] }
def k1m1 : Method := { name := "pick", desc := "(I[I[I[I)[I", sig := { parameters := [.int, (.array .int), (.array .int), (.array .int)], returnType := some (.array .int) }, accessFlags := 10, code := some k1c1 }
def k1c2 : Code := { maxStack := 4, maxLocals := 12, code := code, exceptionTable := #[], attributes := #[] }
def k1m2 : Method := { name := "law", desc := "(II)Z", sig := { parameters := [.int, .int], returnType := some .boolean }, accessFlags := 9, code := some k1c2 }
/-- com/example/purlin/purlin/framework/ServiceUseUsePinLaw -/
def k1 : Class := { plain "com/example/purlin/purlin/framework/ServiceUseUsePinLaw" (some 0) with
  accessFlags := 49
  interfaces := #[]
  cf := some (fileOf pool1 8 #[] #[{ accessFlags := 1, nameIndex := 5, descriptorIndex := 6, attributes := #[] }, { accessFlags := 10, nameIndex := 11, descriptorIndex := 12, attributes := #[] }, { accessFlags := 9, nameIndex := 34, descriptorIndex := 35, attributes := #[] }] 49 2 #[] #[])
  fields := #[]
  methods := #[k1m0, k1m1, k1m2]
  instanceTypes := #[]
  staticTypes := #[]
  resolved := Array.replicate 40 none
  statics := none }

def pool2 : Array CpInfo := pool [(1, .methodref 2 3), (0, .class_ 4), (0, .nameAndType 5 6), (0, u "java/lang/Object"), (0, u "<init>"), (0, u "()V"), (0, .class_ 8), (0, u "java/util/IdentityHashMap"), (0, .methodref 7 3), (0, .fieldref 11 12), (0, .class_ 13), (0, .nameAndType 14 15), (0, u "com/example/purlin/purlin/framework/ServiceUse"), (0, u "prototypes"), (0, u "Ljava/util/Map;"), (0, .fieldref 11 17), (0, .nameAndType 18 19), (0, u "object"), (0, u "Ljava/lang/Object;"), (2, u "producer"), (0, u "Ljava/lang/Thread;"), (0, .fieldref 11 25), (0, .nameAndType 26 27), (0, u "count"), (0, u "I"), (38, u "()Z"), (24, u "()Ljava/lang/Object;"), (4, u "use"), (0, u "(Ljava/lang/Object;)V"), (2, u "unuse"), (0, u "isCounted")] 33

def k2c0 : Code := { maxStack := 3, maxLocals := 1, code := prog_4_method_1_code, exceptionTable := #[], attributes := #[] }
def k2m0 : Method := { name := "<init>", desc := "()V", sig := { parameters := [], returnType := none }, accessFlags := 0, code := some k2c0 }
def k2c1 : Code := { maxStack := 1, maxLocals := 1, code := prog_4_method_2_code, exceptionTable := #[], attributes := #[] }
def k2m1 : Method := { name := "object", desc := "()Ljava/lang/Object;", sig := { parameters := [], returnType := some (.object "java/lang/Object") }, accessFlags := 0, code := some k2c1 }
def k2c2 : Code := { maxStack := 3, maxLocals := 2, code := prog_4_method_5_code, exceptionTable := #[], attributes := #[] }
def k2m2 : Method := { name := "use", desc := "(Ljava/lang/Object;)V", sig := { parameters := [(.object "java/lang/Object")], returnType := none }, accessFlags := 0, code := some k2c2 }
def k2c3 : Code := { maxStack := 3, maxLocals := 2, code := prog_4_method_6_code, exceptionTable := #[], attributes := #[] }
def k2m3 : Method := { name := "unuse", desc := "()Ljava/lang/Object;", sig := { parameters := [], returnType := some (.object "java/lang/Object") }, accessFlags := 0, code := some k2c3 }
def k2c4 : Code := { maxStack := 1, maxLocals := 1, code := prog_4_method_7_code, exceptionTable := #[], attributes := #[] }
def k2m4 : Method := { name := "isCounted", desc := "()Z", sig := { parameters := [], returnType := some .boolean }, accessFlags := 0, code := some k2c4 }
/-- com/example/purlin/purlin/framework/ServiceUse -/
def k2 : Class := { plain "com/example/purlin/purlin/framework/ServiceUse" (some 0) with
  accessFlags := 48
  interfaces := #[]
  cf := some (fileOf pool2 11 #[] #[{ accessFlags := 0, nameIndex := 5, descriptorIndex := 6, attributes := #[] }, { accessFlags := 0, nameIndex := 18, descriptorIndex := 91, attributes := #[] }, { accessFlags := 0, nameIndex := 96, descriptorIndex := 97, attributes := #[] }, { accessFlags := 0, nameIndex := 100, descriptorIndex := 91, attributes := #[] }, { accessFlags := 0, nameIndex := 101, descriptorIndex := 66, attributes := #[] }] 48 2 #[] #[{ accessFlags := 2, nameIndex := 26, descriptorIndex := 27, attributes := #[] }, { accessFlags := 2, nameIndex := 18, descriptorIndex := 19, attributes := #[] }, { accessFlags := 2, nameIndex := 22, descriptorIndex := 23, attributes := #[] }, { accessFlags := 18, nameIndex := 14, descriptorIndex := 15, attributes := #[] }])
  fields := #[{ name := "count", type := .int, accessFlags := 2, slot := 0, constantValue := 0 }, { name := "object", type := (.object "java/lang/Object"), accessFlags := 2, slot := 1, constantValue := 0 }, { name := "producer", type := (.object "java/lang/Thread"), accessFlags := 2, slot := 2, constantValue := 0 }, { name := "prototypes", type := (.object "java/util/Map"), accessFlags := 18, slot := 3, constantValue := 0 }]
  methods := #[k2m0, k2m1, k2m2, k2m3, k2m4]
  instanceTypes := #[.int, (.object "java/lang/Object"), (.object "java/lang/Thread"), (.object "java/util/Map")]
  staticTypes := #[]
  resolved := Array.replicate 135 none
  statics := none }

def pool3 : Array CpInfo := pool [(2, .class_ 4), (1, u "java/util/Map"), (31, .class_ 37), (0, u "java/util/Map$Entry"), (55, .class_ 94), (0, u "java/lang/Object")] 168

/-- java/util/Map -/
def k3 : Class := { plain "java/util/Map" (some 0) with
  accessFlags := 1537
  interfaces := #[]
  cf := some (fileOf pool3 2 #[.nestMembers #[36]] #[] 1537 93 #[] #[])
  fields := #[]
  methods := #[]
  instanceTypes := #[]
  staticTypes := #[]
  resolved := Array.replicate 263 none
  statics := none }

def pool4 : Array CpInfo := pool [(1, .methodref 2 3), (0, .class_ 4), (0, .nameAndType 5 6), (0, u "java/lang/Object"), (0, u "<init>"), (0, u "()V"), (1, .class_ 10), (1, u "java/util/AbstractMap"), (42, .class_ 54), (0, u "java/util/Map"), (9, u "keySet"), (0, u "Ljava/util/Set;"), (0, .class_ 67), (0, u "java/util/AbstractMap$1"), (5, u "values"), (0, u "Ljava/util/Collection;"), (0, .class_ 76), (0, u "java/util/AbstractMap$2"), (104, .class_ 182), (0, u "java/util/AbstractMap$ViewCollection"), (0, .class_ 184), (0, u "java/util/AbstractMap$SimpleImmutableEntry"), (0, .class_ 186), (0, u "java/util/AbstractMap$SimpleEntry"), (0, .class_ 188), (0, u "java/util/AbstractMap$2$1"), (0, .class_ 190), (0, u "java/util/AbstractMap$1$1")] 5

def k4c0 : Code := { maxStack := 1, maxLocals := 1, code := jdk_71_method_1_code, exceptionTable := #[], attributes := #[] }
def k4m0 : Method := { name := "<init>", desc := "()V", sig := { parameters := [], returnType := none }, accessFlags := 4, code := some k4c0 }
/-- java/util/AbstractMap -/
def k4 : Class := { plain "java/util/AbstractMap" (some 0) with
  accessFlags := 1057
  interfaces := #[3]
  cf := some (fileOf pool4 8 #[.nestMembers #[181, 183, 185, 75, 187, 66, 189]] #[{ accessFlags := 4, nameIndex := 5, descriptorIndex := 6, attributes := #[] }] 1057 2 #[53] #[{ accessFlags := 128, nameIndex := 64, descriptorIndex := 65, attributes := #[] }, { accessFlags := 128, nameIndex := 73, descriptorIndex := 74, attributes := #[] }])
  fields := #[{ name := "keySet", type := (.object "java/util/Set"), accessFlags := 128, slot := 0, constantValue := 0 }, { name := "values", type := (.object "java/util/Collection"), accessFlags := 128, slot := 1, constantValue := 0 }]
  methods := #[k4m0]
  instanceTypes := #[(.object "java/util/Set"), (.object "java/util/Collection")]
  staticTypes := #[]
  resolved := Array.replicate 196 none
  statics := none }

def pool5 : Array CpInfo := pool [(1, .class_ 2), (0, u "java/io/Serializable"), (0, .class_ 4), (0, u "java/lang/Object")] 2

/-- java/io/Serializable -/
def k5 : Class := { plain "java/io/Serializable" (some 0) with
  accessFlags := 1537
  interfaces := #[]
  cf := some (fileOf pool5 1 #[] #[] 1537 3 #[] #[])
  fields := #[]
  methods := #[]
  instanceTypes := #[]
  staticTypes := #[]
  resolved := Array.replicate 7 none
  statics := none }

def pool6 : Array CpInfo := pool [(1, .class_ 2), (0, u "java/lang/Cloneable"), (0, .class_ 4), (0, u "java/lang/Object")] 2

/-- java/lang/Cloneable -/
def k6 : Class := { plain "java/lang/Cloneable" (some 0) with
  accessFlags := 1537
  interfaces := #[]
  cf := some (fileOf pool6 1 #[] #[] 1537 3 #[] #[])
  fields := #[]
  methods := #[]
  instanceTypes := #[]
  staticTypes := #[]
  resolved := Array.replicate 7 none
  statics := none }

def pool7 : Array CpInfo := pool [(2, .class_ 4), (1, u "java/util/IdentityHashMap"), (0, u "NULL_KEY"), (0, u "Ljava/lang/Object;"), (0, .methodref 8 9), (0, .class_ 10), (0, .nameAndType 11 12), (0, u "java/util/AbstractMap"), (0, u "<init>"), (0, u "()V"), (0, .methodref 2 14), (0, .nameAndType 15 16), (0, u "init"), (0, u "(I)V"), (32, .class_ 50), (0, u "java/lang/Object"), (0, .fieldref 2 52), (0, .nameAndType 53 54), (0, u "table"), (0, u "[Ljava/lang/Object;"), (1, .class_ 58), (1, u "java/util/Map"), (0, u "size"), (11, u "I"), (24, u "modCount"), (9, u "entrySet"), (50, u "Ljava/util/Set;"), (12, .class_ 171), (0, u "java/util/IdentityHashMap$KeySet"), (7, .class_ 180), (0, u "java/util/IdentityHashMap$Values"), (1, .class_ 183), (0, u "java/util/IdentityHashMap$EntrySet"), (69, .class_ 254), (0, u "java/io/Serializable"), (0, .class_ 256), (0, u "java/lang/Cloneable"), (0, u "DEFAULT_CAPACITY"), (2, u "MINIMUM_CAPACITY"), (1, u "MAXIMUM_CAPACITY"), (2, u "serialVersionUID"), (0, u "J"), (102, .class_ 370), (0, u "java/util/IdentityHashMap$EntrySpliterator"), (0, .class_ 372), (0, u "java/util/IdentityHashMap$ValueSpliterator"), (0, .class_ 374), (0, u "java/util/IdentityHashMap$KeySpliterator"), (0, .class_ 376), (0, u "java/util/IdentityHashMap$IdentityHashMapSpliterator"), (0, .class_ 378), (0, u "java/util/IdentityHashMap$EntryIterator"), (0, .class_ 380), (0, u "java/util/IdentityHashMap$EntryIterator$Entry"), (0, .class_ 382), (0, u "java/util/IdentityHashMap$ValueIterator"), (0, .class_ 384), (0, u "java/util/IdentityHashMap$KeyIterator"), (0, .class_ 386), (0, u "java/util/IdentityHashMap$IdentityHashMapIterator")] 16

def k7c0 : Code := { maxStack := 2, maxLocals := 1, code := jdk_2581_method_3_code, exceptionTable := #[], attributes := #[] }
def k7m0 : Method := { name := "<init>", desc := "()V", sig := { parameters := [], returnType := none }, accessFlags := 1, code := some k7c0 }
def k7c1 : Code := { maxStack := 3, maxLocals := 2, code := jdk_2581_method_6_code, exceptionTable := #[], attributes := #[] }
def k7m1 : Method := { name := "init", desc := "(I)V", sig := { parameters := [.int], returnType := none }, accessFlags := 2, code := some k7c1 }
/-- java/util/IdentityHashMap -/
def k7 : Class := { plain "java/util/IdentityHashMap" (some 4) with
  accessFlags := 33
  interfaces := #[3, 5, 6]
  cf := some (fileOf pool7 2 #[.nestMembers #[369, 371, 373, 375, 182, 179, 170, 377, 379, 381, 383, 385]] #[{ accessFlags := 1, nameIndex := 11, descriptorIndex := 12, attributes := #[] }, { accessFlags := 2, nameIndex := 15, descriptorIndex := 16, attributes := #[] }] 33 8 #[56, 253, 255] #[{ accessFlags := 26, nameIndex := 257, descriptorIndex := 71, attributes := #[] }, { accessFlags := 26, nameIndex := 260, descriptorIndex := 71, attributes := #[] }, { accessFlags := 26, nameIndex := 262, descriptorIndex := 71, attributes := #[] }, { accessFlags := 128, nameIndex := 53, descriptorIndex := 54, attributes := #[] }, { accessFlags := 0, nameIndex := 59, descriptorIndex := 71, attributes := #[] }, { accessFlags := 128, nameIndex := 96, descriptorIndex := 71, attributes := #[] }, { accessFlags := 24, nameIndex := 5, descriptorIndex := 6, attributes := #[] }, { accessFlags := 130, nameIndex := 106, descriptorIndex := 157, attributes := #[] }, { accessFlags := 26, nameIndex := 265, descriptorIndex := 266, attributes := #[] }])
  fields := #[{ name := "DEFAULT_CAPACITY", type := .int, accessFlags := 26, slot := 0, constantValue := 0 }, { name := "MINIMUM_CAPACITY", type := .int, accessFlags := 26, slot := 1, constantValue := 0 }, { name := "MAXIMUM_CAPACITY", type := .int, accessFlags := 26, slot := 2, constantValue := 0 }, { name := "table", type := (.array (.object "java/lang/Object")), accessFlags := 128, slot := 2, constantValue := 0 }, { name := "size", type := .int, accessFlags := 0, slot := 3, constantValue := 0 }, { name := "modCount", type := .int, accessFlags := 128, slot := 4, constantValue := 0 }, { name := "NULL_KEY", type := (.object "java/lang/Object"), accessFlags := 24, slot := 3, constantValue := 0 }, { name := "entrySet", type := (.object "java/util/Set"), accessFlags := 130, slot := 5, constantValue := 0 }, { name := "serialVersionUID", type := .long, accessFlags := 26, slot := 4, constantValue := 0 }]
  methods := #[k7m0, k7m1]
  instanceTypes := #[(.object "java/util/Set"), (.object "java/util/Collection"), (.array (.object "java/lang/Object")), .int, .int, (.object "java/util/Set")]
  staticTypes := #[.int, .int, .int, (.object "java/lang/Object"), .long]
  resolved := Array.replicate 403 none
  statics := none }

/-- the primitive byte -/
def k8 : Class := { plain "byte" none with kind := .primitive 'B', accessFlags := 0x411 }
/-- [B -/
def k9 : Class := { plain "[B" (some 0) with kind := .array 8 .byte, interfaces := #[6, 5], accessFlags := 1041 }

/-- the primitive int -/
def k10 : Class := { plain "int" none with kind := .primitive 'I', accessFlags := 0x411 }
/-- [I -/
def k11 : Class := { plain "[I" (some 0) with kind := .array 10 .int, interfaces := #[6, 5], accessFlags := 1041 }

/-- [Ljava/lang/Object; -/
def k12 : Class := { plain "[Ljava/lang/Object;" (some 0) with kind := .array 0 (.object "java/lang/Object"), interfaces := #[6, 5], accessFlags := 1041 }

def heap : Heap := #[]
def classes : Array Class := #[k0, k1, k2, k3, k4, k5, k6, k7, k8, k9, k10, k11, k12]
def interned : List (Array UInt16 × Addr) := []
def slotsUsed : Nat := 0
def theMethod : MethodId := ⟨1, 2⟩
def args0 : Array Value := #[.int 5, .int 7]
def aboutOver (below : List Frame) : State where
  vm := { classes := classes, interned := interned.toArray }
  heap := heap
  slotsUsed := slotsUsed
  threads := #[{ frames := .invoking theMethod args0 :: below }]
def below0 : List Frame := [.native { method := ⟨0, 0⟩, args := #[] }]
def about1 : State := aboutOver below0
def p0 : Program := .bare "" "" ""
def e0 : Env := launch0.env 0 0 0
theorem w_frames : about1.frames = Frame.invoking theMethod args0 :: below0 := rfl
set_option maxRecDepth 65536 in
theorem w_args : argsFit about1.vm theMethod args0 = true := by decide +kernel
set_option maxRecDepth 65536 in
theorem w_heap : heapFits about1 = true := by decide +kernel
set_option maxRecDepth 65536 in
theorem w_runnable : about1.curStatus? = some .runnable := by decide +kernel
set_option maxRecDepth 65536 in
theorem w_alone : about1.alone = true := by decide +kernel
set_option maxRecDepth 65536 in
theorem w_named : about1.methodNamed? x = some theMethod := by decide +kernel
set_option maxRecDepth 65536 in
theorem w_hears : about1.hears theMethod below0 = true := by decide +kernel
set_option maxRecDepth 65536 in
theorem w_ripe : about1.ripe theMethod args0 below0 = true := by decide +kernel
theorem w_running : about1.status = .running := rfl
set_option maxRecDepth 65536 in
theorem w_room : about1.hasRoom e0.platform room_1 = true :=
  launch0.hasRoom_least _ room_1 (by decide +kernel) (by decide +kernel) (by decide +kernel) (by decide +kernel) (by decide +kernel) (by decide +kernel)
theorem allAtoms_all (ts : List Jvm.Cond) (a : Array Jvm.Value) (st : Jvm.State) : (allAtoms ts).before a st = ts.all (fun c => c.before a st) := by
  induction ts with
  | nil => rfl
  | cons c t ih =>
    show (Jvm.Cond.and c (allAtoms t)).before a st = _
    rw [Jvm.Cond.before_and, ih, List.all_cons]
def words1 : List Jvm.Cond := Jvm.Cond.code x code maxLocals ret :: tables_1
/-- a 'code' word, met by the world's own term for the bytes: nothing is compared byte by byte -/
theorem code_word {y : MethodName} {bytes : ByteArray} {mx : Nat} {rt : Option FieldType} {a : Array Value} {s : State} {m : MethodId} {meth : Method} {c : Code} (h1 : s.methodNamed? y = some m) (h2 : s.vm.method? m = some meth) (h3 : meth.code = some c) (h4 : c.code = bytes)
    (h5 : (c.maxLocals == mx && c.exceptionTable.isEmpty && decide (c.maxStack ≤ mostOperands) && decide (meth.sig.returnType = rt) && !meth.locks && decide (parseMethodDescriptor y.desc = some meth.sig)) = true) : (Jvm.Cond.code y bytes mx rt).before a s = true := by
  simp only [Bool.and_eq_true, beq_iff_eq, Bool.not_eq_true', decide_eq_true_eq] at h5
  obtain ⟨⟨⟨⟨⟨g1, g2⟩, g3⟩, g4⟩, g5⟩, g6⟩ := h5
  simp [Cond.before, Cond.holds, Cond.value, h1, h2, h3, h4, g1, g2, g3, g4, g5, g6]
def isCode : Jvm.Cond → Bool
  | .code _ _ _ _ => true
  | _ => false
theorem all_split {L : List Jvm.Cond} {P : Jvm.Cond → Bool} (h1 : L.all (fun c => isCode c || P c) = true) (h2 : ∀ c ∈ L.filter isCode, P c = true) : L.all P = true := by
  refine List.all_eq_true.mpr fun c hc => ?_
  have h := List.all_eq_true.mp h1 c hc
  rcases Bool.eq_false_or_eq_true (isCode c) with hi | hi
  · exact h2 c (List.mem_filter.mpr ⟨hc, hi⟩)
  · simpa [hi] using h
set_option maxRecDepth 65536 in
theorem w_c0 : (Jvm.Cond.code x code maxLocals ret).before args0 about1 = true := code_word (m := ⟨1, 2⟩) (meth := k1m2) (c := k1c2) (by decide +kernel) rfl rfl rfl (by decide +kernel)
set_option maxRecDepth 65536 in
theorem w_c1 : (Jvm.Cond.code ({ cls := "com/example/purlin/purlin/framework/ServiceUseUsePinLaw", name := "pick", desc := "(I[I[I[I)[I" } : Jvm.MethodName) method_2_code (5 : Nat) (Option.some (Jvm.ClassFile.FieldType.array Jvm.ClassFile.FieldType.int))).before args0 about1 = true := code_word (m := ⟨1, 1⟩) (meth := k1m1) (c := k1c1) (by decide +kernel) rfl rfl rfl (by decide +kernel)
set_option maxRecDepth 65536 in
theorem w_c2 : (Jvm.Cond.code ({ cls := "com/example/purlin/purlin/framework/ServiceUse", name := "<init>", desc := "()V" } : Jvm.MethodName) prog_4_method_1_code (1 : Nat) (Option.none : Option Jvm.ClassFile.FieldType)).before args0 about1 = true := code_word (m := ⟨2, 0⟩) (meth := k2m0) (c := k2c0) (by decide +kernel) rfl rfl rfl (by decide +kernel)
set_option maxRecDepth 65536 in
theorem w_c3 : (Jvm.Cond.code ({ cls := "java/lang/Object", name := "<init>", desc := "()V" } : Jvm.MethodName) object_method_1_code (1 : Nat) (Option.none : Option Jvm.ClassFile.FieldType)).before args0 about1 = true := code_word (m := ⟨0, 0⟩) (meth := k0m0) (c := k0c0) (by decide +kernel) rfl rfl rfl (by decide +kernel)
set_option maxRecDepth 65536 in
theorem w_c4 : (Jvm.Cond.code ({ cls := "java/util/IdentityHashMap", name := "<init>", desc := "()V" } : Jvm.MethodName) jdk_2581_method_3_code (1 : Nat) (Option.none : Option Jvm.ClassFile.FieldType)).before args0 about1 = true := code_word (m := ⟨7, 0⟩) (meth := k7m0) (c := k7c0) (by decide +kernel) rfl rfl rfl (by decide +kernel)
set_option maxRecDepth 65536 in
theorem w_c5 : (Jvm.Cond.code ({ cls := "java/util/AbstractMap", name := "<init>", desc := "()V" } : Jvm.MethodName) jdk_71_method_1_code (1 : Nat) (Option.none : Option Jvm.ClassFile.FieldType)).before args0 about1 = true := code_word (m := ⟨4, 0⟩) (meth := k4m0) (c := k4c0) (by decide +kernel) rfl rfl rfl (by decide +kernel)
set_option maxRecDepth 65536 in
theorem w_c6 : (Jvm.Cond.code ({ cls := "java/util/IdentityHashMap", name := "init", desc := "(I)V" } : Jvm.MethodName) jdk_2581_method_6_code (2 : Nat) (Option.none : Option Jvm.ClassFile.FieldType)).before args0 about1 = true := code_word (m := ⟨7, 1⟩) (meth := k7m1) (c := k7c1) (by decide +kernel) rfl rfl rfl (by decide +kernel)
set_option maxRecDepth 65536 in
theorem w_c7 : (Jvm.Cond.code ({ cls := "com/example/purlin/purlin/framework/ServiceUse", name := "object", desc := "()Ljava/lang/Object;" } : Jvm.MethodName) prog_4_method_2_code (1 : Nat) (Option.some (Jvm.ClassFile.FieldType.object "java/lang/Object"))).before args0 about1 = true := code_word (m := ⟨2, 1⟩) (meth := k2m1) (c := k2c1) (by decide +kernel) rfl rfl rfl (by decide +kernel)
set_option maxRecDepth 65536 in
theorem w_c8 : (Jvm.Cond.code ({ cls := "com/example/purlin/purlin/framework/ServiceUse", name := "isCounted", desc := "()Z" } : Jvm.MethodName) prog_4_method_7_code (1 : Nat) (Option.some Jvm.ClassFile.FieldType.boolean)).before args0 about1 = true := code_word (m := ⟨2, 4⟩) (meth := k2m4) (c := k2c4) (by decide +kernel) rfl rfl rfl (by decide +kernel)
set_option maxRecDepth 65536 in
theorem w_c9 : (Jvm.Cond.code ({ cls := "com/example/purlin/purlin/framework/ServiceUse", name := "use", desc := "(Ljava/lang/Object;)V" } : Jvm.MethodName) prog_4_method_5_code (2 : Nat) (Option.none : Option Jvm.ClassFile.FieldType)).before args0 about1 = true := code_word (m := ⟨2, 2⟩) (meth := k2m2) (c := k2c2) (by decide +kernel) rfl rfl rfl (by decide +kernel)
set_option maxRecDepth 65536 in
theorem w_c10 : (Jvm.Cond.code ({ cls := "com/example/purlin/purlin/framework/ServiceUse", name := "unuse", desc := "()Ljava/lang/Object;" } : Jvm.MethodName) prog_4_method_6_code (2 : Nat) (Option.some (Jvm.ClassFile.FieldType.object "java/lang/Object"))).before args0 about1 = true := code_word (m := ⟨2, 3⟩) (meth := k2m3) (c := k2c3) (by decide +kernel) rfl rfl rfl (by decide +kernel)
def codes1 : List Jvm.Cond := [Jvm.Cond.code x code maxLocals ret, Jvm.Cond.code ({ cls := "com/example/purlin/purlin/framework/ServiceUseUsePinLaw", name := "pick", desc := "(I[I[I[I)[I" } : Jvm.MethodName) method_2_code (5 : Nat) (Option.some (Jvm.ClassFile.FieldType.array Jvm.ClassFile.FieldType.int)), Jvm.Cond.code ({ cls := "com/example/purlin/purlin/framework/ServiceUse", name := "<init>", desc := "()V" } : Jvm.MethodName) prog_4_method_1_code (1 : Nat) (Option.none : Option Jvm.ClassFile.FieldType), Jvm.Cond.code ({ cls := "java/lang/Object", name := "<init>", desc := "()V" } : Jvm.MethodName) object_method_1_code (1 : Nat) (Option.none : Option Jvm.ClassFile.FieldType), Jvm.Cond.code ({ cls := "java/util/IdentityHashMap", name := "<init>", desc := "()V" } : Jvm.MethodName) jdk_2581_method_3_code (1 : Nat) (Option.none : Option Jvm.ClassFile.FieldType), Jvm.Cond.code ({ cls := "java/util/AbstractMap", name := "<init>", desc := "()V" } : Jvm.MethodName) jdk_71_method_1_code (1 : Nat) (Option.none : Option Jvm.ClassFile.FieldType), Jvm.Cond.code ({ cls := "java/util/IdentityHashMap", name := "init", desc := "(I)V" } : Jvm.MethodName) jdk_2581_method_6_code (2 : Nat) (Option.none : Option Jvm.ClassFile.FieldType), Jvm.Cond.code ({ cls := "com/example/purlin/purlin/framework/ServiceUse", name := "object", desc := "()Ljava/lang/Object;" } : Jvm.MethodName) prog_4_method_2_code (1 : Nat) (Option.some (Jvm.ClassFile.FieldType.object "java/lang/Object")), Jvm.Cond.code ({ cls := "com/example/purlin/purlin/framework/ServiceUse", name := "isCounted", desc := "()Z" } : Jvm.MethodName) prog_4_method_7_code (1 : Nat) (Option.some Jvm.ClassFile.FieldType.boolean), Jvm.Cond.code ({ cls := "com/example/purlin/purlin/framework/ServiceUse", name := "use", desc := "(Ljava/lang/Object;)V" } : Jvm.MethodName) prog_4_method_5_code (2 : Nat) (Option.none : Option Jvm.ClassFile.FieldType), Jvm.Cond.code ({ cls := "com/example/purlin/purlin/framework/ServiceUse", name := "unuse", desc := "()Ljava/lang/Object;" } : Jvm.MethodName) prog_4_method_6_code (2 : Nat) (Option.some (Jvm.ClassFile.FieldType.object "java/lang/Object"))]
set_option maxRecDepth 65536 in
theorem codes_eq : words1.filter isCode = codes1 := rfl
theorem w_codes : ∀ c ∈ words1.filter isCode, c.before args0 about1 = true := by
  rw [codes_eq]
  intro c hc
  simp only [codes1, List.mem_cons, List.not_mem_nil, or_false] at hc
  rcases hc with rfl | rfl | rfl | rfl | rfl | rfl | rfl | rfl | rfl | rfl | rfl
  · exact w_c0
  · exact w_c1
  · exact w_c2
  · exact w_c3
  · exact w_c4
  · exact w_c5
  · exact w_c6
  · exact w_c7
  · exact w_c8
  · exact w_c9
  · exact w_c10
set_option maxRecDepth 65536 in
theorem w_t1 : (words1.take 24).all (fun c => isCode c || c.before args0 about1) = true := by decide +kernel
set_option maxRecDepth 65536 in
theorem w_t2 : ((words1.drop 24).take 24).all (fun c => isCode c || c.before args0 about1) = true := by decide +kernel
set_option maxRecDepth 65536 in
theorem w_t3 : ((words1.drop 24).drop 24).all (fun c => isCode c || c.before args0 about1) = true := by decide +kernel
theorem w_tables : (allAtoms (Jvm.Cond.code x code maxLocals ret :: tables_1)).before args0 about1 = true := by
  rw [allAtoms_all]
  show words1.all (fun c => c.before args0 about1) = true
  refine all_split ?_ w_codes
  rw [← List.take_append_drop 24 words1, List.all_append, w_t1, ← List.take_append_drop 24 (words1.drop 24), List.all_append, w_t2, w_t3]
  rfl
set_option maxRecDepth 65536 in
theorem w_case : (Jvm.Cond.and given_1 narrow_1).before args0 about1 = true := by decide +kernel
theorem w_applies : (headSpec (Jvm.Cond.code x code maxLocals ret :: tables_1) room_1).applies x e0.platform about1 = true :=
  (Spec.applies_iff w_frames).mpr ⟨w_running, w_runnable, w_alone, w_named, w_hears, w_ripe, w_room, w_tables⟩
theorem atStart : AtStart classFile x code maxLocals ret World_1 tables_1 room_1 Calls_1 rest_1 Pre_1 launch0 p0 e0 about1 theMethod args0 below0 :=
  ⟨lists_1, trivial, launch0.admits_env _ _ _, launch0.least_env, fairChoices_fair.cas, fairChoices_fair.clock, w_frames, w_args, w_heap, w_applies, trivial, trivial, w_case⟩
end start1
theorem witness_1 : WitnessClaimed_1 := ⟨start1.p0, start1.e0, start1.about1, start1.theMethod, start1.args0, start1.below0, start1.atStart⟩
end Jvm.Pilot.@@N@@
