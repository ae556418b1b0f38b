import JvmDerived
import JvmDerived.Pilot.@@N@@Statement
import JvmDerived.Pilot.@@N@@Code
set_option linter.unusedVariables false
set_option linter.unusedSimpArgs false
namespace Jvm.Pilot.@@N@@
open Jvm Jvm.ClassFile Sem Op Lib Jvm.Free Jvm.Stand Jvm.LawKit Jvm.RoadKit Bundle Jvm.Pilot.@@N@@.Jvm.D
/-! own prelude: 'own_Goes' says that from state T with top frame g the invocation comes to its end with what Q says -/
section OwnPrelude
variable {p : Program} {l : Launch} {e : Env} {R : Room} {s : State} {m : MethodId} {args : Array Value} {below : List Frame} {meth : Method} {c : Code} {T T' : State} {locs : List Loc} {cells slots : Nat} {Z : State} {a0 : Array Value} {h : Heap} {kc ks : Nat} {Q : Option Value → Heap → List Loc → Prop} {g g' : JFrame}
def own_Goes (p : Program) (e : Env) (below : List Frame) (s : State) (kc ks : Nat) (Q : Option Value → Heap → List Loc → Prop) (T : State) (g : JFrame) : Prop :=
  ∃ t o, Steps p.tables e below (T.setTop g) t ∧ t.status = .running ∧ Ended t below o ∧ ∃ v L, o = .returned v ∧ Q v t.heap L ∧ FrameEnd s o t L kc ks
abbrev own_Ctr (l : Launch) (Z : State) (y : MethodName) (bytes : ByteArray) (maxL : Nat) (ret : Option FieldType) (ws : List Jvm.Cond) (rm : Room) (kc ks : Nat) (as' : Array Value) (h : Heap) (Q : Option Value → Heap → List Loc → Prop) : Prop :=
  MetFree l y (head1 (Jvm.Cond.code y bytes maxL ret :: ws) rm) (fun a U => a = as' ∧ Z.Warmed39 U.vm ∧ U.heap = h) (fun _ _ _ _ _ => True) (fun _ U o U' => ∃ v L, o = .returned v ∧ Q v U'.heap L ∧ FrameEnd U o U' L kc ks)
theorem own_by (st : ∀ t, Steps p.tables e below (T'.setTop g') t → Steps p.tables e below (T.setTop g) t) (k : own_Goes p e below s kc ks Q T' g') : own_Goes p e below s kc ks Q T g := by
  obtain ⟨t, o, h1, r⟩ := k; exact ⟨t, o, st t h1, r⟩
theorem own_cast (q : g = g') (k : own_Goes p e below s kc ks Q T g') : own_Goes p e below s kc ks Q T g := q ▸ k
theorem own_enter {y : MethodName} {bytes : ByteArray} {maxL : Nat} {ret : Option FieldType} {ws : List Jvm.Cond} {rm : Room} {as' : Array Value} (hpl : plainFor y = true)
    (k : ∀ p e s m below meth c s₁, Stand p l e rm s m as' below meth c s₁ [] 0 0 → p.tables.exec = Jvm.exec → Z.Warmed39 s.vm → c.code = bytes → c.maxLocals = maxL → s.vm.findClass y.cls = some m.cls → meth.name = y.name → meth.locks = false → meth.sig.returnType = ret → s₁.heap = h → own_Goes p e below s kc ks Q s₁ (entryFrame m as' maxL)) :
    own_Ctr l Z y bytes maxL ret ws rm kc ks as' h Q := by
  refine MetFree.of_bodySF hpl hisR ?_
  intro p e s m args below meth c s₁ Bd hml0 hP hK
  obtain ⟨rfl, hZ, hh⟩ := hP
  exact k p e s m below meth c s₁ (Stand.of_body Bd) Bd.exec hZ Bd.bytes hml0 (findClass_of_methodNamed Bd.named) (name_of_methodNamed Bd.named Bd.method).1 Bd.notSynchronized Bd.returns (by rw [← hh, Bd.state]; rfl)
theorem own_mono (X : Stand p l e R s m args below meth c T locs cells slots) {c' n' : Nat} (h1 : cells ≤ c') (h2 : slots ≤ n') : Stand p l e R s m args below meth c T locs c' n' :=
  { X with same := X.same.mono h1 h2 }
theorem own_out (X : Stand p l e R s m args below meth c T locs cells slots) (hlk : meth.locks = false) {v : Option Value} (hv : meth.sig.returnType = none → v = none)
    (st : ∀ fs, (∀ (f : JFrame) (acts : List Action), f.method = m → f.locked = none → f.entered = [] → (doReturn e (T.setTop f) acts v).1 = T.setFrames fs) → Steps p.tables e below (T.setTop g) (T.setFrames fs))
    (hc : cells ≤ kc) (hs : slots ≤ ks) (hQ : Q v T.heap locs) : own_Goes p e below s kc ks Q T g := by
  obtain ⟨fs, hr, hrun, hended, hW, hsame⟩ := X.leave (v := v) hv hlk
  exact ⟨_, _, st fs hr, hrun, hended, v, locs, rfl, hQ, ⟨_, rfl⟩, hW, hsame.mono hc hs⟩
theorem own_ret {w : Value} {t : FieldType} {i : Instr} {pc : Nat} {Ls : Array Slot} {rest : List Value} (X : Stand p l e R s m args below meth c T locs cells slots) (hx : p.tables.exec = Jvm.exec) (hlk : meth.locks = false) (hret : meth.sig.returnType = some t) (hn : narrow t w = w)
    (hi : (i = .ireturn ∧ (t = .int ∨ t = .boolean ∨ t = .byte ∨ t = .char ∨ t = .short) ∧ ∃ z, w = .int z) ∨ (i = .lreturn ∧ t = .long ∧ ∃ z, w = .long z) ∨ (i = .dreturn ∧ t = .double ∧ ∃ z, w = .double z) ∨ (i = .freturn ∧ t = .float ∧ ∃ z, w = .float z) ∨ (i = .areturn ∧ t.isReference = true ∧ w.isRef = true))
    (hd : decode c.code pc = .ok (i, 1)) (hc : cells ≤ kc) (hs : slots ≤ ks) (hQ : Q (some w) T.heap locs) : own_Goes p e below s kc ks Q T (mkF m pc Ls (w :: rest)) :=
  own_out X hlk (fun h => by rw [hret] at h; cases h) (fun fs hr => retOut X hx hret hn hi hd hr) hc hs hQ
theorem own_retI {z : Int32} {pc : Nat} {Ls : Array Slot} {rest : List Value} (X : Stand p l e R s m args below meth c T locs cells slots) (hx : p.tables.exec = Jvm.exec) (hlk : meth.locks = false) (hret : meth.sig.returnType = some .int)
    (hd : decode c.code pc = .ok (.ireturn, 1)) (hc : cells ≤ kc) (hs : slots ≤ ks) (hQ : Q (some (.int z)) T.heap locs) : own_Goes p e below s kc ks Q T (mkF m pc Ls (.int z :: rest)) :=
  own_ret X hx hlk hret rfl (Or.inl ⟨rfl, Or.inl rfl, z, rfl⟩) hd hc hs hQ
theorem own_retJ {z : Int64} {pc : Nat} {Ls : Array Slot} {rest : List Value} (X : Stand p l e R s m args below meth c T locs cells slots) (hx : p.tables.exec = Jvm.exec) (hlk : meth.locks = false) (hret : meth.sig.returnType = some .long)
    (hd : decode c.code pc = .ok (.lreturn, 1)) (hc : cells ≤ kc) (hs : slots ≤ ks) (hQ : Q (some (.long z)) T.heap locs) : own_Goes p e below s kc ks Q T (mkF m pc Ls (.long z :: rest)) :=
  own_ret X hx hlk hret rfl (Or.inr (Or.inl ⟨rfl, rfl, z, rfl⟩)) hd hc hs hQ
theorem own_retD {z : UInt64} {pc : Nat} {Ls : Array Slot} {rest : List Value} (X : Stand p l e R s m args below meth c T locs cells slots) (hx : p.tables.exec = Jvm.exec) (hlk : meth.locks = false) (hret : meth.sig.returnType = some .double)
    (hd : decode c.code pc = .ok (.dreturn, 1)) (hc : cells ≤ kc) (hs : slots ≤ ks) (hQ : Q (some (.double z)) T.heap locs) : own_Goes p e below s kc ks Q T (mkF m pc Ls (.double z :: rest)) :=
  own_ret X hx hlk hret rfl (Or.inr (Or.inr (Or.inl ⟨rfl, rfl, z, rfl⟩))) hd hc hs hQ
theorem own_fitR {t : FieldType} {w : Value} (ht : t.isReference = true) (hw : w.isRef = true) : fits t w = true := by cases t <;> simp [FieldType.isReference] at ht <;> rcases ref_cases hw with rfl | ⟨a, rfl⟩ <;> rfl
theorem own_cat1 {w : Value} (hw : w.isRef = true) : w.category = 1 := by rcases ref_cases hw with rfl | ⟨a, rfl⟩ <;> rfl
theorem own_stG {ls l' : Array Slot} {i : Nat} {v : Value} {o : Slot} (hold : ls[i]? = some o) (ho : o = .unset ∨ ∃ w, o = .val w ∧ w.category = 1) (hv : v.category = 1) (q : ls.setIfInBounds i (.val v) = l') : storeLocals ls i v = some l' := q ▸ XS.store1 hold ho hv
theorem own_narR {t : FieldType} {w : Value} (ht : t.isReference = true) : narrow t w = w := by cases t <;> simp [FieldType.isReference] at ht <;> cases w <;> rfl
theorem own_retA {w : Value} {t : FieldType} {pc : Nat} {Ls : Array Slot} {rest : List Value} (X : Stand p l e R s m args below meth c T locs cells slots) (hx : p.tables.exec = Jvm.exec) (hlk : meth.locks = false) (hret : meth.sig.returnType = some t) (ht : t.isReference = true) (hw : w.isRef = true)
    (hd : decode c.code pc = .ok (.areturn, 1)) (hc : cells ≤ kc) (hs : slots ≤ ks) (hQ : Q (some w) T.heap locs) : own_Goes p e below s kc ks Q T (mkF m pc Ls (w :: rest)) :=
  own_ret X hx hlk hret (own_narR ht) (Or.inr (Or.inr (Or.inr (Or.inr ⟨rfl, ht, hw⟩)))) hd hc hs hQ
theorem own_retN {z : Int32} {t : FieldType} {pc : Nat} {Ls : Array Slot} {rest : List Value} (X : Stand p l e R s m args below meth c T locs cells slots) (hx : p.tables.exec = Jvm.exec) (hlk : meth.locks = false) (hret : meth.sig.returnType = some t) (ht : t = .boolean ∨ t = .byte ∨ t = .char ∨ t = .short)
    (hd : decode c.code pc = .ok (.ireturn, 1)) (hc : cells ≤ kc) (hs : slots ≤ ks) (hQ : Q (some (.int (nar t z))) T.heap locs) : own_Goes p e below s kc ks Q T (mkF m pc Ls (.int z :: rest)) :=
  own_out X hlk (fun h => by rw [hret] at h; cases h) (fun fs hr => retN X hx hret ht hd hr) hc hs hQ
theorem own_retV {pc : Nat} {Ls : Array Slot} (X : Stand p l e R s m args below meth c T locs cells slots) (hx : p.tables.exec = Jvm.exec) (hlk : meth.locks = false) (hret : meth.sig.returnType = none)
    (hd : decode c.code pc = .ok (.return_, 1)) (hc : cells ≤ kc) (hs : slots ≤ ks) (hQ : Q none T.heap locs) : own_Goes p e below s kc ks Q T (mkF m pc Ls []) :=
  own_out X hlk (fun _ => rfl) (fun fs hr => X.returnOut hx hret hd hr) hc hs hQ
/-- an array of that type and length, whatever it holds -/
def own_Arz (Z : State) (h : Heap) (a : Addr) (ty : FieldType) (z : Int32) : Prop := ∃ c : Cell, Arr Z h a c ty ∧ c.slots.size = z.toNatClampNeg ∧ ¬ z < 0
theorem own_Arz.of {a : Addr} {k : ClassId} {ty : FieldType} {z : Int32} {vs : List Value} {dv : Value} (F : Arv Z h a k ty z vs dv) : own_Arz Z h a ty z := by obtain ⟨c, A, -, S, q, -⟩ := F; exact ⟨c, A, S, q⟩
theorem own_Arz.lt {a : Addr} {ty : FieldType} {z : Int32} (F : own_Arz Z h a ty z) : a < h.size := by obtain ⟨c, A, -⟩ := F; exact A.lt
theorem own_Arz.ext {h' : Heap} {a : Addr} {ty : FieldType} {z : Int32} (F : own_Arz Z h a ty z) (E : Ext h h') : own_Arz Z h' a ty z := by obtain ⟨c, A, r⟩ := F; exact ⟨c, A.ext E, r⟩
theorem own_Arz.other {h' : Heap} {a b : Addr} {ty : FieldType} {z : Int32} {sl : Nat} {v : Value} (F : own_Arz Z h b ty z) (W : Wr h h' a sl v) (q : b ≠ a) : own_Arz Z h' b ty z := by obtain ⟨c, A, r⟩ := F; exact ⟨c, A.other W q, r⟩
theorem own_Arz.same {h' : Heap} {a : Addr} {ty : FieldType} {z : Int32} {sl : Nat} {v : Value} (F : own_Arz Z h a ty z) (W : Wr h h' a sl v) : own_Arz Z h' a ty z := by obtain ⟨c, A, r1, r2⟩ := F; exact ⟨_, A.same W, by rw [sz_set]; exact r1, r2⟩
theorem own_Arz.keep {h' : Heap} {a : Addr} {ty : FieldType} {z : Int32} {ws : List Addr} (F : own_Arz Z h a ty z) (K : Keep h h' ws) (q : a ∉ ws) : own_Arz Z h' a ty z := by obtain ⟨c, A, r⟩ := F; exact ⟨c, ⟨K.2.1 a c A.1 q, A.2⟩, r⟩
section OwnCalls
variable {own : String} {index : Nat} {y z : MethodName} {bytes : ByteArray} {maxL : Nat} {ret : Option FieldType} {rm : Room} {Q' : Option Value → Heap → List Loc → Prop} {argsL rest : List Value}
theorem own_callS (X : Stand p l e R s m args below meth c T locs cells slots) (hx : p.tables.exec = Jvm.exec) (hZ : Z.Warmed39 s.vm) (hown : s.vm.findClass own = some m.cls)
    (w1 : (Cond.methodLink own index y).before a0 Z = true) (w2 : (Cond.static y).before a0 Z = true) (w3 : (Cond.initialized y.cls).before a0 Z = true) (w4 : (Cond.code y bytes maxL ret).before a0 Z = true)
    (hy : y.cls ≠ "java/lang/invoke/MethodHandle" ∧ y.cls ≠ "java/lang/invoke/VarHandle") (hM : own_Ctr l Z y bytes maxL ret [] rm rm.cells rm.slots argsL.toArray h Q') (W : Nat)
    (hf : rm.frames + 1 ≤ R.frames) (hl : W + (maxL + 11) + rm.locals ≤ R.locals) (hc : cells + rm.cells ≤ R.cells) (hs : slots + rm.slots ≤ R.slots) (eT : T.heap = h)
    (hg : g.method = m) (hsize : g.locals.size = c.maxLocals) (hlen : ∀ sig, parseMethodDescriptor y.desc = some sig → argsL.length = sig.parameters.length) (hstack : g.stack = argsL.reverse ++ rest)
    (hW : 2 * g.monitorRoom + (rest.map fun v => v.category).sum ≤ W) (hd : decode c.code g.pc = .ok (.invokestatic index, 3))
    (k : ∀ v T' L, Stand p l e R s m args below meth c T' (locs ++ L) (cells + rm.cells) (slots + rm.slots) → Q' v T'.heap L → own_Goes p e below s kc ks Q T' { g with pc := g.pc + 3, stack := v.toList ++ rest }) : own_Goes p e below s kc ks Q T g := by
  obtain ⟨v, _, ⟨T', L', k', n'⟩, -, X', ⟨Lc, hQ, l1, y1, z1⟩, st⟩ := Jvm.LawKit.callS X hx hown (mvT hZ w1) (mvT hZ w2) (mvT hZ w3) (mvT hZ w4) hy (backOf (W := W) hM hZ w4 w3 hf hl) hg hsize hlen hstack hW hd (fun _ _ => ⟨rfl, eT, hc, hs⟩)
  dsimp only [Pt.U, Pt.locs, Pt.cells, Pt.slots] at X' l1 y1 z1 st hQ
  subst l1 y1 z1
  exact own_by st (k v T' Lc X' hQ)
theorem own_callI (X : Stand p l e R s m args below meth c T locs cells slots) (hx : p.tables.exec = Jvm.exec) (hZ : Z.Warmed39 s.vm) (hown : s.vm.findClass own = some m.cls) (hy1 : y.name = "<init>")
    (w1 : (Cond.methodLink own index y).before a0 Z = true) (w2 : (Cond.instanceMethod y).before a0 Z = true) (w3 : (Cond.initialized y.cls).before a0 Z = true) (w4 : (Cond.code y bytes maxL none).before a0 Z = true)
    (hy : y.cls ≠ "java/lang/invoke/MethodHandle" ∧ y.cls ≠ "java/lang/invoke/VarHandle") {a : Addr} (hM : own_Ctr l Z y bytes maxL none [] rm rm.cells rm.slots (.ref a :: argsL).toArray h Q') (W : Nat)
    (hf : rm.frames + 1 ≤ R.frames) (hl : W + (maxL + 11) + rm.locals ≤ R.locals) (hc : cells + rm.cells ≤ R.cells) (hs : slots + rm.slots ≤ R.slots) (eT : T.heap = h)
    (hg : g.method = m) (hsize : g.locals.size = c.maxLocals) (hlen : ∀ sig, parseMethodDescriptor y.desc = some sig → argsL.length = sig.parameters.length) (hstack : g.stack = argsL.reverse ++ .ref a :: rest)
    (hW : 2 * g.monitorRoom + (rest.map fun v => v.category).sum ≤ W) (hd : decode c.code g.pc = .ok (.invokespecial index, 3))
    (k : ∀ v T' L, Stand p l e R s m args below meth c T' (locs ++ L) (cells + rm.cells) (slots + rm.slots) → Q' v T'.heap L → own_Goes p e below s kc ks Q T' { g with pc := g.pc + 3, stack := v.toList ++ rest }) : own_Goes p e below s kc ks Q T g := by
  obtain ⟨v, _, ⟨T', L', k', n'⟩, -, X', ⟨Lc, hQ, l1, y1, z1⟩, st⟩ := X.specialBack hx hy1 hown (mvT hZ w1) (mvT hZ w2) (mvT hZ w4) hy (backOf (W := W) hM hZ w4 w3 hf hl) hg hsize (Steps.refl _) hlen hstack hW hd (fun _ _ => ⟨rfl, eT, hc, hs⟩)
  dsimp only [Pt.U, Pt.locs, Pt.cells, Pt.slots] at X' l1 y1 z1 st hQ
  subst l1 y1 z1
  exact own_by (fun t kt => st.trans kt) (k v T' Lc X' hQ)
theorem own_callIN {host : String} (X : Stand p l e R s m args below meth c T locs cells slots) (hx : p.tables.exec = Jvm.exec) (hZ : Z.Warmed39 s.vm) (hown : s.vm.findClass own = some m.cls) (hy1 : y.name = "<init>")
    (w1 : (Cond.methodLinkNest own index y host).before a0 Z = true) (w2 : (Cond.instanceMethod y).before a0 Z = true) (w3 : (Cond.initialized y.cls).before a0 Z = true) (w4 : (Cond.code y bytes maxL none).before a0 Z = true)
    (hy : y.cls ≠ "java/lang/invoke/MethodHandle" ∧ y.cls ≠ "java/lang/invoke/VarHandle") {a : Addr} (hM : own_Ctr l Z y bytes maxL none [] rm rm.cells rm.slots (.ref a :: argsL).toArray h Q') (W : Nat)
    (hf : rm.frames + 1 ≤ R.frames) (hl : W + (maxL + 11) + rm.locals ≤ R.locals) (hc : cells + rm.cells ≤ R.cells) (hs : slots + rm.slots ≤ R.slots) (eT : T.heap = h)
    (hg : g.method = m) (hsize : g.locals.size = c.maxLocals) (hlen : ∀ sig, parseMethodDescriptor y.desc = some sig → argsL.length = sig.parameters.length) (hstack : g.stack = argsL.reverse ++ .ref a :: rest)
    (hW : 2 * g.monitorRoom + (rest.map fun v => v.category).sum ≤ W) (hd : decode c.code g.pc = .ok (.invokespecial index, 3))
    (k : ∀ v T' L, Stand p l e R s m args below meth c T' (locs ++ L) (cells + rm.cells) (slots + rm.slots) → Q' v T'.heap L → own_Goes p e below s kc ks Q T' { g with pc := g.pc + 3, stack := v.toList ++ rest }) : own_Goes p e below s kc ks Q T g := by
  obtain ⟨v, _, ⟨T', L', k', n'⟩, -, X', ⟨Lc, hQ, l1, y1, z1⟩, st⟩ := X.specialBackNest hx hy1 hown (Cond.methodLinkNest_wide hZ w1 :) (mvT hZ w2) (mvT hZ w4) hy (backOf (W := W) hM hZ w4 w3 hf hl) hg hsize (Steps.refl _) hlen hstack hW hd (fun _ _ => ⟨rfl, eT, hc, hs⟩)
  dsimp only [Pt.U, Pt.locs, Pt.cells, Pt.slots] at X' l1 y1 z1 st hQ
  subst l1 y1 z1
  exact own_by (fun t kt => st.trans kt) (k v T' Lc X' hQ)
theorem own_callV {C : String} (X : Stand p l e R s m args below meth c T locs cells slots) (hx : p.tables.exec = Jvm.exec) (hZ : Z.Warmed39 s.vm) (hown : s.vm.findClass own = some m.cls)
    (w1 : (Cond.methodLink own index y).before a0 Z = true) (w2 : (Cond.declares y).before a0 Z = true) (hnf : NotFace s y) (w3 : (Cond.selects C y z).before a0 Z = true) (w4 : (Cond.instanceMethod z).before a0 Z = true) (w5 : (Cond.code z bytes maxL ret).before a0 Z = true) (w6 : (Cond.initialized z.cls).before a0 Z = true)
    (hy : y.cls ≠ "java/lang/invoke/MethodHandle" ∧ y.cls ≠ "java/lang/invoke/VarHandle") {a : Addr} (E : Exa Z h a C) (hM : own_Ctr l Z z bytes maxL ret [] rm rm.cells rm.slots (.ref a :: argsL).toArray h Q') (W : Nat)
    (hf : rm.frames + 1 ≤ R.frames) (hl : W + (maxL + 11) + rm.locals ≤ R.locals) (hc : cells + rm.cells ≤ R.cells) (hs : slots + rm.slots ≤ R.slots) (eT : T.heap = h)
    (hg : g.method = m) (hsize : g.locals.size = c.maxLocals) (hlen : ∀ sig, parseMethodDescriptor y.desc = some sig → argsL.length = sig.parameters.length) (hstack : g.stack = argsL.reverse ++ .ref a :: rest)
    (hW : 2 * g.monitorRoom + (rest.map fun v => v.category).sum ≤ W) (hd : decode c.code g.pc = .ok (.invokevirtual index, 3))
    (k : ∀ v T' L, Stand p l e R s m args below meth c T' (locs ++ L) (cells + rm.cells) (slots + rm.slots) → Q' v T'.heap L → own_Goes p e below s kc ks Q T' { g with pc := g.pc + 3, stack := v.toList ++ rest }) : own_Goes p e below s kc ks Q T g := by
  obtain ⟨cq, kq, qa, qb, qc⟩ := isOf hZ eT E
  obtain ⟨v, _, ⟨T', L', k', n'⟩, -, X', ⟨Lc, hQ, l1, y1, z1⟩, st⟩ := X.virtualBack hx hown (mvT hZ w1) (mvT hZ w2) hnf (mvT hZ w3) (mvT hZ w4) hy (backOf (W := W) hM hZ w5 w6 hf hl) qa qc hg hsize (Steps.refl _) hlen hstack hW hd (fun _ _ => ⟨rfl, eT, hc, hs⟩)
  dsimp only [Pt.U, Pt.locs, Pt.cells, Pt.slots] at X' l1 y1 z1 st hQ
  subst l1 y1 z1
  exact own_by (fun t kt => st.trans kt) (k v T' Lc X' hQ)
theorem own_callP (X : Stand p l e R s m args below meth c T locs cells slots) (hx : p.tables.exec = Jvm.exec) (hZ : Z.Warmed39 s.vm) (hown : s.vm.findClass own = some m.cls)
    (w1 : (Cond.methodLink own index y).before a0 Z = true) (w2 : (Cond.instanceMethod y).before a0 Z = true) (w3 : (Cond.selects y.cls y y).before a0 Z = true) (w4 : (Cond.privateMethod y).before a0 Z = true) (w5 : (Cond.code y bytes maxL ret).before a0 Z = true) (w6 : (Cond.initialized y.cls).before a0 Z = true)
    (hy : y.cls ≠ "java/lang/invoke/MethodHandle" ∧ y.cls ≠ "java/lang/invoke/VarHandle") {a : Addr} {C : String} (E : Exa Z h a C) (hM : own_Ctr l Z y bytes maxL ret [] rm rm.cells rm.slots (.ref a :: argsL).toArray h Q') (W : Nat)
    (hf : rm.frames + 1 ≤ R.frames) (hl : W + (maxL + 11) + rm.locals ≤ R.locals) (hc : cells + rm.cells ≤ R.cells) (hs : slots + rm.slots ≤ R.slots) (eT : T.heap = h)
    (hg : g.method = m) (hsize : g.locals.size = c.maxLocals) (hlen : ∀ sig, parseMethodDescriptor y.desc = some sig → argsL.length = sig.parameters.length) (hstack : g.stack = argsL.reverse ++ .ref a :: rest)
    (hW : 2 * g.monitorRoom + (rest.map fun v => v.category).sum ≤ W) (hd : decode c.code g.pc = .ok (.invokevirtual index, 3))
    (k : ∀ v T' L, Stand p l e R s m args below meth c T' (locs ++ L) (cells + rm.cells) (slots + rm.slots) → Q' v T'.heap L → own_Goes p e below s kc ks Q T' { g with pc := g.pc + 3, stack := v.toList ++ rest }) : own_Goes p e below s kc ks Q T g := by
  obtain ⟨cq, q1, q2⟩ := E.cell
  obtain ⟨v, _, ⟨T', L', k', n'⟩, -, X', ⟨Lc, hQ, l1, y1, z1⟩, st⟩ := X.privateBack hx hown (mvT hZ w1) (mvT hZ w2) (mvT hZ w3) (Cond.privateMethod_at (mvP hZ w4 (args := #[]))) (mvT hZ w5) hy (backOf (W := W) hM hZ w5 w6 hf hl) hg hsize (Steps.refl _) (a := a) (by rw [eT]; exact q1) q2 hlen hstack hW hd (fun _ _ => ⟨rfl, eT, hc, hs⟩)
  dsimp only [Pt.U, Pt.locs, Pt.cells, Pt.slots] at X' l1 y1 z1 st hQ
  subst l1 y1 z1
  exact own_by (fun t kt => st.trans kt) (k v T' Lc X' hQ)
theorem own_callF {C : String} {count : Nat} (X : Stand p l e R s m args below meth c T locs cells slots) (hx : p.tables.exec = Jvm.exec) (hZ : Z.Warmed39 s.vm) (hown : s.vm.findClass own = some m.cls)
    (w1 : (Cond.methodLink own index y).before a0 Z = true) (w2 : (Cond.declares y).before a0 Z = true) (w2f : (Cond.interfaceMethod y.cls y.cls y.name y.desc).before a0 Z = true) (w3 : (Cond.selects C y z).before a0 Z = true) (w4 : (Cond.instanceMethod z).before a0 Z = true)
    (wp : (Cond.publicMethod z).before a0 Z = true) (wu : (Cond.unhidden C y.name y.desc).before a0 Z = true) (wk : (Cond.castable C y.cls).before a0 Z = true) (w5 : (Cond.code z bytes maxL ret).before a0 Z = true) (w6 : (Cond.initialized z.cls).before a0 Z = true)
    (hy : y.cls ≠ "java/lang/invoke/MethodHandle" ∧ y.cls ≠ "java/lang/invoke/VarHandle") {a : Addr} (E : Exa Z h a C) (hM : own_Ctr l Z z bytes maxL ret [] rm rm.cells rm.slots (.ref a :: argsL).toArray h Q') (W : Nat)
    (hf : rm.frames + 1 ≤ R.frames) (hl : W + (maxL + 11) + rm.locals ≤ R.locals) (hc : cells + rm.cells ≤ R.cells) (hs : slots + rm.slots ≤ R.slots) (eT : T.heap = h)
    (hg : g.method = m) (hsize : g.locals.size = c.maxLocals) (hlen : ∀ sig, parseMethodDescriptor y.desc = some sig → argsL.length = sig.parameters.length) (hstack : g.stack = argsL.reverse ++ .ref a :: rest)
    (hW : 2 * g.monitorRoom + (rest.map fun v => v.category).sum ≤ W) (hd : decode c.code g.pc = .ok (.invokeinterface index count, 5))
    (k : ∀ v T' L, Stand p l e R s m args below meth c T' (locs ++ L) (cells + rm.cells) (slots + rm.slots) → Q' v T'.heap L → own_Goes p e below s kc ks Q T' { g with pc := g.pc + 5, stack := v.toList ++ rest }) : own_Goes p e below s kc ks Q T g := by
  obtain ⟨cq, kq, qa, qb, qc⟩ := isOf hZ eT E
  have hface : ((Cond.interfaceMethod y.cls y.cls y.name y.desc).onTables && (Cond.interfaceMethod y.cls y.cls y.name y.desc).keepsFace) = true := by simp [Cond.onTables, Cond.keepsFace, Cond.keeps, Cond.steady, Cond.faceAtom, hy.1, hy.2]
  obtain ⟨v, _, ⟨T', L', k', n'⟩, -, X', ⟨Lc, hQ, l1, y1, z1⟩, st⟩ := X.interfaceBack hx hown (mvT hZ w1) (mvT hZ w2) (mvT hZ w2f hface) (mvT hZ w3) (mvT hZ w4) (mvT hZ wp) (mvT hZ wu) (mvT hZ wk) hy (backOf (W := W) hM hZ w5 w6 hf hl) qa qb qc hg hsize (Steps.refl _) hlen hstack hW hd (fun _ _ => ⟨rfl, eT, hc, hs⟩)
  dsimp only [Pt.U, Pt.locs, Pt.cells, Pt.slots] at X' l1 y1 z1 st hQ
  subst l1 y1 z1
  exact own_by (fun t kt => st.trans kt) (k v T' Lc X' hQ)
end OwnCalls
end OwnPrelude
def own_k (u : Int32) : Int32 := (u &&& (2147483647 : Int32)) % (3 : Int32)
def own_pick (zo zu zi : Addr) (u : Int32) : Addr := if own_k u = 0 then zo else if own_k u = 1 then zu else zi
def own_and (zo zu zi a b : Addr) : Addr := if a = zo then zo else if b = zo then zo else if a = zi then (if b = zi then zi else zu) else zu
def own_rank (zo zu zi a : Addr) : Int32 := if a = zo then 0 else if a = zu then 1 else if a = zi then 2 else -1
def own_min (a b : Int32) : Int32 := if b < a then b else a
theorem own_d4_0 : decode jdk_29_method_69_code 0 = .ok (.iload_n 0, 1) := by decide +kernel
theorem own_d4_1 : decode jdk_29_method_69_code 1 = .ok (.iload_n 1, 1) := by decide +kernel
theorem own_d4_2 : decode jdk_29_method_69_code 2 = .ok (.if_icmp .gt 7, 3) := by decide +kernel
theorem own_d4_9 : decode jdk_29_method_69_code 9 = .ok (.iload_n 1, 1) := by decide +kernel
theorem own_d4_10 : decode jdk_29_method_69_code 10 = .ok (.ireturn, 1) := by decide +kernel
theorem own_d4_5 : decode jdk_29_method_69_code 5 = .ok (.iload_n 0, 1) := by decide +kernel
theorem own_d4_6 : decode jdk_29_method_69_code 6 = .ok (.goto 4, 3) := by decide +kernel
def Q_own_cmin (Z : State) (u1 : Int32) (u2 : Int32) (h0 : Heap) (n0 : Nat) (v : Option Value) (h : Heap) (L : List Loc) : Prop := v = some (.int (own_min u1 u2)) ∧ Fr n0 L ∧ h = h0
theorem own_ef_own_cmin (m : MethodId) (u1 : Int32) (u2 : Int32) : entryFrame m #[(.int u1), (.int u2)] 2 = mkF m 0 #[.val (.int u1), .val (.int u2)] [] := by first | (simp [entryFrame, mkF, argsToLocals, Value.category]; done) | rfl
set_option maxRecDepth 65536 in
set_option maxHeartbeats 40000000 in
theorem own_cmin (l : Launch) (Z : State) (a0 : Array Value) (hw : ∀ d ∈ tables_1, d.before a0 Z = true) (ws : List Jvm.Cond) (u1 : Int32) (u2 : Int32) (h0 : Heap) (n0 : Nat) (Z0 : n0 ≤ h0.size)  :
    own_Ctr l Z (⟨"java/lang/Math", "min", "(II)I"⟩ : MethodName) jdk_29_method_69_code 2 (some .int) ws ({ frames := 0, cells := 0, slots := 0, locals := 0 } : Room) (({ frames := 0, cells := 0, slots := 0, locals := 0 } : Room)).cells (({ frames := 0, cells := 0, slots := 0, locals := 0 } : Room)).slots #[(.int u1), (.int u2)] h0 (Q_own_cmin Z u1 u2 h0 n0) := by
  refine own_enter (Jvm.Free.JP.mathPlain rfl (by decide +kernel)) ?_
  intro p e s m below meth c s₁ X0 hx hZ hby hml hown hnm hlk hret e0
  have N0 := Fr.nil n0
  refine own_cast (own_ef_own_cmin m u1 u2) ?_
  refine own_by (g' := (mkF m 1 #[.val (.int u1), .val (.int u2)] [(.int u1)])) (fun t k => XS.iloadN X0.here hx rfl (hb hby own_d4_0) rfl k) ?_
  refine own_by (g' := (mkF m 2 #[.val (.int u1), .val (.int u2)] [(.int u2), (.int u1)])) (fun t k => XS.iloadN X0.here hx rfl (hb hby own_d4_1) rfl k) ?_
  by_cases hc101 : u2 < u1
  ·
    refine own_by (g' := (mkF m 9 #[.val (.int u1), .val (.int u2)] [])) (fun t k => XS.icmpYes X0.here hx rfl (pc0 := 2) (pc' := 9) rfl (hb hby own_d4_2) rfl (tlt hc101).2.2.1 (by decide) (by decide) k) ?_
    refine own_by (g' := (mkF m 10 #[.val (.int u1), .val (.int u2)] [(.int u2)])) (fun t k => XS.iloadN X0.here hx rfl (hb hby own_d4_9) rfl k) ?_
    refine own_retI X0 hx hlk hret (hb hby own_d4_10) (by decide) (by decide) ?_
    exact ⟨(by simp [own_min, hc101]), N0, e0⟩
  ·
    refine own_by (g' := (mkF m 5 #[.val (.int u1), .val (.int u2)] [])) (fun t k => XS.icmpNo X0.here hx rfl (hb hby own_d4_2) rfl (flt hc101).2.2.1 k) ?_
    refine own_by (g' := (mkF m 6 #[.val (.int u1), .val (.int u2)] [(.int u1)])) (fun t k => XS.iloadN X0.here hx rfl (hb hby own_d4_5) rfl k) ?_
    refine own_by (g' := (mkF m 10 #[.val (.int u1), .val (.int u2)] [(.int u1)])) (fun t k => XS.goto X0.here hx rfl (pc0 := 6) (pc' := 10) rfl (hb hby own_d4_6) (by decide) (by decide) k) ?_
    refine own_retI X0 hx hlk hret (hb hby own_d4_10) (by decide) (by decide) ?_
    exact ⟨(by simp [own_min, hc101]), N0, e0⟩
theorem own_pn0 : plainName "com/example/xerith/xerith/VerdictAndPinLaw" = true := by first | (simp [plainName, overriddenIn]; done) | decide +kernel
theorem own_d1_0 : decode method_3_code 0 = .ok (.iload_n 0, 1) := by decide +kernel
theorem own_d1_1 : decode method_3_code 1 = .ok (.ldc 29, 2) := by decide +kernel
theorem own_d1_3 : decode method_3_code 3 = .ok (.iand, 1) := by decide +kernel
theorem own_d1_4 : decode method_3_code 4 = .ok (.iconst 3, 1) := by decide +kernel
theorem own_d1_5 : decode method_3_code 5 = .ok (.irem, 1) := by decide +kernel
theorem own_d1_6 : decode method_3_code 6 = .ok (.istore_n 1, 1) := by decide +kernel
theorem own_d1_7 : decode method_3_code 7 = .ok (.iload_n 1, 1) := by decide +kernel
theorem own_d1_8 : decode method_3_code 8 = .ok (.ifCond .ne 10, 3) := by decide +kernel
theorem own_d1_11 : decode method_3_code 11 = .ok (.getstatic 30, 3) := by decide +kernel
theorem own_d1_14 : decode method_3_code 14 = .ok (.astore_n 2, 1) := by decide +kernel
theorem own_d1_15 : decode method_3_code 15 = .ok (.goto 19, 3) := by decide +kernel
theorem own_d1_34 : decode method_3_code 34 = .ok (.aload_n 2, 1) := by decide +kernel
theorem own_d1_35 : decode method_3_code 35 = .ok (.areturn, 1) := by decide +kernel
theorem own_d1_18 : decode method_3_code 18 = .ok (.iload_n 1, 1) := by decide +kernel
theorem own_d1_19 : decode method_3_code 19 = .ok (.iconst 1, 1) := by decide +kernel
theorem own_d1_20 : decode method_3_code 20 = .ok (.if_icmp .ne 10, 3) := by decide +kernel
theorem own_d1_23 : decode method_3_code 23 = .ok (.getstatic 34, 3) := by decide +kernel
theorem own_d1_26 : decode method_3_code 26 = .ok (.astore_n 2, 1) := by decide +kernel
theorem own_d1_27 : decode method_3_code 27 = .ok (.goto 7, 3) := by decide +kernel
theorem own_d1_30 : decode method_3_code 30 = .ok (.getstatic 37, 3) := by decide +kernel
theorem own_d1_33 : decode method_3_code 33 = .ok (.astore_n 2, 1) := by decide +kernel
def Q_own_cpick (Z : State) (u1 : Int32) (zo : Addr) (zu : Addr) (zi : Addr) (h0 : Heap) (n0 : Nat) (v : Option Value) (h : Heap) (L : List Loc) : Prop := v = some (.ref (own_pick zo zu zi u1)) ∧ Fr n0 L ∧ h = h0
theorem own_ef_own_cpick (m : MethodId) (u1 : Int32) : entryFrame m #[(.int u1)] 3 = mkF m 0 #[.val (.int u1), .unset, .unset] [] := by first | (simp [entryFrame, mkF, argsToLocals, Value.category]; done) | rfl
set_option maxRecDepth 65536 in
set_option maxHeartbeats 40000000 in
theorem own_cpick (l : Launch) (Z : State) (a0 : Array Value) (hw : ∀ d ∈ tables_1, d.before a0 Z = true) (ws : List Jvm.Cond) (u1 : Int32) (zo : Addr) (zu : Addr) (zi : Addr) (h0 : Heap) (n0 : Nat) (Z0 : n0 ≤ h0.size) (O0 : Old Z n0 h0) (S_OUT : Sta Z Z.heap "com/example/xerith/xerith/Constraint$Verdict" "OUT" "Lcom/example/xerith/xerith/Constraint$Verdict;" (.ref zo)) (S_UNK : Sta Z Z.heap "com/example/xerith/xerith/Constraint$Verdict" "UNKNOWN" "Lcom/example/xerith/xerith/Constraint$Verdict;" (.ref zu)) (S_IN : Sta Z Z.heap "com/example/xerith/xerith/Constraint$Verdict" "IN" "Lcom/example/xerith/xerith/Constraint$Verdict;" (.ref zi)) :
    own_Ctr l Z (⟨"com/example/xerith/xerith/VerdictAndPinLaw", "pick", "(I)Lcom/example/xerith/xerith/Constraint$Verdict;"⟩ : MethodName) method_3_code 3 (some (.object "com/example/xerith/xerith/Constraint$Verdict")) ws ({ frames := 0, cells := 0, slots := 0, locals := 0 } : Room) (({ frames := 0, cells := 0, slots := 0, locals := 0 } : Room)).cells (({ frames := 0, cells := 0, slots := 0, locals := 0 } : Room)).slots #[(.int u1)] h0 (Q_own_cpick Z u1 zo zu zi h0 n0) := by
  refine own_enter (plainFor_of_name own_pn0) ?_
  intro p e s m below meth c s₁ X0 hx hZ hby hml hown hnm hlk hret e0
  have N0 := Fr.nil n0
  refine own_cast (own_ef_own_cpick m u1) ?_
  refine own_by (g' := (mkF m 1 #[.val (.int u1), .unset, .unset] [(.int u1)])) (fun t k => XS.iloadN X0.here hx rfl (hb hby own_d1_0) rfl k) ?_
  refine own_by (g' := (mkF m 3 #[.val (.int u1), .unset, .unset] [(.int (2147483647 : Int32)), (.int u1)])) (fun t k => X0.ldcInt hx hown (mvT hZ (hw _ (List.mem_of_getElem? (i := 4) rfl))) (g := (mkF m 1 #[.val (.int u1), .unset, .unset] [(.int u1)])) rfl (hb hby own_d1_1) t k) ?_
  refine own_by (g' := (mkF m 4 #[.val (.int u1), .unset, .unset] [(.int (u1 &&& (2147483647 : Int32)))])) (fun t k => XS.iand X0.here hx rfl (hb hby own_d1_3) rfl k) ?_
  refine own_by (g' := (mkF m 5 #[.val (.int u1), .unset, .unset] [(.int (3 : Int32)), (.int (u1 &&& (2147483647 : Int32)))])) (fun t k => XS.iconst X0.here hx rfl (hb hby own_d1_4) k) ?_
  refine own_by (g' := (mkF m 6 #[.val (.int u1), .unset, .unset] [(.int ((u1 &&& (2147483647 : Int32)) % (3 : Int32)))])) (fun t k => iremM X0 hx rfl (hb hby own_d1_5) rfl (by decide) k) ?_
  generalize hv101 : ((u1 &&& (2147483647 : Int32)) % (3 : Int32)) = v101
  refine own_by (g' := (mkF m 7 #[.val (.int u1), .val (.int v101), .unset] [])) (fun t k => XS.istoreN X0.here hx rfl (hb hby own_d1_6) rfl (l' := #[.val (.int u1), .val (.int v101), .unset]) rfl k) ?_
  refine own_by (g' := (mkF m 8 #[.val (.int u1), .val (.int v101), .unset] [(.int v101)])) (fun t k => XS.iloadN X0.here hx rfl (hb hby own_d1_7) rfl k) ?_
  by_cases hc102 : v101 = (0 : Int32)
  ·
    refine own_by (g' := (mkF m 11 #[.val (.int u1), .val (.int v101), .unset] [])) (fun t k => XS.ifNo X0.here hx rfl (hb hby own_d1_8) rfl ((if0 _ _).trans (teq hc102).2) k) ?_
    obtain ⟨T103, X103, e103, st103⟩ := getS2 X0 hx hZ hown (host := "") (Or.inl (hw _ (List.mem_of_getElem? (i := 5) rfl))) Via.refl e0 (S_OUT.ext O0.2) (g := (mkF m 11 #[.val (.int u1), .val (.int v101), .unset] [])) rfl (hb hby own_d1_11)
    refine own_by (g' := (mkF m 14 #[.val (.int u1), .val (.int v101), .unset] [(.ref zo)])) st103 ?_
    refine own_by (g' := (mkF m 15 #[.val (.int u1), .val (.int v101), .val (.ref zo)] [])) (fun t k => XS.astoreN X103.here hx rfl (hb hby own_d1_14) rfl rfl (l' := #[.val (.int u1), .val (.int v101), .val (.ref zo)]) rfl k) ?_
    refine own_by (g' := (mkF m 34 #[.val (.int u1), .val (.int v101), .val (.ref zo)] [])) (fun t k => XS.goto X103.here hx rfl (pc0 := 15) (pc' := 34) rfl (hb hby own_d1_15) (by decide) (by decide) k) ?_
    refine own_by (g' := (mkF m 35 #[.val (.int u1), .val (.int v101), .val (.ref zo)] [(.ref zo)])) (fun t k => XS.aloadN X103.here hx rfl (hb hby own_d1_34) rfl rfl k) ?_
    refine own_retA X103 hx hlk hret rfl rfl (hb hby own_d1_35) (by decide) (by decide) ?_
    exact ⟨(by subst hv101; simp_all [own_pick, own_k]), N0, e103⟩
  ·
    refine own_by (g' := (mkF m 18 #[.val (.int u1), .val (.int v101), .unset] [])) (fun t k => XS.ifYes X0.here hx rfl (pc0 := 8) (pc' := 18) rfl (hb hby own_d1_8) rfl ((if0 _ _).trans (feq hc102).2) (by decide) (by decide) k) ?_
    refine own_by (g' := (mkF m 19 #[.val (.int u1), .val (.int v101), .unset] [(.int v101)])) (fun t k => XS.iloadN X0.here hx rfl (hb hby own_d1_18) rfl k) ?_
    refine own_by (g' := (mkF m 20 #[.val (.int u1), .val (.int v101), .unset] [(.int (1 : Int32)), (.int v101)])) (fun t k => XS.iconst X0.here hx rfl (hb hby own_d1_19) k) ?_
    by_cases hc104 : v101 = (1 : Int32)
    ·
      refine own_by (g' := (mkF m 23 #[.val (.int u1), .val (.int v101), .unset] [])) (fun t k => XS.icmpNo X0.here hx rfl (hb hby own_d1_20) rfl (teq hc104).2 k) ?_
      obtain ⟨T105, X105, e105, st105⟩ := getS2 X0 hx hZ hown (host := "") (Or.inl (hw _ (List.mem_of_getElem? (i := 23) rfl))) Via.refl e0 (S_UNK.ext O0.2) (g := (mkF m 23 #[.val (.int u1), .val (.int v101), .unset] [])) rfl (hb hby own_d1_23)
      refine own_by (g' := (mkF m 26 #[.val (.int u1), .val (.int v101), .unset] [(.ref zu)])) st105 ?_
      refine own_by (g' := (mkF m 27 #[.val (.int u1), .val (.int v101), .val (.ref zu)] [])) (fun t k => XS.astoreN X105.here hx rfl (hb hby own_d1_26) rfl rfl (l' := #[.val (.int u1), .val (.int v101), .val (.ref zu)]) rfl k) ?_
      refine own_by (g' := (mkF m 34 #[.val (.int u1), .val (.int v101), .val (.ref zu)] [])) (fun t k => XS.goto X105.here hx rfl (pc0 := 27) (pc' := 34) rfl (hb hby own_d1_27) (by decide) (by decide) k) ?_
      refine own_by (g' := (mkF m 35 #[.val (.int u1), .val (.int v101), .val (.ref zu)] [(.ref zu)])) (fun t k => XS.aloadN X105.here hx rfl (hb hby own_d1_34) rfl rfl k) ?_
      refine own_retA X105 hx hlk hret rfl rfl (hb hby own_d1_35) (by decide) (by decide) ?_
      exact ⟨(by subst hv101; simp_all [own_pick, own_k]), N0, e105⟩
    ·
      refine own_by (g' := (mkF m 30 #[.val (.int u1), .val (.int v101), .unset] [])) (fun t k => XS.icmpYes X0.here hx rfl (pc0 := 20) (pc' := 30) rfl (hb hby own_d1_20) rfl (feq hc104).2 (by decide) (by decide) k) ?_
      obtain ⟨T106, X106, e106, st106⟩ := getS2 X0 hx hZ hown (host := "") (Or.inl (hw _ (List.mem_of_getElem? (i := 21) rfl))) Via.refl e0 (S_IN.ext O0.2) (g := (mkF m 30 #[.val (.int u1), .val (.int v101), .unset] [])) rfl (hb hby own_d1_30)
      refine own_by (g' := (mkF m 33 #[.val (.int u1), .val (.int v101), .unset] [(.ref zi)])) st106 ?_
      refine own_by (g' := (mkF m 34 #[.val (.int u1), .val (.int v101), .val (.ref zi)] [])) (fun t k => XS.astoreN X106.here hx rfl (hb hby own_d1_33) rfl rfl (l' := #[.val (.int u1), .val (.int v101), .val (.ref zi)]) rfl k) ?_
      refine own_by (g' := (mkF m 35 #[.val (.int u1), .val (.int v101), .val (.ref zi)] [(.ref zi)])) (fun t k => XS.aloadN X106.here hx rfl (hb hby own_d1_34) rfl rfl k) ?_
      refine own_retA X106 hx hlk hret rfl rfl (hb hby own_d1_35) (by decide) (by decide) ?_
      exact ⟨(by subst hv101; simp_all [own_pick, own_k]), N0, e106⟩
theorem own_d3_0 : decode method_4_code 0 = .ok (.aload_n 0, 1) := by decide +kernel
theorem own_d3_1 : decode method_4_code 1 = .ok (.getstatic 30, 3) := by decide +kernel
theorem own_d3_4 : decode method_4_code 4 = .ok (.if_acmp .ne 8, 3) := by decide +kernel
theorem own_d3_7 : decode method_4_code 7 = .ok (.iconst 0, 1) := by decide +kernel
theorem own_d3_8 : decode method_4_code 8 = .ok (.istore_n 1, 1) := by decide +kernel
theorem own_d3_9 : decode method_4_code 9 = .ok (.goto 29, 3) := by decide +kernel
theorem own_d3_38 : decode method_4_code 38 = .ok (.iload_n 1, 1) := by decide +kernel
theorem own_d3_39 : decode method_4_code 39 = .ok (.ireturn, 1) := by decide +kernel
theorem own_d3_12 : decode method_4_code 12 = .ok (.aload_n 0, 1) := by decide +kernel
theorem own_d3_13 : decode method_4_code 13 = .ok (.getstatic 34, 3) := by decide +kernel
theorem own_d3_16 : decode method_4_code 16 = .ok (.if_acmp .ne 8, 3) := by decide +kernel
theorem own_d3_19 : decode method_4_code 19 = .ok (.iconst 1, 1) := by decide +kernel
theorem own_d3_20 : decode method_4_code 20 = .ok (.istore_n 1, 1) := by decide +kernel
theorem own_d3_21 : decode method_4_code 21 = .ok (.goto 17, 3) := by decide +kernel
theorem own_d3_24 : decode method_4_code 24 = .ok (.aload_n 0, 1) := by decide +kernel
theorem own_d3_25 : decode method_4_code 25 = .ok (.getstatic 37, 3) := by decide +kernel
theorem own_d3_28 : decode method_4_code 28 = .ok (.if_acmp .ne 8, 3) := by decide +kernel
theorem own_d3_31 : decode method_4_code 31 = .ok (.iconst 2, 1) := by decide +kernel
theorem own_d3_32 : decode method_4_code 32 = .ok (.istore_n 1, 1) := by decide +kernel
theorem own_d3_33 : decode method_4_code 33 = .ok (.goto 5, 3) := by decide +kernel
theorem own_d3_36 : decode method_4_code 36 = .ok (.iconst (-1), 1) := by decide +kernel
theorem own_d3_37 : decode method_4_code 37 = .ok (.istore_n 1, 1) := by decide +kernel
def Q_own_crank (Z : State) (r1 : Addr) (zo : Addr) (zu : Addr) (zi : Addr) (h0 : Heap) (n0 : Nat) (v : Option Value) (h : Heap) (L : List Loc) : Prop := v = some (.int (own_rank zo zu zi r1)) ∧ Fr n0 L ∧ h = h0
theorem own_ef_own_crank (m : MethodId) (r1 : Addr) : entryFrame m #[(.ref r1)] 2 = mkF m 0 #[.val (.ref r1), .unset] [] := by first | (simp [entryFrame, mkF, argsToLocals, Value.category]; done) | rfl
set_option maxRecDepth 65536 in
set_option maxHeartbeats 40000000 in
theorem own_crank (l : Launch) (Z : State) (a0 : Array Value) (hw : ∀ d ∈ tables_1, d.before a0 Z = true) (ws : List Jvm.Cond) (r1 : Addr) (zo : Addr) (zu : Addr) (zi : Addr) (h0 : Heap) (n0 : Nat) (Z0 : n0 ≤ h0.size) (O0 : Old Z n0 h0) (S_OUT : Sta Z Z.heap "com/example/xerith/xerith/Constraint$Verdict" "OUT" "Lcom/example/xerith/xerith/Constraint$Verdict;" (.ref zo)) (S_UNK : Sta Z Z.heap "com/example/xerith/xerith/Constraint$Verdict" "UNKNOWN" "Lcom/example/xerith/xerith/Constraint$Verdict;" (.ref zu)) (S_IN : Sta Z Z.heap "com/example/xerith/xerith/Constraint$Verdict" "IN" "Lcom/example/xerith/xerith/Constraint$Verdict;" (.ref zi)) :
    own_Ctr l Z (⟨"com/example/xerith/xerith/VerdictAndPinLaw", "rank", "(Lcom/example/xerith/xerith/Constraint$Verdict;)I"⟩ : MethodName) method_4_code 2 (some .int) ws ({ frames := 0, cells := 0, slots := 0, locals := 0 } : Room) (({ frames := 0, cells := 0, slots := 0, locals := 0 } : Room)).cells (({ frames := 0, cells := 0, slots := 0, locals := 0 } : Room)).slots #[(.ref r1)] h0 (Q_own_crank Z r1 zo zu zi h0 n0) := by
  refine own_enter (plainFor_of_name own_pn0) ?_
  intro p e s m below meth c s₁ X0 hx hZ hby hml hown hnm hlk hret e0
  have N0 := Fr.nil n0
  refine own_cast (own_ef_own_crank m r1) ?_
  refine own_by (g' := (mkF m 1 #[.val (.ref r1), .unset] [(.ref r1)])) (fun t k => XS.aloadN X0.here hx rfl (hb hby own_d3_0) rfl rfl k) ?_
  obtain ⟨T101, X101, e101, st101⟩ := getS2 X0 hx hZ hown (host := "") (Or.inl (hw _ (List.mem_of_getElem? (i := 5) rfl))) Via.refl e0 (S_OUT.ext O0.2) (g := (mkF m 1 #[.val (.ref r1), .unset] [(.ref r1)])) rfl (hb hby own_d3_1)
  refine own_by (g' := (mkF m 4 #[.val (.ref r1), .unset] [(.ref zo), (.ref r1)])) st101 ?_
  by_cases hc102 : ((.ref r1) : Value) = (.ref zo)
  ·
    refine own_by (g' := (mkF m 7 #[.val (.ref r1), .unset] [])) (fun t k => Jvm.RoadKit.acmp (g := (mkF m 4 #[.val (.ref r1), .unset] [(.ref zo), (.ref r1)])) X101 hx rfl rfl rfl (pc0 := 4) (pc' := 7) (same := true) rfl (hb hby own_d3_4) rfl (decide_eq_true hc102) (by decide) (by decide) k) ?_
    refine own_by (g' := (mkF m 8 #[.val (.ref r1), .unset] [(.int (0 : Int32))])) (fun t k => XS.iconst X101.here hx rfl (hb hby own_d3_7) k) ?_
    refine own_by (g' := (mkF m 9 #[.val (.ref r1), .val (.int (0 : Int32))] [])) (fun t k => XS.istoreN X101.here hx rfl (hb hby own_d3_8) rfl (l' := #[.val (.ref r1), .val (.int (0 : Int32))]) rfl k) ?_
    refine own_by (g' := (mkF m 38 #[.val (.ref r1), .val (.int (0 : Int32))] [])) (fun t k => XS.goto X101.here hx rfl (pc0 := 9) (pc' := 38) rfl (hb hby own_d3_9) (by decide) (by decide) k) ?_
    refine own_by (g' := (mkF m 39 #[.val (.ref r1), .val (.int (0 : Int32))] [(.int (0 : Int32))])) (fun t k => XS.iloadN X101.here hx rfl (hb hby own_d3_38) rfl k) ?_
    refine own_retI X101 hx hlk hret (hb hby own_d3_39) (by decide) (by decide) ?_
    exact ⟨(by simp_all [own_rank]), N0, e101⟩
  ·
    refine own_by (g' := (mkF m 12 #[.val (.ref r1), .unset] [])) (fun t k => Jvm.RoadKit.acmp (g := (mkF m 4 #[.val (.ref r1), .unset] [(.ref zo), (.ref r1)])) X101 hx rfl rfl rfl (pc0 := 4) (pc' := 12) (same := false) rfl (hb hby own_d3_4) rfl (decide_eq_false hc102) (by decide) (by decide) k) ?_
    refine own_by (g' := (mkF m 13 #[.val (.ref r1), .unset] [(.ref r1)])) (fun t k => XS.aloadN X101.here hx rfl (hb hby own_d3_12) rfl rfl k) ?_
    obtain ⟨T103, X103, e103, st103⟩ := getS2 X101 hx hZ hown (host := "") (Or.inl (hw _ (List.mem_of_getElem? (i := 23) rfl))) Via.refl e101 (S_UNK.ext O0.2) (g := (mkF m 13 #[.val (.ref r1), .unset] [(.ref r1)])) rfl (hb hby own_d3_13)
    refine own_by (g' := (mkF m 16 #[.val (.ref r1), .unset] [(.ref zu), (.ref r1)])) st103 ?_
    by_cases hc104 : ((.ref r1) : Value) = (.ref zu)
    ·
      refine own_by (g' := (mkF m 19 #[.val (.ref r1), .unset] [])) (fun t k => Jvm.RoadKit.acmp (g := (mkF m 16 #[.val (.ref r1), .unset] [(.ref zu), (.ref r1)])) X103 hx rfl rfl rfl (pc0 := 16) (pc' := 19) (same := true) rfl (hb hby own_d3_16) rfl (decide_eq_true hc104) (by decide) (by decide) k) ?_
      refine own_by (g' := (mkF m 20 #[.val (.ref r1), .unset] [(.int (1 : Int32))])) (fun t k => XS.iconst X103.here hx rfl (hb hby own_d3_19) k) ?_
      refine own_by (g' := (mkF m 21 #[.val (.ref r1), .val (.int (1 : Int32))] [])) (fun t k => XS.istoreN X103.here hx rfl (hb hby own_d3_20) rfl (l' := #[.val (.ref r1), .val (.int (1 : Int32))]) rfl k) ?_
      refine own_by (g' := (mkF m 38 #[.val (.ref r1), .val (.int (1 : Int32))] [])) (fun t k => XS.goto X103.here hx rfl (pc0 := 21) (pc' := 38) rfl (hb hby own_d3_21) (by decide) (by decide) k) ?_
      refine own_by (g' := (mkF m 39 #[.val (.ref r1), .val (.int (1 : Int32))] [(.int (1 : Int32))])) (fun t k => XS.iloadN X103.here hx rfl (hb hby own_d3_38) rfl k) ?_
      refine own_retI X103 hx hlk hret (hb hby own_d3_39) (by decide) (by decide) ?_
      exact ⟨(by simp_all [own_rank]), N0, e103⟩
    ·
      refine own_by (g' := (mkF m 24 #[.val (.ref r1), .unset] [])) (fun t k => Jvm.RoadKit.acmp (g := (mkF m 16 #[.val (.ref r1), .unset] [(.ref zu), (.ref r1)])) X103 hx rfl rfl rfl (pc0 := 16) (pc' := 24) (same := false) rfl (hb hby own_d3_16) rfl (decide_eq_false hc104) (by decide) (by decide) k) ?_
      refine own_by (g' := (mkF m 25 #[.val (.ref r1), .unset] [(.ref r1)])) (fun t k => XS.aloadN X103.here hx rfl (hb hby own_d3_24) rfl rfl k) ?_
      obtain ⟨T105, X105, e105, st105⟩ := getS2 X103 hx hZ hown (host := "") (Or.inl (hw _ (List.mem_of_getElem? (i := 21) rfl))) Via.refl e103 (S_IN.ext O0.2) (g := (mkF m 25 #[.val (.ref r1), .unset] [(.ref r1)])) rfl (hb hby own_d3_25)
      refine own_by (g' := (mkF m 28 #[.val (.ref r1), .unset] [(.ref zi), (.ref r1)])) st105 ?_
      by_cases hc106 : ((.ref r1) : Value) = (.ref zi)
      ·
        refine own_by (g' := (mkF m 31 #[.val (.ref r1), .unset] [])) (fun t k => Jvm.RoadKit.acmp (g := (mkF m 28 #[.val (.ref r1), .unset] [(.ref zi), (.ref r1)])) X105 hx rfl rfl rfl (pc0 := 28) (pc' := 31) (same := true) rfl (hb hby own_d3_28) rfl (decide_eq_true hc106) (by decide) (by decide) k) ?_
        refine own_by (g' := (mkF m 32 #[.val (.ref r1), .unset] [(.int (2 : Int32))])) (fun t k => XS.iconst X105.here hx rfl (hb hby own_d3_31) k) ?_
        refine own_by (g' := (mkF m 33 #[.val (.ref r1), .val (.int (2 : Int32))] [])) (fun t k => XS.istoreN X105.here hx rfl (hb hby own_d3_32) rfl (l' := #[.val (.ref r1), .val (.int (2 : Int32))]) rfl k) ?_
        refine own_by (g' := (mkF m 38 #[.val (.ref r1), .val (.int (2 : Int32))] [])) (fun t k => XS.goto X105.here hx rfl (pc0 := 33) (pc' := 38) rfl (hb hby own_d3_33) (by decide) (by decide) k) ?_
        refine own_by (g' := (mkF m 39 #[.val (.ref r1), .val (.int (2 : Int32))] [(.int (2 : Int32))])) (fun t k => XS.iloadN X105.here hx rfl (hb hby own_d3_38) rfl k) ?_
        refine own_retI X105 hx hlk hret (hb hby own_d3_39) (by decide) (by decide) ?_
        exact ⟨(by simp_all [own_rank]), N0, e105⟩
      ·
        refine own_by (g' := (mkF m 36 #[.val (.ref r1), .unset] [])) (fun t k => Jvm.RoadKit.acmp (g := (mkF m 28 #[.val (.ref r1), .unset] [(.ref zi), (.ref r1)])) X105 hx rfl rfl rfl (pc0 := 28) (pc' := 36) (same := false) rfl (hb hby own_d3_28) rfl (decide_eq_false hc106) (by decide) (by decide) k) ?_
        refine own_by (g' := (mkF m 37 #[.val (.ref r1), .unset] [(.int (-1 : Int32))])) (fun t k => XS.iconst X105.here hx rfl (hb hby own_d3_36) k) ?_
        refine own_by (g' := (mkF m 38 #[.val (.ref r1), .val (.int (-1 : Int32))] [])) (fun t k => XS.istoreN X105.here hx rfl (hb hby own_d3_37) rfl (l' := #[.val (.ref r1), .val (.int (-1 : Int32))]) rfl k) ?_
        refine own_by (g' := (mkF m 39 #[.val (.ref r1), .val (.int (-1 : Int32))] [(.int (-1 : Int32))])) (fun t k => XS.iloadN X105.here hx rfl (hb hby own_d3_38) rfl k) ?_
        refine own_retI X105 hx hlk hret (hb hby own_d3_39) (by decide) (by decide) ?_
        exact ⟨(by simp_all [own_rank]), N0, e105⟩
theorem own_pn1 : plainName "com/example/xerith/xerith/Constraint$Verdict" = true := by first | (simp [plainName, overriddenIn]; done) | decide +kernel
theorem own_d2_0 : decode prog_46_method_5_code 0 = .ok (.aload_n 0, 1) := by decide +kernel
theorem own_d2_1 : decode prog_46_method_5_code 1 = .ok (.getstatic 7, 3) := by decide +kernel
theorem own_d2_4 : decode prog_46_method_5_code 4 = .ok (.if_acmp .eq 10, 3) := by decide +kernel
theorem own_d2_14 : decode prog_46_method_5_code 14 = .ok (.getstatic 7, 3) := by decide +kernel
theorem own_d2_17 : decode prog_46_method_5_code 17 = .ok (.astore_n 2, 1) := by decide +kernel
theorem own_d2_18 : decode prog_46_method_5_code 18 = .ok (.goto 28, 3) := by decide +kernel
theorem own_d2_46 : decode prog_46_method_5_code 46 = .ok (.aload_n 2, 1) := by decide +kernel
theorem own_d2_47 : decode prog_46_method_5_code 47 = .ok (.areturn, 1) := by decide +kernel
theorem own_d2_7 : decode prog_46_method_5_code 7 = .ok (.aload_n 1, 1) := by decide +kernel
theorem own_d2_8 : decode prog_46_method_5_code 8 = .ok (.getstatic 7, 3) := by decide +kernel
theorem own_d2_11 : decode prog_46_method_5_code 11 = .ok (.if_acmp .ne 10, 3) := by decide +kernel
theorem own_d2_21 : decode prog_46_method_5_code 21 = .ok (.aload_n 0, 1) := by decide +kernel
theorem own_d2_22 : decode prog_46_method_5_code 22 = .ok (.getstatic 3, 3) := by decide +kernel
theorem own_d2_25 : decode prog_46_method_5_code 25 = .ok (.if_acmp .ne 17, 3) := by decide +kernel
theorem own_d2_28 : decode prog_46_method_5_code 28 = .ok (.aload_n 1, 1) := by decide +kernel
theorem own_d2_29 : decode prog_46_method_5_code 29 = .ok (.getstatic 3, 3) := by decide +kernel
theorem own_d2_32 : decode prog_46_method_5_code 32 = .ok (.if_acmp .ne 10, 3) := by decide +kernel
theorem own_d2_35 : decode prog_46_method_5_code 35 = .ok (.getstatic 3, 3) := by decide +kernel
theorem own_d2_38 : decode prog_46_method_5_code 38 = .ok (.astore_n 2, 1) := by decide +kernel
theorem own_d2_39 : decode prog_46_method_5_code 39 = .ok (.goto 7, 3) := by decide +kernel
theorem own_d2_42 : decode prog_46_method_5_code 42 = .ok (.getstatic 10, 3) := by decide +kernel
theorem own_d2_45 : decode prog_46_method_5_code 45 = .ok (.astore_n 2, 1) := by decide +kernel
def Q_own_cand (Z : State) (r1 : Addr) (r2 : Addr) (zo : Addr) (zu : Addr) (zi : Addr) (h0 : Heap) (n0 : Nat) (v : Option Value) (h : Heap) (L : List Loc) : Prop := v = some (.ref (own_and zo zu zi r1 r2)) ∧ Fr n0 L ∧ h = h0
theorem own_ef_own_cand (m : MethodId) (r1 : Addr) (r2 : Addr) : entryFrame m #[(.ref r1), (.ref r2)] 3 = mkF m 0 #[.val (.ref r1), .val (.ref r2), .unset] [] := by first | (simp [entryFrame, mkF, argsToLocals, Value.category]; done) | rfl
set_option maxRecDepth 65536 in
set_option maxHeartbeats 40000000 in
theorem own_cand (l : Launch) (Z : State) (a0 : Array Value) (hw : ∀ d ∈ tables_1, d.before a0 Z = true) (ws : List Jvm.Cond) (r1 : Addr) (r2 : Addr) (zo : Addr) (zu : Addr) (zi : Addr) (h0 : Heap) (n0 : Nat) (Z0 : n0 ≤ h0.size) (O0 : Old Z n0 h0) (S_OUT : Sta Z Z.heap "com/example/xerith/xerith/Constraint$Verdict" "OUT" "Lcom/example/xerith/xerith/Constraint$Verdict;" (.ref zo)) (S_UNK : Sta Z Z.heap "com/example/xerith/xerith/Constraint$Verdict" "UNKNOWN" "Lcom/example/xerith/xerith/Constraint$Verdict;" (.ref zu)) (S_IN : Sta Z Z.heap "com/example/xerith/xerith/Constraint$Verdict" "IN" "Lcom/example/xerith/xerith/Constraint$Verdict;" (.ref zi)) :
    own_Ctr l Z (⟨"com/example/xerith/xerith/Constraint$Verdict", "and", "(Lcom/example/xerith/xerith/Constraint$Verdict;)Lcom/example/xerith/xerith/Constraint$Verdict;"⟩ : MethodName) prog_46_method_5_code 3 (some (.object "com/example/xerith/xerith/Constraint$Verdict")) ws ({ frames := 0, cells := 0, slots := 0, locals := 0 } : Room) (({ frames := 0, cells := 0, slots := 0, locals := 0 } : Room)).cells (({ frames := 0, cells := 0, slots := 0, locals := 0 } : Room)).slots #[(.ref r1), (.ref r2)] h0 (Q_own_cand Z r1 r2 zo zu zi h0 n0) := by
  refine own_enter (plainFor_of_name own_pn1) ?_
  intro p e s m below meth c s₁ X0 hx hZ hby hml hown hnm hlk hret e0
  have N0 := Fr.nil n0
  refine own_cast (own_ef_own_cand m r1 r2) ?_
  refine own_by (g' := (mkF m 1 #[.val (.ref r1), .val (.ref r2), .unset] [(.ref r1)])) (fun t k => XS.aloadN X0.here hx rfl (hb hby own_d2_0) rfl rfl k) ?_
  obtain ⟨T101, X101, e101, st101⟩ := getS2 X0 hx hZ hown (host := "") (Or.inl (hw _ (List.mem_of_getElem? (i := 13) rfl))) Via.refl e0 (S_OUT.ext O0.2) (g := (mkF m 1 #[.val (.ref r1), .val (.ref r2), .unset] [(.ref r1)])) rfl (hb hby own_d2_1)
  refine own_by (g' := (mkF m 4 #[.val (.ref r1), .val (.ref r2), .unset] [(.ref zo), (.ref r1)])) st101 ?_
  by_cases hc102 : ((.ref r1) : Value) = (.ref zo)
  ·
    refine own_by (g' := (mkF m 14 #[.val (.ref r1), .val (.ref r2), .unset] [])) (fun t k => Jvm.RoadKit.acmp (g := (mkF m 4 #[.val (.ref r1), .val (.ref r2), .unset] [(.ref zo), (.ref r1)])) X101 hx rfl rfl rfl (pc0 := 4) (pc' := 14) (same := true) rfl (hb hby own_d2_4) rfl (decide_eq_true hc102) (by decide) (by decide) k) ?_
    obtain ⟨T103, X103, e103, st103⟩ := getS2 X101 hx hZ hown (host := "") (Or.inl (hw _ (List.mem_of_getElem? (i := 13) rfl))) Via.refl e101 (S_OUT.ext O0.2) (g := (mkF m 14 #[.val (.ref r1), .val (.ref r2), .unset] [])) rfl (hb hby own_d2_14)
    refine own_by (g' := (mkF m 17 #[.val (.ref r1), .val (.ref r2), .unset] [(.ref zo)])) st103 ?_
    refine own_by (g' := (mkF m 18 #[.val (.ref r1), .val (.ref r2), .val (.ref zo)] [])) (fun t k => XS.astoreN X103.here hx rfl (hb hby own_d2_17) rfl rfl (l' := #[.val (.ref r1), .val (.ref r2), .val (.ref zo)]) rfl k) ?_
    refine own_by (g' := (mkF m 46 #[.val (.ref r1), .val (.ref r2), .val (.ref zo)] [])) (fun t k => XS.goto X103.here hx rfl (pc0 := 18) (pc' := 46) rfl (hb hby own_d2_18) (by decide) (by decide) k) ?_
    refine own_by (g' := (mkF m 47 #[.val (.ref r1), .val (.ref r2), .val (.ref zo)] [(.ref zo)])) (fun t k => XS.aloadN X103.here hx rfl (hb hby own_d2_46) rfl rfl k) ?_
    refine own_retA X103 hx hlk hret rfl rfl (hb hby own_d2_47) (by decide) (by decide) ?_
    exact ⟨(by simp_all [own_and]), N0, e103⟩
  ·
    refine own_by (g' := (mkF m 7 #[.val (.ref r1), .val (.ref r2), .unset] [])) (fun t k => Jvm.RoadKit.acmp (g := (mkF m 4 #[.val (.ref r1), .val (.ref r2), .unset] [(.ref zo), (.ref r1)])) X101 hx rfl rfl rfl (pc0 := 4) (pc' := 7) (same := false) rfl (hb hby own_d2_4) rfl (decide_eq_false hc102) (by decide) (by decide) k) ?_
    refine own_by (g' := (mkF m 8 #[.val (.ref r1), .val (.ref r2), .unset] [(.ref r2)])) (fun t k => XS.aloadN X101.here hx rfl (hb hby own_d2_7) rfl rfl k) ?_
    obtain ⟨T104, X104, e104, st104⟩ := getS2 X101 hx hZ hown (host := "") (Or.inl (hw _ (List.mem_of_getElem? (i := 13) rfl))) Via.refl e101 (S_OUT.ext O0.2) (g := (mkF m 8 #[.val (.ref r1), .val (.ref r2), .unset] [(.ref r2)])) rfl (hb hby own_d2_8)
    refine own_by (g' := (mkF m 11 #[.val (.ref r1), .val (.ref r2), .unset] [(.ref zo), (.ref r2)])) st104 ?_
    by_cases hc105 : ((.ref r2) : Value) = (.ref zo)
    ·
      refine own_by (g' := (mkF m 14 #[.val (.ref r1), .val (.ref r2), .unset] [])) (fun t k => Jvm.RoadKit.acmp (g := (mkF m 11 #[.val (.ref r1), .val (.ref r2), .unset] [(.ref zo), (.ref r2)])) X104 hx rfl rfl rfl (pc0 := 11) (pc' := 14) (same := true) rfl (hb hby own_d2_11) rfl (decide_eq_true hc105) (by decide) (by decide) k) ?_
      obtain ⟨T106, X106, e106, st106⟩ := getS2 X104 hx hZ hown (host := "") (Or.inl (hw _ (List.mem_of_getElem? (i := 13) rfl))) Via.refl e104 (S_OUT.ext O0.2) (g := (mkF m 14 #[.val (.ref r1), .val (.ref r2), .unset] [])) rfl (hb hby own_d2_14)
      refine own_by (g' := (mkF m 17 #[.val (.ref r1), .val (.ref r2), .unset] [(.ref zo)])) st106 ?_
      refine own_by (g' := (mkF m 18 #[.val (.ref r1), .val (.ref r2), .val (.ref zo)] [])) (fun t k => XS.astoreN X106.here hx rfl (hb hby own_d2_17) rfl rfl (l' := #[.val (.ref r1), .val (.ref r2), .val (.ref zo)]) rfl k) ?_
      refine own_by (g' := (mkF m 46 #[.val (.ref r1), .val (.ref r2), .val (.ref zo)] [])) (fun t k => XS.goto X106.here hx rfl (pc0 := 18) (pc' := 46) rfl (hb hby own_d2_18) (by decide) (by decide) k) ?_
      refine own_by (g' := (mkF m 47 #[.val (.ref r1), .val (.ref r2), .val (.ref zo)] [(.ref zo)])) (fun t k => XS.aloadN X106.here hx rfl (hb hby own_d2_46) rfl rfl k) ?_
      refine own_retA X106 hx hlk hret rfl rfl (hb hby own_d2_47) (by decide) (by decide) ?_
      exact ⟨(by simp_all [own_and]), N0, e106⟩
    ·
      refine own_by (g' := (mkF m 21 #[.val (.ref r1), .val (.ref r2), .unset] [])) (fun t k => Jvm.RoadKit.acmp (g := (mkF m 11 #[.val (.ref r1), .val (.ref r2), .unset] [(.ref zo), (.ref r2)])) X104 hx rfl rfl rfl (pc0 := 11) (pc' := 21) (same := false) rfl (hb hby own_d2_11) rfl (decide_eq_false hc105) (by decide) (by decide) k) ?_
      refine own_by (g' := (mkF m 22 #[.val (.ref r1), .val (.ref r2), .unset] [(.ref r1)])) (fun t k => XS.aloadN X104.here hx rfl (hb hby own_d2_21) rfl rfl k) ?_
      obtain ⟨T107, X107, e107, st107⟩ := getS2 X104 hx hZ hown (host := "") (Or.inl (hw _ (List.mem_of_getElem? (i := 25) rfl))) Via.refl e104 (S_IN.ext O0.2) (g := (mkF m 22 #[.val (.ref r1), .val (.ref r2), .unset] [(.ref r1)])) rfl (hb hby own_d2_22)
      refine own_by (g' := (mkF m 25 #[.val (.ref r1), .val (.ref r2), .unset] [(.ref zi), (.ref r1)])) st107 ?_
      by_cases hc108 : ((.ref r1) : Value) = (.ref zi)
      ·
        refine own_by (g' := (mkF m 28 #[.val (.ref r1), .val (.ref r2), .unset] [])) (fun t k => Jvm.RoadKit.acmp (g := (mkF m 25 #[.val (.ref r1), .val (.ref r2), .unset] [(.ref zi), (.ref r1)])) X107 hx rfl rfl rfl (pc0 := 25) (pc' := 28) (same := true) rfl (hb hby own_d2_25) rfl (decide_eq_true hc108) (by decide) (by decide) k) ?_
        refine own_by (g' := (mkF m 29 #[.val (.ref r1), .val (.ref r2), .unset] [(.ref r2)])) (fun t k => XS.aloadN X107.here hx rfl (hb hby own_d2_28) rfl rfl k) ?_
        obtain ⟨T109, X109, e109, st109⟩ := getS2 X107 hx hZ hown (host := "") (Or.inl (hw _ (List.mem_of_getElem? (i := 25) rfl))) Via.refl e107 (S_IN.ext O0.2) (g := (mkF m 29 #[.val (.ref r1), .val (.ref r2), .unset] [(.ref r2)])) rfl (hb hby own_d2_29)
        refine own_by (g' := (mkF m 32 #[.val (.ref r1), .val (.ref r2), .unset] [(.ref zi), (.ref r2)])) st109 ?_
        by_cases hc110 : ((.ref r2) : Value) = (.ref zi)
        ·
          refine own_by (g' := (mkF m 35 #[.val (.ref r1), .val (.ref r2), .unset] [])) (fun t k => Jvm.RoadKit.acmp (g := (mkF m 32 #[.val (.ref r1), .val (.ref r2), .unset] [(.ref zi), (.ref r2)])) X109 hx rfl rfl rfl (pc0 := 32) (pc' := 35) (same := true) rfl (hb hby own_d2_32) rfl (decide_eq_true hc110) (by decide) (by decide) k) ?_
          obtain ⟨T111, X111, e111, st111⟩ := getS2 X109 hx hZ hown (host := "") (Or.inl (hw _ (List.mem_of_getElem? (i := 25) rfl))) Via.refl e109 (S_IN.ext O0.2) (g := (mkF m 35 #[.val (.ref r1), .val (.ref r2), .unset] [])) rfl (hb hby own_d2_35)
          refine own_by (g' := (mkF m 38 #[.val (.ref r1), .val (.ref r2), .unset] [(.ref zi)])) st111 ?_
          refine own_by (g' := (mkF m 39 #[.val (.ref r1), .val (.ref r2), .val (.ref zi)] [])) (fun t k => XS.astoreN X111.here hx rfl (hb hby own_d2_38) rfl rfl (l' := #[.val (.ref r1), .val (.ref r2), .val (.ref zi)]) rfl k) ?_
          refine own_by (g' := (mkF m 46 #[.val (.ref r1), .val (.ref r2), .val (.ref zi)] [])) (fun t k => XS.goto X111.here hx rfl (pc0 := 39) (pc' := 46) rfl (hb hby own_d2_39) (by decide) (by decide) k) ?_
          refine own_by (g' := (mkF m 47 #[.val (.ref r1), .val (.ref r2), .val (.ref zi)] [(.ref zi)])) (fun t k => XS.aloadN X111.here hx rfl (hb hby own_d2_46) rfl rfl k) ?_
          refine own_retA X111 hx hlk hret rfl rfl (hb hby own_d2_47) (by decide) (by decide) ?_
          exact ⟨(by simp_all [own_and]), N0, e111⟩
        ·
          refine own_by (g' := (mkF m 42 #[.val (.ref r1), .val (.ref r2), .unset] [])) (fun t k => Jvm.RoadKit.acmp (g := (mkF m 32 #[.val (.ref r1), .val (.ref r2), .unset] [(.ref zi), (.ref r2)])) X109 hx rfl rfl rfl (pc0 := 32) (pc' := 42) (same := false) rfl (hb hby own_d2_32) rfl (decide_eq_false hc110) (by decide) (by decide) k) ?_
          obtain ⟨T112, X112, e112, st112⟩ := getS2 X109 hx hZ hown (host := "") (Or.inl (hw _ (List.mem_of_getElem? (i := 26) rfl))) Via.refl e109 (S_UNK.ext O0.2) (g := (mkF m 42 #[.val (.ref r1), .val (.ref r2), .unset] [])) rfl (hb hby own_d2_42)
          refine own_by (g' := (mkF m 45 #[.val (.ref r1), .val (.ref r2), .unset] [(.ref zu)])) st112 ?_
          refine own_by (g' := (mkF m 46 #[.val (.ref r1), .val (.ref r2), .val (.ref zu)] [])) (fun t k => XS.astoreN X112.here hx rfl (hb hby own_d2_45) rfl rfl (l' := #[.val (.ref r1), .val (.ref r2), .val (.ref zu)]) rfl k) ?_
          refine own_by (g' := (mkF m 47 #[.val (.ref r1), .val (.ref r2), .val (.ref zu)] [(.ref zu)])) (fun t k => XS.aloadN X112.here hx rfl (hb hby own_d2_46) rfl rfl k) ?_
          refine own_retA X112 hx hlk hret rfl rfl (hb hby own_d2_47) (by decide) (by decide) ?_
          exact ⟨(by simp_all [own_and]), N0, e112⟩
      ·
        refine own_by (g' := (mkF m 42 #[.val (.ref r1), .val (.ref r2), .unset] [])) (fun t k => Jvm.RoadKit.acmp (g := (mkF m 25 #[.val (.ref r1), .val (.ref r2), .unset] [(.ref zi), (.ref r1)])) X107 hx rfl rfl rfl (pc0 := 25) (pc' := 42) (same := false) rfl (hb hby own_d2_25) rfl (decide_eq_false hc108) (by decide) (by decide) k) ?_
        obtain ⟨T113, X113, e113, st113⟩ := getS2 X107 hx hZ hown (host := "") (Or.inl (hw _ (List.mem_of_getElem? (i := 26) rfl))) Via.refl e107 (S_UNK.ext O0.2) (g := (mkF m 42 #[.val (.ref r1), .val (.ref r2), .unset] [])) rfl (hb hby own_d2_42)
        refine own_by (g' := (mkF m 45 #[.val (.ref r1), .val (.ref r2), .unset] [(.ref zu)])) st113 ?_
        refine own_by (g' := (mkF m 46 #[.val (.ref r1), .val (.ref r2), .val (.ref zu)] [])) (fun t k => XS.astoreN X113.here hx rfl (hb hby own_d2_45) rfl rfl (l' := #[.val (.ref r1), .val (.ref r2), .val (.ref zu)]) rfl k) ?_
        refine own_by (g' := (mkF m 47 #[.val (.ref r1), .val (.ref r2), .val (.ref zu)] [(.ref zu)])) (fun t k => XS.aloadN X113.here hx rfl (hb hby own_d2_46) rfl rfl k) ?_
        refine own_retA X113 hx hlk hret rfl rfl (hb hby own_d2_47) (by decide) (by decide) ?_
        exact ⟨(by simp_all [own_and]), N0, e113⟩
theorem own_pick_or (zo zu zi : Addr) (u : Int32) : own_pick zo zu zi u = zo ∨ own_pick zo zu zi u = zu ∨ own_pick zo zu zi u = zi := by
  unfold own_pick; split
  · exact Or.inl rfl
  · split
    · exact Or.inr (Or.inl rfl)
    · exact Or.inr (Or.inr rfl)
theorem own_fin {zo zu zi : Addr} (n1 : zo ≠ zu) (n2 : zo ≠ zi) (n3 : zu ≠ zi) (u w : Int32) : own_rank zo zu zi (own_and zo zu zi (own_pick zo zu zi u) (own_pick zo zu zi w)) = own_min (own_rank zo zu zi (own_pick zo zu zi u)) (own_rank zo zu zi (own_pick zo zu zi w)) := by
  rcases own_pick_or zo zu zi u with q | q | q <;> rcases own_pick_or zo zu zi w with r | r | r <;> rw [q, r] <;> simp [own_and, own_rank, own_min, n1, n2, n3, n1.symm, n2.symm, n3.symm]
theorem own_pexa {Z : State} {h : Heap} {zo zu zi : Addr} {C : String} (E1 : Exa Z h zo C) (E2 : Exa Z h zu C) (E3 : Exa Z h zi C) (u : Int32) : Exa Z h (own_pick zo zu zi u) C := by
  rcases own_pick_or zo zu zi u with q | q | q <;> rw [q] <;> assumption
theorem own_pd0 : parseMethodDescriptor "(I)Lcom/example/xerith/xerith/Constraint$Verdict;" = some ⟨[.int], some (.object "com/example/xerith/xerith/Constraint$Verdict")⟩ := by decide +kernel
theorem own_pd1 : parseMethodDescriptor "(Lcom/example/xerith/xerith/Constraint$Verdict;)Lcom/example/xerith/xerith/Constraint$Verdict;" = some ⟨[(.object "com/example/xerith/xerith/Constraint$Verdict")], some (.object "com/example/xerith/xerith/Constraint$Verdict")⟩ := by decide +kernel
theorem own_pd2 : parseMethodDescriptor "(Lcom/example/xerith/xerith/Constraint$Verdict;)I" = some ⟨[(.object "com/example/xerith/xerith/Constraint$Verdict")], some .int⟩ := by decide +kernel
theorem own_pd3 : parseMethodDescriptor "(II)I" = some ⟨[.int, .int], some .int⟩ := by decide +kernel
def Q_own_law (Z : State) (u1 : Int32) (u2 : Int32) (zo : Addr) (zu : Addr) (zi : Addr) (h0 : Heap) (n0 : Nat) (v : Option Value) (h : Heap) (L : List Loc) : Prop := v = some (.int (1 : Int32)) ∧ Fr n0 L ∧ h = h0
theorem own_ef_own_law (m : MethodId) (u1 : Int32) (u2 : Int32) : entryFrame m #[(.int u1), (.int u2)] maxLocals = mkF m 0 #[.val (.int u1), .val (.int u2), .unset, .unset, .unset, .unset] [] := by first | (simp [entryFrame, mkF, argsToLocals, Value.category, maxLocals]; done) | rfl
set_option maxRecDepth 65536 in
set_option maxHeartbeats 40000000 in
theorem own_law (l : Launch) (Z : State) (a0 : Array Value) (hw : ∀ d ∈ tables_1, d.before a0 Z = true) (ws : List Jvm.Cond) (u1 : Int32) (u2 : Int32) (zo : Addr) (zu : Addr) (zi : Addr) (h0 : Heap) (n0 : Nat) (Z0 : n0 ≤ h0.size) (O0 : Old Z n0 h0) (S_OUT : Sta Z Z.heap "com/example/xerith/xerith/Constraint$Verdict" "OUT" "Lcom/example/xerith/xerith/Constraint$Verdict;" (.ref zo)) (S_UNK : Sta Z Z.heap "com/example/xerith/xerith/Constraint$Verdict" "UNKNOWN" "Lcom/example/xerith/xerith/Constraint$Verdict;" (.ref zu)) (S_IN : Sta Z Z.heap "com/example/xerith/xerith/Constraint$Verdict" "IN" "Lcom/example/xerith/xerith/Constraint$Verdict;" (.ref zi)) (n1 : zo ≠ zu) (n2 : zo ≠ zi) (n3 : zu ≠ zi) (E1 : Exa Z h0 zo "com/example/xerith/xerith/Constraint$Verdict") (E2 : Exa Z h0 zu "com/example/xerith/xerith/Constraint$Verdict") (E3 : Exa Z h0 zi "com/example/xerith/xerith/Constraint$Verdict") :
    own_Ctr l Z x code maxLocals ret ws room_1 0 0 #[(.int u1), (.int u2)] h0 (Q_own_law Z u1 u2 zo zu zi h0 n0) := by
  refine own_enter (plainFor_of_name own_pn0) ?_
  intro p e s m below meth c s₁ X0 hx hZ hby hml hown hnm hlk hret e0
  have N0 := Fr.nil n0
  refine own_cast (own_ef_own_law m u1 u2) ?_
  refine own_by (g' := (mkF m 1 #[.val (.int u1), .val (.int u2), .unset, .unset, .unset, .unset] [(.int u1)])) (fun t k => XS.iloadN X0.here hx rfl (hb hby at_0) rfl k) ?_
  refine own_callS X0 hx hZ hown (hw _ (List.mem_of_getElem? (i := 0) rfl)) (hw _ (List.mem_of_getElem? (i := 1) rfl)) (hw _ (List.mem_of_getElem? (i := 2) rfl)) (hw _ (List.mem_of_getElem? (i := 3) rfl)) (by decide) (own_cpick l Z a0 hw [] (u1) (zo) (zu) (zi) h0 n0 Z0 O0 S_OUT S_UNK S_IN) 0 (by decide) (by decide) (by decide) (by decide) e0 (g := (mkF m 1 #[.val (.int u1), .val (.int u2), .unset, .unset, .unset, .unset] [(.int u1)])) rfl (by rw [hml]; rfl) (argsL := [(.int u1)]) (rest := []) (lenOf own_pd0 rfl) rfl (by show 2 * 0 + _ ≤ _; exact Nat.le_of_eq rfl) (hb hby at_1) ?_
  intro v101 T101 L101 X101 q101
  obtain ⟨rfl, N101q, e101⟩ := q101
  have N101 := Fr.app N0 N101q
  show own_Goes p e below s _ _ _ T101 (mkF m 4 #[.val (.int u1), .val (.int u2), .unset, .unset, .unset, .unset] [(.ref (own_pick zo zu zi u1))])
  have Ep101 := own_pexa E1 E2 E3 u1
  refine own_by (g' := (mkF m 5 #[.val (.int u1), .val (.int u2), .val (.ref (own_pick zo zu zi u1)), .unset, .unset, .unset] [])) (fun t k => XS.astoreN X101.here hx rfl (hb hby at_4) rfl rfl (l' := #[.val (.int u1), .val (.int u2), .val (.ref (own_pick zo zu zi u1)), .unset, .unset, .unset]) rfl k) ?_
  refine own_by (g' := (mkF m 6 #[.val (.int u1), .val (.int u2), .val (.ref (own_pick zo zu zi u1)), .unset, .unset, .unset] [(.int u2)])) (fun t k => XS.iloadN X101.here hx rfl (hb hby at_5) rfl k) ?_
  refine own_callS X101 hx hZ hown (hw _ (List.mem_of_getElem? (i := 0) rfl)) (hw _ (List.mem_of_getElem? (i := 1) rfl)) (hw _ (List.mem_of_getElem? (i := 2) rfl)) (hw _ (List.mem_of_getElem? (i := 3) rfl)) (by decide) (own_cpick l Z a0 hw [] (u2) (zo) (zu) (zi) h0 n0 Z0 O0 S_OUT S_UNK S_IN) 0 (by decide) (by decide) (by decide) (by decide) e101 (g := (mkF m 6 #[.val (.int u1), .val (.int u2), .val (.ref (own_pick zo zu zi u1)), .unset, .unset, .unset] [(.int u2)])) rfl (by rw [hml]; rfl) (argsL := [(.int u2)]) (rest := []) (lenOf own_pd0 rfl) rfl (by show 2 * 0 + _ ≤ _; exact Nat.le_of_eq rfl) (hb hby at_6) ?_
  intro v102 T102 L102 X102 q102
  obtain ⟨rfl, N102q, e102⟩ := q102
  have N102 := Fr.app N101 N102q
  show own_Goes p e below s _ _ _ T102 (mkF m 9 #[.val (.int u1), .val (.int u2), .val (.ref (own_pick zo zu zi u1)), .unset, .unset, .unset] [(.ref (own_pick zo zu zi u2))])
  have Ep102 := own_pexa E1 E2 E3 u2
  refine own_by (g' := (mkF m 10 #[.val (.int u1), .val (.int u2), .val (.ref (own_pick zo zu zi u1)), .val (.ref (own_pick zo zu zi u2)), .unset, .unset] [])) (fun t k => XS.astoreN X102.here hx rfl (hb hby at_9) rfl rfl (l' := #[.val (.int u1), .val (.int u2), .val (.ref (own_pick zo zu zi u1)), .val (.ref (own_pick zo zu zi u2)), .unset, .unset]) rfl k) ?_
  refine own_by (g' := (mkF m 11 #[.val (.int u1), .val (.int u2), .val (.ref (own_pick zo zu zi u1)), .val (.ref (own_pick zo zu zi u2)), .unset, .unset] [(.ref (own_pick zo zu zi u1))])) (fun t k => XS.aloadN X102.here hx rfl (hb hby at_10) rfl rfl k) ?_
  refine own_by (g' := (mkF m 12 #[.val (.int u1), .val (.int u2), .val (.ref (own_pick zo zu zi u1)), .val (.ref (own_pick zo zu zi u2)), .unset, .unset] [(.ref (own_pick zo zu zi u2)), (.ref (own_pick zo zu zi u1))])) (fun t k => XS.aloadN X102.here hx rfl (hb hby at_11) rfl rfl k) ?_
  refine own_callV X102 hx hZ hown (hw _ (List.mem_of_getElem? (i := 8) rfl)) (hw _ (List.mem_of_getElem? (i := 9) rfl)) (notFace_of_selects (args := #[]) (mvT hZ (hw _ (List.mem_of_getElem? (i := 11) rfl)))) (hw _ (List.mem_of_getElem? (i := 11) rfl)) (hw _ (List.mem_of_getElem? (i := 10) rfl)) (hw _ (List.mem_of_getElem? (i := 12) rfl)) (hw _ (List.mem_of_getElem? (i := 6) rfl)) (by decide) (a := (own_pick zo zu zi u1)) Ep101 (own_cand l Z a0 hw [] ((own_pick zo zu zi u1)) ((own_pick zo zu zi u2)) (zo) (zu) (zi) h0 n0 Z0 O0 S_OUT S_UNK S_IN) 0 (by decide) (by decide) (by decide) (by decide) e102 (g := (mkF m 12 #[.val (.int u1), .val (.int u2), .val (.ref (own_pick zo zu zi u1)), .val (.ref (own_pick zo zu zi u2)), .unset, .unset] [(.ref (own_pick zo zu zi u2)), (.ref (own_pick zo zu zi u1))])) rfl (by rw [hml]; rfl) (argsL := [(.ref (own_pick zo zu zi u2))]) (rest := []) (lenOf own_pd1 rfl) rfl (by show 2 * 0 + _ ≤ _; exact Nat.le_of_eq rfl) (hb hby at_12) ?_
  intro v103 T103 L103 X103 q103
  obtain ⟨rfl, N103q, e103⟩ := q103
  have N103 := Fr.app N102 N103q
  show own_Goes p e below s _ _ _ T103 (mkF m 15 #[.val (.int u1), .val (.int u2), .val (.ref (own_pick zo zu zi u1)), .val (.ref (own_pick zo zu zi u2)), .unset, .unset] [(.ref (own_and zo zu zi (own_pick zo zu zi u1) (own_pick zo zu zi u2)))])
  refine own_by (g' := (mkF m 17 #[.val (.int u1), .val (.int u2), .val (.ref (own_pick zo zu zi u1)), .val (.ref (own_pick zo zu zi u2)), .val (.ref (own_and zo zu zi (own_pick zo zu zi u1) (own_pick zo zu zi u2))), .unset] [])) (fun t k => XS.astore X103.here hx rfl (hb hby at_15) rfl rfl (l' := #[.val (.int u1), .val (.int u2), .val (.ref (own_pick zo zu zi u1)), .val (.ref (own_pick zo zu zi u2)), .val (.ref (own_and zo zu zi (own_pick zo zu zi u1) (own_pick zo zu zi u2))), .unset]) rfl k) ?_
  refine own_by (g' := (mkF m 18 #[.val (.int u1), .val (.int u2), .val (.ref (own_pick zo zu zi u1)), .val (.ref (own_pick zo zu zi u2)), .val (.ref (own_and zo zu zi (own_pick zo zu zi u1) (own_pick zo zu zi u2))), .unset] [(.ref (own_pick zo zu zi u1))])) (fun t k => XS.aloadN X103.here hx rfl (hb hby at_17) rfl rfl k) ?_
  refine own_callS X103 hx hZ hown (hw _ (List.mem_of_getElem? (i := 14) rfl)) (hw _ (List.mem_of_getElem? (i := 15) rfl)) (hw _ (List.mem_of_getElem? (i := 2) rfl)) (hw _ (List.mem_of_getElem? (i := 16) rfl)) (by decide) (own_crank l Z a0 hw [] ((own_pick zo zu zi u1)) (zo) (zu) (zi) h0 n0 Z0 O0 S_OUT S_UNK S_IN) 0 (by decide) (by decide) (by decide) (by decide) e103 (g := (mkF m 18 #[.val (.int u1), .val (.int u2), .val (.ref (own_pick zo zu zi u1)), .val (.ref (own_pick zo zu zi u2)), .val (.ref (own_and zo zu zi (own_pick zo zu zi u1) (own_pick zo zu zi u2))), .unset] [(.ref (own_pick zo zu zi u1))])) rfl (by rw [hml]; rfl) (argsL := [(.ref (own_pick zo zu zi u1))]) (rest := []) (lenOf own_pd2 rfl) rfl (by show 2 * 0 + _ ≤ _; exact Nat.le_of_eq rfl) (hb hby at_18) ?_
  intro v104 T104 L104 X104 q104
  obtain ⟨rfl, N104q, e104⟩ := q104
  have N104 := Fr.app N103 N104q
  show own_Goes p e below s _ _ _ T104 (mkF m 21 #[.val (.int u1), .val (.int u2), .val (.ref (own_pick zo zu zi u1)), .val (.ref (own_pick zo zu zi u2)), .val (.ref (own_and zo zu zi (own_pick zo zu zi u1) (own_pick zo zu zi u2))), .unset] [(.int (own_rank zo zu zi (own_pick zo zu zi u1)))])
  refine own_by (g' := (mkF m 22 #[.val (.int u1), .val (.int u2), .val (.ref (own_pick zo zu zi u1)), .val (.ref (own_pick zo zu zi u2)), .val (.ref (own_and zo zu zi (own_pick zo zu zi u1) (own_pick zo zu zi u2))), .unset] [(.ref (own_pick zo zu zi u2)), (.int (own_rank zo zu zi (own_pick zo zu zi u1)))])) (fun t k => XS.aloadN X104.here hx rfl (hb hby at_21) rfl rfl k) ?_
  refine own_callS X104 hx hZ hown (hw _ (List.mem_of_getElem? (i := 14) rfl)) (hw _ (List.mem_of_getElem? (i := 15) rfl)) (hw _ (List.mem_of_getElem? (i := 2) rfl)) (hw _ (List.mem_of_getElem? (i := 16) rfl)) (by decide) (own_crank l Z a0 hw [] ((own_pick zo zu zi u2)) (zo) (zu) (zi) h0 n0 Z0 O0 S_OUT S_UNK S_IN) 1 (by decide) (by decide) (by decide) (by decide) e104 (g := (mkF m 22 #[.val (.int u1), .val (.int u2), .val (.ref (own_pick zo zu zi u1)), .val (.ref (own_pick zo zu zi u2)), .val (.ref (own_and zo zu zi (own_pick zo zu zi u1) (own_pick zo zu zi u2))), .unset] [(.ref (own_pick zo zu zi u2)), (.int (own_rank zo zu zi (own_pick zo zu zi u1)))])) rfl (by rw [hml]; rfl) (argsL := [(.ref (own_pick zo zu zi u2))]) (rest := [(.int (own_rank zo zu zi (own_pick zo zu zi u1)))]) (lenOf own_pd2 rfl) rfl (by show 2 * 0 + _ ≤ _; exact Nat.le_of_eq rfl) (hb hby at_22) ?_
  intro v105 T105 L105 X105 q105
  obtain ⟨rfl, N105q, e105⟩ := q105
  have N105 := Fr.app N104 N105q
  show own_Goes p e below s _ _ _ T105 (mkF m 25 #[.val (.int u1), .val (.int u2), .val (.ref (own_pick zo zu zi u1)), .val (.ref (own_pick zo zu zi u2)), .val (.ref (own_and zo zu zi (own_pick zo zu zi u1) (own_pick zo zu zi u2))), .unset] [(.int (own_rank zo zu zi (own_pick zo zu zi u2))), (.int (own_rank zo zu zi (own_pick zo zu zi u1)))])
  refine own_callS X105 hx hZ hown (hw _ (List.mem_of_getElem? (i := 17) rfl)) (hw _ (List.mem_of_getElem? (i := 18) rfl)) (hw _ (List.mem_of_getElem? (i := 19) rfl)) (hw _ (List.mem_of_getElem? (i := 20) rfl)) (by decide) (own_cmin l Z a0 hw [] ((own_rank zo zu zi (own_pick zo zu zi u1))) ((own_rank zo zu zi (own_pick zo zu zi u2))) h0 n0 Z0 ) 0 (by decide) (by decide) (by decide) (by decide) e105 (g := (mkF m 25 #[.val (.int u1), .val (.int u2), .val (.ref (own_pick zo zu zi u1)), .val (.ref (own_pick zo zu zi u2)), .val (.ref (own_and zo zu zi (own_pick zo zu zi u1) (own_pick zo zu zi u2))), .unset] [(.int (own_rank zo zu zi (own_pick zo zu zi u2))), (.int (own_rank zo zu zi (own_pick zo zu zi u1)))])) rfl (by rw [hml]; rfl) (argsL := [(.int (own_rank zo zu zi (own_pick zo zu zi u1))), (.int (own_rank zo zu zi (own_pick zo zu zi u2)))]) (rest := []) (lenOf own_pd3 rfl) rfl (by show 2 * 0 + _ ≤ _; exact Nat.le_of_eq rfl) (hb hby at_25) ?_
  intro v106 T106 L106 X106 q106
  obtain ⟨rfl, N106q, e106⟩ := q106
  have N106 := Fr.app N105 N106q
  show own_Goes p e below s _ _ _ T106 (mkF m 28 #[.val (.int u1), .val (.int u2), .val (.ref (own_pick zo zu zi u1)), .val (.ref (own_pick zo zu zi u2)), .val (.ref (own_and zo zu zi (own_pick zo zu zi u1) (own_pick zo zu zi u2))), .unset] [(.int (own_min (own_rank zo zu zi (own_pick zo zu zi u1)) (own_rank zo zu zi (own_pick zo zu zi u2))))])
  generalize hv107 : (own_min (own_rank zo zu zi (own_pick zo zu zi u1)) (own_rank zo zu zi (own_pick zo zu zi u2))) = v107
  refine own_by (g' := (mkF m 30 #[.val (.int u1), .val (.int u2), .val (.ref (own_pick zo zu zi u1)), .val (.ref (own_pick zo zu zi u2)), .val (.ref (own_and zo zu zi (own_pick zo zu zi u1) (own_pick zo zu zi u2))), .val (.int v107)] [])) (fun t k => XS.istore X106.here hx rfl (hb hby at_28) rfl (l' := #[.val (.int u1), .val (.int u2), .val (.ref (own_pick zo zu zi u1)), .val (.ref (own_pick zo zu zi u2)), .val (.ref (own_and zo zu zi (own_pick zo zu zi u1) (own_pick zo zu zi u2))), .val (.int v107)]) rfl k) ?_
  refine own_by (g' := (mkF m 32 #[.val (.int u1), .val (.int u2), .val (.ref (own_pick zo zu zi u1)), .val (.ref (own_pick zo zu zi u2)), .val (.ref (own_and zo zu zi (own_pick zo zu zi u1) (own_pick zo zu zi u2))), .val (.int v107)] [(.ref (own_and zo zu zi (own_pick zo zu zi u1) (own_pick zo zu zi u2)))])) (fun t k => XS.aload X106.here hx rfl (hb hby at_30) rfl rfl k) ?_
  refine own_callS X106 hx hZ hown (hw _ (List.mem_of_getElem? (i := 14) rfl)) (hw _ (List.mem_of_getElem? (i := 15) rfl)) (hw _ (List.mem_of_getElem? (i := 2) rfl)) (hw _ (List.mem_of_getElem? (i := 16) rfl)) (by decide) (own_crank l Z a0 hw [] ((own_and zo zu zi (own_pick zo zu zi u1) (own_pick zo zu zi u2))) (zo) (zu) (zi) h0 n0 Z0 O0 S_OUT S_UNK S_IN) 0 (by decide) (by decide) (by decide) (by decide) e106 (g := (mkF m 32 #[.val (.int u1), .val (.int u2), .val (.ref (own_pick zo zu zi u1)), .val (.ref (own_pick zo zu zi u2)), .val (.ref (own_and zo zu zi (own_pick zo zu zi u1) (own_pick zo zu zi u2))), .val (.int v107)] [(.ref (own_and zo zu zi (own_pick zo zu zi u1) (own_pick zo zu zi u2)))])) rfl (by rw [hml]; rfl) (argsL := [(.ref (own_and zo zu zi (own_pick zo zu zi u1) (own_pick zo zu zi u2)))]) (rest := []) (lenOf own_pd2 rfl) rfl (by show 2 * 0 + _ ≤ _; exact Nat.le_of_eq rfl) (hb hby at_32) ?_
  intro v108 T108 L108 X108 q108
  obtain ⟨rfl, N108q, e108⟩ := q108
  have N108 := Fr.app N106 N108q
  show own_Goes p e below s _ _ _ T108 (mkF m 35 #[.val (.int u1), .val (.int u2), .val (.ref (own_pick zo zu zi u1)), .val (.ref (own_pick zo zu zi u2)), .val (.ref (own_and zo zu zi (own_pick zo zu zi u1) (own_pick zo zu zi u2))), .val (.int v107)] [(.int (own_rank zo zu zi (own_and zo zu zi (own_pick zo zu zi u1) (own_pick zo zu zi u2))))])
  refine own_by (g' := (mkF m 37 #[.val (.int u1), .val (.int u2), .val (.ref (own_pick zo zu zi u1)), .val (.ref (own_pick zo zu zi u2)), .val (.ref (own_and zo zu zi (own_pick zo zu zi u1) (own_pick zo zu zi u2))), .val (.int v107)] [(.int v107), (.int (own_rank zo zu zi (own_and zo zu zi (own_pick zo zu zi u1) (own_pick zo zu zi u2))))])) (fun t k => XS.iload X108.here hx rfl (hb hby at_35) rfl k) ?_
  refine own_by (g' := (mkF m 40 #[.val (.int u1), .val (.int u2), .val (.ref (own_pick zo zu zi u1)), .val (.ref (own_pick zo zu zi u2)), .val (.ref (own_and zo zu zi (own_pick zo zu zi u1) (own_pick zo zu zi u2))), .val (.int v107)] [])) (fun t k => XS.icmpNo X108.here hx rfl (hb hby at_37) rfl (teq (by subst hv107; exact own_fin n1 n2 n3 u1 u2)).2 k) ?_
  refine own_by (g' := (mkF m 41 #[.val (.int u1), .val (.int u2), .val (.ref (own_pick zo zu zi u1)), .val (.ref (own_pick zo zu zi u2)), .val (.ref (own_and zo zu zi (own_pick zo zu zi u1) (own_pick zo zu zi u2))), .val (.int v107)] [(.int (1 : Int32))])) (fun t k => XS.iconst X108.here hx rfl (hb hby at_40) k) ?_
  refine own_by (g' := (mkF m 45 #[.val (.int u1), .val (.int u2), .val (.ref (own_pick zo zu zi u1)), .val (.ref (own_pick zo zu zi u2)), .val (.ref (own_and zo zu zi (own_pick zo zu zi u1) (own_pick zo zu zi u2))), .val (.int v107)] [(.int (1 : Int32))])) (fun t k => XS.goto X108.here hx rfl (pc0 := 41) (pc' := 45) rfl (hb hby at_41) (by decide) (by decide) k) ?_
  refine own_retN X108 hx hlk hret (t := .boolean) (by simp) (hb hby at_45) (by decide) (by decide) ?_
  exact ⟨rfl, N108, e108⟩
theorem own_ord {args : Array Value} {s : State} {o : Option Outcome} {idx : List Nat} {t : Term} {C n d : String} {a : Addr} {z : Int32} (ev : t.eval args s o idx s = some (.ref a)) (h : (Cond.eq (Term.field t C n d) (Term.int z)).value args s o s idx = some true) : s.fieldOf? a C n d = some (.int z) := by
  obtain ⟨x, y, h1, h2, hk, -⟩ := cmp_v (Or.inl h)
  have h3 : y = .int z := (Option.some.inj h2).symm
  subst h3
  rw [fld_at ev] at h1
  cases x with
  | int q => 
    have h4 : (Cond.eq (Term.field t C n d) (Term.int z)).value args s o s idx = some (decide (q = z)) := by simp [Cond.value, Term.eval, ev, h1]
    rw [h1, gotT h4 h]
  | _ => simp [Cond.value, Term.eval, ev, h1] at h
theorem own_ne {s : State} {C n d : String} {a b : Addr} {y z : Int32} (h1 : s.fieldOf? a C n d = some (.int y)) (h2 : s.fieldOf? b C n d = some (.int z)) (q : y ≠ z) : a ≠ b := fun e => by
  subst e; rw [h1] at h2; exact q (Value.int.inj (Option.some.inj h2))
set_option maxRecDepth 65536 in
set_option maxHeartbeats 40000000 in
theorem comes_1 {Post : Tables → Env → Array Value → State → Outcome → State → Prop} (hpost : ∀ tb e args s v u, (limb_1_1.after args s (.returned v) u = true ∧ limb_1_2.after args s (.returned v) u = true ∧ True) → FrameEnd s (.returned v) u (Jvm.fieldLocs frame_1_writes args s ++ Jvm.arrayLocs frame_1_arrays args s ++ Jvm.staticLocs frame_1_statics s) 0 0 → Post tb e args s (.returned v) u) :
    ArmFor flags0 classFile x code maxLocals ret World_1 tables_1 room_1 Calls_1 rest_1 Pre_1 Post := by
  intro l hfl _ _ p e ha hc hk s m args below hf hA hF happ hP
  obtain ⟨hcalls, hrest, hpre⟩ := hP
  obtain ⟨-, -, -, hnamed, -, -, -, hat⟩ := (Spec.applies_iff hf).mp happ
  obtain ⟨hg, hn⟩ := and_e (Cond.before_iff.mp (show (Jvm.Cond.and given_1 narrow_1).before args s = true from hpre))
  obtain ⟨ga1, gb1⟩ := and_e hg
  obtain ⟨ga2, gb2⟩ := and_e gb1
  obtain ⟨ga3, gb3⟩ := and_e hn
  obtain ⟨ga4, gb4⟩ := and_e gb3
  obtain ⟨ga5, gb5⟩ := and_e gb4
  obtain ⟨ga6, gb6⟩ := and_e gb5
  obtain ⟨ga7, gb7⟩ := and_e gb6
  obtain ⟨w0, w1, rfl⟩ : ∃ w0 w1 : Value, args = #[w0, w1] := by
    have hs : args.size = 2 := by simpa [Cond.value, given_1] using ga1
    obtain ⟨L⟩ := args
    match L, hs with
    | [w0, w1], _ => exact ⟨w0, w1, rfl⟩
  have hw := fun d (hd : d ∈ tables_1) => atoms_spec (ws := Jvm.Cond.code x code maxLocals ret :: tables_1) hat d (List.mem_cons_of_mem _ hd)
  have hfit : Fit s := fun {y c} hc i hi => by
    obtain ⟨ha, rfl⟩ := Array.getElem?_eq_some_iff.mp hc
    have q := List.all_eq_true.mp ((Array.all_eq_true_iff_forall_mem.mp hF) _ (Array.getElem_mem ha)) i (List.mem_range.mpr hi)
    simpa [Array.getElem?_eq_getElem hi] using q
  obtain ⟨i0, ei0⟩ := is_v ga2
  obtain rfl : w0 = (.int i0) := Option.some.inj ei0
  obtain ⟨i1, ei1⟩ := is_v gb2
  obtain rfl : w1 = (.int i1) := Option.some.inj ei1
  obtain ⟨zo, ev_OUT⟩ := exa_v ga3
  have St_OUT := Sta.start ev_OUT (Or.inr ⟨(hw _ (List.mem_of_getElem? (i := 6) rfl)), (hw _ (List.mem_of_getElem? (i := 7) rfl))⟩)
  have Ex_OUT := Exa.start ev_OUT ga3
  obtain ⟨zu, ev_UNKNOWN⟩ := exa_v ga5
  have St_UNKNOWN := Sta.start ev_UNKNOWN (Or.inr ⟨(hw _ (List.mem_of_getElem? (i := 6) rfl)), (hw _ (List.mem_of_getElem? (i := 24) rfl))⟩)
  have Ex_UNKNOWN := Exa.start ev_UNKNOWN ga5
  obtain ⟨zi, ev_IN⟩ := exa_v ga4
  have St_IN := Sta.start ev_IN (Or.inr ⟨(hw _ (List.mem_of_getElem? (i := 6) rfl)), (hw _ (List.mem_of_getElem? (i := 22) rfl))⟩)
  have Ex_IN := Exa.start ev_IN ga4
  have or_IN := own_ord ev_IN ga6
  have or_OUT := own_ord ev_OUT ga7
  have or_UNKNOWN := own_ord ev_UNKNOWN gb7
  obtain ⟨n, o, h1, h2, h3, _, L, rfl, ⟨rfl, N, -⟩, hq⟩ := own_law l s _ hw tables_1 i0 i1 zo zu zi s.heap s.heap.size (Nat.le_refl _) (Old.start s) St_OUT St_UNKNOWN St_IN (own_ne or_OUT or_UNKNOWN (by decide)) (own_ne or_OUT or_IN (by decide)) (own_ne or_UNKNOWN or_IN (by decide)) Ex_OUT Ex_UNKNOWN Ex_IN p e ha hc hk s m _ below hf ((Spec.applies_iff_loose hf).mp happ).1 ⟨rfl, State.Warmed39.refl s, rfl⟩ trivial
  exact ⟨n, _, h1, h2, h3, hpost _ _ _ _ _ _ ⟨Cond.after_iff.mpr rfl, Cond.after_iff.mpr (eq_i res_at (Term.int_eval (1)) rfl), trivial⟩ ⟨hq.1, hq.2.1, (hq.2.2.sift fun y hy => Or.inr (N y hy)).mono (by decide) (by decide)⟩⟩
theorem main_1_1 : Claimed_1_1 := comes_1 fun _ _ _ _ _ _ h hF => ⟨h.1, hF⟩
theorem main_1_2 : Claimed_1_2 := comes_1 fun _ _ _ _ _ _ h hF => ⟨h.2.1, hF⟩
end Jvm.Pilot.@@N@@
namespace Jvm.Pilot.@@N@@
open Jvm Jvm.ClassFile Sem Op Lib Jvm.Free Jvm.Stand Jvm.Pilot.@@N@@.Jvm.D
/-! MADE BY PROGRAM (witnessworld.py) out of the Statement's table words and the real class files: 13 classes; the members and pool entries that the words name. The judged class is class 1, her method 1. -/
namespace start1
open Jvm.ClassFile
def u (s : String) : CpInfo := .utf8 (stringToUtf16 s)
/-- a pool by its gaps: so many unusable entries, then the entry; so many at the end -/
def gap : Nat → List CpInfo → List CpInfo
  | 0, r => r
  | n + 1, r => .unusable :: gap n r
def poolList (es : List (Nat × CpInfo)) (last : Nat) : List CpInfo := es.foldr (fun e r => gap e.1 (e.2 :: r)) (gap last [])
def pool (es : List (Nat × CpInfo)) (last : Nat) : Array CpInfo := ⟨poolList es last⟩
def fileOf (pool : Array CpInfo) (this : Nat) (attrs : Array Attribute := #[]) (ms : Array MethodInfo := #[]) (fl : Nat := 33) (sup : Nat := 0) (ifs : Array Nat := #[]) (fds : Array FieldInfo := #[]) : ClassFile where
  minorVersion := 0
  majorVersion := 65
  constantPool := pool
  accessFlags := fl
  thisClass := this
  superClass := sup
  interfaces := ifs
  fields := fds
  methods := ms
  attributes := attrs
def plain (name : String) (sup : Option ClassId) : Class where
  name := name
  kind := .ordinary
  loader := none
  accessFlags := 33
  super := sup
  interfaces := #[]
  cf := none
  fields := #[]
  methods := #[]
  instanceTypes := #[]
  staticTypes := #[]
  resolved := #[]
  callSites := []
  init := .initialized
  statics := none
  mirror := none

def pool0 : Array CpInfo := pool [(5, u "<init>"), (0, u "()V"), (1, .class_ 10), (1, u "java/lang/Object")] 113

def k0m0 : Method := { name := "<init>", desc := "()V", sig := { parameters := [], returnType := none }, accessFlags := 1, code := none }
/-- java/lang/Object -/
def k0 : Class := { plain "java/lang/Object" none with
  accessFlags := 33
  interfaces := #[]
  cf := some (fileOf pool0 8 #[] #[{ accessFlags := 1, nameIndex := 5, descriptorIndex := 6, attributes := #[] }] 33 0 #[] #[])
  fields := #[]
  methods := #[k0m0]
  instanceTypes := #[]
  staticTypes := #[]
  resolved := Array.replicate 124 none
  statics := none }

def pool1 : Array CpInfo := pool [(2, .class_ 4), (1, u "java/lang/Object"), (0, u "<init>"), (0, u "()V"), (0, .methodref 8 9), (0, .class_ 10), (0, .nameAndType 11 12), (0, u "com/example/xerith/xerith/VerdictAndPinLaw"), (0, u "pick"), (0, u "(I)Lcom/example/xerith/xerith/Constraint$Verdict;"), (0, .methodref 14 15), (0, .class_ 16), (0, .nameAndType 17 18), (0, u "com/example/xerith/xerith/Constraint$Verdict"), (0, u "and"), (0, u "(Lcom/example/xerith/xerith/Constraint$Verdict;)Lcom/example/xerith/xerith/Constraint$Verdict;"), (0, .methodref 8 20), (0, .nameAndType 21 22), (0, u "rank"), (0, u "(Lcom/example/xerith/xerith/Constraint$Verdict;)I"), (0, .methodref 24 25), (0, .class_ 26), (0, .nameAndType 27 28), (0, u "java/lang/Math"), (0, u "min"), (0, u "(II)I"), (0, .integer 2147483647), (0, .fieldref 14 31), (0, .nameAndType 32 33), (0, u "OUT"), (0, u "Lcom/example/xerith/xerith/Constraint$Verdict;"), (0, .fieldref 14 35), (0, .nameAndType 36 33), (0, u "UNKNOWN"), (0, .fieldref 14 38), (0, .nameAndType 39 33), (0, u "IN"), (2, u "law"), (0, u "(II)Z")] 7

def k1m0 : Method := { name := "<init>", desc := "()V", sig := { parameters := [], returnType := none }, accessFlags := 2, code := none }
def k1c1 : Code := { maxStack := 2, maxLocals := 6, code := code, exceptionTable := #[], attributes := #[] }
def k1m1 : Method := { name := "law", desc := "(II)Z", sig := { parameters := [.int, .int], returnType := some .boolean }, accessFlags := 9, code := some k1c1 }
def k1c2 : Code := { maxStack := 2, maxLocals := 3, code := method_3_code, exceptionTable := #[], attributes := #[] }
def k1m2 : Method := { name := "pick", desc := "(I)Lcom/example/xerith/xerith/Constraint$Verdict;", sig := { parameters := [.int], returnType := some (.object "com/example/xerith/xerith/Constraint$Verdict") }, accessFlags := 10, code := some k1c2 }
def k1c3 : Code := { maxStack := 2, maxLocals := 2, code := method_4_code, exceptionTable := #[], attributes := #[] }
def k1m3 : Method := { name := "rank", desc := "(Lcom/example/xerith/xerith/Constraint$Verdict;)I", sig := { parameters := [(.object "com/example/xerith/xerith/Constraint$Verdict")], returnType := some .int }, accessFlags := 10, code := some k1c3 }
/-- com/example/xerith/xerith/VerdictAndPinLaw -/
def k1 : Class := { plain "com/example/xerith/xerith/VerdictAndPinLaw" (some 0) with
  accessFlags := 49
  interfaces := #[]
  cf := some (fileOf pool1 8 #[] #[{ accessFlags := 2, nameIndex := 5, descriptorIndex := 6, attributes := #[] }, { accessFlags := 9, nameIndex := 42, descriptorIndex := 43, attributes := #[] }, { accessFlags := 10, nameIndex := 11, descriptorIndex := 12, attributes := #[] }, { accessFlags := 10, nameIndex := 21, descriptorIndex := 22, attributes := #[] }] 49 2 #[] #[])
  fields := #[]
  methods := #[k1m0, k1m1, k1m2, k1m3]
  instanceTypes := #[]
  staticTypes := #[]
  resolved := Array.replicate 51 none
  statics := none }

def pool2 : Array CpInfo := pool [(1, .class_ 2), (0, u "java/lang/constant/Constable"), (0, .class_ 4), (0, u "java/lang/Object")] 6

/-- java/lang/constant/Constable -/
def k2 : Class := { plain "java/lang/constant/Constable" (some 0) with
  accessFlags := 1537
  interfaces := #[]
  cf := some (fileOf pool2 1 #[] #[] 1537 3 #[] #[])
  fields := #[]
  methods := #[]
  instanceTypes := #[]
  staticTypes := #[]
  resolved := Array.replicate 11 none
  statics := none }

def pool3 : Array CpInfo := pool [(1, .class_ 2), (0, u "java/lang/Comparable"), (0, .class_ 4), (0, u "java/lang/Object")] 7

/-- java/lang/Comparable -/
def k3 : Class := { plain "java/lang/Comparable" (some 0) with
  accessFlags := 1537
  interfaces := #[]
  cf := some (fileOf pool3 1 #[] #[] 1537 3 #[] #[])
  fields := #[]
  methods := #[]
  instanceTypes := #[]
  staticTypes := #[]
  resolved := Array.replicate 12 none
  statics := none }

def pool4 : Array CpInfo := pool [(1, .class_ 2), (0, u "java/io/Serializable"), (0, .class_ 4), (0, u "java/lang/Object")] 2

/-- java/io/Serializable -/
def k4 : Class := { plain "java/io/Serializable" (some 0) with
  accessFlags := 1537
  interfaces := #[]
  cf := some (fileOf pool4 1 #[] #[] 1537 3 #[] #[])
  fields := #[]
  methods := #[]
  instanceTypes := #[]
  staticTypes := #[]
  resolved := Array.replicate 7 none
  statics := none }

def pool5 : Array CpInfo := pool [(2, .class_ 4), (1, u "java/lang/Enum"), (0, u "name"), (0, u "Ljava/lang/String;"), (2, u "ordinal"), (0, u "I"), (1, .class_ 14), (1, u "java/lang/Object"), (4, u "hash"), (86, .class_ 108), (1, u "java/lang/Enum$EnumDesc"), (2, .class_ 112), (0, u "java/lang/constant/Constable"), (0, .class_ 114), (0, u "java/lang/Comparable"), (0, .class_ 116), (0, u "java/io/Serializable")] 87

/-- java/lang/Enum -/
def k5 : Class := { plain "java/lang/Enum" (some 0) with
  accessFlags := 1057
  interfaces := #[2, 3, 4]
  cf := some (fileOf pool5 2 #[.nestMembers #[106]] #[] 1057 12 #[111, 113, 115] #[{ accessFlags := 18, nameIndex := 5, descriptorIndex := 6, attributes := #[] }, { accessFlags := 18, nameIndex := 9, descriptorIndex := 10, attributes := #[] }, { accessFlags := 2, nameIndex := 19, descriptorIndex := 10, attributes := #[] }])
  fields := #[{ name := "name", type := (.object "java/lang/String"), accessFlags := 18, slot := 0, constantValue := 0 }, { name := "ordinal", type := .int, accessFlags := 18, slot := 1, constantValue := 0 }, { name := "hash", type := .int, accessFlags := 2, slot := 2, constantValue := 0 }]
  methods := #[]
  instanceTypes := #[(.object "java/lang/String"), .int, .int]
  staticTypes := #[]
  resolved := Array.replicate 204 none
  statics := none }

def pool6 : Array CpInfo := pool [(1, .class_ 2), (0, u "com/example/xerith/xerith/Constraint$Verdict"), (0, .fieldref 1 4), (0, .nameAndType 5 6), (0, u "IN"), (0, u "Lcom/example/xerith/xerith/Constraint$Verdict;"), (0, .fieldref 1 8), (0, .nameAndType 9 6), (0, u "OUT"), (0, .fieldref 1 11), (0, .nameAndType 12 6), (0, u "UNKNOWN"), (2, u "$VALUES"), (0, u "[Lcom/example/xerith/xerith/Constraint$Verdict;"), (6, .class_ 25), (1, u "java/lang/Enum"), (12, u "and"), (0, u "(Lcom/example/xerith/xerith/Constraint$Verdict;)Lcom/example/xerith/xerith/Constraint$Verdict;"), (24, .class_ 65), (0, u "com/example/xerith/xerith/Constraint")] 2

def k6c0 : Code := { maxStack := 2, maxLocals := 3, code := prog_46_method_5_code, exceptionTable := #[], attributes := #[] }
def k6m0 : Method := { name := "and", desc := "(Lcom/example/xerith/xerith/Constraint$Verdict;)Lcom/example/xerith/xerith/Constraint$Verdict;", sig := { parameters := [(.object "com/example/xerith/xerith/Constraint$Verdict")], returnType := some (.object "com/example/xerith/xerith/Constraint$Verdict") }, accessFlags := 0, code := some k6c0 }
/-- com/example/xerith/xerith/Constraint$Verdict -/
def k6 : Class := { plain "com/example/xerith/xerith/Constraint$Verdict" (some 5) with
  accessFlags := 16432
  interfaces := #[]
  cf := some (fileOf pool6 1 #[.nestHost 64] #[{ accessFlags := 0, nameIndex := 38, descriptorIndex := 39, attributes := #[] }] 16432 23 #[] #[{ accessFlags := 16409, nameIndex := 5, descriptorIndex := 6, attributes := #[] }, { accessFlags := 16409, nameIndex := 9, descriptorIndex := 6, attributes := #[] }, { accessFlags := 16409, nameIndex := 12, descriptorIndex := 6, attributes := #[] }, { accessFlags := 4122, nameIndex := 15, descriptorIndex := 16, attributes := #[] }])
  fields := #[{ name := "IN", type := (.object "com/example/xerith/xerith/Constraint$Verdict"), accessFlags := 16409, slot := 0, constantValue := 0 }, { name := "OUT", type := (.object "com/example/xerith/xerith/Constraint$Verdict"), accessFlags := 16409, slot := 1, constantValue := 0 }, { name := "UNKNOWN", type := (.object "com/example/xerith/xerith/Constraint$Verdict"), accessFlags := 16409, slot := 2, constantValue := 0 }, { name := "$VALUES", type := (.array (.object "com/example/xerith/xerith/Constraint$Verdict")), accessFlags := 4122, slot := 3, constantValue := 0 }]
  methods := #[k6m0]
  instanceTypes := #[(.object "java/lang/String"), .int, .int]
  staticTypes := #[(.object "com/example/xerith/xerith/Constraint$Verdict"), (.object "com/example/xerith/xerith/Constraint$Verdict"), (.object "com/example/xerith/xerith/Constraint$Verdict"), (.array (.object "com/example/xerith/xerith/Constraint$Verdict"))]
  resolved := Array.replicate 68 none
  statics := some 0 }

def pool7 : Array CpInfo := pool [(1, .class_ 2), (0, u "java/lang/Math"), (1, .class_ 6), (1, u "java/lang/Object"), (0, u "<init>"), (0, u "()V"), (89, .class_ 100), (1, u "java/lang/Math$RandomNumberGeneratorHolder"), (71, u "negativeZeroFloatBits"), (0, u "J"), (2, u "negativeZeroDoubleBits"), (24, u "min"), (43, u "$assertionsDisabled"), (0, u "Z"), (88, u "(II)I"), (2, u "twoToTheDoubleScaleDown"), (0, u "D"), (4, u "twoToTheDoubleScaleUp"), (9, u "E"), (3, u "PI"), (2, u "TAU"), (2, u "DEGREES_TO_RADIANS"), (0, u "RADIANS_TO_DEGREES")] 94

def k7m0 : Method := { name := "<init>", desc := "()V", sig := { parameters := [], returnType := none }, accessFlags := 2, code := none }
def k7c1 : Code := { maxStack := 2, maxLocals := 2, code := jdk_29_method_69_code, exceptionTable := #[], attributes := #[] }
def k7m1 : Method := { name := "min", desc := "(II)I", sig := { parameters := [.int, .int], returnType := some .int }, accessFlags := 9, code := some k7c1 }
/-- java/lang/Math -/
def k7 : Class := { plain "java/lang/Math" (some 0) with
  accessFlags := 49
  interfaces := #[]
  cf := some (fileOf pool7 1 #[.nestMembers #[98]] #[{ accessFlags := 2, nameIndex := 7, descriptorIndex := 8, attributes := #[] }, { accessFlags := 9, nameIndex := 201, descriptorIndex := 335, attributes := #[] }] 49 4 #[] #[{ accessFlags := 25, nameIndex := 354, descriptorIndex := 339, attributes := #[] }, { accessFlags := 25, nameIndex := 358, descriptorIndex := 339, attributes := #[] }, { accessFlags := 25, nameIndex := 361, descriptorIndex := 339, attributes := #[] }, { accessFlags := 26, nameIndex := 364, descriptorIndex := 339, attributes := #[] }, { accessFlags := 26, nameIndex := 365, descriptorIndex := 339, attributes := #[] }, { accessFlags := 26, nameIndex := 172, descriptorIndex := 173, attributes := #[] }, { accessFlags := 26, nameIndex := 176, descriptorIndex := 173, attributes := #[] }, { accessFlags := 8, nameIndex := 344, descriptorIndex := 339, attributes := #[] }, { accessFlags := 8, nameIndex := 338, descriptorIndex := 339, attributes := #[] }, { accessFlags := 4120, nameIndex := 245, descriptorIndex := 246, attributes := #[] }])
  fields := #[{ name := "E", type := .double, accessFlags := 25, slot := 0, constantValue := 0 }, { name := "PI", type := .double, accessFlags := 25, slot := 1, constantValue := 0 }, { name := "TAU", type := .double, accessFlags := 25, slot := 2, constantValue := 0 }, { name := "DEGREES_TO_RADIANS", type := .double, accessFlags := 26, slot := 3, constantValue := 0 }, { name := "RADIANS_TO_DEGREES", type := .double, accessFlags := 26, slot := 4, constantValue := 0 }, { name := "negativeZeroFloatBits", type := .long, accessFlags := 26, slot := 5, constantValue := 0 }, { name := "negativeZeroDoubleBits", type := .long, accessFlags := 26, slot := 6, constantValue := 0 }, { name := "twoToTheDoubleScaleUp", type := .double, accessFlags := 8, slot := 7, constantValue := 0 }, { name := "twoToTheDoubleScaleDown", type := .double, accessFlags := 8, slot := 8, constantValue := 0 }, { name := "$assertionsDisabled", type := .boolean, accessFlags := 4120, slot := 9, constantValue := 0 }]
  methods := #[k7m0, k7m1]
  instanceTypes := #[]
  staticTypes := #[.double, .double, .double, .double, .double, .long, .long, .double, .double, .boolean]
  resolved := Array.replicate 460 none
  statics := none }

def pool8 : Array CpInfo := pool [(1, u "java/lang/Cloneable"), (0, .class_ 1), (0, u "java/lang/Object"), (0, .class_ 3)] 3

/-- java/lang/Cloneable -/
def k8 : Class := { plain "java/lang/Cloneable" (some 0) with
  accessFlags := 1537
  interfaces := #[]
  cf := some (fileOf pool8 2 #[] #[] 1537 4 #[] #[])
  fields := #[]
  methods := #[]
  instanceTypes := #[]
  staticTypes := #[]
  resolved := Array.replicate 8 none
  statics := none }

/-- the primitive byte -/
def k9 : Class := { plain "byte" none with kind := .primitive 'B', accessFlags := 0x411 }
/-- [B -/
def k10 : Class := { plain "[B" (some 0) with kind := .array 9 .byte, interfaces := #[8, 4], accessFlags := 1041 }

/-- the primitive int -/
def k11 : Class := { plain "int" none with kind := .primitive 'I', accessFlags := 0x411 }
/-- [I -/
def k12 : Class := { plain "[I" (some 0) with kind := .array 11 .int, interfaces := #[8, 4], accessFlags := 1041 }

def heap : Heap := #[{ cls := 6, slots := #[.ref 1, .ref 2, .ref 3, .null], vm := .statics 6 },
  { cls := 6, slots := #[.null, .int 0, .int 0], vm := .none },
  { cls := 6, slots := #[.null, .int 1, .int 0], vm := .none },
  { cls := 6, slots := #[.null, .int 2, .int 0], vm := .none }]
def classes : Array Class := #[k0, k1, k2, k3, k4, k5, k6, k7, k8, k9, k10, k11, k12]
def interned : List (Array UInt16 × Addr) := []
def slotsUsed : Nat := 13
def theMethod : MethodId := ⟨1, 1⟩
def args0 : Array Value := #[.int 5, .int 7]
def aboutOver (below : List Frame) : State where
  vm := { classes := classes, interned := interned.toArray }
  heap := heap
  slotsUsed := slotsUsed
  threads := #[{ frames := .invoking theMethod args0 :: below }]
def below0 : List Frame := [.native { method := ⟨0, 0⟩, args := #[] }]
def about1 : State := aboutOver below0
def p0 : Program := .bare "" "" ""
def e0 : Env := launch0.env 0 0 0
theorem w_frames : about1.frames = Frame.invoking theMethod args0 :: below0 := rfl
set_option maxRecDepth 65536 in
theorem w_args : argsFit about1.vm theMethod args0 = true := by decide +kernel
set_option maxRecDepth 65536 in
theorem w_heap : heapFits about1 = true := by decide +kernel
set_option maxRecDepth 65536 in
theorem w_runnable : about1.curStatus? = some .runnable := by decide +kernel
set_option maxRecDepth 65536 in
theorem w_alone : about1.alone = true := by decide +kernel
set_option maxRecDepth 65536 in
theorem w_named : about1.methodNamed? x = some theMethod := by decide +kernel
set_option maxRecDepth 65536 in
theorem w_hears : about1.hears theMethod below0 = true := by decide +kernel
set_option maxRecDepth 65536 in
theorem w_ripe : about1.ripe theMethod args0 below0 = true := by decide +kernel
theorem w_running : about1.status = .running := rfl
set_option maxRecDepth 65536 in
theorem w_room : about1.hasRoom e0.platform room_1 = true :=
  launch0.hasRoom_least _ room_1 (by decide +kernel) (by decide +kernel) (by decide +kernel) (by decide +kernel) (by decide +kernel) (by decide +kernel)
theorem allAtoms_all (ts : List Jvm.Cond) (a : Array Jvm.Value) (st : Jvm.State) : (allAtoms ts).before a st = ts.all (fun c => c.before a st) := by
  induction ts with
  | nil => rfl
  | cons c t ih =>
    show (Jvm.Cond.and c (allAtoms t)).before a st = _
    rw [Jvm.Cond.before_and, ih, List.all_cons]
def words1 : List Jvm.Cond := Jvm.Cond.code x code maxLocals ret :: tables_1
/-- a 'code' word, met by the world's own term for the bytes: nothing is compared byte by byte -/
theorem code_word {y : MethodName} {bytes : ByteArray} {mx : Nat} {rt : Option FieldType} {a : Array Value} {s : State} {m : MethodId} {meth : Method} {c : Code} (h1 : s.methodNamed? y = some m) (h2 : s.vm.method? m = some meth) (h3 : meth.code = some c) (h4 : c.code = bytes)
    (h5 : (c.maxLocals == mx && c.exceptionTable.isEmpty && decide (c.maxStack ≤ mostOperands) && decide (meth.sig.returnType = rt) && !meth.locks && decide (parseMethodDescriptor y.desc = some meth.sig)) = true) : (Jvm.Cond.code y bytes mx rt).before a s = true := by
  simp only [Bool.and_eq_true, beq_iff_eq, Bool.not_eq_true', decide_eq_true_eq] at h5
  obtain ⟨⟨⟨⟨⟨g1, g2⟩, g3⟩, g4⟩, g5⟩, g6⟩ := h5
  simp [Cond.before, Cond.holds, Cond.value, h1, h2, h3, h4, g1, g2, g3, g4, g5, g6]
def isCode : Jvm.Cond → Bool
  | .code _ _ _ _ => true
  | _ => false
theorem all_split {L : List Jvm.Cond} {P : Jvm.Cond → Bool} (h1 : L.all (fun c => isCode c || P c) = true) (h2 : ∀ c ∈ L.filter isCode, P c = true) : L.all P = true := by
  refine List.all_eq_true.mpr fun c hc => ?_
  have h := List.all_eq_true.mp h1 c hc
  rcases Bool.eq_false_or_eq_true (isCode c) with hi | hi
  · exact h2 c (List.mem_filter.mpr ⟨hc, hi⟩)
  · simpa [hi] using h
set_option maxRecDepth 65536 in
theorem w_c0 : (Jvm.Cond.code x code maxLocals ret).before args0 about1 = true := code_word (m := ⟨1, 1⟩) (meth := k1m1) (c := k1c1) (by decide +kernel) rfl rfl rfl (by decide +kernel)
set_option maxRecDepth 65536 in
theorem w_c1 : (Jvm.Cond.code ({ cls := "com/example/xerith/xerith/VerdictAndPinLaw", name := "pick", desc := "(I)Lcom/example/xerith/xerith/Constraint$Verdict;" } : Jvm.MethodName) method_3_code (3 : Nat) (Option.some (Jvm.ClassFile.FieldType.object "com/example/xerith/xerith/Constraint$Verdict"))).before args0 about1 = true := code_word (m := ⟨1, 2⟩) (meth := k1m2) (c := k1c2) (by decide +kernel) rfl rfl rfl (by decide +kernel)
set_option maxRecDepth 65536 in
theorem w_c2 : (Jvm.Cond.code ({ cls := "com/example/xerith/xerith/Constraint$Verdict", name := "and", desc := "(Lcom/example/xerith/xerith/Constraint$Verdict;)Lcom/example/xerith/xerith/Constraint$Verdict;" } : Jvm.MethodName) prog_46_method_5_code (3 : Nat) (Option.some (Jvm.ClassFile.FieldType.object "com/example/xerith/xerith/Constraint$Verdict"))).before args0 about1 = true := code_word (m := ⟨6, 0⟩) (meth := k6m0) (c := k6c0) (by decide +kernel) rfl rfl rfl (by decide +kernel)
set_option maxRecDepth 65536 in
theorem w_c3 : (Jvm.Cond.code ({ cls := "com/example/xerith/xerith/VerdictAndPinLaw", name := "rank", desc := "(Lcom/example/xerith/xerith/Constraint$Verdict;)I" } : Jvm.MethodName) method_4_code (2 : Nat) (Option.some Jvm.ClassFile.FieldType.int)).before args0 about1 = true := code_word (m := ⟨1, 3⟩) (meth := k1m3) (c := k1c3) (by decide +kernel) rfl rfl rfl (by decide +kernel)
set_option maxRecDepth 65536 in
theorem w_c4 : (Jvm.Cond.code ({ cls := "java/lang/Math", name := "min", desc := "(II)I" } : Jvm.MethodName) jdk_29_method_69_code (2 : Nat) (Option.some Jvm.ClassFile.FieldType.int)).before args0 about1 = true := code_word (m := ⟨7, 1⟩) (meth := k7m1) (c := k7c1) (by decide +kernel) rfl rfl rfl (by decide +kernel)
def codes1 : List Jvm.Cond := [Jvm.Cond.code x code maxLocals ret, Jvm.Cond.code ({ cls := "com/example/xerith/xerith/VerdictAndPinLaw", name := "pick", desc := "(I)Lcom/example/xerith/xerith/Constraint$Verdict;" } : Jvm.MethodName) method_3_code (3 : Nat) (Option.some (Jvm.ClassFile.FieldType.object "com/example/xerith/xerith/Constraint$Verdict")), Jvm.Cond.code ({ cls := "com/example/xerith/xerith/Constraint$Verdict", name := "and", desc := "(Lcom/example/xerith/xerith/Constraint$Verdict;)Lcom/example/xerith/xerith/Constraint$Verdict;" } : Jvm.MethodName) prog_46_method_5_code (3 : Nat) (Option.some (Jvm.ClassFile.FieldType.object "com/example/xerith/xerith/Constraint$Verdict")), Jvm.Cond.code ({ cls := "com/example/xerith/xerith/VerdictAndPinLaw", name := "rank", desc := "(Lcom/example/xerith/xerith/Constraint$Verdict;)I" } : Jvm.MethodName) method_4_code (2 : Nat) (Option.some Jvm.ClassFile.FieldType.int), Jvm.Cond.code ({ cls := "java/lang/Math", name := "min", desc := "(II)I" } : Jvm.MethodName) jdk_29_method_69_code (2 : Nat) (Option.some Jvm.ClassFile.FieldType.int)]
set_option maxRecDepth 65536 in
theorem codes_eq : words1.filter isCode = codes1 := rfl
theorem w_codes : ∀ c ∈ words1.filter isCode, c.before args0 about1 = true := by
  rw [codes_eq]
  intro c hc
  simp only [codes1, List.mem_cons, List.not_mem_nil, or_false] at hc
  rcases hc with rfl | rfl | rfl | rfl | rfl
  · exact w_c0
  · exact w_c1
  · exact w_c2
  · exact w_c3
  · exact w_c4
set_option maxRecDepth 65536 in
theorem w_t1 : (words1.take 24).all (fun c => isCode c || c.before args0 about1) = true := by decide +kernel
set_option maxRecDepth 65536 in
theorem w_t2 : (words1.drop 24).all (fun c => isCode c || c.before args0 about1) = true := by decide +kernel
theorem w_tables : (allAtoms (Jvm.Cond.code x code maxLocals ret :: tables_1)).before args0 about1 = true := by
  rw [allAtoms_all]
  show words1.all (fun c => c.before args0 about1) = true
  refine all_split ?_ w_codes
  rw [← List.take_append_drop 24 words1, List.all_append, w_t1, w_t2]
  rfl
set_option maxRecDepth 65536 in
theorem w_case : (Jvm.Cond.and given_1 narrow_1).before args0 about1 = true := by decide +kernel
theorem w_applies : (headSpec (Jvm.Cond.code x code maxLocals ret :: tables_1) room_1).applies x e0.platform about1 = true :=
  (Spec.applies_iff w_frames).mpr ⟨w_running, w_runnable, w_alone, w_named, w_hears, w_ripe, w_room, w_tables⟩
theorem atStart : AtStart classFile x code maxLocals ret World_1 tables_1 room_1 Calls_1 rest_1 Pre_1 launch0 p0 e0 about1 theMethod args0 below0 :=
  ⟨lists_1, trivial, launch0.admits_env _ _ _, launch0.least_env, fairChoices_fair.cas, fairChoices_fair.clock, w_frames, w_args, w_heap, w_applies, trivial, trivial, w_case⟩
end start1
theorem witness_1 : WitnessClaimed_1 := ⟨start1.p0, start1.e0, start1.about1, start1.theMethod, start1.args0, start1.below0, start1.atStart⟩
end Jvm.Pilot.@@N@@
