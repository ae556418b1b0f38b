import JvmDerived
import JvmDerived.Pilot.@@N@@Statement
import JvmDerived.Pilot.@@N@@Code
set_option linter.unusedVariables false
set_option linter.unusedSimpArgs false
namespace Jvm.Pilot.@@N@@
open Jvm Jvm.ClassFile Sem Op Lib Jvm.Free Jvm.Stand Jvm.LawKit Jvm.RoadKit Bundle Jvm.Pilot.@@N@@.Jvm.D
/-! own prelude: 'own_Goes' says that from state T with top frame g the invocation comes to its end with what Q says -/
section OwnPrelude
variable {p : Program} {l : Launch} {e : Env} {R : Room} {s : State} {m : MethodId} {args : Array Value} {below : List Frame} {meth : Method} {c : Code} {T T' : State} {locs : List Loc} {cells slots : Nat} {Z : State} {a0 : Array Value} {h : Heap} {kc ks : Nat} {Q : Option Value → Heap → List Loc → Prop} {g g' : JFrame}
def own_Goes (p : Program) (e : Env) (below : List Frame) (s : State) (kc ks : Nat) (Q : Option Value → Heap → List Loc → Prop) (T : State) (g : JFrame) : Prop :=
  ∃ t o, Steps p.tables e below (T.setTop g) t ∧ t.status = .running ∧ Ended t below o ∧ ∃ v L, o = .returned v ∧ Q v t.heap L ∧ FrameEnd s o t L kc ks
abbrev own_Ctr (l : Launch) (Z : State) (y : MethodName) (bytes : ByteArray) (maxL : Nat) (ret : Option FieldType) (ws : List Jvm.Cond) (rm : Room) (kc ks : Nat) (as' : Array Value) (h : Heap) (Q : Option Value → Heap → List Loc → Prop) : Prop :=
  MetFree l y (head1 (Jvm.Cond.code y bytes maxL ret :: ws) rm) (fun a U => a = as' ∧ Z.Warmed39 U.vm ∧ U.heap = h) (fun _ _ _ _ _ => True) (fun _ U o U' => ∃ v L, o = .returned v ∧ Q v U'.heap L ∧ FrameEnd U o U' L kc ks)
theorem own_by (st : ∀ t, Steps p.tables e below (T'.setTop g') t → Steps p.tables e below (T.setTop g) t) (k : own_Goes p e below s kc ks Q T' g') : own_Goes p e below s kc ks Q T g := by
  obtain ⟨t, o, h1, r⟩ := k; exact ⟨t, o, st t h1, r⟩
theorem own_cast (q : g = g') (k : own_Goes p e below s kc ks Q T g') : own_Goes p e below s kc ks Q T g := q ▸ k
theorem own_enter {y : MethodName} {bytes : ByteArray} {maxL : Nat} {ret : Option FieldType} {ws : List Jvm.Cond} {rm : Room} {as' : Array Value} (hpl : plainFor y = true)
    (k : ∀ p e s m below meth c s₁, Stand p l e rm s m as' below meth c s₁ [] 0 0 → p.tables.exec = Jvm.exec → Z.Warmed39 s.vm → c.code = bytes → c.maxLocals = maxL → s.vm.findClass y.cls = some m.cls → meth.name = y.name → meth.locks = false → meth.sig.returnType = ret → s₁.heap = h → own_Goes p e below s kc ks Q s₁ (entryFrame m as' maxL)) :
    own_Ctr l Z y bytes maxL ret ws rm kc ks as' h Q := by
  refine MetFree.of_bodySF hpl hisR ?_
  intro p e s m args below meth c s₁ Bd hml0 hP hK
  obtain ⟨rfl, hZ, hh⟩ := hP
  exact k p e s m below meth c s₁ (Stand.of_body Bd) Bd.exec hZ Bd.bytes hml0 (findClass_of_methodNamed Bd.named) (name_of_methodNamed Bd.named Bd.method).1 Bd.notSynchronized Bd.returns (by rw [← hh, Bd.state]; rfl)
theorem own_mono (X : Stand p l e R s m args below meth c T locs cells slots) {c' n' : Nat} (h1 : cells ≤ c') (h2 : slots ≤ n') : Stand p l e R s m args below meth c T locs c' n' :=
  { X with same := X.same.mono h1 h2 }
theorem own_out (X : Stand p l e R s m args below meth c T locs cells slots) (hlk : meth.locks = false) {v : Option Value} (hv : meth.sig.returnType = none → v = none)
    (st : ∀ fs, (∀ (f : JFrame) (acts : List Action), f.method = m → f.locked = none → f.entered = [] → (doReturn e (T.setTop f) acts v).1 = T.setFrames fs) → Steps p.tables e below (T.setTop g) (T.setFrames fs))
    (hc : cells ≤ kc) (hs : slots ≤ ks) (hQ : Q v T.heap locs) : own_Goes p e below s kc ks Q T g := by
  obtain ⟨fs, hr, hrun, hended, hW, hsame⟩ := X.leave (v := v) hv hlk
  exact ⟨_, _, st fs hr, hrun, hended, v, locs, rfl, hQ, ⟨_, rfl⟩, hW, hsame.mono hc hs⟩
theorem own_ret {w : Value} {t : FieldType} {i : Instr} {pc : Nat} {Ls : Array Slot} {rest : List Value} (X : Stand p l e R s m args below meth c T locs cells slots) (hx : p.tables.exec = Jvm.exec) (hlk : meth.locks = false) (hret : meth.sig.returnType = some t) (hn : narrow t w = w)
    (hi : (i = .ireturn ∧ (t = .int ∨ t = .boolean ∨ t = .byte ∨ t = .char ∨ t = .short) ∧ ∃ z, w = .int z) ∨ (i = .lreturn ∧ t = .long ∧ ∃ z, w = .long z) ∨ (i = .dreturn ∧ t = .double ∧ ∃ z, w = .double z) ∨ (i = .freturn ∧ t = .float ∧ ∃ z, w = .float z) ∨ (i = .areturn ∧ t.isReference = true ∧ w.isRef = true))
    (hd : decode c.code pc = .ok (i, 1)) (hc : cells ≤ kc) (hs : slots ≤ ks) (hQ : Q (some w) T.heap locs) : own_Goes p e below s kc ks Q T (mkF m pc Ls (w :: rest)) :=
  own_out X hlk (fun h => by rw [hret] at h; cases h) (fun fs hr => retOut X hx hret hn hi hd hr) hc hs hQ
theorem own_retI {z : Int32} {pc : Nat} {Ls : Array Slot} {rest : List Value} (X : Stand p l e R s m args below meth c T locs cells slots) (hx : p.tables.exec = Jvm.exec) (hlk : meth.locks = false) (hret : meth.sig.returnType = some .int)
    (hd : decode c.code pc = .ok (.ireturn, 1)) (hc : cells ≤ kc) (hs : slots ≤ ks) (hQ : Q (some (.int z)) T.heap locs) : own_Goes p e below s kc ks Q T (mkF m pc Ls (.int z :: rest)) :=
  own_ret X hx hlk hret rfl (Or.inl ⟨rfl, Or.inl rfl, z, rfl⟩) hd hc hs hQ
theorem own_retJ {z : Int64} {pc : Nat} {Ls : Array Slot} {rest : List Value} (X : Stand p l e R s m args below meth c T locs cells slots) (hx : p.tables.exec = Jvm.exec) (hlk : meth.locks = false) (hret : meth.sig.returnType = some .long)
    (hd : decode c.code pc = .ok (.lreturn, 1)) (hc : cells ≤ kc) (hs : slots ≤ ks) (hQ : Q (some (.long z)) T.heap locs) : own_Goes p e below s kc ks Q T (mkF m pc Ls (.long z :: rest)) :=
  own_ret X hx hlk hret rfl (Or.inr (Or.inl ⟨rfl, rfl, z, rfl⟩)) hd hc hs hQ
theorem own_retD {z : UInt64} {pc : Nat} {Ls : Array Slot} {rest : List Value} (X : Stand p l e R s m args below meth c T locs cells slots) (hx : p.tables.exec = Jvm.exec) (hlk : meth.locks = false) (hret : meth.sig.returnType = some .double)
    (hd : decode c.code pc = .ok (.dreturn, 1)) (hc : cells ≤ kc) (hs : slots ≤ ks) (hQ : Q (some (.double z)) T.heap locs) : own_Goes p e below s kc ks Q T (mkF m pc Ls (.double z :: rest)) :=
  own_ret X hx hlk hret rfl (Or.inr (Or.inr (Or.inl ⟨rfl, rfl, z, rfl⟩))) hd hc hs hQ
theorem own_fitR {t : FieldType} {w : Value} (ht : t.isReference = true) (hw : w.isRef = true) : fits t w = true := by cases t <;> simp [FieldType.isReference] at ht <;> rcases ref_cases hw with rfl | ⟨a, rfl⟩ <;> rfl
theorem own_cat1 {w : Value} (hw : w.isRef = true) : w.category = 1 := by rcases ref_cases hw with rfl | ⟨a, rfl⟩ <;> rfl
theorem own_stG {ls l' : Array Slot} {i : Nat} {v : Value} {o : Slot} (hold : ls[i]? = some o) (ho : o = .unset ∨ ∃ w, o = .val w ∧ w.category = 1) (hv : v.category = 1) (q : ls.setIfInBounds i (.val v) = l') : storeLocals ls i v = some l' := q ▸ XS.store1 hold ho hv
theorem own_narR {t : FieldType} {w : Value} (ht : t.isReference = true) : narrow t w = w := by cases t <;> simp [FieldType.isReference] at ht <;> cases w <;> rfl
theorem own_retA {w : Value} {t : FieldType} {pc : Nat} {Ls : Array Slot} {rest : List Value} (X : Stand p l e R s m args below meth c T locs cells slots) (hx : p.tables.exec = Jvm.exec) (hlk : meth.locks = false) (hret : meth.sig.returnType = some t) (ht : t.isReference = true) (hw : w.isRef = true)
    (hd : decode c.code pc = .ok (.areturn, 1)) (hc : cells ≤ kc) (hs : slots ≤ ks) (hQ : Q (some w) T.heap locs) : own_Goes p e below s kc ks Q T (mkF m pc Ls (w :: rest)) :=
  own_ret X hx hlk hret (own_narR ht) (Or.inr (Or.inr (Or.inr (Or.inr ⟨rfl, ht, hw⟩)))) hd hc hs hQ
theorem own_retN {z : Int32} {t : FieldType} {pc : Nat} {Ls : Array Slot} {rest : List Value} (X : Stand p l e R s m args below meth c T locs cells slots) (hx : p.tables.exec = Jvm.exec) (hlk : meth.locks = false) (hret : meth.sig.returnType = some t) (ht : t = .boolean ∨ t = .byte ∨ t = .char ∨ t = .short)
    (hd : decode c.code pc = .ok (.ireturn, 1)) (hc : cells ≤ kc) (hs : slots ≤ ks) (hQ : Q (some (.int (nar t z))) T.heap locs) : own_Goes p e below s kc ks Q T (mkF m pc Ls (.int z :: rest)) :=
  own_out X hlk (fun h => by rw [hret] at h; cases h) (fun fs hr => retN X hx hret ht hd hr) hc hs hQ
theorem own_retV {pc : Nat} {Ls : Array Slot} (X : Stand p l e R s m args below meth c T locs cells slots) (hx : p.tables.exec = Jvm.exec) (hlk : meth.locks = false) (hret : meth.sig.returnType = none)
    (hd : decode c.code pc = .ok (.return_, 1)) (hc : cells ≤ kc) (hs : slots ≤ ks) (hQ : Q none T.heap locs) : own_Goes p e below s kc ks Q T (mkF m pc Ls []) :=
  own_out X hlk (fun _ => rfl) (fun fs hr => X.returnOut hx hret hd hr) hc hs hQ
/-- an array of that type and length, whatever it holds -/
def own_Arz (Z : State) (h : Heap) (a : Addr) (ty : FieldType) (z : Int32) : Prop := ∃ c : Cell, Arr Z h a c ty ∧ c.slots.size = z.toNatClampNeg ∧ ¬ z < 0
theorem own_Arz.of {a : Addr} {k : ClassId} {ty : FieldType} {z : Int32} {vs : List Value} {dv : Value} (F : Arv Z h a k ty z vs dv) : own_Arz Z h a ty z := by obtain ⟨c, A, -, S, q, -⟩ := F; exact ⟨c, A, S, q⟩
theorem own_Arz.lt {a : Addr} {ty : FieldType} {z : Int32} (F : own_Arz Z h a ty z) : a < h.size := by obtain ⟨c, A, -⟩ := F; exact A.lt
theorem own_Arz.ext {h' : Heap} {a : Addr} {ty : FieldType} {z : Int32} (F : own_Arz Z h a ty z) (E : Ext h h') : own_Arz Z h' a ty z := by obtain ⟨c, A, r⟩ := F; exact ⟨c, A.ext E, r⟩
theorem own_Arz.other {h' : Heap} {a b : Addr} {ty : FieldType} {z : Int32} {sl : Nat} {v : Value} (F : own_Arz Z h b ty z) (W : Wr h h' a sl v) (q : b ≠ a) : own_Arz Z h' b ty z := by obtain ⟨c, A, r⟩ := F; exact ⟨c, A.other W q, r⟩
theorem own_Arz.same {h' : Heap} {a : Addr} {ty : FieldType} {z : Int32} {sl : Nat} {v : Value} (F : own_Arz Z h a ty z) (W : Wr h h' a sl v) : own_Arz Z h' a ty z := by obtain ⟨c, A, r1, r2⟩ := F; exact ⟨_, A.same W, by rw [sz_set]; exact r1, r2⟩
theorem own_Arz.keep {h' : Heap} {a : Addr} {ty : FieldType} {z : Int32} {ws : List Addr} (F : own_Arz Z h a ty z) (K : Keep h h' ws) (q : a ∉ ws) : own_Arz Z h' a ty z := by obtain ⟨c, A, r⟩ := F; exact ⟨c, ⟨K.2.1 a c A.1 q, A.2⟩, r⟩
section OwnCalls
variable {own : String} {index : Nat} {y z : MethodName} {bytes : ByteArray} {maxL : Nat} {ret : Option FieldType} {rm : Room} {Q' : Option Value → Heap → List Loc → Prop} {argsL rest : List Value}
theorem own_callS (X : Stand p l e R s m args below meth c T locs cells slots) (hx : p.tables.exec = Jvm.exec) (hZ : Z.Warmed39 s.vm) (hown : s.vm.findClass own = some m.cls)
    (w1 : (Cond.methodLink own index y).before a0 Z = true) (w2 : (Cond.static y).before a0 Z = true) (w3 : (Cond.initialized y.cls).before a0 Z = true) (w4 : (Cond.code y bytes maxL ret).before a0 Z = true)
    (hy : y.cls ≠ "java/lang/invoke/MethodHandle" ∧ y.cls ≠ "java/lang/invoke/VarHandle") (hM : own_Ctr l Z y bytes maxL ret [] rm rm.cells rm.slots argsL.toArray h Q') (W : Nat)
    (hf : rm.frames + 1 ≤ R.frames) (hl : W + (maxL + 11) + rm.locals ≤ R.locals) (hc : cells + rm.cells ≤ R.cells) (hs : slots + rm.slots ≤ R.slots) (eT : T.heap = h)
    (hg : g.method = m) (hsize : g.locals.size = c.maxLocals) (hlen : ∀ sig, parseMethodDescriptor y.desc = some sig → argsL.length = sig.parameters.length) (hstack : g.stack = argsL.reverse ++ rest)
    (hW : 2 * g.monitorRoom + (rest.map fun v => v.category).sum ≤ W) (hd : decode c.code g.pc = .ok (.invokestatic index, 3))
    (k : ∀ v T' L, Stand p l e R s m args below meth c T' (locs ++ L) (cells + rm.cells) (slots + rm.slots) → Q' v T'.heap L → own_Goes p e below s kc ks Q T' { g with pc := g.pc + 3, stack := v.toList ++ rest }) : own_Goes p e below s kc ks Q T g := by
  obtain ⟨v, _, ⟨T', L', k', n'⟩, -, X', ⟨Lc, hQ, l1, y1, z1⟩, st⟩ := Jvm.LawKit.callS X hx hown (mvT hZ w1) (mvT hZ w2) (mvT hZ w3) (mvT hZ w4) hy (backOf (W := W) hM hZ w4 w3 hf hl) hg hsize hlen hstack hW hd (fun _ _ => ⟨rfl, eT, hc, hs⟩)
  dsimp only [Pt.U, Pt.locs, Pt.cells, Pt.slots] at X' l1 y1 z1 st hQ
  subst l1 y1 z1
  exact own_by st (k v T' Lc X' hQ)
theorem own_callI (X : Stand p l e R s m args below meth c T locs cells slots) (hx : p.tables.exec = Jvm.exec) (hZ : Z.Warmed39 s.vm) (hown : s.vm.findClass own = some m.cls) (hy1 : y.name = "<init>")
    (w1 : (Cond.methodLink own index y).before a0 Z = true) (w2 : (Cond.instanceMethod y).before a0 Z = true) (w3 : (Cond.initialized y.cls).before a0 Z = true) (w4 : (Cond.code y bytes maxL none).before a0 Z = true)
    (hy : y.cls ≠ "java/lang/invoke/MethodHandle" ∧ y.cls ≠ "java/lang/invoke/VarHandle") {a : Addr} (hM : own_Ctr l Z y bytes maxL none [] rm rm.cells rm.slots (.ref a :: argsL).toArray h Q') (W : Nat)
    (hf : rm.frames + 1 ≤ R.frames) (hl : W + (maxL + 11) + rm.locals ≤ R.locals) (hc : cells + rm.cells ≤ R.cells) (hs : slots + rm.slots ≤ R.slots) (eT : T.heap = h)
    (hg : g.method = m) (hsize : g.locals.size = c.maxLocals) (hlen : ∀ sig, parseMethodDescriptor y.desc = some sig → argsL.length = sig.parameters.length) (hstack : g.stack = argsL.reverse ++ .ref a :: rest)
    (hW : 2 * g.monitorRoom + (rest.map fun v => v.category).sum ≤ W) (hd : decode c.code g.pc = .ok (.invokespecial index, 3))
    (k : ∀ v T' L, Stand p l e R s m args below meth c T' (locs ++ L) (cells + rm.cells) (slots + rm.slots) → Q' v T'.heap L → own_Goes p e below s kc ks Q T' { g with pc := g.pc + 3, stack := v.toList ++ rest }) : own_Goes p e below s kc ks Q T g := by
  obtain ⟨v, _, ⟨T', L', k', n'⟩, -, X', ⟨Lc, hQ, l1, y1, z1⟩, st⟩ := X.specialBack hx hy1 hown (mvT hZ w1) (mvT hZ w2) (mvT hZ w4) hy (backOf (W := W) hM hZ w4 w3 hf hl) hg hsize (Steps.refl _) hlen hstack hW hd (fun _ _ => ⟨rfl, eT, hc, hs⟩)
  dsimp only [Pt.U, Pt.locs, Pt.cells, Pt.slots] at X' l1 y1 z1 st hQ
  subst l1 y1 z1
  exact own_by (fun t kt => st.trans kt) (k v T' Lc X' hQ)
theorem own_callIN {host : String} (X : Stand p l e R s m args below meth c T locs cells slots) (hx : p.tables.exec = Jvm.exec) (hZ : Z.Warmed39 s.vm) (hown : s.vm.findClass own = some m.cls) (hy1 : y.name = "<init>")
    (w1 : (Cond.methodLinkNest own index y host).before a0 Z = true) (w2 : (Cond.instanceMethod y).before a0 Z = true) (w3 : (Cond.initialized y.cls).before a0 Z = true) (w4 : (Cond.code y bytes maxL none).before a0 Z = true)
    (hy : y.cls ≠ "java/lang/invoke/MethodHandle" ∧ y.cls ≠ "java/lang/invoke/VarHandle") {a : Addr} (hM : own_Ctr l Z y bytes maxL none [] rm rm.cells rm.slots (.ref a :: argsL).toArray h Q') (W : Nat)
    (hf : rm.frames + 1 ≤ R.frames) (hl : W + (maxL + 11) + rm.locals ≤ R.locals) (hc : cells + rm.cells ≤ R.cells) (hs : slots + rm.slots ≤ R.slots) (eT : T.heap = h)
    (hg : g.method = m) (hsize : g.locals.size = c.maxLocals) (hlen : ∀ sig, parseMethodDescriptor y.desc = some sig → argsL.length = sig.parameters.length) (hstack : g.stack = argsL.reverse ++ .ref a :: rest)
    (hW : 2 * g.monitorRoom + (rest.map fun v => v.category).sum ≤ W) (hd : decode c.code g.pc = .ok (.invokespecial index, 3))
    (k : ∀ v T' L, Stand p l e R s m args below meth c T' (locs ++ L) (cells + rm.cells) (slots + rm.slots) → Q' v T'.heap L → own_Goes p e below s kc ks Q T' { g with pc := g.pc + 3, stack := v.toList ++ rest }) : own_Goes p e below s kc ks Q T g := by
  obtain ⟨v, _, ⟨T', L', k', n'⟩, -, X', ⟨Lc, hQ, l1, y1, z1⟩, st⟩ := X.specialBackNest hx hy1 hown (Cond.methodLinkNest_wide hZ w1 :) (mvT hZ w2) (mvT hZ w4) hy (backOf (W := W) hM hZ w4 w3 hf hl) hg hsize (Steps.refl _) hlen hstack hW hd (fun _ _ => ⟨rfl, eT, hc, hs⟩)
  dsimp only [Pt.U, Pt.locs, Pt.cells, Pt.slots] at X' l1 y1 z1 st hQ
  subst l1 y1 z1
  exact own_by (fun t kt => st.trans kt) (k v T' Lc X' hQ)
theorem own_callV {C : String} (X : Stand p l e R s m args below meth c T locs cells slots) (hx : p.tables.exec = Jvm.exec) (hZ : Z.Warmed39 s.vm) (hown : s.vm.findClass own = some m.cls)
    (w1 : (Cond.methodLink own index y).before a0 Z = true) (w2 : (Cond.declares y).before a0 Z = true) (hnf : NotFace s y) (w3 : (Cond.selects C y z).before a0 Z = true) (w4 : (Cond.instanceMethod z).before a0 Z = true) (w5 : (Cond.code z bytes maxL ret).before a0 Z = true) (w6 : (Cond.initialized z.cls).before a0 Z = true)
    (hy : y.cls ≠ "java/lang/invoke/MethodHandle" ∧ y.cls ≠ "java/lang/invoke/VarHandle") {a : Addr} (E : Exa Z h a C) (hM : own_Ctr l Z z bytes maxL ret [] rm rm.cells rm.slots (.ref a :: argsL).toArray h Q') (W : Nat)
    (hf : rm.frames + 1 ≤ R.frames) (hl : W + (maxL + 11) + rm.locals ≤ R.locals) (hc : cells + rm.cells ≤ R.cells) (hs : slots + rm.slots ≤ R.slots) (eT : T.heap = h)
    (hg : g.method = m) (hsize : g.locals.size = c.maxLocals) (hlen : ∀ sig, parseMethodDescriptor y.desc = some sig → argsL.length = sig.parameters.length) (hstack : g.stack = argsL.reverse ++ .ref a :: rest)
    (hW : 2 * g.monitorRoom + (rest.map fun v => v.category).sum ≤ W) (hd : decode c.code g.pc = .ok (.invokevirtual index, 3))
    (k : ∀ v T' L, Stand p l e R s m args below meth c T' (locs ++ L) (cells + rm.cells) (slots + rm.slots) → Q' v T'.heap L → own_Goes p e below s kc ks Q T' { g with pc := g.pc + 3, stack := v.toList ++ rest }) : own_Goes p e below s kc ks Q T g := by
  obtain ⟨cq, kq, qa, qb, qc⟩ := isOf hZ eT E
  obtain ⟨v, _, ⟨T', L', k', n'⟩, -, X', ⟨Lc, hQ, l1, y1, z1⟩, st⟩ := X.virtualBack hx hown (mvT hZ w1) (mvT hZ w2) hnf (mvT hZ w3) (mvT hZ w4) hy (backOf (W := W) hM hZ w5 w6 hf hl) qa qc hg hsize (Steps.refl _) hlen hstack hW hd (fun _ _ => ⟨rfl, eT, hc, hs⟩)
  dsimp only [Pt.U, Pt.locs, Pt.cells, Pt.slots] at X' l1 y1 z1 st hQ
  subst l1 y1 z1
  exact own_by (fun t kt => st.trans kt) (k v T' Lc X' hQ)
theorem own_callP (X : Stand p l e R s m args below meth c T locs cells slots) (hx : p.tables.exec = Jvm.exec) (hZ : Z.Warmed39 s.vm) (hown : s.vm.findClass own = some m.cls)
    (w1 : (Cond.methodLink own index y).before a0 Z = true) (w2 : (Cond.instanceMethod y).before a0 Z = true) (w3 : (Cond.selects y.cls y y).before a0 Z = true) (w4 : (Cond.privateMethod y).before a0 Z = true) (w5 : (Cond.code y bytes maxL ret).before a0 Z = true) (w6 : (Cond.initialized y.cls).before a0 Z = true)
    (hy : y.cls ≠ "java/lang/invoke/MethodHandle" ∧ y.cls ≠ "java/lang/invoke/VarHandle") {a : Addr} {C : String} (E : Exa Z h a C) (hM : own_Ctr l Z y bytes maxL ret [] rm rm.cells rm.slots (.ref a :: argsL).toArray h Q') (W : Nat)
    (hf : rm.frames + 1 ≤ R.frames) (hl : W + (maxL + 11) + rm.locals ≤ R.locals) (hc : cells + rm.cells ≤ R.cells) (hs : slots + rm.slots ≤ R.slots) (eT : T.heap = h)
    (hg : g.method = m) (hsize : g.locals.size = c.maxLocals) (hlen : ∀ sig, parseMethodDescriptor y.desc = some sig → argsL.length = sig.parameters.length) (hstack : g.stack = argsL.reverse ++ .ref a :: rest)
    (hW : 2 * g.monitorRoom + (rest.map fun v => v.category).sum ≤ W) (hd : decode c.code g.pc = .ok (.invokevirtual index, 3))
    (k : ∀ v T' L, Stand p l e R s m args below meth c T' (locs ++ L) (cells + rm.cells) (slots + rm.slots) → Q' v T'.heap L → own_Goes p e below s kc ks Q T' { g with pc := g.pc + 3, stack := v.toList ++ rest }) : own_Goes p e below s kc ks Q T g := by
  obtain ⟨cq, q1, q2⟩ := E.cell
  obtain ⟨v, _, ⟨T', L', k', n'⟩, -, X', ⟨Lc, hQ, l1, y1, z1⟩, st⟩ := X.privateBack hx hown (mvT hZ w1) (mvT hZ w2) (mvT hZ w3) (Cond.privateMethod_at (mvP hZ w4 (args := #[]))) (mvT hZ w5) hy (backOf (W := W) hM hZ w5 w6 hf hl) hg hsize (Steps.refl _) (a := a) (by rw [eT]; exact q1) q2 hlen hstack hW hd (fun _ _ => ⟨rfl, eT, hc, hs⟩)
  dsimp only [Pt.U, Pt.locs, Pt.cells, Pt.slots] at X' l1 y1 z1 st hQ
  subst l1 y1 z1
  exact own_by (fun t kt => st.trans kt) (k v T' Lc X' hQ)
theorem own_callF {C : String} {count : Nat} (X : Stand p l e R s m args below meth c T locs cells slots) (hx : p.tables.exec = Jvm.exec) (hZ : Z.Warmed39 s.vm) (hown : s.vm.findClass own = some m.cls)
    (w1 : (Cond.methodLink own index y).before a0 Z = true) (w2 : (Cond.declares y).before a0 Z = true) (w2f : (Cond.interfaceMethod y.cls y.cls y.name y.desc).before a0 Z = true) (w3 : (Cond.selects C y z).before a0 Z = true) (w4 : (Cond.instanceMethod z).before a0 Z = true)
    (wp : (Cond.publicMethod z).before a0 Z = true) (wu : (Cond.unhidden C y.name y.desc).before a0 Z = true) (wk : (Cond.castable C y.cls).before a0 Z = true) (w5 : (Cond.code z bytes maxL ret).before a0 Z = true) (w6 : (Cond.initialized z.cls).before a0 Z = true)
    (hy : y.cls ≠ "java/lang/invoke/MethodHandle" ∧ y.cls ≠ "java/lang/invoke/VarHandle") {a : Addr} (E : Exa Z h a C) (hM : own_Ctr l Z z bytes maxL ret [] rm rm.cells rm.slots (.ref a :: argsL).toArray h Q') (W : Nat)
    (hf : rm.frames + 1 ≤ R.frames) (hl : W + (maxL + 11) + rm.locals ≤ R.locals) (hc : cells + rm.cells ≤ R.cells) (hs : slots + rm.slots ≤ R.slots) (eT : T.heap = h)
    (hg : g.method = m) (hsize : g.locals.size = c.maxLocals) (hlen : ∀ sig, parseMethodDescriptor y.desc = some sig → argsL.length = sig.parameters.length) (hstack : g.stack = argsL.reverse ++ .ref a :: rest)
    (hW : 2 * g.monitorRoom + (rest.map fun v => v.category).sum ≤ W) (hd : decode c.code g.pc = .ok (.invokeinterface index count, 5))
    (k : ∀ v T' L, Stand p l e R s m args below meth c T' (locs ++ L) (cells + rm.cells) (slots + rm.slots) → Q' v T'.heap L → own_Goes p e below s kc ks Q T' { g with pc := g.pc + 5, stack := v.toList ++ rest }) : own_Goes p e below s kc ks Q T g := by
  obtain ⟨cq, kq, qa, qb, qc⟩ := isOf hZ eT E
  have hface : ((Cond.interfaceMethod y.cls y.cls y.name y.desc).onTables && (Cond.interfaceMethod y.cls y.cls y.name y.desc).keepsFace) = true := by simp [Cond.onTables, Cond.keepsFace, Cond.keeps, Cond.steady, Cond.faceAtom, hy.1, hy.2]
  obtain ⟨v, _, ⟨T', L', k', n'⟩, -, X', ⟨Lc, hQ, l1, y1, z1⟩, st⟩ := X.interfaceBack hx hown (mvT hZ w1) (mvT hZ w2) (mvT hZ w2f hface) (mvT hZ w3) (mvT hZ w4) (mvT hZ wp) (mvT hZ wu) (mvT hZ wk) hy (backOf (W := W) hM hZ w5 w6 hf hl) qa qb qc hg hsize (Steps.refl _) hlen hstack hW hd (fun _ _ => ⟨rfl, eT, hc, hs⟩)
  dsimp only [Pt.U, Pt.locs, Pt.cells, Pt.slots] at X' l1 y1 z1 st hQ
  subst l1 y1 z1
  exact own_by (fun t kt => st.trans kt) (k v T' Lc X' hQ)
end OwnCalls
end OwnPrelude
theorem own_ord {args : Array Value} {s : State} {o : Option Outcome} {idx : List Nat} {t : Term} {C n d : String} {a : Addr} {z : Int32} (ev : t.eval args s o idx s = some (.ref a)) (h : (Cond.eq (Term.field t C n d) (Term.int z)).value args s o s idx = some true) : s.fieldOf? a C n d = some (.int z) := by
  obtain ⟨x, y, h1, h2, hk, -⟩ := cmp_v (Or.inl h)
  have h3 : y = .int z := (Option.some.inj h2).symm
  subst h3
  rw [fld_at ev] at h1
  cases x with
  | int q => 
    have h4 : (Cond.eq (Term.field t C n d) (Term.int z)).value args s o s idx = some (decide (q = z)) := by simp [Cond.value, Term.eval, ev, h1]
    rw [h1, gotT h4 h]
  | _ => simp [Cond.value, Term.eval, ev, h1] at h
theorem own_ne {s : State} {C n d : String} {a b : Addr} {y z : Int32} (h1 : s.fieldOf? a C n d = some (.int y)) (h2 : s.fieldOf? b C n d = some (.int z)) (q : y ≠ z) : a ≠ b := fun e => by
  subst e; rw [h1] at h2; exact q (Value.int.inj (Option.some.inj h2))
theorem own_pn0 : plainName "com/example/xerith/xerith/Constraint$Verdict" = true := by first | (simp [plainName, overriddenIn]; done) | decide +kernel
theorem own_d1_0 : decode prog_46_method_7_code 0 = .ok (.aload_n 0, 1) := by decide +kernel
theorem own_d1_1 : decode prog_46_method_7_code 1 = .ok (.getstatic 3, 3) := by decide +kernel
theorem own_d1_4 : decode prog_46_method_7_code 4 = .ok (.if_acmp .ne 10, 3) := by decide +kernel
theorem own_d1_7 : decode prog_46_method_7_code 7 = .ok (.getstatic 7, 3) := by decide +kernel
theorem own_d1_10 : decode prog_46_method_7_code 10 = .ok (.astore_n 1, 1) := by decide +kernel
theorem own_d1_11 : decode prog_46_method_7_code 11 = .ok (.goto 21, 3) := by decide +kernel
theorem own_d1_32 : decode prog_46_method_7_code 32 = .ok (.aload_n 1, 1) := by decide +kernel
theorem own_d1_33 : decode prog_46_method_7_code 33 = .ok (.areturn, 1) := by decide +kernel
def Q_own_not_zi (Z : State) (zo : Addr) (zu : Addr) (zi : Addr) (h0 : Heap) (n0 : Nat) (v : Option Value) (h : Heap) (L : List Loc) : Prop := v = some (.ref zo) ∧ Fr n0 L ∧ h = h0
theorem own_ef_own_not_zi (m : MethodId) (zi : Addr) : entryFrame m #[(.ref zi)] 2 = mkF m 0 #[.val (.ref zi), .unset] [] := by first | (simp [entryFrame, mkF, argsToLocals, Value.category]; done) | rfl
set_option maxRecDepth 65536 in
set_option maxHeartbeats 40000000 in
theorem own_not_zi (l : Launch) (Z : State) (a0 : Array Value) (hw : ∀ d ∈ tables_1, d.before a0 Z = true) (ws : List Jvm.Cond) (zo : Addr) (zu : Addr) (zi : Addr) (h0 : Heap) (n0 : Nat) (Z0 : n0 ≤ h0.size) (O0 : Old Z n0 h0) (S_OUT : Sta Z Z.heap "com/example/xerith/xerith/Constraint$Verdict" "OUT" "Lcom/example/xerith/xerith/Constraint$Verdict;" (.ref zo)) (S_UNK : Sta Z Z.heap "com/example/xerith/xerith/Constraint$Verdict" "UNKNOWN" "Lcom/example/xerith/xerith/Constraint$Verdict;" (.ref zu)) (S_IN : Sta Z Z.heap "com/example/xerith/xerith/Constraint$Verdict" "IN" "Lcom/example/xerith/xerith/Constraint$Verdict;" (.ref zi)) (n1 : zo ≠ zu) (n2 : zo ≠ zi) (n3 : zu ≠ zi) :
    own_Ctr l Z (⟨"com/example/xerith/xerith/Constraint$Verdict", "not", "()Lcom/example/xerith/xerith/Constraint$Verdict;"⟩ : MethodName) prog_46_method_7_code 2 (some (.object "com/example/xerith/xerith/Constraint$Verdict")) ws ({ frames := 0, cells := 0, slots := 0, locals := 0 } : Room) (({ frames := 0, cells := 0, slots := 0, locals := 0 } : Room)).cells (({ frames := 0, cells := 0, slots := 0, locals := 0 } : Room)).slots #[(.ref zi)] h0 (Q_own_not_zi Z zo zu zi h0 n0) := by
  refine own_enter (plainFor_of_name own_pn0) ?_
  intro p e s m below meth c s₁ X0 hx hZ hby hml hown hnm hlk hret e0
  have N0 := Fr.nil n0
  refine own_cast (own_ef_own_not_zi m zi) ?_
  refine own_by (g' := (mkF m 1 #[.val (.ref zi), .unset] [(.ref zi)])) (fun t k => XS.aloadN X0.here hx rfl (hb hby own_d1_0) rfl rfl k) ?_
  obtain ⟨T101, X101, e101, st101⟩ := getS2 X0 hx hZ hown (host := "") (Or.inl (hw _ (List.mem_of_getElem? (i := 11) rfl))) Via.refl e0 (S_IN.ext O0.2) (g := (mkF m 1 #[.val (.ref zi), .unset] [(.ref zi)])) rfl (hb hby own_d1_1)
  refine own_by (g' := (mkF m 4 #[.val (.ref zi), .unset] [(.ref zi), (.ref zi)])) st101 ?_
  refine own_by (g' := (mkF m 7 #[.val (.ref zi), .unset] [])) (fun t k => Jvm.RoadKit.acmp (g := (mkF m 4 #[.val (.ref zi), .unset] [(.ref zi), (.ref zi)])) X101 hx rfl rfl rfl (pc0 := 4) (pc' := 7) (same := true) rfl (hb hby own_d1_4) rfl (decide_eq_true rfl) (by decide) (by decide) k) ?_
  obtain ⟨T102, X102, e102, st102⟩ := getS2 X101 hx hZ hown (host := "") (Or.inl (hw _ (List.mem_of_getElem? (i := 12) rfl))) Via.refl e101 (S_OUT.ext O0.2) (g := (mkF m 7 #[.val (.ref zi), .unset] [])) rfl (hb hby own_d1_7)
  refine own_by (g' := (mkF m 10 #[.val (.ref zi), .unset] [(.ref zo)])) st102 ?_
  refine own_by (g' := (mkF m 11 #[.val (.ref zi), .val (.ref zo)] [])) (fun t k => XS.astoreN X102.here hx rfl (hb hby own_d1_10) rfl rfl (l' := #[.val (.ref zi), .val (.ref zo)]) rfl k) ?_
  refine own_by (g' := (mkF m 32 #[.val (.ref zi), .val (.ref zo)] [])) (fun t k => XS.goto X102.here hx rfl (pc0 := 11) (pc' := 32) rfl (hb hby own_d1_11) (by decide) (by decide) k) ?_
  refine own_by (g' := (mkF m 33 #[.val (.ref zi), .val (.ref zo)] [(.ref zo)])) (fun t k => XS.aloadN X102.here hx rfl (hb hby own_d1_32) rfl rfl k) ?_
  refine own_retA X102 hx hlk hret rfl rfl (hb hby own_d1_33) (by decide) (by decide) ?_
  exact ⟨rfl, N0, e102⟩
theorem own_d1_14 : decode prog_46_method_7_code 14 = .ok (.aload_n 0, 1) := by decide +kernel
theorem own_d1_15 : decode prog_46_method_7_code 15 = .ok (.getstatic 7, 3) := by decide +kernel
theorem own_d1_18 : decode prog_46_method_7_code 18 = .ok (.if_acmp .ne 10, 3) := by decide +kernel
theorem own_d1_21 : decode prog_46_method_7_code 21 = .ok (.getstatic 3, 3) := by decide +kernel
theorem own_d1_24 : decode prog_46_method_7_code 24 = .ok (.astore_n 1, 1) := by decide +kernel
theorem own_d1_25 : decode prog_46_method_7_code 25 = .ok (.goto 7, 3) := by decide +kernel
def Q_own_not_zo (Z : State) (zo : Addr) (zu : Addr) (zi : Addr) (h0 : Heap) (n0 : Nat) (v : Option Value) (h : Heap) (L : List Loc) : Prop := v = some (.ref zi) ∧ Fr n0 L ∧ h = h0
theorem own_ef_own_not_zo (m : MethodId) (zo : Addr) : entryFrame m #[(.ref zo)] 2 = mkF m 0 #[.val (.ref zo), .unset] [] := by first | (simp [entryFrame, mkF, argsToLocals, Value.category]; done) | rfl
set_option maxRecDepth 65536 in
set_option maxHeartbeats 40000000 in
theorem own_not_zo (l : Launch) (Z : State) (a0 : Array Value) (hw : ∀ d ∈ tables_1, d.before a0 Z = true) (ws : List Jvm.Cond) (zo : Addr) (zu : Addr) (zi : Addr) (h0 : Heap) (n0 : Nat) (Z0 : n0 ≤ h0.size) (O0 : Old Z n0 h0) (S_OUT : Sta Z Z.heap "com/example/xerith/xerith/Constraint$Verdict" "OUT" "Lcom/example/xerith/xerith/Constraint$Verdict;" (.ref zo)) (S_UNK : Sta Z Z.heap "com/example/xerith/xerith/Constraint$Verdict" "UNKNOWN" "Lcom/example/xerith/xerith/Constraint$Verdict;" (.ref zu)) (S_IN : Sta Z Z.heap "com/example/xerith/xerith/Constraint$Verdict" "IN" "Lcom/example/xerith/xerith/Constraint$Verdict;" (.ref zi)) (n1 : zo ≠ zu) (n2 : zo ≠ zi) (n3 : zu ≠ zi) :
    own_Ctr l Z (⟨"com/example/xerith/xerith/Constraint$Verdict", "not", "()Lcom/example/xerith/xerith/Constraint$Verdict;"⟩ : MethodName) prog_46_method_7_code 2 (some (.object "com/example/xerith/xerith/Constraint$Verdict")) ws ({ frames := 0, cells := 0, slots := 0, locals := 0 } : Room) (({ frames := 0, cells := 0, slots := 0, locals := 0 } : Room)).cells (({ frames := 0, cells := 0, slots := 0, locals := 0 } : Room)).slots #[(.ref zo)] h0 (Q_own_not_zo Z zo zu zi h0 n0) := by
  refine own_enter (plainFor_of_name own_pn0) ?_
  intro p e s m below meth c s₁ X0 hx hZ hby hml hown hnm hlk hret e0
  have N0 := Fr.nil n0
  refine own_cast (own_ef_own_not_zo m zo) ?_
  refine own_by (g' := (mkF m 1 #[.val (.ref zo), .unset] [(.ref zo)])) (fun t k => XS.aloadN X0.here hx rfl (hb hby own_d1_0) rfl rfl k) ?_
  obtain ⟨T101, X101, e101, st101⟩ := getS2 X0 hx hZ hown (host := "") (Or.inl (hw _ (List.mem_of_getElem? (i := 11) rfl))) Via.refl e0 (S_IN.ext O0.2) (g := (mkF m 1 #[.val (.ref zo), .unset] [(.ref zo)])) rfl (hb hby own_d1_1)
  refine own_by (g' := (mkF m 4 #[.val (.ref zo), .unset] [(.ref zi), (.ref zo)])) st101 ?_
  refine own_by (g' := (mkF m 14 #[.val (.ref zo), .unset] [])) (fun t k => Jvm.RoadKit.acmp (g := (mkF m 4 #[.val (.ref zo), .unset] [(.ref zi), (.ref zo)])) X101 hx rfl rfl rfl (pc0 := 4) (pc' := 14) (same := false) rfl (hb hby own_d1_4) rfl (decide_eq_false fun q => n2 (Value.ref.inj q)) (by decide) (by decide) k) ?_
  refine own_by (g' := (mkF m 15 #[.val (.ref zo), .unset] [(.ref zo)])) (fun t k => XS.aloadN X101.here hx rfl (hb hby own_d1_14) rfl rfl k) ?_
  obtain ⟨T102, X102, e102, st102⟩ := getS2 X101 hx hZ hown (host := "") (Or.inl (hw _ (List.mem_of_getElem? (i := 12) rfl))) Via.refl e101 (S_OUT.ext O0.2) (g := (mkF m 15 #[.val (.ref zo), .unset] [(.ref zo)])) rfl (hb hby own_d1_15)
  refine own_by (g' := (mkF m 18 #[.val (.ref zo), .unset] [(.ref zo), (.ref zo)])) st102 ?_
  refine own_by (g' := (mkF m 21 #[.val (.ref zo), .unset] [])) (fun t k => Jvm.RoadKit.acmp (g := (mkF m 18 #[.val (.ref zo), .unset] [(.ref zo), (.ref zo)])) X102 hx rfl rfl rfl (pc0 := 18) (pc' := 21) (same := true) rfl (hb hby own_d1_18) rfl (decide_eq_true rfl) (by decide) (by decide) k) ?_
  obtain ⟨T103, X103, e103, st103⟩ := getS2 X102 hx hZ hown (host := "") (Or.inl (hw _ (List.mem_of_getElem? (i := 11) rfl))) Via.refl e102 (S_IN.ext O0.2) (g := (mkF m 21 #[.val (.ref zo), .unset] [])) rfl (hb hby own_d1_21)
  refine own_by (g' := (mkF m 24 #[.val (.ref zo), .unset] [(.ref zi)])) st103 ?_
  refine own_by (g' := (mkF m 25 #[.val (.ref zo), .val (.ref zi)] [])) (fun t k => XS.astoreN X103.here hx rfl (hb hby own_d1_24) rfl rfl (l' := #[.val (.ref zo), .val (.ref zi)]) rfl k) ?_
  refine own_by (g' := (mkF m 32 #[.val (.ref zo), .val (.ref zi)] [])) (fun t k => XS.goto X103.here hx rfl (pc0 := 25) (pc' := 32) rfl (hb hby own_d1_25) (by decide) (by decide) k) ?_
  refine own_by (g' := (mkF m 33 #[.val (.ref zo), .val (.ref zi)] [(.ref zi)])) (fun t k => XS.aloadN X103.here hx rfl (hb hby own_d1_32) rfl rfl k) ?_
  refine own_retA X103 hx hlk hret rfl rfl (hb hby own_d1_33) (by decide) (by decide) ?_
  exact ⟨rfl, N0, e103⟩
theorem own_d1_28 : decode prog_46_method_7_code 28 = .ok (.getstatic 10, 3) := by decide +kernel
theorem own_d1_31 : decode prog_46_method_7_code 31 = .ok (.astore_n 1, 1) := by decide +kernel
def Q_own_not_zu (Z : State) (zo : Addr) (zu : Addr) (zi : Addr) (h0 : Heap) (n0 : Nat) (v : Option Value) (h : Heap) (L : List Loc) : Prop := v = some (.ref zu) ∧ Fr n0 L ∧ h = h0
theorem own_ef_own_not_zu (m : MethodId) (zu : Addr) : entryFrame m #[(.ref zu)] 2 = mkF m 0 #[.val (.ref zu), .unset] [] := by first | (simp [entryFrame, mkF, argsToLocals, Value.category]; done) | rfl
set_option maxRecDepth 65536 in
set_option maxHeartbeats 40000000 in
theorem own_not_zu (l : Launch) (Z : State) (a0 : Array Value) (hw : ∀ d ∈ tables_1, d.before a0 Z = true) (ws : List Jvm.Cond) (zo : Addr) (zu : Addr) (zi : Addr) (h0 : Heap) (n0 : Nat) (Z0 : n0 ≤ h0.size) (O0 : Old Z n0 h0) (S_OUT : Sta Z Z.heap "com/example/xerith/xerith/Constraint$Verdict" "OUT" "Lcom/example/xerith/xerith/Constraint$Verdict;" (.ref zo)) (S_UNK : Sta Z Z.heap "com/example/xerith/xerith/Constraint$Verdict" "UNKNOWN" "Lcom/example/xerith/xerith/Constraint$Verdict;" (.ref zu)) (S_IN : Sta Z Z.heap "com/example/xerith/xerith/Constraint$Verdict" "IN" "Lcom/example/xerith/xerith/Constraint$Verdict;" (.ref zi)) (n1 : zo ≠ zu) (n2 : zo ≠ zi) (n3 : zu ≠ zi) :
    own_Ctr l Z (⟨"com/example/xerith/xerith/Constraint$Verdict", "not", "()Lcom/example/xerith/xerith/Constraint$Verdict;"⟩ : MethodName) prog_46_method_7_code 2 (some (.object "com/example/xerith/xerith/Constraint$Verdict")) ws ({ frames := 0, cells := 0, slots := 0, locals := 0 } : Room) (({ frames := 0, cells := 0, slots := 0, locals := 0 } : Room)).cells (({ frames := 0, cells := 0, slots := 0, locals := 0 } : Room)).slots #[(.ref zu)] h0 (Q_own_not_zu Z zo zu zi h0 n0) := by
  refine own_enter (plainFor_of_name own_pn0) ?_
  intro p e s m below meth c s₁ X0 hx hZ hby hml hown hnm hlk hret e0
  have N0 := Fr.nil n0
  refine own_cast (own_ef_own_not_zu m zu) ?_
  refine own_by (g' := (mkF m 1 #[.val (.ref zu), .unset] [(.ref zu)])) (fun t k => XS.aloadN X0.here hx rfl (hb hby own_d1_0) rfl rfl k) ?_
  obtain ⟨T101, X101, e101, st101⟩ := getS2 X0 hx hZ hown (host := "") (Or.inl (hw _ (List.mem_of_getElem? (i := 11) rfl))) Via.refl e0 (S_IN.ext O0.2) (g := (mkF m 1 #[.val (.ref zu), .unset] [(.ref zu)])) rfl (hb hby own_d1_1)
  refine own_by (g' := (mkF m 4 #[.val (.ref zu), .unset] [(.ref zi), (.ref zu)])) st101 ?_
  refine own_by (g' := (mkF m 14 #[.val (.ref zu), .unset] [])) (fun t k => Jvm.RoadKit.acmp (g := (mkF m 4 #[.val (.ref zu), .unset] [(.ref zi), (.ref zu)])) X101 hx rfl rfl rfl (pc0 := 4) (pc' := 14) (same := false) rfl (hb hby own_d1_4) rfl (decide_eq_false fun q => n3 (Value.ref.inj q)) (by decide) (by decide) k) ?_
  refine own_by (g' := (mkF m 15 #[.val (.ref zu), .unset] [(.ref zu)])) (fun t k => XS.aloadN X101.here hx rfl (hb hby own_d1_14) rfl rfl k) ?_
  obtain ⟨T102, X102, e102, st102⟩ := getS2 X101 hx hZ hown (host := "") (Or.inl (hw _ (List.mem_of_getElem? (i := 12) rfl))) Via.refl e101 (S_OUT.ext O0.2) (g := (mkF m 15 #[.val (.ref zu), .unset] [(.ref zu)])) rfl (hb hby own_d1_15)
  refine own_by (g' := (mkF m 18 #[.val (.ref zu), .unset] [(.ref zo), (.ref zu)])) st102 ?_
  refine own_by (g' := (mkF m 28 #[.val (.ref zu), .unset] [])) (fun t k => Jvm.RoadKit.acmp (g := (mkF m 18 #[.val (.ref zu), .unset] [(.ref zo), (.ref zu)])) X102 hx rfl rfl rfl (pc0 := 18) (pc' := 28) (same := false) rfl (hb hby own_d1_18) rfl (decide_eq_false fun q => (Ne.symm n1) (Value.ref.inj q)) (by decide) (by decide) k) ?_
  obtain ⟨T103, X103, e103, st103⟩ := getS2 X102 hx hZ hown (host := "") (Or.inl (hw _ (List.mem_of_getElem? (i := 15) rfl))) Via.refl e102 (S_UNK.ext O0.2) (g := (mkF m 28 #[.val (.ref zu), .unset] [])) rfl (hb hby own_d1_28)
  refine own_by (g' := (mkF m 31 #[.val (.ref zu), .unset] [(.ref zu)])) st103 ?_
  refine own_by (g' := (mkF m 32 #[.val (.ref zu), .val (.ref zu)] [])) (fun t k => XS.astoreN X103.here hx rfl (hb hby own_d1_31) rfl rfl (l' := #[.val (.ref zu), .val (.ref zu)]) rfl k) ?_
  refine own_by (g' := (mkF m 33 #[.val (.ref zu), .val (.ref zu)] [(.ref zu)])) (fun t k => XS.aloadN X103.here hx rfl (hb hby own_d1_32) rfl rfl k) ?_
  refine own_retA X103 hx hlk hret rfl rfl (hb hby own_d1_33) (by decide) (by decide) ?_
  exact ⟨rfl, N0, e103⟩
theorem own_pn1 : plainName "com/example/xerith/xerith/VerdictNotPinLaw" = true := by first | (simp [plainName, overriddenIn]; done) | decide +kernel
theorem own_pd0 : parseMethodDescriptor "()Lcom/example/xerith/xerith/Constraint$Verdict;" = some ⟨[], some (.object "com/example/xerith/xerith/Constraint$Verdict")⟩ := by decide +kernel
def Q_own_law (Z : State) (u1 : Int32) (zo : Addr) (zu : Addr) (zi : Addr) (h0 : Heap) (n0 : Nat) (v : Option Value) (h : Heap) (L : List Loc) : Prop := v = some (.int (1 : Int32)) ∧ Fr n0 L ∧ h = h0
theorem own_ef_own_law (m : MethodId) (u1 : Int32) : entryFrame m #[(.int u1)] maxLocals = mkF m 0 #[.val (.int u1), .unset, .unset, .unset, .unset] [] := by first | (simp [entryFrame, mkF, argsToLocals, Value.category, maxLocals]; done) | rfl
set_option maxRecDepth 65536 in
set_option maxHeartbeats 40000000 in
theorem own_law (l : Launch) (Z : State) (a0 : Array Value) (hw : ∀ d ∈ tables_1, d.before a0 Z = true) (ws : List Jvm.Cond) (u1 : Int32) (zo : Addr) (zu : Addr) (zi : Addr) (h0 : Heap) (n0 : Nat) (Z0 : n0 ≤ h0.size) (O0 : Old Z n0 h0) (S_OUT : Sta Z Z.heap "com/example/xerith/xerith/Constraint$Verdict" "OUT" "Lcom/example/xerith/xerith/Constraint$Verdict;" (.ref zo)) (S_UNK : Sta Z Z.heap "com/example/xerith/xerith/Constraint$Verdict" "UNKNOWN" "Lcom/example/xerith/xerith/Constraint$Verdict;" (.ref zu)) (S_IN : Sta Z Z.heap "com/example/xerith/xerith/Constraint$Verdict" "IN" "Lcom/example/xerith/xerith/Constraint$Verdict;" (.ref zi)) (n1 : zo ≠ zu) (n2 : zo ≠ zi) (n3 : zu ≠ zi) (E1 : Exa Z h0 zo "com/example/xerith/xerith/Constraint$Verdict") (E2 : Exa Z h0 zu "com/example/xerith/xerith/Constraint$Verdict") (E3 : Exa Z h0 zi "com/example/xerith/xerith/Constraint$Verdict") :
    own_Ctr l Z x code maxLocals ret ws room_1 0 0 #[(.int u1)] h0 (Q_own_law Z u1 zo zu zi h0 n0) := by
  refine own_enter (plainFor_of_name own_pn1) ?_
  intro p e s m below meth c s₁ X0 hx hZ hby hml hown hnm hlk hret e0
  have N0 := Fr.nil n0
  refine own_cast (own_ef_own_law m u1) ?_
  refine own_by (g' := (mkF m 1 #[.val (.int u1), .unset, .unset, .unset, .unset] [(.int u1)])) (fun t k => XS.iloadN X0.here hx rfl (hb hby at_0) rfl k) ?_
  refine own_by (g' := (mkF m 3 #[.val (.int u1), .unset, .unset, .unset, .unset] [(.int (2147483647 : Int32)), (.int u1)])) (fun t k => X0.ldcInt hx hown (mvT hZ (hw _ (List.mem_of_getElem? (i := 0) rfl))) (g := (mkF m 1 #[.val (.int u1), .unset, .unset, .unset, .unset] [(.int u1)])) rfl (hb hby at_1) t k) ?_
  refine own_by (g' := (mkF m 4 #[.val (.int u1), .unset, .unset, .unset, .unset] [(.int (u1 &&& (2147483647 : Int32)))])) (fun t k => XS.iand X0.here hx rfl (hb hby at_3) rfl k) ?_
  refine own_by (g' := (mkF m 5 #[.val (.int u1), .unset, .unset, .unset, .unset] [(.int (3 : Int32)), (.int (u1 &&& (2147483647 : Int32)))])) (fun t k => XS.iconst X0.here hx rfl (hb hby at_4) k) ?_
  refine own_by (g' := (mkF m 6 #[.val (.int u1), .unset, .unset, .unset, .unset] [(.int ((u1 &&& (2147483647 : Int32)) % (3 : Int32)))])) (fun t k => iremM X0 hx rfl (hb hby at_5) rfl (by decide) k) ?_
  generalize hv101 : ((u1 &&& (2147483647 : Int32)) % (3 : Int32)) = v101
  refine own_by (g' := (mkF m 7 #[.val (.int u1), .val (.int v101), .unset, .unset, .unset] [])) (fun t k => XS.istoreN X0.here hx rfl (hb hby at_6) rfl (l' := #[.val (.int u1), .val (.int v101), .unset, .unset, .unset]) rfl k) ?_
  refine own_by (g' := (mkF m 8 #[.val (.int u1), .val (.int v101), .unset, .unset, .unset] [(.int v101)])) (fun t k => XS.iloadN X0.here hx rfl (hb hby at_7) rfl k) ?_
  by_cases hc102 : v101 = (0 : Int32)
  ·
    refine own_by (g' := (mkF m 11 #[.val (.int u1), .val (.int v101), .unset, .unset, .unset] [])) (fun t k => XS.ifNo X0.here hx rfl (hb hby at_8) rfl ((if0 _ _).trans (teq hc102).2) k) ?_
    obtain ⟨T103, X103, e103, st103⟩ := getS2 X0 hx hZ hown (host := "") (Or.inl (hw _ (List.mem_of_getElem? (i := 1) rfl))) Via.refl e0 (S_IN.ext O0.2) (g := (mkF m 11 #[.val (.int u1), .val (.int v101), .unset, .unset, .unset] [])) rfl (hb hby at_11)
    refine own_by (g' := (mkF m 14 #[.val (.int u1), .val (.int v101), .unset, .unset, .unset] [(.ref zi)])) st103 ?_
    refine own_by (g' := (mkF m 15 #[.val (.int u1), .val (.int v101), .val (.ref zi), .unset, .unset] [])) (fun t k => XS.astoreN X103.here hx rfl (hb hby at_14) rfl rfl (l' := #[.val (.int u1), .val (.int v101), .val (.ref zi), .unset, .unset]) rfl k) ?_
    obtain ⟨T104, X104, e104, st104⟩ := getS2 X103 hx hZ hown (host := "") (Or.inl (hw _ (List.mem_of_getElem? (i := 4) rfl))) Via.refl e103 (S_OUT.ext O0.2) (g := (mkF m 15 #[.val (.int u1), .val (.int v101), .val (.ref zi), .unset, .unset] [])) rfl (hb hby at_15)
    refine own_by (g' := (mkF m 18 #[.val (.int u1), .val (.int v101), .val (.ref zi), .unset, .unset] [(.ref zo)])) st104 ?_
    refine own_by (g' := (mkF m 19 #[.val (.int u1), .val (.int v101), .val (.ref zi), .val (.ref zo), .unset] [])) (fun t k => XS.astoreN X104.here hx rfl (hb hby at_18) rfl rfl (l' := #[.val (.int u1), .val (.int v101), .val (.ref zi), .val (.ref zo), .unset]) rfl k) ?_
    refine own_by (g' := (mkF m 46 #[.val (.int u1), .val (.int v101), .val (.ref zi), .val (.ref zo), .unset] [])) (fun t k => XS.goto X104.here hx rfl (pc0 := 19) (pc' := 46) rfl (hb hby at_19) (by decide) (by decide) k) ?_
    refine own_by (g' := (mkF m 47 #[.val (.int u1), .val (.int v101), .val (.ref zi), .val (.ref zo), .unset] [(.ref zi)])) (fun t k => XS.aloadN X104.here hx rfl (hb hby at_46) rfl rfl k) ?_
    refine own_callV X104 hx hZ hown (hw _ (List.mem_of_getElem? (i := 6) rfl)) (hw _ (List.mem_of_getElem? (i := 7) rfl)) (notFace_of_selects (args := #[]) (mvT hZ (hw _ (List.mem_of_getElem? (i := 9) rfl)))) (hw _ (List.mem_of_getElem? (i := 9) rfl)) (hw _ (List.mem_of_getElem? (i := 8) rfl)) (hw _ (List.mem_of_getElem? (i := 10) rfl)) (hw _ (List.mem_of_getElem? (i := 2) rfl)) (by decide) (a := zi) E3 (own_not_zi l Z a0 hw [] (zo) (zu) (zi) h0 n0 Z0 O0 S_OUT S_UNK S_IN n1 n2 n3) 0 (by decide) (by decide) (by decide) (by decide) e104 (g := (mkF m 47 #[.val (.int u1), .val (.int v101), .val (.ref zi), .val (.ref zo), .unset] [(.ref zi)])) rfl (by rw [hml]; rfl) (argsL := []) (rest := []) (lenOf own_pd0 rfl) rfl (by show 2 * 0 + _ ≤ _; exact Nat.le_of_eq rfl) (hb hby at_47) ?_
    intro v105 T105 L105 X105 q105
    obtain ⟨rfl, N105q, e105⟩ := q105
    have N105 := Fr.app N0 N105q
    show own_Goes p e below s _ _ _ T105 (mkF m 50 #[.val (.int u1), .val (.int v101), .val (.ref zi), .val (.ref zo), .unset] [(.ref zo)])
    refine own_by (g' := (mkF m 52 #[.val (.int u1), .val (.int v101), .val (.ref zi), .val (.ref zo), .val (.ref zo)] [])) (fun t k => XS.astore X105.here hx rfl (hb hby at_50) rfl rfl (l' := #[.val (.int u1), .val (.int v101), .val (.ref zi), .val (.ref zo), .val (.ref zo)]) rfl k) ?_
    refine own_by (g' := (mkF m 54 #[.val (.int u1), .val (.int v101), .val (.ref zi), .val (.ref zo), .val (.ref zo)] [(.ref zo)])) (fun t k => XS.aload X105.here hx rfl (hb hby at_52) rfl rfl k) ?_
    refine own_by (g' := (mkF m 55 #[.val (.int u1), .val (.int v101), .val (.ref zi), .val (.ref zo), .val (.ref zo)] [(.ref zo), (.ref zo)])) (fun t k => XS.aloadN X105.here hx rfl (hb hby at_54) rfl rfl k) ?_
    refine own_by (g' := (mkF m 58 #[.val (.int u1), .val (.int v101), .val (.ref zi), .val (.ref zo), .val (.ref zo)] [])) (fun t k => Jvm.RoadKit.acmp (g := (mkF m 55 #[.val (.int u1), .val (.int v101), .val (.ref zi), .val (.ref zo), .val (.ref zo)] [(.ref zo), (.ref zo)])) X105 hx rfl rfl rfl (pc0 := 55) (pc' := 58) (same := true) rfl (hb hby at_55) rfl (decide_eq_true rfl) (by decide) (by decide) k) ?_
    refine own_by (g' := (mkF m 60 #[.val (.int u1), .val (.int v101), .val (.ref zi), .val (.ref zo), .val (.ref zo)] [(.ref zo)])) (fun t k => XS.aload X105.here hx rfl (hb hby at_58) rfl rfl k) ?_
    refine own_callV X105 hx hZ hown (hw _ (List.mem_of_getElem? (i := 6) rfl)) (hw _ (List.mem_of_getElem? (i := 7) rfl)) (notFace_of_selects (args := #[]) (mvT hZ (hw _ (List.mem_of_getElem? (i := 9) rfl)))) (hw _ (List.mem_of_getElem? (i := 9) rfl)) (hw _ (List.mem_of_getElem? (i := 8) rfl)) (hw _ (List.mem_of_getElem? (i := 10) rfl)) (hw _ (List.mem_of_getElem? (i := 2) rfl)) (by decide) (a := zo) E1 (own_not_zo l Z a0 hw [] (zo) (zu) (zi) h0 n0 Z0 O0 S_OUT S_UNK S_IN n1 n2 n3) 0 (by decide) (by decide) (by decide) (by decide) e105 (g := (mkF m 60 #[.val (.int u1), .val (.int v101), .val (.ref zi), .val (.ref zo), .val (.ref zo)] [(.ref zo)])) rfl (by rw [hml]; rfl) (argsL := []) (rest := []) (lenOf own_pd0 rfl) rfl (by show 2 * 0 + _ ≤ _; exact Nat.le_of_eq rfl) (hb hby at_60) ?_
    intro v106 T106 L106 X106 q106
    obtain ⟨rfl, N106q, e106⟩ := q106
    have N106 := Fr.app N105 N106q
    show own_Goes p e below s _ _ _ T106 (mkF m 63 #[.val (.int u1), .val (.int v101), .val (.ref zi), .val (.ref zo), .val (.ref zo)] [(.ref zi)])
    refine own_by (g' := (mkF m 64 #[.val (.int u1), .val (.int v101), .val (.ref zi), .val (.ref zo), .val (.ref zo)] [(.ref zi), (.ref zi)])) (fun t k => XS.aloadN X106.here hx rfl (hb hby at_63) rfl rfl k) ?_
    refine own_by (g' := (mkF m 67 #[.val (.int u1), .val (.int v101), .val (.ref zi), .val (.ref zo), .val (.ref zo)] [])) (fun t k => Jvm.RoadKit.acmp (g := (mkF m 64 #[.val (.int u1), .val (.int v101), .val (.ref zi), .val (.ref zo), .val (.ref zo)] [(.ref zi), (.ref zi)])) X106 hx rfl rfl rfl (pc0 := 64) (pc' := 67) (same := true) rfl (hb hby at_64) rfl (decide_eq_true rfl) (by decide) (by decide) k) ?_
    refine own_by (g' := (mkF m 68 #[.val (.int u1), .val (.int v101), .val (.ref zi), .val (.ref zo), .val (.ref zo)] [(.int (1 : Int32))])) (fun t k => XS.iconst X106.here hx rfl (hb hby at_67) k) ?_
    refine own_by (g' := (mkF m 72 #[.val (.int u1), .val (.int v101), .val (.ref zi), .val (.ref zo), .val (.ref zo)] [(.int (1 : Int32))])) (fun t k => XS.goto X106.here hx rfl (pc0 := 68) (pc' := 72) rfl (hb hby at_68) (by decide) (by decide) k) ?_
    refine own_retN X106 hx hlk hret (t := .boolean) (by simp) (hb hby at_72) (by decide) (by decide) ?_
    exact ⟨rfl, N106, e106⟩
  ·
    refine own_by (g' := (mkF m 22 #[.val (.int u1), .val (.int v101), .unset, .unset, .unset] [])) (fun t k => XS.ifYes X0.here hx rfl (pc0 := 8) (pc' := 22) rfl (hb hby at_8) rfl ((if0 _ _).trans (feq hc102).2) (by decide) (by decide) k) ?_
    refine own_by (g' := (mkF m 23 #[.val (.int u1), .val (.int v101), .unset, .unset, .unset] [(.int v101)])) (fun t k => XS.iloadN X0.here hx rfl (hb hby at_22) rfl k) ?_
    refine own_by (g' := (mkF m 24 #[.val (.int u1), .val (.int v101), .unset, .unset, .unset] [(.int (1 : Int32)), (.int v101)])) (fun t k => XS.iconst X0.here hx rfl (hb hby at_23) k) ?_
    by_cases hc107 : v101 = (1 : Int32)
    ·
      refine own_by (g' := (mkF m 27 #[.val (.int u1), .val (.int v101), .unset, .unset, .unset] [])) (fun t k => XS.icmpNo X0.here hx rfl (hb hby at_24) rfl (teq hc107).2 k) ?_
      obtain ⟨T108, X108, e108, st108⟩ := getS2 X0 hx hZ hown (host := "") (Or.inl (hw _ (List.mem_of_getElem? (i := 4) rfl))) Via.refl e0 (S_OUT.ext O0.2) (g := (mkF m 27 #[.val (.int u1), .val (.int v101), .unset, .unset, .unset] [])) rfl (hb hby at_27)
      refine own_by (g' := (mkF m 30 #[.val (.int u1), .val (.int v101), .unset, .unset, .unset] [(.ref zo)])) st108 ?_
      refine own_by (g' := (mkF m 31 #[.val (.int u1), .val (.int v101), .val (.ref zo), .unset, .unset] [])) (fun t k => XS.astoreN X108.here hx rfl (hb hby at_30) rfl rfl (l' := #[.val (.int u1), .val (.int v101), .val (.ref zo), .unset, .unset]) rfl k) ?_
      obtain ⟨T109, X109, e109, st109⟩ := getS2 X108 hx hZ hown (host := "") (Or.inl (hw _ (List.mem_of_getElem? (i := 1) rfl))) Via.refl e108 (S_IN.ext O0.2) (g := (mkF m 31 #[.val (.int u1), .val (.int v101), .val (.ref zo), .unset, .unset] [])) rfl (hb hby at_31)
      refine own_by (g' := (mkF m 34 #[.val (.int u1), .val (.int v101), .val (.ref zo), .unset, .unset] [(.ref zi)])) st109 ?_
      refine own_by (g' := (mkF m 35 #[.val (.int u1), .val (.int v101), .val (.ref zo), .val (.ref zi), .unset] [])) (fun t k => XS.astoreN X109.here hx rfl (hb hby at_34) rfl rfl (l' := #[.val (.int u1), .val (.int v101), .val (.ref zo), .val (.ref zi), .unset]) rfl k) ?_
      refine own_by (g' := (mkF m 46 #[.val (.int u1), .val (.int v101), .val (.ref zo), .val (.ref zi), .unset] [])) (fun t k => XS.goto X109.here hx rfl (pc0 := 35) (pc' := 46) rfl (hb hby at_35) (by decide) (by decide) k) ?_
      refine own_by (g' := (mkF m 47 #[.val (.int u1), .val (.int v101), .val (.ref zo), .val (.ref zi), .unset] [(.ref zo)])) (fun t k => XS.aloadN X109.here hx rfl (hb hby at_46) rfl rfl k) ?_
      refine own_callV X109 hx hZ hown (hw _ (List.mem_of_getElem? (i := 6) rfl)) (hw _ (List.mem_of_getElem? (i := 7) rfl)) (notFace_of_selects (args := #[]) (mvT hZ (hw _ (List.mem_of_getElem? (i := 9) rfl)))) (hw _ (List.mem_of_getElem? (i := 9) rfl)) (hw _ (List.mem_of_getElem? (i := 8) rfl)) (hw _ (List.mem_of_getElem? (i := 10) rfl)) (hw _ (List.mem_of_getElem? (i := 2) rfl)) (by decide) (a := zo) E1 (own_not_zo l Z a0 hw [] (zo) (zu) (zi) h0 n0 Z0 O0 S_OUT S_UNK S_IN n1 n2 n3) 0 (by decide) (by decide) (by decide) (by decide) e109 (g := (mkF m 47 #[.val (.int u1), .val (.int v101), .val (.ref zo), .val (.ref zi), .unset] [(.ref zo)])) rfl (by rw [hml]; rfl) (argsL := []) (rest := []) (lenOf own_pd0 rfl) rfl (by show 2 * 0 + _ ≤ _; exact Nat.le_of_eq rfl) (hb hby at_47) ?_
      intro v110 T110 L110 X110 q110
      obtain ⟨rfl, N110q, e110⟩ := q110
      have N110 := Fr.app N0 N110q
      show own_Goes p e below s _ _ _ T110 (mkF m 50 #[.val (.int u1), .val (.int v101), .val (.ref zo), .val (.ref zi), .unset] [(.ref zi)])
      refine own_by (g' := (mkF m 52 #[.val (.int u1), .val (.int v101), .val (.ref zo), .val (.ref zi), .val (.ref zi)] [])) (fun t k => XS.astore X110.here hx rfl (hb hby at_50) rfl rfl (l' := #[.val (.int u1), .val (.int v101), .val (.ref zo), .val (.ref zi), .val (.ref zi)]) rfl k) ?_
      refine own_by (g' := (mkF m 54 #[.val (.int u1), .val (.int v101), .val (.ref zo), .val (.ref zi), .val (.ref zi)] [(.ref zi)])) (fun t k => XS.aload X110.here hx rfl (hb hby at_52) rfl rfl k) ?_
      refine own_by (g' := (mkF m 55 #[.val (.int u1), .val (.int v101), .val (.ref zo), .val (.ref zi), .val (.ref zi)] [(.ref zi), (.ref zi)])) (fun t k => XS.aloadN X110.here hx rfl (hb hby at_54) rfl rfl k) ?_
      refine own_by (g' := (mkF m 58 #[.val (.int u1), .val (.int v101), .val (.ref zo), .val (.ref zi), .val (.ref zi)] [])) (fun t k => Jvm.RoadKit.acmp (g := (mkF m 55 #[.val (.int u1), .val (.int v101), .val (.ref zo), .val (.ref zi), .val (.ref zi)] [(.ref zi), (.ref zi)])) X110 hx rfl rfl rfl (pc0 := 55) (pc' := 58) (same := true) rfl (hb hby at_55) rfl (decide_eq_true rfl) (by decide) (by decide) k) ?_
      refine own_by (g' := (mkF m 60 #[.val (.int u1), .val (.int v101), .val (.ref zo), .val (.ref zi), .val (.ref zi)] [(.ref zi)])) (fun t k => XS.aload X110.here hx rfl (hb hby at_58) rfl rfl k) ?_
      refine own_callV X110 hx hZ hown (hw _ (List.mem_of_getElem? (i := 6) rfl)) (hw _ (List.mem_of_getElem? (i := 7) rfl)) (notFace_of_selects (args := #[]) (mvT hZ (hw _ (List.mem_of_getElem? (i := 9) rfl)))) (hw _ (List.mem_of_getElem? (i := 9) rfl)) (hw _ (List.mem_of_getElem? (i := 8) rfl)) (hw _ (List.mem_of_getElem? (i := 10) rfl)) (hw _ (List.mem_of_getElem? (i := 2) rfl)) (by decide) (a := zi) E3 (own_not_zi l Z a0 hw [] (zo) (zu) (zi) h0 n0 Z0 O0 S_OUT S_UNK S_IN n1 n2 n3) 0 (by decide) (by decide) (by decide) (by decide) e110 (g := (mkF m 60 #[.val (.int u1), .val (.int v101), .val (.ref zo), .val (.ref zi), .val (.ref zi)] [(.ref zi)])) rfl (by rw [hml]; rfl) (argsL := []) (rest := []) (lenOf own_pd0 rfl) rfl (by show 2 * 0 + _ ≤ _; exact Nat.le_of_eq rfl) (hb hby at_60) ?_
      intro v111 T111 L111 X111 q111
      obtain ⟨rfl, N111q, e111⟩ := q111
      have N111 := Fr.app N110 N111q
      show own_Goes p e below s _ _ _ T111 (mkF m 63 #[.val (.int u1), .val (.int v101), .val (.ref zo), .val (.ref zi), .val (.ref zi)] [(.ref zo)])
      refine own_by (g' := (mkF m 64 #[.val (.int u1), .val (.int v101), .val (.ref zo), .val (.ref zi), .val (.ref zi)] [(.ref zo), (.ref zo)])) (fun t k => XS.aloadN X111.here hx rfl (hb hby at_63) rfl rfl k) ?_
      refine own_by (g' := (mkF m 67 #[.val (.int u1), .val (.int v101), .val (.ref zo), .val (.ref zi), .val (.ref zi)] [])) (fun t k => Jvm.RoadKit.acmp (g := (mkF m 64 #[.val (.int u1), .val (.int v101), .val (.ref zo), .val (.ref zi), .val (.ref zi)] [(.ref zo), (.ref zo)])) X111 hx rfl rfl rfl (pc0 := 64) (pc' := 67) (same := true) rfl (hb hby at_64) rfl (decide_eq_true rfl) (by decide) (by decide) k) ?_
      refine own_by (g' := (mkF m 68 #[.val (.int u1), .val (.int v101), .val (.ref zo), .val (.ref zi), .val (.ref zi)] [(.int (1 : Int32))])) (fun t k => XS.iconst X111.here hx rfl (hb hby at_67) k) ?_
      refine own_by (g' := (mkF m 72 #[.val (.int u1), .val (.int v101), .val (.ref zo), .val (.ref zi), .val (.ref zi)] [(.int (1 : Int32))])) (fun t k => XS.goto X111.here hx rfl (pc0 := 68) (pc' := 72) rfl (hb hby at_68) (by decide) (by decide) k) ?_
      refine own_retN X111 hx hlk hret (t := .boolean) (by simp) (hb hby at_72) (by decide) (by decide) ?_
      exact ⟨rfl, N111, e111⟩
    ·
      refine own_by (g' := (mkF m 38 #[.val (.int u1), .val (.int v101), .unset, .unset, .unset] [])) (fun t k => XS.icmpYes X0.here hx rfl (pc0 := 24) (pc' := 38) rfl (hb hby at_24) rfl (feq hc107).2 (by decide) (by decide) k) ?_
      obtain ⟨T112, X112, e112, st112⟩ := getS2 X0 hx hZ hown (host := "") (Or.inl (hw _ (List.mem_of_getElem? (i := 13) rfl))) Via.refl e0 (S_UNK.ext O0.2) (g := (mkF m 38 #[.val (.int u1), .val (.int v101), .unset, .unset, .unset] [])) rfl (hb hby at_38)
      refine own_by (g' := (mkF m 41 #[.val (.int u1), .val (.int v101), .unset, .unset, .unset] [(.ref zu)])) st112 ?_
      refine own_by (g' := (mkF m 42 #[.val (.int u1), .val (.int v101), .val (.ref zu), .unset, .unset] [])) (fun t k => XS.astoreN X112.here hx rfl (hb hby at_41) rfl rfl (l' := #[.val (.int u1), .val (.int v101), .val (.ref zu), .unset, .unset]) rfl k) ?_
      obtain ⟨T113, X113, e113, st113⟩ := getS2 X112 hx hZ hown (host := "") (Or.inl (hw _ (List.mem_of_getElem? (i := 13) rfl))) Via.refl e112 (S_UNK.ext O0.2) (g := (mkF m 42 #[.val (.int u1), .val (.int v101), .val (.ref zu), .unset, .unset] [])) rfl (hb hby at_42)
      refine own_by (g' := (mkF m 45 #[.val (.int u1), .val (.int v101), .val (.ref zu), .unset, .unset] [(.ref zu)])) st113 ?_
      refine own_by (g' := (mkF m 46 #[.val (.int u1), .val (.int v101), .val (.ref zu), .val (.ref zu), .unset] [])) (fun t k => XS.astoreN X113.here hx rfl (hb hby at_45) rfl rfl (l' := #[.val (.int u1), .val (.int v101), .val (.ref zu), .val (.ref zu), .unset]) rfl k) ?_
      refine own_by (g' := (mkF m 47 #[.val (.int u1), .val (.int v101), .val (.ref zu), .val (.ref zu), .unset] [(.ref zu)])) (fun t k => XS.aloadN X113.here hx rfl (hb hby at_46) rfl rfl k) ?_
      refine own_callV X113 hx hZ hown (hw _ (List.mem_of_getElem? (i := 6) rfl)) (hw _ (List.mem_of_getElem? (i := 7) rfl)) (notFace_of_selects (args := #[]) (mvT hZ (hw _ (List.mem_of_getElem? (i := 9) rfl)))) (hw _ (List.mem_of_getElem? (i := 9) rfl)) (hw _ (List.mem_of_getElem? (i := 8) rfl)) (hw _ (List.mem_of_getElem? (i := 10) rfl)) (hw _ (List.mem_of_getElem? (i := 2) rfl)) (by decide) (a := zu) E2 (own_not_zu l Z a0 hw [] (zo) (zu) (zi) h0 n0 Z0 O0 S_OUT S_UNK S_IN n1 n2 n3) 0 (by decide) (by decide) (by decide) (by decide) e113 (g := (mkF m 47 #[.val (.int u1), .val (.int v101), .val (.ref zu), .val (.ref zu), .unset] [(.ref zu)])) rfl (by rw [hml]; rfl) (argsL := []) (rest := []) (lenOf own_pd0 rfl) rfl (by show 2 * 0 + _ ≤ _; exact Nat.le_of_eq rfl) (hb hby at_47) ?_
      intro v114 T114 L114 X114 q114
      obtain ⟨rfl, N114q, e114⟩ := q114
      have N114 := Fr.app N0 N114q
      show own_Goes p e below s _ _ _ T114 (mkF m 50 #[.val (.int u1), .val (.int v101), .val (.ref zu), .val (.ref zu), .unset] [(.ref zu)])
      refine own_by (g' := (mkF m 52 #[.val (.int u1), .val (.int v101), .val (.ref zu), .val (.ref zu), .val (.ref zu)] [])) (fun t k => XS.astore X114.here hx rfl (hb hby at_50) rfl rfl (l' := #[.val (.int u1), .val (.int v101), .val (.ref zu), .val (.ref zu), .val (.ref zu)]) rfl k) ?_
      refine own_by (g' := (mkF m 54 #[.val (.int u1), .val (.int v101), .val (.ref zu), .val (.ref zu), .val (.ref zu)] [(.ref zu)])) (fun t k => XS.aload X114.here hx rfl (hb hby at_52) rfl rfl k) ?_
      refine own_by (g' := (mkF m 55 #[.val (.int u1), .val (.int v101), .val (.ref zu), .val (.ref zu), .val (.ref zu)] [(.ref zu), (.ref zu)])) (fun t k => XS.aloadN X114.here hx rfl (hb hby at_54) rfl rfl k) ?_
      refine own_by (g' := (mkF m 58 #[.val (.int u1), .val (.int v101), .val (.ref zu), .val (.ref zu), .val (.ref zu)] [])) (fun t k => Jvm.RoadKit.acmp (g := (mkF m 55 #[.val (.int u1), .val (.int v101), .val (.ref zu), .val (.ref zu), .val (.ref zu)] [(.ref zu), (.ref zu)])) X114 hx rfl rfl rfl (pc0 := 55) (pc' := 58) (same := true) rfl (hb hby at_55) rfl (decide_eq_true rfl) (by decide) (by decide) k) ?_
      refine own_by (g' := (mkF m 60 #[.val (.int u1), .val (.int v101), .val (.ref zu), .val (.ref zu), .val (.ref zu)] [(.ref zu)])) (fun t k => XS.aload X114.here hx rfl (hb hby at_58) rfl rfl k) ?_
      refine own_callV X114 hx hZ hown (hw _ (List.mem_of_getElem? (i := 6) rfl)) (hw _ (List.mem_of_getElem? (i := 7) rfl)) (notFace_of_selects (args := #[]) (mvT hZ (hw _ (List.mem_of_getElem? (i := 9) rfl)))) (hw _ (List.mem_of_getElem? (i := 9) rfl)) (hw _ (List.mem_of_getElem? (i := 8) rfl)) (hw _ (List.mem_of_getElem? (i := 10) rfl)) (hw _ (List.mem_of_getElem? (i := 2) rfl)) (by decide) (a := zu) E2 (own_not_zu l Z a0 hw [] (zo) (zu) (zi) h0 n0 Z0 O0 S_OUT S_UNK S_IN n1 n2 n3) 0 (by decide) (by decide) (by decide) (by decide) e114 (g := (mkF m 60 #[.val (.int u1), .val (.int v101), .val (.ref zu), .val (.ref zu), .val (.ref zu)] [(.ref zu)])) rfl (by rw [hml]; rfl) (argsL := []) (rest := []) (lenOf own_pd0 rfl) rfl (by show 2 * 0 + _ ≤ _; exact Nat.le_of_eq rfl) (hb hby at_60) ?_
      intro v115 T115 L115 X115 q115
      obtain ⟨rfl, N115q, e115⟩ := q115
      have N115 := Fr.app N114 N115q
      show own_Goes p e below s _ _ _ T115 (mkF m 63 #[.val (.int u1), .val (.int v101), .val (.ref zu), .val (.ref zu), .val (.ref zu)] [(.ref zu)])
      refine own_by (g' := (mkF m 64 #[.val (.int u1), .val (.int v101), .val (.ref zu), .val (.ref zu), .val (.ref zu)] [(.ref zu), (.ref zu)])) (fun t k => XS.aloadN X115.here hx rfl (hb hby at_63) rfl rfl k) ?_
      refine own_by (g' := (mkF m 67 #[.val (.int u1), .val (.int v101), .val (.ref zu), .val (.ref zu), .val (.ref zu)] [])) (fun t k => Jvm.RoadKit.acmp (g := (mkF m 64 #[.val (.int u1), .val (.int v101), .val (.ref zu), .val (.ref zu), .val (.ref zu)] [(.ref zu), (.ref zu)])) X115 hx rfl rfl rfl (pc0 := 64) (pc' := 67) (same := true) rfl (hb hby at_64) rfl (decide_eq_true rfl) (by decide) (by decide) k) ?_
      refine own_by (g' := (mkF m 68 #[.val (.int u1), .val (.int v101), .val (.ref zu), .val (.ref zu), .val (.ref zu)] [(.int (1 : Int32))])) (fun t k => XS.iconst X115.here hx rfl (hb hby at_67) k) ?_
      refine own_by (g' := (mkF m 72 #[.val (.int u1), .val (.int v101), .val (.ref zu), .val (.ref zu), .val (.ref zu)] [(.int (1 : Int32))])) (fun t k => XS.goto X115.here hx rfl (pc0 := 68) (pc' := 72) rfl (hb hby at_68) (by decide) (by decide) k) ?_
      refine own_retN X115 hx hlk hret (t := .boolean) (by simp) (hb hby at_72) (by decide) (by decide) ?_
      exact ⟨rfl, N115, e115⟩
set_option maxRecDepth 65536 in
set_option maxHeartbeats 40000000 in
theorem comes_1 {Post : Tables → Env → Array Value → State → Outcome → State → Prop} (hpost : ∀ tb e args s v u, (limb_1_1.after args s (.returned v) u = true ∧ limb_1_2.after args s (.returned v) u = true ∧ True) → FrameEnd s (.returned v) u (Jvm.fieldLocs frame_1_writes args s ++ Jvm.arrayLocs frame_1_arrays args s ++ Jvm.staticLocs frame_1_statics s) 0 0 → Post tb e args s (.returned v) u) :
    ArmFor flags0 classFile x code maxLocals ret World_1 tables_1 room_1 Calls_1 rest_1 Pre_1 Post := by
  intro l hfl _ _ p e ha hc hk s m args below hf hA hF happ hP
  obtain ⟨hcalls, hrest, hpre⟩ := hP
  obtain ⟨-, -, -, hnamed, -, -, -, hat⟩ := (Spec.applies_iff hf).mp happ
  obtain ⟨hg, hn⟩ := and_e (Cond.before_iff.mp (show (Jvm.Cond.and given_1 narrow_1).before args s = true from hpre))
  obtain ⟨ga1, gb1⟩ := and_e hg
  obtain ⟨ga2, gb2⟩ := and_e hn
  obtain ⟨ga3, gb3⟩ := and_e gb2
  obtain ⟨ga4, gb4⟩ := and_e gb3
  obtain ⟨ga5, gb5⟩ := and_e gb4
  obtain ⟨ga6, gb6⟩ := and_e gb5
  obtain ⟨w0, rfl⟩ : ∃ w0 : Value, args = #[w0] := by
    have hs : args.size = 1 := by simpa [Cond.value, given_1] using ga1
    obtain ⟨L⟩ := args
    match L, hs with
    | [w0], _ => exact ⟨w0, rfl⟩
  have hw := fun d (hd : d ∈ tables_1) => atoms_spec (ws := Jvm.Cond.code x code maxLocals ret :: tables_1) hat d (List.mem_cons_of_mem _ hd)
  have hfit : Fit s := fun {y c} hc i hi => by
    obtain ⟨ha, rfl⟩ := Array.getElem?_eq_some_iff.mp hc
    have q := List.all_eq_true.mp ((Array.all_eq_true_iff_forall_mem.mp hF) _ (Array.getElem_mem ha)) i (List.mem_range.mpr hi)
    simpa [Array.getElem?_eq_getElem hi] using q
  obtain ⟨i0, ei0⟩ := is_v gb1
  obtain rfl : w0 = (.int i0) := Option.some.inj ei0
  obtain ⟨zo, ev_OUT⟩ := exa_v ga3
  have St_OUT := Sta.start ev_OUT (Or.inr ⟨(hw _ (List.mem_of_getElem? (i := 2) rfl)), (hw _ (List.mem_of_getElem? (i := 5) rfl))⟩)
  have Ex_OUT := Exa.start ev_OUT ga3
  obtain ⟨zu, ev_UNKNOWN⟩ := exa_v ga6
  have St_UNKNOWN := Sta.start ev_UNKNOWN (Or.inr ⟨(hw _ (List.mem_of_getElem? (i := 2) rfl)), (hw _ (List.mem_of_getElem? (i := 14) rfl))⟩)
  have Ex_UNKNOWN := Exa.start ev_UNKNOWN ga6
  obtain ⟨zi, ev_IN⟩ := exa_v ga2
  have St_IN := Sta.start ev_IN (Or.inr ⟨(hw _ (List.mem_of_getElem? (i := 2) rfl)), (hw _ (List.mem_of_getElem? (i := 3) rfl))⟩)
  have Ex_IN := Exa.start ev_IN ga2
  have or_IN := own_ord ev_IN ga5
  have or_OUT := own_ord ev_OUT ga4
  have or_UNKNOWN := own_ord ev_UNKNOWN gb6
  obtain ⟨n, o, h1, h2, h3, _, L, rfl, ⟨rfl, N, -⟩, hq⟩ := own_law l s _ hw tables_1 i0 zo zu zi s.heap s.heap.size (Nat.le_refl _) (Old.start s) St_OUT St_UNKNOWN St_IN (own_ne or_OUT or_UNKNOWN (by decide)) (own_ne or_OUT or_IN (by decide)) (own_ne or_UNKNOWN or_IN (by decide)) Ex_OUT Ex_UNKNOWN Ex_IN p e ha hc hk s m _ below hf ((Spec.applies_iff_loose hf).mp happ).1 ⟨rfl, State.Warmed39.refl s, rfl⟩ trivial
  exact ⟨n, _, h1, h2, h3, hpost _ _ _ _ _ _ ⟨Cond.after_iff.mpr rfl, Cond.after_iff.mpr (eq_i res_at (Term.int_eval (1)) rfl), trivial⟩ ⟨hq.1, hq.2.1, (hq.2.2.sift fun y hy => Or.inr (N y hy)).mono (by decide) (by decide)⟩⟩
theorem main_1_1 : Claimed_1_1 := comes_1 fun _ _ _ _ _ _ h hF => ⟨h.1, hF⟩
theorem main_1_2 : Claimed_1_2 := comes_1 fun _ _ _ _ _ _ h hF => ⟨h.2.1, hF⟩
end Jvm.Pilot.@@N@@
namespace Jvm.Pilot.@@N@@
open Jvm Jvm.ClassFile Sem Op Lib Jvm.Free Jvm.Stand Jvm.Pilot.@@N@@.Jvm.D
/-! MADE BY PROGRAM (witnessworld.py) out of the Statement's table words and the real class files: 12 classes; the members and pool entries that the words name. The judged class is class 1, her method 1. -/
namespace start1
open Jvm.ClassFile
def u (s : String) : CpInfo := .utf8 (stringToUtf16 s)
/-- a pool by its gaps: so many unusable entries, then the entry; so many at the end -/
def gap : Nat → List CpInfo → List CpInfo
  | 0, r => r
  | n + 1, r => .unusable :: gap n r
def poolList (es : List (Nat × CpInfo)) (last : Nat) : List CpInfo := es.foldr (fun e r => gap e.1 (e.2 :: r)) (gap last [])
def pool (es : List (Nat × CpInfo)) (last : Nat) : Array CpInfo := ⟨poolList es last⟩
def fileOf (pool : Array CpInfo) (this : Nat) (attrs : Array Attribute := #[]) (ms : Array MethodInfo := #[]) (fl : Nat := 33) (sup : Nat := 0) (ifs : Array Nat := #[]) (fds : Array FieldInfo := #[]) : ClassFile where
  minorVersion := 0
  majorVersion := 65
  constantPool := pool
  accessFlags := fl
  thisClass := this
  superClass := sup
  interfaces := ifs
  fields := fds
  methods := ms
  attributes := attrs
def plain (name : String) (sup : Option ClassId) : Class where
  name := name
  kind := .ordinary
  loader := none
  accessFlags := 33
  super := sup
  interfaces := #[]
  cf := none
  fields := #[]
  methods := #[]
  instanceTypes := #[]
  staticTypes := #[]
  resolved := #[]
  callSites := []
  init := .initialized
  statics := none
  mirror := none

def pool0 : Array CpInfo := pool [(5, u "<init>"), (0, u "()V"), (1, .class_ 10), (1, u "java/lang/Object")] 113

def k0m0 : Method := { name := "<init>", desc := "()V", sig := { parameters := [], returnType := none }, accessFlags := 1, code := none }
/-- java/lang/Object -/
def k0 : Class := { plain "java/lang/Object" none with
  accessFlags := 33
  interfaces := #[]
  cf := some (fileOf pool0 8 #[] #[{ accessFlags := 1, nameIndex := 5, descriptorIndex := 6, attributes := #[] }] 33 0 #[] #[])
  fields := #[]
  methods := #[k0m0]
  instanceTypes := #[]
  staticTypes := #[]
  resolved := Array.replicate 124 none
  statics := none }

def pool1 : Array CpInfo := pool [(2, .class_ 4), (1, u "java/lang/Object"), (0, u "<init>"), (0, u "()V"), (0, .integer 2147483647), (0, .fieldref 9 10), (0, .class_ 11), (0, .nameAndType 12 13), (0, u "com/example/xerith/xerith/Constraint$Verdict"), (0, u "IN"), (0, u "Lcom/example/xerith/xerith/Constraint$Verdict;"), (0, .fieldref 9 15), (0, .nameAndType 16 13), (0, u "OUT"), (0, .fieldref 9 18), (0, .nameAndType 19 13), (0, u "UNKNOWN"), (0, .methodref 9 21), (0, .nameAndType 22 23), (0, u "not"), (0, u "()Lcom/example/xerith/xerith/Constraint$Verdict;"), (0, .class_ 25), (0, u "com/example/xerith/xerith/VerdictNotPinLaw"), (2, u "law"), (0, u "(I)Z")] 7

def k1m0 : Method := { name := "<init>", desc := "()V", sig := { parameters := [], returnType := none }, accessFlags := 2, code := none }
def k1c1 : Code := { maxStack := 2, maxLocals := 5, code := code, exceptionTable := #[], attributes := #[] }
def k1m1 : Method := { name := "law", desc := "(I)Z", sig := { parameters := [.int], returnType := some .boolean }, accessFlags := 9, code := some k1c1 }
/-- com/example/xerith/xerith/VerdictNotPinLaw -/
def k1 : Class := { plain "com/example/xerith/xerith/VerdictNotPinLaw" (some 0) with
  accessFlags := 49
  interfaces := #[]
  cf := some (fileOf pool1 24 #[] #[{ accessFlags := 2, nameIndex := 5, descriptorIndex := 6, attributes := #[] }, { accessFlags := 9, nameIndex := 28, descriptorIndex := 29, attributes := #[] }] 49 2 #[] #[])
  fields := #[]
  methods := #[k1m0, k1m1]
  instanceTypes := #[]
  staticTypes := #[]
  resolved := Array.replicate 37 none
  statics := none }

def pool2 : Array CpInfo := pool [(1, .class_ 2), (0, u "java/lang/constant/Constable"), (0, .class_ 4), (0, u "java/lang/Object")] 6

/-- java/lang/constant/Constable -/
def k2 : Class := { plain "java/lang/constant/Constable" (some 0) with
  accessFlags := 1537
  interfaces := #[]
  cf := some (fileOf pool2 1 #[] #[] 1537 3 #[] #[])
  fields := #[]
  methods := #[]
  instanceTypes := #[]
  staticTypes := #[]
  resolved := Array.replicate 11 none
  statics := none }

def pool3 : Array CpInfo := pool [(1, .class_ 2), (0, u "java/lang/Comparable"), (0, .class_ 4), (0, u "java/lang/Object")] 7

/-- java/lang/Comparable -/
def k3 : Class := { plain "java/lang/Comparable" (some 0) with
  accessFlags := 1537
  interfaces := #[]
  cf := some (fileOf pool3 1 #[] #[] 1537 3 #[] #[])
  fields := #[]
  methods := #[]
  instanceTypes := #[]
  staticTypes := #[]
  resolved := Array.replicate 12 none
  statics := none }

def pool4 : Array CpInfo := pool [(1, .class_ 2), (0, u "java/io/Serializable"), (0, .class_ 4), (0, u "java/lang/Object")] 2

/-- java/io/Serializable -/
def k4 : Class := { plain "java/io/Serializable" (some 0) with
  accessFlags := 1537
  interfaces := #[]
  cf := some (fileOf pool4 1 #[] #[] 1537 3 #[] #[])
  fields := #[]
  methods := #[]
  instanceTypes := #[]
  staticTypes := #[]
  resolved := Array.replicate 7 none
  statics := none }

def pool5 : Array CpInfo := pool [(2, .class_ 4), (1, u "java/lang/Enum"), (0, u "name"), (0, u "Ljava/lang/String;"), (2, u "ordinal"), (0, u "I"), (1, .class_ 14), (1, u "java/lang/Object"), (4, u "hash"), (86, .class_ 108), (1, u "java/lang/Enum$EnumDesc"), (2, .class_ 112), (0, u "java/lang/constant/Constable"), (0, .class_ 114), (0, u "java/lang/Comparable"), (0, .class_ 116), (0, u "java/io/Serializable")] 87

/-- java/lang/Enum -/
def k5 : Class := { plain "java/lang/Enum" (some 0) with
  accessFlags := 1057
  interfaces := #[2, 3, 4]
  cf := some (fileOf pool5 2 #[.nestMembers #[106]] #[] 1057 12 #[111, 113, 115] #[{ accessFlags := 18, nameIndex := 5, descriptorIndex := 6, attributes := #[] }, { accessFlags := 18, nameIndex := 9, descriptorIndex := 10, attributes := #[] }, { accessFlags := 2, nameIndex := 19, descriptorIndex := 10, attributes := #[] }])
  fields := #[{ name := "name", type := (.object "java/lang/String"), accessFlags := 18, slot := 0, constantValue := 0 }, { name := "ordinal", type := .int, accessFlags := 18, slot := 1, constantValue := 0 }, { name := "hash", type := .int, accessFlags := 2, slot := 2, constantValue := 0 }]
  methods := #[]
  instanceTypes := #[(.object "java/lang/String"), .int, .int]
  staticTypes := #[]
  resolved := Array.replicate 204 none
  statics := none }

def pool6 : Array CpInfo := pool [(1, .class_ 2), (0, u "com/example/xerith/xerith/Constraint$Verdict"), (0, .fieldref 1 4), (0, .nameAndType 5 6), (0, u "IN"), (0, u "Lcom/example/xerith/xerith/Constraint$Verdict;"), (0, .fieldref 1 8), (0, .nameAndType 9 6), (0, u "OUT"), (0, .fieldref 1 11), (0, .nameAndType 12 6), (0, u "UNKNOWN"), (2, u "$VALUES"), (0, u "[Lcom/example/xerith/xerith/Constraint$Verdict;"), (6, .class_ 25), (1, u "java/lang/Enum"), (8, u "not"), (0, u "()Lcom/example/xerith/xerith/Constraint$Verdict;"), (28, .class_ 65), (0, u "com/example/xerith/xerith/Constraint")] 2

def k6c0 : Code := { maxStack := 2, maxLocals := 2, code := prog_46_method_7_code, exceptionTable := #[], attributes := #[] }
def k6m0 : Method := { name := "not", desc := "()Lcom/example/xerith/xerith/Constraint$Verdict;", sig := { parameters := [], returnType := some (.object "com/example/xerith/xerith/Constraint$Verdict") }, accessFlags := 0, code := some k6c0 }
/-- com/example/xerith/xerith/Constraint$Verdict -/
def k6 : Class := { plain "com/example/xerith/xerith/Constraint$Verdict" (some 5) with
  accessFlags := 16432
  interfaces := #[]
  cf := some (fileOf pool6 1 #[.nestHost 64] #[{ accessFlags := 0, nameIndex := 34, descriptorIndex := 35, attributes := #[] }] 16432 23 #[] #[{ accessFlags := 16409, nameIndex := 5, descriptorIndex := 6, attributes := #[] }, { accessFlags := 16409, nameIndex := 9, descriptorIndex := 6, attributes := #[] }, { accessFlags := 16409, nameIndex := 12, descriptorIndex := 6, attributes := #[] }, { accessFlags := 4122, nameIndex := 15, descriptorIndex := 16, attributes := #[] }])
  fields := #[{ name := "IN", type := (.object "com/example/xerith/xerith/Constraint$Verdict"), accessFlags := 16409, slot := 0, constantValue := 0 }, { name := "OUT", type := (.object "com/example/xerith/xerith/Constraint$Verdict"), accessFlags := 16409, slot := 1, constantValue := 0 }, { name := "UNKNOWN", type := (.object "com/example/xerith/xerith/Constraint$Verdict"), accessFlags := 16409, slot := 2, constantValue := 0 }, { name := "$VALUES", type := (.array (.object "com/example/xerith/xerith/Constraint$Verdict")), accessFlags := 4122, slot := 3, constantValue := 0 }]
  methods := #[k6m0]
  instanceTypes := #[(.object "java/lang/String"), .int, .int]
  staticTypes := #[(.object "com/example/xerith/xerith/Constraint$Verdict"), (.object "com/example/xerith/xerith/Constraint$Verdict"), (.object "com/example/xerith/xerith/Constraint$Verdict"), (.array (.object "com/example/xerith/xerith/Constraint$Verdict"))]
  resolved := Array.replicate 68 none
  statics := some 0 }

def pool7 : Array CpInfo := pool [(1, u "java/lang/Cloneable"), (0, .class_ 1), (0, u "java/lang/Object"), (0, .class_ 3)] 3

/-- java/lang/Cloneable -/
def k7 : Class := { plain "java/lang/Cloneable" (some 0) with
  accessFlags := 1537
  interfaces := #[]
  cf := some (fileOf pool7 2 #[] #[] 1537 4 #[] #[])
  fields := #[]
  methods := #[]
  instanceTypes := #[]
  staticTypes := #[]
  resolved := Array.replicate 8 none
  statics := none }

/-- the primitive byte -/
def k8 : Class := { plain "byte" none with kind := .primitive 'B', accessFlags := 0x411 }
/-- [B -/
def k9 : Class := { plain "[B" (some 0) with kind := .array 8 .byte, interfaces := #[7, 4], accessFlags := 1041 }

/-- the primitive int -/
def k10 : Class := { plain "int" none with kind := .primitive 'I', accessFlags := 0x411 }
/-- [I -/
def k11 : Class := { plain "[I" (some 0) with kind := .array 10 .int, interfaces := #[7, 4], accessFlags := 1041 }

def heap : Heap := #[{ cls := 6, slots := #[.ref 1, .ref 2, .ref 3, .null], vm := .statics 6 },
  { cls := 6, slots := #[.null, .int 0, .int 0], vm := .none },
  { cls := 6, slots := #[.null, .int 1, .int 0], vm := .none },
  { cls := 6, slots := #[.null, .int 2, .int 0], vm := .none }]
def classes : Array Class := #[k0, k1, k2, k3, k4, k5, k6, k7, k8, k9, k10, k11]
def interned : List (Array UInt16 × Addr) := []
def slotsUsed : Nat := 13
def theMethod : MethodId := ⟨1, 1⟩
def args0 : Array Value := #[.int 5]
def aboutOver (below : List Frame) : State where
  vm := { classes := classes, interned := interned.toArray }
  heap := heap
  slotsUsed := slotsUsed
  threads := #[{ frames := .invoking theMethod args0 :: below }]
def below0 : List Frame := [.native { method := ⟨0, 0⟩, args := #[] }]
def about1 : State := aboutOver below0
def p0 : Program := .bare "" "" ""
def e0 : Env := launch0.env 0 0 0
theorem w_frames : about1.frames = Frame.invoking theMethod args0 :: below0 := rfl
set_option maxRecDepth 65536 in
theorem w_args : argsFit about1.vm theMethod args0 = true := by decide +kernel
set_option maxRecDepth 65536 in
theorem w_heap : heapFits about1 = true := by decide +kernel
set_option maxRecDepth 65536 in
theorem w_runnable : about1.curStatus? = some .runnable := by decide +kernel
set_option maxRecDepth 65536 in
theorem w_alone : about1.alone = true := by decide +kernel
set_option maxRecDepth 65536 in
theorem w_named : about1.methodNamed? x = some theMethod := by decide +kernel
set_option maxRecDepth 65536 in
theorem w_hears : about1.hears theMethod below0 = true := by decide +kernel
set_option maxRecDepth 65536 in
theorem w_ripe : about1.ripe theMethod args0 below0 = true := by decide +kernel
theorem w_running : about1.status = .running := rfl
set_option maxRecDepth 65536 in
theorem w_room : about1.hasRoom e0.platform room_1 = true :=
  launch0.hasRoom_least _ room_1 (by decide +kernel) (by decide +kernel) (by decide +kernel) (by decide +kernel) (by decide +kernel) (by decide +kernel)
theorem allAtoms_all (ts : List Jvm.Cond) (a : Array Jvm.Value) (st : Jvm.State) : (allAtoms ts).before a st = ts.all (fun c => c.before a st) := by
  induction ts with
  | nil => rfl
  | cons c t ih =>
    show (Jvm.Cond.and c (allAtoms t)).before a st = _
    rw [Jvm.Cond.before_and, ih, List.all_cons]
def words1 : List Jvm.Cond := Jvm.Cond.code x code maxLocals ret :: tables_1
/-- a 'code' word, met by the world's own term for the bytes: nothing is compared byte by byte -/
theorem code_word {y : MethodName} {bytes : ByteArray} {mx : Nat} {rt : Option FieldType} {a : Array Value} {s : State} {m : MethodId} {meth : Method} {c : Code} (h1 : s.methodNamed? y = some m) (h2 : s.vm.method? m = some meth) (h3 : meth.code = some c) (h4 : c.code = bytes)
    (h5 : (c.maxLocals == mx && c.exceptionTable.isEmpty && decide (c.maxStack ≤ mostOperands) && decide (meth.sig.returnType = rt) && !meth.locks && decide (parseMethodDescriptor y.desc = some meth.sig)) = true) : (Jvm.Cond.code y bytes mx rt).before a s = true := by
  simp only [Bool.and_eq_true, beq_iff_eq, Bool.not_eq_true', decide_eq_true_eq] at h5
  obtain ⟨⟨⟨⟨⟨g1, g2⟩, g3⟩, g4⟩, g5⟩, g6⟩ := h5
  simp [Cond.before, Cond.holds, Cond.value, h1, h2, h3, h4, g1, g2, g3, g4, g5, g6]
def isCode : Jvm.Cond → Bool
  | .code _ _ _ _ => true
  | _ => false
theorem all_split {L : List Jvm.Cond} {P : Jvm.Cond → Bool} (h1 : L.all (fun c => isCode c || P c) = true) (h2 : ∀ c ∈ L.filter isCode, P c = true) : L.all P = true := by
  refine List.all_eq_true.mpr fun c hc => ?_
  have h := List.all_eq_true.mp h1 c hc
  rcases Bool.eq_false_or_eq_true (isCode c) with hi | hi
  · exact h2 c (List.mem_filter.mpr ⟨hc, hi⟩)
  · simpa [hi] using h
set_option maxRecDepth 65536 in
theorem w_c0 : (Jvm.Cond.code x code maxLocals ret).before args0 about1 = true := code_word (m := ⟨1, 1⟩) (meth := k1m1) (c := k1c1) (by decide +kernel) rfl rfl rfl (by decide +kernel)
set_option maxRecDepth 65536 in
theorem w_c1 : (Jvm.Cond.code ({ cls := "com/example/xerith/xerith/Constraint$Verdict", name := "not", desc := "()Lcom/example/xerith/xerith/Constraint$Verdict;" } : Jvm.MethodName) prog_46_method_7_code (2 : Nat) (Option.some (Jvm.ClassFile.FieldType.object "com/example/xerith/xerith/Constraint$Verdict"))).before args0 about1 = true := code_word (m := ⟨6, 0⟩) (meth := k6m0) (c := k6c0) (by decide +kernel) rfl rfl rfl (by decide +kernel)
def codes1 : List Jvm.Cond := [Jvm.Cond.code x code maxLocals ret, Jvm.Cond.code ({ cls := "com/example/xerith/xerith/Constraint$Verdict", name := "not", desc := "()Lcom/example/xerith/xerith/Constraint$Verdict;" } : Jvm.MethodName) prog_46_method_7_code (2 : Nat) (Option.some (Jvm.ClassFile.FieldType.object "com/example/xerith/xerith/Constraint$Verdict"))]
set_option maxRecDepth 65536 in
theorem codes_eq : words1.filter isCode = codes1 := rfl
theorem w_codes : ∀ c ∈ words1.filter isCode, c.before args0 about1 = true := by
  rw [codes_eq]
  intro c hc
  simp only [codes1, List.mem_cons, List.not_mem_nil, or_false] at hc
  rcases hc with rfl | rfl
  · exact w_c0
  · exact w_c1
set_option maxRecDepth 65536 in
theorem w_t1 : words1.all (fun c => isCode c || c.before args0 about1) = true := by decide +kernel
theorem w_tables : (allAtoms (Jvm.Cond.code x code maxLocals ret :: tables_1)).before args0 about1 = true := by
  rw [allAtoms_all]
  show words1.all (fun c => c.before args0 about1) = true
  refine all_split ?_ w_codes
  rw [w_t1]
set_option maxRecDepth 65536 in
theorem w_case : (Jvm.Cond.and given_1 narrow_1).before args0 about1 = true := by decide +kernel
theorem w_applies : (headSpec (Jvm.Cond.code x code maxLocals ret :: tables_1) room_1).applies x e0.platform about1 = true :=
  (Spec.applies_iff w_frames).mpr ⟨w_running, w_runnable, w_alone, w_named, w_hears, w_ripe, w_room, w_tables⟩
theorem atStart : AtStart classFile x code maxLocals ret World_1 tables_1 room_1 Calls_1 rest_1 Pre_1 launch0 p0 e0 about1 theMethod args0 below0 :=
  ⟨lists_1, trivial, launch0.admits_env _ _ _, launch0.least_env, fairChoices_fair.cas, fairChoices_fair.clock, w_frames, w_args, w_heap, w_applies, trivial, trivial, w_case⟩
end start1
theorem witness_1 : WitnessClaimed_1 := ⟨start1.p0, start1.e0, start1.about1, start1.theMethod, start1.args0, start1.below0, start1.atStart⟩
end Jvm.Pilot.@@N@@
