import JvmDerived
import JvmDerived.Pilot.@@N@@Statement
import JvmDerived.Pilot.@@N@@Code
set_option linter.unusedVariables false
set_option linter.unusedSimpArgs false
namespace Jvm.Pilot.@@N@@
open Jvm Jvm.ClassFile Sem Op Lib Jvm.Free Jvm.Stand Jvm.LawKit Jvm.RoadKit Bundle Jvm.Pilot.@@N@@.Jvm.D
/-! own prelude: 'own_Goes' says that from state T with top frame g the invocation comes to its end with what Q says -/
section OwnPrelude
variable {p : Program} {l : Launch} {e : Env} {R : Room} {s : State} {m : MethodId} {args : Array Value} {below : List Frame} {meth : Method} {c : Code} {T T' : State} {locs : List Loc} {cells slots : Nat} {Z : State} {a0 : Array Value} {h : Heap} {kc ks : Nat} {Q : Option Value → Heap → List Loc → Prop} {g g' : JFrame}
def own_Goes (p : Program) (e : Env) (below : List Frame) (s : State) (kc ks : Nat) (Q : Option Value → Heap → List Loc → Prop) (T : State) (g : JFrame) : Prop :=
  ∃ t o, Steps p.tables e below (T.setTop g) t ∧ t.status = .running ∧ Ended t below o ∧ ∃ v L, o = .returned v ∧ Q v t.heap L ∧ FrameEnd s o t L kc ks
abbrev own_Ctr (l : Launch) (Z : State) (y : MethodName) (bytes : ByteArray) (maxL : Nat) (ret : Option FieldType) (ws : List Jvm.Cond) (rm : Room) (kc ks : Nat) (as' : Array Value) (h : Heap) (Q : Option Value → Heap → List Loc → Prop) : Prop :=
  MetFree l y (head1 (Jvm.Cond.code y bytes maxL ret :: ws) rm) (fun a U => a = as' ∧ Z.Warmed39 U.vm ∧ U.heap = h) (fun _ _ _ _ _ => True) (fun _ U o U' => ∃ v L, o = .returned v ∧ Q v U'.heap L ∧ FrameEnd U o U' L kc ks)
theorem own_by (st : ∀ t, Steps p.tables e below (T'.setTop g') t → Steps p.tables e below (T.setTop g) t) (k : own_Goes p e below s kc ks Q T' g') : own_Goes p e below s kc ks Q T g := by
  obtain ⟨t, o, h1, r⟩ := k; exact ⟨t, o, st t h1, r⟩
theorem own_cast (q : g = g') (k : own_Goes p e below s kc ks Q T g') : own_Goes p e below s kc ks Q T g := q ▸ k
theorem own_enter {y : MethodName} {bytes : ByteArray} {maxL : Nat} {ret : Option FieldType} {ws : List Jvm.Cond} {rm : Room} {as' : Array Value} (hpl : plainFor y = true)
    (k : ∀ p e s m below meth c s₁, Stand p l e rm s m as' below meth c s₁ [] 0 0 → p.tables.exec = Jvm.exec → Z.Warmed39 s.vm → c.code = bytes → c.maxLocals = maxL → s.vm.findClass y.cls = some m.cls → meth.name = y.name → meth.locks = false → meth.sig.returnType = ret → s₁.heap = h → own_Goes p e below s kc ks Q s₁ (entryFrame m as' maxL)) :
    own_Ctr l Z y bytes maxL ret ws rm kc ks as' h Q := by
  refine MetFree.of_bodySF hpl hisR ?_
  intro p e s m args below meth c s₁ Bd hml0 hP hK
  obtain ⟨rfl, hZ, hh⟩ := hP
  exact k p e s m below meth c s₁ (Stand.of_body Bd) Bd.exec hZ Bd.bytes hml0 (findClass_of_methodNamed Bd.named) (name_of_methodNamed Bd.named Bd.method).1 Bd.notSynchronized Bd.returns (by rw [← hh, Bd.state]; rfl)
theorem own_mono (X : Stand p l e R s m args below meth c T locs cells slots) {c' n' : Nat} (h1 : cells ≤ c') (h2 : slots ≤ n') : Stand p l e R s m args below meth c T locs c' n' :=
  { X with same := X.same.mono h1 h2 }
theorem own_out (X : Stand p l e R s m args below meth c T locs cells slots) (hlk : meth.locks = false) {v : Option Value} (hv : meth.sig.returnType = none → v = none)
    (st : ∀ fs, (∀ (f : JFrame) (acts : List Action), f.method = m → f.locked = none → f.entered = [] → (doReturn e (T.setTop f) acts v).1 = T.setFrames fs) → Steps p.tables e below (T.setTop g) (T.setFrames fs))
    (hc : cells ≤ kc) (hs : slots ≤ ks) (hQ : Q v T.heap locs) : own_Goes p e below s kc ks Q T g := by
  obtain ⟨fs, hr, hrun, hended, hW, hsame⟩ := X.leave (v := v) hv hlk
  exact ⟨_, _, st fs hr, hrun, hended, v, locs, rfl, hQ, ⟨_, rfl⟩, hW, hsame.mono hc hs⟩
theorem own_ret {w : Value} {t : FieldType} {i : Instr} {pc : Nat} {Ls : Array Slot} {rest : List Value} (X : Stand p l e R s m args below meth c T locs cells slots) (hx : p.tables.exec = Jvm.exec) (hlk : meth.locks = false) (hret : meth.sig.returnType = some t) (hn : narrow t w = w)
    (hi : (i = .ireturn ∧ (t = .int ∨ t = .boolean ∨ t = .byte ∨ t = .char ∨ t = .short) ∧ ∃ z, w = .int z) ∨ (i = .lreturn ∧ t = .long ∧ ∃ z, w = .long z) ∨ (i = .dreturn ∧ t = .double ∧ ∃ z, w = .double z) ∨ (i = .freturn ∧ t = .float ∧ ∃ z, w = .float z) ∨ (i = .areturn ∧ t.isReference = true ∧ w.isRef = true))
    (hd : decode c.code pc = .ok (i, 1)) (hc : cells ≤ kc) (hs : slots ≤ ks) (hQ : Q (some w) T.heap locs) : own_Goes p e below s kc ks Q T (mkF m pc Ls (w :: rest)) :=
  own_out X hlk (fun h => by rw [hret] at h; cases h) (fun fs hr => retOut X hx hret hn hi hd hr) hc hs hQ
theorem own_retI {z : Int32} {pc : Nat} {Ls : Array Slot} {rest : List Value} (X : Stand p l e R s m args below meth c T locs cells slots) (hx : p.tables.exec = Jvm.exec) (hlk : meth.locks = false) (hret : meth.sig.returnType = some .int)
    (hd : decode c.code pc = .ok (.ireturn, 1)) (hc : cells ≤ kc) (hs : slots ≤ ks) (hQ : Q (some (.int z)) T.heap locs) : own_Goes p e below s kc ks Q T (mkF m pc Ls (.int z :: rest)) :=
  own_ret X hx hlk hret rfl (Or.inl ⟨rfl, Or.inl rfl, z, rfl⟩) hd hc hs hQ
theorem own_retJ {z : Int64} {pc : Nat} {Ls : Array Slot} {rest : List Value} (X : Stand p l e R s m args below meth c T locs cells slots) (hx : p.tables.exec = Jvm.exec) (hlk : meth.locks = false) (hret : meth.sig.returnType = some .long)
    (hd : decode c.code pc = .ok (.lreturn, 1)) (hc : cells ≤ kc) (hs : slots ≤ ks) (hQ : Q (some (.long z)) T.heap locs) : own_Goes p e below s kc ks Q T (mkF m pc Ls (.long z :: rest)) :=
  own_ret X hx hlk hret rfl (Or.inr (Or.inl ⟨rfl, rfl, z, rfl⟩)) hd hc hs hQ
theorem own_retD {z : UInt64} {pc : Nat} {Ls : Array Slot} {rest : List Value} (X : Stand p l e R s m args below meth c T locs cells slots) (hx : p.tables.exec = Jvm.exec) (hlk : meth.locks = false) (hret : meth.sig.returnType = some .double)
    (hd : decode c.code pc = .ok (.dreturn, 1)) (hc : cells ≤ kc) (hs : slots ≤ ks) (hQ : Q (some (.double z)) T.heap locs) : own_Goes p e below s kc ks Q T (mkF m pc Ls (.double z :: rest)) :=
  own_ret X hx hlk hret rfl (Or.inr (Or.inr (Or.inl ⟨rfl, rfl, z, rfl⟩))) hd hc hs hQ
theorem own_fitR {t : FieldType} {w : Value} (ht : t.isReference = true) (hw : w.isRef = true) : fits t w = true := by cases t <;> simp [FieldType.isReference] at ht <;> rcases ref_cases hw with rfl | ⟨a, rfl⟩ <;> rfl
theorem own_cat1 {w : Value} (hw : w.isRef = true) : w.category = 1 := by rcases ref_cases hw with rfl | ⟨a, rfl⟩ <;> rfl
theorem own_stG {ls l' : Array Slot} {i : Nat} {v : Value} {o : Slot} (hold : ls[i]? = some o) (ho : o = .unset ∨ ∃ w, o = .val w ∧ w.category = 1) (hv : v.category = 1) (q : ls.setIfInBounds i (.val v) = l') : storeLocals ls i v = some l' := q ▸ XS.store1 hold ho hv
theorem own_narR {t : FieldType} {w : Value} (ht : t.isReference = true) : narrow t w = w := by cases t <;> simp [FieldType.isReference] at ht <;> cases w <;> rfl
theorem own_retA {w : Value} {t : FieldType} {pc : Nat} {Ls : Array Slot} {rest : List Value} (X : Stand p l e R s m args below meth c T locs cells slots) (hx : p.tables.exec = Jvm.exec) (hlk : meth.locks = false) (hret : meth.sig.returnType = some t) (ht : t.isReference = true) (hw : w.isRef = true)
    (hd : decode c.code pc = .ok (.areturn, 1)) (hc : cells ≤ kc) (hs : slots ≤ ks) (hQ : Q (some w) T.heap locs) : own_Goes p e below s kc ks Q T (mkF m pc Ls (w :: rest)) :=
  own_ret X hx hlk hret (own_narR ht) (Or.inr (Or.inr (Or.inr (Or.inr ⟨rfl, ht, hw⟩)))) hd hc hs hQ
theorem own_retN {z : Int32} {t : FieldType} {pc : Nat} {Ls : Array Slot} {rest : List Value} (X : Stand p l e R s m args below meth c T locs cells slots) (hx : p.tables.exec = Jvm.exec) (hlk : meth.locks = false) (hret : meth.sig.returnType = some t) (ht : t = .boolean ∨ t = .byte ∨ t = .char ∨ t = .short)
    (hd : decode c.code pc = .ok (.ireturn, 1)) (hc : cells ≤ kc) (hs : slots ≤ ks) (hQ : Q (some (.int (nar t z))) T.heap locs) : own_Goes p e below s kc ks Q T (mkF m pc Ls (.int z :: rest)) :=
  own_out X hlk (fun h => by rw [hret] at h; cases h) (fun fs hr => retN X hx hret ht hd hr) hc hs hQ
theorem own_retV {pc : Nat} {Ls : Array Slot} (X : Stand p l e R s m args below meth c T locs cells slots) (hx : p.tables.exec = Jvm.exec) (hlk : meth.locks = false) (hret : meth.sig.returnType = none)
    (hd : decode c.code pc = .ok (.return_, 1)) (hc : cells ≤ kc) (hs : slots ≤ ks) (hQ : Q none T.heap locs) : own_Goes p e below s kc ks Q T (mkF m pc Ls []) :=
  own_out X hlk (fun _ => rfl) (fun fs hr => X.returnOut hx hret hd hr) hc hs hQ
/-- an array of that type and length, whatever it holds -/
def own_Arz (Z : State) (h : Heap) (a : Addr) (ty : FieldType) (z : Int32) : Prop := ∃ c : Cell, Arr Z h a c ty ∧ c.slots.size = z.toNatClampNeg ∧ ¬ z < 0
theorem own_Arz.of {a : Addr} {k : ClassId} {ty : FieldType} {z : Int32} {vs : List Value} {dv : Value} (F : Arv Z h a k ty z vs dv) : own_Arz Z h a ty z := by obtain ⟨c, A, -, S, q, -⟩ := F; exact ⟨c, A, S, q⟩
theorem own_Arz.lt {a : Addr} {ty : FieldType} {z : Int32} (F : own_Arz Z h a ty z) : a < h.size := by obtain ⟨c, A, -⟩ := F; exact A.lt
theorem own_Arz.ext {h' : Heap} {a : Addr} {ty : FieldType} {z : Int32} (F : own_Arz Z h a ty z) (E : Ext h h') : own_Arz Z h' a ty z := by obtain ⟨c, A, r⟩ := F; exact ⟨c, A.ext E, r⟩
theorem own_Arz.other {h' : Heap} {a b : Addr} {ty : FieldType} {z : Int32} {sl : Nat} {v : Value} (F : own_Arz Z h b ty z) (W : Wr h h' a sl v) (q : b ≠ a) : own_Arz Z h' b ty z := by obtain ⟨c, A, r⟩ := F; exact ⟨c, A.other W q, r⟩
theorem own_Arz.same {h' : Heap} {a : Addr} {ty : FieldType} {z : Int32} {sl : Nat} {v : Value} (F : own_Arz Z h a ty z) (W : Wr h h' a sl v) : own_Arz Z h' a ty z := by obtain ⟨c, A, r1, r2⟩ := F; exact ⟨_, A.same W, by rw [sz_set]; exact r1, r2⟩
theorem own_Arz.keep {h' : Heap} {a : Addr} {ty : FieldType} {z : Int32} {ws : List Addr} (F : own_Arz Z h a ty z) (K : Keep h h' ws) (q : a ∉ ws) : own_Arz Z h' a ty z := by obtain ⟨c, A, r⟩ := F; exact ⟨c, ⟨K.2.1 a c A.1 q, A.2⟩, r⟩
section OwnCalls
variable {own : String} {index : Nat} {y z : MethodName} {bytes : ByteArray} {maxL : Nat} {ret : Option FieldType} {rm : Room} {Q' : Option Value → Heap → List Loc → Prop} {argsL rest : List Value}
theorem own_callS (X : Stand p l e R s m args below meth c T locs cells slots) (hx : p.tables.exec = Jvm.exec) (hZ : Z.Warmed39 s.vm) (hown : s.vm.findClass own = some m.cls)
    (w1 : (Cond.methodLink own index y).before a0 Z = true) (w2 : (Cond.static y).before a0 Z = true) (w3 : (Cond.initialized y.cls).before a0 Z = true) (w4 : (Cond.code y bytes maxL ret).before a0 Z = true)
    (hy : y.cls ≠ "java/lang/invoke/MethodHandle" ∧ y.cls ≠ "java/lang/invoke/VarHandle") (hM : own_Ctr l Z y bytes maxL ret [] rm rm.cells rm.slots argsL.toArray h Q') (W : Nat)
    (hf : rm.frames + 1 ≤ R.frames) (hl : W + (maxL + 11) + rm.locals ≤ R.locals) (hc : cells + rm.cells ≤ R.cells) (hs : slots + rm.slots ≤ R.slots) (eT : T.heap = h)
    (hg : g.method = m) (hsize : g.locals.size = c.maxLocals) (hlen : ∀ sig, parseMethodDescriptor y.desc = some sig → argsL.length = sig.parameters.length) (hstack : g.stack = argsL.reverse ++ rest)
    (hW : 2 * g.monitorRoom + (rest.map fun v => v.category).sum ≤ W) (hd : decode c.code g.pc = .ok (.invokestatic index, 3))
    (k : ∀ v T' L, Stand p l e R s m args below meth c T' (locs ++ L) (cells + rm.cells) (slots + rm.slots) → Q' v T'.heap L → own_Goes p e below s kc ks Q T' { g with pc := g.pc + 3, stack := v.toList ++ rest }) : own_Goes p e below s kc ks Q T g := by
  obtain ⟨v, _, ⟨T', L', k', n'⟩, -, X', ⟨Lc, hQ, l1, y1, z1⟩, st⟩ := Jvm.LawKit.callS X hx hown (mvT hZ w1) (mvT hZ w2) (mvT hZ w3) (mvT hZ w4) hy (backOf (W := W) hM hZ w4 w3 hf hl) hg hsize hlen hstack hW hd (fun _ _ => ⟨rfl, eT, hc, hs⟩)
  dsimp only [Pt.U, Pt.locs, Pt.cells, Pt.slots] at X' l1 y1 z1 st hQ
  subst l1 y1 z1
  exact own_by st (k v T' Lc X' hQ)
theorem own_callI (X : Stand p l e R s m args below meth c T locs cells slots) (hx : p.tables.exec = Jvm.exec) (hZ : Z.Warmed39 s.vm) (hown : s.vm.findClass own = some m.cls) (hy1 : y.name = "<init>")
    (w1 : (Cond.methodLink own index y).before a0 Z = true) (w2 : (Cond.instanceMethod y).before a0 Z = true) (w3 : (Cond.initialized y.cls).before a0 Z = true) (w4 : (Cond.code y bytes maxL none).before a0 Z = true)
    (hy : y.cls ≠ "java/lang/invoke/MethodHandle" ∧ y.cls ≠ "java/lang/invoke/VarHandle") {a : Addr} (hM : own_Ctr l Z y bytes maxL none [] rm rm.cells rm.slots (.ref a :: argsL).toArray h Q') (W : Nat)
    (hf : rm.frames + 1 ≤ R.frames) (hl : W + (maxL + 11) + rm.locals ≤ R.locals) (hc : cells + rm.cells ≤ R.cells) (hs : slots + rm.slots ≤ R.slots) (eT : T.heap = h)
    (hg : g.method = m) (hsize : g.locals.size = c.maxLocals) (hlen : ∀ sig, parseMethodDescriptor y.desc = some sig → argsL.length = sig.parameters.length) (hstack : g.stack = argsL.reverse ++ .ref a :: rest)
    (hW : 2 * g.monitorRoom + (rest.map fun v => v.category).sum ≤ W) (hd : decode c.code g.pc = .ok (.invokespecial index, 3))
    (k : ∀ v T' L, Stand p l e R s m args below meth c T' (locs ++ L) (cells + rm.cells) (slots + rm.slots) → Q' v T'.heap L → own_Goes p e below s kc ks Q T' { g with pc := g.pc + 3, stack := v.toList ++ rest }) : own_Goes p e below s kc ks Q T g := by
  obtain ⟨v, _, ⟨T', L', k', n'⟩, -, X', ⟨Lc, hQ, l1, y1, z1⟩, st⟩ := X.specialBack hx hy1 hown (mvT hZ w1) (mvT hZ w2) (mvT hZ w4) hy (backOf (W := W) hM hZ w4 w3 hf hl) hg hsize (Steps.refl _) hlen hstack hW hd (fun _ _ => ⟨rfl, eT, hc, hs⟩)
  dsimp only [Pt.U, Pt.locs, Pt.cells, Pt.slots] at X' l1 y1 z1 st hQ
  subst l1 y1 z1
  exact own_by (fun t kt => st.trans kt) (k v T' Lc X' hQ)
theorem own_callIN {host : String} (X : Stand p l e R s m args below meth c T locs cells slots) (hx : p.tables.exec = Jvm.exec) (hZ : Z.Warmed39 s.vm) (hown : s.vm.findClass own = some m.cls) (hy1 : y.name = "<init>")
    (w1 : (Cond.methodLinkNest own index y host).before a0 Z = true) (w2 : (Cond.instanceMethod y).before a0 Z = true) (w3 : (Cond.initialized y.cls).before a0 Z = true) (w4 : (Cond.code y bytes maxL none).before a0 Z = true)
    (hy : y.cls ≠ "java/lang/invoke/MethodHandle" ∧ y.cls ≠ "java/lang/invoke/VarHandle") {a : Addr} (hM : own_Ctr l Z y bytes maxL none [] rm rm.cells rm.slots (.ref a :: argsL).toArray h Q') (W : Nat)
    (hf : rm.frames + 1 ≤ R.frames) (hl : W + (maxL + 11) + rm.locals ≤ R.locals) (hc : cells + rm.cells ≤ R.cells) (hs : slots + rm.slots ≤ R.slots) (eT : T.heap = h)
    (hg : g.method = m) (hsize : g.locals.size = c.maxLocals) (hlen : ∀ sig, parseMethodDescriptor y.desc = some sig → argsL.length = sig.parameters.length) (hstack : g.stack = argsL.reverse ++ .ref a :: rest)
    (hW : 2 * g.monitorRoom + (rest.map fun v => v.category).sum ≤ W) (hd : decode c.code g.pc = .ok (.invokespecial index, 3))
    (k : ∀ v T' L, Stand p l e R s m args below meth c T' (locs ++ L) (cells + rm.cells) (slots + rm.slots) → Q' v T'.heap L → own_Goes p e below s kc ks Q T' { g with pc := g.pc + 3, stack := v.toList ++ rest }) : own_Goes p e below s kc ks Q T g := by
  obtain ⟨v, _, ⟨T', L', k', n'⟩, -, X', ⟨Lc, hQ, l1, y1, z1⟩, st⟩ := X.specialBackNest hx hy1 hown (Cond.methodLinkNest_wide hZ w1 :) (mvT hZ w2) (mvT hZ w4) hy (backOf (W := W) hM hZ w4 w3 hf hl) hg hsize (Steps.refl _) hlen hstack hW hd (fun _ _ => ⟨rfl, eT, hc, hs⟩)
  dsimp only [Pt.U, Pt.locs, Pt.cells, Pt.slots] at X' l1 y1 z1 st hQ
  subst l1 y1 z1
  exact own_by (fun t kt => st.trans kt) (k v T' Lc X' hQ)
theorem own_callV {C : String} (X : Stand p l e R s m args below meth c T locs cells slots) (hx : p.tables.exec = Jvm.exec) (hZ : Z.Warmed39 s.vm) (hown : s.vm.findClass own = some m.cls)
    (w1 : (Cond.methodLink own index y).before a0 Z = true) (w2 : (Cond.declares y).before a0 Z = true) (hnf : NotFace s y) (w3 : (Cond.selects C y z).before a0 Z = true) (w4 : (Cond.instanceMethod z).before a0 Z = true) (w5 : (Cond.code z bytes maxL ret).before a0 Z = true) (w6 : (Cond.initialized z.cls).before a0 Z = true)
    (hy : y.cls ≠ "java/lang/invoke/MethodHandle" ∧ y.cls ≠ "java/lang/invoke/VarHandle") {a : Addr} (E : Exa Z h a C) (hM : own_Ctr l Z z bytes maxL ret [] rm rm.cells rm.slots (.ref a :: argsL).toArray h Q') (W : Nat)
    (hf : rm.frames + 1 ≤ R.frames) (hl : W + (maxL + 11) + rm.locals ≤ R.locals) (hc : cells + rm.cells ≤ R.cells) (hs : slots + rm.slots ≤ R.slots) (eT : T.heap = h)
    (hg : g.method = m) (hsize : g.locals.size = c.maxLocals) (hlen : ∀ sig, parseMethodDescriptor y.desc = some sig → argsL.length = sig.parameters.length) (hstack : g.stack = argsL.reverse ++ .ref a :: rest)
    (hW : 2 * g.monitorRoom + (rest.map fun v => v.category).sum ≤ W) (hd : decode c.code g.pc = .ok (.invokevirtual index, 3))
    (k : ∀ v T' L, Stand p l e R s m args below meth c T' (locs ++ L) (cells + rm.cells) (slots + rm.slots) → Q' v T'.heap L → own_Goes p e below s kc ks Q T' { g with pc := g.pc + 3, stack := v.toList ++ rest }) : own_Goes p e below s kc ks Q T g := by
  obtain ⟨cq, kq, qa, qb, qc⟩ := isOf hZ eT E
  obtain ⟨v, _, ⟨T', L', k', n'⟩, -, X', ⟨Lc, hQ, l1, y1, z1⟩, st⟩ := X.virtualBack hx hown (mvT hZ w1) (mvT hZ w2) hnf (mvT hZ w3) (mvT hZ w4) hy (backOf (W := W) hM hZ w5 w6 hf hl) qa qc hg hsize (Steps.refl _) hlen hstack hW hd (fun _ _ => ⟨rfl, eT, hc, hs⟩)
  dsimp only [Pt.U, Pt.locs, Pt.cells, Pt.slots] at X' l1 y1 z1 st hQ
  subst l1 y1 z1
  exact own_by (fun t kt => st.trans kt) (k v T' Lc X' hQ)
theorem own_callP (X : Stand p l e R s m args below meth c T locs cells slots) (hx : p.tables.exec = Jvm.exec) (hZ : Z.Warmed39 s.vm) (hown : s.vm.findClass own = some m.cls)
    (w1 : (Cond.methodLink own index y).before a0 Z = true) (w2 : (Cond.instanceMethod y).before a0 Z = true) (w3 : (Cond.selects y.cls y y).before a0 Z = true) (w4 : (Cond.privateMethod y).before a0 Z = true) (w5 : (Cond.code y bytes maxL ret).before a0 Z = true) (w6 : (Cond.initialized y.cls).before a0 Z = true)
    (hy : y.cls ≠ "java/lang/invoke/MethodHandle" ∧ y.cls ≠ "java/lang/invoke/VarHandle") {a : Addr} {C : String} (E : Exa Z h a C) (hM : own_Ctr l Z y bytes maxL ret [] rm rm.cells rm.slots (.ref a :: argsL).toArray h Q') (W : Nat)
    (hf : rm.frames + 1 ≤ R.frames) (hl : W + (maxL + 11) + rm.locals ≤ R.locals) (hc : cells + rm.cells ≤ R.cells) (hs : slots + rm.slots ≤ R.slots) (eT : T.heap = h)
    (hg : g.method = m) (hsize : g.locals.size = c.maxLocals) (hlen : ∀ sig, parseMethodDescriptor y.desc = some sig → argsL.length = sig.parameters.length) (hstack : g.stack = argsL.reverse ++ .ref a :: rest)
    (hW : 2 * g.monitorRoom + (rest.map fun v => v.category).sum ≤ W) (hd : decode c.code g.pc = .ok (.invokevirtual index, 3))
    (k : ∀ v T' L, Stand p l e R s m args below meth c T' (locs ++ L) (cells + rm.cells) (slots + rm.slots) → Q' v T'.heap L → own_Goes p e below s kc ks Q T' { g with pc := g.pc + 3, stack := v.toList ++ rest }) : own_Goes p e below s kc ks Q T g := by
  obtain ⟨cq, q1, q2⟩ := E.cell
  obtain ⟨v, _, ⟨T', L', k', n'⟩, -, X', ⟨Lc, hQ, l1, y1, z1⟩, st⟩ := X.privateBack hx hown (mvT hZ w1) (mvT hZ w2) (mvT hZ w3) (Cond.privateMethod_at (mvP hZ w4 (args := #[]))) (mvT hZ w5) hy (backOf (W := W) hM hZ w5 w6 hf hl) hg hsize (Steps.refl _) (a := a) (by rw [eT]; exact q1) q2 hlen hstack hW hd (fun _ _ => ⟨rfl, eT, hc, hs⟩)
  dsimp only [Pt.U, Pt.locs, Pt.cells, Pt.slots] at X' l1 y1 z1 st hQ
  subst l1 y1 z1
  exact own_by (fun t kt => st.trans kt) (k v T' Lc X' hQ)
theorem own_callF {C : String} {count : Nat} (X : Stand p l e R s m args below meth c T locs cells slots) (hx : p.tables.exec = Jvm.exec) (hZ : Z.Warmed39 s.vm) (hown : s.vm.findClass own = some m.cls)
    (w1 : (Cond.methodLink own index y).before a0 Z = true) (w2 : (Cond.declares y).before a0 Z = true) (w2f : (Cond.interfaceMethod y.cls y.cls y.name y.desc).before a0 Z = true) (w3 : (Cond.selects C y z).before a0 Z = true) (w4 : (Cond.instanceMethod z).before a0 Z = true)
    (wp : (Cond.publicMethod z).before a0 Z = true) (wu : (Cond.unhidden C y.name y.desc).before a0 Z = true) (wk : (Cond.castable C y.cls).before a0 Z = true) (w5 : (Cond.code z bytes maxL ret).before a0 Z = true) (w6 : (Cond.initialized z.cls).before a0 Z = true)
    (hy : y.cls ≠ "java/lang/invoke/MethodHandle" ∧ y.cls ≠ "java/lang/invoke/VarHandle") {a : Addr} (E : Exa Z h a C) (hM : own_Ctr l Z z bytes maxL ret [] rm rm.cells rm.slots (.ref a :: argsL).toArray h Q') (W : Nat)
    (hf : rm.frames + 1 ≤ R.frames) (hl : W + (maxL + 11) + rm.locals ≤ R.locals) (hc : cells + rm.cells ≤ R.cells) (hs : slots + rm.slots ≤ R.slots) (eT : T.heap = h)
    (hg : g.method = m) (hsize : g.locals.size = c.maxLocals) (hlen : ∀ sig, parseMethodDescriptor y.desc = some sig → argsL.length = sig.parameters.length) (hstack : g.stack = argsL.reverse ++ .ref a :: rest)
    (hW : 2 * g.monitorRoom + (rest.map fun v => v.category).sum ≤ W) (hd : decode c.code g.pc = .ok (.invokeinterface index count, 5))
    (k : ∀ v T' L, Stand p l e R s m args below meth c T' (locs ++ L) (cells + rm.cells) (slots + rm.slots) → Q' v T'.heap L → own_Goes p e below s kc ks Q T' { g with pc := g.pc + 5, stack := v.toList ++ rest }) : own_Goes p e below s kc ks Q T g := by
  obtain ⟨cq, kq, qa, qb, qc⟩ := isOf hZ eT E
  have hface : ((Cond.interfaceMethod y.cls y.cls y.name y.desc).onTables && (Cond.interfaceMethod y.cls y.cls y.name y.desc).keepsFace) = true := by simp [Cond.onTables, Cond.keepsFace, Cond.keeps, Cond.steady, Cond.faceAtom, hy.1, hy.2]
  obtain ⟨v, _, ⟨T', L', k', n'⟩, -, X', ⟨Lc, hQ, l1, y1, z1⟩, st⟩ := X.interfaceBack hx hown (mvT hZ w1) (mvT hZ w2) (mvT hZ w2f hface) (mvT hZ w3) (mvT hZ w4) (mvT hZ wp) (mvT hZ wu) (mvT hZ wk) hy (backOf (W := W) hM hZ w5 w6 hf hl) qa qb qc hg hsize (Steps.refl _) hlen hstack hW hd (fun _ _ => ⟨rfl, eT, hc, hs⟩)
  dsimp only [Pt.U, Pt.locs, Pt.cells, Pt.slots] at X' l1 y1 z1 st hQ
  subst l1 y1 z1
  exact own_by (fun t kt => st.trans kt) (k v T' Lc X' hQ)
end OwnCalls
end OwnPrelude
def own_bc (p : Int32) : Int32 :=
  let a := p - ((p.toUInt32 >>> ((1 : Int32) &&& 31).toUInt32).toInt32 &&& (1431655765 : Int32))
  let b := (a &&& (858993459 : Int32)) + ((a.toUInt32 >>> ((2 : Int32) &&& 31).toUInt32).toInt32 &&& (858993459 : Int32))
  let c := (b + (b.toUInt32 >>> ((4 : Int32) &&& 31).toUInt32).toInt32) &&& (252645135 : Int32)
  let d := c + (c.toUInt32 >>> ((8 : Int32) &&& 31).toUInt32).toInt32
  let e := d + (d.toUInt32 >>> ((16 : Int32) &&& 31).toUInt32).toInt32
  e &&& (63 : Int32)
theorem own_pn0 : plainName "java/lang/Integer" = true := by first | (simp [plainName, overriddenIn]; done) | decide +kernel
theorem own_d2_0 : decode jdk_33_method_49_code 0 = .ok (.iload_n 0, 1) := by decide +kernel
theorem own_d2_1 : decode jdk_33_method_49_code 1 = .ok (.iload_n 0, 1) := by decide +kernel
theorem own_d2_2 : decode jdk_33_method_49_code 2 = .ok (.iconst 1, 1) := by decide +kernel
theorem own_d2_3 : decode jdk_33_method_49_code 3 = .ok (.iushr, 1) := by decide +kernel
theorem own_d2_4 : decode jdk_33_method_49_code 4 = .ok (.ldc_w 265, 3) := by decide +kernel
theorem own_d2_7 : decode jdk_33_method_49_code 7 = .ok (.iand, 1) := by decide +kernel
theorem own_d2_8 : decode jdk_33_method_49_code 8 = .ok (.isub, 1) := by decide +kernel
theorem own_d2_9 : decode jdk_33_method_49_code 9 = .ok (.istore_n 0, 1) := by decide +kernel
theorem own_d2_10 : decode jdk_33_method_49_code 10 = .ok (.iload_n 0, 1) := by decide +kernel
theorem own_d2_11 : decode jdk_33_method_49_code 11 = .ok (.ldc_w 266, 3) := by decide +kernel
theorem own_d2_14 : decode jdk_33_method_49_code 14 = .ok (.iand, 1) := by decide +kernel
theorem own_d2_15 : decode jdk_33_method_49_code 15 = .ok (.iload_n 0, 1) := by decide +kernel
theorem own_d2_16 : decode jdk_33_method_49_code 16 = .ok (.iconst 2, 1) := by decide +kernel
theorem own_d2_17 : decode jdk_33_method_49_code 17 = .ok (.iushr, 1) := by decide +kernel
theorem own_d2_18 : decode jdk_33_method_49_code 18 = .ok (.ldc_w 266, 3) := by decide +kernel
theorem own_d2_21 : decode jdk_33_method_49_code 21 = .ok (.iand, 1) := by decide +kernel
theorem own_d2_22 : decode jdk_33_method_49_code 22 = .ok (.iadd, 1) := by decide +kernel
theorem own_d2_23 : decode jdk_33_method_49_code 23 = .ok (.istore_n 0, 1) := by decide +kernel
theorem own_d2_24 : decode jdk_33_method_49_code 24 = .ok (.iload_n 0, 1) := by decide +kernel
theorem own_d2_25 : decode jdk_33_method_49_code 25 = .ok (.iload_n 0, 1) := by decide +kernel
theorem own_d2_26 : decode jdk_33_method_49_code 26 = .ok (.iconst 4, 1) := by decide +kernel
theorem own_d2_27 : decode jdk_33_method_49_code 27 = .ok (.iushr, 1) := by decide +kernel
theorem own_d2_28 : decode jdk_33_method_49_code 28 = .ok (.iadd, 1) := by decide +kernel
theorem own_d2_29 : decode jdk_33_method_49_code 29 = .ok (.ldc_w 267, 3) := by decide +kernel
theorem own_d2_32 : decode jdk_33_method_49_code 32 = .ok (.iand, 1) := by decide +kernel
theorem own_d2_33 : decode jdk_33_method_49_code 33 = .ok (.istore_n 0, 1) := by decide +kernel
theorem own_d2_34 : decode jdk_33_method_49_code 34 = .ok (.iload_n 0, 1) := by decide +kernel
theorem own_d2_35 : decode jdk_33_method_49_code 35 = .ok (.iload_n 0, 1) := by decide +kernel
theorem own_d2_36 : decode jdk_33_method_49_code 36 = .ok (.bipush 8, 2) := by decide +kernel
theorem own_d2_38 : decode jdk_33_method_49_code 38 = .ok (.iushr, 1) := by decide +kernel
theorem own_d2_39 : decode jdk_33_method_49_code 39 = .ok (.iadd, 1) := by decide +kernel
theorem own_d2_40 : decode jdk_33_method_49_code 40 = .ok (.istore_n 0, 1) := by decide +kernel
theorem own_d2_41 : decode jdk_33_method_49_code 41 = .ok (.iload_n 0, 1) := by decide +kernel
theorem own_d2_42 : decode jdk_33_method_49_code 42 = .ok (.iload_n 0, 1) := by decide +kernel
theorem own_d2_43 : decode jdk_33_method_49_code 43 = .ok (.bipush 16, 2) := by decide +kernel
theorem own_d2_45 : decode jdk_33_method_49_code 45 = .ok (.iushr, 1) := by decide +kernel
theorem own_d2_46 : decode jdk_33_method_49_code 46 = .ok (.iadd, 1) := by decide +kernel
theorem own_d2_47 : decode jdk_33_method_49_code 47 = .ok (.istore_n 0, 1) := by decide +kernel
theorem own_d2_48 : decode jdk_33_method_49_code 48 = .ok (.iload_n 0, 1) := by decide +kernel
theorem own_d2_49 : decode jdk_33_method_49_code 49 = .ok (.bipush 63, 2) := by decide +kernel
theorem own_d2_51 : decode jdk_33_method_49_code 51 = .ok (.iand, 1) := by decide +kernel
theorem own_d2_52 : decode jdk_33_method_49_code 52 = .ok (.ireturn, 1) := by decide +kernel
def Q_own_bitCount (Z : State) (u : Int32) (h0 : Heap) (n0 : Nat) (v : Option Value) (h : Heap) (L : List Loc) : Prop := v = some (.int (own_bc u)) ∧ Fr n0 L ∧ h = h0
theorem own_ef_own_bitCount (m : MethodId) (u : Int32) : entryFrame m #[(.int u)] 1 = mkF m 0 #[.val (.int u)] [] := by first | (simp [entryFrame, mkF, argsToLocals, Value.category]; done) | rfl
set_option maxRecDepth 65536 in
set_option maxHeartbeats 40000000 in
theorem own_bitCount (l : Launch) (Z : State) (a0 : Array Value) (hw : ∀ d ∈ tables_1, d.before a0 Z = true) (ws : List Jvm.Cond) (u : Int32) (h0 : Heap) (n0 : Nat) (Z0 : n0 ≤ h0.size)  :
    own_Ctr l Z (⟨"java/lang/Integer", "bitCount", "(I)I"⟩ : MethodName) jdk_33_method_49_code 1 (some .int) ws ({ frames := 0, cells := 0, slots := 0, locals := 0 } : Room) (({ frames := 0, cells := 0, slots := 0, locals := 0 } : Room)).cells (({ frames := 0, cells := 0, slots := 0, locals := 0 } : Room)).slots #[(.int u)] h0 (Q_own_bitCount Z u h0 n0) := by
  refine own_enter (plainFor_of_name own_pn0) ?_
  intro p e s m below meth c s₁ X0 hx hZ hby hml hown hnm hlk hret e0
  have N0 := Fr.nil n0
  refine own_cast (own_ef_own_bitCount m u) ?_
  refine own_by (g' := (mkF m 1 #[.val (.int u)] [(.int u)])) (fun t k => XS.iloadN X0.here hx rfl (hb hby own_d2_0) rfl k) ?_
  refine own_by (g' := (mkF m 2 #[.val (.int u)] [(.int u), (.int u)])) (fun t k => XS.iloadN X0.here hx rfl (hb hby own_d2_1) rfl k) ?_
  refine own_by (g' := (mkF m 3 #[.val (.int u)] [(.int (1 : Int32)), (.int u), (.int u)])) (fun t k => XS.iconst X0.here hx rfl (hb hby own_d2_2) k) ?_
  refine own_by (g' := (mkF m 4 #[.val (.int u)] [(.int ((u).toUInt32 >>> ((1 : Int32) &&& 31).toUInt32).toInt32), (.int u)])) (fun t k => XS.iushr X0.here hx rfl (hb hby own_d2_3) rfl k) ?_
  refine own_by (g' := (mkF m 7 #[.val (.int u)] [(.int (1431655765 : Int32)), (.int ((u).toUInt32 >>> ((1 : Int32) &&& 31).toUInt32).toInt32), (.int u)])) (fun t k => X0.ldcwInt hx hown (mvT hZ (hw _ (List.mem_of_getElem? (i := 9) rfl))) (g := (mkF m 4 #[.val (.int u)] [(.int ((u).toUInt32 >>> ((1 : Int32) &&& 31).toUInt32).toInt32), (.int u)])) rfl (hb hby own_d2_4) t k) ?_
  refine own_by (g' := (mkF m 8 #[.val (.int u)] [(.int (((u).toUInt32 >>> ((1 : Int32) &&& 31).toUInt32).toInt32 &&& (1431655765 : Int32))), (.int u)])) (fun t k => XS.iand X0.here hx rfl (hb hby own_d2_7) rfl k) ?_
  refine own_by (g' := (mkF m 9 #[.val (.int u)] [(.int (u - (((u).toUInt32 >>> ((1 : Int32) &&& 31).toUInt32).toInt32 &&& (1431655765 : Int32))))])) (fun t k => XS.isub X0.here hx rfl (hb hby own_d2_8) rfl k) ?_
  generalize hv101 : (u - (((u).toUInt32 >>> ((1 : Int32) &&& 31).toUInt32).toInt32 &&& (1431655765 : Int32))) = v101
  refine own_by (g' := (mkF m 10 #[.val (.int v101)] [])) (fun t k => XS.istoreN X0.here hx rfl (hb hby own_d2_9) rfl (l' := #[.val (.int v101)]) rfl k) ?_
  refine own_by (g' := (mkF m 11 #[.val (.int v101)] [(.int v101)])) (fun t k => XS.iloadN X0.here hx rfl (hb hby own_d2_10) rfl k) ?_
  refine own_by (g' := (mkF m 14 #[.val (.int v101)] [(.int (858993459 : Int32)), (.int v101)])) (fun t k => X0.ldcwInt hx hown (mvT hZ (hw _ (List.mem_of_getElem? (i := 10) rfl))) (g := (mkF m 11 #[.val (.int v101)] [(.int v101)])) rfl (hb hby own_d2_11) t k) ?_
  refine own_by (g' := (mkF m 15 #[.val (.int v101)] [(.int (v101 &&& (858993459 : Int32)))])) (fun t k => XS.iand X0.here hx rfl (hb hby own_d2_14) rfl k) ?_
  refine own_by (g' := (mkF m 16 #[.val (.int v101)] [(.int v101), (.int (v101 &&& (858993459 : Int32)))])) (fun t k => XS.iloadN X0.here hx rfl (hb hby own_d2_15) rfl k) ?_
  refine own_by (g' := (mkF m 17 #[.val (.int v101)] [(.int (2 : Int32)), (.int v101), (.int (v101 &&& (858993459 : Int32)))])) (fun t k => XS.iconst X0.here hx rfl (hb hby own_d2_16) k) ?_
  refine own_by (g' := (mkF m 18 #[.val (.int v101)] [(.int ((v101).toUInt32 >>> ((2 : Int32) &&& 31).toUInt32).toInt32), (.int (v101 &&& (858993459 : Int32)))])) (fun t k => XS.iushr X0.here hx rfl (hb hby own_d2_17) rfl k) ?_
  refine own_by (g' := (mkF m 21 #[.val (.int v101)] [(.int (858993459 : Int32)), (.int ((v101).toUInt32 >>> ((2 : Int32) &&& 31).toUInt32).toInt32), (.int (v101 &&& (858993459 : Int32)))])) (fun t k => X0.ldcwInt hx hown (mvT hZ (hw _ (List.mem_of_getElem? (i := 10) rfl))) (g := (mkF m 18 #[.val (.int v101)] [(.int ((v101).toUInt32 >>> ((2 : Int32) &&& 31).toUInt32).toInt32), (.int (v101 &&& (858993459 : Int32)))])) rfl (hb hby own_d2_18) t k) ?_
  refine own_by (g' := (mkF m 22 #[.val (.int v101)] [(.int (((v101).toUInt32 >>> ((2 : Int32) &&& 31).toUInt32).toInt32 &&& (858993459 : Int32))), (.int (v101 &&& (858993459 : Int32)))])) (fun t k => XS.iand X0.here hx rfl (hb hby own_d2_21) rfl k) ?_
  refine own_by (g' := (mkF m 23 #[.val (.int v101)] [(.int ((v101 &&& (858993459 : Int32)) + (((v101).toUInt32 >>> ((2 : Int32) &&& 31).toUInt32).toInt32 &&& (858993459 : Int32))))])) (fun t k => XS.iadd X0.here hx rfl (hb hby own_d2_22) rfl k) ?_
  generalize hv102 : ((v101 &&& (858993459 : Int32)) + (((v101).toUInt32 >>> ((2 : Int32) &&& 31).toUInt32).toInt32 &&& (858993459 : Int32))) = v102
  refine own_by (g' := (mkF m 24 #[.val (.int v102)] [])) (fun t k => XS.istoreN X0.here hx rfl (hb hby own_d2_23) rfl (l' := #[.val (.int v102)]) rfl k) ?_
  refine own_by (g' := (mkF m 25 #[.val (.int v102)] [(.int v102)])) (fun t k => XS.iloadN X0.here hx rfl (hb hby own_d2_24) rfl k) ?_
  refine own_by (g' := (mkF m 26 #[.val (.int v102)] [(.int v102), (.int v102)])) (fun t k => XS.iloadN X0.here hx rfl (hb hby own_d2_25) rfl k) ?_
  refine own_by (g' := (mkF m 27 #[.val (.int v102)] [(.int (4 : Int32)), (.int v102), (.int v102)])) (fun t k => XS.iconst X0.here hx rfl (hb hby own_d2_26) k) ?_
  refine own_by (g' := (mkF m 28 #[.val (.int v102)] [(.int ((v102).toUInt32 >>> ((4 : Int32) &&& 31).toUInt32).toInt32), (.int v102)])) (fun t k => XS.iushr X0.here hx rfl (hb hby own_d2_27) rfl k) ?_
  refine own_by (g' := (mkF m 29 #[.val (.int v102)] [(.int (v102 + ((v102).toUInt32 >>> ((4 : Int32) &&& 31).toUInt32).toInt32))])) (fun t k => XS.iadd X0.here hx rfl (hb hby own_d2_28) rfl k) ?_
  refine own_by (g' := (mkF m 32 #[.val (.int v102)] [(.int (252645135 : Int32)), (.int (v102 + ((v102).toUInt32 >>> ((4 : Int32) &&& 31).toUInt32).toInt32))])) (fun t k => X0.ldcwInt hx hown (mvT hZ (hw _ (List.mem_of_getElem? (i := 11) rfl))) (g := (mkF m 29 #[.val (.int v102)] [(.int (v102 + ((v102).toUInt32 >>> ((4 : Int32) &&& 31).toUInt32).toInt32))])) rfl (hb hby own_d2_29) t k) ?_
  refine own_by (g' := (mkF m 33 #[.val (.int v102)] [(.int ((v102 + ((v102).toUInt32 >>> ((4 : Int32) &&& 31).toUInt32).toInt32) &&& (252645135 : Int32)))])) (fun t k => XS.iand X0.here hx rfl (hb hby own_d2_32) rfl k) ?_
  generalize hv103 : ((v102 + ((v102).toUInt32 >>> ((4 : Int32) &&& 31).toUInt32).toInt32) &&& (252645135 : Int32)) = v103
  refine own_by (g' := (mkF m 34 #[.val (.int v103)] [])) (fun t k => XS.istoreN X0.here hx rfl (hb hby own_d2_33) rfl (l' := #[.val (.int v103)]) rfl k) ?_
  refine own_by (g' := (mkF m 35 #[.val (.int v103)] [(.int v103)])) (fun t k => XS.iloadN X0.here hx rfl (hb hby own_d2_34) rfl k) ?_
  refine own_by (g' := (mkF m 36 #[.val (.int v103)] [(.int v103), (.int v103)])) (fun t k => XS.iloadN X0.here hx rfl (hb hby own_d2_35) rfl k) ?_
  refine own_by (g' := (mkF m 38 #[.val (.int v103)] [(.int (8 : Int32)), (.int v103), (.int v103)])) (fun t k => XS.bipush X0.here hx rfl (hb hby own_d2_36) k) ?_
  refine own_by (g' := (mkF m 39 #[.val (.int v103)] [(.int ((v103).toUInt32 >>> ((8 : Int32) &&& 31).toUInt32).toInt32), (.int v103)])) (fun t k => XS.iushr X0.here hx rfl (hb hby own_d2_38) rfl k) ?_
  refine own_by (g' := (mkF m 40 #[.val (.int v103)] [(.int (v103 + ((v103).toUInt32 >>> ((8 : Int32) &&& 31).toUInt32).toInt32))])) (fun t k => XS.iadd X0.here hx rfl (hb hby own_d2_39) rfl k) ?_
  generalize hv104 : (v103 + ((v103).toUInt32 >>> ((8 : Int32) &&& 31).toUInt32).toInt32) = v104
  refine own_by (g' := (mkF m 41 #[.val (.int v104)] [])) (fun t k => XS.istoreN X0.here hx rfl (hb hby own_d2_40) rfl (l' := #[.val (.int v104)]) rfl k) ?_
  refine own_by (g' := (mkF m 42 #[.val (.int v104)] [(.int v104)])) (fun t k => XS.iloadN X0.here hx rfl (hb hby own_d2_41) rfl k) ?_
  refine own_by (g' := (mkF m 43 #[.val (.int v104)] [(.int v104), (.int v104)])) (fun t k => XS.iloadN X0.here hx rfl (hb hby own_d2_42) rfl k) ?_
  refine own_by (g' := (mkF m 45 #[.val (.int v104)] [(.int (16 : Int32)), (.int v104), (.int v104)])) (fun t k => XS.bipush X0.here hx rfl (hb hby own_d2_43) k) ?_
  refine own_by (g' := (mkF m 46 #[.val (.int v104)] [(.int ((v104).toUInt32 >>> ((16 : Int32) &&& 31).toUInt32).toInt32), (.int v104)])) (fun t k => XS.iushr X0.here hx rfl (hb hby own_d2_45) rfl k) ?_
  refine own_by (g' := (mkF m 47 #[.val (.int v104)] [(.int (v104 + ((v104).toUInt32 >>> ((16 : Int32) &&& 31).toUInt32).toInt32))])) (fun t k => XS.iadd X0.here hx rfl (hb hby own_d2_46) rfl k) ?_
  generalize hv105 : (v104 + ((v104).toUInt32 >>> ((16 : Int32) &&& 31).toUInt32).toInt32) = v105
  refine own_by (g' := (mkF m 48 #[.val (.int v105)] [])) (fun t k => XS.istoreN X0.here hx rfl (hb hby own_d2_47) rfl (l' := #[.val (.int v105)]) rfl k) ?_
  refine own_by (g' := (mkF m 49 #[.val (.int v105)] [(.int v105)])) (fun t k => XS.iloadN X0.here hx rfl (hb hby own_d2_48) rfl k) ?_
  refine own_by (g' := (mkF m 51 #[.val (.int v105)] [(.int (63 : Int32)), (.int v105)])) (fun t k => XS.bipush X0.here hx rfl (hb hby own_d2_49) k) ?_
  refine own_by (g' := (mkF m 52 #[.val (.int v105)] [(.int (v105 &&& (63 : Int32)))])) (fun t k => XS.iand X0.here hx rfl (hb hby own_d2_51) rfl k) ?_
  refine own_retI X0 hx hlk hret (hb hby own_d2_52) (by decide) (by decide) ?_
  exact ⟨(by subst hv101 hv102 hv103 hv104 hv105; rfl), N0, e0⟩
theorem own_pn1 : plainName "com/example/abakus/abakus/summary/RecipientBitmap" = true := by first | (simp [plainName, overriddenIn]; done) | decide +kernel
theorem own_d1_0 : decode prog_33_method_4_code 0 = .ok (.iload_n 0, 1) := by decide +kernel
theorem own_d1_1 : decode prog_33_method_4_code 1 = .ok (.invokestatic 94, 3) := by decide +kernel
theorem own_pd0 : parseMethodDescriptor "(I)I" = some ⟨[.int], some .int⟩ := by decide +kernel
theorem own_d1_4 : decode prog_33_method_4_code 4 = .ok (.iconst 1, 1) := by decide +kernel
theorem own_d1_5 : decode prog_33_method_4_code 5 = .ok (.if_icmp .ne 16, 3) := by decide +kernel
theorem own_d1_8 : decode prog_33_method_4_code 8 = .ok (.iload_n 0, 1) := by decide +kernel
theorem own_d1_9 : decode prog_33_method_4_code 9 = .ok (.sipush 16384, 3) := by decide +kernel
theorem own_d1_12 : decode prog_33_method_4_code 12 = .ok (.if_icmp .lt 9, 3) := by decide +kernel
theorem own_d1_15 : decode prog_33_method_4_code 15 = .ok (.iload_n 0, 1) := by decide +kernel
theorem own_d1_16 : decode prog_33_method_4_code 16 = .ok (.ldc 97, 2) := by decide +kernel
theorem own_d1_18 : decode prog_33_method_4_code 18 = .ok (.if_icmp .le 17, 3) := by decide +kernel
theorem own_d1_35 : decode prog_33_method_4_code 35 = .ok (.iload_n 0, 1) := by decide +kernel
theorem own_d1_36 : decode prog_33_method_4_code 36 = .ok (.sipush 8192, 3) := by decide +kernel
theorem own_d1_39 : decode prog_33_method_4_code 39 = .ok (.idiv, 1) := by decide +kernel
theorem own_d1_40 : decode prog_33_method_4_code 40 = .ok (.ireturn, 1) := by decide +kernel
def Q_own_partsOf (Z : State) (u : Int32) (h0 : Heap) (n0 : Nat) (v : Option Value) (h : Heap) (L : List Loc) : Prop := v = some (.int (u / (8192 : Int32))) ∧ Fr n0 L ∧ h = h0
theorem own_ef_own_partsOf (m : MethodId) (u : Int32) : entryFrame m #[(.int u)] 1 = mkF m 0 #[.val (.int u)] [] := by first | (simp [entryFrame, mkF, argsToLocals, Value.category]; done) | rfl
set_option maxRecDepth 65536 in
set_option maxHeartbeats 40000000 in
theorem own_partsOf (l : Launch) (Z : State) (a0 : Array Value) (hw : ∀ d ∈ tables_1, d.before a0 Z = true) (ws : List Jvm.Cond) (u : Int32) (h0 : Heap) (n0 : Nat) (Z0 : n0 ≤ h0.size) (hb1 : own_bc u = (1 : Int32)) (hb2 : ¬ (u < (16384 : Int32))) (hb3 : ¬ ((65536 : Int32) < u)) :
    own_Ctr l Z (⟨"com/example/abakus/abakus/summary/RecipientBitmap", "partsOf", "(I)I"⟩ : MethodName) prog_33_method_4_code 1 (some .int) ws ({ frames := 1, cells := 0, slots := 0, locals := 12 } : Room) (({ frames := 1, cells := 0, slots := 0, locals := 12 } : Room)).cells (({ frames := 1, cells := 0, slots := 0, locals := 12 } : Room)).slots #[(.int u)] h0 (Q_own_partsOf Z u h0 n0) := by
  refine own_enter (plainFor_of_name own_pn1) ?_
  intro p e s m below meth c s₁ X0 hx hZ hby hml hown hnm hlk hret e0
  have N0 := Fr.nil n0
  refine own_cast (own_ef_own_partsOf m u) ?_
  refine own_by (g' := (mkF m 1 #[.val (.int u)] [(.int u)])) (fun t k => XS.iloadN X0.here hx rfl (hb hby own_d1_0) rfl k) ?_
  refine own_callS X0 hx hZ hown (hw _ (List.mem_of_getElem? (i := 5) rfl)) (hw _ (List.mem_of_getElem? (i := 6) rfl)) (hw _ (List.mem_of_getElem? (i := 7) rfl)) (hw _ (List.mem_of_getElem? (i := 8) rfl)) (by decide) (own_bitCount l Z a0 hw [] (u) h0 n0 Z0 ) 0 (by decide) (by decide) (by decide) (by decide) e0 (g := (mkF m 1 #[.val (.int u)] [(.int u)])) rfl (by rw [hml]; rfl) (argsL := [(.int u)]) (rest := []) (lenOf own_pd0 rfl) rfl (by show 2 * 0 + _ ≤ _; exact Nat.le_of_eq rfl) (hb hby own_d1_1) ?_
  intro v101 T101 L101 X101 q101
  obtain ⟨rfl, N101q, e101⟩ := q101
  have N101 := Fr.app N0 N101q
  show own_Goes p e below s _ _ _ T101 (mkF m 4 #[.val (.int u)] [(.int (own_bc u))])
  refine own_by (g' := (mkF m 5 #[.val (.int u)] [(.int (1 : Int32)), (.int (own_bc u))])) (fun t k => XS.iconst X101.here hx rfl (hb hby own_d1_4) k) ?_
  refine own_by (g' := (mkF m 8 #[.val (.int u)] [])) (fun t k => XS.icmpNo X101.here hx rfl (hb hby own_d1_5) rfl (teq hb1).2 k) ?_
  refine own_by (g' := (mkF m 9 #[.val (.int u)] [(.int u)])) (fun t k => XS.iloadN X101.here hx rfl (hb hby own_d1_8) rfl k) ?_
  refine own_by (g' := (mkF m 12 #[.val (.int u)] [(.int (16384 : Int32)), (.int u)])) (fun t k => XS.sipush X101.here hx rfl (hb hby own_d1_9) k) ?_
  refine own_by (g' := (mkF m 15 #[.val (.int u)] [])) (fun t k => XS.icmpNo X101.here hx rfl (hb hby own_d1_12) rfl (flt hb2).1 k) ?_
  refine own_by (g' := (mkF m 16 #[.val (.int u)] [(.int u)])) (fun t k => XS.iloadN X101.here hx rfl (hb hby own_d1_15) rfl k) ?_
  refine own_by (g' := (mkF m 18 #[.val (.int u)] [(.int (65536 : Int32)), (.int u)])) (fun t k => X101.ldcInt hx hown (mvT hZ (hw _ (List.mem_of_getElem? (i := 12) rfl))) (g := (mkF m 16 #[.val (.int u)] [(.int u)])) rfl (hb hby own_d1_16) t k) ?_
  refine own_by (g' := (mkF m 35 #[.val (.int u)] [])) (fun t k => XS.icmpYes X101.here hx rfl (pc0 := 18) (pc' := 35) rfl (hb hby own_d1_18) rfl (flt hb3).2.2.2 (by decide) (by decide) k) ?_
  refine own_by (g' := (mkF m 36 #[.val (.int u)] [(.int u)])) (fun t k => XS.iloadN X101.here hx rfl (hb hby own_d1_35) rfl k) ?_
  refine own_by (g' := (mkF m 39 #[.val (.int u)] [(.int (8192 : Int32)), (.int u)])) (fun t k => XS.sipush X101.here hx rfl (hb hby own_d1_36) k) ?_
  refine own_by (g' := (mkF m 40 #[.val (.int u)] [(.int (u / (8192 : Int32)))])) (fun t k => XS.idiv X101.here hx rfl (hb hby own_d1_39) rfl (by decide) k) ?_
  refine own_retI X101 hx hlk hret (hb hby own_d1_40) (by decide) (by decide) ?_
  exact ⟨rfl, N101, e101⟩
theorem own_pn2 : plainName "com/example/abakus/abakus/summary/RecipientBitmapPartsOfPinLaw" = true := by first | (simp [plainName, overriddenIn]; done) | decide +kernel
def Q_own_law (Z : State) (u : Int32) (h0 : Heap) (n0 : Nat) (v : Option Value) (h : Heap) (L : List Loc) : Prop := v = some (.int (1 : Int32)) ∧ Fr n0 L ∧ h = h0
theorem own_ef_own_law (m : MethodId) (u : Int32) : entryFrame m #[(.int u)] maxLocals = mkF m 0 #[.val (.int u), .unset, .unset, .unset, .unset] [] := by first | (simp [entryFrame, mkF, argsToLocals, Value.category, maxLocals]; done) | rfl
set_option maxRecDepth 65536 in
set_option maxHeartbeats 40000000 in
theorem own_law (l : Launch) (Z : State) (a0 : Array Value) (hw : ∀ d ∈ tables_1, d.before a0 Z = true) (ws : List Jvm.Cond) (u : Int32) (h0 : Heap) (n0 : Nat) (Z0 : n0 ≤ h0.size)  :
    own_Ctr l Z x code maxLocals ret ws room_1 0 0 #[(.int u)] h0 (Q_own_law Z u h0 n0) := by
  refine own_enter (plainFor_of_name own_pn2) ?_
  intro p e s m below meth c s₁ X0 hx hZ hby hml hown hnm hlk hret e0
  have N0 := Fr.nil n0
  refine own_cast (own_ef_own_law m u) ?_
  refine own_by (g' := (mkF m 1 #[.val (.int u), .unset, .unset, .unset, .unset] [(.int u)])) (fun t k => XS.iloadN X0.here hx rfl (hb hby at_0) rfl k) ?_
  refine own_by (g' := (mkF m 3 #[.val (.int u), .unset, .unset, .unset, .unset] [(.int (2147483647 : Int32)), (.int u)])) (fun t k => X0.ldcInt hx hown (mvT hZ (hw _ (List.mem_of_getElem? (i := 0) rfl))) (g := (mkF m 1 #[.val (.int u), .unset, .unset, .unset, .unset] [(.int u)])) rfl (hb hby at_1) t k) ?_
  refine own_by (g' := (mkF m 4 #[.val (.int u), .unset, .unset, .unset, .unset] [(.int (u &&& (2147483647 : Int32)))])) (fun t k => XS.iand X0.here hx rfl (hb hby at_3) rfl k) ?_
  refine own_by (g' := (mkF m 5 #[.val (.int u), .unset, .unset, .unset, .unset] [(.int (3 : Int32)), (.int (u &&& (2147483647 : Int32)))])) (fun t k => XS.iconst X0.here hx rfl (hb hby at_4) k) ?_
  refine own_by (g' := (mkF m 6 #[.val (.int u), .unset, .unset, .unset, .unset] [(.int ((u &&& (2147483647 : Int32)) % (3 : Int32)))])) (fun t k => iremM X0 hx rfl (hb hby at_5) rfl (by decide) k) ?_
  generalize hv101 : ((u &&& (2147483647 : Int32)) % (3 : Int32)) = v101
  refine own_by (g' := (mkF m 7 #[.val (.int u), .val (.int v101), .unset, .unset, .unset] [])) (fun t k => XS.istoreN X0.here hx rfl (hb hby at_6) rfl (l' := #[.val (.int u), .val (.int v101), .unset, .unset, .unset]) rfl k) ?_
  refine own_by (g' := (mkF m 8 #[.val (.int u), .val (.int v101), .unset, .unset, .unset] [(.int v101)])) (fun t k => XS.iloadN X0.here hx rfl (hb hby at_7) rfl k) ?_
  by_cases hc102 : v101 = (0 : Int32)
  ·
    refine own_by (g' := (mkF m 11 #[.val (.int u), .val (.int v101), .unset, .unset, .unset] [])) (fun t k => XS.ifNo X0.here hx rfl (hb hby at_8) rfl ((if0 _ _).trans (teq hc102).2) k) ?_
    refine own_by (g' := (mkF m 14 #[.val (.int u), .val (.int v101), .unset, .unset, .unset] [(.int (16384 : Int32))])) (fun t k => XS.sipush X0.here hx rfl (hb hby at_11) k) ?_
    refine own_by (g' := (mkF m 15 #[.val (.int u), .val (.int v101), .val (.int (16384 : Int32)), .unset, .unset] [])) (fun t k => XS.istoreN X0.here hx rfl (hb hby at_14) rfl (l' := #[.val (.int u), .val (.int v101), .val (.int (16384 : Int32)), .unset, .unset]) rfl k) ?_
    refine own_by (g' := (mkF m 16 #[.val (.int u), .val (.int v101), .val (.int (16384 : Int32)), .unset, .unset] [(.int (2 : Int32))])) (fun t k => XS.iconst X0.here hx rfl (hb hby at_15) k) ?_
    refine own_by (g' := (mkF m 17 #[.val (.int u), .val (.int v101), .val (.int (16384 : Int32)), .val (.int (2 : Int32)), .unset] [])) (fun t k => XS.istoreN X0.here hx rfl (hb hby at_16) rfl (l' := #[.val (.int u), .val (.int v101), .val (.int (16384 : Int32)), .val (.int (2 : Int32)), .unset]) rfl k) ?_
    refine own_by (g' := (mkF m 39 #[.val (.int u), .val (.int v101), .val (.int (16384 : Int32)), .val (.int (2 : Int32)), .unset] [])) (fun t k => XS.goto X0.here hx rfl (pc0 := 17) (pc' := 39) rfl (hb hby at_17) (by decide) (by decide) k) ?_
    refine own_by (g' := (mkF m 40 #[.val (.int u), .val (.int v101), .val (.int (16384 : Int32)), .val (.int (2 : Int32)), .unset] [(.int (16384 : Int32))])) (fun t k => XS.iloadN X0.here hx rfl (hb hby at_39) rfl k) ?_
    refine own_callS X0 hx hZ hown (hw _ (List.mem_of_getElem? (i := 1) rfl)) (hw _ (List.mem_of_getElem? (i := 2) rfl)) (hw _ (List.mem_of_getElem? (i := 3) rfl)) (hw _ (List.mem_of_getElem? (i := 4) rfl)) (by decide) (own_partsOf l Z a0 hw [] ((16384 : Int32)) h0 n0 Z0 (by first | assumption | decide) (by first | assumption | decide) (by first | assumption | decide)) 0 (by decide) (by decide) (by decide) (by decide) e0 (g := (mkF m 40 #[.val (.int u), .val (.int v101), .val (.int (16384 : Int32)), .val (.int (2 : Int32)), .unset] [(.int (16384 : Int32))])) rfl (by rw [hml]; rfl) (argsL := [(.int (16384 : Int32))]) (rest := []) (lenOf own_pd0 rfl) rfl (by show 2 * 0 + _ ≤ _; exact Nat.le_of_eq rfl) (hb hby at_40) ?_
    intro v103 T103 L103 X103 q103
    obtain ⟨rfl, N103q, e103⟩ := q103
    have N103 := Fr.app N0 N103q
    show own_Goes p e below s _ _ _ T103 (mkF m 43 #[.val (.int u), .val (.int v101), .val (.int (16384 : Int32)), .val (.int (2 : Int32)), .unset] [(.int ((16384 : Int32) / (8192 : Int32)))])
    generalize hv104 : ((16384 : Int32) / (8192 : Int32)) = v104
    refine own_by (g' := (mkF m 45 #[.val (.int u), .val (.int v101), .val (.int (16384 : Int32)), .val (.int (2 : Int32)), .val (.int v104)] [])) (fun t k => XS.istore X103.here hx rfl (hb hby at_43) rfl (l' := #[.val (.int u), .val (.int v101), .val (.int (16384 : Int32)), .val (.int (2 : Int32)), .val (.int v104)]) rfl k) ?_
    refine own_by (g' := (mkF m 47 #[.val (.int u), .val (.int v101), .val (.int (16384 : Int32)), .val (.int (2 : Int32)), .val (.int v104)] [(.int v104)])) (fun t k => XS.iload X103.here hx rfl (hb hby at_45) rfl k) ?_
    refine own_by (g' := (mkF m 48 #[.val (.int u), .val (.int v101), .val (.int (16384 : Int32)), .val (.int (2 : Int32)), .val (.int v104)] [(.int (2 : Int32)), (.int v104)])) (fun t k => XS.iloadN X103.here hx rfl (hb hby at_47) rfl k) ?_
    refine own_by (g' := (mkF m 51 #[.val (.int u), .val (.int v101), .val (.int (16384 : Int32)), .val (.int (2 : Int32)), .val (.int v104)] [])) (fun t k => XS.icmpNo X103.here hx rfl (hb hby at_48) rfl (teq (by subst hv101 hv104; decide)).2 k) ?_
    refine own_by (g' := (mkF m 53 #[.val (.int u), .val (.int v101), .val (.int (16384 : Int32)), .val (.int (2 : Int32)), .val (.int v104)] [(.int v104)])) (fun t k => XS.iload X103.here hx rfl (hb hby at_51) rfl k) ?_
    refine own_by (g' := (mkF m 56 #[.val (.int u), .val (.int v101), .val (.int (16384 : Int32)), .val (.int (2 : Int32)), .val (.int v104)] [(.int (8192 : Int32)), (.int v104)])) (fun t k => XS.sipush X103.here hx rfl (hb hby at_53) k) ?_
    refine own_by (g' := (mkF m 57 #[.val (.int u), .val (.int v101), .val (.int (16384 : Int32)), .val (.int (2 : Int32)), .val (.int v104)] [(.int (v104 * (8192 : Int32)))])) (fun t k => XS.imul X103.here hx rfl (hb hby at_56) rfl k) ?_
    refine own_by (g' := (mkF m 58 #[.val (.int u), .val (.int v101), .val (.int (16384 : Int32)), .val (.int (2 : Int32)), .val (.int v104)] [(.int (16384 : Int32)), (.int (v104 * (8192 : Int32)))])) (fun t k => XS.iloadN X103.here hx rfl (hb hby at_57) rfl k) ?_
    refine own_by (g' := (mkF m 61 #[.val (.int u), .val (.int v101), .val (.int (16384 : Int32)), .val (.int (2 : Int32)), .val (.int v104)] [])) (fun t k => XS.icmpNo X103.here hx rfl (hb hby at_58) rfl (teq (by subst hv101 hv104; decide)).2 k) ?_
    refine own_by (g' := (mkF m 62 #[.val (.int u), .val (.int v101), .val (.int (16384 : Int32)), .val (.int (2 : Int32)), .val (.int v104)] [(.int (1 : Int32))])) (fun t k => XS.iconst X103.here hx rfl (hb hby at_61) k) ?_
    refine own_by (g' := (mkF m 66 #[.val (.int u), .val (.int v101), .val (.int (16384 : Int32)), .val (.int (2 : Int32)), .val (.int v104)] [(.int (1 : Int32))])) (fun t k => XS.goto X103.here hx rfl (pc0 := 62) (pc' := 66) rfl (hb hby at_62) (by decide) (by decide) k) ?_
    refine own_retN X103 hx hlk hret (t := .boolean) (by simp) (hb hby at_66) (by decide) (by decide) ?_
    exact ⟨rfl, N103, e103⟩
  ·
    refine own_by (g' := (mkF m 20 #[.val (.int u), .val (.int v101), .unset, .unset, .unset] [])) (fun t k => XS.ifYes X0.here hx rfl (pc0 := 8) (pc' := 20) rfl (hb hby at_8) rfl ((if0 _ _).trans (feq hc102).2) (by decide) (by decide) k) ?_
    refine own_by (g' := (mkF m 21 #[.val (.int u), .val (.int v101), .unset, .unset, .unset] [(.int v101)])) (fun t k => XS.iloadN X0.here hx rfl (hb hby at_20) rfl k) ?_
    refine own_by (g' := (mkF m 22 #[.val (.int u), .val (.int v101), .unset, .unset, .unset] [(.int (1 : Int32)), (.int v101)])) (fun t k => XS.iconst X0.here hx rfl (hb hby at_21) k) ?_
    by_cases hc105 : v101 = (1 : Int32)
    ·
      refine own_by (g' := (mkF m 25 #[.val (.int u), .val (.int v101), .unset, .unset, .unset] [])) (fun t k => XS.icmpNo X0.here hx rfl (hb hby at_22) rfl (teq hc105).2 k) ?_
      refine own_by (g' := (mkF m 27 #[.val (.int u), .val (.int v101), .unset, .unset, .unset] [(.int (32768 : Int32))])) (fun t k => X0.ldcInt hx hown (mvT hZ (hw _ (List.mem_of_getElem? (i := 14) rfl))) (g := (mkF m 25 #[.val (.int u), .val (.int v101), .unset, .unset, .unset] [])) rfl (hb hby at_25) t k) ?_
      refine own_by (g' := (mkF m 28 #[.val (.int u), .val (.int v101), .val (.int (32768 : Int32)), .unset, .unset] [])) (fun t k => XS.istoreN X0.here hx rfl (hb hby at_27) rfl (l' := #[.val (.int u), .val (.int v101), .val (.int (32768 : Int32)), .unset, .unset]) rfl k) ?_
      refine own_by (g' := (mkF m 29 #[.val (.int u), .val (.int v101), .val (.int (32768 : Int32)), .unset, .unset] [(.int (4 : Int32))])) (fun t k => XS.iconst X0.here hx rfl (hb hby at_28) k) ?_
      refine own_by (g' := (mkF m 30 #[.val (.int u), .val (.int v101), .val (.int (32768 : Int32)), .val (.int (4 : Int32)), .unset] [])) (fun t k => XS.istoreN X0.here hx rfl (hb hby at_29) rfl (l' := #[.val (.int u), .val (.int v101), .val (.int (32768 : Int32)), .val (.int (4 : Int32)), .unset]) rfl k) ?_
      refine own_by (g' := (mkF m 39 #[.val (.int u), .val (.int v101), .val (.int (32768 : Int32)), .val (.int (4 : Int32)), .unset] [])) (fun t k => XS.goto X0.here hx rfl (pc0 := 30) (pc' := 39) rfl (hb hby at_30) (by decide) (by decide) k) ?_
      refine own_by (g' := (mkF m 40 #[.val (.int u), .val (.int v101), .val (.int (32768 : Int32)), .val (.int (4 : Int32)), .unset] [(.int (32768 : Int32))])) (fun t k => XS.iloadN X0.here hx rfl (hb hby at_39) rfl k) ?_
      refine own_callS X0 hx hZ hown (hw _ (List.mem_of_getElem? (i := 1) rfl)) (hw _ (List.mem_of_getElem? (i := 2) rfl)) (hw _ (List.mem_of_getElem? (i := 3) rfl)) (hw _ (List.mem_of_getElem? (i := 4) rfl)) (by decide) (own_partsOf l Z a0 hw [] ((32768 : Int32)) h0 n0 Z0 (by first | assumption | decide) (by first | assumption | decide) (by first | assumption | decide)) 0 (by decide) (by decide) (by decide) (by decide) e0 (g := (mkF m 40 #[.val (.int u), .val (.int v101), .val (.int (32768 : Int32)), .val (.int (4 : Int32)), .unset] [(.int (32768 : Int32))])) rfl (by rw [hml]; rfl) (argsL := [(.int (32768 : Int32))]) (rest := []) (lenOf own_pd0 rfl) rfl (by show 2 * 0 + _ ≤ _; exact Nat.le_of_eq rfl) (hb hby at_40) ?_
      intro v106 T106 L106 X106 q106
      obtain ⟨rfl, N106q, e106⟩ := q106
      have N106 := Fr.app N0 N106q
      show own_Goes p e below s _ _ _ T106 (mkF m 43 #[.val (.int u), .val (.int v101), .val (.int (32768 : Int32)), .val (.int (4 : Int32)), .unset] [(.int ((32768 : Int32) / (8192 : Int32)))])
      generalize hv107 : ((32768 : Int32) / (8192 : Int32)) = v107
      refine own_by (g' := (mkF m 45 #[.val (.int u), .val (.int v101), .val (.int (32768 : Int32)), .val (.int (4 : Int32)), .val (.int v107)] [])) (fun t k => XS.istore X106.here hx rfl (hb hby at_43) rfl (l' := #[.val (.int u), .val (.int v101), .val (.int (32768 : Int32)), .val (.int (4 : Int32)), .val (.int v107)]) rfl k) ?_
      refine own_by (g' := (mkF m 47 #[.val (.int u), .val (.int v101), .val (.int (32768 : Int32)), .val (.int (4 : Int32)), .val (.int v107)] [(.int v107)])) (fun t k => XS.iload X106.here hx rfl (hb hby at_45) rfl k) ?_
      refine own_by (g' := (mkF m 48 #[.val (.int u), .val (.int v101), .val (.int (32768 : Int32)), .val (.int (4 : Int32)), .val (.int v107)] [(.int (4 : Int32)), (.int v107)])) (fun t k => XS.iloadN X106.here hx rfl (hb hby at_47) rfl k) ?_
      refine own_by (g' := (mkF m 51 #[.val (.int u), .val (.int v101), .val (.int (32768 : Int32)), .val (.int (4 : Int32)), .val (.int v107)] [])) (fun t k => XS.icmpNo X106.here hx rfl (hb hby at_48) rfl (teq (by subst hv101 hv107; decide)).2 k) ?_
      refine own_by (g' := (mkF m 53 #[.val (.int u), .val (.int v101), .val (.int (32768 : Int32)), .val (.int (4 : Int32)), .val (.int v107)] [(.int v107)])) (fun t k => XS.iload X106.here hx rfl (hb hby at_51) rfl k) ?_
      refine own_by (g' := (mkF m 56 #[.val (.int u), .val (.int v101), .val (.int (32768 : Int32)), .val (.int (4 : Int32)), .val (.int v107)] [(.int (8192 : Int32)), (.int v107)])) (fun t k => XS.sipush X106.here hx rfl (hb hby at_53) k) ?_
      refine own_by (g' := (mkF m 57 #[.val (.int u), .val (.int v101), .val (.int (32768 : Int32)), .val (.int (4 : Int32)), .val (.int v107)] [(.int (v107 * (8192 : Int32)))])) (fun t k => XS.imul X106.here hx rfl (hb hby at_56) rfl k) ?_
      refine own_by (g' := (mkF m 58 #[.val (.int u), .val (.int v101), .val (.int (32768 : Int32)), .val (.int (4 : Int32)), .val (.int v107)] [(.int (32768 : Int32)), (.int (v107 * (8192 : Int32)))])) (fun t k => XS.iloadN X106.here hx rfl (hb hby at_57) rfl k) ?_
      refine own_by (g' := (mkF m 61 #[.val (.int u), .val (.int v101), .val (.int (32768 : Int32)), .val (.int (4 : Int32)), .val (.int v107)] [])) (fun t k => XS.icmpNo X106.here hx rfl (hb hby at_58) rfl (teq (by subst hv101 hv107; decide)).2 k) ?_
      refine own_by (g' := (mkF m 62 #[.val (.int u), .val (.int v101), .val (.int (32768 : Int32)), .val (.int (4 : Int32)), .val (.int v107)] [(.int (1 : Int32))])) (fun t k => XS.iconst X106.here hx rfl (hb hby at_61) k) ?_
      refine own_by (g' := (mkF m 66 #[.val (.int u), .val (.int v101), .val (.int (32768 : Int32)), .val (.int (4 : Int32)), .val (.int v107)] [(.int (1 : Int32))])) (fun t k => XS.goto X106.here hx rfl (pc0 := 62) (pc' := 66) rfl (hb hby at_62) (by decide) (by decide) k) ?_
      refine own_retN X106 hx hlk hret (t := .boolean) (by simp) (hb hby at_66) (by decide) (by decide) ?_
      exact ⟨rfl, N106, e106⟩
    ·
      refine own_by (g' := (mkF m 33 #[.val (.int u), .val (.int v101), .unset, .unset, .unset] [])) (fun t k => XS.icmpYes X0.here hx rfl (pc0 := 22) (pc' := 33) rfl (hb hby at_22) rfl (feq hc105).2 (by decide) (by decide) k) ?_
      refine own_by (g' := (mkF m 35 #[.val (.int u), .val (.int v101), .unset, .unset, .unset] [(.int (65536 : Int32))])) (fun t k => X0.ldcInt hx hown (mvT hZ (hw _ (List.mem_of_getElem? (i := 13) rfl))) (g := (mkF m 33 #[.val (.int u), .val (.int v101), .unset, .unset, .unset] [])) rfl (hb hby at_33) t k) ?_
      refine own_by (g' := (mkF m 36 #[.val (.int u), .val (.int v101), .val (.int (65536 : Int32)), .unset, .unset] [])) (fun t k => XS.istoreN X0.here hx rfl (hb hby at_35) rfl (l' := #[.val (.int u), .val (.int v101), .val (.int (65536 : Int32)), .unset, .unset]) rfl k) ?_
      refine own_by (g' := (mkF m 38 #[.val (.int u), .val (.int v101), .val (.int (65536 : Int32)), .unset, .unset] [(.int (8 : Int32))])) (fun t k => XS.bipush X0.here hx rfl (hb hby at_36) k) ?_
      refine own_by (g' := (mkF m 39 #[.val (.int u), .val (.int v101), .val (.int (65536 : Int32)), .val (.int (8 : Int32)), .unset] [])) (fun t k => XS.istoreN X0.here hx rfl (hb hby at_38) rfl (l' := #[.val (.int u), .val (.int v101), .val (.int (65536 : Int32)), .val (.int (8 : Int32)), .unset]) rfl k) ?_
      refine own_by (g' := (mkF m 40 #[.val (.int u), .val (.int v101), .val (.int (65536 : Int32)), .val (.int (8 : Int32)), .unset] [(.int (65536 : Int32))])) (fun t k => XS.iloadN X0.here hx rfl (hb hby at_39) rfl k) ?_
      refine own_callS X0 hx hZ hown (hw _ (List.mem_of_getElem? (i := 1) rfl)) (hw _ (List.mem_of_getElem? (i := 2) rfl)) (hw _ (List.mem_of_getElem? (i := 3) rfl)) (hw _ (List.mem_of_getElem? (i := 4) rfl)) (by decide) (own_partsOf l Z a0 hw [] ((65536 : Int32)) h0 n0 Z0 (by first | assumption | decide) (by first | assumption | decide) (by first | assumption | decide)) 0 (by decide) (by decide) (by decide) (by decide) e0 (g := (mkF m 40 #[.val (.int u), .val (.int v101), .val (.int (65536 : Int32)), .val (.int (8 : Int32)), .unset] [(.int (65536 : Int32))])) rfl (by rw [hml]; rfl) (argsL := [(.int (65536 : Int32))]) (rest := []) (lenOf own_pd0 rfl) rfl (by show 2 * 0 + _ ≤ _; exact Nat.le_of_eq rfl) (hb hby at_40) ?_
      intro v108 T108 L108 X108 q108
      obtain ⟨rfl, N108q, e108⟩ := q108
      have N108 := Fr.app N0 N108q
      show own_Goes p e below s _ _ _ T108 (mkF m 43 #[.val (.int u), .val (.int v101), .val (.int (65536 : Int32)), .val (.int (8 : Int32)), .unset] [(.int ((65536 : Int32) / (8192 : Int32)))])
      generalize hv109 : ((65536 : Int32) / (8192 : Int32)) = v109
      refine own_by (g' := (mkF m 45 #[.val (.int u), .val (.int v101), .val (.int (65536 : Int32)), .val (.int (8 : Int32)), .val (.int v109)] [])) (fun t k => XS.istore X108.here hx rfl (hb hby at_43) rfl (l' := #[.val (.int u), .val (.int v101), .val (.int (65536 : Int32)), .val (.int (8 : Int32)), .val (.int v109)]) rfl k) ?_
      refine own_by (g' := (mkF m 47 #[.val (.int u), .val (.int v101), .val (.int (65536 : Int32)), .val (.int (8 : Int32)), .val (.int v109)] [(.int v109)])) (fun t k => XS.iload X108.here hx rfl (hb hby at_45) rfl k) ?_
      refine own_by (g' := (mkF m 48 #[.val (.int u), .val (.int v101), .val (.int (65536 : Int32)), .val (.int (8 : Int32)), .val (.int v109)] [(.int (8 : Int32)), (.int v109)])) (fun t k => XS.iloadN X108.here hx rfl (hb hby at_47) rfl k) ?_
      refine own_by (g' := (mkF m 51 #[.val (.int u), .val (.int v101), .val (.int (65536 : Int32)), .val (.int (8 : Int32)), .val (.int v109)] [])) (fun t k => XS.icmpNo X108.here hx rfl (hb hby at_48) rfl (teq (by subst hv101 hv109; decide)).2 k) ?_
      refine own_by (g' := (mkF m 53 #[.val (.int u), .val (.int v101), .val (.int (65536 : Int32)), .val (.int (8 : Int32)), .val (.int v109)] [(.int v109)])) (fun t k => XS.iload X108.here hx rfl (hb hby at_51) rfl k) ?_
      refine own_by (g' := (mkF m 56 #[.val (.int u), .val (.int v101), .val (.int (65536 : Int32)), .val (.int (8 : Int32)), .val (.int v109)] [(.int (8192 : Int32)), (.int v109)])) (fun t k => XS.sipush X108.here hx rfl (hb hby at_53) k) ?_
      refine own_by (g' := (mkF m 57 #[.val (.int u), .val (.int v101), .val (.int (65536 : Int32)), .val (.int (8 : Int32)), .val (.int v109)] [(.int (v109 * (8192 : Int32)))])) (fun t k => XS.imul X108.here hx rfl (hb hby at_56) rfl k) ?_
      refine own_by (g' := (mkF m 58 #[.val (.int u), .val (.int v101), .val (.int (65536 : Int32)), .val (.int (8 : Int32)), .val (.int v109)] [(.int (65536 : Int32)), (.int (v109 * (8192 : Int32)))])) (fun t k => XS.iloadN X108.here hx rfl (hb hby at_57) rfl k) ?_
      refine own_by (g' := (mkF m 61 #[.val (.int u), .val (.int v101), .val (.int (65536 : Int32)), .val (.int (8 : Int32)), .val (.int v109)] [])) (fun t k => XS.icmpNo X108.here hx rfl (hb hby at_58) rfl (teq (by subst hv101 hv109; decide)).2 k) ?_
      refine own_by (g' := (mkF m 62 #[.val (.int u), .val (.int v101), .val (.int (65536 : Int32)), .val (.int (8 : Int32)), .val (.int v109)] [(.int (1 : Int32))])) (fun t k => XS.iconst X108.here hx rfl (hb hby at_61) k) ?_
      refine own_by (g' := (mkF m 66 #[.val (.int u), .val (.int v101), .val (.int (65536 : Int32)), .val (.int (8 : Int32)), .val (.int v109)] [(.int (1 : Int32))])) (fun t k => XS.goto X108.here hx rfl (pc0 := 62) (pc' := 66) rfl (hb hby at_62) (by decide) (by decide) k) ?_
      refine own_retN X108 hx hlk hret (t := .boolean) (by simp) (hb hby at_66) (by decide) (by decide) ?_
      exact ⟨rfl, N108, e108⟩
set_option maxRecDepth 65536 in
set_option maxHeartbeats 40000000 in
theorem comes_1 {Post : Tables → Env → Array Value → State → Outcome → State → Prop} (hpost : ∀ tb e args s v u, (limb_1_1.after args s (.returned v) u = true ∧ limb_1_2.after args s (.returned v) u = true ∧ True) → FrameEnd s (.returned v) u (Jvm.fieldLocs frame_1_writes args s ++ Jvm.arrayLocs frame_1_arrays args s ++ Jvm.staticLocs frame_1_statics s) 0 0 → Post tb e args s (.returned v) u) :
    ArmFor flags0 classFile x code maxLocals ret World_1 tables_1 room_1 Calls_1 rest_1 Pre_1 Post := by
  intro l hfl _ _ p e ha hc hk s m args below hf hA hF happ hP
  obtain ⟨hcalls, hrest, hpre⟩ := hP
  obtain ⟨-, -, -, hnamed, -, -, -, hat⟩ := (Spec.applies_iff hf).mp happ
  obtain ⟨hg, hn⟩ := and_e (Cond.before_iff.mp (show (Jvm.Cond.and given_1 narrow_1).before args s = true from hpre))
  obtain ⟨ga1, gb1⟩ := and_e hg
  obtain ⟨w0, rfl⟩ : ∃ w0 : Value, args = #[w0] := by
    have hs : args.size = 1 := by simpa [Cond.value, given_1] using ga1
    obtain ⟨L⟩ := args
    match L, hs with
    | [w0], _ => exact ⟨w0, rfl⟩
  have hw := fun d (hd : d ∈ tables_1) => atoms_spec (ws := Jvm.Cond.code x code maxLocals ret :: tables_1) hat d (List.mem_cons_of_mem _ hd)
  have hfit : Fit s := fun {y c} hc i hi => by
    obtain ⟨ha, rfl⟩ := Array.getElem?_eq_some_iff.mp hc
    have q := List.all_eq_true.mp ((Array.all_eq_true_iff_forall_mem.mp hF) _ (Array.getElem_mem ha)) i (List.mem_range.mpr hi)
    simpa [Array.getElem?_eq_getElem hi] using q
  obtain ⟨i0, ei0⟩ := is_v gb1
  obtain rfl : w0 = (.int i0) := Option.some.inj ei0
  obtain ⟨n, o, h1, h2, h3, _, L, rfl, ⟨rfl, N, -⟩, hq⟩ := own_law l s _ hw tables_1 i0 s.heap s.heap.size (Nat.le_refl _)  p e ha hc hk s m _ below hf ((Spec.applies_iff_loose hf).mp happ).1 ⟨rfl, State.Warmed39.refl s, rfl⟩ trivial
  exact ⟨n, _, h1, h2, h3, hpost _ _ _ _ _ _ ⟨Cond.after_iff.mpr rfl, Cond.after_iff.mpr (eq_i res_at (Term.int_eval (1)) rfl), trivial⟩ ⟨hq.1, hq.2.1, (hq.2.2.sift fun y hy => Or.inr (N y hy)).mono (by decide) (by decide)⟩⟩
theorem main_1_1 : Claimed_1_1 := comes_1 fun _ _ _ _ _ _ h hF => ⟨h.1, hF⟩
theorem main_1_2 : Claimed_1_2 := comes_1 fun _ _ _ _ _ _ h hF => ⟨h.2.1, hF⟩
end Jvm.Pilot.@@N@@
namespace Jvm.Pilot.@@N@@
open Jvm Jvm.ClassFile Sem Op Lib Jvm.Free Jvm.Stand Jvm.Pilot.@@N@@.Jvm.D
/-! MADE BY PROGRAM (witnessworld.py) out of the Statement's table words and the real class files: 14 classes; the members and pool entries that the words name. The judged class is class 1, her method 1. -/
namespace start1
open Jvm.ClassFile
def u (s : String) : CpInfo := .utf8 (stringToUtf16 s)
/-- a pool by its gaps: so many unusable entries, then the entry; so many at the end -/
def gap : Nat → List CpInfo → List CpInfo
  | 0, r => r
  | n + 1, r => .unusable :: gap n r
def poolList (es : List (Nat × CpInfo)) (last : Nat) : List CpInfo := es.foldr (fun e r => gap e.1 (e.2 :: r)) (gap last [])
def pool (es : List (Nat × CpInfo)) (last : Nat) : Array CpInfo := ⟨poolList es last⟩
def fileOf (pool : Array CpInfo) (this : Nat) (attrs : Array Attribute := #[]) (ms : Array MethodInfo := #[]) (fl : Nat := 33) (sup : Nat := 0) (ifs : Array Nat := #[]) (fds : Array FieldInfo := #[]) : ClassFile where
  minorVersion := 0
  majorVersion := 65
  constantPool := pool
  accessFlags := fl
  thisClass := this
  superClass := sup
  interfaces := ifs
  fields := fds
  methods := ms
  attributes := attrs
def plain (name : String) (sup : Option ClassId) : Class where
  name := name
  kind := .ordinary
  loader := none
  accessFlags := 33
  super := sup
  interfaces := #[]
  cf := none
  fields := #[]
  methods := #[]
  instanceTypes := #[]
  staticTypes := #[]
  resolved := #[]
  callSites := []
  init := .initialized
  statics := none
  mirror := none

def pool0 : Array CpInfo := pool [(5, u "<init>"), (0, u "()V"), (1, .class_ 10), (1, u "java/lang/Object")] 113

def k0m0 : Method := { name := "<init>", desc := "()V", sig := { parameters := [], returnType := none }, accessFlags := 1, code := none }
/-- java/lang/Object -/
def k0 : Class := { plain "java/lang/Object" none with
  accessFlags := 33
  interfaces := #[]
  cf := some (fileOf pool0 8 #[] #[{ accessFlags := 1, nameIndex := 5, descriptorIndex := 6, attributes := #[] }] 33 0 #[] #[])
  fields := #[]
  methods := #[k0m0]
  instanceTypes := #[]
  staticTypes := #[]
  resolved := Array.replicate 124 none
  statics := none }

def pool1 : Array CpInfo := pool [(2, .class_ 4), (1, u "java/lang/Object"), (0, u "<init>"), (0, u "()V"), (0, .integer 2147483647), (0, .integer 32768), (0, .integer 65536), (0, .methodref 11 12), (0, .class_ 13), (0, .nameAndType 14 15), (0, u "com/example/abakus/abakus/summary/RecipientBitmap"), (0, u "partsOf"), (0, u "(I)I"), (0, .class_ 17), (0, u "com/example/abakus/abakus/summary/RecipientBitmapPartsOfPinLaw"), (2, u "law"), (0, u "(I)Z")] 3

def k1m0 : Method := { name := "<init>", desc := "()V", sig := { parameters := [], returnType := none }, accessFlags := 1, code := none }
def k1c1 : Code := { maxStack := 2, maxLocals := 5, code := code, exceptionTable := #[], attributes := #[] }
def k1m1 : Method := { name := "law", desc := "(I)Z", sig := { parameters := [.int], returnType := some .boolean }, accessFlags := 9, code := some k1c1 }
/-- com/example/abakus/abakus/summary/RecipientBitmapPartsOfPinLaw -/
def k1 : Class := { plain "com/example/abakus/abakus/summary/RecipientBitmapPartsOfPinLaw" (some 0) with
  accessFlags := 49
  interfaces := #[]
  cf := some (fileOf pool1 16 #[] #[{ accessFlags := 1, nameIndex := 5, descriptorIndex := 6, attributes := #[] }, { accessFlags := 9, nameIndex := 20, descriptorIndex := 21, attributes := #[] }] 49 2 #[] #[])
  fields := #[]
  methods := #[k1m0, k1m1]
  instanceTypes := #[]
  staticTypes := #[]
  resolved := Array.replicate 25 none
  statics := none }

def pool2 : Array CpInfo := pool [(1, .class_ 2), (0, u "com/example/abakus/abakus/summary/RecipientBitmap"), (6, u "partsOf"), (0, u "(I)I"), (8, u "parts"), (0, u "[[B"), (2, u "changed"), (0, u "Ljava/util/Set;"), (1, .class_ 28), (1, u "java/lang/Integer"), (9, .class_ 40), (1, u "java/lang/Object"), (6, u "bits"), (0, u "I"), (45, .methodref 26 95), (0, .nameAndType 96 10), (0, u "bitCount"), (0, .integer 65536), (70, u "MOST_BITS"), (1, u "PART_BYTES"), (1, u "LEAST_BITS"), (1, u "PART_BITS"), (1, u "MOST_LISTED_BITS")] 45

def k2c0 : Code := { maxStack := 3, maxLocals := 1, code := prog_33_method_4_code, exceptionTable := #[], attributes := #[] }
def k2m0 : Method := { name := "partsOf", desc := "(I)I", sig := { parameters := [.int], returnType := some .int }, accessFlags := 8, code := some k2c0 }
/-- com/example/abakus/abakus/summary/RecipientBitmap -/
def k2 : Class := { plain "com/example/abakus/abakus/summary/RecipientBitmap" (some 0) with
  accessFlags := 32
  interfaces := #[]
  cf := some (fileOf pool2 1 #[] #[{ accessFlags := 8, nameIndex := 9, descriptorIndex := 10, attributes := #[] }] 32 38 #[] #[{ accessFlags := 24, nameIndex := 168, descriptorIndex := 48, attributes := #[] }, { accessFlags := 24, nameIndex := 170, descriptorIndex := 48, attributes := #[] }, { accessFlags := 24, nameIndex := 172, descriptorIndex := 48, attributes := #[] }, { accessFlags := 24, nameIndex := 174, descriptorIndex := 48, attributes := #[] }, { accessFlags := 26, nameIndex := 176, descriptorIndex := 48, attributes := #[] }, { accessFlags := 18, nameIndex := 47, descriptorIndex := 48, attributes := #[] }, { accessFlags := 18, nameIndex := 19, descriptorIndex := 20, attributes := #[] }, { accessFlags := 18, nameIndex := 23, descriptorIndex := 24, attributes := #[] }])
  fields := #[{ name := "MOST_BITS", type := .int, accessFlags := 24, slot := 0, constantValue := 0 }, { name := "PART_BYTES", type := .int, accessFlags := 24, slot := 1, constantValue := 0 }, { name := "LEAST_BITS", type := .int, accessFlags := 24, slot := 2, constantValue := 0 }, { name := "PART_BITS", type := .int, accessFlags := 24, slot := 3, constantValue := 0 }, { name := "MOST_LISTED_BITS", type := .int, accessFlags := 26, slot := 4, constantValue := 0 }, { name := "bits", type := .int, accessFlags := 18, slot := 0, constantValue := 0 }, { name := "parts", type := (.array (.array .byte)), accessFlags := 18, slot := 1, constantValue := 0 }, { name := "changed", type := (.object "java/util/Set"), accessFlags := 18, slot := 2, constantValue := 0 }]
  methods := #[k2m0]
  instanceTypes := #[.int, (.array (.array .byte)), (.object "java/util/Set")]
  staticTypes := #[.int, .int, .int, .int, .int]
  resolved := Array.replicate 222 none
  statics := none }

def pool3 : Array CpInfo := pool [(1, .class_ 2), (0, u "java/io/Serializable"), (0, .class_ 4), (0, u "java/lang/Object")] 2

/-- java/io/Serializable -/
def k3 : Class := { plain "java/io/Serializable" (some 0) with
  accessFlags := 1537
  interfaces := #[]
  cf := some (fileOf pool3 1 #[] #[] 1537 3 #[] #[])
  fields := #[]
  methods := #[]
  instanceTypes := #[]
  staticTypes := #[]
  resolved := Array.replicate 7 none
  statics := none }

def pool4 : Array CpInfo := pool [(2, .class_ 4), (1, u "java/lang/Object"), (0, u "<init>"), (0, u "()V"), (1, .class_ 10), (1, u "java/lang/Number"), (2, .class_ 14), (0, u "java/io/Serializable"), (0, u "serialVersionUID"), (0, u "J")] 20

def k4m0 : Method := { name := "<init>", desc := "()V", sig := { parameters := [], returnType := none }, accessFlags := 1, code := none }
/-- java/lang/Number -/
def k4 : Class := { plain "java/lang/Number" (some 0) with
  accessFlags := 1057
  interfaces := #[3]
  cf := some (fileOf pool4 8 #[] #[{ accessFlags := 1, nameIndex := 5, descriptorIndex := 6, attributes := #[] }] 1057 2 #[13] #[{ accessFlags := 26, nameIndex := 15, descriptorIndex := 16, attributes := #[] }])
  fields := #[{ name := "serialVersionUID", type := .long, accessFlags := 26, slot := 0, constantValue := 0 }]
  methods := #[k4m0]
  instanceTypes := #[]
  staticTypes := #[.long]
  resolved := Array.replicate 37 none
  statics := none }

def pool5 : Array CpInfo := pool [(1, .class_ 2), (0, u "java/lang/Comparable"), (0, .class_ 4), (0, u "java/lang/Object")] 7

/-- java/lang/Comparable -/
def k5 : Class := { plain "java/lang/Comparable" (some 0) with
  accessFlags := 1537
  interfaces := #[]
  cf := some (fileOf pool5 1 #[] #[] 1537 3 #[] #[])
  fields := #[]
  methods := #[]
  instanceTypes := #[]
  staticTypes := #[]
  resolved := Array.replicate 12 none
  statics := none }

def pool6 : Array CpInfo := pool [(1, .class_ 2), (0, u "java/lang/constant/Constable"), (0, .class_ 4), (0, u "java/lang/Object")] 6

/-- java/lang/constant/Constable -/
def k6 : Class := { plain "java/lang/constant/Constable" (some 0) with
  accessFlags := 1537
  interfaces := #[]
  cf := some (fileOf pool6 1 #[] #[] 1537 3 #[] #[])
  fields := #[]
  methods := #[]
  instanceTypes := #[]
  staticTypes := #[]
  resolved := Array.replicate 11 none
  statics := none }

def pool7 : Array CpInfo := pool [(1, .class_ 2), (0, u "java/lang/constant/ConstantDesc"), (0, .class_ 4), (0, u "java/lang/Object")] 32

/-- java/lang/constant/ConstantDesc -/
def k7 : Class := { plain "java/lang/constant/ConstantDesc" (some 0) with
  accessFlags := 1537
  interfaces := #[]
  cf := some (fileOf pool7 1 #[] #[] 1537 3 #[] #[])
  fields := #[]
  methods := #[]
  instanceTypes := #[]
  staticTypes := #[]
  resolved := Array.replicate 37 none
  statics := none }

def pool8 : Array CpInfo := pool [(1, .class_ 2), (0, u "java/lang/Integer"), (16, u "digits"), (0, u "[C"), (33, u "(I)I"), (30, u "DigitOnes"), (0, u "[B"), (2, u "DigitTens"), (99, .class_ 190), (0, u "java/lang/Integer$IntegerCache"), (3, u "I"), (8, .class_ 204), (0, u "java/lang/Number"), (2, u "value"), (57, .integer 1431655765), (0, .integer 858993459), (0, .integer 252645135), (34, u "TYPE"), (0, u "Ljava/lang/Class;"), (0, .class_ 305), (0, u "java/lang/Comparable"), (0, .class_ 307), (0, u "java/lang/constant/Constable"), (0, .class_ 309), (0, u "java/lang/constant/ConstantDesc"), (0, u "MIN_VALUE"), (1, u "MAX_VALUE"), (3, u "SIZE"), (1, u "BYTES"), (1, u "serialVersionUID"), (0, u "J"), (85, u "bitCount")] 45

def k8c0 : Code := { maxStack := 3, maxLocals := 1, code := jdk_33_method_49_code, exceptionTable := #[], attributes := #[] }
def k8m0 : Method := { name := "bitCount", desc := "(I)I", sig := { parameters := [.int], returnType := some .int }, accessFlags := 9, code := some k8c0 }
/-- java/lang/Integer -/
def k8 : Class := { plain "java/lang/Integer" (some 4) with
  accessFlags := 49
  interfaces := #[5, 6, 7]
  cf := some (fileOf pool8 1 #[.nestMembers #[189]] #[{ accessFlags := 9, nameIndex := 407, descriptorIndex := 54, attributes := #[] }] 49 203 #[304, 306, 308] #[{ accessFlags := 25, nameIndex := 310, descriptorIndex := 194, attributes := #[] }, { accessFlags := 25, nameIndex := 312, descriptorIndex := 194, attributes := #[] }, { accessFlags := 25, nameIndex := 302, descriptorIndex := 303, attributes := #[] }, { accessFlags := 24, nameIndex := 19, descriptorIndex := 20, attributes := #[] }, { accessFlags := 24, nameIndex := 89, descriptorIndex := 86, attributes := #[] }, { accessFlags := 24, nameIndex := 85, descriptorIndex := 86, attributes := #[] }, { accessFlags := 18, nameIndex := 207, descriptorIndex := 194, attributes := #[] }, { accessFlags := 25, nameIndex := 316, descriptorIndex := 194, attributes := #[] }, { accessFlags := 25, nameIndex := 318, descriptorIndex := 194, attributes := #[] }, { accessFlags := 26, nameIndex := 320, descriptorIndex := 321, attributes := #[] }])
  fields := #[{ name := "MIN_VALUE", type := .int, accessFlags := 25, slot := 0, constantValue := 0 }, { name := "MAX_VALUE", type := .int, accessFlags := 25, slot := 1, constantValue := 0 }, { name := "TYPE", type := (.object "java/lang/Class"), accessFlags := 25, slot := 2, constantValue := 0 }, { name := "digits", type := (.array .char), accessFlags := 24, slot := 3, constantValue := 0 }, { name := "DigitTens", type := (.array .byte), accessFlags := 24, slot := 4, constantValue := 0 }, { name := "DigitOnes", type := (.array .byte), accessFlags := 24, slot := 5, constantValue := 0 }, { name := "value", type := .int, accessFlags := 18, slot := 0, constantValue := 0 }, { name := "SIZE", type := .int, accessFlags := 25, slot := 6, constantValue := 0 }, { name := "BYTES", type := .int, accessFlags := 25, slot := 7, constantValue := 0 }, { name := "serialVersionUID", type := .long, accessFlags := 26, slot := 8, constantValue := 0 }]
  methods := #[k8m0]
  instanceTypes := #[.int]
  staticTypes := #[.int, .int, (.object "java/lang/Class"), (.array .char), (.array .byte), (.array .byte), .int, .int, .long]
  resolved := Array.replicate 453 none
  statics := none }

def pool9 : Array CpInfo := pool [(1, u "java/lang/Cloneable"), (0, .class_ 1), (0, u "java/lang/Object"), (0, .class_ 3)] 3

/-- java/lang/Cloneable -/
def k9 : Class := { plain "java/lang/Cloneable" (some 0) with
  accessFlags := 1537
  interfaces := #[]
  cf := some (fileOf pool9 2 #[] #[] 1537 4 #[] #[])
  fields := #[]
  methods := #[]
  instanceTypes := #[]
  staticTypes := #[]
  resolved := Array.replicate 8 none
  statics := none }

/-- the primitive byte -/
def k10 : Class := { plain "byte" none with kind := .primitive 'B', accessFlags := 0x411 }
/-- [B -/
def k11 : Class := { plain "[B" (some 0) with kind := .array 10 .byte, interfaces := #[9, 3], accessFlags := 1041 }

/-- the primitive int -/
def k12 : Class := { plain "int" none with kind := .primitive 'I', accessFlags := 0x411 }
/-- [I -/
def k13 : Class := { plain "[I" (some 0) with kind := .array 12 .int, interfaces := #[9, 3], accessFlags := 1041 }

def heap : Heap := #[]
def classes : Array Class := #[k0, k1, k2, k3, k4, k5, k6, k7, k8, k9, k10, k11, k12, k13]
def interned : List (Array UInt16 × Addr) := []
def slotsUsed : Nat := 0
def theMethod : MethodId := ⟨1, 1⟩
def args0 : Array Value := #[.int 5]
def aboutOver (below : List Frame) : State where
  vm := { classes := classes, interned := interned.toArray }
  heap := heap
  slotsUsed := slotsUsed
  threads := #[{ frames := .invoking theMethod args0 :: below }]
def below0 : List Frame := [.native { method := ⟨0, 0⟩, args := #[] }]
def about1 : State := aboutOver below0
def p0 : Program := .bare "" "" ""
def e0 : Env := launch0.env 0 0 0
theorem w_frames : about1.frames = Frame.invoking theMethod args0 :: below0 := rfl
set_option maxRecDepth 65536 in
theorem w_args : argsFit about1.vm theMethod args0 = true := by decide +kernel
set_option maxRecDepth 65536 in
theorem w_heap : heapFits about1 = true := by decide +kernel
set_option maxRecDepth 65536 in
theorem w_runnable : about1.curStatus? = some .runnable := by decide +kernel
set_option maxRecDepth 65536 in
theorem w_alone : about1.alone = true := by decide +kernel
set_option maxRecDepth 65536 in
theorem w_named : about1.methodNamed? x = some theMethod := by decide +kernel
set_option maxRecDepth 65536 in
theorem w_hears : about1.hears theMethod below0 = true := by decide +kernel
set_option maxRecDepth 65536 in
theorem w_ripe : about1.ripe theMethod args0 below0 = true := by decide +kernel
theorem w_running : about1.status = .running := rfl
set_option maxRecDepth 65536 in
theorem w_room : about1.hasRoom e0.platform room_1 = true :=
  launch0.hasRoom_least _ room_1 (by decide +kernel) (by decide +kernel) (by decide +kernel) (by decide +kernel) (by decide +kernel) (by decide +kernel)
theorem allAtoms_all (ts : List Jvm.Cond) (a : Array Jvm.Value) (st : Jvm.State) : (allAtoms ts).before a st = ts.all (fun c => c.before a st) := by
  induction ts with
  | nil => rfl
  | cons c t ih =>
    show (Jvm.Cond.and c (allAtoms t)).before a st = _
    rw [Jvm.Cond.before_and, ih, List.all_cons]
def words1 : List Jvm.Cond := Jvm.Cond.code x code maxLocals ret :: tables_1
/-- a 'code' word, met by the world's own term for the bytes: nothing is compared byte by byte -/
theorem code_word {y : MethodName} {bytes : ByteArray} {mx : Nat} {rt : Option FieldType} {a : Array Value} {s : State} {m : MethodId} {meth : Method} {c : Code} (h1 : s.methodNamed? y = some m) (h2 : s.vm.method? m = some meth) (h3 : meth.code = some c) (h4 : c.code = bytes)
    (h5 : (c.maxLocals == mx && c.exceptionTable.isEmpty && decide (c.maxStack ≤ mostOperands) && decide (meth.sig.returnType = rt) && !meth.locks && decide (parseMethodDescriptor y.desc = some meth.sig)) = true) : (Jvm.Cond.code y bytes mx rt).before a s = true := by
  simp only [Bool.and_eq_true, beq_iff_eq, Bool.not_eq_true', decide_eq_true_eq] at h5
  obtain ⟨⟨⟨⟨⟨g1, g2⟩, g3⟩, g4⟩, g5⟩, g6⟩ := h5
  simp [Cond.before, Cond.holds, Cond.value, h1, h2, h3, h4, g1, g2, g3, g4, g5, g6]
def isCode : Jvm.Cond → Bool
  | .code _ _ _ _ => true
  | _ => false
theorem all_split {L : List Jvm.Cond} {P : Jvm.Cond → Bool} (h1 : L.all (fun c => isCode c || P c) = true) (h2 : ∀ c ∈ L.filter isCode, P c = true) : L.all P = true := by
  refine List.all_eq_true.mpr fun c hc => ?_
  have h := List.all_eq_true.mp h1 c hc
  rcases Bool.eq_false_or_eq_true (isCode c) with hi | hi
  · exact h2 c (List.mem_filter.mpr ⟨hc, hi⟩)
  · simpa [hi] using h
set_option maxRecDepth 65536 in
theorem w_c0 : (Jvm.Cond.code x code maxLocals ret).before args0 about1 = true := code_word (m := ⟨1, 1⟩) (meth := k1m1) (c := k1c1) (by decide +kernel) rfl rfl rfl (by decide +kernel)
set_option maxRecDepth 65536 in
theorem w_c1 : (Jvm.Cond.code ({ cls := "com/example/abakus/abakus/summary/RecipientBitmap", name := "partsOf", desc := "(I)I" } : Jvm.MethodName) prog_33_method_4_code (1 : Nat) (Option.some Jvm.ClassFile.FieldType.int)).before args0 about1 = true := code_word (m := ⟨2, 0⟩) (meth := k2m0) (c := k2c0) (by decide +kernel) rfl rfl rfl (by decide +kernel)
set_option maxRecDepth 65536 in
theorem w_c2 : (Jvm.Cond.code ({ cls := "java/lang/Integer", name := "bitCount", desc := "(I)I" } : Jvm.MethodName) jdk_33_method_49_code (1 : Nat) (Option.some Jvm.ClassFile.FieldType.int)).before args0 about1 = true := code_word (m := ⟨8, 0⟩) (meth := k8m0) (c := k8c0) (by decide +kernel) rfl rfl rfl (by decide +kernel)
def codes1 : List Jvm.Cond := [Jvm.Cond.code x code maxLocals ret, Jvm.Cond.code ({ cls := "com/example/abakus/abakus/summary/RecipientBitmap", name := "partsOf", desc := "(I)I" } : Jvm.MethodName) prog_33_method_4_code (1 : Nat) (Option.some Jvm.ClassFile.FieldType.int), Jvm.Cond.code ({ cls := "java/lang/Integer", name := "bitCount", desc := "(I)I" } : Jvm.MethodName) jdk_33_method_49_code (1 : Nat) (Option.some Jvm.ClassFile.FieldType.int)]
set_option maxRecDepth 65536 in
theorem codes_eq : words1.filter isCode = codes1 := rfl
theorem w_codes : ∀ c ∈ words1.filter isCode, c.before args0 about1 = true := by
  rw [codes_eq]
  intro c hc
  simp only [codes1, List.mem_cons, List.not_mem_nil, or_false] at hc
  rcases hc with rfl | rfl | rfl
  · exact w_c0
  · exact w_c1
  · exact w_c2
set_option maxRecDepth 65536 in
theorem w_t1 : words1.all (fun c => isCode c || c.before args0 about1) = true := by decide +kernel
theorem w_tables : (allAtoms (Jvm.Cond.code x code maxLocals ret :: tables_1)).before args0 about1 = true := by
  rw [allAtoms_all]
  show words1.all (fun c => c.before args0 about1) = true
  refine all_split ?_ w_codes
  rw [w_t1]
set_option maxRecDepth 65536 in
theorem w_case : (Jvm.Cond.and given_1 narrow_1).before args0 about1 = true := by decide +kernel
theorem w_applies : (headSpec (Jvm.Cond.code x code maxLocals ret :: tables_1) room_1).applies x e0.platform about1 = true :=
  (Spec.applies_iff w_frames).mpr ⟨w_running, w_runnable, w_alone, w_named, w_hears, w_ripe, w_room, w_tables⟩
theorem atStart : AtStart classFile x code maxLocals ret World_1 tables_1 room_1 Calls_1 rest_1 Pre_1 launch0 p0 e0 about1 theMethod args0 below0 :=
  ⟨lists_1, trivial, launch0.admits_env _ _ _, launch0.least_env, fairChoices_fair.cas, fairChoices_fair.clock, w_frames, w_args, w_heap, w_applies, trivial, trivial, w_case⟩
end start1
theorem witness_1 : WitnessClaimed_1 := ⟨start1.p0, start1.e0, start1.about1, start1.theMethod, start1.args0, start1.below0, start1.atStart⟩
end Jvm.Pilot.@@N@@
