import JvmDerived
import JvmDerived.Pilot.@@N@@Statement
import JvmDerived.Pilot.@@N@@Code
set_option linter.unusedVariables false
set_option linter.unusedSimpArgs false
namespace Jvm.Pilot.@@N@@
open Jvm Jvm.ClassFile Sem Op Lib Jvm.Free Jvm.Stand Jvm.LawKit Jvm.RoadKit Bundle Jvm.Pilot.@@N@@.Jvm.D
/-! own prelude: 'own_Goes' says that from state T with top frame g the invocation comes to its end with what Q says -/
section OwnPrelude
variable {p : Program} {l : Launch} {e : Env} {R : Room} {s : State} {m : MethodId} {args : Array Value} {below : List Frame} {meth : Method} {c : Code} {T T' : State} {locs : List Loc} {cells slots : Nat} {Z : State} {a0 : Array Value} {h : Heap} {kc ks : Nat} {Q : Option Value → Heap → List Loc → Prop} {g g' : JFrame}
def own_Goes (p : Program) (e : Env) (below : List Frame) (s : State) (kc ks : Nat) (Q : Option Value → Heap → List Loc → Prop) (T : State) (g : JFrame) : Prop :=
  ∃ t o, Steps p.tables e below (T.setTop g) t ∧ t.status = .running ∧ Ended t below o ∧ ∃ v L, o = .returned v ∧ Q v t.heap L ∧ FrameEnd s o t L kc ks
abbrev own_Ctr (l : Launch) (Z : State) (y : MethodName) (bytes : ByteArray) (maxL : Nat) (ret : Option FieldType) (ws : List Jvm.Cond) (rm : Room) (kc ks : Nat) (as' : Array Value) (h : Heap) (Q : Option Value → Heap → List Loc → Prop) : Prop :=
  MetFree l y (head1 (Jvm.Cond.code y bytes maxL ret :: ws) rm) (fun a U => a = as' ∧ Z.Warmed39 U.vm ∧ U.heap = h) (fun _ _ _ _ _ => True) (fun _ U o U' => ∃ v L, o = .returned v ∧ Q v U'.heap L ∧ FrameEnd U o U' L kc ks)
theorem own_by (st : ∀ t, Steps p.tables e below (T'.setTop g') t → Steps p.tables e below (T.setTop g) t) (k : own_Goes p e below s kc ks Q T' g') : own_Goes p e below s kc ks Q T g := by
  obtain ⟨t, o, h1, r⟩ := k; exact ⟨t, o, st t h1, r⟩
theorem own_cast (q : g = g') (k : own_Goes p e below s kc ks Q T g') : own_Goes p e below s kc ks Q T g := q ▸ k
theorem own_enter {y : MethodName} {bytes : ByteArray} {maxL : Nat} {ret : Option FieldType} {ws : List Jvm.Cond} {rm : Room} {as' : Array Value} (hpl : plainFor y = true)
    (k : ∀ p e s m below meth c s₁, Stand p l e rm s m as' below meth c s₁ [] 0 0 → p.tables.exec = Jvm.exec → Z.Warmed39 s.vm → c.code = bytes → c.maxLocals = maxL → s.vm.findClass y.cls = some m.cls → meth.name = y.name → meth.locks = false → meth.sig.returnType = ret → s₁.heap = h → own_Goes p e below s kc ks Q s₁ (entryFrame m as' maxL)) :
    own_Ctr l Z y bytes maxL ret ws rm kc ks as' h Q := by
  refine MetFree.of_bodySF hpl hisR ?_
  intro p e s m args below meth c s₁ Bd hml0 hP hK
  obtain ⟨rfl, hZ, hh⟩ := hP
  exact k p e s m below meth c s₁ (Stand.of_body Bd) Bd.exec hZ Bd.bytes hml0 (findClass_of_methodNamed Bd.named) (name_of_methodNamed Bd.named Bd.method).1 Bd.notSynchronized Bd.returns (by rw [← hh, Bd.state]; rfl)
theorem own_mono (X : Stand p l e R s m args below meth c T locs cells slots) {c' n' : Nat} (h1 : cells ≤ c') (h2 : slots ≤ n') : Stand p l e R s m args below meth c T locs c' n' :=
  { X with same := X.same.mono h1 h2 }
theorem own_out (X : Stand p l e R s m args below meth c T locs cells slots) (hlk : meth.locks = false) {v : Option Value} (hv : meth.sig.returnType = none → v = none)
    (st : ∀ fs, (∀ (f : JFrame) (acts : List Action), f.method = m → f.locked = none → f.entered = [] → (doReturn e (T.setTop f) acts v).1 = T.setFrames fs) → Steps p.tables e below (T.setTop g) (T.setFrames fs))
    (hc : cells ≤ kc) (hs : slots ≤ ks) (hQ : Q v T.heap locs) : own_Goes p e below s kc ks Q T g := by
  obtain ⟨fs, hr, hrun, hended, hW, hsame⟩ := X.leave (v := v) hv hlk
  exact ⟨_, _, st fs hr, hrun, hended, v, locs, rfl, hQ, ⟨_, rfl⟩, hW, hsame.mono hc hs⟩
theorem own_ret {w : Value} {t : FieldType} {i : Instr} {pc : Nat} {Ls : Array Slot} {rest : List Value} (X : Stand p l e R s m args below meth c T locs cells slots) (hx : p.tables.exec = Jvm.exec) (hlk : meth.locks = false) (hret : meth.sig.returnType = some t) (hn : narrow t w = w)
    (hi : (i = .ireturn ∧ (t = .int ∨ t = .boolean ∨ t = .byte ∨ t = .char ∨ t = .short) ∧ ∃ z, w = .int z) ∨ (i = .lreturn ∧ t = .long ∧ ∃ z, w = .long z) ∨ (i = .dreturn ∧ t = .double ∧ ∃ z, w = .double z) ∨ (i = .freturn ∧ t = .float ∧ ∃ z, w = .float z) ∨ (i = .areturn ∧ t.isReference = true ∧ w.isRef = true))
    (hd : decode c.code pc = .ok (i, 1)) (hc : cells ≤ kc) (hs : slots ≤ ks) (hQ : Q (some w) T.heap locs) : own_Goes p e below s kc ks Q T (mkF m pc Ls (w :: rest)) :=
  own_out X hlk (fun h => by rw [hret] at h; cases h) (fun fs hr => retOut X hx hret hn hi hd hr) hc hs hQ
theorem own_retI {z : Int32} {pc : Nat} {Ls : Array Slot} {rest : List Value} (X : Stand p l e R s m args below meth c T locs cells slots) (hx : p.tables.exec = Jvm.exec) (hlk : meth.locks = false) (hret : meth.sig.returnType = some .int)
    (hd : decode c.code pc = .ok (.ireturn, 1)) (hc : cells ≤ kc) (hs : slots ≤ ks) (hQ : Q (some (.int z)) T.heap locs) : own_Goes p e below s kc ks Q T (mkF m pc Ls (.int z :: rest)) :=
  own_ret X hx hlk hret rfl (Or.inl ⟨rfl, Or.inl rfl, z, rfl⟩) hd hc hs hQ
theorem own_retJ {z : Int64} {pc : Nat} {Ls : Array Slot} {rest : List Value} (X : Stand p l e R s m args below meth c T locs cells slots) (hx : p.tables.exec = Jvm.exec) (hlk : meth.locks = false) (hret : meth.sig.returnType = some .long)
    (hd : decode c.code pc = .ok (.lreturn, 1)) (hc : cells ≤ kc) (hs : slots ≤ ks) (hQ : Q (some (.long z)) T.heap locs) : own_Goes p e below s kc ks Q T (mkF m pc Ls (.long z :: rest)) :=
  own_ret X hx hlk hret rfl (Or.inr (Or.inl ⟨rfl, rfl, z, rfl⟩)) hd hc hs hQ
theorem own_retD {z : UInt64} {pc : Nat} {Ls : Array Slot} {rest : List Value} (X : Stand p l e R s m args below meth c T locs cells slots) (hx : p.tables.exec = Jvm.exec) (hlk : meth.locks = false) (hret : meth.sig.returnType = some .double)
    (hd : decode c.code pc = .ok (.dreturn, 1)) (hc : cells ≤ kc) (hs : slots ≤ ks) (hQ : Q (some (.double z)) T.heap locs) : own_Goes p e below s kc ks Q T (mkF m pc Ls (.double z :: rest)) :=
  own_ret X hx hlk hret rfl (Or.inr (Or.inr (Or.inl ⟨rfl, rfl, z, rfl⟩))) hd hc hs hQ
theorem own_b8 (x : Int32) : ((x).toInt8.toInt32).toInt8.toInt32 = x.toInt8.toInt32 := by simp
theorem own_c16 (x : Int32) : ((x).toUInt32.toUInt16.toUInt32.toInt32).toUInt32.toUInt16.toUInt32.toInt32 = x.toUInt32.toUInt16.toUInt32.toInt32 := by
  have h : ∀ u : UInt16, (u.toUInt32.toInt32).toUInt32.toUInt16 = u := fun u => by
    show (u.toUInt32).toUInt16 = u
    simp
  rw [h]
theorem own_wr {h' : Heap} {a : Addr} {sl : Nat} {v v' : Value} (W : Wr h h' a sl v) (q : v = v') : Wr h h' a sl v' := q ▸ W
theorem own_eqI {first : State} {o : Option Outcome} {idx : List Nat} {a b : Term} {x y : Int32} (ha : a.eval args first o idx s = some (.int x)) (hb : b.eval args first o idx s = some (.int y)) : (Cond.eq a b).value args first o s idx = some (decide (x = y)) := by simp [Cond.value, ha, hb]
theorem own_fitR {t : FieldType} {w : Value} (ht : t.isReference = true) (hw : w.isRef = true) : fits t w = true := by cases t <;> simp [FieldType.isReference] at ht <;> rcases ref_cases hw with rfl | ⟨a, rfl⟩ <;> rfl
theorem own_cat1 {w : Value} (hw : w.isRef = true) : w.category = 1 := by rcases ref_cases hw with rfl | ⟨a, rfl⟩ <;> rfl
theorem own_stG {ls l' : Array Slot} {i : Nat} {v : Value} {o : Slot} (hold : ls[i]? = some o) (ho : o = .unset ∨ ∃ w, o = .val w ∧ w.category = 1) (hv : v.category = 1) (q : ls.setIfInBounds i (.val v) = l') : storeLocals ls i v = some l' := q ▸ XS.store1 hold ho hv
theorem own_narR {t : FieldType} {w : Value} (ht : t.isReference = true) : narrow t w = w := by cases t <;> simp [FieldType.isReference] at ht <;> cases w <;> rfl
theorem own_retA {w : Value} {t : FieldType} {pc : Nat} {Ls : Array Slot} {rest : List Value} (X : Stand p l e R s m args below meth c T locs cells slots) (hx : p.tables.exec = Jvm.exec) (hlk : meth.locks = false) (hret : meth.sig.returnType = some t) (ht : t.isReference = true) (hw : w.isRef = true)
    (hd : decode c.code pc = .ok (.areturn, 1)) (hc : cells ≤ kc) (hs : slots ≤ ks) (hQ : Q (some w) T.heap locs) : own_Goes p e below s kc ks Q T (mkF m pc Ls (w :: rest)) :=
  own_ret X hx hlk hret (own_narR ht) (Or.inr (Or.inr (Or.inr (Or.inr ⟨rfl, ht, hw⟩)))) hd hc hs hQ
theorem own_retN {z : Int32} {t : FieldType} {pc : Nat} {Ls : Array Slot} {rest : List Value} (X : Stand p l e R s m args below meth c T locs cells slots) (hx : p.tables.exec = Jvm.exec) (hlk : meth.locks = false) (hret : meth.sig.returnType = some t) (ht : t = .boolean ∨ t = .byte ∨ t = .char ∨ t = .short)
    (hd : decode c.code pc = .ok (.ireturn, 1)) (hc : cells ≤ kc) (hs : slots ≤ ks) (hQ : Q (some (.int (nar t z))) T.heap locs) : own_Goes p e below s kc ks Q T (mkF m pc Ls (.int z :: rest)) :=
  own_out X hlk (fun h => by rw [hret] at h; cases h) (fun fs hr => retN X hx hret ht hd hr) hc hs hQ
theorem own_retV {pc : Nat} {Ls : Array Slot} (X : Stand p l e R s m args below meth c T locs cells slots) (hx : p.tables.exec = Jvm.exec) (hlk : meth.locks = false) (hret : meth.sig.returnType = none)
    (hd : decode c.code pc = .ok (.return_, 1)) (hc : cells ≤ kc) (hs : slots ≤ ks) (hQ : Q none T.heap locs) : own_Goes p e below s kc ks Q T (mkF m pc Ls []) :=
  own_out X hlk (fun _ => rfl) (fun fs hr => X.returnOut hx hret hd hr) hc hs hQ
/-- an array of that type and length, whatever it holds -/
def own_Arz (Z : State) (h : Heap) (a : Addr) (ty : FieldType) (z : Int32) : Prop := ∃ c : Cell, Arr Z h a c ty ∧ c.slots.size = z.toNatClampNeg ∧ ¬ z < 0
theorem own_Arz.of {a : Addr} {k : ClassId} {ty : FieldType} {z : Int32} {vs : List Value} {dv : Value} (F : Arv Z h a k ty z vs dv) : own_Arz Z h a ty z := by obtain ⟨c, A, -, S, q, -⟩ := F; exact ⟨c, A, S, q⟩
theorem own_Arz.lt {a : Addr} {ty : FieldType} {z : Int32} (F : own_Arz Z h a ty z) : a < h.size := by obtain ⟨c, A, -⟩ := F; exact A.lt
theorem own_Arz.ext {h' : Heap} {a : Addr} {ty : FieldType} {z : Int32} (F : own_Arz Z h a ty z) (E : Ext h h') : own_Arz Z h' a ty z := by obtain ⟨c, A, r⟩ := F; exact ⟨c, A.ext E, r⟩
theorem own_Arz.other {h' : Heap} {a b : Addr} {ty : FieldType} {z : Int32} {sl : Nat} {v : Value} (F : own_Arz Z h b ty z) (W : Wr h h' a sl v) (q : b ≠ a) : own_Arz Z h' b ty z := by obtain ⟨c, A, r⟩ := F; exact ⟨c, A.other W q, r⟩
theorem own_Arz.same {h' : Heap} {a : Addr} {ty : FieldType} {z : Int32} {sl : Nat} {v : Value} (F : own_Arz Z h a ty z) (W : Wr h h' a sl v) : own_Arz Z h' a ty z := by obtain ⟨c, A, r1, r2⟩ := F; exact ⟨_, A.same W, by rw [sz_set]; exact r1, r2⟩
theorem own_Arz.keep {h' : Heap} {a : Addr} {ty : FieldType} {z : Int32} {ws : List Addr} (F : own_Arz Z h a ty z) (K : Keep h h' ws) (q : a ∉ ws) : own_Arz Z h' a ty z := by obtain ⟨c, A, r⟩ := F; exact ⟨c, ⟨K.2.1 a c A.1 q, A.2⟩, r⟩
section OwnCalls
variable {own : String} {index : Nat} {y z : MethodName} {bytes : ByteArray} {maxL : Nat} {ret : Option FieldType} {rm : Room} {Q' : Option Value → Heap → List Loc → Prop} {argsL rest : List Value}
theorem own_callS (X : Stand p l e R s m args below meth c T locs cells slots) (hx : p.tables.exec = Jvm.exec) (hZ : Z.Warmed39 s.vm) (hown : s.vm.findClass own = some m.cls)
    (w1 : (Cond.methodLink own index y).before a0 Z = true) (w2 : (Cond.static y).before a0 Z = true) (w3 : (Cond.initialized y.cls).before a0 Z = true) (w4 : (Cond.code y bytes maxL ret).before a0 Z = true)
    (hy : y.cls ≠ "java/lang/invoke/MethodHandle" ∧ y.cls ≠ "java/lang/invoke/VarHandle") (hM : own_Ctr l Z y bytes maxL ret [] rm rm.cells rm.slots argsL.toArray h Q') (W : Nat)
    (hf : rm.frames + 1 ≤ R.frames) (hl : W + (maxL + 11) + rm.locals ≤ R.locals) (hc : cells + rm.cells ≤ R.cells) (hs : slots + rm.slots ≤ R.slots) (eT : T.heap = h)
    (hg : g.method = m) (hsize : g.locals.size = c.maxLocals) (hlen : ∀ sig, parseMethodDescriptor y.desc = some sig → argsL.length = sig.parameters.length) (hstack : g.stack = argsL.reverse ++ rest)
    (hW : 2 * g.monitorRoom + (rest.map fun v => v.category).sum ≤ W) (hd : decode c.code g.pc = .ok (.invokestatic index, 3))
    (k : ∀ v T' L, Stand p l e R s m args below meth c T' (locs ++ L) (cells + rm.cells) (slots + rm.slots) → Q' v T'.heap L → own_Goes p e below s kc ks Q T' { g with pc := g.pc + 3, stack := v.toList ++ rest }) : own_Goes p e below s kc ks Q T g := by
  obtain ⟨v, _, ⟨T', L', k', n'⟩, -, X', ⟨Lc, hQ, l1, y1, z1⟩, st⟩ := Jvm.LawKit.callS X hx hown (mvT hZ w1) (mvT hZ w2) (mvT hZ w3) (mvT hZ w4) hy (backOf (W := W) hM hZ w4 w3 hf hl) hg hsize hlen hstack hW hd (fun _ _ => ⟨rfl, eT, hc, hs⟩)
  dsimp only [Pt.U, Pt.locs, Pt.cells, Pt.slots] at X' l1 y1 z1 st hQ
  subst l1 y1 z1
  exact own_by st (k v T' Lc X' hQ)
theorem own_callI (X : Stand p l e R s m args below meth c T locs cells slots) (hx : p.tables.exec = Jvm.exec) (hZ : Z.Warmed39 s.vm) (hown : s.vm.findClass own = some m.cls) (hy1 : y.name = "<init>")
    (w1 : (Cond.methodLink own index y).before a0 Z = true) (w2 : (Cond.instanceMethod y).before a0 Z = true) (w3 : (Cond.initialized y.cls).before a0 Z = true) (w4 : (Cond.code y bytes maxL none).before a0 Z = true)
    (hy : y.cls ≠ "java/lang/invoke/MethodHandle" ∧ y.cls ≠ "java/lang/invoke/VarHandle") {a : Addr} (hM : own_Ctr l Z y bytes maxL none [] rm rm.cells rm.slots (.ref a :: argsL).toArray h Q') (W : Nat)
    (hf : rm.frames + 1 ≤ R.frames) (hl : W + (maxL + 11) + rm.locals ≤ R.locals) (hc : cells + rm.cells ≤ R.cells) (hs : slots + rm.slots ≤ R.slots) (eT : T.heap = h)
    (hg : g.method = m) (hsize : g.locals.size = c.maxLocals) (hlen : ∀ sig, parseMethodDescriptor y.desc = some sig → argsL.length = sig.parameters.length) (hstack : g.stack = argsL.reverse ++ .ref a :: rest)
    (hW : 2 * g.monitorRoom + (rest.map fun v => v.category).sum ≤ W) (hd : decode c.code g.pc = .ok (.invokespecial index, 3))
    (k : ∀ v T' L, Stand p l e R s m args below meth c T' (locs ++ L) (cells + rm.cells) (slots + rm.slots) → Q' v T'.heap L → own_Goes p e below s kc ks Q T' { g with pc := g.pc + 3, stack := v.toList ++ rest }) : own_Goes p e below s kc ks Q T g := by
  obtain ⟨v, _, ⟨T', L', k', n'⟩, -, X', ⟨Lc, hQ, l1, y1, z1⟩, st⟩ := X.specialBack hx hy1 hown (mvT hZ w1) (mvT hZ w2) (mvT hZ w4) hy (backOf (W := W) hM hZ w4 w3 hf hl) hg hsize (Steps.refl _) hlen hstack hW hd (fun _ _ => ⟨rfl, eT, hc, hs⟩)
  dsimp only [Pt.U, Pt.locs, Pt.cells, Pt.slots] at X' l1 y1 z1 st hQ
  subst l1 y1 z1
  exact own_by (fun t kt => st.trans kt) (k v T' Lc X' hQ)
theorem own_callIN {host : String} (X : Stand p l e R s m args below meth c T locs cells slots) (hx : p.tables.exec = Jvm.exec) (hZ : Z.Warmed39 s.vm) (hown : s.vm.findClass own = some m.cls) (hy1 : y.name = "<init>")
    (w1 : (Cond.methodLinkNest own index y host).before a0 Z = true) (w2 : (Cond.instanceMethod y).before a0 Z = true) (w3 : (Cond.initialized y.cls).before a0 Z = true) (w4 : (Cond.code y bytes maxL none).before a0 Z = true)
    (hy : y.cls ≠ "java/lang/invoke/MethodHandle" ∧ y.cls ≠ "java/lang/invoke/VarHandle") {a : Addr} (hM : own_Ctr l Z y bytes maxL none [] rm rm.cells rm.slots (.ref a :: argsL).toArray h Q') (W : Nat)
    (hf : rm.frames + 1 ≤ R.frames) (hl : W + (maxL + 11) + rm.locals ≤ R.locals) (hc : cells + rm.cells ≤ R.cells) (hs : slots + rm.slots ≤ R.slots) (eT : T.heap = h)
    (hg : g.method = m) (hsize : g.locals.size = c.maxLocals) (hlen : ∀ sig, parseMethodDescriptor y.desc = some sig → argsL.length = sig.parameters.length) (hstack : g.stack = argsL.reverse ++ .ref a :: rest)
    (hW : 2 * g.monitorRoom + (rest.map fun v => v.category).sum ≤ W) (hd : decode c.code g.pc = .ok (.invokespecial index, 3))
    (k : ∀ v T' L, Stand p l e R s m args below meth c T' (locs ++ L) (cells + rm.cells) (slots + rm.slots) → Q' v T'.heap L → own_Goes p e below s kc ks Q T' { g with pc := g.pc + 3, stack := v.toList ++ rest }) : own_Goes p e below s kc ks Q T g := by
  obtain ⟨v, _, ⟨T', L', k', n'⟩, -, X', ⟨Lc, hQ, l1, y1, z1⟩, st⟩ := X.specialBackNest hx hy1 hown (Cond.methodLinkNest_wide hZ w1 :) (mvT hZ w2) (mvT hZ w4) hy (backOf (W := W) hM hZ w4 w3 hf hl) hg hsize (Steps.refl _) hlen hstack hW hd (fun _ _ => ⟨rfl, eT, hc, hs⟩)
  dsimp only [Pt.U, Pt.locs, Pt.cells, Pt.slots] at X' l1 y1 z1 st hQ
  subst l1 y1 z1
  exact own_by (fun t kt => st.trans kt) (k v T' Lc X' hQ)
theorem own_callV {C : String} (X : Stand p l e R s m args below meth c T locs cells slots) (hx : p.tables.exec = Jvm.exec) (hZ : Z.Warmed39 s.vm) (hown : s.vm.findClass own = some m.cls)
    (w1 : (Cond.methodLink own index y).before a0 Z = true) (w2 : (Cond.declares y).before a0 Z = true) (hnf : NotFace s y) (w3 : (Cond.selects C y z).before a0 Z = true) (w4 : (Cond.instanceMethod z).before a0 Z = true) (w5 : (Cond.code z bytes maxL ret).before a0 Z = true) (w6 : (Cond.initialized z.cls).before a0 Z = true)
    (hy : y.cls ≠ "java/lang/invoke/MethodHandle" ∧ y.cls ≠ "java/lang/invoke/VarHandle") {a : Addr} (E : Exa Z h a C) (hM : own_Ctr l Z z bytes maxL ret [] rm rm.cells rm.slots (.ref a :: argsL).toArray h Q') (W : Nat)
    (hf : rm.frames + 1 ≤ R.frames) (hl : W + (maxL + 11) + rm.locals ≤ R.locals) (hc : cells + rm.cells ≤ R.cells) (hs : slots + rm.slots ≤ R.slots) (eT : T.heap = h)
    (hg : g.method = m) (hsize : g.locals.size = c.maxLocals) (hlen : ∀ sig, parseMethodDescriptor y.desc = some sig → argsL.length = sig.parameters.length) (hstack : g.stack = argsL.reverse ++ .ref a :: rest)
    (hW : 2 * g.monitorRoom + (rest.map fun v => v.category).sum ≤ W) (hd : decode c.code g.pc = .ok (.invokevirtual index, 3))
    (k : ∀ v T' L, Stand p l e R s m args below meth c T' (locs ++ L) (cells + rm.cells) (slots + rm.slots) → Q' v T'.heap L → own_Goes p e below s kc ks Q T' { g with pc := g.pc + 3, stack := v.toList ++ rest }) : own_Goes p e below s kc ks Q T g := by
  obtain ⟨cq, kq, qa, qb, qc⟩ := isOf hZ eT E
  obtain ⟨v, _, ⟨T', L', k', n'⟩, -, X', ⟨Lc, hQ, l1, y1, z1⟩, st⟩ := X.virtualBack hx hown (mvT hZ w1) (mvT hZ w2) hnf (mvT hZ w3) (mvT hZ w4) hy (backOf (W := W) hM hZ w5 w6 hf hl) qa qc hg hsize (Steps.refl _) hlen hstack hW hd (fun _ _ => ⟨rfl, eT, hc, hs⟩)
  dsimp only [Pt.U, Pt.locs, Pt.cells, Pt.slots] at X' l1 y1 z1 st hQ
  subst l1 y1 z1
  exact own_by (fun t kt => st.trans kt) (k v T' Lc X' hQ)
theorem own_callP (X : Stand p l e R s m args below meth c T locs cells slots) (hx : p.tables.exec = Jvm.exec) (hZ : Z.Warmed39 s.vm) (hown : s.vm.findClass own = some m.cls)
    (w1 : (Cond.methodLink own index y).before a0 Z = true) (w2 : (Cond.instanceMethod y).before a0 Z = true) (w3 : (Cond.selects y.cls y y).before a0 Z = true) (w4 : (Cond.privateMethod y).before a0 Z = true) (w5 : (Cond.code y bytes maxL ret).before a0 Z = true) (w6 : (Cond.initialized y.cls).before a0 Z = true)
    (hy : y.cls ≠ "java/lang/invoke/MethodHandle" ∧ y.cls ≠ "java/lang/invoke/VarHandle") {a : Addr} {C : String} (E : Exa Z h a C) (hM : own_Ctr l Z y bytes maxL ret [] rm rm.cells rm.slots (.ref a :: argsL).toArray h Q') (W : Nat)
    (hf : rm.frames + 1 ≤ R.frames) (hl : W + (maxL + 11) + rm.locals ≤ R.locals) (hc : cells + rm.cells ≤ R.cells) (hs : slots + rm.slots ≤ R.slots) (eT : T.heap = h)
    (hg : g.method = m) (hsize : g.locals.size = c.maxLocals) (hlen : ∀ sig, parseMethodDescriptor y.desc = some sig → argsL.length = sig.parameters.length) (hstack : g.stack = argsL.reverse ++ .ref a :: rest)
    (hW : 2 * g.monitorRoom + (rest.map fun v => v.category).sum ≤ W) (hd : decode c.code g.pc = .ok (.invokevirtual index, 3))
    (k : ∀ v T' L, Stand p l e R s m args below meth c T' (locs ++ L) (cells + rm.cells) (slots + rm.slots) → Q' v T'.heap L → own_Goes p e below s kc ks Q T' { g with pc := g.pc + 3, stack := v.toList ++ rest }) : own_Goes p e below s kc ks Q T g := by
  obtain ⟨cq, q1, q2⟩ := E.cell
  obtain ⟨v, _, ⟨T', L', k', n'⟩, -, X', ⟨Lc, hQ, l1, y1, z1⟩, st⟩ := X.privateBack hx hown (mvT hZ w1) (mvT hZ w2) (mvT hZ w3) (Cond.privateMethod_at (mvP hZ w4 (args := #[]))) (mvT hZ w5) hy (backOf (W := W) hM hZ w5 w6 hf hl) hg hsize (Steps.refl _) (a := a) (by rw [eT]; exact q1) q2 hlen hstack hW hd (fun _ _ => ⟨rfl, eT, hc, hs⟩)
  dsimp only [Pt.U, Pt.locs, Pt.cells, Pt.slots] at X' l1 y1 z1 st hQ
  subst l1 y1 z1
  exact own_by (fun t kt => st.trans kt) (k v T' Lc X' hQ)
theorem own_callF {C : String} {count : Nat} (X : Stand p l e R s m args below meth c T locs cells slots) (hx : p.tables.exec = Jvm.exec) (hZ : Z.Warmed39 s.vm) (hown : s.vm.findClass own = some m.cls)
    (w1 : (Cond.methodLink own index y).before a0 Z = true) (w2 : (Cond.declares y).before a0 Z = true) (w2f : (Cond.interfaceMethod y.cls y.cls y.name y.desc).before a0 Z = true) (w3 : (Cond.selects C y z).before a0 Z = true) (w4 : (Cond.instanceMethod z).before a0 Z = true)
    (wp : (Cond.publicMethod z).before a0 Z = true) (wu : (Cond.unhidden C y.name y.desc).before a0 Z = true) (wk : (Cond.castable C y.cls).before a0 Z = true) (w5 : (Cond.code z bytes maxL ret).before a0 Z = true) (w6 : (Cond.initialized z.cls).before a0 Z = true)
    (hy : y.cls ≠ "java/lang/invoke/MethodHandle" ∧ y.cls ≠ "java/lang/invoke/VarHandle") {a : Addr} (E : Exa Z h a C) (hM : own_Ctr l Z z bytes maxL ret [] rm rm.cells rm.slots (.ref a :: argsL).toArray h Q') (W : Nat)
    (hf : rm.frames + 1 ≤ R.frames) (hl : W + (maxL + 11) + rm.locals ≤ R.locals) (hc : cells + rm.cells ≤ R.cells) (hs : slots + rm.slots ≤ R.slots) (eT : T.heap = h)
    (hg : g.method = m) (hsize : g.locals.size = c.maxLocals) (hlen : ∀ sig, parseMethodDescriptor y.desc = some sig → argsL.length = sig.parameters.length) (hstack : g.stack = argsL.reverse ++ .ref a :: rest)
    (hW : 2 * g.monitorRoom + (rest.map fun v => v.category).sum ≤ W) (hd : decode c.code g.pc = .ok (.invokeinterface index count, 5))
    (k : ∀ v T' L, Stand p l e R s m args below meth c T' (locs ++ L) (cells + rm.cells) (slots + rm.slots) → Q' v T'.heap L → own_Goes p e below s kc ks Q T' { g with pc := g.pc + 5, stack := v.toList ++ rest }) : own_Goes p e below s kc ks Q T g := by
  obtain ⟨cq, kq, qa, qb, qc⟩ := isOf hZ eT E
  have hface : ((Cond.interfaceMethod y.cls y.cls y.name y.desc).onTables && (Cond.interfaceMethod y.cls y.cls y.name y.desc).keepsFace) = true := by simp [Cond.onTables, Cond.keepsFace, Cond.keeps, Cond.steady, Cond.faceAtom, hy.1, hy.2]
  obtain ⟨v, _, ⟨T', L', k', n'⟩, -, X', ⟨Lc, hQ, l1, y1, z1⟩, st⟩ := X.interfaceBack hx hown (mvT hZ w1) (mvT hZ w2) (mvT hZ w2f hface) (mvT hZ w3) (mvT hZ w4) (mvT hZ wp) (mvT hZ wu) (mvT hZ wk) hy (backOf (W := W) hM hZ w5 w6 hf hl) qa qb qc hg hsize (Steps.refl _) hlen hstack hW hd (fun _ _ => ⟨rfl, eT, hc, hs⟩)
  dsimp only [Pt.U, Pt.locs, Pt.cells, Pt.slots] at X' l1 y1 z1 st hQ
  subst l1 y1 z1
  exact own_by (fun t kt => st.trans kt) (k v T' Lc X' hQ)
end OwnCalls
end OwnPrelude
abbrev own_dz (a : UInt64) : Prop := cmpValue (FP.dcmp a FP.dconst0) .l = (0 : Int32)
def own_val (u : Int32) : UInt64 := if (u &&& (7 : Int32)) < (4 : Int32) then FP.dconst0 else if (u &&& (7 : Int32)) = (4 : Int32) then (9223372036854775808 : UInt64) else if (u &&& (7 : Int32)) = (5 : Int32) then FP.dconst1 else if (u &&& (7 : Int32)) = (6 : Int32) then (13830554455654793216 : UInt64) else FP.i2d (u >>> ((3 : Int32) &&& 31))
def own_isz (u : Int32) : Int32 := if (u &&& (7 : Int32)) < (5 : Int32) then 1 else if (u &&& (7 : Int32)) = (7 : Int32) then (if (u >>> ((3 : Int32) &&& 31)) = 0 then 1 else 0) else 0
def own_az1 (a : UInt64) : Int32 := if own_dz a then 1 else 0
def own_az2 (a b : UInt64) : Int32 := if own_dz a then (if own_dz b then 1 else 0) else 0
def own_az3 (a b d : UInt64) : Int32 := if own_dz a then (if own_dz b then (if own_dz d then 1 else 0) else 0) else 0
theorem own_and3 (a : Int32) : a &&& (3 : Int32) = 0 ∨ a &&& (3 : Int32) = 1 ∨ a &&& (3 : Int32) = 2 ∨ a &&& (3 : Int32) = 3 := by
  have m := c_mask a 3 2 (by decide) (by decide)
  have : (a &&& 3).toInt = 0 ∨ (a &&& 3).toInt = 1 ∨ (a &&& 3).toInt = 2 ∨ (a &&& 3).toInt = 3 := by omega
  rcases this with h | h | h | h
  · exact Or.inl (Int32.toInt_inj.mp h)
  · exact Or.inr (Or.inl (Int32.toInt_inj.mp h))
  · exact Or.inr (Or.inr (Or.inl (Int32.toInt_inj.mp h)))
  · exact Or.inr (Or.inr (Or.inr (Int32.toInt_inj.mp h)))
theorem own_dzi (x : Int32) : own_dz (FP.i2d x) ↔ x = 0 := by
  have b : B53 x.toInt64 := by
    have := rng32 x
    unfold B53; rw [Int32.toInt_toInt64]; omega
  have e : FP.dconst0 = FP.l2d 0 := by decide +kernel
  unfold own_dz
  rw [e, i2d_w, dcmpV_w b (by unfold B53; decide), lw_eq]
  constructor
  · intro h; exact Int32.toInt_inj.mp (by have := congrArg Int64.toInt h; rw [Int32.toInt_toInt64] at this; exact this)
  · intro h; rw [h]; rfl
theorem own_vz (u : Int32) : own_dz (own_val u) ↔ ¬ own_isz u = 0 := by
  have m := c_mask u 7 3 (by decide) (by decide)
  have e : ∀ z : Int32, (u &&& 7 = z ↔ (u &&& 7).toInt = z.toInt) := fun z => Int32.toInt_inj.symm
  have k4 : (4 : Int32).toInt = 4 := by decide
  have k5 : (5 : Int32).toInt = 5 := by decide
  have k6 : (6 : Int32).toInt = 6 := by decide
  have k7 : (7 : Int32).toInt = 7 := by decide
  have d0 : own_dz FP.dconst0 := by decide +kernel
  have d4 : own_dz 9223372036854775808 := by decide +kernel
  have d5 : ¬ own_dz FP.dconst1 := by decide +kernel
  have d6 : ¬ own_dz 13830554455654793216 := by decide +kernel
  by_cases h4 : (u &&& (7 : Int32)) < 4
  · have h5 : (u &&& (7 : Int32)) < 5 := by rw [Int32.lt_iff_toInt_lt] at *; omega
    simp [own_val, own_isz, h4, h5]; exact d0
  · by_cases q4 : (u &&& (7 : Int32)) = 4
    · have h5 : (u &&& (7 : Int32)) < 5 := by rw [q4]; decide
      simp [own_val, own_isz, q4]; exact d4
    · have h5 : ¬ (u &&& (7 : Int32)) < 5 := by rw [Int32.lt_iff_toInt_lt] at *; rw [e] at q4; omega
      by_cases q5 : (u &&& (7 : Int32)) = 5
      · simp [own_val, own_isz, q5]; exact d5
      · by_cases q6 : (u &&& (7 : Int32)) = 6
        · simp [own_val, own_isz, q6]; exact d6
        · have q7 : (u &&& (7 : Int32)) = 7 := by
            rw [e] at *; rw [Int32.lt_iff_toInt_lt] at *
            have : ((2 ^ 3 : Nat) : Int) = 8 := by decide
            omega
          rw [show own_val u = FP.i2d (u >>> ((3 : Int32) &&& 31)) from by simp [own_val, q7], own_dzi]
          simp [own_isz, q7]
theorem own_pn0 : plainName "com/example/ringfold/ringfold/ring/Binary64AllZeroPinLaw" = true := by first | (simp [plainName, overriddenIn]; done) | decide +kernel
theorem own_d2_0 : decode method_2_code 0 = .ok (.iload_n 0, 1) := by decide +kernel
theorem own_d2_1 : decode method_2_code 1 = .ok (.bipush 7, 2) := by decide +kernel
theorem own_d2_3 : decode method_2_code 3 = .ok (.iand, 1) := by decide +kernel
theorem own_d2_4 : decode method_2_code 4 = .ok (.istore_n 1, 1) := by decide +kernel
theorem own_d2_5 : decode method_2_code 5 = .ok (.iload_n 1, 1) := by decide +kernel
theorem own_d2_6 : decode method_2_code 6 = .ok (.iconst 4, 1) := by decide +kernel
theorem own_d2_7 : decode method_2_code 7 = .ok (.if_icmp .ge 5, 3) := by decide +kernel
theorem own_d2_10 : decode method_2_code 10 = .ok (.dconst 0, 1) := by decide +kernel
theorem own_d2_11 : decode method_2_code 11 = .ok (.dreturn, 1) := by decide +kernel
theorem own_d2_12 : decode method_2_code 12 = .ok (.iload_n 1, 1) := by decide +kernel
theorem own_d2_13 : decode method_2_code 13 = .ok (.iconst 4, 1) := by decide +kernel
theorem own_d2_14 : decode method_2_code 14 = .ok (.if_icmp .ne 7, 3) := by decide +kernel
theorem own_d2_17 : decode method_2_code 17 = .ok (.ldc2_w 7, 3) := by decide +kernel
theorem own_d2_20 : decode method_2_code 20 = .ok (.dreturn, 1) := by decide +kernel
theorem own_d2_21 : decode method_2_code 21 = .ok (.iload_n 1, 1) := by decide +kernel
theorem own_d2_22 : decode method_2_code 22 = .ok (.iconst 5, 1) := by decide +kernel
theorem own_d2_23 : decode method_2_code 23 = .ok (.if_icmp .ne 5, 3) := by decide +kernel
theorem own_d2_26 : decode method_2_code 26 = .ok (.dconst 1, 1) := by decide +kernel
theorem own_d2_27 : decode method_2_code 27 = .ok (.dreturn, 1) := by decide +kernel
theorem own_d2_28 : decode method_2_code 28 = .ok (.iload_n 1, 1) := by decide +kernel
theorem own_d2_29 : decode method_2_code 29 = .ok (.bipush 6, 2) := by decide +kernel
theorem own_d2_31 : decode method_2_code 31 = .ok (.if_icmp .ne 7, 3) := by decide +kernel
theorem own_d2_34 : decode method_2_code 34 = .ok (.ldc2_w 9, 3) := by decide +kernel
theorem own_d2_37 : decode method_2_code 37 = .ok (.dreturn, 1) := by decide +kernel
theorem own_d2_38 : decode method_2_code 38 = .ok (.iload_n 0, 1) := by decide +kernel
theorem own_d2_39 : decode method_2_code 39 = .ok (.iconst 3, 1) := by decide +kernel
theorem own_d2_40 : decode method_2_code 40 = .ok (.ishr, 1) := by decide +kernel
theorem own_d2_41 : decode method_2_code 41 = .ok (.i2d, 1) := by decide +kernel
theorem own_d2_42 : decode method_2_code 42 = .ok (.dreturn, 1) := by decide +kernel
def Q_own_cval (Z : State) (u1 : Int32) (h0 : Heap) (n0 : Nat) (v : Option Value) (h : Heap) (L : List Loc) : Prop := v = some (.double (own_val u1)) ∧ Fr n0 L ∧ h = h0
theorem own_ef_own_cval (m : MethodId) (u1 : Int32) : entryFrame m #[(.int u1)] 2 = mkF m 0 #[.val (.int u1), .unset] [] := by first | (simp [entryFrame, mkF, argsToLocals, Value.category]; done) | rfl
set_option maxRecDepth 65536 in
set_option maxHeartbeats 40000000 in
theorem own_cval (l : Launch) (Z : State) (a0 : Array Value) (hw : ∀ d ∈ tables_1, d.before a0 Z = true) (ws : List Jvm.Cond) (u1 : Int32) (h0 : Heap) (n0 : Nat) (Z0 : n0 ≤ h0.size)  :
    own_Ctr l Z (⟨"com/example/ringfold/ringfold/ring/Binary64AllZeroPinLaw", "val", "(I)D"⟩ : MethodName) method_2_code 2 (some .double) ws ({ frames := 0, cells := 0, slots := 0, locals := 0 } : Room) (({ frames := 0, cells := 0, slots := 0, locals := 0 } : Room)).cells (({ frames := 0, cells := 0, slots := 0, locals := 0 } : Room)).slots #[(.int u1)] h0 (Q_own_cval Z u1 h0 n0) := by
  refine own_enter (plainFor_of_name own_pn0) ?_
  intro p e s m below meth c s₁ X0 hx hZ hby hml hown hnm hlk hret e0
  have N0 := Fr.nil n0
  refine own_cast (own_ef_own_cval m u1) ?_
  refine own_by (g' := (mkF m 1 #[.val (.int u1), .unset] [(.int u1)])) (fun t k => XS.iloadN X0.here hx rfl (hb hby own_d2_0) rfl k) ?_
  refine own_by (g' := (mkF m 3 #[.val (.int u1), .unset] [(.int (7 : Int32)), (.int u1)])) (fun t k => XS.bipush X0.here hx rfl (hb hby own_d2_1) k) ?_
  refine own_by (g' := (mkF m 4 #[.val (.int u1), .unset] [(.int (u1 &&& (7 : Int32)))])) (fun t k => XS.iand X0.here hx rfl (hb hby own_d2_3) rfl k) ?_
  generalize hv101 : (u1 &&& (7 : Int32)) = v101
  refine own_by (g' := (mkF m 5 #[.val (.int u1), .val (.int v101)] [])) (fun t k => XS.istoreN X0.here hx rfl (hb hby own_d2_4) rfl (l' := #[.val (.int u1), .val (.int v101)]) rfl k) ?_
  refine own_by (g' := (mkF m 6 #[.val (.int u1), .val (.int v101)] [(.int v101)])) (fun t k => XS.iloadN X0.here hx rfl (hb hby own_d2_5) rfl k) ?_
  refine own_by (g' := (mkF m 7 #[.val (.int u1), .val (.int v101)] [(.int (4 : Int32)), (.int v101)])) (fun t k => XS.iconst X0.here hx rfl (hb hby own_d2_6) k) ?_
  by_cases hc102 : v101 < (4 : Int32)
  ·
    refine own_by (g' := (mkF m 10 #[.val (.int u1), .val (.int v101)] [])) (fun t k => XS.icmpNo X0.here hx rfl (hb hby own_d2_7) rfl (tlt hc102).2.1 k) ?_
    refine own_by (g' := (mkF m 11 #[.val (.int u1), .val (.int v101)] [(.double FP.dconst0)])) (fun t k => XS.dconst0 X0.here hx rfl (hb hby own_d2_10) rfl k) ?_
    refine own_retD X0 hx hlk hret (hb hby own_d2_11) (by decide) (by decide) ?_
    exact ⟨(by subst hv101; simp [own_val, hc102]), N0, e0⟩
  ·
    refine own_by (g' := (mkF m 12 #[.val (.int u1), .val (.int v101)] [])) (fun t k => XS.icmpYes X0.here hx rfl (pc0 := 7) (pc' := 12) rfl (hb hby own_d2_7) rfl (flt hc102).2.1 (by decide) (by decide) k) ?_
    refine own_by (g' := (mkF m 13 #[.val (.int u1), .val (.int v101)] [(.int v101)])) (fun t k => XS.iloadN X0.here hx rfl (hb hby own_d2_12) rfl k) ?_
    refine own_by (g' := (mkF m 14 #[.val (.int u1), .val (.int v101)] [(.int (4 : Int32)), (.int v101)])) (fun t k => XS.iconst X0.here hx rfl (hb hby own_d2_13) k) ?_
    by_cases hc103 : v101 = (4 : Int32)
    ·
      refine own_by (g' := (mkF m 17 #[.val (.int u1), .val (.int v101)] [])) (fun t k => XS.icmpNo X0.here hx rfl (hb hby own_d2_14) rfl (teq hc103).2 k) ?_
      refine own_by (g' := (mkF m 20 #[.val (.int u1), .val (.int v101)] [(.double (9223372036854775808 : UInt64))])) (fun t k => X0.ldc2DoubleC hx hown (mvT hZ (hw _ (List.mem_of_getElem? (i := 13) rfl))) (g := (mkF m 17 #[.val (.int u1), .val (.int v101)] [])) rfl (hb hby own_d2_17) t k) ?_
      refine own_retD X0 hx hlk hret (hb hby own_d2_20) (by decide) (by decide) ?_
      exact ⟨(by subst hv101; simp [own_val, hc102, hc103]), N0, e0⟩
    ·
      refine own_by (g' := (mkF m 21 #[.val (.int u1), .val (.int v101)] [])) (fun t k => XS.icmpYes X0.here hx rfl (pc0 := 14) (pc' := 21) rfl (hb hby own_d2_14) rfl (feq hc103).2 (by decide) (by decide) k) ?_
      refine own_by (g' := (mkF m 22 #[.val (.int u1), .val (.int v101)] [(.int v101)])) (fun t k => XS.iloadN X0.here hx rfl (hb hby own_d2_21) rfl k) ?_
      refine own_by (g' := (mkF m 23 #[.val (.int u1), .val (.int v101)] [(.int (5 : Int32)), (.int v101)])) (fun t k => XS.iconst X0.here hx rfl (hb hby own_d2_22) k) ?_
      by_cases hc104 : v101 = (5 : Int32)
      ·
        refine own_by (g' := (mkF m 26 #[.val (.int u1), .val (.int v101)] [])) (fun t k => XS.icmpNo X0.here hx rfl (hb hby own_d2_23) rfl (teq hc104).2 k) ?_
        refine own_by (g' := (mkF m 27 #[.val (.int u1), .val (.int v101)] [(.double FP.dconst1)])) (fun t k => XS.dconst1 X0.here hx rfl (hb hby own_d2_26) rfl k) ?_
        refine own_retD X0 hx hlk hret (hb hby own_d2_27) (by decide) (by decide) ?_
        exact ⟨(by subst hv101; simp [own_val, hc102, hc103, hc104]), N0, e0⟩
      ·
        refine own_by (g' := (mkF m 28 #[.val (.int u1), .val (.int v101)] [])) (fun t k => XS.icmpYes X0.here hx rfl (pc0 := 23) (pc' := 28) rfl (hb hby own_d2_23) rfl (feq hc104).2 (by decide) (by decide) k) ?_
        refine own_by (g' := (mkF m 29 #[.val (.int u1), .val (.int v101)] [(.int v101)])) (fun t k => XS.iloadN X0.here hx rfl (hb hby own_d2_28) rfl k) ?_
        refine own_by (g' := (mkF m 31 #[.val (.int u1), .val (.int v101)] [(.int (6 : Int32)), (.int v101)])) (fun t k => XS.bipush X0.here hx rfl (hb hby own_d2_29) k) ?_
        by_cases hc105 : v101 = (6 : Int32)
        ·
          refine own_by (g' := (mkF m 34 #[.val (.int u1), .val (.int v101)] [])) (fun t k => XS.icmpNo X0.here hx rfl (hb hby own_d2_31) rfl (teq hc105).2 k) ?_
          refine own_by (g' := (mkF m 37 #[.val (.int u1), .val (.int v101)] [(.double (13830554455654793216 : UInt64))])) (fun t k => X0.ldc2DoubleC hx hown (mvT hZ (hw _ (List.mem_of_getElem? (i := 12) rfl))) (g := (mkF m 34 #[.val (.int u1), .val (.int v101)] [])) rfl (hb hby own_d2_34) t k) ?_
          refine own_retD X0 hx hlk hret (hb hby own_d2_37) (by decide) (by decide) ?_
          exact ⟨(by subst hv101; simp [own_val, hc102, hc103, hc104, hc105]), N0, e0⟩
        ·
          refine own_by (g' := (mkF m 38 #[.val (.int u1), .val (.int v101)] [])) (fun t k => XS.icmpYes X0.here hx rfl (pc0 := 31) (pc' := 38) rfl (hb hby own_d2_31) rfl (feq hc105).2 (by decide) (by decide) k) ?_
          refine own_by (g' := (mkF m 39 #[.val (.int u1), .val (.int v101)] [(.int u1)])) (fun t k => XS.iloadN X0.here hx rfl (hb hby own_d2_38) rfl k) ?_
          refine own_by (g' := (mkF m 40 #[.val (.int u1), .val (.int v101)] [(.int (3 : Int32)), (.int u1)])) (fun t k => XS.iconst X0.here hx rfl (hb hby own_d2_39) k) ?_
          refine own_by (g' := (mkF m 41 #[.val (.int u1), .val (.int v101)] [(.int (u1 >>> ((3 : Int32) &&& 31)))])) (fun t k => XS.ishr X0.here hx rfl (hb hby own_d2_40) rfl k) ?_
          refine own_by (g' := (mkF m 42 #[.val (.int u1), .val (.int v101)] [(.double (FP.i2d (u1 >>> ((3 : Int32) &&& 31))))])) (fun t k => XS.i2dS X0.here hx rfl (hb hby own_d2_41) rfl rfl k) ?_
          refine own_retD X0 hx hlk hret (hb hby own_d2_42) (by decide) (by decide) ?_
          exact ⟨(by subst hv101; simp [own_val, hc102, hc103, hc104, hc105]), N0, e0⟩
theorem own_d3_0 : decode method_3_code 0 = .ok (.iload_n 0, 1) := by decide +kernel
theorem own_d3_1 : decode method_3_code 1 = .ok (.bipush 7, 2) := by decide +kernel
theorem own_d3_3 : decode method_3_code 3 = .ok (.iand, 1) := by decide +kernel
theorem own_d3_4 : decode method_3_code 4 = .ok (.istore_n 1, 1) := by decide +kernel
theorem own_d3_5 : decode method_3_code 5 = .ok (.iload_n 1, 1) := by decide +kernel
theorem own_d3_6 : decode method_3_code 6 = .ok (.iconst 5, 1) := by decide +kernel
theorem own_d3_7 : decode method_3_code 7 = .ok (.if_icmp .ge 5, 3) := by decide +kernel
theorem own_d3_10 : decode method_3_code 10 = .ok (.iconst 1, 1) := by decide +kernel
theorem own_d3_11 : decode method_3_code 11 = .ok (.ireturn, 1) := by decide +kernel
theorem own_d3_12 : decode method_3_code 12 = .ok (.iload_n 1, 1) := by decide +kernel
theorem own_d3_13 : decode method_3_code 13 = .ok (.bipush 7, 2) := by decide +kernel
theorem own_d3_15 : decode method_3_code 15 = .ok (.if_icmp .ne 15, 3) := by decide +kernel
theorem own_d3_18 : decode method_3_code 18 = .ok (.iload_n 0, 1) := by decide +kernel
theorem own_d3_19 : decode method_3_code 19 = .ok (.iconst 3, 1) := by decide +kernel
theorem own_d3_20 : decode method_3_code 20 = .ok (.ishr, 1) := by decide +kernel
theorem own_d3_21 : decode method_3_code 21 = .ok (.ifCond .ne 7, 3) := by decide +kernel
theorem own_d3_24 : decode method_3_code 24 = .ok (.iconst 1, 1) := by decide +kernel
theorem own_d3_25 : decode method_3_code 25 = .ok (.goto 4, 3) := by decide +kernel
theorem own_d3_29 : decode method_3_code 29 = .ok (.ireturn, 1) := by decide +kernel
theorem own_d3_28 : decode method_3_code 28 = .ok (.iconst 0, 1) := by decide +kernel
theorem own_d3_30 : decode method_3_code 30 = .ok (.iconst 0, 1) := by decide +kernel
theorem own_d3_31 : decode method_3_code 31 = .ok (.ireturn, 1) := by decide +kernel
def Q_own_cisz (Z : State) (u1 : Int32) (h0 : Heap) (n0 : Nat) (v : Option Value) (h : Heap) (L : List Loc) : Prop := v = some (.int (own_isz u1)) ∧ Fr n0 L ∧ h = h0
theorem own_ef_own_cisz (m : MethodId) (u1 : Int32) : entryFrame m #[(.int u1)] 2 = mkF m 0 #[.val (.int u1), .unset] [] := by first | (simp [entryFrame, mkF, argsToLocals, Value.category]; done) | rfl
set_option maxRecDepth 65536 in
set_option maxHeartbeats 40000000 in
theorem own_cisz (l : Launch) (Z : State) (a0 : Array Value) (hw : ∀ d ∈ tables_1, d.before a0 Z = true) (ws : List Jvm.Cond) (u1 : Int32) (h0 : Heap) (n0 : Nat) (Z0 : n0 ≤ h0.size)  :
    own_Ctr l Z (⟨"com/example/ringfold/ringfold/ring/Binary64AllZeroPinLaw", "isZero", "(I)Z"⟩ : MethodName) method_3_code 2 (some .boolean) ws ({ frames := 0, cells := 0, slots := 0, locals := 0 } : Room) (({ frames := 0, cells := 0, slots := 0, locals := 0 } : Room)).cells (({ frames := 0, cells := 0, slots := 0, locals := 0 } : Room)).slots #[(.int u1)] h0 (Q_own_cisz Z u1 h0 n0) := by
  refine own_enter (plainFor_of_name own_pn0) ?_
  intro p e s m below meth c s₁ X0 hx hZ hby hml hown hnm hlk hret e0
  have N0 := Fr.nil n0
  refine own_cast (own_ef_own_cisz m u1) ?_
  refine own_by (g' := (mkF m 1 #[.val (.int u1), .unset] [(.int u1)])) (fun t k => XS.iloadN X0.here hx rfl (hb hby own_d3_0) rfl k) ?_
  refine own_by (g' := (mkF m 3 #[.val (.int u1), .unset] [(.int (7 : Int32)), (.int u1)])) (fun t k => XS.bipush X0.here hx rfl (hb hby own_d3_1) k) ?_
  refine own_by (g' := (mkF m 4 #[.val (.int u1), .unset] [(.int (u1 &&& (7 : Int32)))])) (fun t k => XS.iand X0.here hx rfl (hb hby own_d3_3) rfl k) ?_
  generalize hv101 : (u1 &&& (7 : Int32)) = v101
  refine own_by (g' := (mkF m 5 #[.val (.int u1), .val (.int v101)] [])) (fun t k => XS.istoreN X0.here hx rfl (hb hby own_d3_4) rfl (l' := #[.val (.int u1), .val (.int v101)]) rfl k) ?_
  refine own_by (g' := (mkF m 6 #[.val (.int u1), .val (.int v101)] [(.int v101)])) (fun t k => XS.iloadN X0.here hx rfl (hb hby own_d3_5) rfl k) ?_
  refine own_by (g' := (mkF m 7 #[.val (.int u1), .val (.int v101)] [(.int (5 : Int32)), (.int v101)])) (fun t k => XS.iconst X0.here hx rfl (hb hby own_d3_6) k) ?_
  by_cases hc102 : v101 < (5 : Int32)
  ·
    refine own_by (g' := (mkF m 10 #[.val (.int u1), .val (.int v101)] [])) (fun t k => XS.icmpNo X0.here hx rfl (hb hby own_d3_7) rfl (tlt hc102).2.1 k) ?_
    refine own_by (g' := (mkF m 11 #[.val (.int u1), .val (.int v101)] [(.int (1 : Int32))])) (fun t k => XS.iconst X0.here hx rfl (hb hby own_d3_10) k) ?_
    refine own_retN X0 hx hlk hret (t := .boolean) (by simp) (hb hby own_d3_11) (by decide) (by decide) ?_
    exact ⟨(by subst hv101; simp [own_isz, nar, hc102]), N0, e0⟩
  ·
    refine own_by (g' := (mkF m 12 #[.val (.int u1), .val (.int v101)] [])) (fun t k => XS.icmpYes X0.here hx rfl (pc0 := 7) (pc' := 12) rfl (hb hby own_d3_7) rfl (flt hc102).2.1 (by decide) (by decide) k) ?_
    refine own_by (g' := (mkF m 13 #[.val (.int u1), .val (.int v101)] [(.int v101)])) (fun t k => XS.iloadN X0.here hx rfl (hb hby own_d3_12) rfl k) ?_
    refine own_by (g' := (mkF m 15 #[.val (.int u1), .val (.int v101)] [(.int (7 : Int32)), (.int v101)])) (fun t k => XS.bipush X0.here hx rfl (hb hby own_d3_13) k) ?_
    by_cases hc103 : v101 = (7 : Int32)
    ·
      refine own_by (g' := (mkF m 18 #[.val (.int u1), .val (.int v101)] [])) (fun t k => XS.icmpNo X0.here hx rfl (hb hby own_d3_15) rfl (teq hc103).2 k) ?_
      refine own_by (g' := (mkF m 19 #[.val (.int u1), .val (.int v101)] [(.int u1)])) (fun t k => XS.iloadN X0.here hx rfl (hb hby own_d3_18) rfl k) ?_
      refine own_by (g' := (mkF m 20 #[.val (.int u1), .val (.int v101)] [(.int (3 : Int32)), (.int u1)])) (fun t k => XS.iconst X0.here hx rfl (hb hby own_d3_19) k) ?_
      refine own_by (g' := (mkF m 21 #[.val (.int u1), .val (.int v101)] [(.int (u1 >>> ((3 : Int32) &&& 31)))])) (fun t k => XS.ishr X0.here hx rfl (hb hby own_d3_20) rfl k) ?_
      by_cases hc104 : (u1 >>> ((3 : Int32) &&& 31)) = (0 : Int32)
      ·
        refine own_by (g' := (mkF m 24 #[.val (.int u1), .val (.int v101)] [])) (fun t k => XS.ifNo X0.here hx rfl (hb hby own_d3_21) rfl ((if0 _ _).trans (teq hc104).2) k) ?_
        refine own_by (g' := (mkF m 25 #[.val (.int u1), .val (.int v101)] [(.int (1 : Int32))])) (fun t k => XS.iconst X0.here hx rfl (hb hby own_d3_24) k) ?_
        refine own_by (g' := (mkF m 29 #[.val (.int u1), .val (.int v101)] [(.int (1 : Int32))])) (fun t k => XS.goto X0.here hx rfl (pc0 := 25) (pc' := 29) rfl (hb hby own_d3_25) (by decide) (by decide) k) ?_
        refine own_retN X0 hx hlk hret (t := .boolean) (by simp) (hb hby own_d3_29) (by decide) (by decide) ?_
        exact ⟨(by subst hv101; simp [own_isz, nar, hc102, hc103, hc104]), N0, e0⟩
      ·
        refine own_by (g' := (mkF m 28 #[.val (.int u1), .val (.int v101)] [])) (fun t k => XS.ifYes X0.here hx rfl (pc0 := 21) (pc' := 28) rfl (hb hby own_d3_21) rfl ((if0 _ _).trans (feq hc104).2) (by decide) (by decide) k) ?_
        refine own_by (g' := (mkF m 29 #[.val (.int u1), .val (.int v101)] [(.int (0 : Int32))])) (fun t k => XS.iconst X0.here hx rfl (hb hby own_d3_28) k) ?_
        refine own_retN X0 hx hlk hret (t := .boolean) (by simp) (hb hby own_d3_29) (by decide) (by decide) ?_
        exact ⟨(by subst hv101; simp [own_isz, nar, hc102, hc103, hc104]), N0, e0⟩
    ·
      refine own_by (g' := (mkF m 30 #[.val (.int u1), .val (.int v101)] [])) (fun t k => XS.icmpYes X0.here hx rfl (pc0 := 15) (pc' := 30) rfl (hb hby own_d3_15) rfl (feq hc103).2 (by decide) (by decide) k) ?_
      refine own_by (g' := (mkF m 31 #[.val (.int u1), .val (.int v101)] [(.int (0 : Int32))])) (fun t k => XS.iconst X0.here hx rfl (hb hby own_d3_30) k) ?_
      refine own_retN X0 hx hlk hret (t := .boolean) (by simp) (hb hby own_d3_31) (by decide) (by decide) ?_
      exact ⟨(by subst hv101; simp [own_isz, nar, hc102, hc103]), N0, e0⟩
theorem own_pn1 : plainName "com/example/ringfold/ringfold/ring/Binary64" = true := by first | (simp [plainName, overriddenIn]; done) | decide +kernel
theorem own_d1_0 : decode prog_57_method_3_code 0 = .ok (.aload_n 0, 1) := by decide +kernel
theorem own_d1_1 : decode prog_57_method_3_code 1 = .ok (.astore_n 1, 1) := by decide +kernel
theorem own_d1_2 : decode prog_57_method_3_code 2 = .ok (.aload_n 1, 1) := by decide +kernel
theorem own_d1_3 : decode prog_57_method_3_code 3 = .ok (.arraylength, 1) := by decide +kernel
theorem own_d1_4 : decode prog_57_method_3_code 4 = .ok (.istore_n 2, 1) := by decide +kernel
theorem own_d1_5 : decode prog_57_method_3_code 5 = .ok (.iconst 0, 1) := by decide +kernel
theorem own_d1_6 : decode prog_57_method_3_code 6 = .ok (.istore_n 3, 1) := by decide +kernel
theorem own_d1_7 : decode prog_57_method_3_code 7 = .ok (.iload_n 3, 1) := by decide +kernel
theorem own_d1_8 : decode prog_57_method_3_code 8 = .ok (.iload_n 2, 1) := by decide +kernel
theorem own_d1_9 : decode prog_57_method_3_code 9 = .ok (.if_icmp .ge 23, 3) := by decide +kernel
theorem own_d1_32 : decode prog_57_method_3_code 32 = .ok (.iconst 1, 1) := by decide +kernel
theorem own_d1_33 : decode prog_57_method_3_code 33 = .ok (.ireturn, 1) := by decide +kernel
def Q_own_caz0 (Z : State) (r1 : Addr) (kk : ClassId) (h0 : Heap) (n0 : Nat) (v : Option Value) (h : Heap) (L : List Loc) : Prop := v = some (.int (1 : Int32)) ∧ Fr n0 L ∧ h = h0
theorem own_ef_own_caz0 (m : MethodId) (r1 : Addr) : entryFrame m #[(.ref r1)] 6 = mkF m 0 #[.val (.ref r1), .unset, .unset, .unset, .unset, .unset] [] := by first | (simp [entryFrame, mkF, argsToLocals, Value.category]; done) | rfl
set_option maxRecDepth 65536 in
set_option maxHeartbeats 40000000 in
theorem own_caz0 (l : Launch) (Z : State) (a0 : Array Value) (hw : ∀ d ∈ tables_1, d.before a0 Z = true) (ws : List Jvm.Cond) (r1 : Addr) (kk : ClassId) (h0 : Heap) (n0 : Nat) (Z0 : n0 ≤ h0.size) (V1 : Arv Z h0 r1 kk .double (0 : Int32) [] (.double 0)) :
    own_Ctr l Z (⟨"com/example/ringfold/ringfold/ring/Binary64", "allZero", "([D)Z"⟩ : MethodName) prog_57_method_3_code 6 (some .boolean) ws ({ frames := 0, cells := 0, slots := 0, locals := 0 } : Room) (({ frames := 0, cells := 0, slots := 0, locals := 0 } : Room)).cells (({ frames := 0, cells := 0, slots := 0, locals := 0 } : Room)).slots #[(.ref r1)] h0 (Q_own_caz0 Z r1 kk h0 n0) := by
  refine own_enter (plainFor_of_name own_pn1) ?_
  intro p e s m below meth c s₁ X0 hx hZ hby hml hown hnm hlk hret e0
  have N0 := Fr.nil n0
  refine own_cast (own_ef_own_caz0 m r1) ?_
  refine own_by (g' := (mkF m 1 #[.val (.ref r1), .unset, .unset, .unset, .unset, .unset] [(.ref r1)])) (fun t k => XS.aloadN X0.here hx rfl (hb hby own_d1_0) rfl rfl k) ?_
  refine own_by (g' := (mkF m 2 #[.val (.ref r1), .val (.ref r1), .unset, .unset, .unset, .unset] [])) (fun t k => XS.astoreN X0.here hx rfl (hb hby own_d1_1) rfl rfl (l' := #[.val (.ref r1), .val (.ref r1), .unset, .unset, .unset, .unset]) rfl k) ?_
  refine own_by (g' := (mkF m 3 #[.val (.ref r1), .val (.ref r1), .unset, .unset, .unset, .unset] [(.ref r1)])) (fun t k => XS.aloadN X0.here hx rfl (hb hby own_d1_2) rfl rfl k) ?_
  obtain ⟨c101, Ar101, -, S101, G101, -, -⟩ := id V1
  refine own_by (g' := (mkF m 4 #[.val (.ref r1), .val (.ref r1), .unset, .unset, .unset, .unset] [(.int (0 : Int32))])) (fun t k => X0.arraylength hx (by rw [e0]; exact Ar101.1) (State.isArrayOf_alike hZ.alike Ar101.2.1) (g := (mkF m 3 #[.val (.ref r1), .val (.ref r1), .unset, .unset, .unset, .unset] [(.ref r1)])) rfl rfl (hb hby own_d1_3) t (by rw [len_of S101 G101]; exact k)) ?_
  refine own_by (g' := (mkF m 5 #[.val (.ref r1), .val (.ref r1), .val (.int (0 : Int32)), .unset, .unset, .unset] [])) (fun t k => XS.istoreN X0.here hx rfl (hb hby own_d1_4) rfl (l' := #[.val (.ref r1), .val (.ref r1), .val (.int (0 : Int32)), .unset, .unset, .unset]) rfl k) ?_
  refine own_by (g' := (mkF m 6 #[.val (.ref r1), .val (.ref r1), .val (.int (0 : Int32)), .unset, .unset, .unset] [(.int (0 : Int32))])) (fun t k => XS.iconst X0.here hx rfl (hb hby own_d1_5) k) ?_
  refine own_by (g' := (mkF m 7 #[.val (.ref r1), .val (.ref r1), .val (.int (0 : Int32)), .val (.int (0 : Int32)), .unset, .unset] [])) (fun t k => XS.istoreN X0.here hx rfl (hb hby own_d1_6) rfl (l' := #[.val (.ref r1), .val (.ref r1), .val (.int (0 : Int32)), .val (.int (0 : Int32)), .unset, .unset]) rfl k) ?_
  refine own_by (g' := (mkF m 8 #[.val (.ref r1), .val (.ref r1), .val (.int (0 : Int32)), .val (.int (0 : Int32)), .unset, .unset] [(.int (0 : Int32))])) (fun t k => XS.iloadN X0.here hx rfl (hb hby own_d1_7) rfl k) ?_
  refine own_by (g' := (mkF m 9 #[.val (.ref r1), .val (.ref r1), .val (.int (0 : Int32)), .val (.int (0 : Int32)), .unset, .unset] [(.int (0 : Int32)), (.int (0 : Int32))])) (fun t k => XS.iloadN X0.here hx rfl (hb hby own_d1_8) rfl k) ?_
  refine own_by (g' := (mkF m 32 #[.val (.ref r1), .val (.ref r1), .val (.int (0 : Int32)), .val (.int (0 : Int32)), .unset, .unset] [])) (fun t k => XS.icmpYes X0.here hx rfl (pc0 := 9) (pc' := 32) rfl (hb hby own_d1_9) rfl (flt (by decide : ¬ ((0 : Int32) < (0 : Int32)))).2.1 (by decide) (by decide) k) ?_
  refine own_by (g' := (mkF m 33 #[.val (.ref r1), .val (.ref r1), .val (.int (0 : Int32)), .val (.int (0 : Int32)), .unset, .unset] [(.int (1 : Int32))])) (fun t k => XS.iconst X0.here hx rfl (hb hby own_d1_32) k) ?_
  refine own_retN X0 hx hlk hret (t := .boolean) (by simp) (hb hby own_d1_33) (by decide) (by decide) ?_
  exact ⟨rfl, N0, e0⟩
theorem own_d1_12 : decode prog_57_method_3_code 12 = .ok (.aload_n 1, 1) := by decide +kernel
theorem own_d1_13 : decode prog_57_method_3_code 13 = .ok (.iload_n 3, 1) := by decide +kernel
theorem own_d1_14 : decode prog_57_method_3_code 14 = .ok (.daload, 1) := by decide +kernel
theorem own_d1_15 : decode prog_57_method_3_code 15 = .ok (.dstore 4, 2) := by decide +kernel
theorem own_d1_17 : decode prog_57_method_3_code 17 = .ok (.dload 4, 2) := by decide +kernel
theorem own_d1_19 : decode prog_57_method_3_code 19 = .ok (.dconst 0, 1) := by decide +kernel
theorem own_d1_20 : decode prog_57_method_3_code 20 = .ok (.dcmp .l, 1) := by decide +kernel
theorem own_d1_21 : decode prog_57_method_3_code 21 = .ok (.ifCond .eq 5, 3) := by decide +kernel
theorem own_d1_26 : decode prog_57_method_3_code 26 = .ok (.iinc 3 1, 3) := by decide +kernel
theorem own_d1_29 : decode prog_57_method_3_code 29 = .ok (.goto (-22), 3) := by decide +kernel
theorem own_d1_24 : decode prog_57_method_3_code 24 = .ok (.iconst 0, 1) := by decide +kernel
theorem own_d1_25 : decode prog_57_method_3_code 25 = .ok (.ireturn, 1) := by decide +kernel
def Q_own_caz1 (Z : State) (r1 : Addr) (kk : ClassId) (x0 : UInt64) (h0 : Heap) (n0 : Nat) (v : Option Value) (h : Heap) (L : List Loc) : Prop := v = some (.int (own_az1 x0)) ∧ Fr n0 L ∧ h = h0
theorem own_ef_own_caz1 (m : MethodId) (r1 : Addr) : entryFrame m #[(.ref r1)] 6 = mkF m 0 #[.val (.ref r1), .unset, .unset, .unset, .unset, .unset] [] := by first | (simp [entryFrame, mkF, argsToLocals, Value.category]; done) | rfl
set_option maxRecDepth 65536 in
set_option maxHeartbeats 40000000 in
theorem own_caz1 (l : Launch) (Z : State) (a0 : Array Value) (hw : ∀ d ∈ tables_1, d.before a0 Z = true) (ws : List Jvm.Cond) (r1 : Addr) (kk : ClassId) (x0 : UInt64) (h0 : Heap) (n0 : Nat) (Z0 : n0 ≤ h0.size) (V1 : Arv Z h0 r1 kk .double (1 : Int32) [(.double x0)] (.double 0)) :
    own_Ctr l Z (⟨"com/example/ringfold/ringfold/ring/Binary64", "allZero", "([D)Z"⟩ : MethodName) prog_57_method_3_code 6 (some .boolean) ws ({ frames := 0, cells := 0, slots := 0, locals := 0 } : Room) (({ frames := 0, cells := 0, slots := 0, locals := 0 } : Room)).cells (({ frames := 0, cells := 0, slots := 0, locals := 0 } : Room)).slots #[(.ref r1)] h0 (Q_own_caz1 Z r1 kk x0 h0 n0) := by
  refine own_enter (plainFor_of_name own_pn1) ?_
  intro p e s m below meth c s₁ X0 hx hZ hby hml hown hnm hlk hret e0
  have N0 := Fr.nil n0
  refine own_cast (own_ef_own_caz1 m r1) ?_
  refine own_by (g' := (mkF m 1 #[.val (.ref r1), .unset, .unset, .unset, .unset, .unset] [(.ref r1)])) (fun t k => XS.aloadN X0.here hx rfl (hb hby own_d1_0) rfl rfl k) ?_
  refine own_by (g' := (mkF m 2 #[.val (.ref r1), .val (.ref r1), .unset, .unset, .unset, .unset] [])) (fun t k => XS.astoreN X0.here hx rfl (hb hby own_d1_1) rfl rfl (l' := #[.val (.ref r1), .val (.ref r1), .unset, .unset, .unset, .unset]) rfl k) ?_
  refine own_by (g' := (mkF m 3 #[.val (.ref r1), .val (.ref r1), .unset, .unset, .unset, .unset] [(.ref r1)])) (fun t k => XS.aloadN X0.here hx rfl (hb hby own_d1_2) rfl rfl k) ?_
  obtain ⟨c101, Ar101, -, S101, G101, -, -⟩ := id V1
  refine own_by (g' := (mkF m 4 #[.val (.ref r1), .val (.ref r1), .unset, .unset, .unset, .unset] [(.int (1 : Int32))])) (fun t k => X0.arraylength hx (by rw [e0]; exact Ar101.1) (State.isArrayOf_alike hZ.alike Ar101.2.1) (g := (mkF m 3 #[.val (.ref r1), .val (.ref r1), .unset, .unset, .unset, .unset] [(.ref r1)])) rfl rfl (hb hby own_d1_3) t (by rw [len_of S101 G101]; exact k)) ?_
  refine own_by (g' := (mkF m 5 #[.val (.ref r1), .val (.ref r1), .val (.int (1 : Int32)), .unset, .unset, .unset] [])) (fun t k => XS.istoreN X0.here hx rfl (hb hby own_d1_4) rfl (l' := #[.val (.ref r1), .val (.ref r1), .val (.int (1 : Int32)), .unset, .unset, .unset]) rfl k) ?_
  refine own_by (g' := (mkF m 6 #[.val (.ref r1), .val (.ref r1), .val (.int (1 : Int32)), .unset, .unset, .unset] [(.int (0 : Int32))])) (fun t k => XS.iconst X0.here hx rfl (hb hby own_d1_5) k) ?_
  refine own_by (g' := (mkF m 7 #[.val (.ref r1), .val (.ref r1), .val (.int (1 : Int32)), .val (.int (0 : Int32)), .unset, .unset] [])) (fun t k => XS.istoreN X0.here hx rfl (hb hby own_d1_6) rfl (l' := #[.val (.ref r1), .val (.ref r1), .val (.int (1 : Int32)), .val (.int (0 : Int32)), .unset, .unset]) rfl k) ?_
  refine own_by (g' := (mkF m 8 #[.val (.ref r1), .val (.ref r1), .val (.int (1 : Int32)), .val (.int (0 : Int32)), .unset, .unset] [(.int (0 : Int32))])) (fun t k => XS.iloadN X0.here hx rfl (hb hby own_d1_7) rfl k) ?_
  refine own_by (g' := (mkF m 9 #[.val (.ref r1), .val (.ref r1), .val (.int (1 : Int32)), .val (.int (0 : Int32)), .unset, .unset] [(.int (1 : Int32)), (.int (0 : Int32))])) (fun t k => XS.iloadN X0.here hx rfl (hb hby own_d1_8) rfl k) ?_
  refine own_by (g' := (mkF m 12 #[.val (.ref r1), .val (.ref r1), .val (.int (1 : Int32)), .val (.int (0 : Int32)), .unset, .unset] [])) (fun t k => XS.icmpNo X0.here hx rfl (hb hby own_d1_9) rfl (tlt (by decide : (0 : Int32) < (1 : Int32))).2.1 k) ?_
  refine own_by (g' := (mkF m 13 #[.val (.ref r1), .val (.ref r1), .val (.int (1 : Int32)), .val (.int (0 : Int32)), .unset, .unset] [(.ref r1)])) (fun t k => XS.aloadN X0.here hx rfl (hb hby own_d1_12) rfl rfl k) ?_
  refine own_by (g' := (mkF m 14 #[.val (.ref r1), .val (.ref r1), .val (.int (1 : Int32)), .val (.int (0 : Int32)), .unset, .unset] [(.int (0 : Int32)), (.ref r1)])) (fun t k => XS.iloadN X0.here hx rfl (hb hby own_d1_13) rfl k) ?_
  obtain ⟨c102, Ar102, q102, S102, G102, H102, F102⟩ := id V1
  have hin102 : ¬ ((0 : Int32) < 0 ∨ c102.slots.size ≤ ((0 : Int32)).toNatClampNeg) := inb_of S102 ⟨by decide, by decide⟩
  have hat102 : c102.slots[((0 : Int32)).toNatClampNeg]? = some (.double x0) := H102.at hin102 rfl
  refine own_by (g' := (mkF m 15 #[.val (.ref r1), .val (.ref r1), .val (.int (1 : Int32)), .val (.int (0 : Int32)), .unset, .unset] [(.double x0)])) (fun t k => X0.daload hx (j := (0 : Int32)) (v := (.double x0)) (by rw [e0]; exact Ar102.1) (State.isArrayOf_alike hZ.alike Ar102.2.1) Ar102.2.2 hin102 hat102 (g := (mkF m 14 #[.val (.ref r1), .val (.ref r1), .val (.int (1 : Int32)), .val (.int (0 : Int32)), .unset, .unset] [(.int (0 : Int32)), (.ref r1)])) rfl rfl (hb hby own_d1_14) t k) ?_
  refine own_by (g' := (mkF m 17 #[.val (.ref r1), .val (.ref r1), .val (.int (1 : Int32)), .val (.int (0 : Int32)), .val (.double x0), .second] [])) (fun t k => XS.dstore X0.here hx rfl (hb hby own_d1_15) rfl (l' := #[.val (.ref r1), .val (.ref r1), .val (.int (1 : Int32)), .val (.int (0 : Int32)), .val (.double x0), .second]) rfl k) ?_
  refine own_by (g' := (mkF m 19 #[.val (.ref r1), .val (.ref r1), .val (.int (1 : Int32)), .val (.int (0 : Int32)), .val (.double x0), .second] [(.double x0)])) (fun t k => XS.dload X0.here hx rfl (hb hby own_d1_17) rfl k) ?_
  refine own_by (g' := (mkF m 20 #[.val (.ref r1), .val (.ref r1), .val (.int (1 : Int32)), .val (.int (0 : Int32)), .val (.double x0), .second] [(.double FP.dconst0), (.double x0)])) (fun t k => XS.dconst0 X0.here hx rfl (hb hby own_d1_19) rfl k) ?_
  refine own_by (g' := (mkF m 21 #[.val (.ref r1), .val (.ref r1), .val (.int (1 : Int32)), .val (.int (0 : Int32)), .val (.double x0), .second] [(.int (cmpValue (FP.dcmp x0 FP.dconst0) .l))])) (fun t k => XS.dcmpS X0.here hx rfl (hb hby own_d1_20) rfl rfl k) ?_
  by_cases hc103 : (cmpValue (FP.dcmp x0 FP.dconst0) .l) = (0 : Int32)
  ·
    refine own_by (g' := (mkF m 26 #[.val (.ref r1), .val (.ref r1), .val (.int (1 : Int32)), .val (.int (0 : Int32)), .val (.double x0), .second] [])) (fun t k => XS.ifYes X0.here hx rfl (pc0 := 21) (pc' := 26) rfl (hb hby own_d1_21) rfl ((if0 _ _).trans (teq hc103).1) (by decide) (by decide) k) ?_
    refine own_by (g' := (mkF m 29 #[.val (.ref r1), .val (.ref r1), .val (.int (1 : Int32)), .val (.int (1 : Int32)), .val (.double x0), .second] [])) (fun t k => XS.iinc X0.here hx rfl (hb hby own_d1_26) rfl (l' := #[.val (.ref r1), .val (.ref r1), .val (.int (1 : Int32)), .val (.int (1 : Int32)), .val (.double x0), .second]) rfl k) ?_
    refine own_by (g' := (mkF m 7 #[.val (.ref r1), .val (.ref r1), .val (.int (1 : Int32)), .val (.int (1 : Int32)), .val (.double x0), .second] [])) (fun t k => XS.goto X0.here hx rfl (pc0 := 29) (pc' := 7) rfl (hb hby own_d1_29) (by decide) (by decide) k) ?_
    refine own_by (g' := (mkF m 8 #[.val (.ref r1), .val (.ref r1), .val (.int (1 : Int32)), .val (.int (1 : Int32)), .val (.double x0), .second] [(.int (1 : Int32))])) (fun t k => XS.iloadN X0.here hx rfl (hb hby own_d1_7) rfl k) ?_
    refine own_by (g' := (mkF m 9 #[.val (.ref r1), .val (.ref r1), .val (.int (1 : Int32)), .val (.int (1 : Int32)), .val (.double x0), .second] [(.int (1 : Int32)), (.int (1 : Int32))])) (fun t k => XS.iloadN X0.here hx rfl (hb hby own_d1_8) rfl k) ?_
    refine own_by (g' := (mkF m 32 #[.val (.ref r1), .val (.ref r1), .val (.int (1 : Int32)), .val (.int (1 : Int32)), .val (.double x0), .second] [])) (fun t k => XS.icmpYes X0.here hx rfl (pc0 := 9) (pc' := 32) rfl (hb hby own_d1_9) rfl (flt (by decide : ¬ ((1 : Int32) < (1 : Int32)))).2.1 (by decide) (by decide) k) ?_
    refine own_by (g' := (mkF m 33 #[.val (.ref r1), .val (.ref r1), .val (.int (1 : Int32)), .val (.int (1 : Int32)), .val (.double x0), .second] [(.int (1 : Int32))])) (fun t k => XS.iconst X0.here hx rfl (hb hby own_d1_32) k) ?_
    refine own_retN X0 hx hlk hret (t := .boolean) (by simp) (hb hby own_d1_33) (by decide) (by decide) ?_
    exact ⟨(by simp [own_az1, own_dz, nar, hc103]), N0, e0⟩
  ·
    refine own_by (g' := (mkF m 24 #[.val (.ref r1), .val (.ref r1), .val (.int (1 : Int32)), .val (.int (0 : Int32)), .val (.double x0), .second] [])) (fun t k => XS.ifNo X0.here hx rfl (hb hby own_d1_21) rfl ((if0 _ _).trans (feq hc103).1) k) ?_
    refine own_by (g' := (mkF m 25 #[.val (.ref r1), .val (.ref r1), .val (.int (1 : Int32)), .val (.int (0 : Int32)), .val (.double x0), .second] [(.int (0 : Int32))])) (fun t k => XS.iconst X0.here hx rfl (hb hby own_d1_24) k) ?_
    refine own_retN X0 hx hlk hret (t := .boolean) (by simp) (hb hby own_d1_25) (by decide) (by decide) ?_
    exact ⟨(by simp [own_az1, own_dz, nar, hc103]), N0, e0⟩
def Q_own_caz2 (Z : State) (r1 : Addr) (kk : ClassId) (x0 : UInt64) (x1 : UInt64) (h0 : Heap) (n0 : Nat) (v : Option Value) (h : Heap) (L : List Loc) : Prop := v = some (.int (own_az2 x0 x1)) ∧ Fr n0 L ∧ h = h0
theorem own_ef_own_caz2 (m : MethodId) (r1 : Addr) : entryFrame m #[(.ref r1)] 6 = mkF m 0 #[.val (.ref r1), .unset, .unset, .unset, .unset, .unset] [] := by first | (simp [entryFrame, mkF, argsToLocals, Value.category]; done) | rfl
set_option maxRecDepth 65536 in
set_option maxHeartbeats 40000000 in
theorem own_caz2 (l : Launch) (Z : State) (a0 : Array Value) (hw : ∀ d ∈ tables_1, d.before a0 Z = true) (ws : List Jvm.Cond) (r1 : Addr) (kk : ClassId) (x0 : UInt64) (x1 : UInt64) (h0 : Heap) (n0 : Nat) (Z0 : n0 ≤ h0.size) (V1 : Arv Z h0 r1 kk .double (2 : Int32) [(.double x0), (.double x1)] (.double 0)) :
    own_Ctr l Z (⟨"com/example/ringfold/ringfold/ring/Binary64", "allZero", "([D)Z"⟩ : MethodName) prog_57_method_3_code 6 (some .boolean) ws ({ frames := 0, cells := 0, slots := 0, locals := 0 } : Room) (({ frames := 0, cells := 0, slots := 0, locals := 0 } : Room)).cells (({ frames := 0, cells := 0, slots := 0, locals := 0 } : Room)).slots #[(.ref r1)] h0 (Q_own_caz2 Z r1 kk x0 x1 h0 n0) := by
  refine own_enter (plainFor_of_name own_pn1) ?_
  intro p e s m below meth c s₁ X0 hx hZ hby hml hown hnm hlk hret e0
  have N0 := Fr.nil n0
  refine own_cast (own_ef_own_caz2 m r1) ?_
  refine own_by (g' := (mkF m 1 #[.val (.ref r1), .unset, .unset, .unset, .unset, .unset] [(.ref r1)])) (fun t k => XS.aloadN X0.here hx rfl (hb hby own_d1_0) rfl rfl k) ?_
  refine own_by (g' := (mkF m 2 #[.val (.ref r1), .val (.ref r1), .unset, .unset, .unset, .unset] [])) (fun t k => XS.astoreN X0.here hx rfl (hb hby own_d1_1) rfl rfl (l' := #[.val (.ref r1), .val (.ref r1), .unset, .unset, .unset, .unset]) rfl k) ?_
  refine own_by (g' := (mkF m 3 #[.val (.ref r1), .val (.ref r1), .unset, .unset, .unset, .unset] [(.ref r1)])) (fun t k => XS.aloadN X0.here hx rfl (hb hby own_d1_2) rfl rfl k) ?_
  obtain ⟨c101, Ar101, -, S101, G101, -, -⟩ := id V1
  refine own_by (g' := (mkF m 4 #[.val (.ref r1), .val (.ref r1), .unset, .unset, .unset, .unset] [(.int (2 : Int32))])) (fun t k => X0.arraylength hx (by rw [e0]; exact Ar101.1) (State.isArrayOf_alike hZ.alike Ar101.2.1) (g := (mkF m 3 #[.val (.ref r1), .val (.ref r1), .unset, .unset, .unset, .unset] [(.ref r1)])) rfl rfl (hb hby own_d1_3) t (by rw [len_of S101 G101]; exact k)) ?_
  refine own_by (g' := (mkF m 5 #[.val (.ref r1), .val (.ref r1), .val (.int (2 : Int32)), .unset, .unset, .unset] [])) (fun t k => XS.istoreN X0.here hx rfl (hb hby own_d1_4) rfl (l' := #[.val (.ref r1), .val (.ref r1), .val (.int (2 : Int32)), .unset, .unset, .unset]) rfl k) ?_
  refine own_by (g' := (mkF m 6 #[.val (.ref r1), .val (.ref r1), .val (.int (2 : Int32)), .unset, .unset, .unset] [(.int (0 : Int32))])) (fun t k => XS.iconst X0.here hx rfl (hb hby own_d1_5) k) ?_
  refine own_by (g' := (mkF m 7 #[.val (.ref r1), .val (.ref r1), .val (.int (2 : Int32)), .val (.int (0 : Int32)), .unset, .unset] [])) (fun t k => XS.istoreN X0.here hx rfl (hb hby own_d1_6) rfl (l' := #[.val (.ref r1), .val (.ref r1), .val (.int (2 : Int32)), .val (.int (0 : Int32)), .unset, .unset]) rfl k) ?_
  refine own_by (g' := (mkF m 8 #[.val (.ref r1), .val (.ref r1), .val (.int (2 : Int32)), .val (.int (0 : Int32)), .unset, .unset] [(.int (0 : Int32))])) (fun t k => XS.iloadN X0.here hx rfl (hb hby own_d1_7) rfl k) ?_
  refine own_by (g' := (mkF m 9 #[.val (.ref r1), .val (.ref r1), .val (.int (2 : Int32)), .val (.int (0 : Int32)), .unset, .unset] [(.int (2 : Int32)), (.int (0 : Int32))])) (fun t k => XS.iloadN X0.here hx rfl (hb hby own_d1_8) rfl k) ?_
  refine own_by (g' := (mkF m 12 #[.val (.ref r1), .val (.ref r1), .val (.int (2 : Int32)), .val (.int (0 : Int32)), .unset, .unset] [])) (fun t k => XS.icmpNo X0.here hx rfl (hb hby own_d1_9) rfl (tlt (by decide : (0 : Int32) < (2 : Int32))).2.1 k) ?_
  refine own_by (g' := (mkF m 13 #[.val (.ref r1), .val (.ref r1), .val (.int (2 : Int32)), .val (.int (0 : Int32)), .unset, .unset] [(.ref r1)])) (fun t k => XS.aloadN X0.here hx rfl (hb hby own_d1_12) rfl rfl k) ?_
  refine own_by (g' := (mkF m 14 #[.val (.ref r1), .val (.ref r1), .val (.int (2 : Int32)), .val (.int (0 : Int32)), .unset, .unset] [(.int (0 : Int32)), (.ref r1)])) (fun t k => XS.iloadN X0.here hx rfl (hb hby own_d1_13) rfl k) ?_
  obtain ⟨c102, Ar102, q102, S102, G102, H102, F102⟩ := id V1
  have hin102 : ¬ ((0 : Int32) < 0 ∨ c102.slots.size ≤ ((0 : Int32)).toNatClampNeg) := inb_of S102 ⟨by decide, by decide⟩
  have hat102 : c102.slots[((0 : Int32)).toNatClampNeg]? = some (.double x0) := H102.at hin102 rfl
  refine own_by (g' := (mkF m 15 #[.val (.ref r1), .val (.ref r1), .val (.int (2 : Int32)), .val (.int (0 : Int32)), .unset, .unset] [(.double x0)])) (fun t k => X0.daload hx (j := (0 : Int32)) (v := (.double x0)) (by rw [e0]; exact Ar102.1) (State.isArrayOf_alike hZ.alike Ar102.2.1) Ar102.2.2 hin102 hat102 (g := (mkF m 14 #[.val (.ref r1), .val (.ref r1), .val (.int (2 : Int32)), .val (.int (0 : Int32)), .unset, .unset] [(.int (0 : Int32)), (.ref r1)])) rfl rfl (hb hby own_d1_14) t k) ?_
  refine own_by (g' := (mkF m 17 #[.val (.ref r1), .val (.ref r1), .val (.int (2 : Int32)), .val (.int (0 : Int32)), .val (.double x0), .second] [])) (fun t k => XS.dstore X0.here hx rfl (hb hby own_d1_15) rfl (l' := #[.val (.ref r1), .val (.ref r1), .val (.int (2 : Int32)), .val (.int (0 : Int32)), .val (.double x0), .second]) rfl k) ?_
  refine own_by (g' := (mkF m 19 #[.val (.ref r1), .val (.ref r1), .val (.int (2 : Int32)), .val (.int (0 : Int32)), .val (.double x0), .second] [(.double x0)])) (fun t k => XS.dload X0.here hx rfl (hb hby own_d1_17) rfl k) ?_
  refine own_by (g' := (mkF m 20 #[.val (.ref r1), .val (.ref r1), .val (.int (2 : Int32)), .val (.int (0 : Int32)), .val (.double x0), .second] [(.double FP.dconst0), (.double x0)])) (fun t k => XS.dconst0 X0.here hx rfl (hb hby own_d1_19) rfl k) ?_
  refine own_by (g' := (mkF m 21 #[.val (.ref r1), .val (.ref r1), .val (.int (2 : Int32)), .val (.int (0 : Int32)), .val (.double x0), .second] [(.int (cmpValue (FP.dcmp x0 FP.dconst0) .l))])) (fun t k => XS.dcmpS X0.here hx rfl (hb hby own_d1_20) rfl rfl k) ?_
  by_cases hc103 : (cmpValue (FP.dcmp x0 FP.dconst0) .l) = (0 : Int32)
  ·
    refine own_by (g' := (mkF m 26 #[.val (.ref r1), .val (.ref r1), .val (.int (2 : Int32)), .val (.int (0 : Int32)), .val (.double x0), .second] [])) (fun t k => XS.ifYes X0.here hx rfl (pc0 := 21) (pc' := 26) rfl (hb hby own_d1_21) rfl ((if0 _ _).trans (teq hc103).1) (by decide) (by decide) k) ?_
    refine own_by (g' := (mkF m 29 #[.val (.ref r1), .val (.ref r1), .val (.int (2 : Int32)), .val (.int (1 : Int32)), .val (.double x0), .second] [])) (fun t k => XS.iinc X0.here hx rfl (hb hby own_d1_26) rfl (l' := #[.val (.ref r1), .val (.ref r1), .val (.int (2 : Int32)), .val (.int (1 : Int32)), .val (.double x0), .second]) rfl k) ?_
    refine own_by (g' := (mkF m 7 #[.val (.ref r1), .val (.ref r1), .val (.int (2 : Int32)), .val (.int (1 : Int32)), .val (.double x0), .second] [])) (fun t k => XS.goto X0.here hx rfl (pc0 := 29) (pc' := 7) rfl (hb hby own_d1_29) (by decide) (by decide) k) ?_
    refine own_by (g' := (mkF m 8 #[.val (.ref r1), .val (.ref r1), .val (.int (2 : Int32)), .val (.int (1 : Int32)), .val (.double x0), .second] [(.int (1 : Int32))])) (fun t k => XS.iloadN X0.here hx rfl (hb hby own_d1_7) rfl k) ?_
    refine own_by (g' := (mkF m 9 #[.val (.ref r1), .val (.ref r1), .val (.int (2 : Int32)), .val (.int (1 : Int32)), .val (.double x0), .second] [(.int (2 : Int32)), (.int (1 : Int32))])) (fun t k => XS.iloadN X0.here hx rfl (hb hby own_d1_8) rfl k) ?_
    refine own_by (g' := (mkF m 12 #[.val (.ref r1), .val (.ref r1), .val (.int (2 : Int32)), .val (.int (1 : Int32)), .val (.double x0), .second] [])) (fun t k => XS.icmpNo X0.here hx rfl (hb hby own_d1_9) rfl (tlt (by decide : (1 : Int32) < (2 : Int32))).2.1 k) ?_
    refine own_by (g' := (mkF m 13 #[.val (.ref r1), .val (.ref r1), .val (.int (2 : Int32)), .val (.int (1 : Int32)), .val (.double x0), .second] [(.ref r1)])) (fun t k => XS.aloadN X0.here hx rfl (hb hby own_d1_12) rfl rfl k) ?_
    refine own_by (g' := (mkF m 14 #[.val (.ref r1), .val (.ref r1), .val (.int (2 : Int32)), .val (.int (1 : Int32)), .val (.double x0), .second] [(.int (1 : Int32)), (.ref r1)])) (fun t k => XS.iloadN X0.here hx rfl (hb hby own_d1_13) rfl k) ?_
    obtain ⟨c104, Ar104, q104, S104, G104, H104, F104⟩ := id V1
    have hin104 : ¬ ((1 : Int32) < 0 ∨ c104.slots.size ≤ ((1 : Int32)).toNatClampNeg) := inb_of S104 ⟨by decide, by decide⟩
    have hat104 : c104.slots[((1 : Int32)).toNatClampNeg]? = some (.double x1) := H104.at hin104 rfl
    refine own_by (g' := (mkF m 15 #[.val (.ref r1), .val (.ref r1), .val (.int (2 : Int32)), .val (.int (1 : Int32)), .val (.double x0), .second] [(.double x1)])) (fun t k => X0.daload hx (j := (1 : Int32)) (v := (.double x1)) (by rw [e0]; exact Ar104.1) (State.isArrayOf_alike hZ.alike Ar104.2.1) Ar104.2.2 hin104 hat104 (g := (mkF m 14 #[.val (.ref r1), .val (.ref r1), .val (.int (2 : Int32)), .val (.int (1 : Int32)), .val (.double x0), .second] [(.int (1 : Int32)), (.ref r1)])) rfl rfl (hb hby own_d1_14) t k) ?_
    refine own_by (g' := (mkF m 17 #[.val (.ref r1), .val (.ref r1), .val (.int (2 : Int32)), .val (.int (1 : Int32)), .val (.double x1), .second] [])) (fun t k => XS.dstore X0.here hx rfl (hb hby own_d1_15) rfl (l' := #[.val (.ref r1), .val (.ref r1), .val (.int (2 : Int32)), .val (.int (1 : Int32)), .val (.double x1), .second]) rfl k) ?_
    refine own_by (g' := (mkF m 19 #[.val (.ref r1), .val (.ref r1), .val (.int (2 : Int32)), .val (.int (1 : Int32)), .val (.double x1), .second] [(.double x1)])) (fun t k => XS.dload X0.here hx rfl (hb hby own_d1_17) rfl k) ?_
    refine own_by (g' := (mkF m 20 #[.val (.ref r1), .val (.ref r1), .val (.int (2 : Int32)), .val (.int (1 : Int32)), .val (.double x1), .second] [(.double FP.dconst0), (.double x1)])) (fun t k => XS.dconst0 X0.here hx rfl (hb hby own_d1_19) rfl k) ?_
    refine own_by (g' := (mkF m 21 #[.val (.ref r1), .val (.ref r1), .val (.int (2 : Int32)), .val (.int (1 : Int32)), .val (.double x1), .second] [(.int (cmpValue (FP.dcmp x1 FP.dconst0) .l))])) (fun t k => XS.dcmpS X0.here hx rfl (hb hby own_d1_20) rfl rfl k) ?_
    by_cases hc105 : (cmpValue (FP.dcmp x1 FP.dconst0) .l) = (0 : Int32)
    ·
      refine own_by (g' := (mkF m 26 #[.val (.ref r1), .val (.ref r1), .val (.int (2 : Int32)), .val (.int (1 : Int32)), .val (.double x1), .second] [])) (fun t k => XS.ifYes X0.here hx rfl (pc0 := 21) (pc' := 26) rfl (hb hby own_d1_21) rfl ((if0 _ _).trans (teq hc105).1) (by decide) (by decide) k) ?_
      refine own_by (g' := (mkF m 29 #[.val (.ref r1), .val (.ref r1), .val (.int (2 : Int32)), .val (.int (2 : Int32)), .val (.double x1), .second] [])) (fun t k => XS.iinc X0.here hx rfl (hb hby own_d1_26) rfl (l' := #[.val (.ref r1), .val (.ref r1), .val (.int (2 : Int32)), .val (.int (2 : Int32)), .val (.double x1), .second]) rfl k) ?_
      refine own_by (g' := (mkF m 7 #[.val (.ref r1), .val (.ref r1), .val (.int (2 : Int32)), .val (.int (2 : Int32)), .val (.double x1), .second] [])) (fun t k => XS.goto X0.here hx rfl (pc0 := 29) (pc' := 7) rfl (hb hby own_d1_29) (by decide) (by decide) k) ?_
      refine own_by (g' := (mkF m 8 #[.val (.ref r1), .val (.ref r1), .val (.int (2 : Int32)), .val (.int (2 : Int32)), .val (.double x1), .second] [(.int (2 : Int32))])) (fun t k => XS.iloadN X0.here hx rfl (hb hby own_d1_7) rfl k) ?_
      refine own_by (g' := (mkF m 9 #[.val (.ref r1), .val (.ref r1), .val (.int (2 : Int32)), .val (.int (2 : Int32)), .val (.double x1), .second] [(.int (2 : Int32)), (.int (2 : Int32))])) (fun t k => XS.iloadN X0.here hx rfl (hb hby own_d1_8) rfl k) ?_
      refine own_by (g' := (mkF m 32 #[.val (.ref r1), .val (.ref r1), .val (.int (2 : Int32)), .val (.int (2 : Int32)), .val (.double x1), .second] [])) (fun t k => XS.icmpYes X0.here hx rfl (pc0 := 9) (pc' := 32) rfl (hb hby own_d1_9) rfl (flt (by decide : ¬ ((2 : Int32) < (2 : Int32)))).2.1 (by decide) (by decide) k) ?_
      refine own_by (g' := (mkF m 33 #[.val (.ref r1), .val (.ref r1), .val (.int (2 : Int32)), .val (.int (2 : Int32)), .val (.double x1), .second] [(.int (1 : Int32))])) (fun t k => XS.iconst X0.here hx rfl (hb hby own_d1_32) k) ?_
      refine own_retN X0 hx hlk hret (t := .boolean) (by simp) (hb hby own_d1_33) (by decide) (by decide) ?_
      exact ⟨(by simp [own_az2, own_dz, nar, hc103, hc105]), N0, e0⟩
    ·
      refine own_by (g' := (mkF m 24 #[.val (.ref r1), .val (.ref r1), .val (.int (2 : Int32)), .val (.int (1 : Int32)), .val (.double x1), .second] [])) (fun t k => XS.ifNo X0.here hx rfl (hb hby own_d1_21) rfl ((if0 _ _).trans (feq hc105).1) k) ?_
      refine own_by (g' := (mkF m 25 #[.val (.ref r1), .val (.ref r1), .val (.int (2 : Int32)), .val (.int (1 : Int32)), .val (.double x1), .second] [(.int (0 : Int32))])) (fun t k => XS.iconst X0.here hx rfl (hb hby own_d1_24) k) ?_
      refine own_retN X0 hx hlk hret (t := .boolean) (by simp) (hb hby own_d1_25) (by decide) (by decide) ?_
      exact ⟨(by simp [own_az2, own_dz, nar, hc103, hc105]), N0, e0⟩
  ·
    refine own_by (g' := (mkF m 24 #[.val (.ref r1), .val (.ref r1), .val (.int (2 : Int32)), .val (.int (0 : Int32)), .val (.double x0), .second] [])) (fun t k => XS.ifNo X0.here hx rfl (hb hby own_d1_21) rfl ((if0 _ _).trans (feq hc103).1) k) ?_
    refine own_by (g' := (mkF m 25 #[.val (.ref r1), .val (.ref r1), .val (.int (2 : Int32)), .val (.int (0 : Int32)), .val (.double x0), .second] [(.int (0 : Int32))])) (fun t k => XS.iconst X0.here hx rfl (hb hby own_d1_24) k) ?_
    refine own_retN X0 hx hlk hret (t := .boolean) (by simp) (hb hby own_d1_25) (by decide) (by decide) ?_
    exact ⟨(by simp [own_az2, own_dz, nar, hc103]), N0, e0⟩
def Q_own_caz3 (Z : State) (r1 : Addr) (kk : ClassId) (x0 : UInt64) (x1 : UInt64) (x2 : UInt64) (h0 : Heap) (n0 : Nat) (v : Option Value) (h : Heap) (L : List Loc) : Prop := v = some (.int (own_az3 x0 x1 x2)) ∧ Fr n0 L ∧ h = h0
theorem own_ef_own_caz3 (m : MethodId) (r1 : Addr) : entryFrame m #[(.ref r1)] 6 = mkF m 0 #[.val (.ref r1), .unset, .unset, .unset, .unset, .unset] [] := by first | (simp [entryFrame, mkF, argsToLocals, Value.category]; done) | rfl
set_option maxRecDepth 65536 in
set_option maxHeartbeats 40000000 in
theorem own_caz3 (l : Launch) (Z : State) (a0 : Array Value) (hw : ∀ d ∈ tables_1, d.before a0 Z = true) (ws : List Jvm.Cond) (r1 : Addr) (kk : ClassId) (x0 : UInt64) (x1 : UInt64) (x2 : UInt64) (h0 : Heap) (n0 : Nat) (Z0 : n0 ≤ h0.size) (V1 : Arv Z h0 r1 kk .double (3 : Int32) [(.double x0), (.double x1), (.double x2)] (.double 0)) :
    own_Ctr l Z (⟨"com/example/ringfold/ringfold/ring/Binary64", "allZero", "([D)Z"⟩ : MethodName) prog_57_method_3_code 6 (some .boolean) ws ({ frames := 0, cells := 0, slots := 0, locals := 0 } : Room) (({ frames := 0, cells := 0, slots := 0, locals := 0 } : Room)).cells (({ frames := 0, cells := 0, slots := 0, locals := 0 } : Room)).slots #[(.ref r1)] h0 (Q_own_caz3 Z r1 kk x0 x1 x2 h0 n0) := by
  refine own_enter (plainFor_of_name own_pn1) ?_
  intro p e s m below meth c s₁ X0 hx hZ hby hml hown hnm hlk hret e0
  have N0 := Fr.nil n0
  refine own_cast (own_ef_own_caz3 m r1) ?_
  refine own_by (g' := (mkF m 1 #[.val (.ref r1), .unset, .unset, .unset, .unset, .unset] [(.ref r1)])) (fun t k => XS.aloadN X0.here hx rfl (hb hby own_d1_0) rfl rfl k) ?_
  refine own_by (g' := (mkF m 2 #[.val (.ref r1), .val (.ref r1), .unset, .unset, .unset, .unset] [])) (fun t k => XS.astoreN X0.here hx rfl (hb hby own_d1_1) rfl rfl (l' := #[.val (.ref r1), .val (.ref r1), .unset, .unset, .unset, .unset]) rfl k) ?_
  refine own_by (g' := (mkF m 3 #[.val (.ref r1), .val (.ref r1), .unset, .unset, .unset, .unset] [(.ref r1)])) (fun t k => XS.aloadN X0.here hx rfl (hb hby own_d1_2) rfl rfl k) ?_
  obtain ⟨c101, Ar101, -, S101, G101, -, -⟩ := id V1
  refine own_by (g' := (mkF m 4 #[.val (.ref r1), .val (.ref r1), .unset, .unset, .unset, .unset] [(.int (3 : Int32))])) (fun t k => X0.arraylength hx (by rw [e0]; exact Ar101.1) (State.isArrayOf_alike hZ.alike Ar101.2.1) (g := (mkF m 3 #[.val (.ref r1), .val (.ref r1), .unset, .unset, .unset, .unset] [(.ref r1)])) rfl rfl (hb hby own_d1_3) t (by rw [len_of S101 G101]; exact k)) ?_
  refine own_by (g' := (mkF m 5 #[.val (.ref r1), .val (.ref r1), .val (.int (3 : Int32)), .unset, .unset, .unset] [])) (fun t k => XS.istoreN X0.here hx rfl (hb hby own_d1_4) rfl (l' := #[.val (.ref r1), .val (.ref r1), .val (.int (3 : Int32)), .unset, .unset, .unset]) rfl k) ?_
  refine own_by (g' := (mkF m 6 #[.val (.ref r1), .val (.ref r1), .val (.int (3 : Int32)), .unset, .unset, .unset] [(.int (0 : Int32))])) (fun t k => XS.iconst X0.here hx rfl (hb hby own_d1_5) k) ?_
  refine own_by (g' := (mkF m 7 #[.val (.ref r1), .val (.ref r1), .val (.int (3 : Int32)), .val (.int (0 : Int32)), .unset, .unset] [])) (fun t k => XS.istoreN X0.here hx rfl (hb hby own_d1_6) rfl (l' := #[.val (.ref r1), .val (.ref r1), .val (.int (3 : Int32)), .val (.int (0 : Int32)), .unset, .unset]) rfl k) ?_
  refine own_by (g' := (mkF m 8 #[.val (.ref r1), .val (.ref r1), .val (.int (3 : Int32)), .val (.int (0 : Int32)), .unset, .unset] [(.int (0 : Int32))])) (fun t k => XS.iloadN X0.here hx rfl (hb hby own_d1_7) rfl k) ?_
  refine own_by (g' := (mkF m 9 #[.val (.ref r1), .val (.ref r1), .val (.int (3 : Int32)), .val (.int (0 : Int32)), .unset, .unset] [(.int (3 : Int32)), (.int (0 : Int32))])) (fun t k => XS.iloadN X0.here hx rfl (hb hby own_d1_8) rfl k) ?_
  refine own_by (g' := (mkF m 12 #[.val (.ref r1), .val (.ref r1), .val (.int (3 : Int32)), .val (.int (0 : Int32)), .unset, .unset] [])) (fun t k => XS.icmpNo X0.here hx rfl (hb hby own_d1_9) rfl (tlt (by decide : (0 : Int32) < (3 : Int32))).2.1 k) ?_
  refine own_by (g' := (mkF m 13 #[.val (.ref r1), .val (.ref r1), .val (.int (3 : Int32)), .val (.int (0 : Int32)), .unset, .unset] [(.ref r1)])) (fun t k => XS.aloadN X0.here hx rfl (hb hby own_d1_12) rfl rfl k) ?_
  refine own_by (g' := (mkF m 14 #[.val (.ref r1), .val (.ref r1), .val (.int (3 : Int32)), .val (.int (0 : Int32)), .unset, .unset] [(.int (0 : Int32)), (.ref r1)])) (fun t k => XS.iloadN X0.here hx rfl (hb hby own_d1_13) rfl k) ?_
  obtain ⟨c102, Ar102, q102, S102, G102, H102, F102⟩ := id V1
  have hin102 : ¬ ((0 : Int32) < 0 ∨ c102.slots.size ≤ ((0 : Int32)).toNatClampNeg) := inb_of S102 ⟨by decide, by decide⟩
  have hat102 : c102.slots[((0 : Int32)).toNatClampNeg]? = some (.double x0) := H102.at hin102 rfl
  refine own_by (g' := (mkF m 15 #[.val (.ref r1), .val (.ref r1), .val (.int (3 : Int32)), .val (.int (0 : Int32)), .unset, .unset] [(.double x0)])) (fun t k => X0.daload hx (j := (0 : Int32)) (v := (.double x0)) (by rw [e0]; exact Ar102.1) (State.isArrayOf_alike hZ.alike Ar102.2.1) Ar102.2.2 hin102 hat102 (g := (mkF m 14 #[.val (.ref r1), .val (.ref r1), .val (.int (3 : Int32)), .val (.int (0 : Int32)), .unset, .unset] [(.int (0 : Int32)), (.ref r1)])) rfl rfl (hb hby own_d1_14) t k) ?_
  refine own_by (g' := (mkF m 17 #[.val (.ref r1), .val (.ref r1), .val (.int (3 : Int32)), .val (.int (0 : Int32)), .val (.double x0), .second] [])) (fun t k => XS.dstore X0.here hx rfl (hb hby own_d1_15) rfl (l' := #[.val (.ref r1), .val (.ref r1), .val (.int (3 : Int32)), .val (.int (0 : Int32)), .val (.double x0), .second]) rfl k) ?_
  refine own_by (g' := (mkF m 19 #[.val (.ref r1), .val (.ref r1), .val (.int (3 : Int32)), .val (.int (0 : Int32)), .val (.double x0), .second] [(.double x0)])) (fun t k => XS.dload X0.here hx rfl (hb hby own_d1_17) rfl k) ?_
  refine own_by (g' := (mkF m 20 #[.val (.ref r1), .val (.ref r1), .val (.int (3 : Int32)), .val (.int (0 : Int32)), .val (.double x0), .second] [(.double FP.dconst0), (.double x0)])) (fun t k => XS.dconst0 X0.here hx rfl (hb hby own_d1_19) rfl k) ?_
  refine own_by (g' := (mkF m 21 #[.val (.ref r1), .val (.ref r1), .val (.int (3 : Int32)), .val (.int (0 : Int32)), .val (.double x0), .second] [(.int (cmpValue (FP.dcmp x0 FP.dconst0) .l))])) (fun t k => XS.dcmpS X0.here hx rfl (hb hby own_d1_20) rfl rfl k) ?_
  by_cases hc103 : (cmpValue (FP.dcmp x0 FP.dconst0) .l) = (0 : Int32)
  ·
    refine own_by (g' := (mkF m 26 #[.val (.ref r1), .val (.ref r1), .val (.int (3 : Int32)), .val (.int (0 : Int32)), .val (.double x0), .second] [])) (fun t k => XS.ifYes X0.here hx rfl (pc0 := 21) (pc' := 26) rfl (hb hby own_d1_21) rfl ((if0 _ _).trans (teq hc103).1) (by decide) (by decide) k) ?_
    refine own_by (g' := (mkF m 29 #[.val (.ref r1), .val (.ref r1), .val (.int (3 : Int32)), .val (.int (1 : Int32)), .val (.double x0), .second] [])) (fun t k => XS.iinc X0.here hx rfl (hb hby own_d1_26) rfl (l' := #[.val (.ref r1), .val (.ref r1), .val (.int (3 : Int32)), .val (.int (1 : Int32)), .val (.double x0), .second]) rfl k) ?_
    refine own_by (g' := (mkF m 7 #[.val (.ref r1), .val (.ref r1), .val (.int (3 : Int32)), .val (.int (1 : Int32)), .val (.double x0), .second] [])) (fun t k => XS.goto X0.here hx rfl (pc0 := 29) (pc' := 7) rfl (hb hby own_d1_29) (by decide) (by decide) k) ?_
    refine own_by (g' := (mkF m 8 #[.val (.ref r1), .val (.ref r1), .val (.int (3 : Int32)), .val (.int (1 : Int32)), .val (.double x0), .second] [(.int (1 : Int32))])) (fun t k => XS.iloadN X0.here hx rfl (hb hby own_d1_7) rfl k) ?_
    refine own_by (g' := (mkF m 9 #[.val (.ref r1), .val (.ref r1), .val (.int (3 : Int32)), .val (.int (1 : Int32)), .val (.double x0), .second] [(.int (3 : Int32)), (.int (1 : Int32))])) (fun t k => XS.iloadN X0.here hx rfl (hb hby own_d1_8) rfl k) ?_
    refine own_by (g' := (mkF m 12 #[.val (.ref r1), .val (.ref r1), .val (.int (3 : Int32)), .val (.int (1 : Int32)), .val (.double x0), .second] [])) (fun t k => XS.icmpNo X0.here hx rfl (hb hby own_d1_9) rfl (tlt (by decide : (1 : Int32) < (3 : Int32))).2.1 k) ?_
    refine own_by (g' := (mkF m 13 #[.val (.ref r1), .val (.ref r1), .val (.int (3 : Int32)), .val (.int (1 : Int32)), .val (.double x0), .second] [(.ref r1)])) (fun t k => XS.aloadN X0.here hx rfl (hb hby own_d1_12) rfl rfl k) ?_
    refine own_by (g' := (mkF m 14 #[.val (.ref r1), .val (.ref r1), .val (.int (3 : Int32)), .val (.int (1 : Int32)), .val (.double x0), .second] [(.int (1 : Int32)), (.ref r1)])) (fun t k => XS.iloadN X0.here hx rfl (hb hby own_d1_13) rfl k) ?_
    obtain ⟨c104, Ar104, q104, S104, G104, H104, F104⟩ := id V1
    have hin104 : ¬ ((1 : Int32) < 0 ∨ c104.slots.size ≤ ((1 : Int32)).toNatClampNeg) := inb_of S104 ⟨by decide, by decide⟩
    have hat104 : c104.slots[((1 : Int32)).toNatClampNeg]? = some (.double x1) := H104.at hin104 rfl
    refine own_by (g' := (mkF m 15 #[.val (.ref r1), .val (.ref r1), .val (.int (3 : Int32)), .val (.int (1 : Int32)), .val (.double x0), .second] [(.double x1)])) (fun t k => X0.daload hx (j := (1 : Int32)) (v := (.double x1)) (by rw [e0]; exact Ar104.1) (State.isArrayOf_alike hZ.alike Ar104.2.1) Ar104.2.2 hin104 hat104 (g := (mkF m 14 #[.val (.ref r1), .val (.ref r1), .val (.int (3 : Int32)), .val (.int (1 : Int32)), .val (.double x0), .second] [(.int (1 : Int32)), (.ref r1)])) rfl rfl (hb hby own_d1_14) t k) ?_
    refine own_by (g' := (mkF m 17 #[.val (.ref r1), .val (.ref r1), .val (.int (3 : Int32)), .val (.int (1 : Int32)), .val (.double x1), .second] [])) (fun t k => XS.dstore X0.here hx rfl (hb hby own_d1_15) rfl (l' := #[.val (.ref r1), .val (.ref r1), .val (.int (3 : Int32)), .val (.int (1 : Int32)), .val (.double x1), .second]) rfl k) ?_
    refine own_by (g' := (mkF m 19 #[.val (.ref r1), .val (.ref r1), .val (.int (3 : Int32)), .val (.int (1 : Int32)), .val (.double x1), .second] [(.double x1)])) (fun t k => XS.dload X0.here hx rfl (hb hby own_d1_17) rfl k) ?_
    refine own_by (g' := (mkF m 20 #[.val (.ref r1), .val (.ref r1), .val (.int (3 : Int32)), .val (.int (1 : Int32)), .val (.double x1), .second] [(.double FP.dconst0), (.double x1)])) (fun t k => XS.dconst0 X0.here hx rfl (hb hby own_d1_19) rfl k) ?_
    refine own_by (g' := (mkF m 21 #[.val (.ref r1), .val (.ref r1), .val (.int (3 : Int32)), .val (.int (1 : Int32)), .val (.double x1), .second] [(.int (cmpValue (FP.dcmp x1 FP.dconst0) .l))])) (fun t k => XS.dcmpS X0.here hx rfl (hb hby own_d1_20) rfl rfl k) ?_
    by_cases hc105 : (cmpValue (FP.dcmp x1 FP.dconst0) .l) = (0 : Int32)
    ·
      refine own_by (g' := (mkF m 26 #[.val (.ref r1), .val (.ref r1), .val (.int (3 : Int32)), .val (.int (1 : Int32)), .val (.double x1), .second] [])) (fun t k => XS.ifYes X0.here hx rfl (pc0 := 21) (pc' := 26) rfl (hb hby own_d1_21) rfl ((if0 _ _).trans (teq hc105).1) (by decide) (by decide) k) ?_
      refine own_by (g' := (mkF m 29 #[.val (.ref r1), .val (.ref r1), .val (.int (3 : Int32)), .val (.int (2 : Int32)), .val (.double x1), .second] [])) (fun t k => XS.iinc X0.here hx rfl (hb hby own_d1_26) rfl (l' := #[.val (.ref r1), .val (.ref r1), .val (.int (3 : Int32)), .val (.int (2 : Int32)), .val (.double x1), .second]) rfl k) ?_
      refine own_by (g' := (mkF m 7 #[.val (.ref r1), .val (.ref r1), .val (.int (3 : Int32)), .val (.int (2 : Int32)), .val (.double x1), .second] [])) (fun t k => XS.goto X0.here hx rfl (pc0 := 29) (pc' := 7) rfl (hb hby own_d1_29) (by decide) (by decide) k) ?_
      refine own_by (g' := (mkF m 8 #[.val (.ref r1), .val (.ref r1), .val (.int (3 : Int32)), .val (.int (2 : Int32)), .val (.double x1), .second] [(.int (2 : Int32))])) (fun t k => XS.iloadN X0.here hx rfl (hb hby own_d1_7) rfl k) ?_
      refine own_by (g' := (mkF m 9 #[.val (.ref r1), .val (.ref r1), .val (.int (3 : Int32)), .val (.int (2 : Int32)), .val (.double x1), .second] [(.int (3 : Int32)), (.int (2 : Int32))])) (fun t k => XS.iloadN X0.here hx rfl (hb hby own_d1_8) rfl k) ?_
      refine own_by (g' := (mkF m 12 #[.val (.ref r1), .val (.ref r1), .val (.int (3 : Int32)), .val (.int (2 : Int32)), .val (.double x1), .second] [])) (fun t k => XS.icmpNo X0.here hx rfl (hb hby own_d1_9) rfl (tlt (by decide : (2 : Int32) < (3 : Int32))).2.1 k) ?_
      refine own_by (g' := (mkF m 13 #[.val (.ref r1), .val (.ref r1), .val (.int (3 : Int32)), .val (.int (2 : Int32)), .val (.double x1), .second] [(.ref r1)])) (fun t k => XS.aloadN X0.here hx rfl (hb hby own_d1_12) rfl rfl k) ?_
      refine own_by (g' := (mkF m 14 #[.val (.ref r1), .val (.ref r1), .val (.int (3 : Int32)), .val (.int (2 : Int32)), .val (.double x1), .second] [(.int (2 : Int32)), (.ref r1)])) (fun t k => XS.iloadN X0.here hx rfl (hb hby own_d1_13) rfl k) ?_
      obtain ⟨c106, Ar106, q106, S106, G106, H106, F106⟩ := id V1
      have hin106 : ¬ ((2 : Int32) < 0 ∨ c106.slots.size ≤ ((2 : Int32)).toNatClampNeg) := inb_of S106 ⟨by decide, by decide⟩
      have hat106 : c106.slots[((2 : Int32)).toNatClampNeg]? = some (.double x2) := H106.at hin106 rfl
      refine own_by (g' := (mkF m 15 #[.val (.ref r1), .val (.ref r1), .val (.int (3 : Int32)), .val (.int (2 : Int32)), .val (.double x1), .second] [(.double x2)])) (fun t k => X0.daload hx (j := (2 : Int32)) (v := (.double x2)) (by rw [e0]; exact Ar106.1) (State.isArrayOf_alike hZ.alike Ar106.2.1) Ar106.2.2 hin106 hat106 (g := (mkF m 14 #[.val (.ref r1), .val (.ref r1), .val (.int (3 : Int32)), .val (.int (2 : Int32)), .val (.double x1), .second] [(.int (2 : Int32)), (.ref r1)])) rfl rfl (hb hby own_d1_14) t k) ?_
      refine own_by (g' := (mkF m 17 #[.val (.ref r1), .val (.ref r1), .val (.int (3 : Int32)), .val (.int (2 : Int32)), .val (.double x2), .second] [])) (fun t k => XS.dstore X0.here hx rfl (hb hby own_d1_15) rfl (l' := #[.val (.ref r1), .val (.ref r1), .val (.int (3 : Int32)), .val (.int (2 : Int32)), .val (.double x2), .second]) rfl k) ?_
      refine own_by (g' := (mkF m 19 #[.val (.ref r1), .val (.ref r1), .val (.int (3 : Int32)), .val (.int (2 : Int32)), .val (.double x2), .second] [(.double x2)])) (fun t k => XS.dload X0.here hx rfl (hb hby own_d1_17) rfl k) ?_
      refine own_by (g' := (mkF m 20 #[.val (.ref r1), .val (.ref r1), .val (.int (3 : Int32)), .val (.int (2 : Int32)), .val (.double x2), .second] [(.double FP.dconst0), (.double x2)])) (fun t k => XS.dconst0 X0.here hx rfl (hb hby own_d1_19) rfl k) ?_
      refine own_by (g' := (mkF m 21 #[.val (.ref r1), .val (.ref r1), .val (.int (3 : Int32)), .val (.int (2 : Int32)), .val (.double x2), .second] [(.int (cmpValue (FP.dcmp x2 FP.dconst0) .l))])) (fun t k => XS.dcmpS X0.here hx rfl (hb hby own_d1_20) rfl rfl k) ?_
      by_cases hc107 : (cmpValue (FP.dcmp x2 FP.dconst0) .l) = (0 : Int32)
      ·
        refine own_by (g' := (mkF m 26 #[.val (.ref r1), .val (.ref r1), .val (.int (3 : Int32)), .val (.int (2 : Int32)), .val (.double x2), .second] [])) (fun t k => XS.ifYes X0.here hx rfl (pc0 := 21) (pc' := 26) rfl (hb hby own_d1_21) rfl ((if0 _ _).trans (teq hc107).1) (by decide) (by decide) k) ?_
        refine own_by (g' := (mkF m 29 #[.val (.ref r1), .val (.ref r1), .val (.int (3 : Int32)), .val (.int (3 : Int32)), .val (.double x2), .second] [])) (fun t k => XS.iinc X0.here hx rfl (hb hby own_d1_26) rfl (l' := #[.val (.ref r1), .val (.ref r1), .val (.int (3 : Int32)), .val (.int (3 : Int32)), .val (.double x2), .second]) rfl k) ?_
        refine own_by (g' := (mkF m 7 #[.val (.ref r1), .val (.ref r1), .val (.int (3 : Int32)), .val (.int (3 : Int32)), .val (.double x2), .second] [])) (fun t k => XS.goto X0.here hx rfl (pc0 := 29) (pc' := 7) rfl (hb hby own_d1_29) (by decide) (by decide) k) ?_
        refine own_by (g' := (mkF m 8 #[.val (.ref r1), .val (.ref r1), .val (.int (3 : Int32)), .val (.int (3 : Int32)), .val (.double x2), .second] [(.int (3 : Int32))])) (fun t k => XS.iloadN X0.here hx rfl (hb hby own_d1_7) rfl k) ?_
        refine own_by (g' := (mkF m 9 #[.val (.ref r1), .val (.ref r1), .val (.int (3 : Int32)), .val (.int (3 : Int32)), .val (.double x2), .second] [(.int (3 : Int32)), (.int (3 : Int32))])) (fun t k => XS.iloadN X0.here hx rfl (hb hby own_d1_8) rfl k) ?_
        refine own_by (g' := (mkF m 32 #[.val (.ref r1), .val (.ref r1), .val (.int (3 : Int32)), .val (.int (3 : Int32)), .val (.double x2), .second] [])) (fun t k => XS.icmpYes X0.here hx rfl (pc0 := 9) (pc' := 32) rfl (hb hby own_d1_9) rfl (flt (by decide : ¬ ((3 : Int32) < (3 : Int32)))).2.1 (by decide) (by decide) k) ?_
        refine own_by (g' := (mkF m 33 #[.val (.ref r1), .val (.ref r1), .val (.int (3 : Int32)), .val (.int (3 : Int32)), .val (.double x2), .second] [(.int (1 : Int32))])) (fun t k => XS.iconst X0.here hx rfl (hb hby own_d1_32) k) ?_
        refine own_retN X0 hx hlk hret (t := .boolean) (by simp) (hb hby own_d1_33) (by decide) (by decide) ?_
        exact ⟨(by simp [own_az3, own_dz, nar, hc103, hc105, hc107]), N0, e0⟩
      ·
        refine own_by (g' := (mkF m 24 #[.val (.ref r1), .val (.ref r1), .val (.int (3 : Int32)), .val (.int (2 : Int32)), .val (.double x2), .second] [])) (fun t k => XS.ifNo X0.here hx rfl (hb hby own_d1_21) rfl ((if0 _ _).trans (feq hc107).1) k) ?_
        refine own_by (g' := (mkF m 25 #[.val (.ref r1), .val (.ref r1), .val (.int (3 : Int32)), .val (.int (2 : Int32)), .val (.double x2), .second] [(.int (0 : Int32))])) (fun t k => XS.iconst X0.here hx rfl (hb hby own_d1_24) k) ?_
        refine own_retN X0 hx hlk hret (t := .boolean) (by simp) (hb hby own_d1_25) (by decide) (by decide) ?_
        exact ⟨(by simp [own_az3, own_dz, nar, hc103, hc105, hc107]), N0, e0⟩
    ·
      refine own_by (g' := (mkF m 24 #[.val (.ref r1), .val (.ref r1), .val (.int (3 : Int32)), .val (.int (1 : Int32)), .val (.double x1), .second] [])) (fun t k => XS.ifNo X0.here hx rfl (hb hby own_d1_21) rfl ((if0 _ _).trans (feq hc105).1) k) ?_
      refine own_by (g' := (mkF m 25 #[.val (.ref r1), .val (.ref r1), .val (.int (3 : Int32)), .val (.int (1 : Int32)), .val (.double x1), .second] [(.int (0 : Int32))])) (fun t k => XS.iconst X0.here hx rfl (hb hby own_d1_24) k) ?_
      refine own_retN X0 hx hlk hret (t := .boolean) (by simp) (hb hby own_d1_25) (by decide) (by decide) ?_
      exact ⟨(by simp [own_az3, own_dz, nar, hc103, hc105]), N0, e0⟩
  ·
    refine own_by (g' := (mkF m 24 #[.val (.ref r1), .val (.ref r1), .val (.int (3 : Int32)), .val (.int (0 : Int32)), .val (.double x0), .second] [])) (fun t k => XS.ifNo X0.here hx rfl (hb hby own_d1_21) rfl ((if0 _ _).trans (feq hc103).1) k) ?_
    refine own_by (g' := (mkF m 25 #[.val (.ref r1), .val (.ref r1), .val (.int (3 : Int32)), .val (.int (0 : Int32)), .val (.double x0), .second] [(.int (0 : Int32))])) (fun t k => XS.iconst X0.here hx rfl (hb hby own_d1_24) k) ?_
    refine own_retN X0 hx hlk hret (t := .boolean) (by simp) (hb hby own_d1_25) (by decide) (by decide) ?_
    exact ⟨(by simp [own_az3, own_dz, nar, hc103]), N0, e0⟩
theorem own_ad_double : "[" ++ (newarray.typeOf .double).toString = "[D" := by decide +kernel
theorem own_pd0 : parseMethodDescriptor "([D)Z" = some ⟨[(.array .double)], some .boolean⟩ := by decide +kernel
theorem own_pd1 : parseMethodDescriptor "(I)D" = some ⟨[.int], some .double⟩ := by decide +kernel
theorem own_pd2 : parseMethodDescriptor "(I)Z" = some ⟨[.int], some .boolean⟩ := by decide +kernel
def Q_own_law (Z : State) (u1 : Int32) (u2 : Int32) (u3 : Int32) (u4 : Int32) (h0 : Heap) (n0 : Nat) (v : Option Value) (h : Heap) (L : List Loc) : Prop := v = some (.int (1 : Int32)) ∧ Fr n0 L ∧ Keep h0 h []
theorem own_ef_own_law (m : MethodId) (u1 : Int32) (u2 : Int32) (u3 : Int32) (u4 : Int32) : entryFrame m #[(.int u1), (.int u2), (.int u3), (.int u4)] maxLocals = mkF m 0 #[.val (.int u1), .val (.int u2), .val (.int u3), .val (.int u4), .unset, .unset, .unset] [] := by first | (simp [entryFrame, mkF, argsToLocals, Value.category, maxLocals]; done) | rfl
set_option maxRecDepth 65536 in
set_option maxHeartbeats 40000000 in
theorem own_law (l : Launch) (Z : State) (a0 : Array Value) (hw : ∀ d ∈ tables_1, d.before a0 Z = true) (ws : List Jvm.Cond) (u1 : Int32) (u2 : Int32) (u3 : Int32) (u4 : Int32) (h0 : Heap) (n0 : Nat) (Z0 : n0 ≤ h0.size)  :
    own_Ctr l Z x code maxLocals ret ws room_1 1 3 #[(.int u1), (.int u2), (.int u3), (.int u4)] h0 (Q_own_law Z u1 u2 u3 u4 h0 n0) := by
  refine own_enter (plainFor_of_name own_pn0) ?_
  intro p e s m below meth c s₁ X0 hx hZ hby hml hown hnm hlk hret e0
  have N0 := Fr.nil n0
  refine own_cast (own_ef_own_law m u1 u2 u3 u4) ?_
  refine own_by (g' := (mkF m 1 #[.val (.int u1), .val (.int u2), .val (.int u3), .val (.int u4), .unset, .unset, .unset] [(.int u1)])) (fun t k => XS.iloadN X0.here hx rfl (hb hby at_0) rfl k) ?_
  refine own_by (g' := (mkF m 2 #[.val (.int u1), .val (.int u2), .val (.int u3), .val (.int u4), .unset, .unset, .unset] [(.int (3 : Int32)), (.int u1)])) (fun t k => XS.iconst X0.here hx rfl (hb hby at_1) k) ?_
  refine own_by (g' := (mkF m 3 #[.val (.int u1), .val (.int u2), .val (.int u3), .val (.int u4), .unset, .unset, .unset] [(.int (u1 &&& (3 : Int32)))])) (fun t k => XS.iand X0.here hx rfl (hb hby at_2) rfl k) ?_
  rcases own_and3 u1 with q101 | q101 | q101 | q101
  ·
    rw [q101]
    refine own_by (g' := (mkF m 5 #[.val (.int u1), .val (.int u2), .val (.int u3), .val (.int u4), .val (.int (0 : Int32)), .unset, .unset] [])) (fun t k => XS.istore X0.here hx rfl (hb hby at_3) rfl (l' := #[.val (.int u1), .val (.int u2), .val (.int u3), .val (.int u4), .val (.int (0 : Int32)), .unset, .unset]) rfl k) ?_
    refine own_by (g' := (mkF m 7 #[.val (.int u1), .val (.int u2), .val (.int u3), .val (.int u4), .val (.int (0 : Int32)), .unset, .unset] [(.int (0 : Int32))])) (fun t k => XS.iload X0.here hx rfl (hb hby at_5) rfl k) ?_
    obtain ⟨T102, h102, k102, X102, e102, E102, A102, Y102, st102⟩ := newPE X0 hx hZ (hw _ (List.mem_of_getElem? (i := 0) rfl)) e0 (g := (mkF m 7 #[.val (.int u1), .val (.int u2), .val (.int u3), .val (.int u4), .val (.int (0 : Int32)), .unset, .unset] [(.int (0 : Int32))])) rfl (hb hby at_7) rfl (by decide) (cap := 0) (by decide) (by decide) (by decide) (by decide) (ad := "[D") own_ad_double
    obtain ⟨b102, g102⟩ : ∃ z, z = h0.size := ⟨_, rfl⟩
    rw [← g102] at A102 Y102 st102
    have sz_b102 : h0.size ≤ b102 := Nat.le_trans (Nat.le_refl _) (Nat.le_of_eq g102.symm)
    have g_b102 : n0 ≤ b102 := Nat.le_trans Z0 sz_b102
    have V102 : Arv Z h102 b102 k102 .double (0 : Int32) [] (.double 0) := (Arv.new A102 (by decide)).pad (pad_rep [] (.double 0) 0)
    refine own_by (g' := (mkF m 9 #[.val (.int u1), .val (.int u2), .val (.int u3), .val (.int u4), .val (.int (0 : Int32)), .unset, .unset] [(.ref b102)])) st102 ?_
    refine own_by (g' := (mkF m 11 #[.val (.int u1), .val (.int u2), .val (.int u3), .val (.int u4), .val (.int (0 : Int32)), .val (.ref b102), .unset] [])) (fun t k => XS.astore X102.here hx rfl (hb hby at_9) rfl rfl (l' := #[.val (.int u1), .val (.int u2), .val (.int u3), .val (.int u4), .val (.int (0 : Int32)), .val (.ref b102), .unset]) rfl k) ?_
    refine own_by (g' := (mkF m 13 #[.val (.int u1), .val (.int u2), .val (.int u3), .val (.int u4), .val (.int (0 : Int32)), .val (.ref b102), .unset] [(.int (0 : Int32))])) (fun t k => XS.iload X102.here hx rfl (hb hby at_11) rfl k) ?_
    refine own_by (g' := (mkF m 24 #[.val (.int u1), .val (.int u2), .val (.int u3), .val (.int u4), .val (.int (0 : Int32)), .val (.ref b102), .unset] [])) (fun t k => XS.ifYes X102.here hx rfl (pc0 := 13) (pc' := 24) rfl (hb hby at_13) rfl ((if0 _ _).trans (flt (by decide : ¬ ((0 : Int32) < (0 : Int32)))).2.2.2) (by decide) (by decide) k) ?_
    refine own_by (g' := (mkF m 26 #[.val (.int u1), .val (.int u2), .val (.int u3), .val (.int u4), .val (.int (0 : Int32)), .val (.ref b102), .unset] [(.int (0 : Int32))])) (fun t k => XS.iload X102.here hx rfl (hb hby at_24) rfl k) ?_
    refine own_by (g' := (mkF m 27 #[.val (.int u1), .val (.int u2), .val (.int u3), .val (.int u4), .val (.int (0 : Int32)), .val (.ref b102), .unset] [(.int (1 : Int32)), (.int (0 : Int32))])) (fun t k => XS.iconst X102.here hx rfl (hb hby at_26) k) ?_
    refine own_by (g' := (mkF m 38 #[.val (.int u1), .val (.int u2), .val (.int u3), .val (.int u4), .val (.int (0 : Int32)), .val (.ref b102), .unset] [])) (fun t k => XS.icmpYes X102.here hx rfl (pc0 := 27) (pc' := 38) rfl (hb hby at_27) rfl (flt (by decide : ¬ ((1 : Int32) < (0 : Int32)))).2.2.2 (by decide) (by decide) k) ?_
    refine own_by (g' := (mkF m 40 #[.val (.int u1), .val (.int u2), .val (.int u3), .val (.int u4), .val (.int (0 : Int32)), .val (.ref b102), .unset] [(.int (0 : Int32))])) (fun t k => XS.iload X102.here hx rfl (hb hby at_38) rfl k) ?_
    refine own_by (g' := (mkF m 41 #[.val (.int u1), .val (.int u2), .val (.int u3), .val (.int u4), .val (.int (0 : Int32)), .val (.ref b102), .unset] [(.int (2 : Int32)), (.int (0 : Int32))])) (fun t k => XS.iconst X102.here hx rfl (hb hby at_40) k) ?_
    refine own_by (g' := (mkF m 52 #[.val (.int u1), .val (.int u2), .val (.int u3), .val (.int u4), .val (.int (0 : Int32)), .val (.ref b102), .unset] [])) (fun t k => XS.icmpYes X102.here hx rfl (pc0 := 41) (pc' := 52) rfl (hb hby at_41) rfl (flt (by decide : ¬ ((2 : Int32) < (0 : Int32)))).2.2.2 (by decide) (by decide) k) ?_
    refine own_by (g' := (mkF m 54 #[.val (.int u1), .val (.int u2), .val (.int u3), .val (.int u4), .val (.int (0 : Int32)), .val (.ref b102), .unset] [(.int (0 : Int32))])) (fun t k => XS.iload X102.here hx rfl (hb hby at_52) rfl k) ?_
    refine own_by (g' := (mkF m 55 #[.val (.int u1), .val (.int u2), .val (.int u3), .val (.int u4), .val (.int (0 : Int32)), .val (.ref b102), .unset] [(.int (1 : Int32)), (.int (0 : Int32))])) (fun t k => XS.iconst X102.here hx rfl (hb hby at_54) k) ?_
    refine own_by (g' := (mkF m 65 #[.val (.int u1), .val (.int u2), .val (.int u3), .val (.int u4), .val (.int (0 : Int32)), .val (.ref b102), .unset] [])) (fun t k => XS.icmpYes X102.here hx rfl (pc0 := 55) (pc' := 65) rfl (hb hby at_55) rfl (tlt (by decide : (0 : Int32) < (1 : Int32))).1 (by decide) (by decide) k) ?_
    refine own_by (g' := (mkF m 67 #[.val (.int u1), .val (.int u2), .val (.int u3), .val (.int u4), .val (.int (0 : Int32)), .val (.ref b102), .unset] [(.int (0 : Int32))])) (fun t k => XS.iload X102.here hx rfl (hb hby at_65) rfl k) ?_
    refine own_by (g' := (mkF m 68 #[.val (.int u1), .val (.int u2), .val (.int u3), .val (.int u4), .val (.int (0 : Int32)), .val (.ref b102), .unset] [(.int (2 : Int32)), (.int (0 : Int32))])) (fun t k => XS.iconst X102.here hx rfl (hb hby at_67) k) ?_
    refine own_by (g' := (mkF m 78 #[.val (.int u1), .val (.int u2), .val (.int u3), .val (.int u4), .val (.int (0 : Int32)), .val (.ref b102), .unset] [])) (fun t k => XS.icmpYes X102.here hx rfl (pc0 := 68) (pc' := 78) rfl (hb hby at_68) rfl (tlt (by decide : (0 : Int32) < (2 : Int32))).1 (by decide) (by decide) k) ?_
    refine own_by (g' := (mkF m 80 #[.val (.int u1), .val (.int u2), .val (.int u3), .val (.int u4), .val (.int (0 : Int32)), .val (.ref b102), .unset] [(.int (0 : Int32))])) (fun t k => XS.iload X102.here hx rfl (hb hby at_78) rfl k) ?_
    refine own_by (g' := (mkF m 81 #[.val (.int u1), .val (.int u2), .val (.int u3), .val (.int u4), .val (.int (0 : Int32)), .val (.ref b102), .unset] [(.int (3 : Int32)), (.int (0 : Int32))])) (fun t k => XS.iconst X102.here hx rfl (hb hby at_80) k) ?_
    refine own_by (g' := (mkF m 91 #[.val (.int u1), .val (.int u2), .val (.int u3), .val (.int u4), .val (.int (0 : Int32)), .val (.ref b102), .unset] [])) (fun t k => XS.icmpYes X102.here hx rfl (pc0 := 81) (pc' := 91) rfl (hb hby at_81) rfl (tlt (by decide : (0 : Int32) < (3 : Int32))).1 (by decide) (by decide) k) ?_
    refine own_by (g' := (mkF m 92 #[.val (.int u1), .val (.int u2), .val (.int u3), .val (.int u4), .val (.int (0 : Int32)), .val (.ref b102), .unset] [(.int (1 : Int32))])) (fun t k => XS.iconst X102.here hx rfl (hb hby at_91) k) ?_
    refine own_by (g' := (mkF m 96 #[.val (.int u1), .val (.int u2), .val (.int u3), .val (.int u4), .val (.int (0 : Int32)), .val (.ref b102), .unset] [(.int (1 : Int32))])) (fun t k => XS.goto X102.here hx rfl (pc0 := 92) (pc' := 96) rfl (hb hby at_92) (by decide) (by decide) k) ?_
    refine own_by (g' := (mkF m 98 #[.val (.int u1), .val (.int u2), .val (.int u3), .val (.int u4), .val (.int (0 : Int32)), .val (.ref b102), .val (.int (1 : Int32))] [])) (fun t k => XS.istore X102.here hx rfl (hb hby at_96) rfl (l' := #[.val (.int u1), .val (.int u2), .val (.int u3), .val (.int u4), .val (.int (0 : Int32)), .val (.ref b102), .val (.int (1 : Int32))]) rfl k) ?_
    refine own_by (g' := (mkF m 100 #[.val (.int u1), .val (.int u2), .val (.int u3), .val (.int u4), .val (.int (0 : Int32)), .val (.ref b102), .val (.int (1 : Int32))] [(.ref b102)])) (fun t k => XS.aload X102.here hx rfl (hb hby at_98) rfl rfl k) ?_
    refine own_callS X102 hx hZ hown (hw _ (List.mem_of_getElem? (i := 1) rfl)) (hw _ (List.mem_of_getElem? (i := 2) rfl)) (hw _ (List.mem_of_getElem? (i := 3) rfl)) (hw _ (List.mem_of_getElem? (i := 4) rfl)) (by decide) (own_caz0 l Z a0 hw [] (b102) (k102) h102 n0 (Nat.le_trans Z0 E102.1) V102) 0 (by decide) (by decide) (by decide) (by decide) e102 (g := (mkF m 100 #[.val (.int u1), .val (.int u2), .val (.int u3), .val (.int u4), .val (.int (0 : Int32)), .val (.ref b102), .val (.int (1 : Int32))] [(.ref b102)])) rfl (by rw [hml]; rfl) (argsL := [(.ref b102)]) (rest := []) (lenOf own_pd0 rfl) rfl (by show 2 * 0 + _ ≤ _; exact Nat.le_of_eq rfl) (hb hby at_100) ?_
    intro v103 T103 L103 X103 q103
    obtain ⟨rfl, N103q, e103⟩ := q103
    have N103 := Fr.app N0 N103q
    show own_Goes p e below s _ _ _ T103 (mkF m 103 #[.val (.int u1), .val (.int u2), .val (.int u3), .val (.int u4), .val (.int (0 : Int32)), .val (.ref b102), .val (.int (1 : Int32))] [(.int (1 : Int32))])
    refine own_by (g' := (mkF m 105 #[.val (.int u1), .val (.int u2), .val (.int u3), .val (.int u4), .val (.int (0 : Int32)), .val (.ref b102), .val (.int (1 : Int32))] [(.int (1 : Int32)), (.int (1 : Int32))])) (fun t k => XS.iload X103.here hx rfl (hb hby at_103) rfl k) ?_
    refine own_by (g' := (mkF m 108 #[.val (.int u1), .val (.int u2), .val (.int u3), .val (.int u4), .val (.int (0 : Int32)), .val (.ref b102), .val (.int (1 : Int32))] [])) (fun t k => XS.icmpNo X103.here hx rfl (hb hby at_105) rfl (teq (by decide : (1 : Int32) = (1 : Int32))).2 k) ?_
    refine own_by (g' := (mkF m 109 #[.val (.int u1), .val (.int u2), .val (.int u3), .val (.int u4), .val (.int (0 : Int32)), .val (.ref b102), .val (.int (1 : Int32))] [(.int (1 : Int32))])) (fun t k => XS.iconst X103.here hx rfl (hb hby at_108) k) ?_
    refine own_by (g' := (mkF m 113 #[.val (.int u1), .val (.int u2), .val (.int u3), .val (.int u4), .val (.int (0 : Int32)), .val (.ref b102), .val (.int (1 : Int32))] [(.int (1 : Int32))])) (fun t k => XS.goto X103.here hx rfl (pc0 := 109) (pc' := 113) rfl (hb hby at_109) (by decide) (by decide) k) ?_
    refine own_retN X103 hx hlk hret (t := .boolean) (by simp) (hb hby at_113) (by decide) (by decide) ?_
    rw [e103]
    exact ⟨rfl, N103, ((Keep.refl h0 []).ext E102)⟩
  ·
    rw [q101]
    refine own_by (g' := (mkF m 5 #[.val (.int u1), .val (.int u2), .val (.int u3), .val (.int u4), .val (.int (1 : Int32)), .unset, .unset] [])) (fun t k => XS.istore X0.here hx rfl (hb hby at_3) rfl (l' := #[.val (.int u1), .val (.int u2), .val (.int u3), .val (.int u4), .val (.int (1 : Int32)), .unset, .unset]) rfl k) ?_
    refine own_by (g' := (mkF m 7 #[.val (.int u1), .val (.int u2), .val (.int u3), .val (.int u4), .val (.int (1 : Int32)), .unset, .unset] [(.int (1 : Int32))])) (fun t k => XS.iload X0.here hx rfl (hb hby at_5) rfl k) ?_
    obtain ⟨T104, h104, k104, X104, e104, E104, A104, Y104, st104⟩ := newPE X0 hx hZ (hw _ (List.mem_of_getElem? (i := 0) rfl)) e0 (g := (mkF m 7 #[.val (.int u1), .val (.int u2), .val (.int u3), .val (.int u4), .val (.int (1 : Int32)), .unset, .unset] [(.int (1 : Int32))])) rfl (hb hby at_7) rfl (by decide) (cap := 1) (by decide) (by decide) (by decide) (by decide) (ad := "[D") own_ad_double
    obtain ⟨b104, g104⟩ : ∃ z, z = h0.size := ⟨_, rfl⟩
    rw [← g104] at A104 Y104 st104
    have sz_b104 : h0.size ≤ b104 := Nat.le_trans (Nat.le_refl _) (Nat.le_of_eq g104.symm)
    have g_b104 : n0 ≤ b104 := Nat.le_trans Z0 sz_b104
    have V104 : Arv Z h104 b104 k104 .double (1 : Int32) [(.double 0)] (.double 0) := (Arv.new A104 (by decide)).pad (pad_rep [] (.double 0) 1)
    refine own_by (g' := (mkF m 9 #[.val (.int u1), .val (.int u2), .val (.int u3), .val (.int u4), .val (.int (1 : Int32)), .unset, .unset] [(.ref b104)])) st104 ?_
    refine own_by (g' := (mkF m 11 #[.val (.int u1), .val (.int u2), .val (.int u3), .val (.int u4), .val (.int (1 : Int32)), .val (.ref b104), .unset] [])) (fun t k => XS.astore X104.here hx rfl (hb hby at_9) rfl rfl (l' := #[.val (.int u1), .val (.int u2), .val (.int u3), .val (.int u4), .val (.int (1 : Int32)), .val (.ref b104), .unset]) rfl k) ?_
    refine own_by (g' := (mkF m 13 #[.val (.int u1), .val (.int u2), .val (.int u3), .val (.int u4), .val (.int (1 : Int32)), .val (.ref b104), .unset] [(.int (1 : Int32))])) (fun t k => XS.iload X104.here hx rfl (hb hby at_11) rfl k) ?_
    refine own_by (g' := (mkF m 16 #[.val (.int u1), .val (.int u2), .val (.int u3), .val (.int u4), .val (.int (1 : Int32)), .val (.ref b104), .unset] [])) (fun t k => XS.ifNo X104.here hx rfl (hb hby at_13) rfl ((if0 _ _).trans (tlt (by decide : (0 : Int32) < (1 : Int32))).2.2.2) k) ?_
    refine own_by (g' := (mkF m 18 #[.val (.int u1), .val (.int u2), .val (.int u3), .val (.int u4), .val (.int (1 : Int32)), .val (.ref b104), .unset] [(.ref b104)])) (fun t k => XS.aload X104.here hx rfl (hb hby at_16) rfl rfl k) ?_
    refine own_by (g' := (mkF m 19 #[.val (.int u1), .val (.int u2), .val (.int u3), .val (.int u4), .val (.int (1 : Int32)), .val (.ref b104), .unset] [(.int (0 : Int32)), (.ref b104)])) (fun t k => XS.iconst X104.here hx rfl (hb hby at_18) k) ?_
    refine own_by (g' := (mkF m 20 #[.val (.int u1), .val (.int u2), .val (.int u3), .val (.int u4), .val (.int (1 : Int32)), .val (.ref b104), .unset] [(.int u2), (.int (0 : Int32)), (.ref b104)])) (fun t k => XS.iloadN X104.here hx rfl (hb hby at_19) rfl k) ?_
    refine own_callS X104 hx hZ hown (hw _ (List.mem_of_getElem? (i := 5) rfl)) (hw _ (List.mem_of_getElem? (i := 6) rfl)) (hw _ (List.mem_of_getElem? (i := 7) rfl)) (hw _ (List.mem_of_getElem? (i := 8) rfl)) (by decide) (own_cval l Z a0 hw [] (u2) h104 n0 (Nat.le_trans Z0 E104.1) ) 2 (by decide) (by decide) (by decide) (by decide) e104 (g := (mkF m 20 #[.val (.int u1), .val (.int u2), .val (.int u3), .val (.int u4), .val (.int (1 : Int32)), .val (.ref b104), .unset] [(.int u2), (.int (0 : Int32)), (.ref b104)])) rfl (by rw [hml]; rfl) (argsL := [(.int u2)]) (rest := [(.int (0 : Int32)), (.ref b104)]) (lenOf own_pd1 rfl) rfl (by show 2 * 0 + _ ≤ _; exact Nat.le_of_eq rfl) (hb hby at_20) ?_
    intro v105 T105 L105 X105 q105
    obtain ⟨rfl, N105q, e105⟩ := q105
    have N105 := Fr.app N0 N105q
    show own_Goes p e below s _ _ _ T105 (mkF m 23 #[.val (.int u1), .val (.int u2), .val (.int u3), .val (.int u4), .val (.int (1 : Int32)), .val (.ref b104), .unset] [(.double (own_val u2)), (.int (0 : Int32)), (.ref b104)])
    obtain ⟨c106, Ar106, q106, S106, G106, H106, F106⟩ := id V104
    have hin106 : ¬ ((0 : Int32) < 0 ∨ c106.slots.size ≤ ((0 : Int32)).toNatClampNeg) := inb_of S106 ⟨by decide, by decide⟩
    obtain ⟨T106, h106, X106, e106, W106, st106⟩ := stD X105 hx hZ e105 Ar106 (j := (0 : Int32)) hin106 (g := (mkF m 23 #[.val (.int u1), .val (.int u2), .val (.int u3), .val (.int u4), .val (.int (1 : Int32)), .val (.ref b104), .unset] [(.double (own_val u2)), (.int (0 : Int32)), (.ref b104)])) rfl rfl (hb hby at_23)
    have V107 : Arv Z h106 b104 k104 .double (1 : Int32) [(.double (own_val u2))] (.double 0) := Arv.set Ar106 q106 S106 G106 H106 F106 rfl W106 0 rfl (Nat.le_of_ble_eq_true rfl)
    have N106 := Fr.snoc X106 N105 g_b104
    refine own_by (g' := (mkF m 24 #[.val (.int u1), .val (.int u2), .val (.int u3), .val (.int u4), .val (.int (1 : Int32)), .val (.ref b104), .unset] [])) st106 ?_
    refine own_by (g' := (mkF m 26 #[.val (.int u1), .val (.int u2), .val (.int u3), .val (.int u4), .val (.int (1 : Int32)), .val (.ref b104), .unset] [(.int (1 : Int32))])) (fun t k => XS.iload X106.here hx rfl (hb hby at_24) rfl k) ?_
    refine own_by (g' := (mkF m 27 #[.val (.int u1), .val (.int u2), .val (.int u3), .val (.int u4), .val (.int (1 : Int32)), .val (.ref b104), .unset] [(.int (1 : Int32)), (.int (1 : Int32))])) (fun t k => XS.iconst X106.here hx rfl (hb hby at_26) k) ?_
    refine own_by (g' := (mkF m 38 #[.val (.int u1), .val (.int u2), .val (.int u3), .val (.int u4), .val (.int (1 : Int32)), .val (.ref b104), .unset] [])) (fun t k => XS.icmpYes X106.here hx rfl (pc0 := 27) (pc' := 38) rfl (hb hby at_27) rfl (flt (by decide : ¬ ((1 : Int32) < (1 : Int32)))).2.2.2 (by decide) (by decide) k) ?_
    refine own_by (g' := (mkF m 40 #[.val (.int u1), .val (.int u2), .val (.int u3), .val (.int u4), .val (.int (1 : Int32)), .val (.ref b104), .unset] [(.int (1 : Int32))])) (fun t k => XS.iload X106.here hx rfl (hb hby at_38) rfl k) ?_
    refine own_by (g' := (mkF m 41 #[.val (.int u1), .val (.int u2), .val (.int u3), .val (.int u4), .val (.int (1 : Int32)), .val (.ref b104), .unset] [(.int (2 : Int32)), (.int (1 : Int32))])) (fun t k => XS.iconst X106.here hx rfl (hb hby at_40) k) ?_
    refine own_by (g' := (mkF m 52 #[.val (.int u1), .val (.int u2), .val (.int u3), .val (.int u4), .val (.int (1 : Int32)), .val (.ref b104), .unset] [])) (fun t k => XS.icmpYes X106.here hx rfl (pc0 := 41) (pc' := 52) rfl (hb hby at_41) rfl (flt (by decide : ¬ ((2 : Int32) < (1 : Int32)))).2.2.2 (by decide) (by decide) k) ?_
    refine own_by (g' := (mkF m 54 #[.val (.int u1), .val (.int u2), .val (.int u3), .val (.int u4), .val (.int (1 : Int32)), .val (.ref b104), .unset] [(.int (1 : Int32))])) (fun t k => XS.iload X106.here hx rfl (hb hby at_52) rfl k) ?_
    refine own_by (g' := (mkF m 55 #[.val (.int u1), .val (.int u2), .val (.int u3), .val (.int u4), .val (.int (1 : Int32)), .val (.ref b104), .unset] [(.int (1 : Int32)), (.int (1 : Int32))])) (fun t k => XS.iconst X106.here hx rfl (hb hby at_54) k) ?_
    refine own_by (g' := (mkF m 58 #[.val (.int u1), .val (.int u2), .val (.int u3), .val (.int u4), .val (.int (1 : Int32)), .val (.ref b104), .unset] [])) (fun t k => XS.icmpNo X106.here hx rfl (hb hby at_55) rfl (flt (by decide : ¬ ((1 : Int32) < (1 : Int32)))).1 k) ?_
    refine own_by (g' := (mkF m 59 #[.val (.int u1), .val (.int u2), .val (.int u3), .val (.int u4), .val (.int (1 : Int32)), .val (.ref b104), .unset] [(.int u2)])) (fun t k => XS.iloadN X106.here hx rfl (hb hby at_58) rfl k) ?_
    refine own_callS X106 hx hZ hown (hw _ (List.mem_of_getElem? (i := 9) rfl)) (hw _ (List.mem_of_getElem? (i := 10) rfl)) (hw _ (List.mem_of_getElem? (i := 7) rfl)) (hw _ (List.mem_of_getElem? (i := 11) rfl)) (by decide) (own_cisz l Z a0 hw [] (u2) h106 n0 (Nat.le_trans Z0 (Nat.le_trans E104.1 (Nat.le_of_eq W106.size.symm))) ) 0 (by decide) (by decide) (by decide) (by decide) e106 (g := (mkF m 59 #[.val (.int u1), .val (.int u2), .val (.int u3), .val (.int u4), .val (.int (1 : Int32)), .val (.ref b104), .unset] [(.int u2)])) rfl (by rw [hml]; rfl) (argsL := [(.int u2)]) (rest := []) (lenOf own_pd2 rfl) rfl (by show 2 * 0 + _ ≤ _; exact Nat.le_of_eq rfl) (hb hby at_59) ?_
    intro v108 T108 L108 X108 q108
    obtain ⟨rfl, N108q, e108⟩ := q108
    have N108 := Fr.app N106 N108q
    show own_Goes p e below s _ _ _ T108 (mkF m 62 #[.val (.int u1), .val (.int u2), .val (.int u3), .val (.int u4), .val (.int (1 : Int32)), .val (.ref b104), .unset] [(.int (own_isz u2))])
    by_cases hc109 : (own_isz u2) = (0 : Int32)
    ·
      refine own_by (g' := (mkF m 95 #[.val (.int u1), .val (.int u2), .val (.int u3), .val (.int u4), .val (.int (1 : Int32)), .val (.ref b104), .unset] [])) (fun t k => XS.ifYes X108.here hx rfl (pc0 := 62) (pc' := 95) rfl (hb hby at_62) rfl ((if0 _ _).trans (teq hc109).1) (by decide) (by decide) k) ?_
      refine own_by (g' := (mkF m 96 #[.val (.int u1), .val (.int u2), .val (.int u3), .val (.int u4), .val (.int (1 : Int32)), .val (.ref b104), .unset] [(.int (0 : Int32))])) (fun t k => XS.iconst X108.here hx rfl (hb hby at_95) k) ?_
      refine own_by (g' := (mkF m 98 #[.val (.int u1), .val (.int u2), .val (.int u3), .val (.int u4), .val (.int (1 : Int32)), .val (.ref b104), .val (.int (0 : Int32))] [])) (fun t k => XS.istore X108.here hx rfl (hb hby at_96) rfl (l' := #[.val (.int u1), .val (.int u2), .val (.int u3), .val (.int u4), .val (.int (1 : Int32)), .val (.ref b104), .val (.int (0 : Int32))]) rfl k) ?_
      refine own_by (g' := (mkF m 100 #[.val (.int u1), .val (.int u2), .val (.int u3), .val (.int u4), .val (.int (1 : Int32)), .val (.ref b104), .val (.int (0 : Int32))] [(.ref b104)])) (fun t k => XS.aload X108.here hx rfl (hb hby at_98) rfl rfl k) ?_
      refine own_callS X108 hx hZ hown (hw _ (List.mem_of_getElem? (i := 1) rfl)) (hw _ (List.mem_of_getElem? (i := 2) rfl)) (hw _ (List.mem_of_getElem? (i := 3) rfl)) (hw _ (List.mem_of_getElem? (i := 4) rfl)) (by decide) (own_caz1 l Z a0 hw [] (b104) (k104) ((own_val u2)) h106 n0 (Nat.le_trans Z0 (Nat.le_trans E104.1 (Nat.le_of_eq W106.size.symm))) V107) 0 (by decide) (by decide) (by decide) (by decide) e108 (g := (mkF m 100 #[.val (.int u1), .val (.int u2), .val (.int u3), .val (.int u4), .val (.int (1 : Int32)), .val (.ref b104), .val (.int (0 : Int32))] [(.ref b104)])) rfl (by rw [hml]; rfl) (argsL := [(.ref b104)]) (rest := []) (lenOf own_pd0 rfl) rfl (by show 2 * 0 + _ ≤ _; exact Nat.le_of_eq rfl) (hb hby at_100) ?_
      intro v110 T110 L110 X110 q110
      obtain ⟨rfl, N110q, e110⟩ := q110
      have N110 := Fr.app N108 N110q
      show own_Goes p e below s _ _ _ T110 (mkF m 103 #[.val (.int u1), .val (.int u2), .val (.int u3), .val (.int u4), .val (.int (1 : Int32)), .val (.ref b104), .val (.int (0 : Int32))] [(.int (own_az1 (own_val u2)))])
      refine own_by (g' := (mkF m 105 #[.val (.int u1), .val (.int u2), .val (.int u3), .val (.int u4), .val (.int (1 : Int32)), .val (.ref b104), .val (.int (0 : Int32))] [(.int (0 : Int32)), (.int (own_az1 (own_val u2)))])) (fun t k => XS.iload X110.here hx rfl (hb hby at_103) rfl k) ?_
      refine own_by (g' := (mkF m 108 #[.val (.int u1), .val (.int u2), .val (.int u3), .val (.int u4), .val (.int (1 : Int32)), .val (.ref b104), .val (.int (0 : Int32))] [])) (fun t k => XS.icmpNo X110.here hx rfl (hb hby at_105) rfl (teq (by simp [own_az1, own_az2, own_az3, own_vz, hc109])).2 k) ?_
      refine own_by (g' := (mkF m 109 #[.val (.int u1), .val (.int u2), .val (.int u3), .val (.int u4), .val (.int (1 : Int32)), .val (.ref b104), .val (.int (0 : Int32))] [(.int (1 : Int32))])) (fun t k => XS.iconst X110.here hx rfl (hb hby at_108) k) ?_
      refine own_by (g' := (mkF m 113 #[.val (.int u1), .val (.int u2), .val (.int u3), .val (.int u4), .val (.int (1 : Int32)), .val (.ref b104), .val (.int (0 : Int32))] [(.int (1 : Int32))])) (fun t k => XS.goto X110.here hx rfl (pc0 := 109) (pc' := 113) rfl (hb hby at_109) (by decide) (by decide) k) ?_
      refine own_retN X110 hx hlk hret (t := .boolean) (by simp) (hb hby at_113) (by decide) (by decide) ?_
      rw [e110]
      exact ⟨rfl, N110, (((Keep.refl h0 []).ext E104).wr W106 (Or.inr sz_b104))⟩
    ·
      refine own_by (g' := (mkF m 65 #[.val (.int u1), .val (.int u2), .val (.int u3), .val (.int u4), .val (.int (1 : Int32)), .val (.ref b104), .unset] [])) (fun t k => XS.ifNo X108.here hx rfl (hb hby at_62) rfl ((if0 _ _).trans (feq hc109).1) k) ?_
      refine own_by (g' := (mkF m 67 #[.val (.int u1), .val (.int u2), .val (.int u3), .val (.int u4), .val (.int (1 : Int32)), .val (.ref b104), .unset] [(.int (1 : Int32))])) (fun t k => XS.iload X108.here hx rfl (hb hby at_65) rfl k) ?_
      refine own_by (g' := (mkF m 68 #[.val (.int u1), .val (.int u2), .val (.int u3), .val (.int u4), .val (.int (1 : Int32)), .val (.ref b104), .unset] [(.int (2 : Int32)), (.int (1 : Int32))])) (fun t k => XS.iconst X108.here hx rfl (hb hby at_67) k) ?_
      refine own_by (g' := (mkF m 78 #[.val (.int u1), .val (.int u2), .val (.int u3), .val (.int u4), .val (.int (1 : Int32)), .val (.ref b104), .unset] [])) (fun t k => XS.icmpYes X108.here hx rfl (pc0 := 68) (pc' := 78) rfl (hb hby at_68) rfl (tlt (by decide : (1 : Int32) < (2 : Int32))).1 (by decide) (by decide) k) ?_
      refine own_by (g' := (mkF m 80 #[.val (.int u1), .val (.int u2), .val (.int u3), .val (.int u4), .val (.int (1 : Int32)), .val (.ref b104), .unset] [(.int (1 : Int32))])) (fun t k => XS.iload X108.here hx rfl (hb hby at_78) rfl k) ?_
      refine own_by (g' := (mkF m 81 #[.val (.int u1), .val (.int u2), .val (.int u3), .val (.int u4), .val (.int (1 : Int32)), .val (.ref b104), .unset] [(.int (3 : Int32)), (.int (1 : Int32))])) (fun t k => XS.iconst X108.here hx rfl (hb hby at_80) k) ?_
      refine own_by (g' := (mkF m 91 #[.val (.int u1), .val (.int u2), .val (.int u3), .val (.int u4), .val (.int (1 : Int32)), .val (.ref b104), .unset] [])) (fun t k => XS.icmpYes X108.here hx rfl (pc0 := 81) (pc' := 91) rfl (hb hby at_81) rfl (tlt (by decide : (1 : Int32) < (3 : Int32))).1 (by decide) (by decide) k) ?_
      refine own_by (g' := (mkF m 92 #[.val (.int u1), .val (.int u2), .val (.int u3), .val (.int u4), .val (.int (1 : Int32)), .val (.ref b104), .unset] [(.int (1 : Int32))])) (fun t k => XS.iconst X108.here hx rfl (hb hby at_91) k) ?_
      refine own_by (g' := (mkF m 96 #[.val (.int u1), .val (.int u2), .val (.int u3), .val (.int u4), .val (.int (1 : Int32)), .val (.ref b104), .unset] [(.int (1 : Int32))])) (fun t k => XS.goto X108.here hx rfl (pc0 := 92) (pc' := 96) rfl (hb hby at_92) (by decide) (by decide) k) ?_
      refine own_by (g' := (mkF m 98 #[.val (.int u1), .val (.int u2), .val (.int u3), .val (.int u4), .val (.int (1 : Int32)), .val (.ref b104), .val (.int (1 : Int32))] [])) (fun t k => XS.istore X108.here hx rfl (hb hby at_96) rfl (l' := #[.val (.int u1), .val (.int u2), .val (.int u3), .val (.int u4), .val (.int (1 : Int32)), .val (.ref b104), .val (.int (1 : Int32))]) rfl k) ?_
      refine own_by (g' := (mkF m 100 #[.val (.int u1), .val (.int u2), .val (.int u3), .val (.int u4), .val (.int (1 : Int32)), .val (.ref b104), .val (.int (1 : Int32))] [(.ref b104)])) (fun t k => XS.aload X108.here hx rfl (hb hby at_98) rfl rfl k) ?_
      refine own_callS X108 hx hZ hown (hw _ (List.mem_of_getElem? (i := 1) rfl)) (hw _ (List.mem_of_getElem? (i := 2) rfl)) (hw _ (List.mem_of_getElem? (i := 3) rfl)) (hw _ (List.mem_of_getElem? (i := 4) rfl)) (by decide) (own_caz1 l Z a0 hw [] (b104) (k104) ((own_val u2)) h106 n0 (Nat.le_trans Z0 (Nat.le_trans E104.1 (Nat.le_of_eq W106.size.symm))) V107) 0 (by decide) (by decide) (by decide) (by decide) e108 (g := (mkF m 100 #[.val (.int u1), .val (.int u2), .val (.int u3), .val (.int u4), .val (.int (1 : Int32)), .val (.ref b104), .val (.int (1 : Int32))] [(.ref b104)])) rfl (by rw [hml]; rfl) (argsL := [(.ref b104)]) (rest := []) (lenOf own_pd0 rfl) rfl (by show 2 * 0 + _ ≤ _; exact Nat.le_of_eq rfl) (hb hby at_100) ?_
      intro v111 T111 L111 X111 q111
      obtain ⟨rfl, N111q, e111⟩ := q111
      have N111 := Fr.app N108 N111q
      show own_Goes p e below s _ _ _ T111 (mkF m 103 #[.val (.int u1), .val (.int u2), .val (.int u3), .val (.int u4), .val (.int (1 : Int32)), .val (.ref b104), .val (.int (1 : Int32))] [(.int (own_az1 (own_val u2)))])
      refine own_by (g' := (mkF m 105 #[.val (.int u1), .val (.int u2), .val (.int u3), .val (.int u4), .val (.int (1 : Int32)), .val (.ref b104), .val (.int (1 : Int32))] [(.int (1 : Int32)), (.int (own_az1 (own_val u2)))])) (fun t k => XS.iload X111.here hx rfl (hb hby at_103) rfl k) ?_
      refine own_by (g' := (mkF m 108 #[.val (.int u1), .val (.int u2), .val (.int u3), .val (.int u4), .val (.int (1 : Int32)), .val (.ref b104), .val (.int (1 : Int32))] [])) (fun t k => XS.icmpNo X111.here hx rfl (hb hby at_105) rfl (teq (by simp [own_az1, own_az2, own_az3, own_vz, hc109])).2 k) ?_
      refine own_by (g' := (mkF m 109 #[.val (.int u1), .val (.int u2), .val (.int u3), .val (.int u4), .val (.int (1 : Int32)), .val (.ref b104), .val (.int (1 : Int32))] [(.int (1 : Int32))])) (fun t k => XS.iconst X111.here hx rfl (hb hby at_108) k) ?_
      refine own_by (g' := (mkF m 113 #[.val (.int u1), .val (.int u2), .val (.int u3), .val (.int u4), .val (.int (1 : Int32)), .val (.ref b104), .val (.int (1 : Int32))] [(.int (1 : Int32))])) (fun t k => XS.goto X111.here hx rfl (pc0 := 109) (pc' := 113) rfl (hb hby at_109) (by decide) (by decide) k) ?_
      refine own_retN X111 hx hlk hret (t := .boolean) (by simp) (hb hby at_113) (by decide) (by decide) ?_
      rw [e111]
      exact ⟨rfl, N111, (((Keep.refl h0 []).ext E104).wr W106 (Or.inr sz_b104))⟩
  ·
    rw [q101]
    refine own_by (g' := (mkF m 5 #[.val (.int u1), .val (.int u2), .val (.int u3), .val (.int u4), .val (.int (2 : Int32)), .unset, .unset] [])) (fun t k => XS.istore X0.here hx rfl (hb hby at_3) rfl (l' := #[.val (.int u1), .val (.int u2), .val (.int u3), .val (.int u4), .val (.int (2 : Int32)), .unset, .unset]) rfl k) ?_
    refine own_by (g' := (mkF m 7 #[.val (.int u1), .val (.int u2), .val (.int u3), .val (.int u4), .val (.int (2 : Int32)), .unset, .unset] [(.int (2 : Int32))])) (fun t k => XS.iload X0.here hx rfl (hb hby at_5) rfl k) ?_
    obtain ⟨T112, h112, k112, X112, e112, E112, A112, Y112, st112⟩ := newPE X0 hx hZ (hw _ (List.mem_of_getElem? (i := 0) rfl)) e0 (g := (mkF m 7 #[.val (.int u1), .val (.int u2), .val (.int u3), .val (.int u4), .val (.int (2 : Int32)), .unset, .unset] [(.int (2 : Int32))])) rfl (hb hby at_7) rfl (by decide) (cap := 2) (by decide) (by decide) (by decide) (by decide) (ad := "[D") own_ad_double
    obtain ⟨b112, g112⟩ : ∃ z, z = h0.size := ⟨_, rfl⟩
    rw [← g112] at A112 Y112 st112
    have sz_b112 : h0.size ≤ b112 := Nat.le_trans (Nat.le_refl _) (Nat.le_of_eq g112.symm)
    have g_b112 : n0 ≤ b112 := Nat.le_trans Z0 sz_b112
    have V112 : Arv Z h112 b112 k112 .double (2 : Int32) [(.double 0), (.double 0)] (.double 0) := (Arv.new A112 (by decide)).pad (pad_rep [] (.double 0) 2)
    refine own_by (g' := (mkF m 9 #[.val (.int u1), .val (.int u2), .val (.int u3), .val (.int u4), .val (.int (2 : Int32)), .unset, .unset] [(.ref b112)])) st112 ?_
    refine own_by (g' := (mkF m 11 #[.val (.int u1), .val (.int u2), .val (.int u3), .val (.int u4), .val (.int (2 : Int32)), .val (.ref b112), .unset] [])) (fun t k => XS.astore X112.here hx rfl (hb hby at_9) rfl rfl (l' := #[.val (.int u1), .val (.int u2), .val (.int u3), .val (.int u4), .val (.int (2 : Int32)), .val (.ref b112), .unset]) rfl k) ?_
    refine own_by (g' := (mkF m 13 #[.val (.int u1), .val (.int u2), .val (.int u3), .val (.int u4), .val (.int (2 : Int32)), .val (.ref b112), .unset] [(.int (2 : Int32))])) (fun t k => XS.iload X112.here hx rfl (hb hby at_11) rfl k) ?_
    refine own_by (g' := (mkF m 16 #[.val (.int u1), .val (.int u2), .val (.int u3), .val (.int u4), .val (.int (2 : Int32)), .val (.ref b112), .unset] [])) (fun t k => XS.ifNo X112.here hx rfl (hb hby at_13) rfl ((if0 _ _).trans (tlt (by decide : (0 : Int32) < (2 : Int32))).2.2.2) k) ?_
    refine own_by (g' := (mkF m 18 #[.val (.int u1), .val (.int u2), .val (.int u3), .val (.int u4), .val (.int (2 : Int32)), .val (.ref b112), .unset] [(.ref b112)])) (fun t k => XS.aload X112.here hx rfl (hb hby at_16) rfl rfl k) ?_
    refine own_by (g' := (mkF m 19 #[.val (.int u1), .val (.int u2), .val (.int u3), .val (.int u4), .val (.int (2 : Int32)), .val (.ref b112), .unset] [(.int (0 : Int32)), (.ref b112)])) (fun t k => XS.iconst X112.here hx rfl (hb hby at_18) k) ?_
    refine own_by (g' := (mkF m 20 #[.val (.int u1), .val (.int u2), .val (.int u3), .val (.int u4), .val (.int (2 : Int32)), .val (.ref b112), .unset] [(.int u2), (.int (0 : Int32)), (.ref b112)])) (fun t k => XS.iloadN X112.here hx rfl (hb hby at_19) rfl k) ?_
    refine own_callS X112 hx hZ hown (hw _ (List.mem_of_getElem? (i := 5) rfl)) (hw _ (List.mem_of_getElem? (i := 6) rfl)) (hw _ (List.mem_of_getElem? (i := 7) rfl)) (hw _ (List.mem_of_getElem? (i := 8) rfl)) (by decide) (own_cval l Z a0 hw [] (u2) h112 n0 (Nat.le_trans Z0 E112.1) ) 2 (by decide) (by decide) (by decide) (by decide) e112 (g := (mkF m 20 #[.val (.int u1), .val (.int u2), .val (.int u3), .val (.int u4), .val (.int (2 : Int32)), .val (.ref b112), .unset] [(.int u2), (.int (0 : Int32)), (.ref b112)])) rfl (by rw [hml]; rfl) (argsL := [(.int u2)]) (rest := [(.int (0 : Int32)), (.ref b112)]) (lenOf own_pd1 rfl) rfl (by show 2 * 0 + _ ≤ _; exact Nat.le_of_eq rfl) (hb hby at_20) ?_
    intro v113 T113 L113 X113 q113
    obtain ⟨rfl, N113q, e113⟩ := q113
    have N113 := Fr.app N0 N113q
    show own_Goes p e below s _ _ _ T113 (mkF m 23 #[.val (.int u1), .val (.int u2), .val (.int u3), .val (.int u4), .val (.int (2 : Int32)), .val (.ref b112), .unset] [(.double (own_val u2)), (.int (0 : Int32)), (.ref b112)])
    obtain ⟨c114, Ar114, q114, S114, G114, H114, F114⟩ := id V112
    have hin114 : ¬ ((0 : Int32) < 0 ∨ c114.slots.size ≤ ((0 : Int32)).toNatClampNeg) := inb_of S114 ⟨by decide, by decide⟩
    obtain ⟨T114, h114, X114, e114, W114, st114⟩ := stD X113 hx hZ e113 Ar114 (j := (0 : Int32)) hin114 (g := (mkF m 23 #[.val (.int u1), .val (.int u2), .val (.int u3), .val (.int u4), .val (.int (2 : Int32)), .val (.ref b112), .unset] [(.double (own_val u2)), (.int (0 : Int32)), (.ref b112)])) rfl rfl (hb hby at_23)
    have V115 : Arv Z h114 b112 k112 .double (2 : Int32) [(.double (own_val u2)), (.double 0)] (.double 0) := Arv.set Ar114 q114 S114 G114 H114 F114 rfl W114 0 rfl (Nat.le_of_ble_eq_true rfl)
    have N114 := Fr.snoc X114 N113 g_b112
    refine own_by (g' := (mkF m 24 #[.val (.int u1), .val (.int u2), .val (.int u3), .val (.int u4), .val (.int (2 : Int32)), .val (.ref b112), .unset] [])) st114 ?_
    refine own_by (g' := (mkF m 26 #[.val (.int u1), .val (.int u2), .val (.int u3), .val (.int u4), .val (.int (2 : Int32)), .val (.ref b112), .unset] [(.int (2 : Int32))])) (fun t k => XS.iload X114.here hx rfl (hb hby at_24) rfl k) ?_
    refine own_by (g' := (mkF m 27 #[.val (.int u1), .val (.int u2), .val (.int u3), .val (.int u4), .val (.int (2 : Int32)), .val (.ref b112), .unset] [(.int (1 : Int32)), (.int (2 : Int32))])) (fun t k => XS.iconst X114.here hx rfl (hb hby at_26) k) ?_
    refine own_by (g' := (mkF m 30 #[.val (.int u1), .val (.int u2), .val (.int u3), .val (.int u4), .val (.int (2 : Int32)), .val (.ref b112), .unset] [])) (fun t k => XS.icmpNo X114.here hx rfl (hb hby at_27) rfl (tlt (by decide : (1 : Int32) < (2 : Int32))).2.2.2 k) ?_
    refine own_by (g' := (mkF m 32 #[.val (.int u1), .val (.int u2), .val (.int u3), .val (.int u4), .val (.int (2 : Int32)), .val (.ref b112), .unset] [(.ref b112)])) (fun t k => XS.aload X114.here hx rfl (hb hby at_30) rfl rfl k) ?_
    refine own_by (g' := (mkF m 33 #[.val (.int u1), .val (.int u2), .val (.int u3), .val (.int u4), .val (.int (2 : Int32)), .val (.ref b112), .unset] [(.int (1 : Int32)), (.ref b112)])) (fun t k => XS.iconst X114.here hx rfl (hb hby at_32) k) ?_
    refine own_by (g' := (mkF m 34 #[.val (.int u1), .val (.int u2), .val (.int u3), .val (.int u4), .val (.int (2 : Int32)), .val (.ref b112), .unset] [(.int u3), (.int (1 : Int32)), (.ref b112)])) (fun t k => XS.iloadN X114.here hx rfl (hb hby at_33) rfl k) ?_
    refine own_callS X114 hx hZ hown (hw _ (List.mem_of_getElem? (i := 5) rfl)) (hw _ (List.mem_of_getElem? (i := 6) rfl)) (hw _ (List.mem_of_getElem? (i := 7) rfl)) (hw _ (List.mem_of_getElem? (i := 8) rfl)) (by decide) (own_cval l Z a0 hw [] (u3) h114 n0 (Nat.le_trans Z0 (Nat.le_trans E112.1 (Nat.le_of_eq W114.size.symm))) ) 2 (by decide) (by decide) (by decide) (by decide) e114 (g := (mkF m 34 #[.val (.int u1), .val (.int u2), .val (.int u3), .val (.int u4), .val (.int (2 : Int32)), .val (.ref b112), .unset] [(.int u3), (.int (1 : Int32)), (.ref b112)])) rfl (by rw [hml]; rfl) (argsL := [(.int u3)]) (rest := [(.int (1 : Int32)), (.ref b112)]) (lenOf own_pd1 rfl) rfl (by show 2 * 0 + _ ≤ _; exact Nat.le_of_eq rfl) (hb hby at_34) ?_
    intro v116 T116 L116 X116 q116
    obtain ⟨rfl, N116q, e116⟩ := q116
    have N116 := Fr.app N114 N116q
    show own_Goes p e below s _ _ _ T116 (mkF m 37 #[.val (.int u1), .val (.int u2), .val (.int u3), .val (.int u4), .val (.int (2 : Int32)), .val (.ref b112), .unset] [(.double (own_val u3)), (.int (1 : Int32)), (.ref b112)])
    obtain ⟨c117, Ar117, q117, S117, G117, H117, F117⟩ := id V115
    have hin117 : ¬ ((1 : Int32) < 0 ∨ c117.slots.size ≤ ((1 : Int32)).toNatClampNeg) := inb_of S117 ⟨by decide, by decide⟩
    obtain ⟨T117, h117, X117, e117, W117, st117⟩ := stD X116 hx hZ e116 Ar117 (j := (1 : Int32)) hin117 (g := (mkF m 37 #[.val (.int u1), .val (.int u2), .val (.int u3), .val (.int u4), .val (.int (2 : Int32)), .val (.ref b112), .unset] [(.double (own_val u3)), (.int (1 : Int32)), (.ref b112)])) rfl rfl (hb hby at_37)
    have V118 : Arv Z h117 b112 k112 .double (2 : Int32) [(.double (own_val u2)), (.double (own_val u3))] (.double 0) := Arv.set Ar117 q117 S117 G117 H117 F117 rfl W117 1 rfl (Nat.le_of_ble_eq_true rfl)
    have N117 := Fr.snoc X117 N116 g_b112
    refine own_by (g' := (mkF m 38 #[.val (.int u1), .val (.int u2), .val (.int u3), .val (.int u4), .val (.int (2 : Int32)), .val (.ref b112), .unset] [])) st117 ?_
    refine own_by (g' := (mkF m 40 #[.val (.int u1), .val (.int u2), .val (.int u3), .val (.int u4), .val (.int (2 : Int32)), .val (.ref b112), .unset] [(.int (2 : Int32))])) (fun t k => XS.iload X117.here hx rfl (hb hby at_38) rfl k) ?_
    refine own_by (g' := (mkF m 41 #[.val (.int u1), .val (.int u2), .val (.int u3), .val (.int u4), .val (.int (2 : Int32)), .val (.ref b112), .unset] [(.int (2 : Int32)), (.int (2 : Int32))])) (fun t k => XS.iconst X117.here hx rfl (hb hby at_40) k) ?_
    refine own_by (g' := (mkF m 52 #[.val (.int u1), .val (.int u2), .val (.int u3), .val (.int u4), .val (.int (2 : Int32)), .val (.ref b112), .unset] [])) (fun t k => XS.icmpYes X117.here hx rfl (pc0 := 41) (pc' := 52) rfl (hb hby at_41) rfl (flt (by decide : ¬ ((2 : Int32) < (2 : Int32)))).2.2.2 (by decide) (by decide) k) ?_
    refine own_by (g' := (mkF m 54 #[.val (.int u1), .val (.int u2), .val (.int u3), .val (.int u4), .val (.int (2 : Int32)), .val (.ref b112), .unset] [(.int (2 : Int32))])) (fun t k => XS.iload X117.here hx rfl (hb hby at_52) rfl k) ?_
    refine own_by (g' := (mkF m 55 #[.val (.int u1), .val (.int u2), .val (.int u3), .val (.int u4), .val (.int (2 : Int32)), .val (.ref b112), .unset] [(.int (1 : Int32)), (.int (2 : Int32))])) (fun t k => XS.iconst X117.here hx rfl (hb hby at_54) k) ?_
    refine own_by (g' := (mkF m 58 #[.val (.int u1), .val (.int u2), .val (.int u3), .val (.int u4), .val (.int (2 : Int32)), .val (.ref b112), .unset] [])) (fun t k => XS.icmpNo X117.here hx rfl (hb hby at_55) rfl (flt (by decide : ¬ ((2 : Int32) < (1 : Int32)))).1 k) ?_
    refine own_by (g' := (mkF m 59 #[.val (.int u1), .val (.int u2), .val (.int u3), .val (.int u4), .val (.int (2 : Int32)), .val (.ref b112), .unset] [(.int u2)])) (fun t k => XS.iloadN X117.here hx rfl (hb hby at_58) rfl k) ?_
    refine own_callS X117 hx hZ hown (hw _ (List.mem_of_getElem? (i := 9) rfl)) (hw _ (List.mem_of_getElem? (i := 10) rfl)) (hw _ (List.mem_of_getElem? (i := 7) rfl)) (hw _ (List.mem_of_getElem? (i := 11) rfl)) (by decide) (own_cisz l Z a0 hw [] (u2) h117 n0 (Nat.le_trans Z0 (Nat.le_trans (Nat.le_trans E112.1 (Nat.le_of_eq W114.size.symm)) (Nat.le_of_eq W117.size.symm))) ) 0 (by decide) (by decide) (by decide) (by decide) e117 (g := (mkF m 59 #[.val (.int u1), .val (.int u2), .val (.int u3), .val (.int u4), .val (.int (2 : Int32)), .val (.ref b112), .unset] [(.int u2)])) rfl (by rw [hml]; rfl) (argsL := [(.int u2)]) (rest := []) (lenOf own_pd2 rfl) rfl (by show 2 * 0 + _ ≤ _; exact Nat.le_of_eq rfl) (hb hby at_59) ?_
    intro v119 T119 L119 X119 q119
    obtain ⟨rfl, N119q, e119⟩ := q119
    have N119 := Fr.app N117 N119q
    show own_Goes p e below s _ _ _ T119 (mkF m 62 #[.val (.int u1), .val (.int u2), .val (.int u3), .val (.int u4), .val (.int (2 : Int32)), .val (.ref b112), .unset] [(.int (own_isz u2))])
    by_cases hc120 : (own_isz u2) = (0 : Int32)
    ·
      refine own_by (g' := (mkF m 95 #[.val (.int u1), .val (.int u2), .val (.int u3), .val (.int u4), .val (.int (2 : Int32)), .val (.ref b112), .unset] [])) (fun t k => XS.ifYes X119.here hx rfl (pc0 := 62) (pc' := 95) rfl (hb hby at_62) rfl ((if0 _ _).trans (teq hc120).1) (by decide) (by decide) k) ?_
      refine own_by (g' := (mkF m 96 #[.val (.int u1), .val (.int u2), .val (.int u3), .val (.int u4), .val (.int (2 : Int32)), .val (.ref b112), .unset] [(.int (0 : Int32))])) (fun t k => XS.iconst X119.here hx rfl (hb hby at_95) k) ?_
      refine own_by (g' := (mkF m 98 #[.val (.int u1), .val (.int u2), .val (.int u3), .val (.int u4), .val (.int (2 : Int32)), .val (.ref b112), .val (.int (0 : Int32))] [])) (fun t k => XS.istore X119.here hx rfl (hb hby at_96) rfl (l' := #[.val (.int u1), .val (.int u2), .val (.int u3), .val (.int u4), .val (.int (2 : Int32)), .val (.ref b112), .val (.int (0 : Int32))]) rfl k) ?_
      refine own_by (g' := (mkF m 100 #[.val (.int u1), .val (.int u2), .val (.int u3), .val (.int u4), .val (.int (2 : Int32)), .val (.ref b112), .val (.int (0 : Int32))] [(.ref b112)])) (fun t k => XS.aload X119.here hx rfl (hb hby at_98) rfl rfl k) ?_
      refine own_callS X119 hx hZ hown (hw _ (List.mem_of_getElem? (i := 1) rfl)) (hw _ (List.mem_of_getElem? (i := 2) rfl)) (hw _ (List.mem_of_getElem? (i := 3) rfl)) (hw _ (List.mem_of_getElem? (i := 4) rfl)) (by decide) (own_caz2 l Z a0 hw [] (b112) (k112) ((own_val u2)) ((own_val u3)) h117 n0 (Nat.le_trans Z0 (Nat.le_trans (Nat.le_trans E112.1 (Nat.le_of_eq W114.size.symm)) (Nat.le_of_eq W117.size.symm))) V118) 0 (by decide) (by decide) (by decide) (by decide) e119 (g := (mkF m 100 #[.val (.int u1), .val (.int u2), .val (.int u3), .val (.int u4), .val (.int (2 : Int32)), .val (.ref b112), .val (.int (0 : Int32))] [(.ref b112)])) rfl (by rw [hml]; rfl) (argsL := [(.ref b112)]) (rest := []) (lenOf own_pd0 rfl) rfl (by show 2 * 0 + _ ≤ _; exact Nat.le_of_eq rfl) (hb hby at_100) ?_
      intro v121 T121 L121 X121 q121
      obtain ⟨rfl, N121q, e121⟩ := q121
      have N121 := Fr.app N119 N121q
      show own_Goes p e below s _ _ _ T121 (mkF m 103 #[.val (.int u1), .val (.int u2), .val (.int u3), .val (.int u4), .val (.int (2 : Int32)), .val (.ref b112), .val (.int (0 : Int32))] [(.int (own_az2 (own_val u2) (own_val u3)))])
      refine own_by (g' := (mkF m 105 #[.val (.int u1), .val (.int u2), .val (.int u3), .val (.int u4), .val (.int (2 : Int32)), .val (.ref b112), .val (.int (0 : Int32))] [(.int (0 : Int32)), (.int (own_az2 (own_val u2) (own_val u3)))])) (fun t k => XS.iload X121.here hx rfl (hb hby at_103) rfl k) ?_
      refine own_by (g' := (mkF m 108 #[.val (.int u1), .val (.int u2), .val (.int u3), .val (.int u4), .val (.int (2 : Int32)), .val (.ref b112), .val (.int (0 : Int32))] [])) (fun t k => XS.icmpNo X121.here hx rfl (hb hby at_105) rfl (teq (by simp [own_az1, own_az2, own_az3, own_vz, hc120])).2 k) ?_
      refine own_by (g' := (mkF m 109 #[.val (.int u1), .val (.int u2), .val (.int u3), .val (.int u4), .val (.int (2 : Int32)), .val (.ref b112), .val (.int (0 : Int32))] [(.int (1 : Int32))])) (fun t k => XS.iconst X121.here hx rfl (hb hby at_108) k) ?_
      refine own_by (g' := (mkF m 113 #[.val (.int u1), .val (.int u2), .val (.int u3), .val (.int u4), .val (.int (2 : Int32)), .val (.ref b112), .val (.int (0 : Int32))] [(.int (1 : Int32))])) (fun t k => XS.goto X121.here hx rfl (pc0 := 109) (pc' := 113) rfl (hb hby at_109) (by decide) (by decide) k) ?_
      refine own_retN X121 hx hlk hret (t := .boolean) (by simp) (hb hby at_113) (by decide) (by decide) ?_
      rw [e121]
      exact ⟨rfl, N121, ((((Keep.refl h0 []).ext E112).wr W114 (Or.inr sz_b112)).wr W117 (Or.inr sz_b112))⟩
    ·
      refine own_by (g' := (mkF m 65 #[.val (.int u1), .val (.int u2), .val (.int u3), .val (.int u4), .val (.int (2 : Int32)), .val (.ref b112), .unset] [])) (fun t k => XS.ifNo X119.here hx rfl (hb hby at_62) rfl ((if0 _ _).trans (feq hc120).1) k) ?_
      refine own_by (g' := (mkF m 67 #[.val (.int u1), .val (.int u2), .val (.int u3), .val (.int u4), .val (.int (2 : Int32)), .val (.ref b112), .unset] [(.int (2 : Int32))])) (fun t k => XS.iload X119.here hx rfl (hb hby at_65) rfl k) ?_
      refine own_by (g' := (mkF m 68 #[.val (.int u1), .val (.int u2), .val (.int u3), .val (.int u4), .val (.int (2 : Int32)), .val (.ref b112), .unset] [(.int (2 : Int32)), (.int (2 : Int32))])) (fun t k => XS.iconst X119.here hx rfl (hb hby at_67) k) ?_
      refine own_by (g' := (mkF m 71 #[.val (.int u1), .val (.int u2), .val (.int u3), .val (.int u4), .val (.int (2 : Int32)), .val (.ref b112), .unset] [])) (fun t k => XS.icmpNo X119.here hx rfl (hb hby at_68) rfl (flt (by decide : ¬ ((2 : Int32) < (2 : Int32)))).1 k) ?_
      refine own_by (g' := (mkF m 72 #[.val (.int u1), .val (.int u2), .val (.int u3), .val (.int u4), .val (.int (2 : Int32)), .val (.ref b112), .unset] [(.int u3)])) (fun t k => XS.iloadN X119.here hx rfl (hb hby at_71) rfl k) ?_
      refine own_callS X119 hx hZ hown (hw _ (List.mem_of_getElem? (i := 9) rfl)) (hw _ (List.mem_of_getElem? (i := 10) rfl)) (hw _ (List.mem_of_getElem? (i := 7) rfl)) (hw _ (List.mem_of_getElem? (i := 11) rfl)) (by decide) (own_cisz l Z a0 hw [] (u3) h117 n0 (Nat.le_trans Z0 (Nat.le_trans (Nat.le_trans E112.1 (Nat.le_of_eq W114.size.symm)) (Nat.le_of_eq W117.size.symm))) ) 0 (by decide) (by decide) (by decide) (by decide) e119 (g := (mkF m 72 #[.val (.int u1), .val (.int u2), .val (.int u3), .val (.int u4), .val (.int (2 : Int32)), .val (.ref b112), .unset] [(.int u3)])) rfl (by rw [hml]; rfl) (argsL := [(.int u3)]) (rest := []) (lenOf own_pd2 rfl) rfl (by show 2 * 0 + _ ≤ _; exact Nat.le_of_eq rfl) (hb hby at_72) ?_
      intro v122 T122 L122 X122 q122
      obtain ⟨rfl, N122q, e122⟩ := q122
      have N122 := Fr.app N119 N122q
      show own_Goes p e below s _ _ _ T122 (mkF m 75 #[.val (.int u1), .val (.int u2), .val (.int u3), .val (.int u4), .val (.int (2 : Int32)), .val (.ref b112), .unset] [(.int (own_isz u3))])
      by_cases hc123 : (own_isz u3) = (0 : Int32)
      ·
        refine own_by (g' := (mkF m 95 #[.val (.int u1), .val (.int u2), .val (.int u3), .val (.int u4), .val (.int (2 : Int32)), .val (.ref b112), .unset] [])) (fun t k => XS.ifYes X122.here hx rfl (pc0 := 75) (pc' := 95) rfl (hb hby at_75) rfl ((if0 _ _).trans (teq hc123).1) (by decide) (by decide) k) ?_
        refine own_by (g' := (mkF m 96 #[.val (.int u1), .val (.int u2), .val (.int u3), .val (.int u4), .val (.int (2 : Int32)), .val (.ref b112), .unset] [(.int (0 : Int32))])) (fun t k => XS.iconst X122.here hx rfl (hb hby at_95) k) ?_
        refine own_by (g' := (mkF m 98 #[.val (.int u1), .val (.int u2), .val (.int u3), .val (.int u4), .val (.int (2 : Int32)), .val (.ref b112), .val (.int (0 : Int32))] [])) (fun t k => XS.istore X122.here hx rfl (hb hby at_96) rfl (l' := #[.val (.int u1), .val (.int u2), .val (.int u3), .val (.int u4), .val (.int (2 : Int32)), .val (.ref b112), .val (.int (0 : Int32))]) rfl k) ?_
        refine own_by (g' := (mkF m 100 #[.val (.int u1), .val (.int u2), .val (.int u3), .val (.int u4), .val (.int (2 : Int32)), .val (.ref b112), .val (.int (0 : Int32))] [(.ref b112)])) (fun t k => XS.aload X122.here hx rfl (hb hby at_98) rfl rfl k) ?_
        refine own_callS X122 hx hZ hown (hw _ (List.mem_of_getElem? (i := 1) rfl)) (hw _ (List.mem_of_getElem? (i := 2) rfl)) (hw _ (List.mem_of_getElem? (i := 3) rfl)) (hw _ (List.mem_of_getElem? (i := 4) rfl)) (by decide) (own_caz2 l Z a0 hw [] (b112) (k112) ((own_val u2)) ((own_val u3)) h117 n0 (Nat.le_trans Z0 (Nat.le_trans (Nat.le_trans E112.1 (Nat.le_of_eq W114.size.symm)) (Nat.le_of_eq W117.size.symm))) V118) 0 (by decide) (by decide) (by decide) (by decide) e122 (g := (mkF m 100 #[.val (.int u1), .val (.int u2), .val (.int u3), .val (.int u4), .val (.int (2 : Int32)), .val (.ref b112), .val (.int (0 : Int32))] [(.ref b112)])) rfl (by rw [hml]; rfl) (argsL := [(.ref b112)]) (rest := []) (lenOf own_pd0 rfl) rfl (by show 2 * 0 + _ ≤ _; exact Nat.le_of_eq rfl) (hb hby at_100) ?_
        intro v124 T124 L124 X124 q124
        obtain ⟨rfl, N124q, e124⟩ := q124
        have N124 := Fr.app N122 N124q
        show own_Goes p e below s _ _ _ T124 (mkF m 103 #[.val (.int u1), .val (.int u2), .val (.int u3), .val (.int u4), .val (.int (2 : Int32)), .val (.ref b112), .val (.int (0 : Int32))] [(.int (own_az2 (own_val u2) (own_val u3)))])
        refine own_by (g' := (mkF m 105 #[.val (.int u1), .val (.int u2), .val (.int u3), .val (.int u4), .val (.int (2 : Int32)), .val (.ref b112), .val (.int (0 : Int32))] [(.int (0 : Int32)), (.int (own_az2 (own_val u2) (own_val u3)))])) (fun t k => XS.iload X124.here hx rfl (hb hby at_103) rfl k) ?_
        refine own_by (g' := (mkF m 108 #[.val (.int u1), .val (.int u2), .val (.int u3), .val (.int u4), .val (.int (2 : Int32)), .val (.ref b112), .val (.int (0 : Int32))] [])) (fun t k => XS.icmpNo X124.here hx rfl (hb hby at_105) rfl (teq (by simp [own_az1, own_az2, own_az3, own_vz, hc120, hc123])).2 k) ?_
        refine own_by (g' := (mkF m 109 #[.val (.int u1), .val (.int u2), .val (.int u3), .val (.int u4), .val (.int (2 : Int32)), .val (.ref b112), .val (.int (0 : Int32))] [(.int (1 : Int32))])) (fun t k => XS.iconst X124.here hx rfl (hb hby at_108) k) ?_
        refine own_by (g' := (mkF m 113 #[.val (.int u1), .val (.int u2), .val (.int u3), .val (.int u4), .val (.int (2 : Int32)), .val (.ref b112), .val (.int (0 : Int32))] [(.int (1 : Int32))])) (fun t k => XS.goto X124.here hx rfl (pc0 := 109) (pc' := 113) rfl (hb hby at_109) (by decide) (by decide) k) ?_
        refine own_retN X124 hx hlk hret (t := .boolean) (by simp) (hb hby at_113) (by decide) (by decide) ?_
        rw [e124]
        exact ⟨rfl, N124, ((((Keep.refl h0 []).ext E112).wr W114 (Or.inr sz_b112)).wr W117 (Or.inr sz_b112))⟩
      ·
        refine own_by (g' := (mkF m 78 #[.val (.int u1), .val (.int u2), .val (.int u3), .val (.int u4), .val (.int (2 : Int32)), .val (.ref b112), .unset] [])) (fun t k => XS.ifNo X122.here hx rfl (hb hby at_75) rfl ((if0 _ _).trans (feq hc123).1) k) ?_
        refine own_by (g' := (mkF m 80 #[.val (.int u1), .val (.int u2), .val (.int u3), .val (.int u4), .val (.int (2 : Int32)), .val (.ref b112), .unset] [(.int (2 : Int32))])) (fun t k => XS.iload X122.here hx rfl (hb hby at_78) rfl k) ?_
        refine own_by (g' := (mkF m 81 #[.val (.int u1), .val (.int u2), .val (.int u3), .val (.int u4), .val (.int (2 : Int32)), .val (.ref b112), .unset] [(.int (3 : Int32)), (.int (2 : Int32))])) (fun t k => XS.iconst X122.here hx rfl (hb hby at_80) k) ?_
        refine own_by (g' := (mkF m 91 #[.val (.int u1), .val (.int u2), .val (.int u3), .val (.int u4), .val (.int (2 : Int32)), .val (.ref b112), .unset] [])) (fun t k => XS.icmpYes X122.here hx rfl (pc0 := 81) (pc' := 91) rfl (hb hby at_81) rfl (tlt (by decide : (2 : Int32) < (3 : Int32))).1 (by decide) (by decide) k) ?_
        refine own_by (g' := (mkF m 92 #[.val (.int u1), .val (.int u2), .val (.int u3), .val (.int u4), .val (.int (2 : Int32)), .val (.ref b112), .unset] [(.int (1 : Int32))])) (fun t k => XS.iconst X122.here hx rfl (hb hby at_91) k) ?_
        refine own_by (g' := (mkF m 96 #[.val (.int u1), .val (.int u2), .val (.int u3), .val (.int u4), .val (.int (2 : Int32)), .val (.ref b112), .unset] [(.int (1 : Int32))])) (fun t k => XS.goto X122.here hx rfl (pc0 := 92) (pc' := 96) rfl (hb hby at_92) (by decide) (by decide) k) ?_
        refine own_by (g' := (mkF m 98 #[.val (.int u1), .val (.int u2), .val (.int u3), .val (.int u4), .val (.int (2 : Int32)), .val (.ref b112), .val (.int (1 : Int32))] [])) (fun t k => XS.istore X122.here hx rfl (hb hby at_96) rfl (l' := #[.val (.int u1), .val (.int u2), .val (.int u3), .val (.int u4), .val (.int (2 : Int32)), .val (.ref b112), .val (.int (1 : Int32))]) rfl k) ?_
        refine own_by (g' := (mkF m 100 #[.val (.int u1), .val (.int u2), .val (.int u3), .val (.int u4), .val (.int (2 : Int32)), .val (.ref b112), .val (.int (1 : Int32))] [(.ref b112)])) (fun t k => XS.aload X122.here hx rfl (hb hby at_98) rfl rfl k) ?_
        refine own_callS X122 hx hZ hown (hw _ (List.mem_of_getElem? (i := 1) rfl)) (hw _ (List.mem_of_getElem? (i := 2) rfl)) (hw _ (List.mem_of_getElem? (i := 3) rfl)) (hw _ (List.mem_of_getElem? (i := 4) rfl)) (by decide) (own_caz2 l Z a0 hw [] (b112) (k112) ((own_val u2)) ((own_val u3)) h117 n0 (Nat.le_trans Z0 (Nat.le_trans (Nat.le_trans E112.1 (Nat.le_of_eq W114.size.symm)) (Nat.le_of_eq W117.size.symm))) V118) 0 (by decide) (by decide) (by decide) (by decide) e122 (g := (mkF m 100 #[.val (.int u1), .val (.int u2), .val (.int u3), .val (.int u4), .val (.int (2 : Int32)), .val (.ref b112), .val (.int (1 : Int32))] [(.ref b112)])) rfl (by rw [hml]; rfl) (argsL := [(.ref b112)]) (rest := []) (lenOf own_pd0 rfl) rfl (by show 2 * 0 + _ ≤ _; exact Nat.le_of_eq rfl) (hb hby at_100) ?_
        intro v125 T125 L125 X125 q125
        obtain ⟨rfl, N125q, e125⟩ := q125
        have N125 := Fr.app N122 N125q
        show own_Goes p e below s _ _ _ T125 (mkF m 103 #[.val (.int u1), .val (.int u2), .val (.int u3), .val (.int u4), .val (.int (2 : Int32)), .val (.ref b112), .val (.int (1 : Int32))] [(.int (own_az2 (own_val u2) (own_val u3)))])
        refine own_by (g' := (mkF m 105 #[.val (.int u1), .val (.int u2), .val (.int u3), .val (.int u4), .val (.int (2 : Int32)), .val (.ref b112), .val (.int (1 : Int32))] [(.int (1 : Int32)), (.int (own_az2 (own_val u2) (own_val u3)))])) (fun t k => XS.iload X125.here hx rfl (hb hby at_103) rfl k) ?_
        refine own_by (g' := (mkF m 108 #[.val (.int u1), .val (.int u2), .val (.int u3), .val (.int u4), .val (.int (2 : Int32)), .val (.ref b112), .val (.int (1 : Int32))] [])) (fun t k => XS.icmpNo X125.here hx rfl (hb hby at_105) rfl (teq (by simp [own_az1, own_az2, own_az3, own_vz, hc120, hc123])).2 k) ?_
        refine own_by (g' := (mkF m 109 #[.val (.int u1), .val (.int u2), .val (.int u3), .val (.int u4), .val (.int (2 : Int32)), .val (.ref b112), .val (.int (1 : Int32))] [(.int (1 : Int32))])) (fun t k => XS.iconst X125.here hx rfl (hb hby at_108) k) ?_
        refine own_by (g' := (mkF m 113 #[.val (.int u1), .val (.int u2), .val (.int u3), .val (.int u4), .val (.int (2 : Int32)), .val (.ref b112), .val (.int (1 : Int32))] [(.int (1 : Int32))])) (fun t k => XS.goto X125.here hx rfl (pc0 := 109) (pc' := 113) rfl (hb hby at_109) (by decide) (by decide) k) ?_
        refine own_retN X125 hx hlk hret (t := .boolean) (by simp) (hb hby at_113) (by decide) (by decide) ?_
        rw [e125]
        exact ⟨rfl, N125, ((((Keep.refl h0 []).ext E112).wr W114 (Or.inr sz_b112)).wr W117 (Or.inr sz_b112))⟩
  ·
    rw [q101]
    refine own_by (g' := (mkF m 5 #[.val (.int u1), .val (.int u2), .val (.int u3), .val (.int u4), .val (.int (3 : Int32)), .unset, .unset] [])) (fun t k => XS.istore X0.here hx rfl (hb hby at_3) rfl (l' := #[.val (.int u1), .val (.int u2), .val (.int u3), .val (.int u4), .val (.int (3 : Int32)), .unset, .unset]) rfl k) ?_
    refine own_by (g' := (mkF m 7 #[.val (.int u1), .val (.int u2), .val (.int u3), .val (.int u4), .val (.int (3 : Int32)), .unset, .unset] [(.int (3 : Int32))])) (fun t k => XS.iload X0.here hx rfl (hb hby at_5) rfl k) ?_
    obtain ⟨T126, h126, k126, X126, e126, E126, A126, Y126, st126⟩ := newPE X0 hx hZ (hw _ (List.mem_of_getElem? (i := 0) rfl)) e0 (g := (mkF m 7 #[.val (.int u1), .val (.int u2), .val (.int u3), .val (.int u4), .val (.int (3 : Int32)), .unset, .unset] [(.int (3 : Int32))])) rfl (hb hby at_7) rfl (by decide) (cap := 3) (by decide) (by decide) (by decide) (by decide) (ad := "[D") own_ad_double
    obtain ⟨b126, g126⟩ : ∃ z, z = h0.size := ⟨_, rfl⟩
    rw [← g126] at A126 Y126 st126
    have sz_b126 : h0.size ≤ b126 := Nat.le_trans (Nat.le_refl _) (Nat.le_of_eq g126.symm)
    have g_b126 : n0 ≤ b126 := Nat.le_trans Z0 sz_b126
    have V126 : Arv Z h126 b126 k126 .double (3 : Int32) [(.double 0), (.double 0), (.double 0)] (.double 0) := (Arv.new A126 (by decide)).pad (pad_rep [] (.double 0) 3)
    refine own_by (g' := (mkF m 9 #[.val (.int u1), .val (.int u2), .val (.int u3), .val (.int u4), .val (.int (3 : Int32)), .unset, .unset] [(.ref b126)])) st126 ?_
    refine own_by (g' := (mkF m 11 #[.val (.int u1), .val (.int u2), .val (.int u3), .val (.int u4), .val (.int (3 : Int32)), .val (.ref b126), .unset] [])) (fun t k => XS.astore X126.here hx rfl (hb hby at_9) rfl rfl (l' := #[.val (.int u1), .val (.int u2), .val (.int u3), .val (.int u4), .val (.int (3 : Int32)), .val (.ref b126), .unset]) rfl k) ?_
    refine own_by (g' := (mkF m 13 #[.val (.int u1), .val (.int u2), .val (.int u3), .val (.int u4), .val (.int (3 : Int32)), .val (.ref b126), .unset] [(.int (3 : Int32))])) (fun t k => XS.iload X126.here hx rfl (hb hby at_11) rfl k) ?_
    refine own_by (g' := (mkF m 16 #[.val (.int u1), .val (.int u2), .val (.int u3), .val (.int u4), .val (.int (3 : Int32)), .val (.ref b126), .unset] [])) (fun t k => XS.ifNo X126.here hx rfl (hb hby at_13) rfl ((if0 _ _).trans (tlt (by decide : (0 : Int32) < (3 : Int32))).2.2.2) k) ?_
    refine own_by (g' := (mkF m 18 #[.val (.int u1), .val (.int u2), .val (.int u3), .val (.int u4), .val (.int (3 : Int32)), .val (.ref b126), .unset] [(.ref b126)])) (fun t k => XS.aload X126.here hx rfl (hb hby at_16) rfl rfl k) ?_
    refine own_by (g' := (mkF m 19 #[.val (.int u1), .val (.int u2), .val (.int u3), .val (.int u4), .val (.int (3 : Int32)), .val (.ref b126), .unset] [(.int (0 : Int32)), (.ref b126)])) (fun t k => XS.iconst X126.here hx rfl (hb hby at_18) k) ?_
    refine own_by (g' := (mkF m 20 #[.val (.int u1), .val (.int u2), .val (.int u3), .val (.int u4), .val (.int (3 : Int32)), .val (.ref b126), .unset] [(.int u2), (.int (0 : Int32)), (.ref b126)])) (fun t k => XS.iloadN X126.here hx rfl (hb hby at_19) rfl k) ?_
    refine own_callS X126 hx hZ hown (hw _ (List.mem_of_getElem? (i := 5) rfl)) (hw _ (List.mem_of_getElem? (i := 6) rfl)) (hw _ (List.mem_of_getElem? (i := 7) rfl)) (hw _ (List.mem_of_getElem? (i := 8) rfl)) (by decide) (own_cval l Z a0 hw [] (u2) h126 n0 (Nat.le_trans Z0 E126.1) ) 2 (by decide) (by decide) (by decide) (by decide) e126 (g := (mkF m 20 #[.val (.int u1), .val (.int u2), .val (.int u3), .val (.int u4), .val (.int (3 : Int32)), .val (.ref b126), .unset] [(.int u2), (.int (0 : Int32)), (.ref b126)])) rfl (by rw [hml]; rfl) (argsL := [(.int u2)]) (rest := [(.int (0 : Int32)), (.ref b126)]) (lenOf own_pd1 rfl) rfl (by show 2 * 0 + _ ≤ _; exact Nat.le_of_eq rfl) (hb hby at_20) ?_
    intro v127 T127 L127 X127 q127
    obtain ⟨rfl, N127q, e127⟩ := q127
    have N127 := Fr.app N0 N127q
    show own_Goes p e below s _ _ _ T127 (mkF m 23 #[.val (.int u1), .val (.int u2), .val (.int u3), .val (.int u4), .val (.int (3 : Int32)), .val (.ref b126), .unset] [(.double (own_val u2)), (.int (0 : Int32)), (.ref b126)])
    obtain ⟨c128, Ar128, q128, S128, G128, H128, F128⟩ := id V126
    have hin128 : ¬ ((0 : Int32) < 0 ∨ c128.slots.size ≤ ((0 : Int32)).toNatClampNeg) := inb_of S128 ⟨by decide, by decide⟩
    obtain ⟨T128, h128, X128, e128, W128, st128⟩ := stD X127 hx hZ e127 Ar128 (j := (0 : Int32)) hin128 (g := (mkF m 23 #[.val (.int u1), .val (.int u2), .val (.int u3), .val (.int u4), .val (.int (3 : Int32)), .val (.ref b126), .unset] [(.double (own_val u2)), (.int (0 : Int32)), (.ref b126)])) rfl rfl (hb hby at_23)
    have V129 : Arv Z h128 b126 k126 .double (3 : Int32) [(.double (own_val u2)), (.double 0), (.double 0)] (.double 0) := Arv.set Ar128 q128 S128 G128 H128 F128 rfl W128 0 rfl (Nat.le_of_ble_eq_true rfl)
    have N128 := Fr.snoc X128 N127 g_b126
    refine own_by (g' := (mkF m 24 #[.val (.int u1), .val (.int u2), .val (.int u3), .val (.int u4), .val (.int (3 : Int32)), .val (.ref b126), .unset] [])) st128 ?_
    refine own_by (g' := (mkF m 26 #[.val (.int u1), .val (.int u2), .val (.int u3), .val (.int u4), .val (.int (3 : Int32)), .val (.ref b126), .unset] [(.int (3 : Int32))])) (fun t k => XS.iload X128.here hx rfl (hb hby at_24) rfl k) ?_
    refine own_by (g' := (mkF m 27 #[.val (.int u1), .val (.int u2), .val (.int u3), .val (.int u4), .val (.int (3 : Int32)), .val (.ref b126), .unset] [(.int (1 : Int32)), (.int (3 : Int32))])) (fun t k => XS.iconst X128.here hx rfl (hb hby at_26) k) ?_
    refine own_by (g' := (mkF m 30 #[.val (.int u1), .val (.int u2), .val (.int u3), .val (.int u4), .val (.int (3 : Int32)), .val (.ref b126), .unset] [])) (fun t k => XS.icmpNo X128.here hx rfl (hb hby at_27) rfl (tlt (by decide : (1 : Int32) < (3 : Int32))).2.2.2 k) ?_
    refine own_by (g' := (mkF m 32 #[.val (.int u1), .val (.int u2), .val (.int u3), .val (.int u4), .val (.int (3 : Int32)), .val (.ref b126), .unset] [(.ref b126)])) (fun t k => XS.aload X128.here hx rfl (hb hby at_30) rfl rfl k) ?_
    refine own_by (g' := (mkF m 33 #[.val (.int u1), .val (.int u2), .val (.int u3), .val (.int u4), .val (.int (3 : Int32)), .val (.ref b126), .unset] [(.int (1 : Int32)), (.ref b126)])) (fun t k => XS.iconst X128.here hx rfl (hb hby at_32) k) ?_
    refine own_by (g' := (mkF m 34 #[.val (.int u1), .val (.int u2), .val (.int u3), .val (.int u4), .val (.int (3 : Int32)), .val (.ref b126), .unset] [(.int u3), (.int (1 : Int32)), (.ref b126)])) (fun t k => XS.iloadN X128.here hx rfl (hb hby at_33) rfl k) ?_
    refine own_callS X128 hx hZ hown (hw _ (List.mem_of_getElem? (i := 5) rfl)) (hw _ (List.mem_of_getElem? (i := 6) rfl)) (hw _ (List.mem_of_getElem? (i := 7) rfl)) (hw _ (List.mem_of_getElem? (i := 8) rfl)) (by decide) (own_cval l Z a0 hw [] (u3) h128 n0 (Nat.le_trans Z0 (Nat.le_trans E126.1 (Nat.le_of_eq W128.size.symm))) ) 2 (by decide) (by decide) (by decide) (by decide) e128 (g := (mkF m 34 #[.val (.int u1), .val (.int u2), .val (.int u3), .val (.int u4), .val (.int (3 : Int32)), .val (.ref b126), .unset] [(.int u3), (.int (1 : Int32)), (.ref b126)])) rfl (by rw [hml]; rfl) (argsL := [(.int u3)]) (rest := [(.int (1 : Int32)), (.ref b126)]) (lenOf own_pd1 rfl) rfl (by show 2 * 0 + _ ≤ _; exact Nat.le_of_eq rfl) (hb hby at_34) ?_
    intro v130 T130 L130 X130 q130
    obtain ⟨rfl, N130q, e130⟩ := q130
    have N130 := Fr.app N128 N130q
    show own_Goes p e below s _ _ _ T130 (mkF m 37 #[.val (.int u1), .val (.int u2), .val (.int u3), .val (.int u4), .val (.int (3 : Int32)), .val (.ref b126), .unset] [(.double (own_val u3)), (.int (1 : Int32)), (.ref b126)])
    obtain ⟨c131, Ar131, q131, S131, G131, H131, F131⟩ := id V129
    have hin131 : ¬ ((1 : Int32) < 0 ∨ c131.slots.size ≤ ((1 : Int32)).toNatClampNeg) := inb_of S131 ⟨by decide, by decide⟩
    obtain ⟨T131, h131, X131, e131, W131, st131⟩ := stD X130 hx hZ e130 Ar131 (j := (1 : Int32)) hin131 (g := (mkF m 37 #[.val (.int u1), .val (.int u2), .val (.int u3), .val (.int u4), .val (.int (3 : Int32)), .val (.ref b126), .unset] [(.double (own_val u3)), (.int (1 : Int32)), (.ref b126)])) rfl rfl (hb hby at_37)
    have V132 : Arv Z h131 b126 k126 .double (3 : Int32) [(.double (own_val u2)), (.double (own_val u3)), (.double 0)] (.double 0) := Arv.set Ar131 q131 S131 G131 H131 F131 rfl W131 1 rfl (Nat.le_of_ble_eq_true rfl)
    have N131 := Fr.snoc X131 N130 g_b126
    refine own_by (g' := (mkF m 38 #[.val (.int u1), .val (.int u2), .val (.int u3), .val (.int u4), .val (.int (3 : Int32)), .val (.ref b126), .unset] [])) st131 ?_
    refine own_by (g' := (mkF m 40 #[.val (.int u1), .val (.int u2), .val (.int u3), .val (.int u4), .val (.int (3 : Int32)), .val (.ref b126), .unset] [(.int (3 : Int32))])) (fun t k => XS.iload X131.here hx rfl (hb hby at_38) rfl k) ?_
    refine own_by (g' := (mkF m 41 #[.val (.int u1), .val (.int u2), .val (.int u3), .val (.int u4), .val (.int (3 : Int32)), .val (.ref b126), .unset] [(.int (2 : Int32)), (.int (3 : Int32))])) (fun t k => XS.iconst X131.here hx rfl (hb hby at_40) k) ?_
    refine own_by (g' := (mkF m 44 #[.val (.int u1), .val (.int u2), .val (.int u3), .val (.int u4), .val (.int (3 : Int32)), .val (.ref b126), .unset] [])) (fun t k => XS.icmpNo X131.here hx rfl (hb hby at_41) rfl (tlt (by decide : (2 : Int32) < (3 : Int32))).2.2.2 k) ?_
    refine own_by (g' := (mkF m 46 #[.val (.int u1), .val (.int u2), .val (.int u3), .val (.int u4), .val (.int (3 : Int32)), .val (.ref b126), .unset] [(.ref b126)])) (fun t k => XS.aload X131.here hx rfl (hb hby at_44) rfl rfl k) ?_
    refine own_by (g' := (mkF m 47 #[.val (.int u1), .val (.int u2), .val (.int u3), .val (.int u4), .val (.int (3 : Int32)), .val (.ref b126), .unset] [(.int (2 : Int32)), (.ref b126)])) (fun t k => XS.iconst X131.here hx rfl (hb hby at_46) k) ?_
    refine own_by (g' := (mkF m 48 #[.val (.int u1), .val (.int u2), .val (.int u3), .val (.int u4), .val (.int (3 : Int32)), .val (.ref b126), .unset] [(.int u4), (.int (2 : Int32)), (.ref b126)])) (fun t k => XS.iloadN X131.here hx rfl (hb hby at_47) rfl k) ?_
    refine own_callS X131 hx hZ hown (hw _ (List.mem_of_getElem? (i := 5) rfl)) (hw _ (List.mem_of_getElem? (i := 6) rfl)) (hw _ (List.mem_of_getElem? (i := 7) rfl)) (hw _ (List.mem_of_getElem? (i := 8) rfl)) (by decide) (own_cval l Z a0 hw [] (u4) h131 n0 (Nat.le_trans Z0 (Nat.le_trans (Nat.le_trans E126.1 (Nat.le_of_eq W128.size.symm)) (Nat.le_of_eq W131.size.symm))) ) 2 (by decide) (by decide) (by decide) (by decide) e131 (g := (mkF m 48 #[.val (.int u1), .val (.int u2), .val (.int u3), .val (.int u4), .val (.int (3 : Int32)), .val (.ref b126), .unset] [(.int u4), (.int (2 : Int32)), (.ref b126)])) rfl (by rw [hml]; rfl) (argsL := [(.int u4)]) (rest := [(.int (2 : Int32)), (.ref b126)]) (lenOf own_pd1 rfl) rfl (by show 2 * 0 + _ ≤ _; exact Nat.le_of_eq rfl) (hb hby at_48) ?_
    intro v133 T133 L133 X133 q133
    obtain ⟨rfl, N133q, e133⟩ := q133
    have N133 := Fr.app N131 N133q
    show own_Goes p e below s _ _ _ T133 (mkF m 51 #[.val (.int u1), .val (.int u2), .val (.int u3), .val (.int u4), .val (.int (3 : Int32)), .val (.ref b126), .unset] [(.double (own_val u4)), (.int (2 : Int32)), (.ref b126)])
    obtain ⟨c134, Ar134, q134, S134, G134, H134, F134⟩ := id V132
    have hin134 : ¬ ((2 : Int32) < 0 ∨ c134.slots.size ≤ ((2 : Int32)).toNatClampNeg) := inb_of S134 ⟨by decide, by decide⟩
    obtain ⟨T134, h134, X134, e134, W134, st134⟩ := stD X133 hx hZ e133 Ar134 (j := (2 : Int32)) hin134 (g := (mkF m 51 #[.val (.int u1), .val (.int u2), .val (.int u3), .val (.int u4), .val (.int (3 : Int32)), .val (.ref b126), .unset] [(.double (own_val u4)), (.int (2 : Int32)), (.ref b126)])) rfl rfl (hb hby at_51)
    have V135 : Arv Z h134 b126 k126 .double (3 : Int32) [(.double (own_val u2)), (.double (own_val u3)), (.double (own_val u4))] (.double 0) := Arv.set Ar134 q134 S134 G134 H134 F134 rfl W134 2 rfl (Nat.le_of_ble_eq_true rfl)
    have N134 := Fr.snoc X134 N133 g_b126
    refine own_by (g' := (mkF m 52 #[.val (.int u1), .val (.int u2), .val (.int u3), .val (.int u4), .val (.int (3 : Int32)), .val (.ref b126), .unset] [])) st134 ?_
    refine own_by (g' := (mkF m 54 #[.val (.int u1), .val (.int u2), .val (.int u3), .val (.int u4), .val (.int (3 : Int32)), .val (.ref b126), .unset] [(.int (3 : Int32))])) (fun t k => XS.iload X134.here hx rfl (hb hby at_52) rfl k) ?_
    refine own_by (g' := (mkF m 55 #[.val (.int u1), .val (.int u2), .val (.int u3), .val (.int u4), .val (.int (3 : Int32)), .val (.ref b126), .unset] [(.int (1 : Int32)), (.int (3 : Int32))])) (fun t k => XS.iconst X134.here hx rfl (hb hby at_54) k) ?_
    refine own_by (g' := (mkF m 58 #[.val (.int u1), .val (.int u2), .val (.int u3), .val (.int u4), .val (.int (3 : Int32)), .val (.ref b126), .unset] [])) (fun t k => XS.icmpNo X134.here hx rfl (hb hby at_55) rfl (flt (by decide : ¬ ((3 : Int32) < (1 : Int32)))).1 k) ?_
    refine own_by (g' := (mkF m 59 #[.val (.int u1), .val (.int u2), .val (.int u3), .val (.int u4), .val (.int (3 : Int32)), .val (.ref b126), .unset] [(.int u2)])) (fun t k => XS.iloadN X134.here hx rfl (hb hby at_58) rfl k) ?_
    refine own_callS X134 hx hZ hown (hw _ (List.mem_of_getElem? (i := 9) rfl)) (hw _ (List.mem_of_getElem? (i := 10) rfl)) (hw _ (List.mem_of_getElem? (i := 7) rfl)) (hw _ (List.mem_of_getElem? (i := 11) rfl)) (by decide) (own_cisz l Z a0 hw [] (u2) h134 n0 (Nat.le_trans Z0 (Nat.le_trans (Nat.le_trans (Nat.le_trans E126.1 (Nat.le_of_eq W128.size.symm)) (Nat.le_of_eq W131.size.symm)) (Nat.le_of_eq W134.size.symm))) ) 0 (by decide) (by decide) (by decide) (by decide) e134 (g := (mkF m 59 #[.val (.int u1), .val (.int u2), .val (.int u3), .val (.int u4), .val (.int (3 : Int32)), .val (.ref b126), .unset] [(.int u2)])) rfl (by rw [hml]; rfl) (argsL := [(.int u2)]) (rest := []) (lenOf own_pd2 rfl) rfl (by show 2 * 0 + _ ≤ _; exact Nat.le_of_eq rfl) (hb hby at_59) ?_
    intro v136 T136 L136 X136 q136
    obtain ⟨rfl, N136q, e136⟩ := q136
    have N136 := Fr.app N134 N136q
    show own_Goes p e below s _ _ _ T136 (mkF m 62 #[.val (.int u1), .val (.int u2), .val (.int u3), .val (.int u4), .val (.int (3 : Int32)), .val (.ref b126), .unset] [(.int (own_isz u2))])
    by_cases hc137 : (own_isz u2) = (0 : Int32)
    ·
      refine own_by (g' := (mkF m 95 #[.val (.int u1), .val (.int u2), .val (.int u3), .val (.int u4), .val (.int (3 : Int32)), .val (.ref b126), .unset] [])) (fun t k => XS.ifYes X136.here hx rfl (pc0 := 62) (pc' := 95) rfl (hb hby at_62) rfl ((if0 _ _).trans (teq hc137).1) (by decide) (by decide) k) ?_
      refine own_by (g' := (mkF m 96 #[.val (.int u1), .val (.int u2), .val (.int u3), .val (.int u4), .val (.int (3 : Int32)), .val (.ref b126), .unset] [(.int (0 : Int32))])) (fun t k => XS.iconst X136.here hx rfl (hb hby at_95) k) ?_
      refine own_by (g' := (mkF m 98 #[.val (.int u1), .val (.int u2), .val (.int u3), .val (.int u4), .val (.int (3 : Int32)), .val (.ref b126), .val (.int (0 : Int32))] [])) (fun t k => XS.istore X136.here hx rfl (hb hby at_96) rfl (l' := #[.val (.int u1), .val (.int u2), .val (.int u3), .val (.int u4), .val (.int (3 : Int32)), .val (.ref b126), .val (.int (0 : Int32))]) rfl k) ?_
      refine own_by (g' := (mkF m 100 #[.val (.int u1), .val (.int u2), .val (.int u3), .val (.int u4), .val (.int (3 : Int32)), .val (.ref b126), .val (.int (0 : Int32))] [(.ref b126)])) (fun t k => XS.aload X136.here hx rfl (hb hby at_98) rfl rfl k) ?_
      refine own_callS X136 hx hZ hown (hw _ (List.mem_of_getElem? (i := 1) rfl)) (hw _ (List.mem_of_getElem? (i := 2) rfl)) (hw _ (List.mem_of_getElem? (i := 3) rfl)) (hw _ (List.mem_of_getElem? (i := 4) rfl)) (by decide) (own_caz3 l Z a0 hw [] (b126) (k126) ((own_val u2)) ((own_val u3)) ((own_val u4)) h134 n0 (Nat.le_trans Z0 (Nat.le_trans (Nat.le_trans (Nat.le_trans E126.1 (Nat.le_of_eq W128.size.symm)) (Nat.le_of_eq W131.size.symm)) (Nat.le_of_eq W134.size.symm))) V135) 0 (by decide) (by decide) (by decide) (by decide) e136 (g := (mkF m 100 #[.val (.int u1), .val (.int u2), .val (.int u3), .val (.int u4), .val (.int (3 : Int32)), .val (.ref b126), .val (.int (0 : Int32))] [(.ref b126)])) rfl (by rw [hml]; rfl) (argsL := [(.ref b126)]) (rest := []) (lenOf own_pd0 rfl) rfl (by show 2 * 0 + _ ≤ _; exact Nat.le_of_eq rfl) (hb hby at_100) ?_
      intro v138 T138 L138 X138 q138
      obtain ⟨rfl, N138q, e138⟩ := q138
      have N138 := Fr.app N136 N138q
      show own_Goes p e below s _ _ _ T138 (mkF m 103 #[.val (.int u1), .val (.int u2), .val (.int u3), .val (.int u4), .val (.int (3 : Int32)), .val (.ref b126), .val (.int (0 : Int32))] [(.int (own_az3 (own_val u2) (own_val u3) (own_val u4)))])
      refine own_by (g' := (mkF m 105 #[.val (.int u1), .val (.int u2), .val (.int u3), .val (.int u4), .val (.int (3 : Int32)), .val (.ref b126), .val (.int (0 : Int32))] [(.int (0 : Int32)), (.int (own_az3 (own_val u2) (own_val u3) (own_val u4)))])) (fun t k => XS.iload X138.here hx rfl (hb hby at_103) rfl k) ?_
      refine own_by (g' := (mkF m 108 #[.val (.int u1), .val (.int u2), .val (.int u3), .val (.int u4), .val (.int (3 : Int32)), .val (.ref b126), .val (.int (0 : Int32))] [])) (fun t k => XS.icmpNo X138.here hx rfl (hb hby at_105) rfl (teq (by simp [own_az1, own_az2, own_az3, own_vz, hc137])).2 k) ?_
      refine own_by (g' := (mkF m 109 #[.val (.int u1), .val (.int u2), .val (.int u3), .val (.int u4), .val (.int (3 : Int32)), .val (.ref b126), .val (.int (0 : Int32))] [(.int (1 : Int32))])) (fun t k => XS.iconst X138.here hx rfl (hb hby at_108) k) ?_
      refine own_by (g' := (mkF m 113 #[.val (.int u1), .val (.int u2), .val (.int u3), .val (.int u4), .val (.int (3 : Int32)), .val (.ref b126), .val (.int (0 : Int32))] [(.int (1 : Int32))])) (fun t k => XS.goto X138.here hx rfl (pc0 := 109) (pc' := 113) rfl (hb hby at_109) (by decide) (by decide) k) ?_
      refine own_retN X138 hx hlk hret (t := .boolean) (by simp) (hb hby at_113) (by decide) (by decide) ?_
      rw [e138]
      exact ⟨rfl, N138, (((((Keep.refl h0 []).ext E126).wr W128 (Or.inr sz_b126)).wr W131 (Or.inr sz_b126)).wr W134 (Or.inr sz_b126))⟩
    ·
      refine own_by (g' := (mkF m 65 #[.val (.int u1), .val (.int u2), .val (.int u3), .val (.int u4), .val (.int (3 : Int32)), .val (.ref b126), .unset] [])) (fun t k => XS.ifNo X136.here hx rfl (hb hby at_62) rfl ((if0 _ _).trans (feq hc137).1) k) ?_
      refine own_by (g' := (mkF m 67 #[.val (.int u1), .val (.int u2), .val (.int u3), .val (.int u4), .val (.int (3 : Int32)), .val (.ref b126), .unset] [(.int (3 : Int32))])) (fun t k => XS.iload X136.here hx rfl (hb hby at_65) rfl k) ?_
      refine own_by (g' := (mkF m 68 #[.val (.int u1), .val (.int u2), .val (.int u3), .val (.int u4), .val (.int (3 : Int32)), .val (.ref b126), .unset] [(.int (2 : Int32)), (.int (3 : Int32))])) (fun t k => XS.iconst X136.here hx rfl (hb hby at_67) k) ?_
      refine own_by (g' := (mkF m 71 #[.val (.int u1), .val (.int u2), .val (.int u3), .val (.int u4), .val (.int (3 : Int32)), .val (.ref b126), .unset] [])) (fun t k => XS.icmpNo X136.here hx rfl (hb hby at_68) rfl (flt (by decide : ¬ ((3 : Int32) < (2 : Int32)))).1 k) ?_
      refine own_by (g' := (mkF m 72 #[.val (.int u1), .val (.int u2), .val (.int u3), .val (.int u4), .val (.int (3 : Int32)), .val (.ref b126), .unset] [(.int u3)])) (fun t k => XS.iloadN X136.here hx rfl (hb hby at_71) rfl k) ?_
      refine own_callS X136 hx hZ hown (hw _ (List.mem_of_getElem? (i := 9) rfl)) (hw _ (List.mem_of_getElem? (i := 10) rfl)) (hw _ (List.mem_of_getElem? (i := 7) rfl)) (hw _ (List.mem_of_getElem? (i := 11) rfl)) (by decide) (own_cisz l Z a0 hw [] (u3) h134 n0 (Nat.le_trans Z0 (Nat.le_trans (Nat.le_trans (Nat.le_trans E126.1 (Nat.le_of_eq W128.size.symm)) (Nat.le_of_eq W131.size.symm)) (Nat.le_of_eq W134.size.symm))) ) 0 (by decide) (by decide) (by decide) (by decide) e136 (g := (mkF m 72 #[.val (.int u1), .val (.int u2), .val (.int u3), .val (.int u4), .val (.int (3 : Int32)), .val (.ref b126), .unset] [(.int u3)])) rfl (by rw [hml]; rfl) (argsL := [(.int u3)]) (rest := []) (lenOf own_pd2 rfl) rfl (by show 2 * 0 + _ ≤ _; exact Nat.le_of_eq rfl) (hb hby at_72) ?_
      intro v139 T139 L139 X139 q139
      obtain ⟨rfl, N139q, e139⟩ := q139
      have N139 := Fr.app N136 N139q
      show own_Goes p e below s _ _ _ T139 (mkF m 75 #[.val (.int u1), .val (.int u2), .val (.int u3), .val (.int u4), .val (.int (3 : Int32)), .val (.ref b126), .unset] [(.int (own_isz u3))])
      by_cases hc140 : (own_isz u3) = (0 : Int32)
      ·
        refine own_by (g' := (mkF m 95 #[.val (.int u1), .val (.int u2), .val (.int u3), .val (.int u4), .val (.int (3 : Int32)), .val (.ref b126), .unset] [])) (fun t k => XS.ifYes X139.here hx rfl (pc0 := 75) (pc' := 95) rfl (hb hby at_75) rfl ((if0 _ _).trans (teq hc140).1) (by decide) (by decide) k) ?_
        refine own_by (g' := (mkF m 96 #[.val (.int u1), .val (.int u2), .val (.int u3), .val (.int u4), .val (.int (3 : Int32)), .val (.ref b126), .unset] [(.int (0 : Int32))])) (fun t k => XS.iconst X139.here hx rfl (hb hby at_95) k) ?_
        refine own_by (g' := (mkF m 98 #[.val (.int u1), .val (.int u2), .val (.int u3), .val (.int u4), .val (.int (3 : Int32)), .val (.ref b126), .val (.int (0 : Int32))] [])) (fun t k => XS.istore X139.here hx rfl (hb hby at_96) rfl (l' := #[.val (.int u1), .val (.int u2), .val (.int u3), .val (.int u4), .val (.int (3 : Int32)), .val (.ref b126), .val (.int (0 : Int32))]) rfl k) ?_
        refine own_by (g' := (mkF m 100 #[.val (.int u1), .val (.int u2), .val (.int u3), .val (.int u4), .val (.int (3 : Int32)), .val (.ref b126), .val (.int (0 : Int32))] [(.ref b126)])) (fun t k => XS.aload X139.here hx rfl (hb hby at_98) rfl rfl k) ?_
        refine own_callS X139 hx hZ hown (hw _ (List.mem_of_getElem? (i := 1) rfl)) (hw _ (List.mem_of_getElem? (i := 2) rfl)) (hw _ (List.mem_of_getElem? (i := 3) rfl)) (hw _ (List.mem_of_getElem? (i := 4) rfl)) (by decide) (own_caz3 l Z a0 hw [] (b126) (k126) ((own_val u2)) ((own_val u3)) ((own_val u4)) h134 n0 (Nat.le_trans Z0 (Nat.le_trans (Nat.le_trans (Nat.le_trans E126.1 (Nat.le_of_eq W128.size.symm)) (Nat.le_of_eq W131.size.symm)) (Nat.le_of_eq W134.size.symm))) V135) 0 (by decide) (by decide) (by decide) (by decide) e139 (g := (mkF m 100 #[.val (.int u1), .val (.int u2), .val (.int u3), .val (.int u4), .val (.int (3 : Int32)), .val (.ref b126), .val (.int (0 : Int32))] [(.ref b126)])) rfl (by rw [hml]; rfl) (argsL := [(.ref b126)]) (rest := []) (lenOf own_pd0 rfl) rfl (by show 2 * 0 + _ ≤ _; exact Nat.le_of_eq rfl) (hb hby at_100) ?_
        intro v141 T141 L141 X141 q141
        obtain ⟨rfl, N141q, e141⟩ := q141
        have N141 := Fr.app N139 N141q
        show own_Goes p e below s _ _ _ T141 (mkF m 103 #[.val (.int u1), .val (.int u2), .val (.int u3), .val (.int u4), .val (.int (3 : Int32)), .val (.ref b126), .val (.int (0 : Int32))] [(.int (own_az3 (own_val u2) (own_val u3) (own_val u4)))])
        refine own_by (g' := (mkF m 105 #[.val (.int u1), .val (.int u2), .val (.int u3), .val (.int u4), .val (.int (3 : Int32)), .val (.ref b126), .val (.int (0 : Int32))] [(.int (0 : Int32)), (.int (own_az3 (own_val u2) (own_val u3) (own_val u4)))])) (fun t k => XS.iload X141.here hx rfl (hb hby at_103) rfl k) ?_
        refine own_by (g' := (mkF m 108 #[.val (.int u1), .val (.int u2), .val (.int u3), .val (.int u4), .val (.int (3 : Int32)), .val (.ref b126), .val (.int (0 : Int32))] [])) (fun t k => XS.icmpNo X141.here hx rfl (hb hby at_105) rfl (teq (by simp [own_az1, own_az2, own_az3, own_vz, hc137, hc140])).2 k) ?_
        refine own_by (g' := (mkF m 109 #[.val (.int u1), .val (.int u2), .val (.int u3), .val (.int u4), .val (.int (3 : Int32)), .val (.ref b126), .val (.int (0 : Int32))] [(.int (1 : Int32))])) (fun t k => XS.iconst X141.here hx rfl (hb hby at_108) k) ?_
        refine own_by (g' := (mkF m 113 #[.val (.int u1), .val (.int u2), .val (.int u3), .val (.int u4), .val (.int (3 : Int32)), .val (.ref b126), .val (.int (0 : Int32))] [(.int (1 : Int32))])) (fun t k => XS.goto X141.here hx rfl (pc0 := 109) (pc' := 113) rfl (hb hby at_109) (by decide) (by decide) k) ?_
        refine own_retN X141 hx hlk hret (t := .boolean) (by simp) (hb hby at_113) (by decide) (by decide) ?_
        rw [e141]
        exact ⟨rfl, N141, (((((Keep.refl h0 []).ext E126).wr W128 (Or.inr sz_b126)).wr W131 (Or.inr sz_b126)).wr W134 (Or.inr sz_b126))⟩
      ·
        refine own_by (g' := (mkF m 78 #[.val (.int u1), .val (.int u2), .val (.int u3), .val (.int u4), .val (.int (3 : Int32)), .val (.ref b126), .unset] [])) (fun t k => XS.ifNo X139.here hx rfl (hb hby at_75) rfl ((if0 _ _).trans (feq hc140).1) k) ?_
        refine own_by (g' := (mkF m 80 #[.val (.int u1), .val (.int u2), .val (.int u3), .val (.int u4), .val (.int (3 : Int32)), .val (.ref b126), .unset] [(.int (3 : Int32))])) (fun t k => XS.iload X139.here hx rfl (hb hby at_78) rfl k) ?_
        refine own_by (g' := (mkF m 81 #[.val (.int u1), .val (.int u2), .val (.int u3), .val (.int u4), .val (.int (3 : Int32)), .val (.ref b126), .unset] [(.int (3 : Int32)), (.int (3 : Int32))])) (fun t k => XS.iconst X139.here hx rfl (hb hby at_80) k) ?_
        refine own_by (g' := (mkF m 84 #[.val (.int u1), .val (.int u2), .val (.int u3), .val (.int u4), .val (.int (3 : Int32)), .val (.ref b126), .unset] [])) (fun t k => XS.icmpNo X139.here hx rfl (hb hby at_81) rfl (flt (by decide : ¬ ((3 : Int32) < (3 : Int32)))).1 k) ?_
        refine own_by (g' := (mkF m 85 #[.val (.int u1), .val (.int u2), .val (.int u3), .val (.int u4), .val (.int (3 : Int32)), .val (.ref b126), .unset] [(.int u4)])) (fun t k => XS.iloadN X139.here hx rfl (hb hby at_84) rfl k) ?_
        refine own_callS X139 hx hZ hown (hw _ (List.mem_of_getElem? (i := 9) rfl)) (hw _ (List.mem_of_getElem? (i := 10) rfl)) (hw _ (List.mem_of_getElem? (i := 7) rfl)) (hw _ (List.mem_of_getElem? (i := 11) rfl)) (by decide) (own_cisz l Z a0 hw [] (u4) h134 n0 (Nat.le_trans Z0 (Nat.le_trans (Nat.le_trans (Nat.le_trans E126.1 (Nat.le_of_eq W128.size.symm)) (Nat.le_of_eq W131.size.symm)) (Nat.le_of_eq W134.size.symm))) ) 0 (by decide) (by decide) (by decide) (by decide) e139 (g := (mkF m 85 #[.val (.int u1), .val (.int u2), .val (.int u3), .val (.int u4), .val (.int (3 : Int32)), .val (.ref b126), .unset] [(.int u4)])) rfl (by rw [hml]; rfl) (argsL := [(.int u4)]) (rest := []) (lenOf own_pd2 rfl) rfl (by show 2 * 0 + _ ≤ _; exact Nat.le_of_eq rfl) (hb hby at_85) ?_
        intro v142 T142 L142 X142 q142
        obtain ⟨rfl, N142q, e142⟩ := q142
        have N142 := Fr.app N139 N142q
        show own_Goes p e below s _ _ _ T142 (mkF m 88 #[.val (.int u1), .val (.int u2), .val (.int u3), .val (.int u4), .val (.int (3 : Int32)), .val (.ref b126), .unset] [(.int (own_isz u4))])
        by_cases hc143 : (own_isz u4) = (0 : Int32)
        ·
          refine own_by (g' := (mkF m 95 #[.val (.int u1), .val (.int u2), .val (.int u3), .val (.int u4), .val (.int (3 : Int32)), .val (.ref b126), .unset] [])) (fun t k => XS.ifYes X142.here hx rfl (pc0 := 88) (pc' := 95) rfl (hb hby at_88) rfl ((if0 _ _).trans (teq hc143).1) (by decide) (by decide) k) ?_
          refine own_by (g' := (mkF m 96 #[.val (.int u1), .val (.int u2), .val (.int u3), .val (.int u4), .val (.int (3 : Int32)), .val (.ref b126), .unset] [(.int (0 : Int32))])) (fun t k => XS.iconst X142.here hx rfl (hb hby at_95) k) ?_
          refine own_by (g' := (mkF m 98 #[.val (.int u1), .val (.int u2), .val (.int u3), .val (.int u4), .val (.int (3 : Int32)), .val (.ref b126), .val (.int (0 : Int32))] [])) (fun t k => XS.istore X142.here hx rfl (hb hby at_96) rfl (l' := #[.val (.int u1), .val (.int u2), .val (.int u3), .val (.int u4), .val (.int (3 : Int32)), .val (.ref b126), .val (.int (0 : Int32))]) rfl k) ?_
          refine own_by (g' := (mkF m 100 #[.val (.int u1), .val (.int u2), .val (.int u3), .val (.int u4), .val (.int (3 : Int32)), .val (.ref b126), .val (.int (0 : Int32))] [(.ref b126)])) (fun t k => XS.aload X142.here hx rfl (hb hby at_98) rfl rfl k) ?_
          refine own_callS X142 hx hZ hown (hw _ (List.mem_of_getElem? (i := 1) rfl)) (hw _ (List.mem_of_getElem? (i := 2) rfl)) (hw _ (List.mem_of_getElem? (i := 3) rfl)) (hw _ (List.mem_of_getElem? (i := 4) rfl)) (by decide) (own_caz3 l Z a0 hw [] (b126) (k126) ((own_val u2)) ((own_val u3)) ((own_val u4)) h134 n0 (Nat.le_trans Z0 (Nat.le_trans (Nat.le_trans (Nat.le_trans E126.1 (Nat.le_of_eq W128.size.symm)) (Nat.le_of_eq W131.size.symm)) (Nat.le_of_eq W134.size.symm))) V135) 0 (by decide) (by decide) (by decide) (by decide) e142 (g := (mkF m 100 #[.val (.int u1), .val (.int u2), .val (.int u3), .val (.int u4), .val (.int (3 : Int32)), .val (.ref b126), .val (.int (0 : Int32))] [(.ref b126)])) rfl (by rw [hml]; rfl) (argsL := [(.ref b126)]) (rest := []) (lenOf own_pd0 rfl) rfl (by show 2 * 0 + _ ≤ _; exact Nat.le_of_eq rfl) (hb hby at_100) ?_
          intro v144 T144 L144 X144 q144
          obtain ⟨rfl, N144q, e144⟩ := q144
          have N144 := Fr.app N142 N144q
          show own_Goes p e below s _ _ _ T144 (mkF m 103 #[.val (.int u1), .val (.int u2), .val (.int u3), .val (.int u4), .val (.int (3 : Int32)), .val (.ref b126), .val (.int (0 : Int32))] [(.int (own_az3 (own_val u2) (own_val u3) (own_val u4)))])
          refine own_by (g' := (mkF m 105 #[.val (.int u1), .val (.int u2), .val (.int u3), .val (.int u4), .val (.int (3 : Int32)), .val (.ref b126), .val (.int (0 : Int32))] [(.int (0 : Int32)), (.int (own_az3 (own_val u2) (own_val u3) (own_val u4)))])) (fun t k => XS.iload X144.here hx rfl (hb hby at_103) rfl k) ?_
          refine own_by (g' := (mkF m 108 #[.val (.int u1), .val (.int u2), .val (.int u3), .val (.int u4), .val (.int (3 : Int32)), .val (.ref b126), .val (.int (0 : Int32))] [])) (fun t k => XS.icmpNo X144.here hx rfl (hb hby at_105) rfl (teq (by simp [own_az1, own_az2, own_az3, own_vz, hc137, hc140, hc143])).2 k) ?_
          refine own_by (g' := (mkF m 109 #[.val (.int u1), .val (.int u2), .val (.int u3), .val (.int u4), .val (.int (3 : Int32)), .val (.ref b126), .val (.int (0 : Int32))] [(.int (1 : Int32))])) (fun t k => XS.iconst X144.here hx rfl (hb hby at_108) k) ?_
          refine own_by (g' := (mkF m 113 #[.val (.int u1), .val (.int u2), .val (.int u3), .val (.int u4), .val (.int (3 : Int32)), .val (.ref b126), .val (.int (0 : Int32))] [(.int (1 : Int32))])) (fun t k => XS.goto X144.here hx rfl (pc0 := 109) (pc' := 113) rfl (hb hby at_109) (by decide) (by decide) k) ?_
          refine own_retN X144 hx hlk hret (t := .boolean) (by simp) (hb hby at_113) (by decide) (by decide) ?_
          rw [e144]
          exact ⟨rfl, N144, (((((Keep.refl h0 []).ext E126).wr W128 (Or.inr sz_b126)).wr W131 (Or.inr sz_b126)).wr W134 (Or.inr sz_b126))⟩
        ·
          refine own_by (g' := (mkF m 91 #[.val (.int u1), .val (.int u2), .val (.int u3), .val (.int u4), .val (.int (3 : Int32)), .val (.ref b126), .unset] [])) (fun t k => XS.ifNo X142.here hx rfl (hb hby at_88) rfl ((if0 _ _).trans (feq hc143).1) k) ?_
          refine own_by (g' := (mkF m 92 #[.val (.int u1), .val (.int u2), .val (.int u3), .val (.int u4), .val (.int (3 : Int32)), .val (.ref b126), .unset] [(.int (1 : Int32))])) (fun t k => XS.iconst X142.here hx rfl (hb hby at_91) k) ?_
          refine own_by (g' := (mkF m 96 #[.val (.int u1), .val (.int u2), .val (.int u3), .val (.int u4), .val (.int (3 : Int32)), .val (.ref b126), .unset] [(.int (1 : Int32))])) (fun t k => XS.goto X142.here hx rfl (pc0 := 92) (pc' := 96) rfl (hb hby at_92) (by decide) (by decide) k) ?_
          refine own_by (g' := (mkF m 98 #[.val (.int u1), .val (.int u2), .val (.int u3), .val (.int u4), .val (.int (3 : Int32)), .val (.ref b126), .val (.int (1 : Int32))] [])) (fun t k => XS.istore X142.here hx rfl (hb hby at_96) rfl (l' := #[.val (.int u1), .val (.int u2), .val (.int u3), .val (.int u4), .val (.int (3 : Int32)), .val (.ref b126), .val (.int (1 : Int32))]) rfl k) ?_
          refine own_by (g' := (mkF m 100 #[.val (.int u1), .val (.int u2), .val (.int u3), .val (.int u4), .val (.int (3 : Int32)), .val (.ref b126), .val (.int (1 : Int32))] [(.ref b126)])) (fun t k => XS.aload X142.here hx rfl (hb hby at_98) rfl rfl k) ?_
          refine own_callS X142 hx hZ hown (hw _ (List.mem_of_getElem? (i := 1) rfl)) (hw _ (List.mem_of_getElem? (i := 2) rfl)) (hw _ (List.mem_of_getElem? (i := 3) rfl)) (hw _ (List.mem_of_getElem? (i := 4) rfl)) (by decide) (own_caz3 l Z a0 hw [] (b126) (k126) ((own_val u2)) ((own_val u3)) ((own_val u4)) h134 n0 (Nat.le_trans Z0 (Nat.le_trans (Nat.le_trans (Nat.le_trans E126.1 (Nat.le_of_eq W128.size.symm)) (Nat.le_of_eq W131.size.symm)) (Nat.le_of_eq W134.size.symm))) V135) 0 (by decide) (by decide) (by decide) (by decide) e142 (g := (mkF m 100 #[.val (.int u1), .val (.int u2), .val (.int u3), .val (.int u4), .val (.int (3 : Int32)), .val (.ref b126), .val (.int (1 : Int32))] [(.ref b126)])) rfl (by rw [hml]; rfl) (argsL := [(.ref b126)]) (rest := []) (lenOf own_pd0 rfl) rfl (by show 2 * 0 + _ ≤ _; exact Nat.le_of_eq rfl) (hb hby at_100) ?_
          intro v145 T145 L145 X145 q145
          obtain ⟨rfl, N145q, e145⟩ := q145
          have N145 := Fr.app N142 N145q
          show own_Goes p e below s _ _ _ T145 (mkF m 103 #[.val (.int u1), .val (.int u2), .val (.int u3), .val (.int u4), .val (.int (3 : Int32)), .val (.ref b126), .val (.int (1 : Int32))] [(.int (own_az3 (own_val u2) (own_val u3) (own_val u4)))])
          refine own_by (g' := (mkF m 105 #[.val (.int u1), .val (.int u2), .val (.int u3), .val (.int u4), .val (.int (3 : Int32)), .val (.ref b126), .val (.int (1 : Int32))] [(.int (1 : Int32)), (.int (own_az3 (own_val u2) (own_val u3) (own_val u4)))])) (fun t k => XS.iload X145.here hx rfl (hb hby at_103) rfl k) ?_
          refine own_by (g' := (mkF m 108 #[.val (.int u1), .val (.int u2), .val (.int u3), .val (.int u4), .val (.int (3 : Int32)), .val (.ref b126), .val (.int (1 : Int32))] [])) (fun t k => XS.icmpNo X145.here hx rfl (hb hby at_105) rfl (teq (by simp [own_az1, own_az2, own_az3, own_vz, hc137, hc140, hc143])).2 k) ?_
          refine own_by (g' := (mkF m 109 #[.val (.int u1), .val (.int u2), .val (.int u3), .val (.int u4), .val (.int (3 : Int32)), .val (.ref b126), .val (.int (1 : Int32))] [(.int (1 : Int32))])) (fun t k => XS.iconst X145.here hx rfl (hb hby at_108) k) ?_
          refine own_by (g' := (mkF m 113 #[.val (.int u1), .val (.int u2), .val (.int u3), .val (.int u4), .val (.int (3 : Int32)), .val (.ref b126), .val (.int (1 : Int32))] [(.int (1 : Int32))])) (fun t k => XS.goto X145.here hx rfl (pc0 := 109) (pc' := 113) rfl (hb hby at_109) (by decide) (by decide) k) ?_
          refine own_retN X145 hx hlk hret (t := .boolean) (by simp) (hb hby at_113) (by decide) (by decide) ?_
          rw [e145]
          exact ⟨rfl, N145, (((((Keep.refl h0 []).ext E126).wr W128 (Or.inr sz_b126)).wr W131 (Or.inr sz_b126)).wr W134 (Or.inr sz_b126))⟩
set_option maxRecDepth 65536 in
set_option maxHeartbeats 40000000 in
theorem comes_1 {Post : Tables → Env → Array Value → State → Outcome → State → Prop} (hpost : ∀ tb e args s v u, (limb_1_1.after args s (.returned v) u = true ∧ limb_1_2.after args s (.returned v) u = true ∧ True) → FrameEnd s (.returned v) u (Jvm.fieldLocs frame_1_writes args s ++ Jvm.arrayLocs frame_1_arrays args s ++ Jvm.staticLocs frame_1_statics s) 16 128 → Post tb e args s (.returned v) u) :
    ArmFor flags0 classFile x code maxLocals ret World_1 tables_1 room_1 Calls_1 rest_1 Pre_1 Post := by
  intro l hfl _ _ p e ha hc hk s m args below hf hA hF happ hP
  obtain ⟨hcalls, hrest, hpre⟩ := hP
  obtain ⟨-, -, -, hnamed, -, -, -, hat⟩ := (Spec.applies_iff hf).mp happ
  obtain ⟨hg, hn⟩ := and_e (Cond.before_iff.mp (show (Jvm.Cond.and given_1 narrow_1).before args s = true from hpre))
  obtain ⟨ga1, gb1⟩ := and_e hg
  obtain ⟨ga2, gb2⟩ := and_e gb1
  obtain ⟨ga3, gb3⟩ := and_e gb2
  obtain ⟨ga4, gb4⟩ := and_e gb3
  obtain ⟨w0, w1, w2, w3, rfl⟩ : ∃ w0 w1 w2 w3 : Value, args = #[w0, w1, w2, w3] := by
    have hs : args.size = 4 := by simpa [Cond.value, given_1] using ga1
    obtain ⟨L⟩ := args
    match L, hs with
    | [w0, w1, w2, w3], _ => exact ⟨w0, w1, w2, w3, rfl⟩
  have hw := fun d (hd : d ∈ tables_1) => atoms_spec (ws := Jvm.Cond.code x code maxLocals ret :: tables_1) hat d (List.mem_cons_of_mem _ hd)
  have hfit : Fit s := fun {y c} hc i hi => by
    obtain ⟨ha, rfl⟩ := Array.getElem?_eq_some_iff.mp hc
    have q := List.all_eq_true.mp ((Array.all_eq_true_iff_forall_mem.mp hF) _ (Array.getElem_mem ha)) i (List.mem_range.mpr hi)
    simpa [Array.getElem?_eq_getElem hi] using q
  obtain ⟨i0, ei0⟩ := is_v ga2
  obtain rfl : w0 = (.int i0) := Option.some.inj ei0
  obtain ⟨i1, ei1⟩ := is_v ga3
  obtain rfl : w1 = (.int i1) := Option.some.inj ei1
  obtain ⟨i2, ei2⟩ := is_v ga4
  obtain rfl : w2 = (.int i2) := Option.some.inj ei2
  obtain ⟨i3, ei3⟩ := is_v gb4
  obtain rfl : w3 = (.int i3) := Option.some.inj ei3
  obtain ⟨n, o, h1, h2, h3, _, L, rfl, ⟨rfl, N, -⟩, hq⟩ := own_law l s _ hw tables_1 i0 i1 i2 i3 s.heap s.heap.size (Nat.le_refl _)  p e ha hc hk s m _ below hf ((Spec.applies_iff_loose hf).mp happ).1 ⟨rfl, State.Warmed39.refl s, rfl⟩ trivial
  exact ⟨n, _, h1, h2, h3, hpost _ _ _ _ _ _ ⟨Cond.after_iff.mpr rfl, Cond.after_iff.mpr (eq_i res_at (Term.int_eval (1)) rfl), trivial⟩ ⟨hq.1, hq.2.1, (hq.2.2.sift fun y hy => Or.inr (N y hy)).mono (by decide) (by decide)⟩⟩
theorem main_1_1 : Claimed_1_1 := comes_1 fun _ _ _ _ _ _ h hF => ⟨h.1, hF⟩
theorem main_1_2 : Claimed_1_2 := comes_1 fun _ _ _ _ _ _ h hF => ⟨h.2.1, hF⟩
end Jvm.Pilot.@@N@@
namespace Jvm.Pilot.@@N@@
open Jvm Jvm.ClassFile Sem Op Lib Jvm.Free Jvm.Stand Jvm.Pilot.@@N@@.Jvm.D
/-! MADE BY PROGRAM (witnessworld.py) out of the Statement's table words and the real class files: 11 classes; the members and pool entries that the words name. The judged class is class 1, her method 3. -/
namespace start1
open Jvm.ClassFile
def u (s : String) : CpInfo := .utf8 (stringToUtf16 s)
/-- a pool by its gaps: so many unusable entries, then the entry; so many at the end -/
def gap : Nat → List CpInfo → List CpInfo
  | 0, r => r
  | n + 1, r => .unusable :: gap n r
def poolList (es : List (Nat × CpInfo)) (last : Nat) : List CpInfo := es.foldr (fun e r => gap e.1 (e.2 :: r)) (gap last [])
def pool (es : List (Nat × CpInfo)) (last : Nat) : Array CpInfo := ⟨poolList es last⟩
def fileOf (pool : Array CpInfo) (this : Nat) (attrs : Array Attribute := #[]) (ms : Array MethodInfo := #[]) (fl : Nat := 33) (sup : Nat := 0) (ifs : Array Nat := #[]) (fds : Array FieldInfo := #[]) : ClassFile where
  minorVersion := 0
  majorVersion := 65
  constantPool := pool
  accessFlags := fl
  thisClass := this
  superClass := sup
  interfaces := ifs
  fields := fds
  methods := ms
  attributes := attrs
def plain (name : String) (sup : Option ClassId) : Class where
  name := name
  kind := .ordinary
  loader := none
  accessFlags := 33
  super := sup
  interfaces := #[]
  cf := none
  fields := #[]
  methods := #[]
  instanceTypes := #[]
  staticTypes := #[]
  resolved := #[]
  callSites := []
  init := .initialized
  statics := none
  mirror := none

def pool0 : Array CpInfo := pool [(5, u "<init>"), (0, u "()V"), (1, .class_ 10), (1, u "java/lang/Object")] 113

def k0m0 : Method := { name := "<init>", desc := "()V", sig := { parameters := [], returnType := none }, accessFlags := 1, code := none }
/-- java/lang/Object -/
def k0 : Class := { plain "java/lang/Object" none with
  accessFlags := 33
  interfaces := #[]
  cf := some (fileOf pool0 8 #[] #[{ accessFlags := 1, nameIndex := 5, descriptorIndex := 6, attributes := #[] }] 33 0 #[] #[])
  fields := #[]
  methods := #[k0m0]
  instanceTypes := #[]
  staticTypes := #[]
  resolved := Array.replicate 124 none
  statics := none }

def pool1 : Array CpInfo := pool [(2, .class_ 4), (1, u "java/lang/Object"), (0, u "<init>"), (0, u "()V"), (0, .double 9223372036854775808), (1, .double 13830554455654793216), (1, .methodref 12 13), (0, .class_ 14), (0, .nameAndType 15 16), (0, u "com/example/ringfold/ringfold/ring/Binary64AllZeroPinLaw"), (0, u "val"), (0, u "(I)D"), (0, .methodref 12 18), (0, .nameAndType 19 20), (0, u "isZero"), (0, u "(I)Z"), (0, .methodref 22 23), (0, .class_ 24), (0, .nameAndType 25 26), (0, u "com/example/ringfold/ringfold/ring/Binary64"), (0, u "allZero"), (0, u "([D)Z"), (3, u "law"), (0, u "(IIII)Z")] 4

def k1m0 : Method := { name := "<init>", desc := "()V", sig := { parameters := [], returnType := none }, accessFlags := 2, code := none }
def k1c1 : Code := { maxStack := 2, maxLocals := 2, code := method_2_code, exceptionTable := #[], attributes := #[] }
def k1m1 : Method := { name := "val", desc := "(I)D", sig := { parameters := [.int], returnType := some .double }, accessFlags := 10, code := some k1c1 }
def k1c2 : Code := { maxStack := 2, maxLocals := 2, code := method_3_code, exceptionTable := #[], attributes := #[] }
def k1m2 : Method := { name := "isZero", desc := "(I)Z", sig := { parameters := [.int], returnType := some .boolean }, accessFlags := 10, code := some k1c2 }
def k1c3 : Code := { maxStack := 4, maxLocals := 7, code := code, exceptionTable := #[], attributes := #[] }
def k1m3 : Method := { name := "law", desc := "(IIII)Z", sig := { parameters := [.int, .int, .int, .int], returnType := some .boolean }, accessFlags := 9, code := some k1c3 }
/-- com/example/ringfold/ringfold/ring/Binary64AllZeroPinLaw -/
def k1 : Class := { plain "com/example/ringfold/ringfold/ring/Binary64AllZeroPinLaw" (some 0) with
  accessFlags := 49
  interfaces := #[]
  cf := some (fileOf pool1 12 #[] #[{ accessFlags := 2, nameIndex := 5, descriptorIndex := 6, attributes := #[] }, { accessFlags := 10, nameIndex := 15, descriptorIndex := 16, attributes := #[] }, { accessFlags := 10, nameIndex := 19, descriptorIndex := 20, attributes := #[] }, { accessFlags := 9, nameIndex := 30, descriptorIndex := 31, attributes := #[] }] 49 2 #[] #[])
  fields := #[]
  methods := #[k1m0, k1m1, k1m2, k1m3]
  instanceTypes := #[]
  staticTypes := #[]
  resolved := Array.replicate 36 none
  statics := none }

def pool2 : Array CpInfo := pool [(2, .class_ 4), (1, u "java/lang/Object"), (0, u "<init>"), (0, u "()V"), (13, .class_ 21), (0, u "com/example/ringfold/ringfold/ring/Binary64"), (5, u "allZero"), (0, u "([D)Z")] 4

def k2m0 : Method := { name := "<init>", desc := "()V", sig := { parameters := [], returnType := none }, accessFlags := 2, code := none }
def k2c1 : Code := { maxStack := 4, maxLocals := 6, code := prog_57_method_3_code, exceptionTable := #[], attributes := #[] }
def k2m1 : Method := { name := "allZero", desc := "([D)Z", sig := { parameters := [(.array .double)], returnType := some .boolean }, accessFlags := 8, code := some k2c1 }
/-- com/example/ringfold/ringfold/ring/Binary64 -/
def k2 : Class := { plain "com/example/ringfold/ringfold/ring/Binary64" (some 0) with
  accessFlags := 32
  interfaces := #[]
  cf := some (fileOf pool2 20 #[] #[{ accessFlags := 2, nameIndex := 5, descriptorIndex := 6, attributes := #[] }, { accessFlags := 8, nameIndex := 27, descriptorIndex := 28, attributes := #[] }] 32 2 #[] #[])
  fields := #[]
  methods := #[k2m0, k2m1]
  instanceTypes := #[]
  staticTypes := #[]
  resolved := Array.replicate 33 none
  statics := none }

def pool3 : Array CpInfo := pool [(1, u "java/lang/Cloneable"), (0, .class_ 1), (0, u "java/lang/Object"), (0, .class_ 3)] 3

/-- java/lang/Cloneable -/
def k3 : Class := { plain "java/lang/Cloneable" (some 0) with
  accessFlags := 1537
  interfaces := #[]
  cf := some (fileOf pool3 2 #[] #[] 1537 4 #[] #[])
  fields := #[]
  methods := #[]
  instanceTypes := #[]
  staticTypes := #[]
  resolved := Array.replicate 8 none
  statics := none }

def pool4 : Array CpInfo := pool [(1, u "java/io/Serializable"), (0, .class_ 1), (0, u "java/lang/Object"), (0, .class_ 3)] 3

/-- java/io/Serializable -/
def k4 : Class := { plain "java/io/Serializable" (some 0) with
  accessFlags := 1537
  interfaces := #[]
  cf := some (fileOf pool4 2 #[] #[] 1537 4 #[] #[])
  fields := #[]
  methods := #[]
  instanceTypes := #[]
  staticTypes := #[]
  resolved := Array.replicate 8 none
  statics := none }

/-- the primitive byte -/
def k5 : Class := { plain "byte" none with kind := .primitive 'B', accessFlags := 0x411 }
/-- [B -/
def k6 : Class := { plain "[B" (some 0) with kind := .array 5 .byte, interfaces := #[3, 4], accessFlags := 1041 }

/-- the primitive double -/
def k7 : Class := { plain "double" none with kind := .primitive 'D', accessFlags := 0x411 }
/-- [D -/
def k8 : Class := { plain "[D" (some 0) with kind := .array 7 .double, interfaces := #[3, 4], accessFlags := 1041 }

/-- the primitive int -/
def k9 : Class := { plain "int" none with kind := .primitive 'I', accessFlags := 0x411 }
/-- [I -/
def k10 : Class := { plain "[I" (some 0) with kind := .array 9 .int, interfaces := #[3, 4], accessFlags := 1041 }

def heap : Heap := #[]
def classes : Array Class := #[k0, k1, k2, k3, k4, k5, k6, k7, k8, k9, k10]
def interned : List (Array UInt16 × Addr) := []
def slotsUsed : Nat := 0
def theMethod : MethodId := ⟨1, 3⟩
def args0 : Array Value := #[.int 5, .int 7, .int 9, .int 11]
def aboutOver (below : List Frame) : State where
  vm := { classes := classes, interned := interned.toArray }
  heap := heap
  slotsUsed := slotsUsed
  threads := #[{ frames := .invoking theMethod args0 :: below }]
def below0 : List Frame := [.native { method := ⟨0, 0⟩, args := #[] }]
def about1 : State := aboutOver below0
def p0 : Program := .bare "" "" ""
def e0 : Env := launch0.env 0 0 0
theorem w_frames : about1.frames = Frame.invoking theMethod args0 :: below0 := rfl
set_option maxRecDepth 65536 in
theorem w_args : argsFit about1.vm theMethod args0 = true := by decide +kernel
set_option maxRecDepth 65536 in
theorem w_heap : heapFits about1 = true := by decide +kernel
set_option maxRecDepth 65536 in
theorem w_runnable : about1.curStatus? = some .runnable := by decide +kernel
set_option maxRecDepth 65536 in
theorem w_alone : about1.alone = true := by decide +kernel
set_option maxRecDepth 65536 in
theorem w_named : about1.methodNamed? x = some theMethod := by decide +kernel
set_option maxRecDepth 65536 in
theorem w_hears : about1.hears theMethod below0 = true := by decide +kernel
set_option maxRecDepth 65536 in
theorem w_ripe : about1.ripe theMethod args0 below0 = true := by decide +kernel
theorem w_running : about1.status = .running := rfl
set_option maxRecDepth 65536 in
theorem w_room : about1.hasRoom e0.platform room_1 = true :=
  launch0.hasRoom_least _ room_1 (by decide +kernel) (by decide +kernel) (by decide +kernel) (by decide +kernel) (by decide +kernel) (by decide +kernel)
theorem allAtoms_all (ts : List Jvm.Cond) (a : Array Jvm.Value) (st : Jvm.State) : (allAtoms ts).before a st = ts.all (fun c => c.before a st) := by
  induction ts with
  | nil => rfl
  | cons c t ih =>
    show (Jvm.Cond.and c (allAtoms t)).before a st = _
    rw [Jvm.Cond.before_and, ih, List.all_cons]
def words1 : List Jvm.Cond := Jvm.Cond.code x code maxLocals ret :: tables_1
/-- a 'code' word, met by the world's own term for the bytes: nothing is compared byte by byte -/
theorem code_word {y : MethodName} {bytes : ByteArray} {mx : Nat} {rt : Option FieldType} {a : Array Value} {s : State} {m : MethodId} {meth : Method} {c : Code} (h1 : s.methodNamed? y = some m) (h2 : s.vm.method? m = some meth) (h3 : meth.code = some c) (h4 : c.code = bytes)
    (h5 : (c.maxLocals == mx && c.exceptionTable.isEmpty && decide (c.maxStack ≤ mostOperands) && decide (meth.sig.returnType = rt) && !meth.locks && decide (parseMethodDescriptor y.desc = some meth.sig)) = true) : (Jvm.Cond.code y bytes mx rt).before a s = true := by
  simp only [Bool.and_eq_true, beq_iff_eq, Bool.not_eq_true', decide_eq_true_eq] at h5
  obtain ⟨⟨⟨⟨⟨g1, g2⟩, g3⟩, g4⟩, g5⟩, g6⟩ := h5
  simp [Cond.before, Cond.holds, Cond.value, h1, h2, h3, h4, g1, g2, g3, g4, g5, g6]
def isCode : Jvm.Cond → Bool
  | .code _ _ _ _ => true
  | _ => false
theorem all_split {L : List Jvm.Cond} {P : Jvm.Cond → Bool} (h1 : L.all (fun c => isCode c || P c) = true) (h2 : ∀ c ∈ L.filter isCode, P c = true) : L.all P = true := by
  refine List.all_eq_true.mpr fun c hc => ?_
  have h := List.all_eq_true.mp h1 c hc
  rcases Bool.eq_false_or_eq_true (isCode c) with hi | hi
  · exact h2 c (List.mem_filter.mpr ⟨hc, hi⟩)
  · simpa [hi] using h
set_option maxRecDepth 65536 in
theorem w_c0 : (Jvm.Cond.code x code maxLocals ret).before args0 about1 = true := code_word (m := ⟨1, 3⟩) (meth := k1m3) (c := k1c3) (by decide +kernel) rfl rfl rfl (by decide +kernel)
set_option maxRecDepth 65536 in
theorem w_c1 : (Jvm.Cond.code ({ cls := "com/example/ringfold/ringfold/ring/Binary64", name := "allZero", desc := "([D)Z" } : Jvm.MethodName) prog_57_method_3_code (6 : Nat) (Option.some Jvm.ClassFile.FieldType.boolean)).before args0 about1 = true := code_word (m := ⟨2, 1⟩) (meth := k2m1) (c := k2c1) (by decide +kernel) rfl rfl rfl (by decide +kernel)
set_option maxRecDepth 65536 in
theorem w_c2 : (Jvm.Cond.code ({ cls := "com/example/ringfold/ringfold/ring/Binary64AllZeroPinLaw", name := "val", desc := "(I)D" } : Jvm.MethodName) method_2_code (2 : Nat) (Option.some Jvm.ClassFile.FieldType.double)).before args0 about1 = true := code_word (m := ⟨1, 1⟩) (meth := k1m1) (c := k1c1) (by decide +kernel) rfl rfl rfl (by decide +kernel)
set_option maxRecDepth 65536 in
theorem w_c3 : (Jvm.Cond.code ({ cls := "com/example/ringfold/ringfold/ring/Binary64AllZeroPinLaw", name := "isZero", desc := "(I)Z" } : Jvm.MethodName) method_3_code (2 : Nat) (Option.some Jvm.ClassFile.FieldType.boolean)).before args0 about1 = true := code_word (m := ⟨1, 2⟩) (meth := k1m2) (c := k1c2) (by decide +kernel) rfl rfl rfl (by decide +kernel)
def codes1 : List Jvm.Cond := [Jvm.Cond.code x code maxLocals ret, Jvm.Cond.code ({ cls := "com/example/ringfold/ringfold/ring/Binary64", name := "allZero", desc := "([D)Z" } : Jvm.MethodName) prog_57_method_3_code (6 : Nat) (Option.some Jvm.ClassFile.FieldType.boolean), Jvm.Cond.code ({ cls := "com/example/ringfold/ringfold/ring/Binary64AllZeroPinLaw", name := "val", desc := "(I)D" } : Jvm.MethodName) method_2_code (2 : Nat) (Option.some Jvm.ClassFile.FieldType.double), Jvm.Cond.code ({ cls := "com/example/ringfold/ringfold/ring/Binary64AllZeroPinLaw", name := "isZero", desc := "(I)Z" } : Jvm.MethodName) method_3_code (2 : Nat) (Option.some Jvm.ClassFile.FieldType.boolean)]
set_option maxRecDepth 65536 in
theorem codes_eq : words1.filter isCode = codes1 := rfl
theorem w_codes : ∀ c ∈ words1.filter isCode, c.before args0 about1 = true := by
  rw [codes_eq]
  intro c hc
  simp only [codes1, List.mem_cons, List.not_mem_nil, or_false] at hc
  rcases hc with rfl | rfl | rfl | rfl
  · exact w_c0
  · exact w_c1
  · exact w_c2
  · exact w_c3
set_option maxRecDepth 65536 in
theorem w_t1 : words1.all (fun c => isCode c || c.before args0 about1) = true := by decide +kernel
theorem w_tables : (allAtoms (Jvm.Cond.code x code maxLocals ret :: tables_1)).before args0 about1 = true := by
  rw [allAtoms_all]
  show words1.all (fun c => c.before args0 about1) = true
  refine all_split ?_ w_codes
  rw [w_t1]
set_option maxRecDepth 65536 in
theorem w_case : (Jvm.Cond.and given_1 narrow_1).before args0 about1 = true := by decide +kernel
theorem w_applies : (headSpec (Jvm.Cond.code x code maxLocals ret :: tables_1) room_1).applies x e0.platform about1 = true :=
  (Spec.applies_iff w_frames).mpr ⟨w_running, w_runnable, w_alone, w_named, w_hears, w_ripe, w_room, w_tables⟩
theorem atStart : AtStart classFile x code maxLocals ret World_1 tables_1 room_1 Calls_1 rest_1 Pre_1 launch0 p0 e0 about1 theMethod args0 below0 :=
  ⟨lists_1, trivial, launch0.admits_env _ _ _, launch0.least_env, fairChoices_fair.cas, fairChoices_fair.clock, w_frames, w_args, w_heap, w_applies, trivial, trivial, w_case⟩
end start1
theorem witness_1 : WitnessClaimed_1 := ⟨start1.p0, start1.e0, start1.about1, start1.theMethod, start1.args0, start1.below0, start1.atStart⟩
end Jvm.Pilot.@@N@@
