import JvmDerived
import JvmDerived.Pilot.@@N@@Statement
import JvmDerived.Pilot.@@N@@Code
set_option linter.unusedVariables false
set_option linter.unusedSimpArgs false
namespace Jvm.Pilot.@@N@@
open Jvm Jvm.ClassFile Sem Op Lib Jvm.Free Jvm.Stand Jvm.LawKit Jvm.RoadKit Bundle Jvm.Pilot.@@N@@.Jvm.D
/-! own prelude: 'own_Goes' says that from state T with top frame g the invocation comes to its end with what Q says -/
section OwnPrelude
variable {p : Program} {l : Launch} {e : Env} {R : Room} {s : State} {m : MethodId} {args : Array Value} {below : List Frame} {meth : Method} {c : Code} {T T' : State} {locs : List Loc} {cells slots : Nat} {Z : State} {a0 : Array Value} {h : Heap} {kc ks : Nat} {Q : Option Value → Heap → List Loc → Prop} {g g' : JFrame}
def own_Goes (p : Program) (e : Env) (below : List Frame) (s : State) (kc ks : Nat) (Q : Option Value → Heap → List Loc → Prop) (T : State) (g : JFrame) : Prop :=
  ∃ t o, Steps p.tables e below (T.setTop g) t ∧ t.status = .running ∧ Ended t below o ∧ ∃ v L, o = .returned v ∧ Q v t.heap L ∧ FrameEnd s o t L kc ks
abbrev own_Ctr (l : Launch) (Z : State) (y : MethodName) (bytes : ByteArray) (maxL : Nat) (ret : Option FieldType) (ws : List Jvm.Cond) (rm : Room) (kc ks : Nat) (as' : Array Value) (h : Heap) (Q : Option Value → Heap → List Loc → Prop) : Prop :=
  MetFree l y (head1 (Jvm.Cond.code y bytes maxL ret :: ws) rm) (fun a U => a = as' ∧ Z.Warmed39 U.vm ∧ U.heap = h) (fun _ _ _ _ _ => True) (fun _ U o U' => ∃ v L, o = .returned v ∧ Q v U'.heap L ∧ FrameEnd U o U' L kc ks)
theorem own_by (st : ∀ t, Steps p.tables e below (T'.setTop g') t → Steps p.tables e below (T.setTop g) t) (k : own_Goes p e below s kc ks Q T' g') : own_Goes p e below s kc ks Q T g := by
  obtain ⟨t, o, h1, r⟩ := k; exact ⟨t, o, st t h1, r⟩
theorem own_cast (q : g = g') (k : own_Goes p e below s kc ks Q T g') : own_Goes p e below s kc ks Q T g := q ▸ k
theorem own_enter {y : MethodName} {bytes : ByteArray} {maxL : Nat} {ret : Option FieldType} {ws : List Jvm.Cond} {rm : Room} {as' : Array Value} (hpl : plainFor y = true)
    (k : ∀ p e s m below meth c s₁, Stand p l e rm s m as' below meth c s₁ [] 0 0 → p.tables.exec = Jvm.exec → Z.Warmed39 s.vm → c.code = bytes → c.maxLocals = maxL → s.vm.findClass y.cls = some m.cls → meth.name = y.name → meth.locks = false → meth.sig.returnType = ret → s₁.heap = h → own_Goes p e below s kc ks Q s₁ (entryFrame m as' maxL)) :
    own_Ctr l Z y bytes maxL ret ws rm kc ks as' h Q := by
  refine MetFree.of_bodySF hpl hisR ?_
  intro p e s m args below meth c s₁ Bd hml0 hP hK
  obtain ⟨rfl, hZ, hh⟩ := hP
  exact k p e s m below meth c s₁ (Stand.of_body Bd) Bd.exec hZ Bd.bytes hml0 (findClass_of_methodNamed Bd.named) (name_of_methodNamed Bd.named Bd.method).1 Bd.notSynchronized Bd.returns (by rw [← hh, Bd.state]; rfl)
theorem own_mono (X : Stand p l e R s m args below meth c T locs cells slots) {c' n' : Nat} (h1 : cells ≤ c') (h2 : slots ≤ n') : Stand p l e R s m args below meth c T locs c' n' :=
  { X with same := X.same.mono h1 h2 }
theorem own_out (X : Stand p l e R s m args below meth c T locs cells slots) (hlk : meth.locks = false) {v : Option Value} (hv : meth.sig.returnType = none → v = none)
    (st : ∀ fs, (∀ (f : JFrame) (acts : List Action), f.method = m → f.locked = none → f.entered = [] → (doReturn e (T.setTop f) acts v).1 = T.setFrames fs) → Steps p.tables e below (T.setTop g) (T.setFrames fs))
    (hc : cells ≤ kc) (hs : slots ≤ ks) (hQ : Q v T.heap locs) : own_Goes p e below s kc ks Q T g := by
  obtain ⟨fs, hr, hrun, hended, hW, hsame⟩ := X.leave (v := v) hv hlk
  exact ⟨_, _, st fs hr, hrun, hended, v, locs, rfl, hQ, ⟨_, rfl⟩, hW, hsame.mono hc hs⟩
theorem own_ret {w : Value} {t : FieldType} {i : Instr} {pc : Nat} {Ls : Array Slot} {rest : List Value} (X : Stand p l e R s m args below meth c T locs cells slots) (hx : p.tables.exec = Jvm.exec) (hlk : meth.locks = false) (hret : meth.sig.returnType = some t) (hn : narrow t w = w)
    (hi : (i = .ireturn ∧ (t = .int ∨ t = .boolean ∨ t = .byte ∨ t = .char ∨ t = .short) ∧ ∃ z, w = .int z) ∨ (i = .lreturn ∧ t = .long ∧ ∃ z, w = .long z) ∨ (i = .dreturn ∧ t = .double ∧ ∃ z, w = .double z) ∨ (i = .freturn ∧ t = .float ∧ ∃ z, w = .float z) ∨ (i = .areturn ∧ t.isReference = true ∧ w.isRef = true))
    (hd : decode c.code pc = .ok (i, 1)) (hc : cells ≤ kc) (hs : slots ≤ ks) (hQ : Q (some w) T.heap locs) : own_Goes p e below s kc ks Q T (mkF m pc Ls (w :: rest)) :=
  own_out X hlk (fun h => by rw [hret] at h; cases h) (fun fs hr => retOut X hx hret hn hi hd hr) hc hs hQ
theorem own_retI {z : Int32} {pc : Nat} {Ls : Array Slot} {rest : List Value} (X : Stand p l e R s m args below meth c T locs cells slots) (hx : p.tables.exec = Jvm.exec) (hlk : meth.locks = false) (hret : meth.sig.returnType = some .int)
    (hd : decode c.code pc = .ok (.ireturn, 1)) (hc : cells ≤ kc) (hs : slots ≤ ks) (hQ : Q (some (.int z)) T.heap locs) : own_Goes p e below s kc ks Q T (mkF m pc Ls (.int z :: rest)) :=
  own_ret X hx hlk hret rfl (Or.inl ⟨rfl, Or.inl rfl, z, rfl⟩) hd hc hs hQ
theorem own_retJ {z : Int64} {pc : Nat} {Ls : Array Slot} {rest : List Value} (X : Stand p l e R s m args below meth c T locs cells slots) (hx : p.tables.exec = Jvm.exec) (hlk : meth.locks = false) (hret : meth.sig.returnType = some .long)
    (hd : decode c.code pc = .ok (.lreturn, 1)) (hc : cells ≤ kc) (hs : slots ≤ ks) (hQ : Q (some (.long z)) T.heap locs) : own_Goes p e below s kc ks Q T (mkF m pc Ls (.long z :: rest)) :=
  own_ret X hx hlk hret rfl (Or.inr (Or.inl ⟨rfl, rfl, z, rfl⟩)) hd hc hs hQ
theorem own_retD {z : UInt64} {pc : Nat} {Ls : Array Slot} {rest : List Value} (X : Stand p l e R s m args below meth c T locs cells slots) (hx : p.tables.exec = Jvm.exec) (hlk : meth.locks = false) (hret : meth.sig.returnType = some .double)
    (hd : decode c.code pc = .ok (.dreturn, 1)) (hc : cells ≤ kc) (hs : slots ≤ ks) (hQ : Q (some (.double z)) T.heap locs) : own_Goes p e below s kc ks Q T (mkF m pc Ls (.double z :: rest)) :=
  own_ret X hx hlk hret rfl (Or.inr (Or.inr (Or.inl ⟨rfl, rfl, z, rfl⟩))) hd hc hs hQ
theorem own_b8 (x : Int32) : ((x).toInt8.toInt32).toInt8.toInt32 = x.toInt8.toInt32 := by simp
theorem own_c16 (x : Int32) : ((x).toUInt32.toUInt16.toUInt32.toInt32).toUInt32.toUInt16.toUInt32.toInt32 = x.toUInt32.toUInt16.toUInt32.toInt32 := by
  have h : ∀ u : UInt16, (u.toUInt32.toInt32).toUInt32.toUInt16 = u := fun u => by
    show (u.toUInt32).toUInt16 = u
    simp
  rw [h]
theorem own_wr {h' : Heap} {a : Addr} {sl : Nat} {v v' : Value} (W : Wr h h' a sl v) (q : v = v') : Wr h h' a sl v' := q ▸ W
theorem own_eqI {first : State} {o : Option Outcome} {idx : List Nat} {a b : Term} {x y : Int32} (ha : a.eval args first o idx s = some (.int x)) (hb : b.eval args first o idx s = some (.int y)) : (Cond.eq a b).value args first o s idx = some (decide (x = y)) := by simp [Cond.value, ha, hb]
theorem own_fitR {t : FieldType} {w : Value} (ht : t.isReference = true) (hw : w.isRef = true) : fits t w = true := by cases t <;> simp [FieldType.isReference] at ht <;> rcases ref_cases hw with rfl | ⟨a, rfl⟩ <;> rfl
theorem own_cat1 {w : Value} (hw : w.isRef = true) : w.category = 1 := by rcases ref_cases hw with rfl | ⟨a, rfl⟩ <;> rfl
theorem own_stG {ls l' : Array Slot} {i : Nat} {v : Value} {o : Slot} (hold : ls[i]? = some o) (ho : o = .unset ∨ ∃ w, o = .val w ∧ w.category = 1) (hv : v.category = 1) (q : ls.setIfInBounds i (.val v) = l') : storeLocals ls i v = some l' := q ▸ XS.store1 hold ho hv
theorem own_narR {t : FieldType} {w : Value} (ht : t.isReference = true) : narrow t w = w := by cases t <;> simp [FieldType.isReference] at ht <;> cases w <;> rfl
theorem own_retA {w : Value} {t : FieldType} {pc : Nat} {Ls : Array Slot} {rest : List Value} (X : Stand p l e R s m args below meth c T locs cells slots) (hx : p.tables.exec = Jvm.exec) (hlk : meth.locks = false) (hret : meth.sig.returnType = some t) (ht : t.isReference = true) (hw : w.isRef = true)
    (hd : decode c.code pc = .ok (.areturn, 1)) (hc : cells ≤ kc) (hs : slots ≤ ks) (hQ : Q (some w) T.heap locs) : own_Goes p e below s kc ks Q T (mkF m pc Ls (w :: rest)) :=
  own_ret X hx hlk hret (own_narR ht) (Or.inr (Or.inr (Or.inr (Or.inr ⟨rfl, ht, hw⟩)))) hd hc hs hQ
theorem own_retN {z : Int32} {t : FieldType} {pc : Nat} {Ls : Array Slot} {rest : List Value} (X : Stand p l e R s m args below meth c T locs cells slots) (hx : p.tables.exec = Jvm.exec) (hlk : meth.locks = false) (hret : meth.sig.returnType = some t) (ht : t = .boolean ∨ t = .byte ∨ t = .char ∨ t = .short)
    (hd : decode c.code pc = .ok (.ireturn, 1)) (hc : cells ≤ kc) (hs : slots ≤ ks) (hQ : Q (some (.int (nar t z))) T.heap locs) : own_Goes p e below s kc ks Q T (mkF m pc Ls (.int z :: rest)) :=
  own_out X hlk (fun h => by rw [hret] at h; cases h) (fun fs hr => retN X hx hret ht hd hr) hc hs hQ
theorem own_retV {pc : Nat} {Ls : Array Slot} (X : Stand p l e R s m args below meth c T locs cells slots) (hx : p.tables.exec = Jvm.exec) (hlk : meth.locks = false) (hret : meth.sig.returnType = none)
    (hd : decode c.code pc = .ok (.return_, 1)) (hc : cells ≤ kc) (hs : slots ≤ ks) (hQ : Q none T.heap locs) : own_Goes p e below s kc ks Q T (mkF m pc Ls []) :=
  own_out X hlk (fun _ => rfl) (fun fs hr => X.returnOut hx hret hd hr) hc hs hQ
/-- an array of that type and length, whatever it holds -/
def own_Arz (Z : State) (h : Heap) (a : Addr) (ty : FieldType) (z : Int32) : Prop := ∃ c : Cell, Arr Z h a c ty ∧ c.slots.size = z.toNatClampNeg ∧ ¬ z < 0
theorem own_Arz.of {a : Addr} {k : ClassId} {ty : FieldType} {z : Int32} {vs : List Value} {dv : Value} (F : Arv Z h a k ty z vs dv) : own_Arz Z h a ty z := by obtain ⟨c, A, -, S, q, -⟩ := F; exact ⟨c, A, S, q⟩
theorem own_Arz.lt {a : Addr} {ty : FieldType} {z : Int32} (F : own_Arz Z h a ty z) : a < h.size := by obtain ⟨c, A, -⟩ := F; exact A.lt
theorem own_Arz.ext {h' : Heap} {a : Addr} {ty : FieldType} {z : Int32} (F : own_Arz Z h a ty z) (E : Ext h h') : own_Arz Z h' a ty z := by obtain ⟨c, A, r⟩ := F; exact ⟨c, A.ext E, r⟩
theorem own_Arz.other {h' : Heap} {a b : Addr} {ty : FieldType} {z : Int32} {sl : Nat} {v : Value} (F : own_Arz Z h b ty z) (W : Wr h h' a sl v) (q : b ≠ a) : own_Arz Z h' b ty z := by obtain ⟨c, A, r⟩ := F; exact ⟨c, A.other W q, r⟩
theorem own_Arz.same {h' : Heap} {a : Addr} {ty : FieldType} {z : Int32} {sl : Nat} {v : Value} (F : own_Arz Z h a ty z) (W : Wr h h' a sl v) : own_Arz Z h' a ty z := by obtain ⟨c, A, r1, r2⟩ := F; exact ⟨_, A.same W, by rw [sz_set]; exact r1, r2⟩
theorem own_Arz.keep {h' : Heap} {a : Addr} {ty : FieldType} {z : Int32} {ws : List Addr} (F : own_Arz Z h a ty z) (K : Keep h h' ws) (q : a ∉ ws) : own_Arz Z h' a ty z := by obtain ⟨c, A, r⟩ := F; exact ⟨c, ⟨K.2.1 a c A.1 q, A.2⟩, r⟩
section OwnCalls
variable {own : String} {index : Nat} {y z : MethodName} {bytes : ByteArray} {maxL : Nat} {ret : Option FieldType} {rm : Room} {Q' : Option Value → Heap → List Loc → Prop} {argsL rest : List Value}
theorem own_callS (X : Stand p l e R s m args below meth c T locs cells slots) (hx : p.tables.exec = Jvm.exec) (hZ : Z.Warmed39 s.vm) (hown : s.vm.findClass own = some m.cls)
    (w1 : (Cond.methodLink own index y).before a0 Z = true) (w2 : (Cond.static y).before a0 Z = true) (w3 : (Cond.initialized y.cls).before a0 Z = true) (w4 : (Cond.code y bytes maxL ret).before a0 Z = true)
    (hy : y.cls ≠ "java/lang/invoke/MethodHandle" ∧ y.cls ≠ "java/lang/invoke/VarHandle") (hM : own_Ctr l Z y bytes maxL ret [] rm rm.cells rm.slots argsL.toArray h Q') (W : Nat)
    (hf : rm.frames + 1 ≤ R.frames) (hl : W + (maxL + 11) + rm.locals ≤ R.locals) (hc : cells + rm.cells ≤ R.cells) (hs : slots + rm.slots ≤ R.slots) (eT : T.heap = h)
    (hg : g.method = m) (hsize : g.locals.size = c.maxLocals) (hlen : ∀ sig, parseMethodDescriptor y.desc = some sig → argsL.length = sig.parameters.length) (hstack : g.stack = argsL.reverse ++ rest)
    (hW : 2 * g.monitorRoom + (rest.map fun v => v.category).sum ≤ W) (hd : decode c.code g.pc = .ok (.invokestatic index, 3))
    (k : ∀ v T' L, Stand p l e R s m args below meth c T' (locs ++ L) (cells + rm.cells) (slots + rm.slots) → Q' v T'.heap L → own_Goes p e below s kc ks Q T' { g with pc := g.pc + 3, stack := v.toList ++ rest }) : own_Goes p e below s kc ks Q T g := by
  obtain ⟨v, _, ⟨T', L', k', n'⟩, -, X', ⟨Lc, hQ, l1, y1, z1⟩, st⟩ := Jvm.LawKit.callS X hx hown (mvT hZ w1) (mvT hZ w2) (mvT hZ w3) (mvT hZ w4) hy (backOf (W := W) hM hZ w4 w3 hf hl) hg hsize hlen hstack hW hd (fun _ _ => ⟨rfl, eT, hc, hs⟩)
  dsimp only [Pt.U, Pt.locs, Pt.cells, Pt.slots] at X' l1 y1 z1 st hQ
  subst l1 y1 z1
  exact own_by st (k v T' Lc X' hQ)
theorem own_callI (X : Stand p l e R s m args below meth c T locs cells slots) (hx : p.tables.exec = Jvm.exec) (hZ : Z.Warmed39 s.vm) (hown : s.vm.findClass own = some m.cls) (hy1 : y.name = "<init>")
    (w1 : (Cond.methodLink own index y).before a0 Z = true) (w2 : (Cond.instanceMethod y).before a0 Z = true) (w3 : (Cond.initialized y.cls).before a0 Z = true) (w4 : (Cond.code y bytes maxL none).before a0 Z = true)
    (hy : y.cls ≠ "java/lang/invoke/MethodHandle" ∧ y.cls ≠ "java/lang/invoke/VarHandle") {a : Addr} (hM : own_Ctr l Z y bytes maxL none [] rm rm.cells rm.slots (.ref a :: argsL).toArray h Q') (W : Nat)
    (hf : rm.frames + 1 ≤ R.frames) (hl : W + (maxL + 11) + rm.locals ≤ R.locals) (hc : cells + rm.cells ≤ R.cells) (hs : slots + rm.slots ≤ R.slots) (eT : T.heap = h)
    (hg : g.method = m) (hsize : g.locals.size = c.maxLocals) (hlen : ∀ sig, parseMethodDescriptor y.desc = some sig → argsL.length = sig.parameters.length) (hstack : g.stack = argsL.reverse ++ .ref a :: rest)
    (hW : 2 * g.monitorRoom + (rest.map fun v => v.category).sum ≤ W) (hd : decode c.code g.pc = .ok (.invokespecial index, 3))
    (k : ∀ v T' L, Stand p l e R s m args below meth c T' (locs ++ L) (cells + rm.cells) (slots + rm.slots) → Q' v T'.heap L → own_Goes p e below s kc ks Q T' { g with pc := g.pc + 3, stack := v.toList ++ rest }) : own_Goes p e below s kc ks Q T g := by
  obtain ⟨v, _, ⟨T', L', k', n'⟩, -, X', ⟨Lc, hQ, l1, y1, z1⟩, st⟩ := X.specialBack hx hy1 hown (mvT hZ w1) (mvT hZ w2) (mvT hZ w4) hy (backOf (W := W) hM hZ w4 w3 hf hl) hg hsize (Steps.refl _) hlen hstack hW hd (fun _ _ => ⟨rfl, eT, hc, hs⟩)
  dsimp only [Pt.U, Pt.locs, Pt.cells, Pt.slots] at X' l1 y1 z1 st hQ
  subst l1 y1 z1
  exact own_by (fun t kt => st.trans kt) (k v T' Lc X' hQ)
theorem own_callIN {host : String} (X : Stand p l e R s m args below meth c T locs cells slots) (hx : p.tables.exec = Jvm.exec) (hZ : Z.Warmed39 s.vm) (hown : s.vm.findClass own = some m.cls) (hy1 : y.name = "<init>")
    (w1 : (Cond.methodLinkNest own index y host).before a0 Z = true) (w2 : (Cond.instanceMethod y).before a0 Z = true) (w3 : (Cond.initialized y.cls).before a0 Z = true) (w4 : (Cond.code y bytes maxL none).before a0 Z = true)
    (hy : y.cls ≠ "java/lang/invoke/MethodHandle" ∧ y.cls ≠ "java/lang/invoke/VarHandle") {a : Addr} (hM : own_Ctr l Z y bytes maxL none [] rm rm.cells rm.slots (.ref a :: argsL).toArray h Q') (W : Nat)
    (hf : rm.frames + 1 ≤ R.frames) (hl : W + (maxL + 11) + rm.locals ≤ R.locals) (hc : cells + rm.cells ≤ R.cells) (hs : slots + rm.slots ≤ R.slots) (eT : T.heap = h)
    (hg : g.method = m) (hsize : g.locals.size = c.maxLocals) (hlen : ∀ sig, parseMethodDescriptor y.desc = some sig → argsL.length = sig.parameters.length) (hstack : g.stack = argsL.reverse ++ .ref a :: rest)
    (hW : 2 * g.monitorRoom + (rest.map fun v => v.category).sum ≤ W) (hd : decode c.code g.pc = .ok (.invokespecial index, 3))
    (k : ∀ v T' L, Stand p l e R s m args below meth c T' (locs ++ L) (cells + rm.cells) (slots + rm.slots) → Q' v T'.heap L → own_Goes p e below s kc ks Q T' { g with pc := g.pc + 3, stack := v.toList ++ rest }) : own_Goes p e below s kc ks Q T g := by
  obtain ⟨v, _, ⟨T', L', k', n'⟩, -, X', ⟨Lc, hQ, l1, y1, z1⟩, st⟩ := X.specialBackNest hx hy1 hown (Cond.methodLinkNest_wide hZ w1 :) (mvT hZ w2) (mvT hZ w4) hy (backOf (W := W) hM hZ w4 w3 hf hl) hg hsize (Steps.refl _) hlen hstack hW hd (fun _ _ => ⟨rfl, eT, hc, hs⟩)
  dsimp only [Pt.U, Pt.locs, Pt.cells, Pt.slots] at X' l1 y1 z1 st hQ
  subst l1 y1 z1
  exact own_by (fun t kt => st.trans kt) (k v T' Lc X' hQ)
theorem own_callV {C : String} (X : Stand p l e R s m args below meth c T locs cells slots) (hx : p.tables.exec = Jvm.exec) (hZ : Z.Warmed39 s.vm) (hown : s.vm.findClass own = some m.cls)
    (w1 : (Cond.methodLink own index y).before a0 Z = true) (w2 : (Cond.declares y).before a0 Z = true) (hnf : NotFace s y) (w3 : (Cond.selects C y z).before a0 Z = true) (w4 : (Cond.instanceMethod z).before a0 Z = true) (w5 : (Cond.code z bytes maxL ret).before a0 Z = true) (w6 : (Cond.initialized z.cls).before a0 Z = true)
    (hy : y.cls ≠ "java/lang/invoke/MethodHandle" ∧ y.cls ≠ "java/lang/invoke/VarHandle") {a : Addr} (E : Exa Z h a C) (hM : own_Ctr l Z z bytes maxL ret [] rm rm.cells rm.slots (.ref a :: argsL).toArray h Q') (W : Nat)
    (hf : rm.frames + 1 ≤ R.frames) (hl : W + (maxL + 11) + rm.locals ≤ R.locals) (hc : cells + rm.cells ≤ R.cells) (hs : slots + rm.slots ≤ R.slots) (eT : T.heap = h)
    (hg : g.method = m) (hsize : g.locals.size = c.maxLocals) (hlen : ∀ sig, parseMethodDescriptor y.desc = some sig → argsL.length = sig.parameters.length) (hstack : g.stack = argsL.reverse ++ .ref a :: rest)
    (hW : 2 * g.monitorRoom + (rest.map fun v => v.category).sum ≤ W) (hd : decode c.code g.pc = .ok (.invokevirtual index, 3))
    (k : ∀ v T' L, Stand p l e R s m args below meth c T' (locs ++ L) (cells + rm.cells) (slots + rm.slots) → Q' v T'.heap L → own_Goes p e below s kc ks Q T' { g with pc := g.pc + 3, stack := v.toList ++ rest }) : own_Goes p e below s kc ks Q T g := by
  obtain ⟨cq, kq, qa, qb, qc⟩ := isOf hZ eT E
  obtain ⟨v, _, ⟨T', L', k', n'⟩, -, X', ⟨Lc, hQ, l1, y1, z1⟩, st⟩ := X.virtualBack hx hown (mvT hZ w1) (mvT hZ w2) hnf (mvT hZ w3) (mvT hZ w4) hy (backOf (W := W) hM hZ w5 w6 hf hl) qa qc hg hsize (Steps.refl _) hlen hstack hW hd (fun _ _ => ⟨rfl, eT, hc, hs⟩)
  dsimp only [Pt.U, Pt.locs, Pt.cells, Pt.slots] at X' l1 y1 z1 st hQ
  subst l1 y1 z1
  exact own_by (fun t kt => st.trans kt) (k v T' Lc X' hQ)
theorem own_callP (X : Stand p l e R s m args below meth c T locs cells slots) (hx : p.tables.exec = Jvm.exec) (hZ : Z.Warmed39 s.vm) (hown : s.vm.findClass own = some m.cls)
    (w1 : (Cond.methodLink own index y).before a0 Z = true) (w2 : (Cond.instanceMethod y).before a0 Z = true) (w3 : (Cond.selects y.cls y y).before a0 Z = true) (w4 : (Cond.privateMethod y).before a0 Z = true) (w5 : (Cond.code y bytes maxL ret).before a0 Z = true) (w6 : (Cond.initialized y.cls).before a0 Z = true)
    (hy : y.cls ≠ "java/lang/invoke/MethodHandle" ∧ y.cls ≠ "java/lang/invoke/VarHandle") {a : Addr} {C : String} (E : Exa Z h a C) (hM : own_Ctr l Z y bytes maxL ret [] rm rm.cells rm.slots (.ref a :: argsL).toArray h Q') (W : Nat)
    (hf : rm.frames + 1 ≤ R.frames) (hl : W + (maxL + 11) + rm.locals ≤ R.locals) (hc : cells + rm.cells ≤ R.cells) (hs : slots + rm.slots ≤ R.slots) (eT : T.heap = h)
    (hg : g.method = m) (hsize : g.locals.size = c.maxLocals) (hlen : ∀ sig, parseMethodDescriptor y.desc = some sig → argsL.length = sig.parameters.length) (hstack : g.stack = argsL.reverse ++ .ref a :: rest)
    (hW : 2 * g.monitorRoom + (rest.map fun v => v.category).sum ≤ W) (hd : decode c.code g.pc = .ok (.invokevirtual index, 3))
    (k : ∀ v T' L, Stand p l e R s m args below meth c T' (locs ++ L) (cells + rm.cells) (slots + rm.slots) → Q' v T'.heap L → own_Goes p e below s kc ks Q T' { g with pc := g.pc + 3, stack := v.toList ++ rest }) : own_Goes p e below s kc ks Q T g := by
  obtain ⟨cq, q1, q2⟩ := E.cell
  obtain ⟨v, _, ⟨T', L', k', n'⟩, -, X', ⟨Lc, hQ, l1, y1, z1⟩, st⟩ := X.privateBack hx hown (mvT hZ w1) (mvT hZ w2) (mvT hZ w3) (Cond.privateMethod_at (mvP hZ w4 (args := #[]))) (mvT hZ w5) hy (backOf (W := W) hM hZ w5 w6 hf hl) hg hsize (Steps.refl _) (a := a) (by rw [eT]; exact q1) q2 hlen hstack hW hd (fun _ _ => ⟨rfl, eT, hc, hs⟩)
  dsimp only [Pt.U, Pt.locs, Pt.cells, Pt.slots] at X' l1 y1 z1 st hQ
  subst l1 y1 z1
  exact own_by (fun t kt => st.trans kt) (k v T' Lc X' hQ)
theorem own_callF {C : String} {count : Nat} (X : Stand p l e R s m args below meth c T locs cells slots) (hx : p.tables.exec = Jvm.exec) (hZ : Z.Warmed39 s.vm) (hown : s.vm.findClass own = some m.cls)
    (w1 : (Cond.methodLink own index y).before a0 Z = true) (w2 : (Cond.declares y).before a0 Z = true) (w2f : (Cond.interfaceMethod y.cls y.cls y.name y.desc).before a0 Z = true) (w3 : (Cond.selects C y z).before a0 Z = true) (w4 : (Cond.instanceMethod z).before a0 Z = true)
    (wp : (Cond.publicMethod z).before a0 Z = true) (wu : (Cond.unhidden C y.name y.desc).before a0 Z = true) (wk : (Cond.castable C y.cls).before a0 Z = true) (w5 : (Cond.code z bytes maxL ret).before a0 Z = true) (w6 : (Cond.initialized z.cls).before a0 Z = true)
    (hy : y.cls ≠ "java/lang/invoke/MethodHandle" ∧ y.cls ≠ "java/lang/invoke/VarHandle") {a : Addr} (E : Exa Z h a C) (hM : own_Ctr l Z z bytes maxL ret [] rm rm.cells rm.slots (.ref a :: argsL).toArray h Q') (W : Nat)
    (hf : rm.frames + 1 ≤ R.frames) (hl : W + (maxL + 11) + rm.locals ≤ R.locals) (hc : cells + rm.cells ≤ R.cells) (hs : slots + rm.slots ≤ R.slots) (eT : T.heap = h)
    (hg : g.method = m) (hsize : g.locals.size = c.maxLocals) (hlen : ∀ sig, parseMethodDescriptor y.desc = some sig → argsL.length = sig.parameters.length) (hstack : g.stack = argsL.reverse ++ .ref a :: rest)
    (hW : 2 * g.monitorRoom + (rest.map fun v => v.category).sum ≤ W) (hd : decode c.code g.pc = .ok (.invokeinterface index count, 5))
    (k : ∀ v T' L, Stand p l e R s m args below meth c T' (locs ++ L) (cells + rm.cells) (slots + rm.slots) → Q' v T'.heap L → own_Goes p e below s kc ks Q T' { g with pc := g.pc + 5, stack := v.toList ++ rest }) : own_Goes p e below s kc ks Q T g := by
  obtain ⟨cq, kq, qa, qb, qc⟩ := isOf hZ eT E
  have hface : ((Cond.interfaceMethod y.cls y.cls y.name y.desc).onTables && (Cond.interfaceMethod y.cls y.cls y.name y.desc).keepsFace) = true := by simp [Cond.onTables, Cond.keepsFace, Cond.keeps, Cond.steady, Cond.faceAtom, hy.1, hy.2]
  obtain ⟨v, _, ⟨T', L', k', n'⟩, -, X', ⟨Lc, hQ, l1, y1, z1⟩, st⟩ := X.interfaceBack hx hown (mvT hZ w1) (mvT hZ w2) (mvT hZ w2f hface) (mvT hZ w3) (mvT hZ w4) (mvT hZ wp) (mvT hZ wu) (mvT hZ wk) hy (backOf (W := W) hM hZ w5 w6 hf hl) qa qb qc hg hsize (Steps.refl _) hlen hstack hW hd (fun _ _ => ⟨rfl, eT, hc, hs⟩)
  dsimp only [Pt.U, Pt.locs, Pt.cells, Pt.slots] at X' l1 y1 z1 st hQ
  subst l1 y1 z1
  exact own_by (fun t kt => st.trans kt) (k v T' Lc X' hQ)
end OwnCalls
end OwnPrelude
def own_at (a b d : Int32) : Int32 := (((b * a) - ((b * (b - (1 : Int32))) / (2 : Int32))) + d) - b
theorem own_f3 {a b : Int32} (h : (1 : Int32) + (a &&& (32767 : Int32)) = b) : 1 ≤ b.toInt ∧ b.toInt ≤ 32768 := by
  have m1 := c_mask a 32767 15 (by decide) (by decide)
  have a1 := c_iadd 1 (a &&& 32767)
  have e1 : (1 : Int32).toInt = 1 := by decide
  rw [h, e1, m1] at a1
  have r := rng32 b
  have : ((2 ^ 15 : Nat) : Int) = 32768 := by decide
  omega
theorem own_nz {b : Int32} (h : 1 ≤ b.toInt) : b ≠ (0 : Int32) := fun q => by
  rw [q] at h; exact absurd h (by decide)
theorem own_f4 {a b i : Int32} (hb : 1 ≤ b.toInt) (h : (a &&& (2147483647 : Int32)) % b = i) : 0 ≤ i.toInt ∧ i.toInt < b.toInt := by
  have m := c_mask a 2147483647 31 (by decide) (by decide)
  have rm := (c_iremV (a &&& 2147483647) b).1 (by omega) (by omega)
  rw [h] at rm; omega
theorem own_sub {b i : Int32} (h1 : 0 ≤ i.toInt) (h2 : i.toInt < b.toInt) : (b - i).toInt = b.toInt - i.toInt := by
  have := c_isub b i; have := rng32 (b - i); have := rng32 b; omega
theorem own_f5 {a b i j : Int32} (h1 : 0 ≤ i.toInt) (h2 : i.toInt < b.toInt) (h : i + ((a &&& (2147483647 : Int32)) % (b - i)) = j) : i.toInt ≤ j.toInt ∧ j.toInt < b.toInt := by
  have m := c_mask a 2147483647 31 (by decide) (by decide)
  have s := own_sub h1 h2
  have rm := (c_iremV (a &&& 2147483647) (b - i)).1 (by omega) (by omega)
  have a1 := c_iadd i ((a &&& (2147483647 : Int32)) % (b - i))
  rw [h] at a1
  have := rng32 j; have := rng32 b
  omega
theorem own_even (i : Int) (hi : 0 ≤ i) : ∃ T : Int, i * (i - 1) = 2 * T ∧ 0 ≤ T := by
  have h2 : i % 2 = 0 ∨ i % 2 = 1 := by omega
  rcases h2 with h | h
  · refine ⟨(i / 2) * (i - 1), ?_, ?_⟩
    · rw [← Int.mul_assoc, show 2 * (i / 2) = i from by omega]
    · by_cases q : i = 0
      · subst q; decide
      · exact Int.mul_nonneg (by omega) (by omega)
  · refine ⟨i * ((i - 1) / 2), ?_, Int.mul_nonneg hi (by omega)⟩
    · rw [Int.mul_left_comm, show 2 * ((i - 1) / 2) = i - 1 from by omega]
theorem own_atI {a b d : Int32} (ha : a.toInt ≤ 32768) (hb : 0 ≤ b.toInt) (hba : b.toInt < a.toInt) (hd : 0 ≤ d.toInt) (hda : d.toInt < a.toInt) : ∃ T : Int, b.toInt * (b.toInt - 1) = 2 * T ∧ (own_at a b d).toInt = b.toInt * a.toInt - T + d.toInt - b.toInt := by
  obtain ⟨T, hT, hT0⟩ := own_even b.toInt hb
  refine ⟨T, hT, ?_⟩
  have p1 : 0 ≤ b.toInt * a.toInt := Int.mul_nonneg hb (by omega)
  have p2 : b.toInt * a.toInt ≤ 32768 * 32768 := Int.mul_le_mul (by omega) ha (by omega) (by decide)
  have p3 : b.toInt * (b.toInt - 1) ≤ b.toInt * a.toInt := Int.mul_le_mul_of_nonneg_left (by omega) hb
  have e1 : (1 : Int32).toInt = 1 := by decide
  have e2 : (2 : Int32).toInt = 2 := by decide
  have m1 := c_imul b a; have r1 := rng32 (b * a)
  have s1 := c_isub b 1; have r2 := rng32 (b - 1); rw [e1] at s1
  have rb := rng32 b
  have s1' : (b - 1).toInt = b.toInt - 1 := by omega
  have m2 := c_imul b (b - 1); have r3 := rng32 (b * (b - 1)); rw [s1'] at m2
  have m1' : (b * a).toInt = b.toInt * a.toInt := by omega
  have m2' : (b * (b - 1)).toInt = 2 * T := by omega
  have dv := (c_idiv (b * (b - 1)) 2 2 e2 (by decide)).1 (by omega)
  have dv' : ((b * (b - 1)) / 2).toInt = T := by omega
  have s2 := c_isub (b * a) ((b * (b - 1)) / 2); have r4 := rng32 ((b * a) - ((b * (b - 1)) / 2))
  have s2' : ((b * a) - ((b * (b - 1)) / 2)).toInt = b.toInt * a.toInt - T := by omega
  have a3 := c_iadd ((b * a) - ((b * (b - 1)) / 2)) d; have r5 := rng32 (((b * a) - ((b * (b - 1)) / 2)) + d)
  have a3' : (((b * a) - ((b * (b - 1)) / 2)) + d).toInt = b.toInt * a.toInt - T + d.toInt := by omega
  have s4 := c_isub (((b * a) - ((b * (b - 1)) / 2)) + d) b; have r6 := rng32 (own_at a b d)
  show (own_at a b d).toInt = _
  have : (own_at a b d).toInt = ((((b * a) - ((b * (b - 1)) / 2)) + d) - b).toInt := rfl
  omega
theorem own_t0 {a : Int32} (h1 : 1 ≤ a.toInt) (h2 : a.toInt ≤ 32768) : own_at a (0 : Int32) (0 : Int32) = (0 : Int32) := by
  obtain ⟨T, hT, h⟩ := own_atI (a := a) (b := 0) (d := 0) h2 (by decide) (by rw [show (0 : Int32).toInt = 0 from by decide]; omega) (by decide) (by rw [show (0 : Int32).toInt = 0 from by decide]; omega)
  have e : (0 : Int32).toInt = 0 := by decide
  rw [e] at hT h
  refine Int32.toInt_inj.mp ?_
  rw [h, e, Int.zero_mul]
  rw [Int.zero_mul] at hT
  omega
theorem own_inc {x : Int32} {b : Int} (h0 : 0 ≤ x.toInt) (h1 : x.toInt < b) (hb : b ≤ 2000000000) : (x + (1 : Int32)).toInt = x.toInt + 1 := by
  have q1 := c_iadd x 1; have q2 := rng32 (x + 1); rw [show (1 : Int32).toInt = 1 from by decide] at q1
  omega
theorem own_bd {a b d : Int32} (ha : a.toInt ≤ 32768) (hb : 0 ≤ b.toInt) (hba : b.toInt < a.toInt) (hbd : b.toInt ≤ d.toInt) (hda : d.toInt < a.toInt) : 0 ≤ (own_at a b d).toInt ∧ 2 * (own_at a b d).toInt ≤ a.toInt * a.toInt + a.toInt - 2 := by
  obtain ⟨T, hT, h⟩ := own_atI ha hb hba (by omega) hda
  rw [h]
  have p3 : b.toInt * (b.toInt - 1) ≤ b.toInt * a.toInt := Int.mul_le_mul_of_nonneg_left (by omega) hb
  have p0 : 0 ≤ b.toInt * a.toInt := Int.mul_nonneg hb (by omega)
  have q : 0 ≤ (a.toInt - b.toInt) * (a.toInt - b.toInt - 1) := Int.mul_nonneg (by omega) (by omega)
  have q' : (a.toInt - b.toInt) * (a.toInt - b.toInt - 1) = a.toInt * a.toInt - 2 * (b.toInt * a.toInt) + b.toInt * b.toInt - a.toInt + b.toInt := by
    rw [Int.mul_sub, Int.mul_sub, Int.sub_mul, Int.sub_mul, Int.mul_one, Int.mul_comm a.toInt b.toInt]; omega
  have q2 : b.toInt * (b.toInt - 1) = b.toInt * b.toInt - b.toInt := by rw [Int.mul_sub, Int.mul_one]
  rw [q'] at q
  rw [q2] at hT p3
  omega
theorem own_t1 {a b d : Int32} (ha : a.toInt ≤ 32768) (hb : 0 ≤ b.toInt) (hba : b.toInt < a.toInt) (hbd : b.toInt ≤ d.toInt) (hda : d.toInt < a.toInt) (hc : d + (1 : Int32) < a) : own_at a b (d + (1 : Int32)) = own_at a b d + (1 : Int32) := by
  have e := own_inc (x := d) (b := a.toInt) (by omega) hda (by omega)
  rw [Int32.lt_iff_toInt_lt, e] at hc
  obtain ⟨T, hT, h⟩ := own_atI (d := d) ha hb hba (by omega) hda
  obtain ⟨T2, hT2, h2⟩ := own_atI (d := d + 1) ha hb hba (by omega) (by omega)
  have bd := own_bd ha hb hba hbd hda
  have p2 : a.toInt * a.toInt ≤ 32768 * 32768 := Int.mul_le_mul (by omega) ha (by omega) (by decide)
  refine Int32.toInt_inj.mp ?_
  rw [own_inc (b := 1000000000) bd.1 (by omega) (by decide), h, h2, e]
  omega
theorem own_t2 {a b : Int32} (ha : a.toInt ≤ 32768) (hb : 0 ≤ b.toInt) (hba : b.toInt < a.toInt) (hc : b + (1 : Int32) < a) : own_at a (b + (1 : Int32)) (b + (1 : Int32)) = own_at a b (a - (1 : Int32)) + (1 : Int32) := by
  have e := own_inc (x := b) (b := a.toInt) (by omega) hba (by omega)
  rw [Int32.lt_iff_toInt_lt, e] at hc
  have e1 : (1 : Int32).toInt = 1 := by decide
  have f : (a - 1).toInt = a.toInt - 1 := by rw [own_sub (by decide) (by rw [e1]; omega), e1]
  obtain ⟨T, hT, h⟩ := own_atI (a := a) (b := b) (d := a - 1) ha hb hba (by omega) (by omega)
  obtain ⟨T2, hT2, h2⟩ := own_atI (a := a) (b := b + 1) (d := b + 1) ha (by omega) (by omega) (by omega) (by omega)
  have bd := own_bd (a := a) (b := b) (d := a - 1) ha hb hba (by omega) (by omega)
  have p2 : a.toInt * a.toInt ≤ 32768 * 32768 := Int.mul_le_mul (by omega) ha (by omega) (by decide)
  refine Int32.toInt_inj.mp ?_
  rw [own_inc (b := 1000000000) bd.1 (by omega) (by decide), h, h2, e, f, Int.add_mul, Int.one_mul]
  rw [e, Int.mul_sub, Int.mul_one, Int.add_mul, Int.one_mul, Int.mul_add, Int.mul_one] at hT2
  rw [Int.mul_sub, Int.mul_one] at hT
  omega
def own_last (a : Int32) : Int64 := ((a).toInt64 * (a + (1 : Int32)).toInt64) / (2 : Int64) - (1 : Int64)
theorem own_lastI {a : Int32} (h1 : 1 ≤ a.toInt) (ha : a.toInt ≤ 32768) : 2 * (own_last a).toInt = a.toInt * a.toInt + a.toInt - 2 := by
  have e := own_inc (x := a) (b := 32769) (by omega) (by omega) (by decide)
  have p1 : 0 ≤ a.toInt * a.toInt := Int.mul_nonneg (by omega) (by omega)
  have p2 : a.toInt * a.toInt ≤ 32768 * 32768 := Int.mul_le_mul (by omega) ha (by omega) (by decide)
  obtain ⟨T, hT, hT0⟩ := own_even (a.toInt + 1) (by omega)
  rw [show a.toInt + 1 - 1 = a.toInt from by omega, Int.add_mul, Int.one_mul] at hT
  have m := c_lmul (a).toInt64 (a + (1 : Int32)).toInt64
  rw [c_i2l, c_i2l, e, Int.mul_add, Int.mul_one] at m
  have r := rng64 ((a).toInt64 * (a + (1 : Int32)).toInt64)
  have m' : ((a).toInt64 * (a + (1 : Int32)).toInt64).toInt = 2 * T := by omega
  have dv := (c_ldiv ((a).toInt64 * (a + (1 : Int32)).toInt64) 2 2 (by decide) (by decide)).1 (by omega)
  have s := c_lsub (((a).toInt64 * (a + (1 : Int32)).toInt64) / (2 : Int64)) 1
  have e1 : (1 : Int64).toInt = 1 := by decide
  rw [dv, m', e1] at s
  have r2 := rng64 (own_last a)
  have : (own_last a).toInt = (((a).toInt64 * (a + (1 : Int32)).toInt64) / (2 : Int64) - (1 : Int64)).toInt := rfl
  rw [← this] at s
  omega
theorem own_t3 {a : Int32} (h1 : 1 ≤ a.toInt) (ha : a.toInt ≤ 32768) : (own_at a (a - (1 : Int32)) (a - (1 : Int32))).toInt64 = own_last a := by
  have e1 : (1 : Int32).toInt = 1 := by decide
  have f : (a - 1).toInt = a.toInt - 1 := by
    by_cases q : a.toInt = 1
    · have q1 := c_isub a 1; have q2 := rng32 (a - 1); rw [e1] at q1; omega
    · rw [own_sub (by decide) (by rw [e1]; omega), e1]
  obtain ⟨T, hT, h⟩ := own_atI (a := a) (b := a - 1) (d := a - 1) ha (by omega) (by omega) (by omega) (by omega)
  have L := own_lastI h1 ha
  refine Int64.toInt_inj.mp ?_
  rw [c_i2l, h]
  rw [f, Int.sub_mul, Int.mul_sub, Int.one_mul, Int.mul_sub, Int.mul_one] at hT
  rw [f, Int.sub_mul, Int.one_mul]
  omega
theorem own_t5 {a k : Int32} {z : Int64} {A : Int} (hz : ((a).toInt64 * (a + (1 : Int32)).toInt64) / (2 : Int64) - (1 : Int64) = z) (L : 2 * (own_last a).toInt = A) (hk : 2 * k.toInt ≤ A) : ¬ z < (k).toInt64 := by
  have e : own_last a = z := hz
  rw [← e, Int64.lt_iff_toInt_lt, c_i2l]; omega
theorem own_pn0 : plainName "com/example/ringfold/ringfold/ring/Covariance" = true := by first | (simp [plainName, overriddenIn]; done) | decide +kernel
theorem own_d1_0 : decode prog_60_method_8_code 0 = .ok (.iload_n 1, 1) := by decide +kernel
theorem own_d1_1 : decode prog_60_method_8_code 1 = .ok (.iload_n 0, 1) := by decide +kernel
theorem own_d1_2 : decode prog_60_method_8_code 2 = .ok (.imul, 1) := by decide +kernel
theorem own_d1_3 : decode prog_60_method_8_code 3 = .ok (.iload_n 1, 1) := by decide +kernel
theorem own_d1_4 : decode prog_60_method_8_code 4 = .ok (.iload_n 1, 1) := by decide +kernel
theorem own_d1_5 : decode prog_60_method_8_code 5 = .ok (.iconst 1, 1) := by decide +kernel
theorem own_d1_6 : decode prog_60_method_8_code 6 = .ok (.isub, 1) := by decide +kernel
theorem own_d1_7 : decode prog_60_method_8_code 7 = .ok (.imul, 1) := by decide +kernel
theorem own_d1_8 : decode prog_60_method_8_code 8 = .ok (.iconst 2, 1) := by decide +kernel
theorem own_d1_9 : decode prog_60_method_8_code 9 = .ok (.idiv, 1) := by decide +kernel
theorem own_d1_10 : decode prog_60_method_8_code 10 = .ok (.isub, 1) := by decide +kernel
theorem own_d1_11 : decode prog_60_method_8_code 11 = .ok (.iload_n 2, 1) := by decide +kernel
theorem own_d1_12 : decode prog_60_method_8_code 12 = .ok (.iadd, 1) := by decide +kernel
theorem own_d1_13 : decode prog_60_method_8_code 13 = .ok (.iload_n 1, 1) := by decide +kernel
theorem own_d1_14 : decode prog_60_method_8_code 14 = .ok (.isub, 1) := by decide +kernel
theorem own_d1_15 : decode prog_60_method_8_code 15 = .ok (.ireturn, 1) := by decide +kernel
def Q_own_cat (Z : State) (u1 : Int32) (u2 : Int32) (u3 : Int32) (h0 : Heap) (n0 : Nat) (v : Option Value) (h : Heap) (L : List Loc) : Prop := v = some (.int (own_at u1 u2 u3)) ∧ Fr n0 L ∧ h = h0
theorem own_ef_own_cat (m : MethodId) (u1 : Int32) (u2 : Int32) (u3 : Int32) : entryFrame m #[(.int u1), (.int u2), (.int u3)] 3 = mkF m 0 #[.val (.int u1), .val (.int u2), .val (.int u3)] [] := by first | (simp [entryFrame, mkF, argsToLocals, Value.category]; done) | rfl
set_option maxRecDepth 65536 in
set_option maxHeartbeats 40000000 in
theorem own_cat (l : Launch) (Z : State) (a0 : Array Value) (hw : ∀ d ∈ tables_1, d.before a0 Z = true) (ws : List Jvm.Cond) (u1 : Int32) (u2 : Int32) (u3 : Int32) (h0 : Heap) (n0 : Nat) (Z0 : n0 ≤ h0.size)  :
    own_Ctr l Z (⟨"com/example/ringfold/ringfold/ring/Covariance", "at", "(III)I"⟩ : MethodName) prog_60_method_8_code 3 (some .int) ws ({ frames := 0, cells := 0, slots := 0, locals := 0 } : Room) (({ frames := 0, cells := 0, slots := 0, locals := 0 } : Room)).cells (({ frames := 0, cells := 0, slots := 0, locals := 0 } : Room)).slots #[(.int u1), (.int u2), (.int u3)] h0 (Q_own_cat Z u1 u2 u3 h0 n0) := by
  refine own_enter (plainFor_of_name own_pn0) ?_
  intro p e s m below meth c s₁ X0 hx hZ hby hml hown hnm hlk hret e0
  have N0 := Fr.nil n0
  refine own_cast (own_ef_own_cat m u1 u2 u3) ?_
  refine own_by (g' := (mkF m 1 #[.val (.int u1), .val (.int u2), .val (.int u3)] [(.int u2)])) (fun t k => XS.iloadN X0.here hx rfl (hb hby own_d1_0) rfl k) ?_
  refine own_by (g' := (mkF m 2 #[.val (.int u1), .val (.int u2), .val (.int u3)] [(.int u1), (.int u2)])) (fun t k => XS.iloadN X0.here hx rfl (hb hby own_d1_1) rfl k) ?_
  refine own_by (g' := (mkF m 3 #[.val (.int u1), .val (.int u2), .val (.int u3)] [(.int (u2 * u1))])) (fun t k => XS.imul X0.here hx rfl (hb hby own_d1_2) rfl k) ?_
  refine own_by (g' := (mkF m 4 #[.val (.int u1), .val (.int u2), .val (.int u3)] [(.int u2), (.int (u2 * u1))])) (fun t k => XS.iloadN X0.here hx rfl (hb hby own_d1_3) rfl k) ?_
  refine own_by (g' := (mkF m 5 #[.val (.int u1), .val (.int u2), .val (.int u3)] [(.int u2), (.int u2), (.int (u2 * u1))])) (fun t k => XS.iloadN X0.here hx rfl (hb hby own_d1_4) rfl k) ?_
  refine own_by (g' := (mkF m 6 #[.val (.int u1), .val (.int u2), .val (.int u3)] [(.int (1 : Int32)), (.int u2), (.int u2), (.int (u2 * u1))])) (fun t k => XS.iconst X0.here hx rfl (hb hby own_d1_5) k) ?_
  refine own_by (g' := (mkF m 7 #[.val (.int u1), .val (.int u2), .val (.int u3)] [(.int (u2 - (1 : Int32))), (.int u2), (.int (u2 * u1))])) (fun t k => XS.isub X0.here hx rfl (hb hby own_d1_6) rfl k) ?_
  refine own_by (g' := (mkF m 8 #[.val (.int u1), .val (.int u2), .val (.int u3)] [(.int (u2 * (u2 - (1 : Int32)))), (.int (u2 * u1))])) (fun t k => XS.imul X0.here hx rfl (hb hby own_d1_7) rfl k) ?_
  refine own_by (g' := (mkF m 9 #[.val (.int u1), .val (.int u2), .val (.int u3)] [(.int (2 : Int32)), (.int (u2 * (u2 - (1 : Int32)))), (.int (u2 * u1))])) (fun t k => XS.iconst X0.here hx rfl (hb hby own_d1_8) k) ?_
  refine own_by (g' := (mkF m 10 #[.val (.int u1), .val (.int u2), .val (.int u3)] [(.int ((u2 * (u2 - (1 : Int32))) / (2 : Int32))), (.int (u2 * u1))])) (fun t k => XS.idiv X0.here hx rfl (hb hby own_d1_9) rfl (by decide) k) ?_
  refine own_by (g' := (mkF m 11 #[.val (.int u1), .val (.int u2), .val (.int u3)] [(.int ((u2 * u1) - ((u2 * (u2 - (1 : Int32))) / (2 : Int32))))])) (fun t k => XS.isub X0.here hx rfl (hb hby own_d1_10) rfl k) ?_
  refine own_by (g' := (mkF m 12 #[.val (.int u1), .val (.int u2), .val (.int u3)] [(.int u3), (.int ((u2 * u1) - ((u2 * (u2 - (1 : Int32))) / (2 : Int32))))])) (fun t k => XS.iloadN X0.here hx rfl (hb hby own_d1_11) rfl k) ?_
  refine own_by (g' := (mkF m 13 #[.val (.int u1), .val (.int u2), .val (.int u3)] [(.int (((u2 * u1) - ((u2 * (u2 - (1 : Int32))) / (2 : Int32))) + u3))])) (fun t k => XS.iadd X0.here hx rfl (hb hby own_d1_12) rfl k) ?_
  refine own_by (g' := (mkF m 14 #[.val (.int u1), .val (.int u2), .val (.int u3)] [(.int u2), (.int (((u2 * u1) - ((u2 * (u2 - (1 : Int32))) / (2 : Int32))) + u3))])) (fun t k => XS.iloadN X0.here hx rfl (hb hby own_d1_13) rfl k) ?_
  refine own_by (g' := (mkF m 15 #[.val (.int u1), .val (.int u2), .val (.int u3)] [(.int ((((u2 * u1) - ((u2 * (u2 - (1 : Int32))) / (2 : Int32))) + u3) - u2))])) (fun t k => XS.isub X0.here hx rfl (hb hby own_d1_14) rfl k) ?_
  refine own_retI X0 hx hlk hret (hb hby own_d1_15) (by decide) (by decide) ?_
  exact ⟨rfl, N0, e0⟩
theorem own_pn1 : plainName "com/example/ringfold/ringfold/ring/CovarianceAtPinLaw" = true := by first | (simp [plainName, overriddenIn]; done) | decide +kernel
theorem own_pd0 : parseMethodDescriptor "(III)I" = some ⟨[.int, .int, .int], some .int⟩ := by decide +kernel
def Q_own_law (Z : State) (u1 : Int32) (u2 : Int32) (u3 : Int32) (h0 : Heap) (n0 : Nat) (v : Option Value) (h : Heap) (L : List Loc) : Prop := v = some (.int (1 : Int32)) ∧ Fr n0 L ∧ h = h0
theorem own_ef_own_law (m : MethodId) (u1 : Int32) (u2 : Int32) (u3 : Int32) : entryFrame m #[(.int u1), (.int u2), (.int u3)] maxLocals = mkF m 0 #[.val (.int u1), .val (.int u2), .val (.int u3), .unset, .unset, .unset, .unset, .unset, .unset, .unset] [] := by first | (simp [entryFrame, mkF, argsToLocals, Value.category, maxLocals]; done) | rfl
set_option maxRecDepth 65536 in
set_option maxHeartbeats 40000000 in
theorem own_law (l : Launch) (Z : State) (a0 : Array Value) (hw : ∀ d ∈ tables_1, d.before a0 Z = true) (ws : List Jvm.Cond) (u1 : Int32) (u2 : Int32) (u3 : Int32) (h0 : Heap) (n0 : Nat) (Z0 : n0 ≤ h0.size)  :
    own_Ctr l Z x code maxLocals ret ws room_1 0 0 #[(.int u1), (.int u2), (.int u3)] h0 (Q_own_law Z u1 u2 u3 h0 n0) := by
  refine own_enter (plainFor_of_name own_pn1) ?_
  intro p e s m below meth c s₁ X0 hx hZ hby hml hown hnm hlk hret e0
  have N0 := Fr.nil n0
  refine own_cast (own_ef_own_law m u1 u2 u3) ?_
  refine own_by (g' := (mkF m 1 #[.val (.int u1), .val (.int u2), .val (.int u3), .unset, .unset, .unset, .unset, .unset, .unset, .unset] [(.int (1 : Int32))])) (fun t k => XS.iconst X0.here hx rfl (hb hby at_0) k) ?_
  refine own_by (g' := (mkF m 2 #[.val (.int u1), .val (.int u2), .val (.int u3), .unset, .unset, .unset, .unset, .unset, .unset, .unset] [(.int u1), (.int (1 : Int32))])) (fun t k => XS.iloadN X0.here hx rfl (hb hby at_1) rfl k) ?_
  refine own_by (g' := (mkF m 5 #[.val (.int u1), .val (.int u2), .val (.int u3), .unset, .unset, .unset, .unset, .unset, .unset, .unset] [(.int (32767 : Int32)), (.int u1), (.int (1 : Int32))])) (fun t k => XS.sipush X0.here hx rfl (hb hby at_2) k) ?_
  refine own_by (g' := (mkF m 6 #[.val (.int u1), .val (.int u2), .val (.int u3), .unset, .unset, .unset, .unset, .unset, .unset, .unset] [(.int (u1 &&& (32767 : Int32))), (.int (1 : Int32))])) (fun t k => XS.iand X0.here hx rfl (hb hby at_5) rfl k) ?_
  refine own_by (g' := (mkF m 7 #[.val (.int u1), .val (.int u2), .val (.int u3), .unset, .unset, .unset, .unset, .unset, .unset, .unset] [(.int ((1 : Int32) + (u1 &&& (32767 : Int32))))])) (fun t k => XS.iadd X0.here hx rfl (hb hby at_6) rfl k) ?_
  generalize hv101 : ((1 : Int32) + (u1 &&& (32767 : Int32))) = v101
  refine own_by (g' := (mkF m 8 #[.val (.int u1), .val (.int u2), .val (.int u3), .val (.int v101), .unset, .unset, .unset, .unset, .unset, .unset] [])) (fun t k => XS.istoreN X0.here hx rfl (hb hby at_7) rfl (l' := #[.val (.int u1), .val (.int u2), .val (.int u3), .val (.int v101), .unset, .unset, .unset, .unset, .unset, .unset]) rfl k) ?_
  obtain ⟨m1, m2⟩ := own_f3 hv101
  refine own_by (g' := (mkF m 9 #[.val (.int u1), .val (.int u2), .val (.int u3), .val (.int v101), .unset, .unset, .unset, .unset, .unset, .unset] [(.int u2)])) (fun t k => XS.iloadN X0.here hx rfl (hb hby at_8) rfl k) ?_
  refine own_by (g' := (mkF m 11 #[.val (.int u1), .val (.int u2), .val (.int u3), .val (.int v101), .unset, .unset, .unset, .unset, .unset, .unset] [(.int (2147483647 : Int32)), (.int u2)])) (fun t k => X0.ldcInt hx hown (mvT hZ (hw _ (List.mem_of_getElem? (i := 0) rfl))) (g := (mkF m 9 #[.val (.int u1), .val (.int u2), .val (.int u3), .val (.int v101), .unset, .unset, .unset, .unset, .unset, .unset] [(.int u2)])) rfl (hb hby at_9) t k) ?_
  refine own_by (g' := (mkF m 12 #[.val (.int u1), .val (.int u2), .val (.int u3), .val (.int v101), .unset, .unset, .unset, .unset, .unset, .unset] [(.int (u2 &&& (2147483647 : Int32)))])) (fun t k => XS.iand X0.here hx rfl (hb hby at_11) rfl k) ?_
  refine own_by (g' := (mkF m 13 #[.val (.int u1), .val (.int u2), .val (.int u3), .val (.int v101), .unset, .unset, .unset, .unset, .unset, .unset] [(.int v101), (.int (u2 &&& (2147483647 : Int32)))])) (fun t k => XS.iloadN X0.here hx rfl (hb hby at_12) rfl k) ?_
  refine own_by (g' := (mkF m 14 #[.val (.int u1), .val (.int u2), .val (.int u3), .val (.int v101), .unset, .unset, .unset, .unset, .unset, .unset] [(.int ((u2 &&& (2147483647 : Int32)) % v101))])) (fun t k => iremM X0 hx rfl (hb hby at_13) rfl (own_nz m1) k) ?_
  generalize hv102 : ((u2 &&& (2147483647 : Int32)) % v101) = v102
  refine own_by (g' := (mkF m 16 #[.val (.int u1), .val (.int u2), .val (.int u3), .val (.int v101), .val (.int v102), .unset, .unset, .unset, .unset, .unset] [])) (fun t k => XS.istore X0.here hx rfl (hb hby at_14) rfl (l' := #[.val (.int u1), .val (.int u2), .val (.int u3), .val (.int v101), .val (.int v102), .unset, .unset, .unset, .unset, .unset]) rfl k) ?_
  obtain ⟨i1, i2⟩ := own_f4 m1 hv102
  refine own_by (g' := (mkF m 18 #[.val (.int u1), .val (.int u2), .val (.int u3), .val (.int v101), .val (.int v102), .unset, .unset, .unset, .unset, .unset] [(.int v102)])) (fun t k => XS.iload X0.here hx rfl (hb hby at_16) rfl k) ?_
  refine own_by (g' := (mkF m 19 #[.val (.int u1), .val (.int u2), .val (.int u3), .val (.int v101), .val (.int v102), .unset, .unset, .unset, .unset, .unset] [(.int u3), (.int v102)])) (fun t k => XS.iloadN X0.here hx rfl (hb hby at_18) rfl k) ?_
  refine own_by (g' := (mkF m 21 #[.val (.int u1), .val (.int u2), .val (.int u3), .val (.int v101), .val (.int v102), .unset, .unset, .unset, .unset, .unset] [(.int (2147483647 : Int32)), (.int u3), (.int v102)])) (fun t k => X0.ldcInt hx hown (mvT hZ (hw _ (List.mem_of_getElem? (i := 0) rfl))) (g := (mkF m 19 #[.val (.int u1), .val (.int u2), .val (.int u3), .val (.int v101), .val (.int v102), .unset, .unset, .unset, .unset, .unset] [(.int u3), (.int v102)])) rfl (hb hby at_19) t k) ?_
  refine own_by (g' := (mkF m 22 #[.val (.int u1), .val (.int u2), .val (.int u3), .val (.int v101), .val (.int v102), .unset, .unset, .unset, .unset, .unset] [(.int (u3 &&& (2147483647 : Int32))), (.int v102)])) (fun t k => XS.iand X0.here hx rfl (hb hby at_21) rfl k) ?_
  refine own_by (g' := (mkF m 23 #[.val (.int u1), .val (.int u2), .val (.int u3), .val (.int v101), .val (.int v102), .unset, .unset, .unset, .unset, .unset] [(.int v101), (.int (u3 &&& (2147483647 : Int32))), (.int v102)])) (fun t k => XS.iloadN X0.here hx rfl (hb hby at_22) rfl k) ?_
  refine own_by (g' := (mkF m 25 #[.val (.int u1), .val (.int u2), .val (.int u3), .val (.int v101), .val (.int v102), .unset, .unset, .unset, .unset, .unset] [(.int v102), (.int v101), (.int (u3 &&& (2147483647 : Int32))), (.int v102)])) (fun t k => XS.iload X0.here hx rfl (hb hby at_23) rfl k) ?_
  refine own_by (g' := (mkF m 26 #[.val (.int u1), .val (.int u2), .val (.int u3), .val (.int v101), .val (.int v102), .unset, .unset, .unset, .unset, .unset] [(.int (v101 - v102)), (.int (u3 &&& (2147483647 : Int32))), (.int v102)])) (fun t k => XS.isub X0.here hx rfl (hb hby at_25) rfl k) ?_
  refine own_by (g' := (mkF m 27 #[.val (.int u1), .val (.int u2), .val (.int u3), .val (.int v101), .val (.int v102), .unset, .unset, .unset, .unset, .unset] [(.int ((u3 &&& (2147483647 : Int32)) % (v101 - v102))), (.int v102)])) (fun t k => iremM X0 hx rfl (hb hby at_26) rfl (own_nz (by rw [own_sub i1 i2]; omega)) k) ?_
  refine own_by (g' := (mkF m 28 #[.val (.int u1), .val (.int u2), .val (.int u3), .val (.int v101), .val (.int v102), .unset, .unset, .unset, .unset, .unset] [(.int (v102 + ((u3 &&& (2147483647 : Int32)) % (v101 - v102))))])) (fun t k => XS.iadd X0.here hx rfl (hb hby at_27) rfl k) ?_
  generalize hv103 : (v102 + ((u3 &&& (2147483647 : Int32)) % (v101 - v102))) = v103
  refine own_by (g' := (mkF m 30 #[.val (.int u1), .val (.int u2), .val (.int u3), .val (.int v101), .val (.int v102), .val (.int v103), .unset, .unset, .unset, .unset] [])) (fun t k => XS.istore X0.here hx rfl (hb hby at_28) rfl (l' := #[.val (.int u1), .val (.int u2), .val (.int u3), .val (.int v101), .val (.int v102), .val (.int v103), .unset, .unset, .unset, .unset]) rfl k) ?_
  obtain ⟨j1, j2⟩ := own_f5 i1 i2 hv103
  have bd := own_bd m2 i1 i2 j1 j2
  have lst := own_lastI m1 m2
  refine own_by (g' := (mkF m 31 #[.val (.int u1), .val (.int u2), .val (.int u3), .val (.int v101), .val (.int v102), .val (.int v103), .unset, .unset, .unset, .unset] [(.int v101)])) (fun t k => XS.iloadN X0.here hx rfl (hb hby at_30) rfl k) ?_
  refine own_by (g' := (mkF m 32 #[.val (.int u1), .val (.int u2), .val (.int u3), .val (.int v101), .val (.int v102), .val (.int v103), .unset, .unset, .unset, .unset] [(.int (0 : Int32)), (.int v101)])) (fun t k => XS.iconst X0.here hx rfl (hb hby at_31) k) ?_
  refine own_by (g' := (mkF m 33 #[.val (.int u1), .val (.int u2), .val (.int u3), .val (.int v101), .val (.int v102), .val (.int v103), .unset, .unset, .unset, .unset] [(.int (0 : Int32)), (.int (0 : Int32)), (.int v101)])) (fun t k => XS.iconst X0.here hx rfl (hb hby at_32) k) ?_
  refine own_callS X0 hx hZ hown (hw _ (List.mem_of_getElem? (i := 1) rfl)) (hw _ (List.mem_of_getElem? (i := 2) rfl)) (hw _ (List.mem_of_getElem? (i := 3) rfl)) (hw _ (List.mem_of_getElem? (i := 4) rfl)) (by decide) (own_cat l Z a0 hw [] (v101) ((0 : Int32)) ((0 : Int32)) h0 n0 Z0 ) 0 (by decide) (by decide) (by decide) (by decide) e0 (g := (mkF m 33 #[.val (.int u1), .val (.int u2), .val (.int u3), .val (.int v101), .val (.int v102), .val (.int v103), .unset, .unset, .unset, .unset] [(.int (0 : Int32)), (.int (0 : Int32)), (.int v101)])) rfl (by rw [hml]; rfl) (argsL := [(.int v101), (.int (0 : Int32)), (.int (0 : Int32))]) (rest := []) (lenOf own_pd0 rfl) rfl (by show 2 * 0 + _ ≤ _; exact Nat.le_of_eq rfl) (hb hby at_33) ?_
  intro v104 T104 L104 X104 q104
  obtain ⟨rfl, N104q, e104⟩ := q104
  have N104 := Fr.app N0 N104q
  show own_Goes p e below s _ _ _ T104 (mkF m 36 #[.val (.int u1), .val (.int u2), .val (.int u3), .val (.int v101), .val (.int v102), .val (.int v103), .unset, .unset, .unset, .unset] [(.int (own_at v101 (0 : Int32) (0 : Int32)))])
  refine own_by (g' := (mkF m 39 #[.val (.int u1), .val (.int u2), .val (.int u3), .val (.int v101), .val (.int v102), .val (.int v103), .unset, .unset, .unset, .unset] [])) (fun t k => XS.ifNo X104.here hx rfl (hb hby at_36) rfl ((if0 _ _).trans (teq (own_t0 m1 m2)).2) k) ?_
  refine own_by (g' := (mkF m 40 #[.val (.int u1), .val (.int u2), .val (.int u3), .val (.int v101), .val (.int v102), .val (.int v103), .unset, .unset, .unset, .unset] [(.int (1 : Int32))])) (fun t k => XS.iconst X104.here hx rfl (hb hby at_39) k) ?_
  refine own_by (g' := (mkF m 44 #[.val (.int u1), .val (.int u2), .val (.int u3), .val (.int v101), .val (.int v102), .val (.int v103), .unset, .unset, .unset, .unset] [(.int (1 : Int32))])) (fun t k => XS.goto X104.here hx rfl (pc0 := 40) (pc' := 44) rfl (hb hby at_40) (by decide) (by decide) k) ?_
  refine own_by (g' := (mkF m 46 #[.val (.int u1), .val (.int u2), .val (.int u3), .val (.int v101), .val (.int v102), .val (.int v103), .val (.int (1 : Int32)), .unset, .unset, .unset] [])) (fun t k => XS.istore X104.here hx rfl (hb hby at_44) rfl (l' := #[.val (.int u1), .val (.int u2), .val (.int u3), .val (.int v101), .val (.int v102), .val (.int v103), .val (.int (1 : Int32)), .unset, .unset, .unset]) rfl k) ?_
  refine own_by (g' := (mkF m 47 #[.val (.int u1), .val (.int u2), .val (.int u3), .val (.int v101), .val (.int v102), .val (.int v103), .val (.int (1 : Int32)), .unset, .unset, .unset] [(.int v101)])) (fun t k => XS.iloadN X104.here hx rfl (hb hby at_46) rfl k) ?_
  refine own_by (g' := (mkF m 49 #[.val (.int u1), .val (.int u2), .val (.int u3), .val (.int v101), .val (.int v102), .val (.int v103), .val (.int (1 : Int32)), .unset, .unset, .unset] [(.int v102), (.int v101)])) (fun t k => XS.iload X104.here hx rfl (hb hby at_47) rfl k) ?_
  refine own_by (g' := (mkF m 51 #[.val (.int u1), .val (.int u2), .val (.int u3), .val (.int v101), .val (.int v102), .val (.int v103), .val (.int (1 : Int32)), .unset, .unset, .unset] [(.int v103), (.int v102), (.int v101)])) (fun t k => XS.iload X104.here hx rfl (hb hby at_49) rfl k) ?_
  refine own_callS X104 hx hZ hown (hw _ (List.mem_of_getElem? (i := 1) rfl)) (hw _ (List.mem_of_getElem? (i := 2) rfl)) (hw _ (List.mem_of_getElem? (i := 3) rfl)) (hw _ (List.mem_of_getElem? (i := 4) rfl)) (by decide) (own_cat l Z a0 hw [] (v101) (v102) (v103) h0 n0 Z0 ) 0 (by decide) (by decide) (by decide) (by decide) e104 (g := (mkF m 51 #[.val (.int u1), .val (.int u2), .val (.int u3), .val (.int v101), .val (.int v102), .val (.int v103), .val (.int (1 : Int32)), .unset, .unset, .unset] [(.int v103), (.int v102), (.int v101)])) rfl (by rw [hml]; rfl) (argsL := [(.int v101), (.int v102), (.int v103)]) (rest := []) (lenOf own_pd0 rfl) rfl (by show 2 * 0 + _ ≤ _; exact Nat.le_of_eq rfl) (hb hby at_51) ?_
  intro v105 T105 L105 X105 q105
  obtain ⟨rfl, N105q, e105⟩ := q105
  have N105 := Fr.app N104 N105q
  show own_Goes p e below s _ _ _ T105 (mkF m 54 #[.val (.int u1), .val (.int u2), .val (.int u3), .val (.int v101), .val (.int v102), .val (.int v103), .val (.int (1 : Int32)), .unset, .unset, .unset] [(.int (own_at v101 v102 v103))])
  generalize hv106 : (own_at v101 v102 v103) = v106
  refine own_by (g' := (mkF m 56 #[.val (.int u1), .val (.int u2), .val (.int u3), .val (.int v101), .val (.int v102), .val (.int v103), .val (.int (1 : Int32)), .val (.int v106), .unset, .unset] [])) (fun t k => XS.istore X105.here hx rfl (hb hby at_54) rfl (l' := #[.val (.int u1), .val (.int u2), .val (.int u3), .val (.int v101), .val (.int v102), .val (.int v103), .val (.int (1 : Int32)), .val (.int v106), .unset, .unset]) rfl k) ?_
  refine own_by (g' := (mkF m 58 #[.val (.int u1), .val (.int u2), .val (.int u3), .val (.int v101), .val (.int v102), .val (.int v103), .val (.int (1 : Int32)), .val (.int v106), .unset, .unset] [(.int v103)])) (fun t k => XS.iload X105.here hx rfl (hb hby at_56) rfl k) ?_
  refine own_by (g' := (mkF m 59 #[.val (.int u1), .val (.int u2), .val (.int u3), .val (.int v101), .val (.int v102), .val (.int v103), .val (.int (1 : Int32)), .val (.int v106), .unset, .unset] [(.int (1 : Int32)), (.int v103)])) (fun t k => XS.iconst X105.here hx rfl (hb hby at_58) k) ?_
  refine own_by (g' := (mkF m 60 #[.val (.int u1), .val (.int u2), .val (.int u3), .val (.int v101), .val (.int v102), .val (.int v103), .val (.int (1 : Int32)), .val (.int v106), .unset, .unset] [(.int (v103 + (1 : Int32)))])) (fun t k => XS.iadd X105.here hx rfl (hb hby at_59) rfl k) ?_
  refine own_by (g' := (mkF m 61 #[.val (.int u1), .val (.int u2), .val (.int u3), .val (.int v101), .val (.int v102), .val (.int v103), .val (.int (1 : Int32)), .val (.int v106), .unset, .unset] [(.int v101), (.int (v103 + (1 : Int32)))])) (fun t k => XS.iloadN X105.here hx rfl (hb hby at_60) rfl k) ?_
  by_cases hc107 : (v103 + (1 : Int32)) < v101
  ·
    refine own_by (g' := (mkF m 64 #[.val (.int u1), .val (.int u2), .val (.int u3), .val (.int v101), .val (.int v102), .val (.int v103), .val (.int (1 : Int32)), .val (.int v106), .unset, .unset] [])) (fun t k => XS.icmpNo X105.here hx rfl (hb hby at_61) rfl (tlt hc107).2.1 k) ?_
    refine own_by (g' := (mkF m 66 #[.val (.int u1), .val (.int u2), .val (.int u3), .val (.int v101), .val (.int v102), .val (.int v103), .val (.int (1 : Int32)), .val (.int v106), .unset, .unset] [(.int (1 : Int32))])) (fun t k => XS.iload X105.here hx rfl (hb hby at_64) rfl k) ?_
    refine own_by (g' := (mkF m 69 #[.val (.int u1), .val (.int u2), .val (.int u3), .val (.int v101), .val (.int v102), .val (.int v103), .val (.int (1 : Int32)), .val (.int v106), .unset, .unset] [])) (fun t k => XS.ifNo X105.here hx rfl (hb hby at_66) rfl ((if0 _ _).trans (feq (by decide : ¬ ((1 : Int32) = (0 : Int32)))).1) k) ?_
    refine own_by (g' := (mkF m 70 #[.val (.int u1), .val (.int u2), .val (.int u3), .val (.int v101), .val (.int v102), .val (.int v103), .val (.int (1 : Int32)), .val (.int v106), .unset, .unset] [(.int v101)])) (fun t k => XS.iloadN X105.here hx rfl (hb hby at_69) rfl k) ?_
    refine own_by (g' := (mkF m 72 #[.val (.int u1), .val (.int u2), .val (.int u3), .val (.int v101), .val (.int v102), .val (.int v103), .val (.int (1 : Int32)), .val (.int v106), .unset, .unset] [(.int v102), (.int v101)])) (fun t k => XS.iload X105.here hx rfl (hb hby at_70) rfl k) ?_
    refine own_by (g' := (mkF m 74 #[.val (.int u1), .val (.int u2), .val (.int u3), .val (.int v101), .val (.int v102), .val (.int v103), .val (.int (1 : Int32)), .val (.int v106), .unset, .unset] [(.int v103), (.int v102), (.int v101)])) (fun t k => XS.iload X105.here hx rfl (hb hby at_72) rfl k) ?_
    refine own_by (g' := (mkF m 75 #[.val (.int u1), .val (.int u2), .val (.int u3), .val (.int v101), .val (.int v102), .val (.int v103), .val (.int (1 : Int32)), .val (.int v106), .unset, .unset] [(.int (1 : Int32)), (.int v103), (.int v102), (.int v101)])) (fun t k => XS.iconst X105.here hx rfl (hb hby at_74) k) ?_
    refine own_by (g' := (mkF m 76 #[.val (.int u1), .val (.int u2), .val (.int u3), .val (.int v101), .val (.int v102), .val (.int v103), .val (.int (1 : Int32)), .val (.int v106), .unset, .unset] [(.int (v103 + (1 : Int32))), (.int v102), (.int v101)])) (fun t k => XS.iadd X105.here hx rfl (hb hby at_75) rfl k) ?_
    refine own_callS X105 hx hZ hown (hw _ (List.mem_of_getElem? (i := 1) rfl)) (hw _ (List.mem_of_getElem? (i := 2) rfl)) (hw _ (List.mem_of_getElem? (i := 3) rfl)) (hw _ (List.mem_of_getElem? (i := 4) rfl)) (by decide) (own_cat l Z a0 hw [] (v101) (v102) ((v103 + (1 : Int32))) h0 n0 Z0 ) 0 (by decide) (by decide) (by decide) (by decide) e105 (g := (mkF m 76 #[.val (.int u1), .val (.int u2), .val (.int u3), .val (.int v101), .val (.int v102), .val (.int v103), .val (.int (1 : Int32)), .val (.int v106), .unset, .unset] [(.int (v103 + (1 : Int32))), (.int v102), (.int v101)])) rfl (by rw [hml]; rfl) (argsL := [(.int v101), (.int v102), (.int (v103 + (1 : Int32)))]) (rest := []) (lenOf own_pd0 rfl) rfl (by show 2 * 0 + _ ≤ _; exact Nat.le_of_eq rfl) (hb hby at_76) ?_
    intro v108 T108 L108 X108 q108
    obtain ⟨rfl, N108q, e108⟩ := q108
    have N108 := Fr.app N105 N108q
    show own_Goes p e below s _ _ _ T108 (mkF m 79 #[.val (.int u1), .val (.int u2), .val (.int u3), .val (.int v101), .val (.int v102), .val (.int v103), .val (.int (1 : Int32)), .val (.int v106), .unset, .unset] [(.int (own_at v101 v102 (v103 + (1 : Int32))))])
    refine own_by (g' := (mkF m 81 #[.val (.int u1), .val (.int u2), .val (.int u3), .val (.int v101), .val (.int v102), .val (.int v103), .val (.int (1 : Int32)), .val (.int v106), .unset, .unset] [(.int v106), (.int (own_at v101 v102 (v103 + (1 : Int32))))])) (fun t k => XS.iload X108.here hx rfl (hb hby at_79) rfl k) ?_
    refine own_by (g' := (mkF m 82 #[.val (.int u1), .val (.int u2), .val (.int u3), .val (.int v101), .val (.int v102), .val (.int v103), .val (.int (1 : Int32)), .val (.int v106), .unset, .unset] [(.int (1 : Int32)), (.int v106), (.int (own_at v101 v102 (v103 + (1 : Int32))))])) (fun t k => XS.iconst X108.here hx rfl (hb hby at_81) k) ?_
    refine own_by (g' := (mkF m 83 #[.val (.int u1), .val (.int u2), .val (.int u3), .val (.int v101), .val (.int v102), .val (.int v103), .val (.int (1 : Int32)), .val (.int v106), .unset, .unset] [(.int (v106 + (1 : Int32))), (.int (own_at v101 v102 (v103 + (1 : Int32))))])) (fun t k => XS.iadd X108.here hx rfl (hb hby at_82) rfl k) ?_
    refine own_by (g' := (mkF m 86 #[.val (.int u1), .val (.int u2), .val (.int u3), .val (.int v101), .val (.int v102), .val (.int v103), .val (.int (1 : Int32)), .val (.int v106), .unset, .unset] [])) (fun t k => XS.icmpNo X108.here hx rfl (hb hby at_83) rfl (teq (by rw [← hv106]; exact own_t1 m2 i1 i2 j1 j2 hc107)).2 k) ?_
    refine own_by (g' := (mkF m 87 #[.val (.int u1), .val (.int u2), .val (.int u3), .val (.int v101), .val (.int v102), .val (.int v103), .val (.int (1 : Int32)), .val (.int v106), .unset, .unset] [(.int (1 : Int32))])) (fun t k => XS.iconst X108.here hx rfl (hb hby at_86) k) ?_
    refine own_by (g' := (mkF m 91 #[.val (.int u1), .val (.int u2), .val (.int u3), .val (.int v101), .val (.int v102), .val (.int v103), .val (.int (1 : Int32)), .val (.int v106), .unset, .unset] [(.int (1 : Int32))])) (fun t k => XS.goto X108.here hx rfl (pc0 := 87) (pc' := 91) rfl (hb hby at_87) (by decide) (by decide) k) ?_
    refine own_by (g' := (mkF m 93 #[.val (.int u1), .val (.int u2), .val (.int u3), .val (.int v101), .val (.int v102), .val (.int v103), .val (.int (1 : Int32)), .val (.int v106), .unset, .unset] [])) (fun t k => XS.istore X108.here hx rfl (hb hby at_91) rfl (l' := #[.val (.int u1), .val (.int u2), .val (.int u3), .val (.int v101), .val (.int v102), .val (.int v103), .val (.int (1 : Int32)), .val (.int v106), .unset, .unset]) rfl k) ?_
    refine own_by (g' := (mkF m 95 #[.val (.int u1), .val (.int u2), .val (.int u3), .val (.int v101), .val (.int v102), .val (.int v103), .val (.int (1 : Int32)), .val (.int v106), .unset, .unset] [(.int v102)])) (fun t k => XS.iload X108.here hx rfl (hb hby at_93) rfl k) ?_
    refine own_by (g' := (mkF m 96 #[.val (.int u1), .val (.int u2), .val (.int u3), .val (.int v101), .val (.int v102), .val (.int v103), .val (.int (1 : Int32)), .val (.int v106), .unset, .unset] [(.int (1 : Int32)), (.int v102)])) (fun t k => XS.iconst X108.here hx rfl (hb hby at_95) k) ?_
    refine own_by (g' := (mkF m 97 #[.val (.int u1), .val (.int u2), .val (.int u3), .val (.int v101), .val (.int v102), .val (.int v103), .val (.int (1 : Int32)), .val (.int v106), .unset, .unset] [(.int (v102 + (1 : Int32)))])) (fun t k => XS.iadd X108.here hx rfl (hb hby at_96) rfl k) ?_
    refine own_by (g' := (mkF m 98 #[.val (.int u1), .val (.int u2), .val (.int u3), .val (.int v101), .val (.int v102), .val (.int v103), .val (.int (1 : Int32)), .val (.int v106), .unset, .unset] [(.int v101), (.int (v102 + (1 : Int32)))])) (fun t k => XS.iloadN X108.here hx rfl (hb hby at_97) rfl k) ?_
    by_cases hc109 : (v102 + (1 : Int32)) < v101
    ·
      refine own_by (g' := (mkF m 101 #[.val (.int u1), .val (.int u2), .val (.int u3), .val (.int v101), .val (.int v102), .val (.int v103), .val (.int (1 : Int32)), .val (.int v106), .unset, .unset] [])) (fun t k => XS.icmpNo X108.here hx rfl (hb hby at_98) rfl (tlt hc109).2.1 k) ?_
      refine own_by (g' := (mkF m 103 #[.val (.int u1), .val (.int u2), .val (.int u3), .val (.int v101), .val (.int v102), .val (.int v103), .val (.int (1 : Int32)), .val (.int v106), .unset, .unset] [(.int (1 : Int32))])) (fun t k => XS.iload X108.here hx rfl (hb hby at_101) rfl k) ?_
      refine own_by (g' := (mkF m 106 #[.val (.int u1), .val (.int u2), .val (.int u3), .val (.int v101), .val (.int v102), .val (.int v103), .val (.int (1 : Int32)), .val (.int v106), .unset, .unset] [])) (fun t k => XS.ifNo X108.here hx rfl (hb hby at_103) rfl ((if0 _ _).trans (feq (by decide : ¬ ((1 : Int32) = (0 : Int32)))).1) k) ?_
      refine own_by (g' := (mkF m 107 #[.val (.int u1), .val (.int u2), .val (.int u3), .val (.int v101), .val (.int v102), .val (.int v103), .val (.int (1 : Int32)), .val (.int v106), .unset, .unset] [(.int v101)])) (fun t k => XS.iloadN X108.here hx rfl (hb hby at_106) rfl k) ?_
      refine own_by (g' := (mkF m 109 #[.val (.int u1), .val (.int u2), .val (.int u3), .val (.int v101), .val (.int v102), .val (.int v103), .val (.int (1 : Int32)), .val (.int v106), .unset, .unset] [(.int v102), (.int v101)])) (fun t k => XS.iload X108.here hx rfl (hb hby at_107) rfl k) ?_
      refine own_by (g' := (mkF m 110 #[.val (.int u1), .val (.int u2), .val (.int u3), .val (.int v101), .val (.int v102), .val (.int v103), .val (.int (1 : Int32)), .val (.int v106), .unset, .unset] [(.int (1 : Int32)), (.int v102), (.int v101)])) (fun t k => XS.iconst X108.here hx rfl (hb hby at_109) k) ?_
      refine own_by (g' := (mkF m 111 #[.val (.int u1), .val (.int u2), .val (.int u3), .val (.int v101), .val (.int v102), .val (.int v103), .val (.int (1 : Int32)), .val (.int v106), .unset, .unset] [(.int (v102 + (1 : Int32))), (.int v101)])) (fun t k => XS.iadd X108.here hx rfl (hb hby at_110) rfl k) ?_
      refine own_by (g' := (mkF m 113 #[.val (.int u1), .val (.int u2), .val (.int u3), .val (.int v101), .val (.int v102), .val (.int v103), .val (.int (1 : Int32)), .val (.int v106), .unset, .unset] [(.int v102), (.int (v102 + (1 : Int32))), (.int v101)])) (fun t k => XS.iload X108.here hx rfl (hb hby at_111) rfl k) ?_
      refine own_by (g' := (mkF m 114 #[.val (.int u1), .val (.int u2), .val (.int u3), .val (.int v101), .val (.int v102), .val (.int v103), .val (.int (1 : Int32)), .val (.int v106), .unset, .unset] [(.int (1 : Int32)), (.int v102), (.int (v102 + (1 : Int32))), (.int v101)])) (fun t k => XS.iconst X108.here hx rfl (hb hby at_113) k) ?_
      refine own_by (g' := (mkF m 115 #[.val (.int u1), .val (.int u2), .val (.int u3), .val (.int v101), .val (.int v102), .val (.int v103), .val (.int (1 : Int32)), .val (.int v106), .unset, .unset] [(.int (v102 + (1 : Int32))), (.int (v102 + (1 : Int32))), (.int v101)])) (fun t k => XS.iadd X108.here hx rfl (hb hby at_114) rfl k) ?_
      refine own_callS X108 hx hZ hown (hw _ (List.mem_of_getElem? (i := 1) rfl)) (hw _ (List.mem_of_getElem? (i := 2) rfl)) (hw _ (List.mem_of_getElem? (i := 3) rfl)) (hw _ (List.mem_of_getElem? (i := 4) rfl)) (by decide) (own_cat l Z a0 hw [] (v101) ((v102 + (1 : Int32))) ((v102 + (1 : Int32))) h0 n0 Z0 ) 0 (by decide) (by decide) (by decide) (by decide) e108 (g := (mkF m 115 #[.val (.int u1), .val (.int u2), .val (.int u3), .val (.int v101), .val (.int v102), .val (.int v103), .val (.int (1 : Int32)), .val (.int v106), .unset, .unset] [(.int (v102 + (1 : Int32))), (.int (v102 + (1 : Int32))), (.int v101)])) rfl (by rw [hml]; rfl) (argsL := [(.int v101), (.int (v102 + (1 : Int32))), (.int (v102 + (1 : Int32)))]) (rest := []) (lenOf own_pd0 rfl) rfl (by show 2 * 0 + _ ≤ _; exact Nat.le_of_eq rfl) (hb hby at_115) ?_
      intro v110 T110 L110 X110 q110
      obtain ⟨rfl, N110q, e110⟩ := q110
      have N110 := Fr.app N108 N110q
      show own_Goes p e below s _ _ _ T110 (mkF m 118 #[.val (.int u1), .val (.int u2), .val (.int u3), .val (.int v101), .val (.int v102), .val (.int v103), .val (.int (1 : Int32)), .val (.int v106), .unset, .unset] [(.int (own_at v101 (v102 + (1 : Int32)) (v102 + (1 : Int32))))])
      refine own_by (g' := (mkF m 119 #[.val (.int u1), .val (.int u2), .val (.int u3), .val (.int v101), .val (.int v102), .val (.int v103), .val (.int (1 : Int32)), .val (.int v106), .unset, .unset] [(.int v101), (.int (own_at v101 (v102 + (1 : Int32)) (v102 + (1 : Int32))))])) (fun t k => XS.iloadN X110.here hx rfl (hb hby at_118) rfl k) ?_
      refine own_by (g' := (mkF m 121 #[.val (.int u1), .val (.int u2), .val (.int u3), .val (.int v101), .val (.int v102), .val (.int v103), .val (.int (1 : Int32)), .val (.int v106), .unset, .unset] [(.int v102), (.int v101), (.int (own_at v101 (v102 + (1 : Int32)) (v102 + (1 : Int32))))])) (fun t k => XS.iload X110.here hx rfl (hb hby at_119) rfl k) ?_
      refine own_by (g' := (mkF m 122 #[.val (.int u1), .val (.int u2), .val (.int u3), .val (.int v101), .val (.int v102), .val (.int v103), .val (.int (1 : Int32)), .val (.int v106), .unset, .unset] [(.int v101), (.int v102), (.int v101), (.int (own_at v101 (v102 + (1 : Int32)) (v102 + (1 : Int32))))])) (fun t k => XS.iloadN X110.here hx rfl (hb hby at_121) rfl k) ?_
      refine own_by (g' := (mkF m 123 #[.val (.int u1), .val (.int u2), .val (.int u3), .val (.int v101), .val (.int v102), .val (.int v103), .val (.int (1 : Int32)), .val (.int v106), .unset, .unset] [(.int (1 : Int32)), (.int v101), (.int v102), (.int v101), (.int (own_at v101 (v102 + (1 : Int32)) (v102 + (1 : Int32))))])) (fun t k => XS.iconst X110.here hx rfl (hb hby at_122) k) ?_
      refine own_by (g' := (mkF m 124 #[.val (.int u1), .val (.int u2), .val (.int u3), .val (.int v101), .val (.int v102), .val (.int v103), .val (.int (1 : Int32)), .val (.int v106), .unset, .unset] [(.int (v101 - (1 : Int32))), (.int v102), (.int v101), (.int (own_at v101 (v102 + (1 : Int32)) (v102 + (1 : Int32))))])) (fun t k => XS.isub X110.here hx rfl (hb hby at_123) rfl k) ?_
      refine own_callS X110 hx hZ hown (hw _ (List.mem_of_getElem? (i := 1) rfl)) (hw _ (List.mem_of_getElem? (i := 2) rfl)) (hw _ (List.mem_of_getElem? (i := 3) rfl)) (hw _ (List.mem_of_getElem? (i := 4) rfl)) (by decide) (own_cat l Z a0 hw [] (v101) (v102) ((v101 - (1 : Int32))) h0 n0 Z0 ) 1 (by decide) (by decide) (by decide) (by decide) e110 (g := (mkF m 124 #[.val (.int u1), .val (.int u2), .val (.int u3), .val (.int v101), .val (.int v102), .val (.int v103), .val (.int (1 : Int32)), .val (.int v106), .unset, .unset] [(.int (v101 - (1 : Int32))), (.int v102), (.int v101), (.int (own_at v101 (v102 + (1 : Int32)) (v102 + (1 : Int32))))])) rfl (by rw [hml]; rfl) (argsL := [(.int v101), (.int v102), (.int (v101 - (1 : Int32)))]) (rest := [(.int (own_at v101 (v102 + (1 : Int32)) (v102 + (1 : Int32))))]) (lenOf own_pd0 rfl) rfl (by show 2 * 0 + _ ≤ _; exact Nat.le_of_eq rfl) (hb hby at_124) ?_
      intro v111 T111 L111 X111 q111
      obtain ⟨rfl, N111q, e111⟩ := q111
      have N111 := Fr.app N110 N111q
      show own_Goes p e below s _ _ _ T111 (mkF m 127 #[.val (.int u1), .val (.int u2), .val (.int u3), .val (.int v101), .val (.int v102), .val (.int v103), .val (.int (1 : Int32)), .val (.int v106), .unset, .unset] [(.int (own_at v101 v102 (v101 - (1 : Int32)))), (.int (own_at v101 (v102 + (1 : Int32)) (v102 + (1 : Int32))))])
      refine own_by (g' := (mkF m 128 #[.val (.int u1), .val (.int u2), .val (.int u3), .val (.int v101), .val (.int v102), .val (.int v103), .val (.int (1 : Int32)), .val (.int v106), .unset, .unset] [(.int (1 : Int32)), (.int (own_at v101 v102 (v101 - (1 : Int32)))), (.int (own_at v101 (v102 + (1 : Int32)) (v102 + (1 : Int32))))])) (fun t k => XS.iconst X111.here hx rfl (hb hby at_127) k) ?_
      refine own_by (g' := (mkF m 129 #[.val (.int u1), .val (.int u2), .val (.int u3), .val (.int v101), .val (.int v102), .val (.int v103), .val (.int (1 : Int32)), .val (.int v106), .unset, .unset] [(.int ((own_at v101 v102 (v101 - (1 : Int32))) + (1 : Int32))), (.int (own_at v101 (v102 + (1 : Int32)) (v102 + (1 : Int32))))])) (fun t k => XS.iadd X111.here hx rfl (hb hby at_128) rfl k) ?_
      refine own_by (g' := (mkF m 132 #[.val (.int u1), .val (.int u2), .val (.int u3), .val (.int v101), .val (.int v102), .val (.int v103), .val (.int (1 : Int32)), .val (.int v106), .unset, .unset] [])) (fun t k => XS.icmpNo X111.here hx rfl (hb hby at_129) rfl (teq (own_t2 m2 i1 i2 hc109)).2 k) ?_
      refine own_by (g' := (mkF m 133 #[.val (.int u1), .val (.int u2), .val (.int u3), .val (.int v101), .val (.int v102), .val (.int v103), .val (.int (1 : Int32)), .val (.int v106), .unset, .unset] [(.int (1 : Int32))])) (fun t k => XS.iconst X111.here hx rfl (hb hby at_132) k) ?_
      refine own_by (g' := (mkF m 137 #[.val (.int u1), .val (.int u2), .val (.int u3), .val (.int v101), .val (.int v102), .val (.int v103), .val (.int (1 : Int32)), .val (.int v106), .unset, .unset] [(.int (1 : Int32))])) (fun t k => XS.goto X111.here hx rfl (pc0 := 133) (pc' := 137) rfl (hb hby at_133) (by decide) (by decide) k) ?_
      refine own_by (g' := (mkF m 139 #[.val (.int u1), .val (.int u2), .val (.int u3), .val (.int v101), .val (.int v102), .val (.int v103), .val (.int (1 : Int32)), .val (.int v106), .unset, .unset] [])) (fun t k => XS.istore X111.here hx rfl (hb hby at_137) rfl (l' := #[.val (.int u1), .val (.int u2), .val (.int u3), .val (.int v101), .val (.int v102), .val (.int v103), .val (.int (1 : Int32)), .val (.int v106), .unset, .unset]) rfl k) ?_
      refine own_by (g' := (mkF m 140 #[.val (.int u1), .val (.int u2), .val (.int u3), .val (.int v101), .val (.int v102), .val (.int v103), .val (.int (1 : Int32)), .val (.int v106), .unset, .unset] [(.int v101)])) (fun t k => XS.iloadN X111.here hx rfl (hb hby at_139) rfl k) ?_
      refine own_by (g' := (mkF m 141 #[.val (.int u1), .val (.int u2), .val (.int u3), .val (.int v101), .val (.int v102), .val (.int v103), .val (.int (1 : Int32)), .val (.int v106), .unset, .unset] [(.long (v101).toInt64)])) (fun t k => XS.i2l X111.here hx rfl (hb hby at_140) rfl k) ?_
      refine own_by (g' := (mkF m 142 #[.val (.int u1), .val (.int u2), .val (.int u3), .val (.int v101), .val (.int v102), .val (.int v103), .val (.int (1 : Int32)), .val (.int v106), .unset, .unset] [(.int v101), (.long (v101).toInt64)])) (fun t k => XS.iloadN X111.here hx rfl (hb hby at_141) rfl k) ?_
      refine own_by (g' := (mkF m 143 #[.val (.int u1), .val (.int u2), .val (.int u3), .val (.int v101), .val (.int v102), .val (.int v103), .val (.int (1 : Int32)), .val (.int v106), .unset, .unset] [(.int (1 : Int32)), (.int v101), (.long (v101).toInt64)])) (fun t k => XS.iconst X111.here hx rfl (hb hby at_142) k) ?_
      refine own_by (g' := (mkF m 144 #[.val (.int u1), .val (.int u2), .val (.int u3), .val (.int v101), .val (.int v102), .val (.int v103), .val (.int (1 : Int32)), .val (.int v106), .unset, .unset] [(.int (v101 + (1 : Int32))), (.long (v101).toInt64)])) (fun t k => XS.iadd X111.here hx rfl (hb hby at_143) rfl k) ?_
      refine own_by (g' := (mkF m 145 #[.val (.int u1), .val (.int u2), .val (.int u3), .val (.int v101), .val (.int v102), .val (.int v103), .val (.int (1 : Int32)), .val (.int v106), .unset, .unset] [(.long ((v101 + (1 : Int32))).toInt64), (.long (v101).toInt64)])) (fun t k => XS.i2l X111.here hx rfl (hb hby at_144) rfl k) ?_
      refine own_by (g' := (mkF m 146 #[.val (.int u1), .val (.int u2), .val (.int u3), .val (.int v101), .val (.int v102), .val (.int v103), .val (.int (1 : Int32)), .val (.int v106), .unset, .unset] [(.long ((v101).toInt64 * ((v101 + (1 : Int32))).toInt64))])) (fun t k => XS.lmul X111.here hx rfl (hb hby at_145) rfl k) ?_
      refine own_by (g' := (mkF m 149 #[.val (.int u1), .val (.int u2), .val (.int u3), .val (.int v101), .val (.int v102), .val (.int v103), .val (.int (1 : Int32)), .val (.int v106), .unset, .unset] [(.long (2 : Int64)), (.long ((v101).toInt64 * ((v101 + (1 : Int32))).toInt64))])) (fun t k => X111.ldc2Long hx hown (mvT hZ (hw _ (List.mem_of_getElem? (i := 5) rfl))) (g := (mkF m 146 #[.val (.int u1), .val (.int u2), .val (.int u3), .val (.int v101), .val (.int v102), .val (.int v103), .val (.int (1 : Int32)), .val (.int v106), .unset, .unset] [(.long ((v101).toInt64 * ((v101 + (1 : Int32))).toInt64))])) rfl (hb hby at_146) t k) ?_
      refine own_by (g' := (mkF m 150 #[.val (.int u1), .val (.int u2), .val (.int u3), .val (.int v101), .val (.int v102), .val (.int v103), .val (.int (1 : Int32)), .val (.int v106), .unset, .unset] [(.long (((v101).toInt64 * ((v101 + (1 : Int32))).toInt64) / (2 : Int64)))])) (fun t k => XS.ldiv X111.here hx rfl (hb hby at_149) rfl (by decide) k) ?_
      refine own_by (g' := (mkF m 151 #[.val (.int u1), .val (.int u2), .val (.int u3), .val (.int v101), .val (.int v102), .val (.int v103), .val (.int (1 : Int32)), .val (.int v106), .unset, .unset] [(.long (1 : Int64)), (.long (((v101).toInt64 * ((v101 + (1 : Int32))).toInt64) / (2 : Int64)))])) (fun t k => XS.lconst X111.here hx rfl (hb hby at_150) k) ?_
      refine own_by (g' := (mkF m 152 #[.val (.int u1), .val (.int u2), .val (.int u3), .val (.int v101), .val (.int v102), .val (.int v103), .val (.int (1 : Int32)), .val (.int v106), .unset, .unset] [(.long ((((v101).toInt64 * ((v101 + (1 : Int32))).toInt64) / (2 : Int64)) - (1 : Int64)))])) (fun t k => XS.lsub X111.here hx rfl (hb hby at_151) rfl k) ?_
      generalize hv112 : ((((v101).toInt64 * ((v101 + (1 : Int32))).toInt64) / (2 : Int64)) - (1 : Int64)) = v112
      refine own_by (g' := (mkF m 154 #[.val (.int u1), .val (.int u2), .val (.int u3), .val (.int v101), .val (.int v102), .val (.int v103), .val (.int (1 : Int32)), .val (.int v106), .val (.long v112), .second] [])) (fun t k => XS.lstore X111.here hx rfl (hb hby at_152) rfl (l' := #[.val (.int u1), .val (.int u2), .val (.int u3), .val (.int v101), .val (.int v102), .val (.int v103), .val (.int (1 : Int32)), .val (.int v106), .val (.long v112), .second]) rfl k) ?_
      refine own_by (g' := (mkF m 156 #[.val (.int u1), .val (.int u2), .val (.int u3), .val (.int v101), .val (.int v102), .val (.int v103), .val (.int (1 : Int32)), .val (.int v106), .val (.long v112), .second] [(.int (1 : Int32))])) (fun t k => XS.iload X111.here hx rfl (hb hby at_154) rfl k) ?_
      refine own_by (g' := (mkF m 159 #[.val (.int u1), .val (.int u2), .val (.int u3), .val (.int v101), .val (.int v102), .val (.int v103), .val (.int (1 : Int32)), .val (.int v106), .val (.long v112), .second] [])) (fun t k => XS.ifNo X111.here hx rfl (hb hby at_156) rfl ((if0 _ _).trans (feq (by decide : ¬ ((1 : Int32) = (0 : Int32)))).1) k) ?_
      refine own_by (g' := (mkF m 160 #[.val (.int u1), .val (.int u2), .val (.int u3), .val (.int v101), .val (.int v102), .val (.int v103), .val (.int (1 : Int32)), .val (.int v106), .val (.long v112), .second] [(.int v101)])) (fun t k => XS.iloadN X111.here hx rfl (hb hby at_159) rfl k) ?_
      refine own_by (g' := (mkF m 161 #[.val (.int u1), .val (.int u2), .val (.int u3), .val (.int v101), .val (.int v102), .val (.int v103), .val (.int (1 : Int32)), .val (.int v106), .val (.long v112), .second] [(.int v101), (.int v101)])) (fun t k => XS.iloadN X111.here hx rfl (hb hby at_160) rfl k) ?_
      refine own_by (g' := (mkF m 162 #[.val (.int u1), .val (.int u2), .val (.int u3), .val (.int v101), .val (.int v102), .val (.int v103), .val (.int (1 : Int32)), .val (.int v106), .val (.long v112), .second] [(.int (1 : Int32)), (.int v101), (.int v101)])) (fun t k => XS.iconst X111.here hx rfl (hb hby at_161) k) ?_
      refine own_by (g' := (mkF m 163 #[.val (.int u1), .val (.int u2), .val (.int u3), .val (.int v101), .val (.int v102), .val (.int v103), .val (.int (1 : Int32)), .val (.int v106), .val (.long v112), .second] [(.int (v101 - (1 : Int32))), (.int v101)])) (fun t k => XS.isub X111.here hx rfl (hb hby at_162) rfl k) ?_
      refine own_by (g' := (mkF m 164 #[.val (.int u1), .val (.int u2), .val (.int u3), .val (.int v101), .val (.int v102), .val (.int v103), .val (.int (1 : Int32)), .val (.int v106), .val (.long v112), .second] [(.int v101), (.int (v101 - (1 : Int32))), (.int v101)])) (fun t k => XS.iloadN X111.here hx rfl (hb hby at_163) rfl k) ?_
      refine own_by (g' := (mkF m 165 #[.val (.int u1), .val (.int u2), .val (.int u3), .val (.int v101), .val (.int v102), .val (.int v103), .val (.int (1 : Int32)), .val (.int v106), .val (.long v112), .second] [(.int (1 : Int32)), (.int v101), (.int (v101 - (1 : Int32))), (.int v101)])) (fun t k => XS.iconst X111.here hx rfl (hb hby at_164) k) ?_
      refine own_by (g' := (mkF m 166 #[.val (.int u1), .val (.int u2), .val (.int u3), .val (.int v101), .val (.int v102), .val (.int v103), .val (.int (1 : Int32)), .val (.int v106), .val (.long v112), .second] [(.int (v101 - (1 : Int32))), (.int (v101 - (1 : Int32))), (.int v101)])) (fun t k => XS.isub X111.here hx rfl (hb hby at_165) rfl k) ?_
      refine own_callS X111 hx hZ hown (hw _ (List.mem_of_getElem? (i := 1) rfl)) (hw _ (List.mem_of_getElem? (i := 2) rfl)) (hw _ (List.mem_of_getElem? (i := 3) rfl)) (hw _ (List.mem_of_getElem? (i := 4) rfl)) (by decide) (own_cat l Z a0 hw [] (v101) ((v101 - (1 : Int32))) ((v101 - (1 : Int32))) h0 n0 Z0 ) 0 (by decide) (by decide) (by decide) (by decide) e111 (g := (mkF m 166 #[.val (.int u1), .val (.int u2), .val (.int u3), .val (.int v101), .val (.int v102), .val (.int v103), .val (.int (1 : Int32)), .val (.int v106), .val (.long v112), .second] [(.int (v101 - (1 : Int32))), (.int (v101 - (1 : Int32))), (.int v101)])) rfl (by rw [hml]; rfl) (argsL := [(.int v101), (.int (v101 - (1 : Int32))), (.int (v101 - (1 : Int32)))]) (rest := []) (lenOf own_pd0 rfl) rfl (by show 2 * 0 + _ ≤ _; exact Nat.le_of_eq rfl) (hb hby at_166) ?_
      intro v113 T113 L113 X113 q113
      obtain ⟨rfl, N113q, e113⟩ := q113
      have N113 := Fr.app N111 N113q
      show own_Goes p e below s _ _ _ T113 (mkF m 169 #[.val (.int u1), .val (.int u2), .val (.int u3), .val (.int v101), .val (.int v102), .val (.int v103), .val (.int (1 : Int32)), .val (.int v106), .val (.long v112), .second] [(.int (own_at v101 (v101 - (1 : Int32)) (v101 - (1 : Int32))))])
      refine own_by (g' := (mkF m 170 #[.val (.int u1), .val (.int u2), .val (.int u3), .val (.int v101), .val (.int v102), .val (.int v103), .val (.int (1 : Int32)), .val (.int v106), .val (.long v112), .second] [(.long ((own_at v101 (v101 - (1 : Int32)) (v101 - (1 : Int32)))).toInt64)])) (fun t k => XS.i2l X113.here hx rfl (hb hby at_169) rfl k) ?_
      refine own_by (g' := (mkF m 172 #[.val (.int u1), .val (.int u2), .val (.int u3), .val (.int v101), .val (.int v102), .val (.int v103), .val (.int (1 : Int32)), .val (.int v106), .val (.long v112), .second] [(.long v112), (.long ((own_at v101 (v101 - (1 : Int32)) (v101 - (1 : Int32)))).toInt64)])) (fun t k => XS.lload X113.here hx rfl (hb hby at_170) rfl k) ?_
      refine own_by (g' := (mkF m 173 #[.val (.int u1), .val (.int u2), .val (.int u3), .val (.int v101), .val (.int v102), .val (.int v103), .val (.int (1 : Int32)), .val (.int v106), .val (.long v112), .second] [(.int (lcmpW ((own_at v101 (v101 - (1 : Int32)) (v101 - (1 : Int32)))).toInt64 v112))])) (fun t k => XS.lcmp X113.here hx rfl (hb hby at_172) rfl k) ?_
      refine own_by (g' := (mkF m 176 #[.val (.int u1), .val (.int u2), .val (.int u3), .val (.int v101), .val (.int v102), .val (.int v103), .val (.int (1 : Int32)), .val (.int v106), .val (.long v112), .second] [])) (fun t k => XS.ifNo X113.here hx rfl (hb hby at_173) rfl ((if0 _ _).trans (teq ((lw_eq ((own_at v101 (v101 - (1 : Int32)) (v101 - (1 : Int32)))).toInt64 v112).mpr ((by rw [← hv112]; exact own_t3 m1 m2) : ((own_at v101 (v101 - (1 : Int32)) (v101 - (1 : Int32)))).toInt64 = v112))).2) k) ?_
      refine own_by (g' := (mkF m 177 #[.val (.int u1), .val (.int u2), .val (.int u3), .val (.int v101), .val (.int v102), .val (.int v103), .val (.int (1 : Int32)), .val (.int v106), .val (.long v112), .second] [(.int (1 : Int32))])) (fun t k => XS.iconst X113.here hx rfl (hb hby at_176) k) ?_
      refine own_by (g' := (mkF m 181 #[.val (.int u1), .val (.int u2), .val (.int u3), .val (.int v101), .val (.int v102), .val (.int v103), .val (.int (1 : Int32)), .val (.int v106), .val (.long v112), .second] [(.int (1 : Int32))])) (fun t k => XS.goto X113.here hx rfl (pc0 := 177) (pc' := 181) rfl (hb hby at_177) (by decide) (by decide) k) ?_
      refine own_by (g' := (mkF m 183 #[.val (.int u1), .val (.int u2), .val (.int u3), .val (.int v101), .val (.int v102), .val (.int v103), .val (.int (1 : Int32)), .val (.int v106), .val (.long v112), .second] [])) (fun t k => XS.istore X113.here hx rfl (hb hby at_181) rfl (l' := #[.val (.int u1), .val (.int u2), .val (.int u3), .val (.int v101), .val (.int v102), .val (.int v103), .val (.int (1 : Int32)), .val (.int v106), .val (.long v112), .second]) rfl k) ?_
      refine own_by (g' := (mkF m 185 #[.val (.int u1), .val (.int u2), .val (.int u3), .val (.int v101), .val (.int v102), .val (.int v103), .val (.int (1 : Int32)), .val (.int v106), .val (.long v112), .second] [(.int (1 : Int32))])) (fun t k => XS.iload X113.here hx rfl (hb hby at_183) rfl k) ?_
      refine own_by (g' := (mkF m 188 #[.val (.int u1), .val (.int u2), .val (.int u3), .val (.int v101), .val (.int v102), .val (.int v103), .val (.int (1 : Int32)), .val (.int v106), .val (.long v112), .second] [])) (fun t k => XS.ifNo X113.here hx rfl (hb hby at_185) rfl ((if0 _ _).trans (feq (by decide : ¬ ((1 : Int32) = (0 : Int32)))).1) k) ?_
      refine own_by (g' := (mkF m 190 #[.val (.int u1), .val (.int u2), .val (.int u3), .val (.int v101), .val (.int v102), .val (.int v103), .val (.int (1 : Int32)), .val (.int v106), .val (.long v112), .second] [(.int v106)])) (fun t k => XS.iload X113.here hx rfl (hb hby at_188) rfl k) ?_
      refine own_by (g' := (mkF m 193 #[.val (.int u1), .val (.int u2), .val (.int u3), .val (.int v101), .val (.int v102), .val (.int v103), .val (.int (1 : Int32)), .val (.int v106), .val (.long v112), .second] [])) (fun t k => XS.ifNo X113.here hx rfl (hb hby at_190) rfl ((if0 _ _).trans (flt (by rw [← hv106, Int32.lt_iff_toInt_lt, show (0 : Int32).toInt = 0 from by decide]; omega)).1) k) ?_
      refine own_by (g' := (mkF m 195 #[.val (.int u1), .val (.int u2), .val (.int u3), .val (.int v101), .val (.int v102), .val (.int v103), .val (.int (1 : Int32)), .val (.int v106), .val (.long v112), .second] [(.int v106)])) (fun t k => XS.iload X113.here hx rfl (hb hby at_193) rfl k) ?_
      refine own_by (g' := (mkF m 196 #[.val (.int u1), .val (.int u2), .val (.int u3), .val (.int v101), .val (.int v102), .val (.int v103), .val (.int (1 : Int32)), .val (.int v106), .val (.long v112), .second] [(.long (v106).toInt64)])) (fun t k => XS.i2l X113.here hx rfl (hb hby at_195) rfl k) ?_
      refine own_by (g' := (mkF m 198 #[.val (.int u1), .val (.int u2), .val (.int u3), .val (.int v101), .val (.int v102), .val (.int v103), .val (.int (1 : Int32)), .val (.int v106), .val (.long v112), .second] [(.long v112), (.long (v106).toInt64)])) (fun t k => XS.lload X113.here hx rfl (hb hby at_196) rfl k) ?_
      refine own_by (g' := (mkF m 199 #[.val (.int u1), .val (.int u2), .val (.int u3), .val (.int v101), .val (.int v102), .val (.int v103), .val (.int (1 : Int32)), .val (.int v106), .val (.long v112), .second] [(.int (lcmpW (v106).toInt64 v112))])) (fun t k => XS.lcmp X113.here hx rfl (hb hby at_198) rfl k) ?_
      refine own_by (g' := (mkF m 202 #[.val (.int u1), .val (.int u2), .val (.int u3), .val (.int v101), .val (.int v102), .val (.int v103), .val (.int (1 : Int32)), .val (.int v106), .val (.long v112), .second] [])) (fun t k => XS.ifNo X113.here hx rfl (hb hby at_199) rfl ((if0 _ _).trans (flt (fun q => ((own_t5 hv112 lst (by rw [← hv106]; exact bd.2)) : ¬ (v112 < (v106).toInt64)) ((lw_gt (v106).toInt64 v112).mp q))).2.2.1) k) ?_
      refine own_by (g' := (mkF m 203 #[.val (.int u1), .val (.int u2), .val (.int u3), .val (.int v101), .val (.int v102), .val (.int v103), .val (.int (1 : Int32)), .val (.int v106), .val (.long v112), .second] [(.int (1 : Int32))])) (fun t k => XS.iconst X113.here hx rfl (hb hby at_202) k) ?_
      refine own_by (g' := (mkF m 207 #[.val (.int u1), .val (.int u2), .val (.int u3), .val (.int v101), .val (.int v102), .val (.int v103), .val (.int (1 : Int32)), .val (.int v106), .val (.long v112), .second] [(.int (1 : Int32))])) (fun t k => XS.goto X113.here hx rfl (pc0 := 203) (pc' := 207) rfl (hb hby at_203) (by decide) (by decide) k) ?_
      refine own_by (g' := (mkF m 209 #[.val (.int u1), .val (.int u2), .val (.int u3), .val (.int v101), .val (.int v102), .val (.int v103), .val (.int (1 : Int32)), .val (.int v106), .val (.long v112), .second] [])) (fun t k => XS.istore X113.here hx rfl (hb hby at_207) rfl (l' := #[.val (.int u1), .val (.int u2), .val (.int u3), .val (.int v101), .val (.int v102), .val (.int v103), .val (.int (1 : Int32)), .val (.int v106), .val (.long v112), .second]) rfl k) ?_
      refine own_by (g' := (mkF m 211 #[.val (.int u1), .val (.int u2), .val (.int u3), .val (.int v101), .val (.int v102), .val (.int v103), .val (.int (1 : Int32)), .val (.int v106), .val (.long v112), .second] [(.int (1 : Int32))])) (fun t k => XS.iload X113.here hx rfl (hb hby at_209) rfl k) ?_
      refine own_retN X113 hx hlk hret (t := .boolean) (by simp) (hb hby at_211) (by decide) (by decide) ?_
      exact ⟨rfl, N113, e113⟩
    ·
      refine own_by (g' := (mkF m 139 #[.val (.int u1), .val (.int u2), .val (.int u3), .val (.int v101), .val (.int v102), .val (.int v103), .val (.int (1 : Int32)), .val (.int v106), .unset, .unset] [])) (fun t k => XS.icmpYes X108.here hx rfl (pc0 := 98) (pc' := 139) rfl (hb hby at_98) rfl (flt hc109).2.1 (by decide) (by decide) k) ?_
      refine own_by (g' := (mkF m 140 #[.val (.int u1), .val (.int u2), .val (.int u3), .val (.int v101), .val (.int v102), .val (.int v103), .val (.int (1 : Int32)), .val (.int v106), .unset, .unset] [(.int v101)])) (fun t k => XS.iloadN X108.here hx rfl (hb hby at_139) rfl k) ?_
      refine own_by (g' := (mkF m 141 #[.val (.int u1), .val (.int u2), .val (.int u3), .val (.int v101), .val (.int v102), .val (.int v103), .val (.int (1 : Int32)), .val (.int v106), .unset, .unset] [(.long (v101).toInt64)])) (fun t k => XS.i2l X108.here hx rfl (hb hby at_140) rfl k) ?_
      refine own_by (g' := (mkF m 142 #[.val (.int u1), .val (.int u2), .val (.int u3), .val (.int v101), .val (.int v102), .val (.int v103), .val (.int (1 : Int32)), .val (.int v106), .unset, .unset] [(.int v101), (.long (v101).toInt64)])) (fun t k => XS.iloadN X108.here hx rfl (hb hby at_141) rfl k) ?_
      refine own_by (g' := (mkF m 143 #[.val (.int u1), .val (.int u2), .val (.int u3), .val (.int v101), .val (.int v102), .val (.int v103), .val (.int (1 : Int32)), .val (.int v106), .unset, .unset] [(.int (1 : Int32)), (.int v101), (.long (v101).toInt64)])) (fun t k => XS.iconst X108.here hx rfl (hb hby at_142) k) ?_
      refine own_by (g' := (mkF m 144 #[.val (.int u1), .val (.int u2), .val (.int u3), .val (.int v101), .val (.int v102), .val (.int v103), .val (.int (1 : Int32)), .val (.int v106), .unset, .unset] [(.int (v101 + (1 : Int32))), (.long (v101).toInt64)])) (fun t k => XS.iadd X108.here hx rfl (hb hby at_143) rfl k) ?_
      refine own_by (g' := (mkF m 145 #[.val (.int u1), .val (.int u2), .val (.int u3), .val (.int v101), .val (.int v102), .val (.int v103), .val (.int (1 : Int32)), .val (.int v106), .unset, .unset] [(.long ((v101 + (1 : Int32))).toInt64), (.long (v101).toInt64)])) (fun t k => XS.i2l X108.here hx rfl (hb hby at_144) rfl k) ?_
      refine own_by (g' := (mkF m 146 #[.val (.int u1), .val (.int u2), .val (.int u3), .val (.int v101), .val (.int v102), .val (.int v103), .val (.int (1 : Int32)), .val (.int v106), .unset, .unset] [(.long ((v101).toInt64 * ((v101 + (1 : Int32))).toInt64))])) (fun t k => XS.lmul X108.here hx rfl (hb hby at_145) rfl k) ?_
      refine own_by (g' := (mkF m 149 #[.val (.int u1), .val (.int u2), .val (.int u3), .val (.int v101), .val (.int v102), .val (.int v103), .val (.int (1 : Int32)), .val (.int v106), .unset, .unset] [(.long (2 : Int64)), (.long ((v101).toInt64 * ((v101 + (1 : Int32))).toInt64))])) (fun t k => X108.ldc2Long hx hown (mvT hZ (hw _ (List.mem_of_getElem? (i := 5) rfl))) (g := (mkF m 146 #[.val (.int u1), .val (.int u2), .val (.int u3), .val (.int v101), .val (.int v102), .val (.int v103), .val (.int (1 : Int32)), .val (.int v106), .unset, .unset] [(.long ((v101).toInt64 * ((v101 + (1 : Int32))).toInt64))])) rfl (hb hby at_146) t k) ?_
      refine own_by (g' := (mkF m 150 #[.val (.int u1), .val (.int u2), .val (.int u3), .val (.int v101), .val (.int v102), .val (.int v103), .val (.int (1 : Int32)), .val (.int v106), .unset, .unset] [(.long (((v101).toInt64 * ((v101 + (1 : Int32))).toInt64) / (2 : Int64)))])) (fun t k => XS.ldiv X108.here hx rfl (hb hby at_149) rfl (by decide) k) ?_
      refine own_by (g' := (mkF m 151 #[.val (.int u1), .val (.int u2), .val (.int u3), .val (.int v101), .val (.int v102), .val (.int v103), .val (.int (1 : Int32)), .val (.int v106), .unset, .unset] [(.long (1 : Int64)), (.long (((v101).toInt64 * ((v101 + (1 : Int32))).toInt64) / (2 : Int64)))])) (fun t k => XS.lconst X108.here hx rfl (hb hby at_150) k) ?_
      refine own_by (g' := (mkF m 152 #[.val (.int u1), .val (.int u2), .val (.int u3), .val (.int v101), .val (.int v102), .val (.int v103), .val (.int (1 : Int32)), .val (.int v106), .unset, .unset] [(.long ((((v101).toInt64 * ((v101 + (1 : Int32))).toInt64) / (2 : Int64)) - (1 : Int64)))])) (fun t k => XS.lsub X108.here hx rfl (hb hby at_151) rfl k) ?_
      generalize hv114 : ((((v101).toInt64 * ((v101 + (1 : Int32))).toInt64) / (2 : Int64)) - (1 : Int64)) = v114
      refine own_by (g' := (mkF m 154 #[.val (.int u1), .val (.int u2), .val (.int u3), .val (.int v101), .val (.int v102), .val (.int v103), .val (.int (1 : Int32)), .val (.int v106), .val (.long v114), .second] [])) (fun t k => XS.lstore X108.here hx rfl (hb hby at_152) rfl (l' := #[.val (.int u1), .val (.int u2), .val (.int u3), .val (.int v101), .val (.int v102), .val (.int v103), .val (.int (1 : Int32)), .val (.int v106), .val (.long v114), .second]) rfl k) ?_
      refine own_by (g' := (mkF m 156 #[.val (.int u1), .val (.int u2), .val (.int u3), .val (.int v101), .val (.int v102), .val (.int v103), .val (.int (1 : Int32)), .val (.int v106), .val (.long v114), .second] [(.int (1 : Int32))])) (fun t k => XS.iload X108.here hx rfl (hb hby at_154) rfl k) ?_
      refine own_by (g' := (mkF m 159 #[.val (.int u1), .val (.int u2), .val (.int u3), .val (.int v101), .val (.int v102), .val (.int v103), .val (.int (1 : Int32)), .val (.int v106), .val (.long v114), .second] [])) (fun t k => XS.ifNo X108.here hx rfl (hb hby at_156) rfl ((if0 _ _).trans (feq (by decide : ¬ ((1 : Int32) = (0 : Int32)))).1) k) ?_
      refine own_by (g' := (mkF m 160 #[.val (.int u1), .val (.int u2), .val (.int u3), .val (.int v101), .val (.int v102), .val (.int v103), .val (.int (1 : Int32)), .val (.int v106), .val (.long v114), .second] [(.int v101)])) (fun t k => XS.iloadN X108.here hx rfl (hb hby at_159) rfl k) ?_
      refine own_by (g' := (mkF m 161 #[.val (.int u1), .val (.int u2), .val (.int u3), .val (.int v101), .val (.int v102), .val (.int v103), .val (.int (1 : Int32)), .val (.int v106), .val (.long v114), .second] [(.int v101), (.int v101)])) (fun t k => XS.iloadN X108.here hx rfl (hb hby at_160) rfl k) ?_
      refine own_by (g' := (mkF m 162 #[.val (.int u1), .val (.int u2), .val (.int u3), .val (.int v101), .val (.int v102), .val (.int v103), .val (.int (1 : Int32)), .val (.int v106), .val (.long v114), .second] [(.int (1 : Int32)), (.int v101), (.int v101)])) (fun t k => XS.iconst X108.here hx rfl (hb hby at_161) k) ?_
      refine own_by (g' := (mkF m 163 #[.val (.int u1), .val (.int u2), .val (.int u3), .val (.int v101), .val (.int v102), .val (.int v103), .val (.int (1 : Int32)), .val (.int v106), .val (.long v114), .second] [(.int (v101 - (1 : Int32))), (.int v101)])) (fun t k => XS.isub X108.here hx rfl (hb hby at_162) rfl k) ?_
      refine own_by (g' := (mkF m 164 #[.val (.int u1), .val (.int u2), .val (.int u3), .val (.int v101), .val (.int v102), .val (.int v103), .val (.int (1 : Int32)), .val (.int v106), .val (.long v114), .second] [(.int v101), (.int (v101 - (1 : Int32))), (.int v101)])) (fun t k => XS.iloadN X108.here hx rfl (hb hby at_163) rfl k) ?_
      refine own_by (g' := (mkF m 165 #[.val (.int u1), .val (.int u2), .val (.int u3), .val (.int v101), .val (.int v102), .val (.int v103), .val (.int (1 : Int32)), .val (.int v106), .val (.long v114), .second] [(.int (1 : Int32)), (.int v101), (.int (v101 - (1 : Int32))), (.int v101)])) (fun t k => XS.iconst X108.here hx rfl (hb hby at_164) k) ?_
      refine own_by (g' := (mkF m 166 #[.val (.int u1), .val (.int u2), .val (.int u3), .val (.int v101), .val (.int v102), .val (.int v103), .val (.int (1 : Int32)), .val (.int v106), .val (.long v114), .second] [(.int (v101 - (1 : Int32))), (.int (v101 - (1 : Int32))), (.int v101)])) (fun t k => XS.isub X108.here hx rfl (hb hby at_165) rfl k) ?_
      refine own_callS X108 hx hZ hown (hw _ (List.mem_of_getElem? (i := 1) rfl)) (hw _ (List.mem_of_getElem? (i := 2) rfl)) (hw _ (List.mem_of_getElem? (i := 3) rfl)) (hw _ (List.mem_of_getElem? (i := 4) rfl)) (by decide) (own_cat l Z a0 hw [] (v101) ((v101 - (1 : Int32))) ((v101 - (1 : Int32))) h0 n0 Z0 ) 0 (by decide) (by decide) (by decide) (by decide) e108 (g := (mkF m 166 #[.val (.int u1), .val (.int u2), .val (.int u3), .val (.int v101), .val (.int v102), .val (.int v103), .val (.int (1 : Int32)), .val (.int v106), .val (.long v114), .second] [(.int (v101 - (1 : Int32))), (.int (v101 - (1 : Int32))), (.int v101)])) rfl (by rw [hml]; rfl) (argsL := [(.int v101), (.int (v101 - (1 : Int32))), (.int (v101 - (1 : Int32)))]) (rest := []) (lenOf own_pd0 rfl) rfl (by show 2 * 0 + _ ≤ _; exact Nat.le_of_eq rfl) (hb hby at_166) ?_
      intro v115 T115 L115 X115 q115
      obtain ⟨rfl, N115q, e115⟩ := q115
      have N115 := Fr.app N108 N115q
      show own_Goes p e below s _ _ _ T115 (mkF m 169 #[.val (.int u1), .val (.int u2), .val (.int u3), .val (.int v101), .val (.int v102), .val (.int v103), .val (.int (1 : Int32)), .val (.int v106), .val (.long v114), .second] [(.int (own_at v101 (v101 - (1 : Int32)) (v101 - (1 : Int32))))])
      refine own_by (g' := (mkF m 170 #[.val (.int u1), .val (.int u2), .val (.int u3), .val (.int v101), .val (.int v102), .val (.int v103), .val (.int (1 : Int32)), .val (.int v106), .val (.long v114), .second] [(.long ((own_at v101 (v101 - (1 : Int32)) (v101 - (1 : Int32)))).toInt64)])) (fun t k => XS.i2l X115.here hx rfl (hb hby at_169) rfl k) ?_
      refine own_by (g' := (mkF m 172 #[.val (.int u1), .val (.int u2), .val (.int u3), .val (.int v101), .val (.int v102), .val (.int v103), .val (.int (1 : Int32)), .val (.int v106), .val (.long v114), .second] [(.long v114), (.long ((own_at v101 (v101 - (1 : Int32)) (v101 - (1 : Int32)))).toInt64)])) (fun t k => XS.lload X115.here hx rfl (hb hby at_170) rfl k) ?_
      refine own_by (g' := (mkF m 173 #[.val (.int u1), .val (.int u2), .val (.int u3), .val (.int v101), .val (.int v102), .val (.int v103), .val (.int (1 : Int32)), .val (.int v106), .val (.long v114), .second] [(.int (lcmpW ((own_at v101 (v101 - (1 : Int32)) (v101 - (1 : Int32)))).toInt64 v114))])) (fun t k => XS.lcmp X115.here hx rfl (hb hby at_172) rfl k) ?_
      refine own_by (g' := (mkF m 176 #[.val (.int u1), .val (.int u2), .val (.int u3), .val (.int v101), .val (.int v102), .val (.int v103), .val (.int (1 : Int32)), .val (.int v106), .val (.long v114), .second] [])) (fun t k => XS.ifNo X115.here hx rfl (hb hby at_173) rfl ((if0 _ _).trans (teq ((lw_eq ((own_at v101 (v101 - (1 : Int32)) (v101 - (1 : Int32)))).toInt64 v114).mpr ((by rw [← hv114]; exact own_t3 m1 m2) : ((own_at v101 (v101 - (1 : Int32)) (v101 - (1 : Int32)))).toInt64 = v114))).2) k) ?_
      refine own_by (g' := (mkF m 177 #[.val (.int u1), .val (.int u2), .val (.int u3), .val (.int v101), .val (.int v102), .val (.int v103), .val (.int (1 : Int32)), .val (.int v106), .val (.long v114), .second] [(.int (1 : Int32))])) (fun t k => XS.iconst X115.here hx rfl (hb hby at_176) k) ?_
      refine own_by (g' := (mkF m 181 #[.val (.int u1), .val (.int u2), .val (.int u3), .val (.int v101), .val (.int v102), .val (.int v103), .val (.int (1 : Int32)), .val (.int v106), .val (.long v114), .second] [(.int (1 : Int32))])) (fun t k => XS.goto X115.here hx rfl (pc0 := 177) (pc' := 181) rfl (hb hby at_177) (by decide) (by decide) k) ?_
      refine own_by (g' := (mkF m 183 #[.val (.int u1), .val (.int u2), .val (.int u3), .val (.int v101), .val (.int v102), .val (.int v103), .val (.int (1 : Int32)), .val (.int v106), .val (.long v114), .second] [])) (fun t k => XS.istore X115.here hx rfl (hb hby at_181) rfl (l' := #[.val (.int u1), .val (.int u2), .val (.int u3), .val (.int v101), .val (.int v102), .val (.int v103), .val (.int (1 : Int32)), .val (.int v106), .val (.long v114), .second]) rfl k) ?_
      refine own_by (g' := (mkF m 185 #[.val (.int u1), .val (.int u2), .val (.int u3), .val (.int v101), .val (.int v102), .val (.int v103), .val (.int (1 : Int32)), .val (.int v106), .val (.long v114), .second] [(.int (1 : Int32))])) (fun t k => XS.iload X115.here hx rfl (hb hby at_183) rfl k) ?_
      refine own_by (g' := (mkF m 188 #[.val (.int u1), .val (.int u2), .val (.int u3), .val (.int v101), .val (.int v102), .val (.int v103), .val (.int (1 : Int32)), .val (.int v106), .val (.long v114), .second] [])) (fun t k => XS.ifNo X115.here hx rfl (hb hby at_185) rfl ((if0 _ _).trans (feq (by decide : ¬ ((1 : Int32) = (0 : Int32)))).1) k) ?_
      refine own_by (g' := (mkF m 190 #[.val (.int u1), .val (.int u2), .val (.int u3), .val (.int v101), .val (.int v102), .val (.int v103), .val (.int (1 : Int32)), .val (.int v106), .val (.long v114), .second] [(.int v106)])) (fun t k => XS.iload X115.here hx rfl (hb hby at_188) rfl k) ?_
      refine own_by (g' := (mkF m 193 #[.val (.int u1), .val (.int u2), .val (.int u3), .val (.int v101), .val (.int v102), .val (.int v103), .val (.int (1 : Int32)), .val (.int v106), .val (.long v114), .second] [])) (fun t k => XS.ifNo X115.here hx rfl (hb hby at_190) rfl ((if0 _ _).trans (flt (by rw [← hv106, Int32.lt_iff_toInt_lt, show (0 : Int32).toInt = 0 from by decide]; omega)).1) k) ?_
      refine own_by (g' := (mkF m 195 #[.val (.int u1), .val (.int u2), .val (.int u3), .val (.int v101), .val (.int v102), .val (.int v103), .val (.int (1 : Int32)), .val (.int v106), .val (.long v114), .second] [(.int v106)])) (fun t k => XS.iload X115.here hx rfl (hb hby at_193) rfl k) ?_
      refine own_by (g' := (mkF m 196 #[.val (.int u1), .val (.int u2), .val (.int u3), .val (.int v101), .val (.int v102), .val (.int v103), .val (.int (1 : Int32)), .val (.int v106), .val (.long v114), .second] [(.long (v106).toInt64)])) (fun t k => XS.i2l X115.here hx rfl (hb hby at_195) rfl k) ?_
      refine own_by (g' := (mkF m 198 #[.val (.int u1), .val (.int u2), .val (.int u3), .val (.int v101), .val (.int v102), .val (.int v103), .val (.int (1 : Int32)), .val (.int v106), .val (.long v114), .second] [(.long v114), (.long (v106).toInt64)])) (fun t k => XS.lload X115.here hx rfl (hb hby at_196) rfl k) ?_
      refine own_by (g' := (mkF m 199 #[.val (.int u1), .val (.int u2), .val (.int u3), .val (.int v101), .val (.int v102), .val (.int v103), .val (.int (1 : Int32)), .val (.int v106), .val (.long v114), .second] [(.int (lcmpW (v106).toInt64 v114))])) (fun t k => XS.lcmp X115.here hx rfl (hb hby at_198) rfl k) ?_
      refine own_by (g' := (mkF m 202 #[.val (.int u1), .val (.int u2), .val (.int u3), .val (.int v101), .val (.int v102), .val (.int v103), .val (.int (1 : Int32)), .val (.int v106), .val (.long v114), .second] [])) (fun t k => XS.ifNo X115.here hx rfl (hb hby at_199) rfl ((if0 _ _).trans (flt (fun q => ((own_t5 hv114 lst (by rw [← hv106]; exact bd.2)) : ¬ (v114 < (v106).toInt64)) ((lw_gt (v106).toInt64 v114).mp q))).2.2.1) k) ?_
      refine own_by (g' := (mkF m 203 #[.val (.int u1), .val (.int u2), .val (.int u3), .val (.int v101), .val (.int v102), .val (.int v103), .val (.int (1 : Int32)), .val (.int v106), .val (.long v114), .second] [(.int (1 : Int32))])) (fun t k => XS.iconst X115.here hx rfl (hb hby at_202) k) ?_
      refine own_by (g' := (mkF m 207 #[.val (.int u1), .val (.int u2), .val (.int u3), .val (.int v101), .val (.int v102), .val (.int v103), .val (.int (1 : Int32)), .val (.int v106), .val (.long v114), .second] [(.int (1 : Int32))])) (fun t k => XS.goto X115.here hx rfl (pc0 := 203) (pc' := 207) rfl (hb hby at_203) (by decide) (by decide) k) ?_
      refine own_by (g' := (mkF m 209 #[.val (.int u1), .val (.int u2), .val (.int u3), .val (.int v101), .val (.int v102), .val (.int v103), .val (.int (1 : Int32)), .val (.int v106), .val (.long v114), .second] [])) (fun t k => XS.istore X115.here hx rfl (hb hby at_207) rfl (l' := #[.val (.int u1), .val (.int u2), .val (.int u3), .val (.int v101), .val (.int v102), .val (.int v103), .val (.int (1 : Int32)), .val (.int v106), .val (.long v114), .second]) rfl k) ?_
      refine own_by (g' := (mkF m 211 #[.val (.int u1), .val (.int u2), .val (.int u3), .val (.int v101), .val (.int v102), .val (.int v103), .val (.int (1 : Int32)), .val (.int v106), .val (.long v114), .second] [(.int (1 : Int32))])) (fun t k => XS.iload X115.here hx rfl (hb hby at_209) rfl k) ?_
      refine own_retN X115 hx hlk hret (t := .boolean) (by simp) (hb hby at_211) (by decide) (by decide) ?_
      exact ⟨rfl, N115, e115⟩
  ·
    refine own_by (g' := (mkF m 93 #[.val (.int u1), .val (.int u2), .val (.int u3), .val (.int v101), .val (.int v102), .val (.int v103), .val (.int (1 : Int32)), .val (.int v106), .unset, .unset] [])) (fun t k => XS.icmpYes X105.here hx rfl (pc0 := 61) (pc' := 93) rfl (hb hby at_61) rfl (flt hc107).2.1 (by decide) (by decide) k) ?_
    refine own_by (g' := (mkF m 95 #[.val (.int u1), .val (.int u2), .val (.int u3), .val (.int v101), .val (.int v102), .val (.int v103), .val (.int (1 : Int32)), .val (.int v106), .unset, .unset] [(.int v102)])) (fun t k => XS.iload X105.here hx rfl (hb hby at_93) rfl k) ?_
    refine own_by (g' := (mkF m 96 #[.val (.int u1), .val (.int u2), .val (.int u3), .val (.int v101), .val (.int v102), .val (.int v103), .val (.int (1 : Int32)), .val (.int v106), .unset, .unset] [(.int (1 : Int32)), (.int v102)])) (fun t k => XS.iconst X105.here hx rfl (hb hby at_95) k) ?_
    refine own_by (g' := (mkF m 97 #[.val (.int u1), .val (.int u2), .val (.int u3), .val (.int v101), .val (.int v102), .val (.int v103), .val (.int (1 : Int32)), .val (.int v106), .unset, .unset] [(.int (v102 + (1 : Int32)))])) (fun t k => XS.iadd X105.here hx rfl (hb hby at_96) rfl k) ?_
    refine own_by (g' := (mkF m 98 #[.val (.int u1), .val (.int u2), .val (.int u3), .val (.int v101), .val (.int v102), .val (.int v103), .val (.int (1 : Int32)), .val (.int v106), .unset, .unset] [(.int v101), (.int (v102 + (1 : Int32)))])) (fun t k => XS.iloadN X105.here hx rfl (hb hby at_97) rfl k) ?_
    by_cases hc116 : (v102 + (1 : Int32)) < v101
    ·
      refine own_by (g' := (mkF m 101 #[.val (.int u1), .val (.int u2), .val (.int u3), .val (.int v101), .val (.int v102), .val (.int v103), .val (.int (1 : Int32)), .val (.int v106), .unset, .unset] [])) (fun t k => XS.icmpNo X105.here hx rfl (hb hby at_98) rfl (tlt hc116).2.1 k) ?_
      refine own_by (g' := (mkF m 103 #[.val (.int u1), .val (.int u2), .val (.int u3), .val (.int v101), .val (.int v102), .val (.int v103), .val (.int (1 : Int32)), .val (.int v106), .unset, .unset] [(.int (1 : Int32))])) (fun t k => XS.iload X105.here hx rfl (hb hby at_101) rfl k) ?_
      refine own_by (g' := (mkF m 106 #[.val (.int u1), .val (.int u2), .val (.int u3), .val (.int v101), .val (.int v102), .val (.int v103), .val (.int (1 : Int32)), .val (.int v106), .unset, .unset] [])) (fun t k => XS.ifNo X105.here hx rfl (hb hby at_103) rfl ((if0 _ _).trans (feq (by decide : ¬ ((1 : Int32) = (0 : Int32)))).1) k) ?_
      refine own_by (g' := (mkF m 107 #[.val (.int u1), .val (.int u2), .val (.int u3), .val (.int v101), .val (.int v102), .val (.int v103), .val (.int (1 : Int32)), .val (.int v106), .unset, .unset] [(.int v101)])) (fun t k => XS.iloadN X105.here hx rfl (hb hby at_106) rfl k) ?_
      refine own_by (g' := (mkF m 109 #[.val (.int u1), .val (.int u2), .val (.int u3), .val (.int v101), .val (.int v102), .val (.int v103), .val (.int (1 : Int32)), .val (.int v106), .unset, .unset] [(.int v102), (.int v101)])) (fun t k => XS.iload X105.here hx rfl (hb hby at_107) rfl k) ?_
      refine own_by (g' := (mkF m 110 #[.val (.int u1), .val (.int u2), .val (.int u3), .val (.int v101), .val (.int v102), .val (.int v103), .val (.int (1 : Int32)), .val (.int v106), .unset, .unset] [(.int (1 : Int32)), (.int v102), (.int v101)])) (fun t k => XS.iconst X105.here hx rfl (hb hby at_109) k) ?_
      refine own_by (g' := (mkF m 111 #[.val (.int u1), .val (.int u2), .val (.int u3), .val (.int v101), .val (.int v102), .val (.int v103), .val (.int (1 : Int32)), .val (.int v106), .unset, .unset] [(.int (v102 + (1 : Int32))), (.int v101)])) (fun t k => XS.iadd X105.here hx rfl (hb hby at_110) rfl k) ?_
      refine own_by (g' := (mkF m 113 #[.val (.int u1), .val (.int u2), .val (.int u3), .val (.int v101), .val (.int v102), .val (.int v103), .val (.int (1 : Int32)), .val (.int v106), .unset, .unset] [(.int v102), (.int (v102 + (1 : Int32))), (.int v101)])) (fun t k => XS.iload X105.here hx rfl (hb hby at_111) rfl k) ?_
      refine own_by (g' := (mkF m 114 #[.val (.int u1), .val (.int u2), .val (.int u3), .val (.int v101), .val (.int v102), .val (.int v103), .val (.int (1 : Int32)), .val (.int v106), .unset, .unset] [(.int (1 : Int32)), (.int v102), (.int (v102 + (1 : Int32))), (.int v101)])) (fun t k => XS.iconst X105.here hx rfl (hb hby at_113) k) ?_
      refine own_by (g' := (mkF m 115 #[.val (.int u1), .val (.int u2), .val (.int u3), .val (.int v101), .val (.int v102), .val (.int v103), .val (.int (1 : Int32)), .val (.int v106), .unset, .unset] [(.int (v102 + (1 : Int32))), (.int (v102 + (1 : Int32))), (.int v101)])) (fun t k => XS.iadd X105.here hx rfl (hb hby at_114) rfl k) ?_
      refine own_callS X105 hx hZ hown (hw _ (List.mem_of_getElem? (i := 1) rfl)) (hw _ (List.mem_of_getElem? (i := 2) rfl)) (hw _ (List.mem_of_getElem? (i := 3) rfl)) (hw _ (List.mem_of_getElem? (i := 4) rfl)) (by decide) (own_cat l Z a0 hw [] (v101) ((v102 + (1 : Int32))) ((v102 + (1 : Int32))) h0 n0 Z0 ) 0 (by decide) (by decide) (by decide) (by decide) e105 (g := (mkF m 115 #[.val (.int u1), .val (.int u2), .val (.int u3), .val (.int v101), .val (.int v102), .val (.int v103), .val (.int (1 : Int32)), .val (.int v106), .unset, .unset] [(.int (v102 + (1 : Int32))), (.int (v102 + (1 : Int32))), (.int v101)])) rfl (by rw [hml]; rfl) (argsL := [(.int v101), (.int (v102 + (1 : Int32))), (.int (v102 + (1 : Int32)))]) (rest := []) (lenOf own_pd0 rfl) rfl (by show 2 * 0 + _ ≤ _; exact Nat.le_of_eq rfl) (hb hby at_115) ?_
      intro v117 T117 L117 X117 q117
      obtain ⟨rfl, N117q, e117⟩ := q117
      have N117 := Fr.app N105 N117q
      show own_Goes p e below s _ _ _ T117 (mkF m 118 #[.val (.int u1), .val (.int u2), .val (.int u3), .val (.int v101), .val (.int v102), .val (.int v103), .val (.int (1 : Int32)), .val (.int v106), .unset, .unset] [(.int (own_at v101 (v102 + (1 : Int32)) (v102 + (1 : Int32))))])
      refine own_by (g' := (mkF m 119 #[.val (.int u1), .val (.int u2), .val (.int u3), .val (.int v101), .val (.int v102), .val (.int v103), .val (.int (1 : Int32)), .val (.int v106), .unset, .unset] [(.int v101), (.int (own_at v101 (v102 + (1 : Int32)) (v102 + (1 : Int32))))])) (fun t k => XS.iloadN X117.here hx rfl (hb hby at_118) rfl k) ?_
      refine own_by (g' := (mkF m 121 #[.val (.int u1), .val (.int u2), .val (.int u3), .val (.int v101), .val (.int v102), .val (.int v103), .val (.int (1 : Int32)), .val (.int v106), .unset, .unset] [(.int v102), (.int v101), (.int (own_at v101 (v102 + (1 : Int32)) (v102 + (1 : Int32))))])) (fun t k => XS.iload X117.here hx rfl (hb hby at_119) rfl k) ?_
      refine own_by (g' := (mkF m 122 #[.val (.int u1), .val (.int u2), .val (.int u3), .val (.int v101), .val (.int v102), .val (.int v103), .val (.int (1 : Int32)), .val (.int v106), .unset, .unset] [(.int v101), (.int v102), (.int v101), (.int (own_at v101 (v102 + (1 : Int32)) (v102 + (1 : Int32))))])) (fun t k => XS.iloadN X117.here hx rfl (hb hby at_121) rfl k) ?_
      refine own_by (g' := (mkF m 123 #[.val (.int u1), .val (.int u2), .val (.int u3), .val (.int v101), .val (.int v102), .val (.int v103), .val (.int (1 : Int32)), .val (.int v106), .unset, .unset] [(.int (1 : Int32)), (.int v101), (.int v102), (.int v101), (.int (own_at v101 (v102 + (1 : Int32)) (v102 + (1 : Int32))))])) (fun t k => XS.iconst X117.here hx rfl (hb hby at_122) k) ?_
      refine own_by (g' := (mkF m 124 #[.val (.int u1), .val (.int u2), .val (.int u3), .val (.int v101), .val (.int v102), .val (.int v103), .val (.int (1 : Int32)), .val (.int v106), .unset, .unset] [(.int (v101 - (1 : Int32))), (.int v102), (.int v101), (.int (own_at v101 (v102 + (1 : Int32)) (v102 + (1 : Int32))))])) (fun t k => XS.isub X117.here hx rfl (hb hby at_123) rfl k) ?_
      refine own_callS X117 hx hZ hown (hw _ (List.mem_of_getElem? (i := 1) rfl)) (hw _ (List.mem_of_getElem? (i := 2) rfl)) (hw _ (List.mem_of_getElem? (i := 3) rfl)) (hw _ (List.mem_of_getElem? (i := 4) rfl)) (by decide) (own_cat l Z a0 hw [] (v101) (v102) ((v101 - (1 : Int32))) h0 n0 Z0 ) 1 (by decide) (by decide) (by decide) (by decide) e117 (g := (mkF m 124 #[.val (.int u1), .val (.int u2), .val (.int u3), .val (.int v101), .val (.int v102), .val (.int v103), .val (.int (1 : Int32)), .val (.int v106), .unset, .unset] [(.int (v101 - (1 : Int32))), (.int v102), (.int v101), (.int (own_at v101 (v102 + (1 : Int32)) (v102 + (1 : Int32))))])) rfl (by rw [hml]; rfl) (argsL := [(.int v101), (.int v102), (.int (v101 - (1 : Int32)))]) (rest := [(.int (own_at v101 (v102 + (1 : Int32)) (v102 + (1 : Int32))))]) (lenOf own_pd0 rfl) rfl (by show 2 * 0 + _ ≤ _; exact Nat.le_of_eq rfl) (hb hby at_124) ?_
      intro v118 T118 L118 X118 q118
      obtain ⟨rfl, N118q, e118⟩ := q118
      have N118 := Fr.app N117 N118q
      show own_Goes p e below s _ _ _ T118 (mkF m 127 #[.val (.int u1), .val (.int u2), .val (.int u3), .val (.int v101), .val (.int v102), .val (.int v103), .val (.int (1 : Int32)), .val (.int v106), .unset, .unset] [(.int (own_at v101 v102 (v101 - (1 : Int32)))), (.int (own_at v101 (v102 + (1 : Int32)) (v102 + (1 : Int32))))])
      refine own_by (g' := (mkF m 128 #[.val (.int u1), .val (.int u2), .val (.int u3), .val (.int v101), .val (.int v102), .val (.int v103), .val (.int (1 : Int32)), .val (.int v106), .unset, .unset] [(.int (1 : Int32)), (.int (own_at v101 v102 (v101 - (1 : Int32)))), (.int (own_at v101 (v102 + (1 : Int32)) (v102 + (1 : Int32))))])) (fun t k => XS.iconst X118.here hx rfl (hb hby at_127) k) ?_
      refine own_by (g' := (mkF m 129 #[.val (.int u1), .val (.int u2), .val (.int u3), .val (.int v101), .val (.int v102), .val (.int v103), .val (.int (1 : Int32)), .val (.int v106), .unset, .unset] [(.int ((own_at v101 v102 (v101 - (1 : Int32))) + (1 : Int32))), (.int (own_at v101 (v102 + (1 : Int32)) (v102 + (1 : Int32))))])) (fun t k => XS.iadd X118.here hx rfl (hb hby at_128) rfl k) ?_
      refine own_by (g' := (mkF m 132 #[.val (.int u1), .val (.int u2), .val (.int u3), .val (.int v101), .val (.int v102), .val (.int v103), .val (.int (1 : Int32)), .val (.int v106), .unset, .unset] [])) (fun t k => XS.icmpNo X118.here hx rfl (hb hby at_129) rfl (teq (own_t2 m2 i1 i2 hc116)).2 k) ?_
      refine own_by (g' := (mkF m 133 #[.val (.int u1), .val (.int u2), .val (.int u3), .val (.int v101), .val (.int v102), .val (.int v103), .val (.int (1 : Int32)), .val (.int v106), .unset, .unset] [(.int (1 : Int32))])) (fun t k => XS.iconst X118.here hx rfl (hb hby at_132) k) ?_
      refine own_by (g' := (mkF m 137 #[.val (.int u1), .val (.int u2), .val (.int u3), .val (.int v101), .val (.int v102), .val (.int v103), .val (.int (1 : Int32)), .val (.int v106), .unset, .unset] [(.int (1 : Int32))])) (fun t k => XS.goto X118.here hx rfl (pc0 := 133) (pc' := 137) rfl (hb hby at_133) (by decide) (by decide) k) ?_
      refine own_by (g' := (mkF m 139 #[.val (.int u1), .val (.int u2), .val (.int u3), .val (.int v101), .val (.int v102), .val (.int v103), .val (.int (1 : Int32)), .val (.int v106), .unset, .unset] [])) (fun t k => XS.istore X118.here hx rfl (hb hby at_137) rfl (l' := #[.val (.int u1), .val (.int u2), .val (.int u3), .val (.int v101), .val (.int v102), .val (.int v103), .val (.int (1 : Int32)), .val (.int v106), .unset, .unset]) rfl k) ?_
      refine own_by (g' := (mkF m 140 #[.val (.int u1), .val (.int u2), .val (.int u3), .val (.int v101), .val (.int v102), .val (.int v103), .val (.int (1 : Int32)), .val (.int v106), .unset, .unset] [(.int v101)])) (fun t k => XS.iloadN X118.here hx rfl (hb hby at_139) rfl k) ?_
      refine own_by (g' := (mkF m 141 #[.val (.int u1), .val (.int u2), .val (.int u3), .val (.int v101), .val (.int v102), .val (.int v103), .val (.int (1 : Int32)), .val (.int v106), .unset, .unset] [(.long (v101).toInt64)])) (fun t k => XS.i2l X118.here hx rfl (hb hby at_140) rfl k) ?_
      refine own_by (g' := (mkF m 142 #[.val (.int u1), .val (.int u2), .val (.int u3), .val (.int v101), .val (.int v102), .val (.int v103), .val (.int (1 : Int32)), .val (.int v106), .unset, .unset] [(.int v101), (.long (v101).toInt64)])) (fun t k => XS.iloadN X118.here hx rfl (hb hby at_141) rfl k) ?_
      refine own_by (g' := (mkF m 143 #[.val (.int u1), .val (.int u2), .val (.int u3), .val (.int v101), .val (.int v102), .val (.int v103), .val (.int (1 : Int32)), .val (.int v106), .unset, .unset] [(.int (1 : Int32)), (.int v101), (.long (v101).toInt64)])) (fun t k => XS.iconst X118.here hx rfl (hb hby at_142) k) ?_
      refine own_by (g' := (mkF m 144 #[.val (.int u1), .val (.int u2), .val (.int u3), .val (.int v101), .val (.int v102), .val (.int v103), .val (.int (1 : Int32)), .val (.int v106), .unset, .unset] [(.int (v101 + (1 : Int32))), (.long (v101).toInt64)])) (fun t k => XS.iadd X118.here hx rfl (hb hby at_143) rfl k) ?_
      refine own_by (g' := (mkF m 145 #[.val (.int u1), .val (.int u2), .val (.int u3), .val (.int v101), .val (.int v102), .val (.int v103), .val (.int (1 : Int32)), .val (.int v106), .unset, .unset] [(.long ((v101 + (1 : Int32))).toInt64), (.long (v101).toInt64)])) (fun t k => XS.i2l X118.here hx rfl (hb hby at_144) rfl k) ?_
      refine own_by (g' := (mkF m 146 #[.val (.int u1), .val (.int u2), .val (.int u3), .val (.int v101), .val (.int v102), .val (.int v103), .val (.int (1 : Int32)), .val (.int v106), .unset, .unset] [(.long ((v101).toInt64 * ((v101 + (1 : Int32))).toInt64))])) (fun t k => XS.lmul X118.here hx rfl (hb hby at_145) rfl k) ?_
      refine own_by (g' := (mkF m 149 #[.val (.int u1), .val (.int u2), .val (.int u3), .val (.int v101), .val (.int v102), .val (.int v103), .val (.int (1 : Int32)), .val (.int v106), .unset, .unset] [(.long (2 : Int64)), (.long ((v101).toInt64 * ((v101 + (1 : Int32))).toInt64))])) (fun t k => X118.ldc2Long hx hown (mvT hZ (hw _ (List.mem_of_getElem? (i := 5) rfl))) (g := (mkF m 146 #[.val (.int u1), .val (.int u2), .val (.int u3), .val (.int v101), .val (.int v102), .val (.int v103), .val (.int (1 : Int32)), .val (.int v106), .unset, .unset] [(.long ((v101).toInt64 * ((v101 + (1 : Int32))).toInt64))])) rfl (hb hby at_146) t k) ?_
      refine own_by (g' := (mkF m 150 #[.val (.int u1), .val (.int u2), .val (.int u3), .val (.int v101), .val (.int v102), .val (.int v103), .val (.int (1 : Int32)), .val (.int v106), .unset, .unset] [(.long (((v101).toInt64 * ((v101 + (1 : Int32))).toInt64) / (2 : Int64)))])) (fun t k => XS.ldiv X118.here hx rfl (hb hby at_149) rfl (by decide) k) ?_
      refine own_by (g' := (mkF m 151 #[.val (.int u1), .val (.int u2), .val (.int u3), .val (.int v101), .val (.int v102), .val (.int v103), .val (.int (1 : Int32)), .val (.int v106), .unset, .unset] [(.long (1 : Int64)), (.long (((v101).toInt64 * ((v101 + (1 : Int32))).toInt64) / (2 : Int64)))])) (fun t k => XS.lconst X118.here hx rfl (hb hby at_150) k) ?_
      refine own_by (g' := (mkF m 152 #[.val (.int u1), .val (.int u2), .val (.int u3), .val (.int v101), .val (.int v102), .val (.int v103), .val (.int (1 : Int32)), .val (.int v106), .unset, .unset] [(.long ((((v101).toInt64 * ((v101 + (1 : Int32))).toInt64) / (2 : Int64)) - (1 : Int64)))])) (fun t k => XS.lsub X118.here hx rfl (hb hby at_151) rfl k) ?_
      generalize hv119 : ((((v101).toInt64 * ((v101 + (1 : Int32))).toInt64) / (2 : Int64)) - (1 : Int64)) = v119
      refine own_by (g' := (mkF m 154 #[.val (.int u1), .val (.int u2), .val (.int u3), .val (.int v101), .val (.int v102), .val (.int v103), .val (.int (1 : Int32)), .val (.int v106), .val (.long v119), .second] [])) (fun t k => XS.lstore X118.here hx rfl (hb hby at_152) rfl (l' := #[.val (.int u1), .val (.int u2), .val (.int u3), .val (.int v101), .val (.int v102), .val (.int v103), .val (.int (1 : Int32)), .val (.int v106), .val (.long v119), .second]) rfl k) ?_
      refine own_by (g' := (mkF m 156 #[.val (.int u1), .val (.int u2), .val (.int u3), .val (.int v101), .val (.int v102), .val (.int v103), .val (.int (1 : Int32)), .val (.int v106), .val (.long v119), .second] [(.int (1 : Int32))])) (fun t k => XS.iload X118.here hx rfl (hb hby at_154) rfl k) ?_
      refine own_by (g' := (mkF m 159 #[.val (.int u1), .val (.int u2), .val (.int u3), .val (.int v101), .val (.int v102), .val (.int v103), .val (.int (1 : Int32)), .val (.int v106), .val (.long v119), .second] [])) (fun t k => XS.ifNo X118.here hx rfl (hb hby at_156) rfl ((if0 _ _).trans (feq (by decide : ¬ ((1 : Int32) = (0 : Int32)))).1) k) ?_
      refine own_by (g' := (mkF m 160 #[.val (.int u1), .val (.int u2), .val (.int u3), .val (.int v101), .val (.int v102), .val (.int v103), .val (.int (1 : Int32)), .val (.int v106), .val (.long v119), .second] [(.int v101)])) (fun t k => XS.iloadN X118.here hx rfl (hb hby at_159) rfl k) ?_
      refine own_by (g' := (mkF m 161 #[.val (.int u1), .val (.int u2), .val (.int u3), .val (.int v101), .val (.int v102), .val (.int v103), .val (.int (1 : Int32)), .val (.int v106), .val (.long v119), .second] [(.int v101), (.int v101)])) (fun t k => XS.iloadN X118.here hx rfl (hb hby at_160) rfl k) ?_
      refine own_by (g' := (mkF m 162 #[.val (.int u1), .val (.int u2), .val (.int u3), .val (.int v101), .val (.int v102), .val (.int v103), .val (.int (1 : Int32)), .val (.int v106), .val (.long v119), .second] [(.int (1 : Int32)), (.int v101), (.int v101)])) (fun t k => XS.iconst X118.here hx rfl (hb hby at_161) k) ?_
      refine own_by (g' := (mkF m 163 #[.val (.int u1), .val (.int u2), .val (.int u3), .val (.int v101), .val (.int v102), .val (.int v103), .val (.int (1 : Int32)), .val (.int v106), .val (.long v119), .second] [(.int (v101 - (1 : Int32))), (.int v101)])) (fun t k => XS.isub X118.here hx rfl (hb hby at_162) rfl k) ?_
      refine own_by (g' := (mkF m 164 #[.val (.int u1), .val (.int u2), .val (.int u3), .val (.int v101), .val (.int v102), .val (.int v103), .val (.int (1 : Int32)), .val (.int v106), .val (.long v119), .second] [(.int v101), (.int (v101 - (1 : Int32))), (.int v101)])) (fun t k => XS.iloadN X118.here hx rfl (hb hby at_163) rfl k) ?_
      refine own_by (g' := (mkF m 165 #[.val (.int u1), .val (.int u2), .val (.int u3), .val (.int v101), .val (.int v102), .val (.int v103), .val (.int (1 : Int32)), .val (.int v106), .val (.long v119), .second] [(.int (1 : Int32)), (.int v101), (.int (v101 - (1 : Int32))), (.int v101)])) (fun t k => XS.iconst X118.here hx rfl (hb hby at_164) k) ?_
      refine own_by (g' := (mkF m 166 #[.val (.int u1), .val (.int u2), .val (.int u3), .val (.int v101), .val (.int v102), .val (.int v103), .val (.int (1 : Int32)), .val (.int v106), .val (.long v119), .second] [(.int (v101 - (1 : Int32))), (.int (v101 - (1 : Int32))), (.int v101)])) (fun t k => XS.isub X118.here hx rfl (hb hby at_165) rfl k) ?_
      refine own_callS X118 hx hZ hown (hw _ (List.mem_of_getElem? (i := 1) rfl)) (hw _ (List.mem_of_getElem? (i := 2) rfl)) (hw _ (List.mem_of_getElem? (i := 3) rfl)) (hw _ (List.mem_of_getElem? (i := 4) rfl)) (by decide) (own_cat l Z a0 hw [] (v101) ((v101 - (1 : Int32))) ((v101 - (1 : Int32))) h0 n0 Z0 ) 0 (by decide) (by decide) (by decide) (by decide) e118 (g := (mkF m 166 #[.val (.int u1), .val (.int u2), .val (.int u3), .val (.int v101), .val (.int v102), .val (.int v103), .val (.int (1 : Int32)), .val (.int v106), .val (.long v119), .second] [(.int (v101 - (1 : Int32))), (.int (v101 - (1 : Int32))), (.int v101)])) rfl (by rw [hml]; rfl) (argsL := [(.int v101), (.int (v101 - (1 : Int32))), (.int (v101 - (1 : Int32)))]) (rest := []) (lenOf own_pd0 rfl) rfl (by show 2 * 0 + _ ≤ _; exact Nat.le_of_eq rfl) (hb hby at_166) ?_
      intro v120 T120 L120 X120 q120
      obtain ⟨rfl, N120q, e120⟩ := q120
      have N120 := Fr.app N118 N120q
      show own_Goes p e below s _ _ _ T120 (mkF m 169 #[.val (.int u1), .val (.int u2), .val (.int u3), .val (.int v101), .val (.int v102), .val (.int v103), .val (.int (1 : Int32)), .val (.int v106), .val (.long v119), .second] [(.int (own_at v101 (v101 - (1 : Int32)) (v101 - (1 : Int32))))])
      refine own_by (g' := (mkF m 170 #[.val (.int u1), .val (.int u2), .val (.int u3), .val (.int v101), .val (.int v102), .val (.int v103), .val (.int (1 : Int32)), .val (.int v106), .val (.long v119), .second] [(.long ((own_at v101 (v101 - (1 : Int32)) (v101 - (1 : Int32)))).toInt64)])) (fun t k => XS.i2l X120.here hx rfl (hb hby at_169) rfl k) ?_
      refine own_by (g' := (mkF m 172 #[.val (.int u1), .val (.int u2), .val (.int u3), .val (.int v101), .val (.int v102), .val (.int v103), .val (.int (1 : Int32)), .val (.int v106), .val (.long v119), .second] [(.long v119), (.long ((own_at v101 (v101 - (1 : Int32)) (v101 - (1 : Int32)))).toInt64)])) (fun t k => XS.lload X120.here hx rfl (hb hby at_170) rfl k) ?_
      refine own_by (g' := (mkF m 173 #[.val (.int u1), .val (.int u2), .val (.int u3), .val (.int v101), .val (.int v102), .val (.int v103), .val (.int (1 : Int32)), .val (.int v106), .val (.long v119), .second] [(.int (lcmpW ((own_at v101 (v101 - (1 : Int32)) (v101 - (1 : Int32)))).toInt64 v119))])) (fun t k => XS.lcmp X120.here hx rfl (hb hby at_172) rfl k) ?_
      refine own_by (g' := (mkF m 176 #[.val (.int u1), .val (.int u2), .val (.int u3), .val (.int v101), .val (.int v102), .val (.int v103), .val (.int (1 : Int32)), .val (.int v106), .val (.long v119), .second] [])) (fun t k => XS.ifNo X120.here hx rfl (hb hby at_173) rfl ((if0 _ _).trans (teq ((lw_eq ((own_at v101 (v101 - (1 : Int32)) (v101 - (1 : Int32)))).toInt64 v119).mpr ((by rw [← hv119]; exact own_t3 m1 m2) : ((own_at v101 (v101 - (1 : Int32)) (v101 - (1 : Int32)))).toInt64 = v119))).2) k) ?_
      refine own_by (g' := (mkF m 177 #[.val (.int u1), .val (.int u2), .val (.int u3), .val (.int v101), .val (.int v102), .val (.int v103), .val (.int (1 : Int32)), .val (.int v106), .val (.long v119), .second] [(.int (1 : Int32))])) (fun t k => XS.iconst X120.here hx rfl (hb hby at_176) k) ?_
      refine own_by (g' := (mkF m 181 #[.val (.int u1), .val (.int u2), .val (.int u3), .val (.int v101), .val (.int v102), .val (.int v103), .val (.int (1 : Int32)), .val (.int v106), .val (.long v119), .second] [(.int (1 : Int32))])) (fun t k => XS.goto X120.here hx rfl (pc0 := 177) (pc' := 181) rfl (hb hby at_177) (by decide) (by decide) k) ?_
      refine own_by (g' := (mkF m 183 #[.val (.int u1), .val (.int u2), .val (.int u3), .val (.int v101), .val (.int v102), .val (.int v103), .val (.int (1 : Int32)), .val (.int v106), .val (.long v119), .second] [])) (fun t k => XS.istore X120.here hx rfl (hb hby at_181) rfl (l' := #[.val (.int u1), .val (.int u2), .val (.int u3), .val (.int v101), .val (.int v102), .val (.int v103), .val (.int (1 : Int32)), .val (.int v106), .val (.long v119), .second]) rfl k) ?_
      refine own_by (g' := (mkF m 185 #[.val (.int u1), .val (.int u2), .val (.int u3), .val (.int v101), .val (.int v102), .val (.int v103), .val (.int (1 : Int32)), .val (.int v106), .val (.long v119), .second] [(.int (1 : Int32))])) (fun t k => XS.iload X120.here hx rfl (hb hby at_183) rfl k) ?_
      refine own_by (g' := (mkF m 188 #[.val (.int u1), .val (.int u2), .val (.int u3), .val (.int v101), .val (.int v102), .val (.int v103), .val (.int (1 : Int32)), .val (.int v106), .val (.long v119), .second] [])) (fun t k => XS.ifNo X120.here hx rfl (hb hby at_185) rfl ((if0 _ _).trans (feq (by decide : ¬ ((1 : Int32) = (0 : Int32)))).1) k) ?_
      refine own_by (g' := (mkF m 190 #[.val (.int u1), .val (.int u2), .val (.int u3), .val (.int v101), .val (.int v102), .val (.int v103), .val (.int (1 : Int32)), .val (.int v106), .val (.long v119), .second] [(.int v106)])) (fun t k => XS.iload X120.here hx rfl (hb hby at_188) rfl k) ?_
      refine own_by (g' := (mkF m 193 #[.val (.int u1), .val (.int u2), .val (.int u3), .val (.int v101), .val (.int v102), .val (.int v103), .val (.int (1 : Int32)), .val (.int v106), .val (.long v119), .second] [])) (fun t k => XS.ifNo X120.here hx rfl (hb hby at_190) rfl ((if0 _ _).trans (flt (by rw [← hv106, Int32.lt_iff_toInt_lt, show (0 : Int32).toInt = 0 from by decide]; omega)).1) k) ?_
      refine own_by (g' := (mkF m 195 #[.val (.int u1), .val (.int u2), .val (.int u3), .val (.int v101), .val (.int v102), .val (.int v103), .val (.int (1 : Int32)), .val (.int v106), .val (.long v119), .second] [(.int v106)])) (fun t k => XS.iload X120.here hx rfl (hb hby at_193) rfl k) ?_
      refine own_by (g' := (mkF m 196 #[.val (.int u1), .val (.int u2), .val (.int u3), .val (.int v101), .val (.int v102), .val (.int v103), .val (.int (1 : Int32)), .val (.int v106), .val (.long v119), .second] [(.long (v106).toInt64)])) (fun t k => XS.i2l X120.here hx rfl (hb hby at_195) rfl k) ?_
      refine own_by (g' := (mkF m 198 #[.val (.int u1), .val (.int u2), .val (.int u3), .val (.int v101), .val (.int v102), .val (.int v103), .val (.int (1 : Int32)), .val (.int v106), .val (.long v119), .second] [(.long v119), (.long (v106).toInt64)])) (fun t k => XS.lload X120.here hx rfl (hb hby at_196) rfl k) ?_
      refine own_by (g' := (mkF m 199 #[.val (.int u1), .val (.int u2), .val (.int u3), .val (.int v101), .val (.int v102), .val (.int v103), .val (.int (1 : Int32)), .val (.int v106), .val (.long v119), .second] [(.int (lcmpW (v106).toInt64 v119))])) (fun t k => XS.lcmp X120.here hx rfl (hb hby at_198) rfl k) ?_
      refine own_by (g' := (mkF m 202 #[.val (.int u1), .val (.int u2), .val (.int u3), .val (.int v101), .val (.int v102), .val (.int v103), .val (.int (1 : Int32)), .val (.int v106), .val (.long v119), .second] [])) (fun t k => XS.ifNo X120.here hx rfl (hb hby at_199) rfl ((if0 _ _).trans (flt (fun q => ((own_t5 hv119 lst (by rw [← hv106]; exact bd.2)) : ¬ (v119 < (v106).toInt64)) ((lw_gt (v106).toInt64 v119).mp q))).2.2.1) k) ?_
      refine own_by (g' := (mkF m 203 #[.val (.int u1), .val (.int u2), .val (.int u3), .val (.int v101), .val (.int v102), .val (.int v103), .val (.int (1 : Int32)), .val (.int v106), .val (.long v119), .second] [(.int (1 : Int32))])) (fun t k => XS.iconst X120.here hx rfl (hb hby at_202) k) ?_
      refine own_by (g' := (mkF m 207 #[.val (.int u1), .val (.int u2), .val (.int u3), .val (.int v101), .val (.int v102), .val (.int v103), .val (.int (1 : Int32)), .val (.int v106), .val (.long v119), .second] [(.int (1 : Int32))])) (fun t k => XS.goto X120.here hx rfl (pc0 := 203) (pc' := 207) rfl (hb hby at_203) (by decide) (by decide) k) ?_
      refine own_by (g' := (mkF m 209 #[.val (.int u1), .val (.int u2), .val (.int u3), .val (.int v101), .val (.int v102), .val (.int v103), .val (.int (1 : Int32)), .val (.int v106), .val (.long v119), .second] [])) (fun t k => XS.istore X120.here hx rfl (hb hby at_207) rfl (l' := #[.val (.int u1), .val (.int u2), .val (.int u3), .val (.int v101), .val (.int v102), .val (.int v103), .val (.int (1 : Int32)), .val (.int v106), .val (.long v119), .second]) rfl k) ?_
      refine own_by (g' := (mkF m 211 #[.val (.int u1), .val (.int u2), .val (.int u3), .val (.int v101), .val (.int v102), .val (.int v103), .val (.int (1 : Int32)), .val (.int v106), .val (.long v119), .second] [(.int (1 : Int32))])) (fun t k => XS.iload X120.here hx rfl (hb hby at_209) rfl k) ?_
      refine own_retN X120 hx hlk hret (t := .boolean) (by simp) (hb hby at_211) (by decide) (by decide) ?_
      exact ⟨rfl, N120, e120⟩
    ·
      refine own_by (g' := (mkF m 139 #[.val (.int u1), .val (.int u2), .val (.int u3), .val (.int v101), .val (.int v102), .val (.int v103), .val (.int (1 : Int32)), .val (.int v106), .unset, .unset] [])) (fun t k => XS.icmpYes X105.here hx rfl (pc0 := 98) (pc' := 139) rfl (hb hby at_98) rfl (flt hc116).2.1 (by decide) (by decide) k) ?_
      refine own_by (g' := (mkF m 140 #[.val (.int u1), .val (.int u2), .val (.int u3), .val (.int v101), .val (.int v102), .val (.int v103), .val (.int (1 : Int32)), .val (.int v106), .unset, .unset] [(.int v101)])) (fun t k => XS.iloadN X105.here hx rfl (hb hby at_139) rfl k) ?_
      refine own_by (g' := (mkF m 141 #[.val (.int u1), .val (.int u2), .val (.int u3), .val (.int v101), .val (.int v102), .val (.int v103), .val (.int (1 : Int32)), .val (.int v106), .unset, .unset] [(.long (v101).toInt64)])) (fun t k => XS.i2l X105.here hx rfl (hb hby at_140) rfl k) ?_
      refine own_by (g' := (mkF m 142 #[.val (.int u1), .val (.int u2), .val (.int u3), .val (.int v101), .val (.int v102), .val (.int v103), .val (.int (1 : Int32)), .val (.int v106), .unset, .unset] [(.int v101), (.long (v101).toInt64)])) (fun t k => XS.iloadN X105.here hx rfl (hb hby at_141) rfl k) ?_
      refine own_by (g' := (mkF m 143 #[.val (.int u1), .val (.int u2), .val (.int u3), .val (.int v101), .val (.int v102), .val (.int v103), .val (.int (1 : Int32)), .val (.int v106), .unset, .unset] [(.int (1 : Int32)), (.int v101), (.long (v101).toInt64)])) (fun t k => XS.iconst X105.here hx rfl (hb hby at_142) k) ?_
      refine own_by (g' := (mkF m 144 #[.val (.int u1), .val (.int u2), .val (.int u3), .val (.int v101), .val (.int v102), .val (.int v103), .val (.int (1 : Int32)), .val (.int v106), .unset, .unset] [(.int (v101 + (1 : Int32))), (.long (v101).toInt64)])) (fun t k => XS.iadd X105.here hx rfl (hb hby at_143) rfl k) ?_
      refine own_by (g' := (mkF m 145 #[.val (.int u1), .val (.int u2), .val (.int u3), .val (.int v101), .val (.int v102), .val (.int v103), .val (.int (1 : Int32)), .val (.int v106), .unset, .unset] [(.long ((v101 + (1 : Int32))).toInt64), (.long (v101).toInt64)])) (fun t k => XS.i2l X105.here hx rfl (hb hby at_144) rfl k) ?_
      refine own_by (g' := (mkF m 146 #[.val (.int u1), .val (.int u2), .val (.int u3), .val (.int v101), .val (.int v102), .val (.int v103), .val (.int (1 : Int32)), .val (.int v106), .unset, .unset] [(.long ((v101).toInt64 * ((v101 + (1 : Int32))).toInt64))])) (fun t k => XS.lmul X105.here hx rfl (hb hby at_145) rfl k) ?_
      refine own_by (g' := (mkF m 149 #[.val (.int u1), .val (.int u2), .val (.int u3), .val (.int v101), .val (.int v102), .val (.int v103), .val (.int (1 : Int32)), .val (.int v106), .unset, .unset] [(.long (2 : Int64)), (.long ((v101).toInt64 * ((v101 + (1 : Int32))).toInt64))])) (fun t k => X105.ldc2Long hx hown (mvT hZ (hw _ (List.mem_of_getElem? (i := 5) rfl))) (g := (mkF m 146 #[.val (.int u1), .val (.int u2), .val (.int u3), .val (.int v101), .val (.int v102), .val (.int v103), .val (.int (1 : Int32)), .val (.int v106), .unset, .unset] [(.long ((v101).toInt64 * ((v101 + (1 : Int32))).toInt64))])) rfl (hb hby at_146) t k) ?_
      refine own_by (g' := (mkF m 150 #[.val (.int u1), .val (.int u2), .val (.int u3), .val (.int v101), .val (.int v102), .val (.int v103), .val (.int (1 : Int32)), .val (.int v106), .unset, .unset] [(.long (((v101).toInt64 * ((v101 + (1 : Int32))).toInt64) / (2 : Int64)))])) (fun t k => XS.ldiv X105.here hx rfl (hb hby at_149) rfl (by decide) k) ?_
      refine own_by (g' := (mkF m 151 #[.val (.int u1), .val (.int u2), .val (.int u3), .val (.int v101), .val (.int v102), .val (.int v103), .val (.int (1 : Int32)), .val (.int v106), .unset, .unset] [(.long (1 : Int64)), (.long (((v101).toInt64 * ((v101 + (1 : Int32))).toInt64) / (2 : Int64)))])) (fun t k => XS.lconst X105.here hx rfl (hb hby at_150) k) ?_
      refine own_by (g' := (mkF m 152 #[.val (.int u1), .val (.int u2), .val (.int u3), .val (.int v101), .val (.int v102), .val (.int v103), .val (.int (1 : Int32)), .val (.int v106), .unset, .unset] [(.long ((((v101).toInt64 * ((v101 + (1 : Int32))).toInt64) / (2 : Int64)) - (1 : Int64)))])) (fun t k => XS.lsub X105.here hx rfl (hb hby at_151) rfl k) ?_
      generalize hv121 : ((((v101).toInt64 * ((v101 + (1 : Int32))).toInt64) / (2 : Int64)) - (1 : Int64)) = v121
      refine own_by (g' := (mkF m 154 #[.val (.int u1), .val (.int u2), .val (.int u3), .val (.int v101), .val (.int v102), .val (.int v103), .val (.int (1 : Int32)), .val (.int v106), .val (.long v121), .second] [])) (fun t k => XS.lstore X105.here hx rfl (hb hby at_152) rfl (l' := #[.val (.int u1), .val (.int u2), .val (.int u3), .val (.int v101), .val (.int v102), .val (.int v103), .val (.int (1 : Int32)), .val (.int v106), .val (.long v121), .second]) rfl k) ?_
      refine own_by (g' := (mkF m 156 #[.val (.int u1), .val (.int u2), .val (.int u3), .val (.int v101), .val (.int v102), .val (.int v103), .val (.int (1 : Int32)), .val (.int v106), .val (.long v121), .second] [(.int (1 : Int32))])) (fun t k => XS.iload X105.here hx rfl (hb hby at_154) rfl k) ?_
      refine own_by (g' := (mkF m 159 #[.val (.int u1), .val (.int u2), .val (.int u3), .val (.int v101), .val (.int v102), .val (.int v103), .val (.int (1 : Int32)), .val (.int v106), .val (.long v121), .second] [])) (fun t k => XS.ifNo X105.here hx rfl (hb hby at_156) rfl ((if0 _ _).trans (feq (by decide : ¬ ((1 : Int32) = (0 : Int32)))).1) k) ?_
      refine own_by (g' := (mkF m 160 #[.val (.int u1), .val (.int u2), .val (.int u3), .val (.int v101), .val (.int v102), .val (.int v103), .val (.int (1 : Int32)), .val (.int v106), .val (.long v121), .second] [(.int v101)])) (fun t k => XS.iloadN X105.here hx rfl (hb hby at_159) rfl k) ?_
      refine own_by (g' := (mkF m 161 #[.val (.int u1), .val (.int u2), .val (.int u3), .val (.int v101), .val (.int v102), .val (.int v103), .val (.int (1 : Int32)), .val (.int v106), .val (.long v121), .second] [(.int v101), (.int v101)])) (fun t k => XS.iloadN X105.here hx rfl (hb hby at_160) rfl k) ?_
      refine own_by (g' := (mkF m 162 #[.val (.int u1), .val (.int u2), .val (.int u3), .val (.int v101), .val (.int v102), .val (.int v103), .val (.int (1 : Int32)), .val (.int v106), .val (.long v121), .second] [(.int (1 : Int32)), (.int v101), (.int v101)])) (fun t k => XS.iconst X105.here hx rfl (hb hby at_161) k) ?_
      refine own_by (g' := (mkF m 163 #[.val (.int u1), .val (.int u2), .val (.int u3), .val (.int v101), .val (.int v102), .val (.int v103), .val (.int (1 : Int32)), .val (.int v106), .val (.long v121), .second] [(.int (v101 - (1 : Int32))), (.int v101)])) (fun t k => XS.isub X105.here hx rfl (hb hby at_162) rfl k) ?_
      refine own_by (g' := (mkF m 164 #[.val (.int u1), .val (.int u2), .val (.int u3), .val (.int v101), .val (.int v102), .val (.int v103), .val (.int (1 : Int32)), .val (.int v106), .val (.long v121), .second] [(.int v101), (.int (v101 - (1 : Int32))), (.int v101)])) (fun t k => XS.iloadN X105.here hx rfl (hb hby at_163) rfl k) ?_
      refine own_by (g' := (mkF m 165 #[.val (.int u1), .val (.int u2), .val (.int u3), .val (.int v101), .val (.int v102), .val (.int v103), .val (.int (1 : Int32)), .val (.int v106), .val (.long v121), .second] [(.int (1 : Int32)), (.int v101), (.int (v101 - (1 : Int32))), (.int v101)])) (fun t k => XS.iconst X105.here hx rfl (hb hby at_164) k) ?_
      refine own_by (g' := (mkF m 166 #[.val (.int u1), .val (.int u2), .val (.int u3), .val (.int v101), .val (.int v102), .val (.int v103), .val (.int (1 : Int32)), .val (.int v106), .val (.long v121), .second] [(.int (v101 - (1 : Int32))), (.int (v101 - (1 : Int32))), (.int v101)])) (fun t k => XS.isub X105.here hx rfl (hb hby at_165) rfl k) ?_
      refine own_callS X105 hx hZ hown (hw _ (List.mem_of_getElem? (i := 1) rfl)) (hw _ (List.mem_of_getElem? (i := 2) rfl)) (hw _ (List.mem_of_getElem? (i := 3) rfl)) (hw _ (List.mem_of_getElem? (i := 4) rfl)) (by decide) (own_cat l Z a0 hw [] (v101) ((v101 - (1 : Int32))) ((v101 - (1 : Int32))) h0 n0 Z0 ) 0 (by decide) (by decide) (by decide) (by decide) e105 (g := (mkF m 166 #[.val (.int u1), .val (.int u2), .val (.int u3), .val (.int v101), .val (.int v102), .val (.int v103), .val (.int (1 : Int32)), .val (.int v106), .val (.long v121), .second] [(.int (v101 - (1 : Int32))), (.int (v101 - (1 : Int32))), (.int v101)])) rfl (by rw [hml]; rfl) (argsL := [(.int v101), (.int (v101 - (1 : Int32))), (.int (v101 - (1 : Int32)))]) (rest := []) (lenOf own_pd0 rfl) rfl (by show 2 * 0 + _ ≤ _; exact Nat.le_of_eq rfl) (hb hby at_166) ?_
      intro v122 T122 L122 X122 q122
      obtain ⟨rfl, N122q, e122⟩ := q122
      have N122 := Fr.app N105 N122q
      show own_Goes p e below s _ _ _ T122 (mkF m 169 #[.val (.int u1), .val (.int u2), .val (.int u3), .val (.int v101), .val (.int v102), .val (.int v103), .val (.int (1 : Int32)), .val (.int v106), .val (.long v121), .second] [(.int (own_at v101 (v101 - (1 : Int32)) (v101 - (1 : Int32))))])
      refine own_by (g' := (mkF m 170 #[.val (.int u1), .val (.int u2), .val (.int u3), .val (.int v101), .val (.int v102), .val (.int v103), .val (.int (1 : Int32)), .val (.int v106), .val (.long v121), .second] [(.long ((own_at v101 (v101 - (1 : Int32)) (v101 - (1 : Int32)))).toInt64)])) (fun t k => XS.i2l X122.here hx rfl (hb hby at_169) rfl k) ?_
      refine own_by (g' := (mkF m 172 #[.val (.int u1), .val (.int u2), .val (.int u3), .val (.int v101), .val (.int v102), .val (.int v103), .val (.int (1 : Int32)), .val (.int v106), .val (.long v121), .second] [(.long v121), (.long ((own_at v101 (v101 - (1 : Int32)) (v101 - (1 : Int32)))).toInt64)])) (fun t k => XS.lload X122.here hx rfl (hb hby at_170) rfl k) ?_
      refine own_by (g' := (mkF m 173 #[.val (.int u1), .val (.int u2), .val (.int u3), .val (.int v101), .val (.int v102), .val (.int v103), .val (.int (1 : Int32)), .val (.int v106), .val (.long v121), .second] [(.int (lcmpW ((own_at v101 (v101 - (1 : Int32)) (v101 - (1 : Int32)))).toInt64 v121))])) (fun t k => XS.lcmp X122.here hx rfl (hb hby at_172) rfl k) ?_
      refine own_by (g' := (mkF m 176 #[.val (.int u1), .val (.int u2), .val (.int u3), .val (.int v101), .val (.int v102), .val (.int v103), .val (.int (1 : Int32)), .val (.int v106), .val (.long v121), .second] [])) (fun t k => XS.ifNo X122.here hx rfl (hb hby at_173) rfl ((if0 _ _).trans (teq ((lw_eq ((own_at v101 (v101 - (1 : Int32)) (v101 - (1 : Int32)))).toInt64 v121).mpr ((by rw [← hv121]; exact own_t3 m1 m2) : ((own_at v101 (v101 - (1 : Int32)) (v101 - (1 : Int32)))).toInt64 = v121))).2) k) ?_
      refine own_by (g' := (mkF m 177 #[.val (.int u1), .val (.int u2), .val (.int u3), .val (.int v101), .val (.int v102), .val (.int v103), .val (.int (1 : Int32)), .val (.int v106), .val (.long v121), .second] [(.int (1 : Int32))])) (fun t k => XS.iconst X122.here hx rfl (hb hby at_176) k) ?_
      refine own_by (g' := (mkF m 181 #[.val (.int u1), .val (.int u2), .val (.int u3), .val (.int v101), .val (.int v102), .val (.int v103), .val (.int (1 : Int32)), .val (.int v106), .val (.long v121), .second] [(.int (1 : Int32))])) (fun t k => XS.goto X122.here hx rfl (pc0 := 177) (pc' := 181) rfl (hb hby at_177) (by decide) (by decide) k) ?_
      refine own_by (g' := (mkF m 183 #[.val (.int u1), .val (.int u2), .val (.int u3), .val (.int v101), .val (.int v102), .val (.int v103), .val (.int (1 : Int32)), .val (.int v106), .val (.long v121), .second] [])) (fun t k => XS.istore X122.here hx rfl (hb hby at_181) rfl (l' := #[.val (.int u1), .val (.int u2), .val (.int u3), .val (.int v101), .val (.int v102), .val (.int v103), .val (.int (1 : Int32)), .val (.int v106), .val (.long v121), .second]) rfl k) ?_
      refine own_by (g' := (mkF m 185 #[.val (.int u1), .val (.int u2), .val (.int u3), .val (.int v101), .val (.int v102), .val (.int v103), .val (.int (1 : Int32)), .val (.int v106), .val (.long v121), .second] [(.int (1 : Int32))])) (fun t k => XS.iload X122.here hx rfl (hb hby at_183) rfl k) ?_
      refine own_by (g' := (mkF m 188 #[.val (.int u1), .val (.int u2), .val (.int u3), .val (.int v101), .val (.int v102), .val (.int v103), .val (.int (1 : Int32)), .val (.int v106), .val (.long v121), .second] [])) (fun t k => XS.ifNo X122.here hx rfl (hb hby at_185) rfl ((if0 _ _).trans (feq (by decide : ¬ ((1 : Int32) = (0 : Int32)))).1) k) ?_
      refine own_by (g' := (mkF m 190 #[.val (.int u1), .val (.int u2), .val (.int u3), .val (.int v101), .val (.int v102), .val (.int v103), .val (.int (1 : Int32)), .val (.int v106), .val (.long v121), .second] [(.int v106)])) (fun t k => XS.iload X122.here hx rfl (hb hby at_188) rfl k) ?_
      refine own_by (g' := (mkF m 193 #[.val (.int u1), .val (.int u2), .val (.int u3), .val (.int v101), .val (.int v102), .val (.int v103), .val (.int (1 : Int32)), .val (.int v106), .val (.long v121), .second] [])) (fun t k => XS.ifNo X122.here hx rfl (hb hby at_190) rfl ((if0 _ _).trans (flt (by rw [← hv106, Int32.lt_iff_toInt_lt, show (0 : Int32).toInt = 0 from by decide]; omega)).1) k) ?_
      refine own_by (g' := (mkF m 195 #[.val (.int u1), .val (.int u2), .val (.int u3), .val (.int v101), .val (.int v102), .val (.int v103), .val (.int (1 : Int32)), .val (.int v106), .val (.long v121), .second] [(.int v106)])) (fun t k => XS.iload X122.here hx rfl (hb hby at_193) rfl k) ?_
      refine own_by (g' := (mkF m 196 #[.val (.int u1), .val (.int u2), .val (.int u3), .val (.int v101), .val (.int v102), .val (.int v103), .val (.int (1 : Int32)), .val (.int v106), .val (.long v121), .second] [(.long (v106).toInt64)])) (fun t k => XS.i2l X122.here hx rfl (hb hby at_195) rfl k) ?_
      refine own_by (g' := (mkF m 198 #[.val (.int u1), .val (.int u2), .val (.int u3), .val (.int v101), .val (.int v102), .val (.int v103), .val (.int (1 : Int32)), .val (.int v106), .val (.long v121), .second] [(.long v121), (.long (v106).toInt64)])) (fun t k => XS.lload X122.here hx rfl (hb hby at_196) rfl k) ?_
      refine own_by (g' := (mkF m 199 #[.val (.int u1), .val (.int u2), .val (.int u3), .val (.int v101), .val (.int v102), .val (.int v103), .val (.int (1 : Int32)), .val (.int v106), .val (.long v121), .second] [(.int (lcmpW (v106).toInt64 v121))])) (fun t k => XS.lcmp X122.here hx rfl (hb hby at_198) rfl k) ?_
      refine own_by (g' := (mkF m 202 #[.val (.int u1), .val (.int u2), .val (.int u3), .val (.int v101), .val (.int v102), .val (.int v103), .val (.int (1 : Int32)), .val (.int v106), .val (.long v121), .second] [])) (fun t k => XS.ifNo X122.here hx rfl (hb hby at_199) rfl ((if0 _ _).trans (flt (fun q => ((own_t5 hv121 lst (by rw [← hv106]; exact bd.2)) : ¬ (v121 < (v106).toInt64)) ((lw_gt (v106).toInt64 v121).mp q))).2.2.1) k) ?_
      refine own_by (g' := (mkF m 203 #[.val (.int u1), .val (.int u2), .val (.int u3), .val (.int v101), .val (.int v102), .val (.int v103), .val (.int (1 : Int32)), .val (.int v106), .val (.long v121), .second] [(.int (1 : Int32))])) (fun t k => XS.iconst X122.here hx rfl (hb hby at_202) k) ?_
      refine own_by (g' := (mkF m 207 #[.val (.int u1), .val (.int u2), .val (.int u3), .val (.int v101), .val (.int v102), .val (.int v103), .val (.int (1 : Int32)), .val (.int v106), .val (.long v121), .second] [(.int (1 : Int32))])) (fun t k => XS.goto X122.here hx rfl (pc0 := 203) (pc' := 207) rfl (hb hby at_203) (by decide) (by decide) k) ?_
      refine own_by (g' := (mkF m 209 #[.val (.int u1), .val (.int u2), .val (.int u3), .val (.int v101), .val (.int v102), .val (.int v103), .val (.int (1 : Int32)), .val (.int v106), .val (.long v121), .second] [])) (fun t k => XS.istore X122.here hx rfl (hb hby at_207) rfl (l' := #[.val (.int u1), .val (.int u2), .val (.int u3), .val (.int v101), .val (.int v102), .val (.int v103), .val (.int (1 : Int32)), .val (.int v106), .val (.long v121), .second]) rfl k) ?_
      refine own_by (g' := (mkF m 211 #[.val (.int u1), .val (.int u2), .val (.int u3), .val (.int v101), .val (.int v102), .val (.int v103), .val (.int (1 : Int32)), .val (.int v106), .val (.long v121), .second] [(.int (1 : Int32))])) (fun t k => XS.iload X122.here hx rfl (hb hby at_209) rfl k) ?_
      refine own_retN X122 hx hlk hret (t := .boolean) (by simp) (hb hby at_211) (by decide) (by decide) ?_
      exact ⟨rfl, N122, e122⟩
set_option maxRecDepth 65536 in
set_option maxHeartbeats 40000000 in
theorem comes_1 {Post : Tables → Env → Array Value → State → Outcome → State → Prop} (hpost : ∀ tb e args s v u, (limb_1_1.after args s (.returned v) u = true ∧ limb_1_2.after args s (.returned v) u = true ∧ True) → FrameEnd s (.returned v) u (Jvm.fieldLocs frame_1_writes args s ++ Jvm.arrayLocs frame_1_arrays args s ++ Jvm.staticLocs frame_1_statics s) 0 0 → Post tb e args s (.returned v) u) :
    ArmFor flags0 classFile x code maxLocals ret World_1 tables_1 room_1 Calls_1 rest_1 Pre_1 Post := by
  intro l hfl _ _ p e ha hc hk s m args below hf hA hF happ hP
  obtain ⟨hcalls, hrest, hpre⟩ := hP
  obtain ⟨-, -, -, hnamed, -, -, -, hat⟩ := (Spec.applies_iff hf).mp happ
  obtain ⟨hg, hn⟩ := and_e (Cond.before_iff.mp (show (Jvm.Cond.and given_1 narrow_1).before args s = true from hpre))
  obtain ⟨ga1, gb1⟩ := and_e hg
  obtain ⟨ga2, gb2⟩ := and_e gb1
  obtain ⟨ga3, gb3⟩ := and_e gb2
  obtain ⟨w0, w1, w2, rfl⟩ : ∃ w0 w1 w2 : Value, args = #[w0, w1, w2] := by
    have hs : args.size = 3 := by simpa [Cond.value, given_1] using ga1
    obtain ⟨L⟩ := args
    match L, hs with
    | [w0, w1, w2], _ => exact ⟨w0, w1, w2, rfl⟩
  have hw := fun d (hd : d ∈ tables_1) => atoms_spec (ws := Jvm.Cond.code x code maxLocals ret :: tables_1) hat d (List.mem_cons_of_mem _ hd)
  have hfit : Fit s := fun {y c} hc i hi => by
    obtain ⟨ha, rfl⟩ := Array.getElem?_eq_some_iff.mp hc
    have q := List.all_eq_true.mp ((Array.all_eq_true_iff_forall_mem.mp hF) _ (Array.getElem_mem ha)) i (List.mem_range.mpr hi)
    simpa [Array.getElem?_eq_getElem hi] using q
  obtain ⟨i0, ei0⟩ := is_v ga2
  obtain rfl : w0 = (.int i0) := Option.some.inj ei0
  obtain ⟨i1, ei1⟩ := is_v ga3
  obtain rfl : w1 = (.int i1) := Option.some.inj ei1
  obtain ⟨i2, ei2⟩ := is_v gb3
  obtain rfl : w2 = (.int i2) := Option.some.inj ei2
  obtain ⟨n, o, h1, h2, h3, _, L, rfl, ⟨rfl, N, -⟩, hq⟩ := own_law l s _ hw tables_1 i0 i1 i2 s.heap s.heap.size (Nat.le_refl _)  p e ha hc hk s m _ below hf ((Spec.applies_iff_loose hf).mp happ).1 ⟨rfl, State.Warmed39.refl s, rfl⟩ trivial
  exact ⟨n, _, h1, h2, h3, hpost _ _ _ _ _ _ ⟨Cond.after_iff.mpr rfl, Cond.after_iff.mpr (eq_i res_at (Term.int_eval (1)) rfl), trivial⟩ ⟨hq.1, hq.2.1, (hq.2.2.sift fun y hy => Or.inr (N y hy)).mono (by decide) (by decide)⟩⟩
theorem main_1_1 : Claimed_1_1 := comes_1 fun _ _ _ _ _ _ h hF => ⟨h.1, hF⟩
theorem main_1_2 : Claimed_1_2 := comes_1 fun _ _ _ _ _ _ h hF => ⟨h.2.1, hF⟩
end Jvm.Pilot.@@N@@
namespace Jvm.Pilot.@@N@@
open Jvm Jvm.ClassFile Sem Op Lib Jvm.Free Jvm.Stand Jvm.Pilot.@@N@@.Jvm.D
/-! MADE BY PROGRAM (witnessworld.py) out of the Statement's table words and the real class files: 9 classes; the members and pool entries that the words name. The judged class is class 1, her method 1. -/
namespace start1
open Jvm.ClassFile
def u (s : String) : CpInfo := .utf8 (stringToUtf16 s)
/-- a pool by its gaps: so many unusable entries, then the entry; so many at the end -/
def gap : Nat → List CpInfo → List CpInfo
  | 0, r => r
  | n + 1, r => .unusable :: gap n r
def poolList (es : List (Nat × CpInfo)) (last : Nat) : List CpInfo := es.foldr (fun e r => gap e.1 (e.2 :: r)) (gap last [])
def pool (es : List (Nat × CpInfo)) (last : Nat) : Array CpInfo := ⟨poolList es last⟩
def fileOf (pool : Array CpInfo) (this : Nat) (attrs : Array Attribute := #[]) (ms : Array MethodInfo := #[]) (fl : Nat := 33) (sup : Nat := 0) (ifs : Array Nat := #[]) (fds : Array FieldInfo := #[]) : ClassFile where
  minorVersion := 0
  majorVersion := 65
  constantPool := pool
  accessFlags := fl
  thisClass := this
  superClass := sup
  interfaces := ifs
  fields := fds
  methods := ms
  attributes := attrs
def plain (name : String) (sup : Option ClassId) : Class where
  name := name
  kind := .ordinary
  loader := none
  accessFlags := 33
  super := sup
  interfaces := #[]
  cf := none
  fields := #[]
  methods := #[]
  instanceTypes := #[]
  staticTypes := #[]
  resolved := #[]
  callSites := []
  init := .initialized
  statics := none
  mirror := none

def pool0 : Array CpInfo := pool [(5, u "<init>"), (0, u "()V"), (1, .class_ 10), (1, u "java/lang/Object")] 113

def k0m0 : Method := { name := "<init>", desc := "()V", sig := { parameters := [], returnType := none }, accessFlags := 1, code := none }
/-- java/lang/Object -/
def k0 : Class := { plain "java/lang/Object" none with
  accessFlags := 33
  interfaces := #[]
  cf := some (fileOf pool0 8 #[] #[{ accessFlags := 1, nameIndex := 5, descriptorIndex := 6, attributes := #[] }] 33 0 #[] #[])
  fields := #[]
  methods := #[k0m0]
  instanceTypes := #[]
  staticTypes := #[]
  resolved := Array.replicate 124 none
  statics := none }

def pool1 : Array CpInfo := pool [(2, .class_ 4), (1, u "java/lang/Object"), (0, u "<init>"), (0, u "()V"), (0, .integer 2147483647), (0, .methodref 9 10), (0, .class_ 11), (0, .nameAndType 12 13), (0, u "com/example/ringfold/ringfold/ring/Covariance"), (0, u "at"), (0, u "(III)I"), (0, .long 2), (1, .class_ 17), (0, u "com/example/ringfold/ringfold/ring/CovarianceAtPinLaw"), (2, u "law"), (0, u "(III)Z")] 3

def k1m0 : Method := { name := "<init>", desc := "()V", sig := { parameters := [], returnType := none }, accessFlags := 1, code := none }
def k1c1 : Code := { maxStack := 5, maxLocals := 10, code := code, exceptionTable := #[], attributes := #[] }
def k1m1 : Method := { name := "law", desc := "(III)Z", sig := { parameters := [.int, .int, .int], returnType := some .boolean }, accessFlags := 9, code := some k1c1 }
/-- com/example/ringfold/ringfold/ring/CovarianceAtPinLaw -/
def k1 : Class := { plain "com/example/ringfold/ringfold/ring/CovarianceAtPinLaw" (some 0) with
  accessFlags := 49
  interfaces := #[]
  cf := some (fileOf pool1 16 #[] #[{ accessFlags := 1, nameIndex := 5, descriptorIndex := 6, attributes := #[] }, { accessFlags := 9, nameIndex := 20, descriptorIndex := 21, attributes := #[] }] 49 2 #[] #[])
  fields := #[]
  methods := #[k1m0, k1m1]
  instanceTypes := #[]
  staticTypes := #[]
  resolved := Array.replicate 25 none
  statics := none }

def pool2 : Array CpInfo := pool [(2, .class_ 4), (1, u "java/lang/Object"), (3, .class_ 10), (1, u "com/example/ringfold/ringfold/ring/Covariance"), (0, u "count"), (0, u "J"), (2, u "sums"), (0, u "[D"), (2, u "products"), (2, u "support"), (0, u "Lcom/example/ringfold/ringfold/ring/Support;"), (15, u "row"), (19, u "at"), (0, u "(III)I")] 93

def k2c0 : Code := { maxStack := 4, maxLocals := 3, code := prog_60_method_8_code, exceptionTable := #[], attributes := #[] }
def k2m0 : Method := { name := "at", desc := "(III)I", sig := { parameters := [.int, .int, .int], returnType := some .int }, accessFlags := 8, code := some k2c0 }
/-- com/example/ringfold/ringfold/ring/Covariance -/
def k2 : Class := { plain "com/example/ringfold/ringfold/ring/Covariance" (some 0) with
  accessFlags := 33
  interfaces := #[]
  cf := some (fileOf pool2 8 #[] #[{ accessFlags := 8, nameIndex := 59, descriptorIndex := 60, attributes := #[] }] 33 2 #[] #[{ accessFlags := 2, nameIndex := 11, descriptorIndex := 12, attributes := #[] }, { accessFlags := 2, nameIndex := 15, descriptorIndex := 16, attributes := #[] }, { accessFlags := 2, nameIndex := 19, descriptorIndex := 16, attributes := #[] }, { accessFlags := 2, nameIndex := 39, descriptorIndex := 16, attributes := #[] }, { accessFlags := 2, nameIndex := 22, descriptorIndex := 23, attributes := #[] }])
  fields := #[{ name := "count", type := .long, accessFlags := 2, slot := 0, constantValue := 0 }, { name := "sums", type := (.array .double), accessFlags := 2, slot := 1, constantValue := 0 }, { name := "products", type := (.array .double), accessFlags := 2, slot := 2, constantValue := 0 }, { name := "row", type := (.array .double), accessFlags := 2, slot := 3, constantValue := 0 }, { name := "support", type := (.object "com/example/ringfold/ringfold/ring/Support"), accessFlags := 2, slot := 4, constantValue := 0 }]
  methods := #[k2m0]
  instanceTypes := #[.long, (.array .double), (.array .double), (.array .double), (.object "com/example/ringfold/ringfold/ring/Support")]
  staticTypes := #[]
  resolved := Array.replicate 154 none
  statics := none }

def pool3 : Array CpInfo := pool [(1, u "java/lang/Cloneable"), (0, .class_ 1), (0, u "java/lang/Object"), (0, .class_ 3)] 3

/-- java/lang/Cloneable -/
def k3 : Class := { plain "java/lang/Cloneable" (some 0) with
  accessFlags := 1537
  interfaces := #[]
  cf := some (fileOf pool3 2 #[] #[] 1537 4 #[] #[])
  fields := #[]
  methods := #[]
  instanceTypes := #[]
  staticTypes := #[]
  resolved := Array.replicate 8 none
  statics := none }

def pool4 : Array CpInfo := pool [(1, u "java/io/Serializable"), (0, .class_ 1), (0, u "java/lang/Object"), (0, .class_ 3)] 3

/-- java/io/Serializable -/
def k4 : Class := { plain "java/io/Serializable" (some 0) with
  accessFlags := 1537
  interfaces := #[]
  cf := some (fileOf pool4 2 #[] #[] 1537 4 #[] #[])
  fields := #[]
  methods := #[]
  instanceTypes := #[]
  staticTypes := #[]
  resolved := Array.replicate 8 none
  statics := none }

/-- the primitive byte -/
def k5 : Class := { plain "byte" none with kind := .primitive 'B', accessFlags := 0x411 }
/-- [B -/
def k6 : Class := { plain "[B" (some 0) with kind := .array 5 .byte, interfaces := #[3, 4], accessFlags := 1041 }

/-- the primitive int -/
def k7 : Class := { plain "int" none with kind := .primitive 'I', accessFlags := 0x411 }
/-- [I -/
def k8 : Class := { plain "[I" (some 0) with kind := .array 7 .int, interfaces := #[3, 4], accessFlags := 1041 }

def heap : Heap := #[]
def classes : Array Class := #[k0, k1, k2, k3, k4, k5, k6, k7, k8]
def interned : List (Array UInt16 × Addr) := []
def slotsUsed : Nat := 0
def theMethod : MethodId := ⟨1, 1⟩
def args0 : Array Value := #[.int 5, .int 7, .int 9]
def aboutOver (below : List Frame) : State where
  vm := { classes := classes, interned := interned.toArray }
  heap := heap
  slotsUsed := slotsUsed
  threads := #[{ frames := .invoking theMethod args0 :: below }]
def below0 : List Frame := [.native { method := ⟨0, 0⟩, args := #[] }]
def about1 : State := aboutOver below0
def p0 : Program := .bare "" "" ""
def e0 : Env := launch0.env 0 0 0
theorem w_frames : about1.frames = Frame.invoking theMethod args0 :: below0 := rfl
set_option maxRecDepth 65536 in
theorem w_args : argsFit about1.vm theMethod args0 = true := by decide +kernel
set_option maxRecDepth 65536 in
theorem w_heap : heapFits about1 = true := by decide +kernel
set_option maxRecDepth 65536 in
theorem w_runnable : about1.curStatus? = some .runnable := by decide +kernel
set_option maxRecDepth 65536 in
theorem w_alone : about1.alone = true := by decide +kernel
set_option maxRecDepth 65536 in
theorem w_named : about1.methodNamed? x = some theMethod := by decide +kernel
set_option maxRecDepth 65536 in
theorem w_hears : about1.hears theMethod below0 = true := by decide +kernel
set_option maxRecDepth 65536 in
theorem w_ripe : about1.ripe theMethod args0 below0 = true := by decide +kernel
theorem w_running : about1.status = .running := rfl
set_option maxRecDepth 65536 in
theorem w_room : about1.hasRoom e0.platform room_1 = true :=
  launch0.hasRoom_least _ room_1 (by decide +kernel) (by decide +kernel) (by decide +kernel) (by decide +kernel) (by decide +kernel) (by decide +kernel)
theorem allAtoms_all (ts : List Jvm.Cond) (a : Array Jvm.Value) (st : Jvm.State) : (allAtoms ts).before a st = ts.all (fun c => c.before a st) := by
  induction ts with
  | nil => rfl
  | cons c t ih =>
    show (Jvm.Cond.and c (allAtoms t)).before a st = _
    rw [Jvm.Cond.before_and, ih, List.all_cons]
def words1 : List Jvm.Cond := Jvm.Cond.code x code maxLocals ret :: tables_1
/-- a 'code' word, met by the world's own term for the bytes: nothing is compared byte by byte -/
theorem code_word {y : MethodName} {bytes : ByteArray} {mx : Nat} {rt : Option FieldType} {a : Array Value} {s : State} {m : MethodId} {meth : Method} {c : Code} (h1 : s.methodNamed? y = some m) (h2 : s.vm.method? m = some meth) (h3 : meth.code = some c) (h4 : c.code = bytes)
    (h5 : (c.maxLocals == mx && c.exceptionTable.isEmpty && decide (c.maxStack ≤ mostOperands) && decide (meth.sig.returnType = rt) && !meth.locks && decide (parseMethodDescriptor y.desc = some meth.sig)) = true) : (Jvm.Cond.code y bytes mx rt).before a s = true := by
  simp only [Bool.and_eq_true, beq_iff_eq, Bool.not_eq_true', decide_eq_true_eq] at h5
  obtain ⟨⟨⟨⟨⟨g1, g2⟩, g3⟩, g4⟩, g5⟩, g6⟩ := h5
  simp [Cond.before, Cond.holds, Cond.value, h1, h2, h3, h4, g1, g2, g3, g4, g5, g6]
def isCode : Jvm.Cond → Bool
  | .code _ _ _ _ => true
  | _ => false
theorem all_split {L : List Jvm.Cond} {P : Jvm.Cond → Bool} (h1 : L.all (fun c => isCode c || P c) = true) (h2 : ∀ c ∈ L.filter isCode, P c = true) : L.all P = true := by
  refine List.all_eq_true.mpr fun c hc => ?_
  have h := List.all_eq_true.mp h1 c hc
  rcases Bool.eq_false_or_eq_true (isCode c) with hi | hi
  · exact h2 c (List.mem_filter.mpr ⟨hc, hi⟩)
  · simpa [hi] using h
set_option maxRecDepth 65536 in
theorem w_c0 : (Jvm.Cond.code x code maxLocals ret).before args0 about1 = true := code_word (m := ⟨1, 1⟩) (meth := k1m1) (c := k1c1) (by decide +kernel) rfl rfl rfl (by decide +kernel)
set_option maxRecDepth 65536 in
theorem w_c1 : (Jvm.Cond.code ({ cls := "com/example/ringfold/ringfold/ring/Covariance", name := "at", desc := "(III)I" } : Jvm.MethodName) prog_60_method_8_code (3 : Nat) (Option.some Jvm.ClassFile.FieldType.int)).before args0 about1 = true := code_word (m := ⟨2, 0⟩) (meth := k2m0) (c := k2c0) (by decide +kernel) rfl rfl rfl (by decide +kernel)
def codes1 : List Jvm.Cond := [Jvm.Cond.code x code maxLocals ret, Jvm.Cond.code ({ cls := "com/example/ringfold/ringfold/ring/Covariance", name := "at", desc := "(III)I" } : Jvm.MethodName) prog_60_method_8_code (3 : Nat) (Option.some Jvm.ClassFile.FieldType.int)]
set_option maxRecDepth 65536 in
theorem codes_eq : words1.filter isCode = codes1 := rfl
theorem w_codes : ∀ c ∈ words1.filter isCode, c.before args0 about1 = true := by
  rw [codes_eq]
  intro c hc
  simp only [codes1, List.mem_cons, List.not_mem_nil, or_false] at hc
  rcases hc with rfl | rfl
  · exact w_c0
  · exact w_c1
set_option maxRecDepth 65536 in
theorem w_t1 : words1.all (fun c => isCode c || c.before args0 about1) = true := by decide +kernel
theorem w_tables : (allAtoms (Jvm.Cond.code x code maxLocals ret :: tables_1)).before args0 about1 = true := by
  rw [allAtoms_all]
  show words1.all (fun c => c.before args0 about1) = true
  refine all_split ?_ w_codes
  rw [w_t1]
set_option maxRecDepth 65536 in
theorem w_case : (Jvm.Cond.and given_1 narrow_1).before args0 about1 = true := by decide +kernel
theorem w_applies : (headSpec (Jvm.Cond.code x code maxLocals ret :: tables_1) room_1).applies x e0.platform about1 = true :=
  (Spec.applies_iff w_frames).mpr ⟨w_running, w_runnable, w_alone, w_named, w_hears, w_ripe, w_room, w_tables⟩
theorem atStart : AtStart classFile x code maxLocals ret World_1 tables_1 room_1 Calls_1 rest_1 Pre_1 launch0 p0 e0 about1 theMethod args0 below0 :=
  ⟨lists_1, trivial, launch0.admits_env _ _ _, launch0.least_env, fairChoices_fair.cas, fairChoices_fair.clock, w_frames, w_args, w_heap, w_applies, trivial, trivial, w_case⟩
end start1
theorem witness_1 : WitnessClaimed_1 := ⟨start1.p0, start1.e0, start1.about1, start1.theMethod, start1.args0, start1.below0, start1.atStart⟩
end Jvm.Pilot.@@N@@
