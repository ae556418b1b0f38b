import JvmDerived
import JvmDerived.Pilot.@@N@@Statement
import JvmDerived.Pilot.@@N@@Code
set_option linter.unusedVariables false
set_option linter.unusedSimpArgs false
namespace Jvm.Pilot.@@N@@
open Jvm Jvm.ClassFile Sem Op Lib Jvm.Free Jvm.Stand Jvm.LawKit Jvm.RoadKit Bundle Jvm.Pilot.@@N@@.Jvm.D
/-! own prelude: 'own_Goes' says that from state T with top frame g the invocation comes to its end with what Q says -/
section OwnPrelude
variable {p : Program} {l : Launch} {e : Env} {R : Room} {s : State} {m : MethodId} {args : Array Value} {below : List Frame} {meth : Method} {c : Code} {T T' : State} {locs : List Loc} {cells slots : Nat} {Z : State} {a0 : Array Value} {h : Heap} {kc ks : Nat} {Q : Option Value → Heap → List Loc → Prop} {g g' : JFrame}
def own_Goes (p : Program) (e : Env) (below : List Frame) (s : State) (kc ks : Nat) (Q : Option Value → Heap → List Loc → Prop) (T : State) (g : JFrame) : Prop :=
  ∃ t o, Steps p.tables e below (T.setTop g) t ∧ t.status = .running ∧ Ended t below o ∧ ∃ v L, o = .returned v ∧ Q v t.heap L ∧ FrameEnd s o t L kc ks
abbrev own_Ctr (l : Launch) (Z : State) (y : MethodName) (bytes : ByteArray) (maxL : Nat) (ret : Option FieldType) (ws : List Jvm.Cond) (rm : Room) (kc ks : Nat) (as' : Array Value) (h : Heap) (Q : Option Value → Heap → List Loc → Prop) : Prop :=
  MetFree l y (head1 (Jvm.Cond.code y bytes maxL ret :: ws) rm) (fun a U => a = as' ∧ Z.Warmed39 U.vm ∧ U.heap = h) (fun _ _ _ _ _ => True) (fun _ U o U' => ∃ v L, o = .returned v ∧ Q v U'.heap L ∧ FrameEnd U o U' L kc ks)
theorem own_by (st : ∀ t, Steps p.tables e below (T'.setTop g') t → Steps p.tables e below (T.setTop g) t) (k : own_Goes p e below s kc ks Q T' g') : own_Goes p e below s kc ks Q T g := by
  obtain ⟨t, o, h1, r⟩ := k; exact ⟨t, o, st t h1, r⟩
theorem own_cast (q : g = g') (k : own_Goes p e below s kc ks Q T g') : own_Goes p e below s kc ks Q T g := q ▸ k
theorem own_enter {y : MethodName} {bytes : ByteArray} {maxL : Nat} {ret : Option FieldType} {ws : List Jvm.Cond} {rm : Room} {as' : Array Value} (hpl : plainFor y = true)
    (k : ∀ p e s m below meth c s₁, Stand p l e rm s m as' below meth c s₁ [] 0 0 → p.tables.exec = Jvm.exec → Z.Warmed39 s.vm → c.code = bytes → c.maxLocals = maxL → s.vm.findClass y.cls = some m.cls → meth.name = y.name → meth.locks = false → meth.sig.returnType = ret → s₁.heap = h → own_Goes p e below s kc ks Q s₁ (entryFrame m as' maxL)) :
    own_Ctr l Z y bytes maxL ret ws rm kc ks as' h Q := by
  refine MetFree.of_bodySF hpl hisR ?_
  intro p e s m args below meth c s₁ Bd hml0 hP hK
  obtain ⟨rfl, hZ, hh⟩ := hP
  exact k p e s m below meth c s₁ (Stand.of_body Bd) Bd.exec hZ Bd.bytes hml0 (findClass_of_methodNamed Bd.named) (name_of_methodNamed Bd.named Bd.method).1 Bd.notSynchronized Bd.returns (by rw [← hh, Bd.state]; rfl)
theorem own_mono (X : Stand p l e R s m args below meth c T locs cells slots) {c' n' : Nat} (h1 : cells ≤ c') (h2 : slots ≤ n') : Stand p l e R s m args below meth c T locs c' n' :=
  { X with same := X.same.mono h1 h2 }
theorem own_out (X : Stand p l e R s m args below meth c T locs cells slots) (hlk : meth.locks = false) {v : Option Value} (hv : meth.sig.returnType = none → v = none)
    (st : ∀ fs, (∀ (f : JFrame) (acts : List Action), f.method = m → f.locked = none → f.entered = [] → (doReturn e (T.setTop f) acts v).1 = T.setFrames fs) → Steps p.tables e below (T.setTop g) (T.setFrames fs))
    (hc : cells ≤ kc) (hs : slots ≤ ks) (hQ : Q v T.heap locs) : own_Goes p e below s kc ks Q T g := by
  obtain ⟨fs, hr, hrun, hended, hW, hsame⟩ := X.leave (v := v) hv hlk
  exact ⟨_, _, st fs hr, hrun, hended, v, locs, rfl, hQ, ⟨_, rfl⟩, hW, hsame.mono hc hs⟩
theorem own_ret {w : Value} {t : FieldType} {i : Instr} {pc : Nat} {Ls : Array Slot} {rest : List Value} (X : Stand p l e R s m args below meth c T locs cells slots) (hx : p.tables.exec = Jvm.exec) (hlk : meth.locks = false) (hret : meth.sig.returnType = some t) (hn : narrow t w = w)
    (hi : (i = .ireturn ∧ (t = .int ∨ t = .boolean ∨ t = .byte ∨ t = .char ∨ t = .short) ∧ ∃ z, w = .int z) ∨ (i = .lreturn ∧ t = .long ∧ ∃ z, w = .long z) ∨ (i = .dreturn ∧ t = .double ∧ ∃ z, w = .double z) ∨ (i = .freturn ∧ t = .float ∧ ∃ z, w = .float z) ∨ (i = .areturn ∧ t.isReference = true ∧ w.isRef = true))
    (hd : decode c.code pc = .ok (i, 1)) (hc : cells ≤ kc) (hs : slots ≤ ks) (hQ : Q (some w) T.heap locs) : own_Goes p e below s kc ks Q T (mkF m pc Ls (w :: rest)) :=
  own_out X hlk (fun h => by rw [hret] at h; cases h) (fun fs hr => retOut X hx hret hn hi hd hr) hc hs hQ
theorem own_retI {z : Int32} {pc : Nat} {Ls : Array Slot} {rest : List Value} (X : Stand p l e R s m args below meth c T locs cells slots) (hx : p.tables.exec = Jvm.exec) (hlk : meth.locks = false) (hret : meth.sig.returnType = some .int)
    (hd : decode c.code pc = .ok (.ireturn, 1)) (hc : cells ≤ kc) (hs : slots ≤ ks) (hQ : Q (some (.int z)) T.heap locs) : own_Goes p e below s kc ks Q T (mkF m pc Ls (.int z :: rest)) :=
  own_ret X hx hlk hret rfl (Or.inl ⟨rfl, Or.inl rfl, z, rfl⟩) hd hc hs hQ
theorem own_retJ {z : Int64} {pc : Nat} {Ls : Array Slot} {rest : List Value} (X : Stand p l e R s m args below meth c T locs cells slots) (hx : p.tables.exec = Jvm.exec) (hlk : meth.locks = false) (hret : meth.sig.returnType = some .long)
    (hd : decode c.code pc = .ok (.lreturn, 1)) (hc : cells ≤ kc) (hs : slots ≤ ks) (hQ : Q (some (.long z)) T.heap locs) : own_Goes p e below s kc ks Q T (mkF m pc Ls (.long z :: rest)) :=
  own_ret X hx hlk hret rfl (Or.inr (Or.inl ⟨rfl, rfl, z, rfl⟩)) hd hc hs hQ
theorem own_retD {z : UInt64} {pc : Nat} {Ls : Array Slot} {rest : List Value} (X : Stand p l e R s m args below meth c T locs cells slots) (hx : p.tables.exec = Jvm.exec) (hlk : meth.locks = false) (hret : meth.sig.returnType = some .double)
    (hd : decode c.code pc = .ok (.dreturn, 1)) (hc : cells ≤ kc) (hs : slots ≤ ks) (hQ : Q (some (.double z)) T.heap locs) : own_Goes p e below s kc ks Q T (mkF m pc Ls (.double z :: rest)) :=
  own_ret X hx hlk hret rfl (Or.inr (Or.inr (Or.inl ⟨rfl, rfl, z, rfl⟩))) hd hc hs hQ
theorem own_b8 (x : Int32) : ((x).toInt8.toInt32).toInt8.toInt32 = x.toInt8.toInt32 := by simp
theorem own_c16 (x : Int32) : ((x).toUInt32.toUInt16.toUInt32.toInt32).toUInt32.toUInt16.toUInt32.toInt32 = x.toUInt32.toUInt16.toUInt32.toInt32 := by
  have h : ∀ u : UInt16, (u.toUInt32.toInt32).toUInt32.toUInt16 = u := fun u => by
    show (u.toUInt32).toUInt16 = u
    simp
  rw [h]
theorem own_wr {h' : Heap} {a : Addr} {sl : Nat} {v v' : Value} (W : Wr h h' a sl v) (q : v = v') : Wr h h' a sl v' := q ▸ W
theorem own_eqI {first : State} {o : Option Outcome} {idx : List Nat} {a b : Term} {x y : Int32} (ha : a.eval args first o idx s = some (.int x)) (hb : b.eval args first o idx s = some (.int y)) : (Cond.eq a b).value args first o s idx = some (decide (x = y)) := by simp [Cond.value, ha, hb]
theorem own_fitR {t : FieldType} {w : Value} (ht : t.isReference = true) (hw : w.isRef = true) : fits t w = true := by cases t <;> simp [FieldType.isReference] at ht <;> rcases ref_cases hw with rfl | ⟨a, rfl⟩ <;> rfl
theorem own_cat1 {w : Value} (hw : w.isRef = true) : w.category = 1 := by rcases ref_cases hw with rfl | ⟨a, rfl⟩ <;> rfl
theorem own_stG {ls l' : Array Slot} {i : Nat} {v : Value} {o : Slot} (hold : ls[i]? = some o) (ho : o = .unset ∨ ∃ w, o = .val w ∧ w.category = 1) (hv : v.category = 1) (q : ls.setIfInBounds i (.val v) = l') : storeLocals ls i v = some l' := q ▸ XS.store1 hold ho hv
theorem own_narR {t : FieldType} {w : Value} (ht : t.isReference = true) : narrow t w = w := by cases t <;> simp [FieldType.isReference] at ht <;> cases w <;> rfl
theorem own_retA {w : Value} {t : FieldType} {pc : Nat} {Ls : Array Slot} {rest : List Value} (X : Stand p l e R s m args below meth c T locs cells slots) (hx : p.tables.exec = Jvm.exec) (hlk : meth.locks = false) (hret : meth.sig.returnType = some t) (ht : t.isReference = true) (hw : w.isRef = true)
    (hd : decode c.code pc = .ok (.areturn, 1)) (hc : cells ≤ kc) (hs : slots ≤ ks) (hQ : Q (some w) T.heap locs) : own_Goes p e below s kc ks Q T (mkF m pc Ls (w :: rest)) :=
  own_ret X hx hlk hret (own_narR ht) (Or.inr (Or.inr (Or.inr (Or.inr ⟨rfl, ht, hw⟩)))) hd hc hs hQ
theorem own_retN {z : Int32} {t : FieldType} {pc : Nat} {Ls : Array Slot} {rest : List Value} (X : Stand p l e R s m args below meth c T locs cells slots) (hx : p.tables.exec = Jvm.exec) (hlk : meth.locks = false) (hret : meth.sig.returnType = some t) (ht : t = .boolean ∨ t = .byte ∨ t = .char ∨ t = .short)
    (hd : decode c.code pc = .ok (.ireturn, 1)) (hc : cells ≤ kc) (hs : slots ≤ ks) (hQ : Q (some (.int (nar t z))) T.heap locs) : own_Goes p e below s kc ks Q T (mkF m pc Ls (.int z :: rest)) :=
  own_out X hlk (fun h => by rw [hret] at h; cases h) (fun fs hr => retN X hx hret ht hd hr) hc hs hQ
theorem own_retV {pc : Nat} {Ls : Array Slot} (X : Stand p l e R s m args below meth c T locs cells slots) (hx : p.tables.exec = Jvm.exec) (hlk : meth.locks = false) (hret : meth.sig.returnType = none)
    (hd : decode c.code pc = .ok (.return_, 1)) (hc : cells ≤ kc) (hs : slots ≤ ks) (hQ : Q none T.heap locs) : own_Goes p e below s kc ks Q T (mkF m pc Ls []) :=
  own_out X hlk (fun _ => rfl) (fun fs hr => X.returnOut hx hret hd hr) hc hs hQ
/-- an array of that type and length, whatever it holds -/
def own_Arz (Z : State) (h : Heap) (a : Addr) (ty : FieldType) (z : Int32) : Prop := ∃ c : Cell, Arr Z h a c ty ∧ c.slots.size = z.toNatClampNeg ∧ ¬ z < 0
theorem own_Arz.of {a : Addr} {k : ClassId} {ty : FieldType} {z : Int32} {vs : List Value} {dv : Value} (F : Arv Z h a k ty z vs dv) : own_Arz Z h a ty z := by obtain ⟨c, A, -, S, q, -⟩ := F; exact ⟨c, A, S, q⟩
theorem own_Arz.lt {a : Addr} {ty : FieldType} {z : Int32} (F : own_Arz Z h a ty z) : a < h.size := by obtain ⟨c, A, -⟩ := F; exact A.lt
theorem own_Arz.ext {h' : Heap} {a : Addr} {ty : FieldType} {z : Int32} (F : own_Arz Z h a ty z) (E : Ext h h') : own_Arz Z h' a ty z := by obtain ⟨c, A, r⟩ := F; exact ⟨c, A.ext E, r⟩
theorem own_Arz.other {h' : Heap} {a b : Addr} {ty : FieldType} {z : Int32} {sl : Nat} {v : Value} (F : own_Arz Z h b ty z) (W : Wr h h' a sl v) (q : b ≠ a) : own_Arz Z h' b ty z := by obtain ⟨c, A, r⟩ := F; exact ⟨c, A.other W q, r⟩
theorem own_Arz.same {h' : Heap} {a : Addr} {ty : FieldType} {z : Int32} {sl : Nat} {v : Value} (F : own_Arz Z h a ty z) (W : Wr h h' a sl v) : own_Arz Z h' a ty z := by obtain ⟨c, A, r1, r2⟩ := F; exact ⟨_, A.same W, by rw [sz_set]; exact r1, r2⟩
theorem own_Arz.keep {h' : Heap} {a : Addr} {ty : FieldType} {z : Int32} {ws : List Addr} (F : own_Arz Z h a ty z) (K : Keep h h' ws) (q : a ∉ ws) : own_Arz Z h' a ty z := by obtain ⟨c, A, r⟩ := F; exact ⟨c, ⟨K.2.1 a c A.1 q, A.2⟩, r⟩
section OwnCalls
variable {own : String} {index : Nat} {y z : MethodName} {bytes : ByteArray} {maxL : Nat} {ret : Option FieldType} {rm : Room} {Q' : Option Value → Heap → List Loc → Prop} {argsL rest : List Value}
theorem own_callS (X : Stand p l e R s m args below meth c T locs cells slots) (hx : p.tables.exec = Jvm.exec) (hZ : Z.Warmed39 s.vm) (hown : s.vm.findClass own = some m.cls)
    (w1 : (Cond.methodLink own index y).before a0 Z = true) (w2 : (Cond.static y).before a0 Z = true) (w3 : (Cond.initialized y.cls).before a0 Z = true) (w4 : (Cond.code y bytes maxL ret).before a0 Z = true)
    (hy : y.cls ≠ "java/lang/invoke/MethodHandle" ∧ y.cls ≠ "java/lang/invoke/VarHandle") (hM : own_Ctr l Z y bytes maxL ret [] rm rm.cells rm.slots argsL.toArray h Q') (W : Nat)
    (hf : rm.frames + 1 ≤ R.frames) (hl : W + (maxL + 11) + rm.locals ≤ R.locals) (hc : cells + rm.cells ≤ R.cells) (hs : slots + rm.slots ≤ R.slots) (eT : T.heap = h)
    (hg : g.method = m) (hsize : g.locals.size = c.maxLocals) (hlen : ∀ sig, parseMethodDescriptor y.desc = some sig → argsL.length = sig.parameters.length) (hstack : g.stack = argsL.reverse ++ rest)
    (hW : 2 * g.monitorRoom + (rest.map fun v => v.category).sum ≤ W) (hd : decode c.code g.pc = .ok (.invokestatic index, 3))
    (k : ∀ v T' L, Stand p l e R s m args below meth c T' (locs ++ L) (cells + rm.cells) (slots + rm.slots) → Q' v T'.heap L → own_Goes p e below s kc ks Q T' { g with pc := g.pc + 3, stack := v.toList ++ rest }) : own_Goes p e below s kc ks Q T g := by
  obtain ⟨v, _, ⟨T', L', k', n'⟩, -, X', ⟨Lc, hQ, l1, y1, z1⟩, st⟩ := Jvm.LawKit.callS X hx hown (mvT hZ w1) (mvT hZ w2) (mvT hZ w3) (mvT hZ w4) hy (backOf (W := W) hM hZ w4 w3 hf hl) hg hsize hlen hstack hW hd (fun _ _ => ⟨rfl, eT, hc, hs⟩)
  dsimp only [Pt.U, Pt.locs, Pt.cells, Pt.slots] at X' l1 y1 z1 st hQ
  subst l1 y1 z1
  exact own_by st (k v T' Lc X' hQ)
theorem own_callI (X : Stand p l e R s m args below meth c T locs cells slots) (hx : p.tables.exec = Jvm.exec) (hZ : Z.Warmed39 s.vm) (hown : s.vm.findClass own = some m.cls) (hy1 : y.name = "<init>")
    (w1 : (Cond.methodLink own index y).before a0 Z = true) (w2 : (Cond.instanceMethod y).before a0 Z = true) (w3 : (Cond.initialized y.cls).before a0 Z = true) (w4 : (Cond.code y bytes maxL none).before a0 Z = true)
    (hy : y.cls ≠ "java/lang/invoke/MethodHandle" ∧ y.cls ≠ "java/lang/invoke/VarHandle") {a : Addr} (hM : own_Ctr l Z y bytes maxL none [] rm rm.cells rm.slots (.ref a :: argsL).toArray h Q') (W : Nat)
    (hf : rm.frames + 1 ≤ R.frames) (hl : W + (maxL + 11) + rm.locals ≤ R.locals) (hc : cells + rm.cells ≤ R.cells) (hs : slots + rm.slots ≤ R.slots) (eT : T.heap = h)
    (hg : g.method = m) (hsize : g.locals.size = c.maxLocals) (hlen : ∀ sig, parseMethodDescriptor y.desc = some sig → argsL.length = sig.parameters.length) (hstack : g.stack = argsL.reverse ++ .ref a :: rest)
    (hW : 2 * g.monitorRoom + (rest.map fun v => v.category).sum ≤ W) (hd : decode c.code g.pc = .ok (.invokespecial index, 3))
    (k : ∀ v T' L, Stand p l e R s m args below meth c T' (locs ++ L) (cells + rm.cells) (slots + rm.slots) → Q' v T'.heap L → own_Goes p e below s kc ks Q T' { g with pc := g.pc + 3, stack := v.toList ++ rest }) : own_Goes p e below s kc ks Q T g := by
  obtain ⟨v, _, ⟨T', L', k', n'⟩, -, X', ⟨Lc, hQ, l1, y1, z1⟩, st⟩ := X.specialBack hx hy1 hown (mvT hZ w1) (mvT hZ w2) (mvT hZ w4) hy (backOf (W := W) hM hZ w4 w3 hf hl) hg hsize (Steps.refl _) hlen hstack hW hd (fun _ _ => ⟨rfl, eT, hc, hs⟩)
  dsimp only [Pt.U, Pt.locs, Pt.cells, Pt.slots] at X' l1 y1 z1 st hQ
  subst l1 y1 z1
  exact own_by (fun t kt => st.trans kt) (k v T' Lc X' hQ)
theorem own_callIN {host : String} (X : Stand p l e R s m args below meth c T locs cells slots) (hx : p.tables.exec = Jvm.exec) (hZ : Z.Warmed39 s.vm) (hown : s.vm.findClass own = some m.cls) (hy1 : y.name = "<init>")
    (w1 : (Cond.methodLinkNest own index y host).before a0 Z = true) (w2 : (Cond.instanceMethod y).before a0 Z = true) (w3 : (Cond.initialized y.cls).before a0 Z = true) (w4 : (Cond.code y bytes maxL none).before a0 Z = true)
    (hy : y.cls ≠ "java/lang/invoke/MethodHandle" ∧ y.cls ≠ "java/lang/invoke/VarHandle") {a : Addr} (hM : own_Ctr l Z y bytes maxL none [] rm rm.cells rm.slots (.ref a :: argsL).toArray h Q') (W : Nat)
    (hf : rm.frames + 1 ≤ R.frames) (hl : W + (maxL + 11) + rm.locals ≤ R.locals) (hc : cells + rm.cells ≤ R.cells) (hs : slots + rm.slots ≤ R.slots) (eT : T.heap = h)
    (hg : g.method = m) (hsize : g.locals.size = c.maxLocals) (hlen : ∀ sig, parseMethodDescriptor y.desc = some sig → argsL.length = sig.parameters.length) (hstack : g.stack = argsL.reverse ++ .ref a :: rest)
    (hW : 2 * g.monitorRoom + (rest.map fun v => v.category).sum ≤ W) (hd : decode c.code g.pc = .ok (.invokespecial index, 3))
    (k : ∀ v T' L, Stand p l e R s m args below meth c T' (locs ++ L) (cells + rm.cells) (slots + rm.slots) → Q' v T'.heap L → own_Goes p e below s kc ks Q T' { g with pc := g.pc + 3, stack := v.toList ++ rest }) : own_Goes p e below s kc ks Q T g := by
  obtain ⟨v, _, ⟨T', L', k', n'⟩, -, X', ⟨Lc, hQ, l1, y1, z1⟩, st⟩ := X.specialBackNest hx hy1 hown (Cond.methodLinkNest_wide hZ w1 :) (mvT hZ w2) (mvT hZ w4) hy (backOf (W := W) hM hZ w4 w3 hf hl) hg hsize (Steps.refl _) hlen hstack hW hd (fun _ _ => ⟨rfl, eT, hc, hs⟩)
  dsimp only [Pt.U, Pt.locs, Pt.cells, Pt.slots] at X' l1 y1 z1 st hQ
  subst l1 y1 z1
  exact own_by (fun t kt => st.trans kt) (k v T' Lc X' hQ)
theorem own_callV {C : String} (X : Stand p l e R s m args below meth c T locs cells slots) (hx : p.tables.exec = Jvm.exec) (hZ : Z.Warmed39 s.vm) (hown : s.vm.findClass own = some m.cls)
    (w1 : (Cond.methodLink own index y).before a0 Z = true) (w2 : (Cond.declares y).before a0 Z = true) (hnf : NotFace s y) (w3 : (Cond.selects C y z).before a0 Z = true) (w4 : (Cond.instanceMethod z).before a0 Z = true) (w5 : (Cond.code z bytes maxL ret).before a0 Z = true) (w6 : (Cond.initialized z.cls).before a0 Z = true)
    (hy : y.cls ≠ "java/lang/invoke/MethodHandle" ∧ y.cls ≠ "java/lang/invoke/VarHandle") {a : Addr} (E : Exa Z h a C) (hM : own_Ctr l Z z bytes maxL ret [] rm rm.cells rm.slots (.ref a :: argsL).toArray h Q') (W : Nat)
    (hf : rm.frames + 1 ≤ R.frames) (hl : W + (maxL + 11) + rm.locals ≤ R.locals) (hc : cells + rm.cells ≤ R.cells) (hs : slots + rm.slots ≤ R.slots) (eT : T.heap = h)
    (hg : g.method = m) (hsize : g.locals.size = c.maxLocals) (hlen : ∀ sig, parseMethodDescriptor y.desc = some sig → argsL.length = sig.parameters.length) (hstack : g.stack = argsL.reverse ++ .ref a :: rest)
    (hW : 2 * g.monitorRoom + (rest.map fun v => v.category).sum ≤ W) (hd : decode c.code g.pc = .ok (.invokevirtual index, 3))
    (k : ∀ v T' L, Stand p l e R s m args below meth c T' (locs ++ L) (cells + rm.cells) (slots + rm.slots) → Q' v T'.heap L → own_Goes p e below s kc ks Q T' { g with pc := g.pc + 3, stack := v.toList ++ rest }) : own_Goes p e below s kc ks Q T g := by
  obtain ⟨cq, kq, qa, qb, qc⟩ := isOf hZ eT E
  obtain ⟨v, _, ⟨T', L', k', n'⟩, -, X', ⟨Lc, hQ, l1, y1, z1⟩, st⟩ := X.virtualBack hx hown (mvT hZ w1) (mvT hZ w2) hnf (mvT hZ w3) (mvT hZ w4) hy (backOf (W := W) hM hZ w5 w6 hf hl) qa qc hg hsize (Steps.refl _) hlen hstack hW hd (fun _ _ => ⟨rfl, eT, hc, hs⟩)
  dsimp only [Pt.U, Pt.locs, Pt.cells, Pt.slots] at X' l1 y1 z1 st hQ
  subst l1 y1 z1
  exact own_by (fun t kt => st.trans kt) (k v T' Lc X' hQ)
theorem own_callP (X : Stand p l e R s m args below meth c T locs cells slots) (hx : p.tables.exec = Jvm.exec) (hZ : Z.Warmed39 s.vm) (hown : s.vm.findClass own = some m.cls)
    (w1 : (Cond.methodLink own index y).before a0 Z = true) (w2 : (Cond.instanceMethod y).before a0 Z = true) (w3 : (Cond.selects y.cls y y).before a0 Z = true) (w4 : (Cond.privateMethod y).before a0 Z = true) (w5 : (Cond.code y bytes maxL ret).before a0 Z = true) (w6 : (Cond.initialized y.cls).before a0 Z = true)
    (hy : y.cls ≠ "java/lang/invoke/MethodHandle" ∧ y.cls ≠ "java/lang/invoke/VarHandle") {a : Addr} {C : String} (E : Exa Z h a C) (hM : own_Ctr l Z y bytes maxL ret [] rm rm.cells rm.slots (.ref a :: argsL).toArray h Q') (W : Nat)
    (hf : rm.frames + 1 ≤ R.frames) (hl : W + (maxL + 11) + rm.locals ≤ R.locals) (hc : cells + rm.cells ≤ R.cells) (hs : slots + rm.slots ≤ R.slots) (eT : T.heap = h)
    (hg : g.method = m) (hsize : g.locals.size = c.maxLocals) (hlen : ∀ sig, parseMethodDescriptor y.desc = some sig → argsL.length = sig.parameters.length) (hstack : g.stack = argsL.reverse ++ .ref a :: rest)
    (hW : 2 * g.monitorRoom + (rest.map fun v => v.category).sum ≤ W) (hd : decode c.code g.pc = .ok (.invokevirtual index, 3))
    (k : ∀ v T' L, Stand p l e R s m args below meth c T' (locs ++ L) (cells + rm.cells) (slots + rm.slots) → Q' v T'.heap L → own_Goes p e below s kc ks Q T' { g with pc := g.pc + 3, stack := v.toList ++ rest }) : own_Goes p e below s kc ks Q T g := by
  obtain ⟨cq, q1, q2⟩ := E.cell
  obtain ⟨v, _, ⟨T', L', k', n'⟩, -, X', ⟨Lc, hQ, l1, y1, z1⟩, st⟩ := X.privateBack hx hown (mvT hZ w1) (mvT hZ w2) (mvT hZ w3) (Cond.privateMethod_at (mvP hZ w4 (args := #[]))) (mvT hZ w5) hy (backOf (W := W) hM hZ w5 w6 hf hl) hg hsize (Steps.refl _) (a := a) (by rw [eT]; exact q1) q2 hlen hstack hW hd (fun _ _ => ⟨rfl, eT, hc, hs⟩)
  dsimp only [Pt.U, Pt.locs, Pt.cells, Pt.slots] at X' l1 y1 z1 st hQ
  subst l1 y1 z1
  exact own_by (fun t kt => st.trans kt) (k v T' Lc X' hQ)
theorem own_callF {C : String} {count : Nat} (X : Stand p l e R s m args below meth c T locs cells slots) (hx : p.tables.exec = Jvm.exec) (hZ : Z.Warmed39 s.vm) (hown : s.vm.findClass own = some m.cls)
    (w1 : (Cond.methodLink own index y).before a0 Z = true) (w2 : (Cond.declares y).before a0 Z = true) (w2f : (Cond.interfaceMethod y.cls y.cls y.name y.desc).before a0 Z = true) (w3 : (Cond.selects C y z).before a0 Z = true) (w4 : (Cond.instanceMethod z).before a0 Z = true)
    (wp : (Cond.publicMethod z).before a0 Z = true) (wu : (Cond.unhidden C y.name y.desc).before a0 Z = true) (wk : (Cond.castable C y.cls).before a0 Z = true) (w5 : (Cond.code z bytes maxL ret).before a0 Z = true) (w6 : (Cond.initialized z.cls).before a0 Z = true)
    (hy : y.cls ≠ "java/lang/invoke/MethodHandle" ∧ y.cls ≠ "java/lang/invoke/VarHandle") {a : Addr} (E : Exa Z h a C) (hM : own_Ctr l Z z bytes maxL ret [] rm rm.cells rm.slots (.ref a :: argsL).toArray h Q') (W : Nat)
    (hf : rm.frames + 1 ≤ R.frames) (hl : W + (maxL + 11) + rm.locals ≤ R.locals) (hc : cells + rm.cells ≤ R.cells) (hs : slots + rm.slots ≤ R.slots) (eT : T.heap = h)
    (hg : g.method = m) (hsize : g.locals.size = c.maxLocals) (hlen : ∀ sig, parseMethodDescriptor y.desc = some sig → argsL.length = sig.parameters.length) (hstack : g.stack = argsL.reverse ++ .ref a :: rest)
    (hW : 2 * g.monitorRoom + (rest.map fun v => v.category).sum ≤ W) (hd : decode c.code g.pc = .ok (.invokeinterface index count, 5))
    (k : ∀ v T' L, Stand p l e R s m args below meth c T' (locs ++ L) (cells + rm.cells) (slots + rm.slots) → Q' v T'.heap L → own_Goes p e below s kc ks Q T' { g with pc := g.pc + 5, stack := v.toList ++ rest }) : own_Goes p e below s kc ks Q T g := by
  obtain ⟨cq, kq, qa, qb, qc⟩ := isOf hZ eT E
  have hface : ((Cond.interfaceMethod y.cls y.cls y.name y.desc).onTables && (Cond.interfaceMethod y.cls y.cls y.name y.desc).keepsFace) = true := by simp [Cond.onTables, Cond.keepsFace, Cond.keeps, Cond.steady, Cond.faceAtom, hy.1, hy.2]
  obtain ⟨v, _, ⟨T', L', k', n'⟩, -, X', ⟨Lc, hQ, l1, y1, z1⟩, st⟩ := X.interfaceBack hx hown (mvT hZ w1) (mvT hZ w2) (mvT hZ w2f hface) (mvT hZ w3) (mvT hZ w4) (mvT hZ wp) (mvT hZ wu) (mvT hZ wk) hy (backOf (W := W) hM hZ w5 w6 hf hl) qa qb qc hg hsize (Steps.refl _) hlen hstack hW hd (fun _ _ => ⟨rfl, eT, hc, hs⟩)
  dsimp only [Pt.U, Pt.locs, Pt.cells, Pt.slots] at X' l1 y1 z1 st hQ
  subst l1 y1 z1
  exact own_by (fun t kt => st.trans kt) (k v T' Lc X' hQ)
end OwnCalls
end OwnPrelude
def own_LCache (Z : State) (zc : Addr) : Prop := ∃ cl : Cell, Arr Z Z.heap zc cl (.object "java/lang/Long") ∧ cl.slots.size = 256 ∧ ∀ w : Int64, ¬ w < (-128 : Int64) → ¬ (127 : Int64) < w → ∃ y : Addr, cl.slots[(w.toInt32 + (128 : Int32)).toNatClampNeg]? = some (.ref y) ∧ Exa Z Z.heap y "java/lang/Long" ∧ Fld Z Z.heap y "java/lang/Long" "value" "J" (.long w)
theorem own_lcache {args : Array Value} {s : State} (h1 : (Cond.initializedFor "java/lang/Long$LongCache" "cache" "[Ljava/lang/Long;").before args s = true) (h2 : (Cond.arrayOf (Term.static "java/lang/Long$LongCache" "cache" "[Ljava/lang/Long;") (.object "java/lang/Long")).before args s = true)
    (h3 : (Cond.eq (Term.length (Term.static "java/lang/Long$LongCache" "cache" "[Ljava/lang/Long;")) (Term.int (256 : Int32))).before args s = true)
    (h4 : (Cond.all (Term.static "java/lang/Long$LongCache" "cache" "[Ljava/lang/Long;") (Cond.and (Cond.exactly (Term.elem (Term.static "java/lang/Long$LongCache" "cache" "[Ljava/lang/Long;") (Term.index (0 : Nat))) "java/lang/Long") (Cond.eq (Term.field (Term.elem (Term.static "java/lang/Long$LongCache" "cache" "[Ljava/lang/Long;") (Term.index (0 : Nat))) "java/lang/Long" "value" "J") (Term.op1 Unary.i2l (Term.sub (Term.index (0 : Nat)) (Term.int (128 : Int32))))))).before args s = true) :
    ∃ zc : Addr, Sta s s.heap "java/lang/Long$LongCache" "cache" "[Ljava/lang/Long;" (.ref zc) ∧ own_LCache s zc := by
  obtain ⟨zc, ev⟩ := arr_v (Cond.before_iff.mp h2)
  obtain ⟨cl, A⟩ := Arr.start ev (Cond.before_iff.mp h2)
  have hat := IntBox.arrayAt_of A.1 A.2.1 A.2.2
  obtain ⟨hsz, hsize⟩ := IntBox.length_fwd h3 ev A.1 A.2.1 A.2.2
  have hn : cl.slots.size = 256 := by
    have e := len_toInt hsz
    rw [hsize, show (256 : Int32).toInt = 256 from by decide] at e
    omega
  have hall := Cond.all_elim ev hat (Cond.before_iff.mp h4)
  refine ⟨zc, Sta.start ev (Or.inl h1), cl, A, hn, fun w hw1 hw2 => ?_⟩
  obtain ⟨hb, hlt⟩ := LongBox.place_okL w hw1 hw2
  have hj := hall _ (by rw [hn]; exact hlt)
  obtain ⟨hex, heq⟩ := and_e hj
  obtain ⟨hnn, hback⟩ := IntBox.place_nonneg _ hlt
  obtain ⟨y, c, cell, k, e1, e2, e3, e4, e5, rfl, e7⟩ := Cond.exactly_spec (beq_iff_eq.mpr hex : (Cond.exactly _ _).holds args s none s _ = true)
  have evi : (Term.static "java/lang/Long$LongCache" "cache" "[Ljava/lang/Long;").eval args s none [(w.toInt32 + 128).toNatClampNeg] s = some (.ref zc) := ev
  have eve : (Term.elem (Term.static "java/lang/Long$LongCache" "cache" "[Ljava/lang/Long;") (Term.index (0 : Nat))).eval args s none [(w.toInt32 + 128).toNatClampNeg] s = cl.slots[(w.toInt32 + 128).toNatClampNeg]? := by
    have e0 := elem_f (a := Term.index (0 : Nat)) evi (j := (w.toInt32 + 128).toNatClampNeg.toInt32) rfl hat hnn
    rw [hback] at e0
    exact e0
  rw [eve] at e1
  refine ⟨y, e1, ⟨cell, k, e3, e2, e4, e5, e7⟩, Fld.start ?_⟩
  have hsub : (Term.op1 Unary.i2l (Term.sub (Term.index (0 : Nat)) (Term.int (128 : Int32)))).eval args s none [(w.toInt32 + 128).toNatClampNeg] s = some (.long w) := by
    conv => rhs; rw [← LongBox.place_valL w hw1 hw2]
    rfl
  obtain ⟨v1, v2, q1, q2, k1, k2⟩ := cmp_v (Or.inl heq)
  cases q2.symm.trans hsub
  obtain ⟨z, rfl⟩ := k2
  have r := gotT (eq_L q1 hsub) heq
  rw [fld_at (eve.trans e1), r] at q1
  exact q1
theorem own_pn0 : plainName "java/lang/Number" = true := by first | (simp [plainName, overriddenIn]; done) | decide +kernel
theorem own_d7_0 : decode jdk_18_method_1_code 0 = .ok (.aload_n 0, 1) := by decide +kernel
theorem own_d7_1 : decode jdk_18_method_1_code 1 = .ok (.invokespecial 1, 3) := by decide +kernel
theorem own_d7_4 : decode jdk_18_method_1_code 4 = .ok (.return_, 1) := by decide +kernel
def Q_own_number (Z : State) (r1 : Addr) (h0 : Heap) (n0 : Nat) (v : Option Value) (h : Heap) (L : List Loc) : Prop := v = none ∧ Fr n0 L ∧ h = h0
theorem own_ef_own_number (m : MethodId) (r1 : Addr) : entryFrame m #[(.ref r1)] 1 = mkF m 0 #[.val (.ref r1)] [] := by first | (simp [entryFrame, mkF, argsToLocals, Value.category]; done) | rfl
set_option maxRecDepth 65536 in
set_option maxHeartbeats 40000000 in
theorem own_number (l : Launch) (Z : State) (a0 : Array Value) (hw : ∀ d ∈ tables_1, d.before a0 Z = true) (ws : List Jvm.Cond) (r1 : Addr) (h0 : Heap) (n0 : Nat) (Z0 : n0 ≤ h0.size)  :
    own_Ctr l Z (⟨"java/lang/Number", "<init>", "()V"⟩ : MethodName) jdk_18_method_1_code 1 none ws ({ frames := 1, cells := 0, slots := 0, locals := 12 } : Room) (({ frames := 1, cells := 0, slots := 0, locals := 12 } : Room)).cells (({ frames := 1, cells := 0, slots := 0, locals := 12 } : Room)).slots #[(.ref r1)] h0 (Q_own_number Z r1 h0 n0) := by
  refine own_enter (plainFor_of_name own_pn0) ?_
  intro p e s m below meth c s₁ X0 hx hZ hby hml hown hnm hlk hret e0
  have N0 := Fr.nil n0
  refine own_cast (own_ef_own_number m r1) ?_
  refine own_by (g' := (mkF m 1 #[.val (.ref r1)] [(.ref r1)])) (fun t k => XS.aloadN X0.here hx rfl (hb hby own_d7_0) rfl rfl k) ?_
  obtain ⟨T101, X101, e101, st101⟩ := initO X0 hx hZ hown (hw _ (List.mem_of_getElem? (i := 45) rfl)) (hw _ (List.mem_of_getElem? (i := 12) rfl)) (hw _ (List.mem_of_getElem? (i := 13) rfl)) e0 (g := (mkF m 1 #[.val (.ref r1)] [(.ref r1)])) rfl (by rw [hml]; rfl) rfl (hb hby own_d7_1) (by decide) (W := 0) (by show 2 * 0 + _ ≤ _; exact Nat.le_of_eq rfl) (by decide)
  refine own_by (g' := (mkF m 4 #[.val (.ref r1)] [])) st101 ?_
  refine own_retV X101 hx hlk hret (hb hby own_d7_4) (by decide) (by decide) ?_
  exact ⟨rfl, N0, e101⟩
theorem own_pn1 : plainName "java/lang/Long" = true := by first | (simp [plainName, overriddenIn]; done) | decide +kernel
theorem own_d6_0 : decode jdk_35_method_26_code 0 = .ok (.aload_n 0, 1) := by decide +kernel
theorem own_d6_1 : decode jdk_35_method_26_code 1 = .ok (.invokespecial 270, 3) := by decide +kernel
theorem own_pd0 : parseMethodDescriptor "()V" = some ⟨[], none⟩ := by decide +kernel
theorem own_d6_4 : decode jdk_35_method_26_code 4 = .ok (.aload_n 0, 1) := by decide +kernel
theorem own_d6_5 : decode jdk_35_method_26_code 5 = .ok (.lload_n 1, 1) := by decide +kernel
theorem own_d6_6 : decode jdk_35_method_26_code 6 = .ok (.putfield 273, 3) := by decide +kernel
theorem own_d6_9 : decode jdk_35_method_26_code 9 = .ok (.return_, 1) := by decide +kernel
def Q_own_linit (Z : State) (r1 : Addr) (q1 : Int64) (h0 : Heap) (n0 : Nat) (v : Option Value) (h : Heap) (L : List Loc) : Prop := v = none ∧ Fr n0 L ∧ Keep h0 h [r1] ∧ Exa Z h r1 "java/lang/Long" ∧ Fld Z h r1 "java/lang/Long" "value" "J" (.long q1)
theorem own_ef_own_linit (m : MethodId) (r1 : Addr) (q1 : Int64) : entryFrame m #[(.ref r1), (.long q1)] 3 = mkF m 0 #[.val (.ref r1), .val (.long q1), .second] [] := by first | (simp [entryFrame, mkF, argsToLocals, Value.category]; done) | rfl
set_option maxRecDepth 65536 in
set_option maxHeartbeats 40000000 in
theorem own_linit (l : Launch) (Z : State) (a0 : Array Value) (hw : ∀ d ∈ tables_1, d.before a0 Z = true) (ws : List Jvm.Cond) (r1 : Addr) (q1 : Int64) (h0 : Heap) (n0 : Nat) (Z0 : n0 ≤ h0.size) (E1 : Exa Z h0 r1 "java/lang/Long") (F1 : Fld Z h0 r1 "java/lang/Long" "value" "J" (.long (0 : Int64))) (g1 : n0 ≤ r1) :
    own_Ctr l Z (⟨"java/lang/Long", "<init>", "(J)V"⟩ : MethodName) jdk_35_method_26_code 3 none ws ({ frames := 2, cells := 0, slots := 0, locals := 24 } : Room) (({ frames := 2, cells := 0, slots := 0, locals := 24 } : Room)).cells (({ frames := 2, cells := 0, slots := 0, locals := 24 } : Room)).slots #[(.ref r1), (.long q1)] h0 (Q_own_linit Z r1 q1 h0 n0) := by
  refine own_enter (plainFor_of_name own_pn1) ?_
  intro p e s m below meth c s₁ X0 hx hZ hby hml hown hnm hlk hret e0
  have N0 := Fr.nil n0
  refine own_cast (own_ef_own_linit m r1 q1) ?_
  refine own_by (g' := (mkF m 1 #[.val (.ref r1), .val (.long q1), .second] [(.ref r1)])) (fun t k => XS.aloadN X0.here hx rfl (hb hby own_d6_0) rfl rfl k) ?_
  refine own_callI X0 hx hZ hown rfl (hw _ (List.mem_of_getElem? (i := 39) rfl)) (hw _ (List.mem_of_getElem? (i := 40) rfl)) (hw _ (List.mem_of_getElem? (i := 43) rfl)) (hw _ (List.mem_of_getElem? (i := 44) rfl)) (by decide) (a := r1) (own_number l Z a0 hw [] (r1) h0 n0 Z0 ) 0 (by decide) (by decide) (by decide) (by decide) e0 (g := (mkF m 1 #[.val (.ref r1), .val (.long q1), .second] [(.ref r1)])) rfl (by rw [hml]; rfl) (argsL := []) (rest := []) (lenOf own_pd0 rfl) rfl (by show 2 * 0 + _ ≤ _; exact Nat.le_of_eq rfl) (hb hby own_d6_1) ?_
  intro v101 T101 L101 X101 q101
  obtain ⟨rfl, N101q, e101⟩ := q101
  have N101 := Fr.app N0 N101q
  show own_Goes p e below s _ _ _ T101 (mkF m 4 #[.val (.ref r1), .val (.long q1), .second] [])
  refine own_by (g' := (mkF m 5 #[.val (.ref r1), .val (.long q1), .second] [(.ref r1)])) (fun t k => XS.aloadN X101.here hx rfl (hb hby own_d6_4) rfl rfl k) ?_
  refine own_by (g' := (mkF m 6 #[.val (.ref r1), .val (.long q1), .second] [(.long q1), (.ref r1)])) (fun t k => XS.lloadN X101.here hx rfl (hb hby own_d6_5) rfl k) ?_
  obtain ⟨T102, h102, X102, e102, W102, st102⟩ := putF X101 hx hZ hown (host := "") (Or.inl (hw _ (List.mem_of_getElem? (i := 46) rfl))) Via.refl e101 F1 E1 (Or.inr ⟨(hw _ (List.mem_of_getElem? (i := 47) rfl)), rfl, hnm⟩) (hw _ (List.mem_of_getElem? (i := 34) rfl)) (ty := .long) (by decide) rfl rfl (g := (mkF m 6 #[.val (.ref r1), .val (.long q1), .second] [(.long q1), (.ref r1)])) rfl rfl (hb hby own_d6_6)
  have f103 := F1.same W102
  have N102 := Fr.snoc X102 N101 g1
  refine own_by (g' := (mkF m 9 #[.val (.ref r1), .val (.long q1), .second] [])) st102 ?_
  have f104 := (E1.wr W102)
  refine own_retV X102 hx hlk hret (hb hby own_d6_9) (by decide) (by decide) ?_
  rw [e102]
  exact ⟨rfl, N102, ((Keep.refl h0 [r1]).wr W102 (Or.inl (List.mem_of_getElem? (i := 0) rfl))), f104, f103⟩
theorem own_d5_0 : decode jdk_35_method_24_code 0 = .ok (.sipush 128, 3) := by decide +kernel
theorem own_d5_3 : decode jdk_35_method_24_code 3 = .ok (.istore_n 2, 1) := by decide +kernel
theorem own_d5_4 : decode jdk_35_method_24_code 4 = .ok (.lload_n 0, 1) := by decide +kernel
theorem own_d5_5 : decode jdk_35_method_24_code 5 = .ok (.ldc2_w 230, 3) := by decide +kernel
theorem own_d5_8 : decode jdk_35_method_24_code 8 = .ok (.lcmp, 1) := by decide +kernel
theorem own_d5_9 : decode jdk_35_method_24_code 9 = .ok (.ifCond .lt 22, 3) := by decide +kernel
theorem own_d5_31 : decode jdk_35_method_24_code 31 = .ok (.new 1, 3) := by decide +kernel
theorem own_d5_34 : decode jdk_35_method_24_code 34 = .ok (.dup, 1) := by decide +kernel
theorem own_d5_35 : decode jdk_35_method_24_code 35 = .ok (.lload_n 0, 1) := by decide +kernel
theorem own_d5_36 : decode jdk_35_method_24_code 36 = .ok (.invokespecial 240, 3) := by decide +kernel
theorem own_pd1 : parseMethodDescriptor "(J)V" = some ⟨[.long], none⟩ := by decide +kernel
theorem own_d5_39 : decode jdk_35_method_24_code 39 = .ok (.areturn, 1) := by decide +kernel
theorem own_d5_12 : decode jdk_35_method_24_code 12 = .ok (.lload_n 0, 1) := by decide +kernel
theorem own_d5_13 : decode jdk_35_method_24_code 13 = .ok (.ldc2_w 232, 3) := by decide +kernel
theorem own_d5_16 : decode jdk_35_method_24_code 16 = .ok (.lcmp, 1) := by decide +kernel
theorem own_d5_17 : decode jdk_35_method_24_code 17 = .ok (.ifCond .gt 14, 3) := by decide +kernel
theorem own_d5_20 : decode jdk_35_method_24_code 20 = .ok (.getstatic 234, 3) := by decide +kernel
theorem own_d5_23 : decode jdk_35_method_24_code 23 = .ok (.lload_n 0, 1) := by decide +kernel
theorem own_d5_24 : decode jdk_35_method_24_code 24 = .ok (.l2i, 1) := by decide +kernel
theorem own_d5_25 : decode jdk_35_method_24_code 25 = .ok (.sipush 128, 3) := by decide +kernel
theorem own_d5_28 : decode jdk_35_method_24_code 28 = .ok (.iadd, 1) := by decide +kernel
theorem own_d5_29 : decode jdk_35_method_24_code 29 = .ok (.aaload, 1) := by decide +kernel
theorem own_d5_30 : decode jdk_35_method_24_code 30 = .ok (.areturn, 1) := by decide +kernel
def Q_own_valueOf (Z : State) (q1 : Int64) (zc : Addr) (h0 : Heap) (n0 : Nat) (v : Option Value) (h : Heap) (L : List Loc) : Prop := ∃ (bo : Addr), v = some (.ref bo) ∧ Fr n0 L ∧ Keep h0 h [] ∧ Exa Z h bo "java/lang/Long" ∧ Fld Z h bo "java/lang/Long" "value" "J" (.long q1)
theorem own_ef_own_valueOf (m : MethodId) (q1 : Int64) : entryFrame m #[(.long q1)] 3 = mkF m 0 #[.val (.long q1), .second, .unset] [] := by first | (simp [entryFrame, mkF, argsToLocals, Value.category]; done) | rfl
set_option maxRecDepth 65536 in
set_option maxHeartbeats 40000000 in
theorem own_valueOf (l : Launch) (Z : State) (a0 : Array Value) (hw : ∀ d ∈ tables_1, d.before a0 Z = true) (ws : List Jvm.Cond) (q1 : Int64) (zc : Addr) (h0 : Heap) (n0 : Nat) (Z0 : n0 ≤ h0.size) (O0 : Old Z n0 h0) (S_cache : Sta Z Z.heap "java/lang/Long$LongCache" "cache" "[Ljava/lang/Long;" (.ref zc)) (hLC : own_LCache Z zc) :
    own_Ctr l Z (⟨"java/lang/Long", "valueOf", "(J)Ljava/lang/Long;"⟩ : MethodName) jdk_35_method_24_code 3 (some (.object "java/lang/Long")) ws ({ frames := 3, cells := 1, slots := 1, locals := 39 } : Room) (({ frames := 3, cells := 1, slots := 1, locals := 39 } : Room)).cells (({ frames := 3, cells := 1, slots := 1, locals := 39 } : Room)).slots #[(.long q1)] h0 (Q_own_valueOf Z q1 zc h0 n0) := by
  refine own_enter (plainFor_of_name own_pn1) ?_
  intro p e s m below meth c s₁ X0 hx hZ hby hml hown hnm hlk hret e0
  have N0 := Fr.nil n0
  refine own_cast (own_ef_own_valueOf m q1) ?_
  refine own_by (g' := (mkF m 3 #[.val (.long q1), .second, .unset] [(.int (128 : Int32))])) (fun t k => XS.sipush X0.here hx rfl (hb hby own_d5_0) k) ?_
  refine own_by (g' := (mkF m 4 #[.val (.long q1), .second, .val (.int (128 : Int32))] [])) (fun t k => XS.istoreN X0.here hx rfl (hb hby own_d5_3) rfl (l' := #[.val (.long q1), .second, .val (.int (128 : Int32))]) rfl k) ?_
  refine own_by (g' := (mkF m 5 #[.val (.long q1), .second, .val (.int (128 : Int32))] [(.long q1)])) (fun t k => XS.lloadN X0.here hx rfl (hb hby own_d5_4) rfl k) ?_
  refine own_by (g' := (mkF m 8 #[.val (.long q1), .second, .val (.int (128 : Int32))] [(.long (-128 : Int64)), (.long q1)])) (fun t k => X0.ldc2Long hx hown (mvT hZ (hw _ (List.mem_of_getElem? (i := 29) rfl))) (g := (mkF m 5 #[.val (.long q1), .second, .val (.int (128 : Int32))] [(.long q1)])) rfl (hb hby own_d5_5) t k) ?_
  refine own_by (g' := (mkF m 9 #[.val (.long q1), .second, .val (.int (128 : Int32))] [(.int (lcmpW q1 (-128 : Int64)))])) (fun t k => XS.lcmp X0.here hx rfl (hb hby own_d5_8) rfl k) ?_
  by_cases hc101 : q1 < (-128 : Int64)
  ·
    refine own_by (g' := (mkF m 31 #[.val (.long q1), .second, .val (.int (128 : Int32))] [])) (fun t k => XS.ifYes X0.here hx rfl (pc0 := 9) (pc' := 31) rfl (hb hby own_d5_9) rfl ((if0 _ _).trans (tlt ((lw_lt q1 (-128 : Int64)).mpr (hc101 : q1 < (-128 : Int64)))).1) (by decide) (by decide) k) ?_
    obtain ⟨T102, h102, X102, e102, E102, A102, D102, U102, st102⟩ := newO X0 hx hZ hown (hw _ (List.mem_of_getElem? (i := 33) rfl)) (hw _ (List.mem_of_getElem? (i := 34) rfl)) (hw _ (List.mem_of_getElem? (i := 27) rfl)) e0 (g := (mkF m 31 #[.val (.long q1), .second, .val (.int (128 : Int32))] [])) rfl (hb hby own_d5_31) (by decide) (by decide)
    obtain ⟨b102, g102⟩ : ∃ z, z = h0.size := ⟨_, rfl⟩
    rw [← g102] at A102 D102 U102 st102
    have sz_b102 : h0.size ≤ b102 := Nat.le_trans (Nat.le_refl _) (Nat.le_of_eq g102.symm)
    have g_b102 : n0 ≤ b102 := Nat.le_trans Z0 sz_b102
    have f103 : Fld Z h102 b102 "java/lang/Long" "value" "J" (.long (0 : Int64)) := D102 (Or.inr (hw _ (List.mem_of_getElem? (i := 47) rfl))) (ty := .long) (by decide)
    refine own_by (g' := (mkF m 34 #[.val (.long q1), .second, .val (.int (128 : Int32))] [(.ref b102)])) st102 ?_
    refine own_by (g' := (mkF m 35 #[.val (.long q1), .second, .val (.int (128 : Int32))] [(.ref b102), (.ref b102)])) (fun t k => XS.dup X102.here hx rfl (hb hby own_d5_34) rfl rfl k) ?_
    refine own_by (g' := (mkF m 36 #[.val (.long q1), .second, .val (.int (128 : Int32))] [(.long q1), (.ref b102), (.ref b102)])) (fun t k => XS.lloadN X102.here hx rfl (hb hby own_d5_35) rfl k) ?_
    refine own_callI X102 hx hZ hown rfl (hw _ (List.mem_of_getElem? (i := 35) rfl)) (hw _ (List.mem_of_getElem? (i := 36) rfl)) (hw _ (List.mem_of_getElem? (i := 27) rfl)) (hw _ (List.mem_of_getElem? (i := 38) rfl)) (by decide) (a := b102) (own_linit l Z a0 hw [] (b102) (q1) h102 n0 (Nat.le_trans Z0 E102.1) A102 f103 g_b102) 1 (by decide) (by decide) (by decide) (by decide) e102 (g := (mkF m 36 #[.val (.long q1), .second, .val (.int (128 : Int32))] [(.long q1), (.ref b102), (.ref b102)])) rfl (by rw [hml]; rfl) (argsL := [(.long q1)]) (rest := [(.ref b102)]) (lenOf own_pd1 rfl) rfl (by show 2 * 0 + _ ≤ _; exact Nat.le_of_eq rfl) (hb hby own_d5_36) ?_
    intro v104 T104 L104 X104 q104
    obtain ⟨rfl, N104q, K104, f105, f106⟩ := q104
    have N104 := Fr.app N0 N104q
    show own_Goes p e below s _ _ _ T104 (mkF m 39 #[.val (.long q1), .second, .val (.int (128 : Int32))] [(.ref b102)])
    refine own_retA X104 hx hlk hret rfl rfl (hb hby own_d5_39) (by decide) (by decide) ?_
    exact ⟨b102, rfl, N104, (((Keep.refl h0 []).ext E102).trans K104 (allS (Or.inr sz_b102) all0)), f105, f106⟩
  ·
    refine own_by (g' := (mkF m 12 #[.val (.long q1), .second, .val (.int (128 : Int32))] [])) (fun t k => XS.ifNo X0.here hx rfl (hb hby own_d5_9) rfl ((if0 _ _).trans (flt (fun q => (hc101 : ¬ (q1 < (-128 : Int64))) ((lw_lt q1 (-128 : Int64)).mp q))).1) k) ?_
    refine own_by (g' := (mkF m 13 #[.val (.long q1), .second, .val (.int (128 : Int32))] [(.long q1)])) (fun t k => XS.lloadN X0.here hx rfl (hb hby own_d5_12) rfl k) ?_
    refine own_by (g' := (mkF m 16 #[.val (.long q1), .second, .val (.int (128 : Int32))] [(.long (127 : Int64)), (.long q1)])) (fun t k => X0.ldc2Long hx hown (mvT hZ (hw _ (List.mem_of_getElem? (i := 30) rfl))) (g := (mkF m 13 #[.val (.long q1), .second, .val (.int (128 : Int32))] [(.long q1)])) rfl (hb hby own_d5_13) t k) ?_
    refine own_by (g' := (mkF m 17 #[.val (.long q1), .second, .val (.int (128 : Int32))] [(.int (lcmpW q1 (127 : Int64)))])) (fun t k => XS.lcmp X0.here hx rfl (hb hby own_d5_16) rfl k) ?_
    by_cases hc107 : (127 : Int64) < q1
    ·
      refine own_by (g' := (mkF m 31 #[.val (.long q1), .second, .val (.int (128 : Int32))] [])) (fun t k => XS.ifYes X0.here hx rfl (pc0 := 17) (pc' := 31) rfl (hb hby own_d5_17) rfl ((if0 _ _).trans (tlt ((lw_gt q1 (127 : Int64)).mpr (hc107 : (127 : Int64) < q1))).2.2.1) (by decide) (by decide) k) ?_
      obtain ⟨T108, h108, X108, e108, E108, A108, D108, U108, st108⟩ := newO X0 hx hZ hown (hw _ (List.mem_of_getElem? (i := 33) rfl)) (hw _ (List.mem_of_getElem? (i := 34) rfl)) (hw _ (List.mem_of_getElem? (i := 27) rfl)) e0 (g := (mkF m 31 #[.val (.long q1), .second, .val (.int (128 : Int32))] [])) rfl (hb hby own_d5_31) (by decide) (by decide)
      obtain ⟨b108, g108⟩ : ∃ z, z = h0.size := ⟨_, rfl⟩
      rw [← g108] at A108 D108 U108 st108
      have sz_b108 : h0.size ≤ b108 := Nat.le_trans (Nat.le_refl _) (Nat.le_of_eq g108.symm)
      have g_b108 : n0 ≤ b108 := Nat.le_trans Z0 sz_b108
      have f109 : Fld Z h108 b108 "java/lang/Long" "value" "J" (.long (0 : Int64)) := D108 (Or.inr (hw _ (List.mem_of_getElem? (i := 47) rfl))) (ty := .long) (by decide)
      refine own_by (g' := (mkF m 34 #[.val (.long q1), .second, .val (.int (128 : Int32))] [(.ref b108)])) st108 ?_
      refine own_by (g' := (mkF m 35 #[.val (.long q1), .second, .val (.int (128 : Int32))] [(.ref b108), (.ref b108)])) (fun t k => XS.dup X108.here hx rfl (hb hby own_d5_34) rfl rfl k) ?_
      refine own_by (g' := (mkF m 36 #[.val (.long q1), .second, .val (.int (128 : Int32))] [(.long q1), (.ref b108), (.ref b108)])) (fun t k => XS.lloadN X108.here hx rfl (hb hby own_d5_35) rfl k) ?_
      refine own_callI X108 hx hZ hown rfl (hw _ (List.mem_of_getElem? (i := 35) rfl)) (hw _ (List.mem_of_getElem? (i := 36) rfl)) (hw _ (List.mem_of_getElem? (i := 27) rfl)) (hw _ (List.mem_of_getElem? (i := 38) rfl)) (by decide) (a := b108) (own_linit l Z a0 hw [] (b108) (q1) h108 n0 (Nat.le_trans Z0 E108.1) A108 f109 g_b108) 1 (by decide) (by decide) (by decide) (by decide) e108 (g := (mkF m 36 #[.val (.long q1), .second, .val (.int (128 : Int32))] [(.long q1), (.ref b108), (.ref b108)])) rfl (by rw [hml]; rfl) (argsL := [(.long q1)]) (rest := [(.ref b108)]) (lenOf own_pd1 rfl) rfl (by show 2 * 0 + _ ≤ _; exact Nat.le_of_eq rfl) (hb hby own_d5_36) ?_
      intro v110 T110 L110 X110 q110
      obtain ⟨rfl, N110q, K110, f111, f112⟩ := q110
      have N110 := Fr.app N0 N110q
      show own_Goes p e below s _ _ _ T110 (mkF m 39 #[.val (.long q1), .second, .val (.int (128 : Int32))] [(.ref b108)])
      refine own_retA X110 hx hlk hret rfl rfl (hb hby own_d5_39) (by decide) (by decide) ?_
      exact ⟨b108, rfl, N110, (((Keep.refl h0 []).ext E108).trans K110 (allS (Or.inr sz_b108) all0)), f111, f112⟩
    ·
      refine own_by (g' := (mkF m 20 #[.val (.long q1), .second, .val (.int (128 : Int32))] [])) (fun t k => XS.ifNo X0.here hx rfl (hb hby own_d5_17) rfl ((if0 _ _).trans (flt (fun q => (hc107 : ¬ ((127 : Int64) < q1)) ((lw_gt q1 (127 : Int64)).mp q))).2.2.1) k) ?_
      obtain ⟨T113, X113, e113, st113⟩ := getS2 X0 hx hZ hown (host := "") (Or.inl (hw _ (List.mem_of_getElem? (i := 31) rfl))) Via.refl e0 (S_cache.ext O0.2) (g := (mkF m 20 #[.val (.long q1), .second, .val (.int (128 : Int32))] [])) rfl (hb hby own_d5_20)
      refine own_by (g' := (mkF m 23 #[.val (.long q1), .second, .val (.int (128 : Int32))] [(.ref zc)])) st113 ?_
      refine own_by (g' := (mkF m 24 #[.val (.long q1), .second, .val (.int (128 : Int32))] [(.long q1), (.ref zc)])) (fun t k => XS.lloadN X113.here hx rfl (hb hby own_d5_23) rfl k) ?_
      refine own_by (g' := (mkF m 25 #[.val (.long q1), .second, .val (.int (128 : Int32))] [(.int (q1).toInt32), (.ref zc)])) (fun t k => XS.l2i X113.here hx rfl (hb hby own_d5_24) rfl k) ?_
      refine own_by (g' := (mkF m 28 #[.val (.long q1), .second, .val (.int (128 : Int32))] [(.int (128 : Int32)), (.int (q1).toInt32), (.ref zc)])) (fun t k => XS.sipush X113.here hx rfl (hb hby own_d5_25) k) ?_
      refine own_by (g' := (mkF m 29 #[.val (.long q1), .second, .val (.int (128 : Int32))] [(.int ((q1).toInt32 + (128 : Int32))), (.ref zc)])) (fun t k => XS.iadd X113.here hx rfl (hb hby own_d5_28) rfl k) ?_
      obtain ⟨cl, AL, hz, hAll⟩ := hLC
      obtain ⟨y114, hat, EY, FY⟩ := hAll q1 hc101 hc107
      obtain ⟨hb1, -⟩ := LongBox.place_okL q1 hc101 hc107
      have AL2 := AL.ext O0.2
      have EY2 := EY.ext O0.2
      have FY2 := FY.ext O0.2
      refine own_by (g' := (mkF m 30 #[.val (.long q1), .second, .val (.int (128 : Int32))] [(.ref y114)])) (fun t k => X113.aaload hx (j := ((q1).toInt32 + (128 : Int32))) (v := (.ref y114)) (by rw [e113]; exact AL2.1) (State.isArrayOf_alike hZ.alike AL2.2.1) rfl AL2.2.2 (by rw [hz]; exact hb1) hat (g := (mkF m 29 #[.val (.long q1), .second, .val (.int (128 : Int32))] [(.int ((q1).toInt32 + (128 : Int32))), (.ref zc)])) rfl rfl (hb hby own_d5_29) t k) ?_
      refine own_retA X113 hx hlk hret rfl rfl (hb hby own_d5_30) (by decide) (by decide) ?_
      rw [e113]
      exact ⟨y114, rfl, N0, (Keep.refl h0 []), EY2, FY2⟩
theorem own_d17_0 : decode jdk_35_method_31_code 0 = .ok (.aload_n 0, 1) := by decide +kernel
theorem own_d17_1 : decode jdk_35_method_31_code 1 = .ok (.getfield 273, 3) := by decide +kernel
theorem own_d17_4 : decode jdk_35_method_31_code 4 = .ok (.lreturn, 1) := by decide +kernel
def Q_own_longValue (Z : State) (r1 : Addr) (q1 : Int64) (h0 : Heap) (n0 : Nat) (v : Option Value) (h : Heap) (L : List Loc) : Prop := v = some (.long q1) ∧ Fr n0 L ∧ h = h0
theorem own_ef_own_longValue (m : MethodId) (r1 : Addr) : entryFrame m #[(.ref r1)] 1 = mkF m 0 #[.val (.ref r1)] [] := by first | (simp [entryFrame, mkF, argsToLocals, Value.category]; done) | rfl
set_option maxRecDepth 65536 in
set_option maxHeartbeats 40000000 in
theorem own_longValue (l : Launch) (Z : State) (a0 : Array Value) (hw : ∀ d ∈ tables_1, d.before a0 Z = true) (ws : List Jvm.Cond) (r1 : Addr) (q1 : Int64) (h0 : Heap) (n0 : Nat) (Z0 : n0 ≤ h0.size) (F1 : Fld Z h0 r1 "java/lang/Long" "value" "J" (.long q1)) :
    own_Ctr l Z (⟨"java/lang/Long", "longValue", "()J"⟩ : MethodName) jdk_35_method_31_code 1 (some .long) ws ({ frames := 0, cells := 0, slots := 0, locals := 0 } : Room) (({ frames := 0, cells := 0, slots := 0, locals := 0 } : Room)).cells (({ frames := 0, cells := 0, slots := 0, locals := 0 } : Room)).slots #[(.ref r1)] h0 (Q_own_longValue Z r1 q1 h0 n0) := by
  refine own_enter (plainFor_of_name own_pn1) ?_
  intro p e s m below meth c s₁ X0 hx hZ hby hml hown hnm hlk hret e0
  have N0 := Fr.nil n0
  refine own_cast (own_ef_own_longValue m r1) ?_
  refine own_by (g' := (mkF m 1 #[.val (.ref r1)] [(.ref r1)])) (fun t k => XS.aloadN X0.here hx rfl (hb hby own_d17_0) rfl rfl k) ?_
  obtain ⟨T101, X101, e101, st101⟩ := getF X0 hx hZ hown (host := "") (Or.inl (hw _ (List.mem_of_getElem? (i := 46) rfl))) Via.refl e0 F1 (g := (mkF m 1 #[.val (.ref r1)] [(.ref r1)])) rfl rfl (hb hby own_d17_1)
  refine own_by (g' := (mkF m 4 #[.val (.ref r1)] [(.long q1)])) st101 ?_
  refine own_retJ X101 hx hlk hret (hb hby own_d17_4) (by decide) (by decide) ?_
  exact ⟨rfl, N0, e101⟩
theorem own_pn2 : plainName "java/lang/Record" = true := by first | (simp [plainName, overriddenIn]; done) | decide +kernel
theorem own_d2_0 : decode jdk_30_method_1_code 0 = .ok (.aload_n 0, 1) := by decide +kernel
theorem own_d2_1 : decode jdk_30_method_1_code 1 = .ok (.invokespecial 1, 3) := by decide +kernel
theorem own_d2_4 : decode jdk_30_method_1_code 4 = .ok (.return_, 1) := by decide +kernel
def Q_own_rec (Z : State) (r1 : Addr) (h0 : Heap) (n0 : Nat) (v : Option Value) (h : Heap) (L : List Loc) : Prop := v = none ∧ Fr n0 L ∧ h = h0
theorem own_ef_own_rec (m : MethodId) (r1 : Addr) : entryFrame m #[(.ref r1)] 1 = mkF m 0 #[.val (.ref r1)] [] := by first | (simp [entryFrame, mkF, argsToLocals, Value.category]; done) | rfl
set_option maxRecDepth 65536 in
set_option maxHeartbeats 40000000 in
theorem own_rec (l : Launch) (Z : State) (a0 : Array Value) (hw : ∀ d ∈ tables_1, d.before a0 Z = true) (ws : List Jvm.Cond) (r1 : Addr) (h0 : Heap) (n0 : Nat) (Z0 : n0 ≤ h0.size)  :
    own_Ctr l Z (⟨"java/lang/Record", "<init>", "()V"⟩ : MethodName) jdk_30_method_1_code 1 none ws ({ frames := 1, cells := 0, slots := 0, locals := 12 } : Room) (({ frames := 1, cells := 0, slots := 0, locals := 12 } : Room)).cells (({ frames := 1, cells := 0, slots := 0, locals := 12 } : Room)).slots #[(.ref r1)] h0 (Q_own_rec Z r1 h0 n0) := by
  refine own_enter (plainFor_of_name own_pn2) ?_
  intro p e s m below meth c s₁ X0 hx hZ hby hml hown hnm hlk hret e0
  have N0 := Fr.nil n0
  refine own_cast (own_ef_own_rec m r1) ?_
  refine own_by (g' := (mkF m 1 #[.val (.ref r1)] [(.ref r1)])) (fun t k => XS.aloadN X0.here hx rfl (hb hby own_d2_0) rfl rfl k) ?_
  obtain ⟨T101, X101, e101, st101⟩ := initO X0 hx hZ hown (hw _ (List.mem_of_getElem? (i := 11) rfl)) (hw _ (List.mem_of_getElem? (i := 12) rfl)) (hw _ (List.mem_of_getElem? (i := 13) rfl)) e0 (g := (mkF m 1 #[.val (.ref r1)] [(.ref r1)])) rfl (by rw [hml]; rfl) rfl (hb hby own_d2_1) (by decide) (W := 0) (by show 2 * 0 + _ ≤ _; exact Nat.le_of_eq rfl) (by decide)
  refine own_by (g' := (mkF m 4 #[.val (.ref r1)] [])) st101 ?_
  refine own_retV X101 hx hlk hret (hb hby own_d2_4) (by decide) (by decide) ?_
  exact ⟨rfl, N0, e101⟩
theorem own_pn3 : plainName (site_8.cls) = true := by first | (simp [plainName, overriddenIn]; done) | decide +kernel
theorem own_d1_0 : decode prog_29_method_1_code 0 = .ok (.aload_n 0, 1) := by decide +kernel
theorem own_d1_1 : decode prog_29_method_1_code 1 = .ok (.invokespecial 1, 3) := by decide +kernel
theorem own_d1_4 : decode prog_29_method_1_code 4 = .ok (.aload_n 0, 1) := by decide +kernel
theorem own_d1_5 : decode prog_29_method_1_code 5 = .ok (.lload_n 1, 1) := by decide +kernel
theorem own_d1_6 : decode prog_29_method_1_code 6 = .ok (.putfield 7, 3) := by decide +kernel
theorem own_d1_9 : decode prog_29_method_1_code 9 = .ok (.aload_n 0, 1) := by decide +kernel
theorem own_d1_10 : decode prog_29_method_1_code 10 = .ok (.lload_n 3, 1) := by decide +kernel
theorem own_d1_11 : decode prog_29_method_1_code 11 = .ok (.putfield 13, 3) := by decide +kernel
theorem own_d1_14 : decode prog_29_method_1_code 14 = .ok (.aload_n 0, 1) := by decide +kernel
theorem own_d1_15 : decode prog_29_method_1_code 15 = .ok (.lload 5, 2) := by decide +kernel
theorem own_d1_17 : decode prog_29_method_1_code 17 = .ok (.putfield 16, 3) := by decide +kernel
theorem own_d1_20 : decode prog_29_method_1_code 20 = .ok (.return_, 1) := by decide +kernel
def Q_own_ini (Z : State) (r1 : Addr) (q1 : Int64) (q2 : Int64) (q3 : Int64) (h0 : Heap) (n0 : Nat) (v : Option Value) (h : Heap) (L : List Loc) : Prop := v = none ∧ Fr n0 L ∧ Keep h0 h [r1] ∧ Exa Z h r1 (site_8.cls) ∧ Fld Z h r1 (site_8.cls) "first" "J" (.long q1) ∧ Fld Z h r1 (site_8.cls) "second" "J" (.long q2) ∧ Fld Z h r1 (site_8.cls) "third" "J" (.long q3)
theorem own_ef_own_ini (m : MethodId) (r1 : Addr) (q1 : Int64) (q2 : Int64) (q3 : Int64) : entryFrame m #[(.ref r1), (.long q1), (.long q2), (.long q3)] 7 = mkF m 0 #[.val (.ref r1), .val (.long q1), .second, .val (.long q2), .second, .val (.long q3), .second] [] := by first | (simp [entryFrame, mkF, argsToLocals, Value.category]; done) | rfl
set_option maxRecDepth 65536 in
set_option maxHeartbeats 40000000 in
theorem own_ini (l : Launch) (Z : State) (a0 : Array Value) (hw : ∀ d ∈ tables_1, d.before a0 Z = true) (ws : List Jvm.Cond) (r1 : Addr) (q1 : Int64) (q2 : Int64) (q3 : Int64) (h0 : Heap) (n0 : Nat) (Z0 : n0 ≤ h0.size) (E1 : Exa Z h0 r1 (site_8.cls)) (F1 : Fld Z h0 r1 (site_8.cls) "first" "J" (.long (0 : Int64))) (F2 : Fld Z h0 r1 (site_8.cls) "second" "J" (.long (0 : Int64))) (F3 : Fld Z h0 r1 (site_8.cls) "third" "J" (.long (0 : Int64))) (g1 : n0 ≤ r1) :
    own_Ctr l Z (⟨(site_8.cls), "<init>", "(JJJ)V"⟩ : MethodName) prog_29_method_1_code 7 none ws ({ frames := 2, cells := 0, slots := 0, locals := 24 } : Room) (({ frames := 2, cells := 0, slots := 0, locals := 24 } : Room)).cells (({ frames := 2, cells := 0, slots := 0, locals := 24 } : Room)).slots #[(.ref r1), (.long q1), (.long q2), (.long q3)] h0 (Q_own_ini Z r1 q1 q2 q3 h0 n0) := by
  refine own_enter (plainFor_of_name own_pn3) ?_
  intro p e s m below meth c s₁ X0 hx hZ hby hml hown hnm hlk hret e0
  have N0 := Fr.nil n0
  refine own_cast (own_ef_own_ini m r1 q1 q2 q3) ?_
  refine own_by (g' := (mkF m 1 #[.val (.ref r1), .val (.long q1), .second, .val (.long q2), .second, .val (.long q3), .second] [(.ref r1)])) (fun t k => XS.aloadN X0.here hx rfl (hb hby own_d1_0) rfl rfl k) ?_
  refine own_callI X0 hx hZ hown rfl (hw _ (List.mem_of_getElem? (i := 6) rfl)) (hw _ (List.mem_of_getElem? (i := 7) rfl)) (hw _ (List.mem_of_getElem? (i := 9) rfl)) (hw _ (List.mem_of_getElem? (i := 10) rfl)) (by decide) (a := r1) (own_rec l Z a0 hw [] (r1) h0 n0 Z0 ) 0 (by decide) (by decide) (by decide) (by decide) e0 (g := (mkF m 1 #[.val (.ref r1), .val (.long q1), .second, .val (.long q2), .second, .val (.long q3), .second] [(.ref r1)])) rfl (by rw [hml]; rfl) (argsL := []) (rest := []) (lenOf own_pd0 rfl) rfl (by show 2 * 0 + _ ≤ _; exact Nat.le_of_eq rfl) (hb hby own_d1_1) ?_
  intro v101 T101 L101 X101 q101
  obtain ⟨rfl, N101q, e101⟩ := q101
  have N101 := Fr.app N0 N101q
  show own_Goes p e below s _ _ _ T101 (mkF m 4 #[.val (.ref r1), .val (.long q1), .second, .val (.long q2), .second, .val (.long q3), .second] [])
  refine own_by (g' := (mkF m 5 #[.val (.ref r1), .val (.long q1), .second, .val (.long q2), .second, .val (.long q3), .second] [(.ref r1)])) (fun t k => XS.aloadN X101.here hx rfl (hb hby own_d1_4) rfl rfl k) ?_
  refine own_by (g' := (mkF m 6 #[.val (.ref r1), .val (.long q1), .second, .val (.long q2), .second, .val (.long q3), .second] [(.long q1), (.ref r1)])) (fun t k => XS.lloadN X101.here hx rfl (hb hby own_d1_5) rfl k) ?_
  obtain ⟨T102, h102, X102, e102, W102, st102⟩ := putF X101 hx hZ hown (host := "") (Or.inl (hw _ (List.mem_of_getElem? (i := 14) rfl))) Via.refl e101 F1 E1 (Or.inr ⟨(hw _ (List.mem_of_getElem? (i := 15) rfl)), rfl, hnm⟩) (hw _ (List.mem_of_getElem? (i := 1) rfl)) (ty := .long) (by decide) rfl rfl (g := (mkF m 6 #[.val (.ref r1), .val (.long q1), .second, .val (.long q2), .second, .val (.long q3), .second] [(.long q1), (.ref r1)])) rfl rfl (hb hby own_d1_6)
  have f103 := F1.same W102
  have N102 := Fr.snoc X102 N101 g1
  refine own_by (g' := (mkF m 9 #[.val (.ref r1), .val (.long q1), .second, .val (.long q2), .second, .val (.long q3), .second] [])) st102 ?_
  refine own_by (g' := (mkF m 10 #[.val (.ref r1), .val (.long q1), .second, .val (.long q2), .second, .val (.long q3), .second] [(.ref r1)])) (fun t k => XS.aloadN X102.here hx rfl (hb hby own_d1_9) rfl rfl k) ?_
  refine own_by (g' := (mkF m 11 #[.val (.ref r1), .val (.long q1), .second, .val (.long q2), .second, .val (.long q3), .second] [(.long q2), (.ref r1)])) (fun t k => XS.lloadN X102.here hx rfl (hb hby own_d1_10) rfl k) ?_
  have f104 := (F2.other W102 (Or.inr (slot_ne (Or.inr (hw _ (List.mem_of_getElem? (i := 17) rfl))) (Or.inr (hw _ (List.mem_of_getElem? (i := 15) rfl))) (by decide) (t := .long) (t' := .long) (by decide) (by decide))))
  have f105 := (E1.wr W102)
  obtain ⟨T106, h106, X106, e106, W106, st106⟩ := putF X102 hx hZ hown (host := "") (Or.inl (hw _ (List.mem_of_getElem? (i := 16) rfl))) Via.refl e102 f104 f105 (Or.inr ⟨(hw _ (List.mem_of_getElem? (i := 17) rfl)), rfl, hnm⟩) (hw _ (List.mem_of_getElem? (i := 1) rfl)) (ty := .long) (by decide) rfl rfl (g := (mkF m 11 #[.val (.ref r1), .val (.long q1), .second, .val (.long q2), .second, .val (.long q3), .second] [(.long q2), (.ref r1)])) rfl rfl (hb hby own_d1_11)
  have f107 := f104.same W106
  have N106 := Fr.snoc X106 N102 g1
  refine own_by (g' := (mkF m 14 #[.val (.ref r1), .val (.long q1), .second, .val (.long q2), .second, .val (.long q3), .second] [])) st106 ?_
  refine own_by (g' := (mkF m 15 #[.val (.ref r1), .val (.long q1), .second, .val (.long q2), .second, .val (.long q3), .second] [(.ref r1)])) (fun t k => XS.aloadN X106.here hx rfl (hb hby own_d1_14) rfl rfl k) ?_
  refine own_by (g' := (mkF m 17 #[.val (.ref r1), .val (.long q1), .second, .val (.long q2), .second, .val (.long q3), .second] [(.long q3), (.ref r1)])) (fun t k => XS.lload X106.here hx rfl (hb hby own_d1_15) rfl k) ?_
  have f108 := ((F3.other W102 (Or.inr (slot_ne (Or.inr (hw _ (List.mem_of_getElem? (i := 19) rfl))) (Or.inr (hw _ (List.mem_of_getElem? (i := 15) rfl))) (by decide) (t := .long) (t' := .long) (by decide) (by decide)))).other W106 (Or.inr (slot_ne (Or.inr (hw _ (List.mem_of_getElem? (i := 19) rfl))) (Or.inr (hw _ (List.mem_of_getElem? (i := 17) rfl))) (by decide) (t := .long) (t' := .long) (by decide) (by decide))))
  have f109 := (f105.wr W106)
  obtain ⟨T110, h110, X110, e110, W110, st110⟩ := putF X106 hx hZ hown (host := "") (Or.inl (hw _ (List.mem_of_getElem? (i := 18) rfl))) Via.refl e106 f108 f109 (Or.inr ⟨(hw _ (List.mem_of_getElem? (i := 19) rfl)), rfl, hnm⟩) (hw _ (List.mem_of_getElem? (i := 1) rfl)) (ty := .long) (by decide) rfl rfl (g := (mkF m 17 #[.val (.ref r1), .val (.long q1), .second, .val (.long q2), .second, .val (.long q3), .second] [(.long q3), (.ref r1)])) rfl rfl (hb hby own_d1_17)
  have f111 := f108.same W110
  have N110 := Fr.snoc X110 N106 g1
  refine own_by (g' := (mkF m 20 #[.val (.ref r1), .val (.long q1), .second, .val (.long q2), .second, .val (.long q3), .second] [])) st110 ?_
  have f112 := (f109.wr W110)
  have f113 := ((f103.other W106 (Or.inr (slot_ne (Or.inr (hw _ (List.mem_of_getElem? (i := 15) rfl))) (Or.inr (hw _ (List.mem_of_getElem? (i := 17) rfl))) (by decide) (t := .long) (t' := .long) (by decide) (by decide)))).other W110 (Or.inr (slot_ne (Or.inr (hw _ (List.mem_of_getElem? (i := 15) rfl))) (Or.inr (hw _ (List.mem_of_getElem? (i := 19) rfl))) (by decide) (t := .long) (t' := .long) (by decide) (by decide))))
  have f114 := (f107.other W110 (Or.inr (slot_ne (Or.inr (hw _ (List.mem_of_getElem? (i := 17) rfl))) (Or.inr (hw _ (List.mem_of_getElem? (i := 19) rfl))) (by decide) (t := .long) (t' := .long) (by decide) (by decide))))
  refine own_retV X110 hx hlk hret (hb hby own_d1_20) (by decide) (by decide) ?_
  rw [e110]
  exact ⟨rfl, N110, ((((Keep.refl h0 [r1]).wr W102 (Or.inl (List.mem_of_getElem? (i := 0) rfl))).wr W106 (Or.inl (List.mem_of_getElem? (i := 0) rfl))).wr W110 (Or.inl (List.mem_of_getElem? (i := 0) rfl))), f112, f113, f114, f111⟩
theorem own_pn4 : plainName "java/util/Objects" = true := by first | (simp [plainName, overriddenIn]; done) | decide +kernel
theorem own_d10_0 : decode jdk_31_method_10_code 0 = .ok (.aload_n 0, 1) := by decide +kernel
theorem own_d10_1 : decode jdk_31_method_10_code 1 = .ok (.ifnonnull 11, 3) := by decide +kernel
theorem own_d10_12 : decode jdk_31_method_10_code 12 = .ok (.aload_n 0, 1) := by decide +kernel
theorem own_d10_13 : decode jdk_31_method_10_code 13 = .ok (.areturn, 1) := by decide +kernel
def Q_own_rnn (Z : State) (r1 : Addr) (h0 : Heap) (n0 : Nat) (v : Option Value) (h : Heap) (L : List Loc) : Prop := v = some (.ref r1) ∧ Fr n0 L ∧ h = h0
theorem own_ef_own_rnn (m : MethodId) (r1 : Addr) : entryFrame m #[(.ref r1)] 1 = mkF m 0 #[.val (.ref r1)] [] := by first | (simp [entryFrame, mkF, argsToLocals, Value.category]; done) | rfl
set_option maxRecDepth 65536 in
set_option maxHeartbeats 40000000 in
theorem own_rnn (l : Launch) (Z : State) (a0 : Array Value) (hw : ∀ d ∈ tables_1, d.before a0 Z = true) (ws : List Jvm.Cond) (r1 : Addr) (h0 : Heap) (n0 : Nat) (Z0 : n0 ≤ h0.size)  :
    own_Ctr l Z (⟨"java/util/Objects", "requireNonNull", "(Ljava/lang/Object;)Ljava/lang/Object;"⟩ : MethodName) jdk_31_method_10_code 1 (some (.object "java/lang/Object")) ws ({ frames := 0, cells := 0, slots := 0, locals := 0 } : Room) (({ frames := 0, cells := 0, slots := 0, locals := 0 } : Room)).cells (({ frames := 0, cells := 0, slots := 0, locals := 0 } : Room)).slots #[(.ref r1)] h0 (Q_own_rnn Z r1 h0 n0) := by
  refine own_enter (plainFor_of_name own_pn4) ?_
  intro p e s m below meth c s₁ X0 hx hZ hby hml hown hnm hlk hret e0
  have N0 := Fr.nil n0
  refine own_cast (own_ef_own_rnn m r1) ?_
  refine own_by (g' := (mkF m 1 #[.val (.ref r1)] [(.ref r1)])) (fun t k => XS.aloadN X0.here hx rfl (hb hby own_d10_0) rfl rfl k) ?_
  refine own_by (g' := (mkF m 12 #[.val (.ref r1)] [])) (fun t k => XS.ifnonnullYes X0.here hx rfl (pc0 := 1) (pc' := 12) rfl (hb hby own_d10_1) rfl (by decide) (by decide) k) ?_
  refine own_by (g' := (mkF m 13 #[.val (.ref r1)] [(.ref r1)])) (fun t k => XS.aloadN X0.here hx rfl (hb hby own_d10_12) rfl rfl k) ?_
  refine own_retA X0 hx hlk hret rfl rfl (hb hby own_d10_13) (by decide) (by decide) ?_
  exact ⟨rfl, N0, e0⟩
theorem own_pn5 : plainName "java/util/AbstractCollection" = true := by first | (simp [plainName, overriddenIn]; done) | decide +kernel
theorem own_d14_0 : decode jdk_22_method_1_code 0 = .ok (.aload_n 0, 1) := by decide +kernel
theorem own_d14_1 : decode jdk_22_method_1_code 1 = .ok (.invokespecial 1, 3) := by decide +kernel
theorem own_d14_4 : decode jdk_22_method_1_code 4 = .ok (.return_, 1) := by decide +kernel
def Q_own_ac (Z : State) (r1 : Addr) (h0 : Heap) (n0 : Nat) (v : Option Value) (h : Heap) (L : List Loc) : Prop := v = none ∧ Fr n0 L ∧ h = h0
theorem own_ef_own_ac (m : MethodId) (r1 : Addr) : entryFrame m #[(.ref r1)] 1 = mkF m 0 #[.val (.ref r1)] [] := by first | (simp [entryFrame, mkF, argsToLocals, Value.category]; done) | rfl
set_option maxRecDepth 65536 in
set_option maxHeartbeats 40000000 in
theorem own_ac (l : Launch) (Z : State) (a0 : Array Value) (hw : ∀ d ∈ tables_1, d.before a0 Z = true) (ws : List Jvm.Cond) (r1 : Addr) (h0 : Heap) (n0 : Nat) (Z0 : n0 ≤ h0.size)  :
    own_Ctr l Z (⟨"java/util/AbstractCollection", "<init>", "()V"⟩ : MethodName) jdk_22_method_1_code 1 none ws ({ frames := 1, cells := 0, slots := 0, locals := 12 } : Room) (({ frames := 1, cells := 0, slots := 0, locals := 12 } : Room)).cells (({ frames := 1, cells := 0, slots := 0, locals := 12 } : Room)).slots #[(.ref r1)] h0 (Q_own_ac Z r1 h0 n0) := by
  refine own_enter (plainFor_of_name own_pn5) ?_
  intro p e s m below meth c s₁ X0 hx hZ hby hml hown hnm hlk hret e0
  have N0 := Fr.nil n0
  refine own_cast (own_ef_own_ac m r1) ?_
  refine own_by (g' := (mkF m 1 #[.val (.ref r1)] [(.ref r1)])) (fun t k => XS.aloadN X0.here hx rfl (hb hby own_d14_0) rfl rfl k) ?_
  obtain ⟨T101, X101, e101, st101⟩ := initO X0 hx hZ hown (hw _ (List.mem_of_getElem? (i := 89) rfl)) (hw _ (List.mem_of_getElem? (i := 12) rfl)) (hw _ (List.mem_of_getElem? (i := 13) rfl)) e0 (g := (mkF m 1 #[.val (.ref r1)] [(.ref r1)])) rfl (by rw [hml]; rfl) rfl (hb hby own_d14_1) (by decide) (W := 0) (by show 2 * 0 + _ ≤ _; exact Nat.le_of_eq rfl) (by decide)
  refine own_by (g' := (mkF m 4 #[.val (.ref r1)] [])) st101 ?_
  refine own_retV X101 hx hlk hret (hb hby own_d14_4) (by decide) (by decide) ?_
  exact ⟨rfl, N0, e101⟩
theorem own_pn6 : plainName "java/util/ImmutableCollections$AbstractImmutableCollection" = true := by first | (simp [plainName, overriddenIn]; done) | decide +kernel
theorem own_d13_0 : decode jdk_47_method_1_code 0 = .ok (.aload_n 0, 1) := by decide +kernel
theorem own_d13_1 : decode jdk_47_method_1_code 1 = .ok (.invokespecial 1, 3) := by decide +kernel
theorem own_d13_4 : decode jdk_47_method_1_code 4 = .ok (.return_, 1) := by decide +kernel
def Q_own_aic (Z : State) (r1 : Addr) (h0 : Heap) (n0 : Nat) (v : Option Value) (h : Heap) (L : List Loc) : Prop := v = none ∧ Fr n0 L ∧ h = h0
theorem own_ef_own_aic (m : MethodId) (r1 : Addr) : entryFrame m #[(.ref r1)] 1 = mkF m 0 #[.val (.ref r1)] [] := by first | (simp [entryFrame, mkF, argsToLocals, Value.category]; done) | rfl
set_option maxRecDepth 65536 in
set_option maxHeartbeats 40000000 in
theorem own_aic (l : Launch) (Z : State) (a0 : Array Value) (hw : ∀ d ∈ tables_1, d.before a0 Z = true) (ws : List Jvm.Cond) (r1 : Addr) (h0 : Heap) (n0 : Nat) (Z0 : n0 ≤ h0.size)  :
    own_Ctr l Z (⟨"java/util/ImmutableCollections$AbstractImmutableCollection", "<init>", "()V"⟩ : MethodName) jdk_47_method_1_code 1 none ws ({ frames := 2, cells := 0, slots := 0, locals := 24 } : Room) (({ frames := 2, cells := 0, slots := 0, locals := 24 } : Room)).cells (({ frames := 2, cells := 0, slots := 0, locals := 24 } : Room)).slots #[(.ref r1)] h0 (Q_own_aic Z r1 h0 n0) := by
  refine own_enter (plainFor_of_name own_pn6) ?_
  intro p e s m below meth c s₁ X0 hx hZ hby hml hown hnm hlk hret e0
  have N0 := Fr.nil n0
  refine own_cast (own_ef_own_aic m r1) ?_
  refine own_by (g' := (mkF m 1 #[.val (.ref r1)] [(.ref r1)])) (fun t k => XS.aloadN X0.here hx rfl (hb hby own_d13_0) rfl rfl k) ?_
  refine own_callI X0 hx hZ hown rfl (hw _ (List.mem_of_getElem? (i := 83) rfl)) (hw _ (List.mem_of_getElem? (i := 84) rfl)) (hw _ (List.mem_of_getElem? (i := 87) rfl)) (hw _ (List.mem_of_getElem? (i := 88) rfl)) (by decide) (a := r1) (own_ac l Z a0 hw [] (r1) h0 n0 Z0 ) 0 (by decide) (by decide) (by decide) (by decide) e0 (g := (mkF m 1 #[.val (.ref r1)] [(.ref r1)])) rfl (by rw [hml]; rfl) (argsL := []) (rest := []) (lenOf own_pd0 rfl) rfl (by show 2 * 0 + _ ≤ _; exact Nat.le_of_eq rfl) (hb hby own_d13_1) ?_
  intro v101 T101 L101 X101 q101
  obtain ⟨rfl, N101q, e101⟩ := q101
  have N101 := Fr.app N0 N101q
  show own_Goes p e below s _ _ _ T101 (mkF m 4 #[.val (.ref r1)] [])
  refine own_retV X101 hx hlk hret (hb hby own_d13_4) (by decide) (by decide) ?_
  exact ⟨rfl, N101, e101⟩
theorem own_pn7 : plainName "java/util/ImmutableCollections$AbstractImmutableList" = true := by first | (simp [plainName, overriddenIn]; done) | decide +kernel
theorem own_d12_0 : decode jdk_46_method_1_code 0 = .ok (.aload_n 0, 1) := by decide +kernel
theorem own_d12_1 : decode jdk_46_method_1_code 1 = .ok (.invokespecial 1, 3) := by decide +kernel
theorem own_d12_4 : decode jdk_46_method_1_code 4 = .ok (.return_, 1) := by decide +kernel
def Q_own_ail (Z : State) (r1 : Addr) (h0 : Heap) (n0 : Nat) (v : Option Value) (h : Heap) (L : List Loc) : Prop := v = none ∧ Fr n0 L ∧ h = h0
theorem own_ef_own_ail (m : MethodId) (r1 : Addr) : entryFrame m #[(.ref r1)] 1 = mkF m 0 #[.val (.ref r1)] [] := by first | (simp [entryFrame, mkF, argsToLocals, Value.category]; done) | rfl
set_option maxRecDepth 65536 in
set_option maxHeartbeats 40000000 in
theorem own_ail (l : Launch) (Z : State) (a0 : Array Value) (hw : ∀ d ∈ tables_1, d.before a0 Z = true) (ws : List Jvm.Cond) (r1 : Addr) (h0 : Heap) (n0 : Nat) (Z0 : n0 ≤ h0.size)  :
    own_Ctr l Z (⟨"java/util/ImmutableCollections$AbstractImmutableList", "<init>", "()V"⟩ : MethodName) jdk_46_method_1_code 1 none ws ({ frames := 3, cells := 0, slots := 0, locals := 36 } : Room) (({ frames := 3, cells := 0, slots := 0, locals := 36 } : Room)).cells (({ frames := 3, cells := 0, slots := 0, locals := 36 } : Room)).slots #[(.ref r1)] h0 (Q_own_ail Z r1 h0 n0) := by
  refine own_enter (plainFor_of_name own_pn7) ?_
  intro p e s m below meth c s₁ X0 hx hZ hby hml hown hnm hlk hret e0
  have N0 := Fr.nil n0
  refine own_cast (own_ef_own_ail m r1) ?_
  refine own_by (g' := (mkF m 1 #[.val (.ref r1)] [(.ref r1)])) (fun t k => XS.aloadN X0.here hx rfl (hb hby own_d12_0) rfl rfl k) ?_
  refine own_callI X0 hx hZ hown rfl (hw _ (List.mem_of_getElem? (i := 77) rfl)) (hw _ (List.mem_of_getElem? (i := 78) rfl)) (hw _ (List.mem_of_getElem? (i := 81) rfl)) (hw _ (List.mem_of_getElem? (i := 82) rfl)) (by decide) (a := r1) (own_aic l Z a0 hw [] (r1) h0 n0 Z0 ) 0 (by decide) (by decide) (by decide) (by decide) e0 (g := (mkF m 1 #[.val (.ref r1)] [(.ref r1)])) rfl (by rw [hml]; rfl) (argsL := []) (rest := []) (lenOf own_pd0 rfl) rfl (by show 2 * 0 + _ ≤ _; exact Nat.le_of_eq rfl) (hb hby own_d12_1) ?_
  intro v101 T101 L101 X101 q101
  obtain ⟨rfl, N101q, e101⟩ := q101
  have N101 := Fr.app N0 N101q
  show own_Goes p e below s _ _ _ T101 (mkF m 4 #[.val (.ref r1)] [])
  refine own_retV X101 hx hlk hret (hb hby own_d12_4) (by decide) (by decide) ?_
  exact ⟨rfl, N101, e101⟩
theorem own_pn8 : plainName "java/util/ImmutableCollections$ListN" = true := by first | (simp [plainName, overriddenIn]; done) | decide +kernel
theorem own_d11_0 : decode jdk_45_method_1_code 0 = .ok (.aload_n 0, 1) := by decide +kernel
theorem own_d11_1 : decode jdk_45_method_1_code 1 = .ok (.invokespecial 1, 3) := by decide +kernel
theorem own_d11_4 : decode jdk_45_method_1_code 4 = .ok (.aload_n 0, 1) := by decide +kernel
theorem own_d11_5 : decode jdk_45_method_1_code 5 = .ok (.aload_n 1, 1) := by decide +kernel
theorem own_d11_6 : decode jdk_45_method_1_code 6 = .ok (.putfield 7, 3) := by decide +kernel
theorem own_d11_9 : decode jdk_45_method_1_code 9 = .ok (.aload_n 0, 1) := by decide +kernel
theorem own_d11_10 : decode jdk_45_method_1_code 10 = .ok (.iload_n 2, 1) := by decide +kernel
theorem own_d11_11 : decode jdk_45_method_1_code 11 = .ok (.putfield 13, 3) := by decide +kernel
theorem own_d11_14 : decode jdk_45_method_1_code 14 = .ok (.return_, 1) := by decide +kernel
def Q_own_ln (Z : State) (r1 : Addr) (r2 : Addr) (h0 : Heap) (n0 : Nat) (v : Option Value) (h : Heap) (L : List Loc) : Prop := v = none ∧ Fr n0 L ∧ Keep h0 h [r1] ∧ Exa Z h r1 "java/util/ImmutableCollections$ListN" ∧ Fld Z h r1 "java/util/ImmutableCollections$ListN" "elements" "[Ljava/lang/Object;" (.ref r2)
theorem own_ef_own_ln (m : MethodId) (r1 : Addr) (r2 : Addr) : entryFrame m #[(.ref r1), (.ref r2), (.int (0 : Int32))] 3 = mkF m 0 #[.val (.ref r1), .val (.ref r2), .val (.int (0 : Int32))] [] := by first | (simp [entryFrame, mkF, argsToLocals, Value.category]; done) | rfl
set_option maxRecDepth 65536 in
set_option maxHeartbeats 40000000 in
theorem own_ln (l : Launch) (Z : State) (a0 : Array Value) (hw : ∀ d ∈ tables_1, d.before a0 Z = true) (ws : List Jvm.Cond) (r1 : Addr) (r2 : Addr) (h0 : Heap) (n0 : Nat) (Z0 : n0 ≤ h0.size) (E1 : Exa Z h0 r1 "java/util/ImmutableCollections$ListN") (F1 : Fld Z h0 r1 "java/util/ImmutableCollections$ListN" "elements" "[Ljava/lang/Object;" .null) (F2 : Fld Z h0 r1 "java/util/ImmutableCollections$ListN" "allowNulls" "Z" (.int (0 : Int32))) (g1 : n0 ≤ r1) :
    own_Ctr l Z (⟨"java/util/ImmutableCollections$ListN", "<init>", "([Ljava/lang/Object;Z)V"⟩ : MethodName) jdk_45_method_1_code 3 none ws ({ frames := 4, cells := 0, slots := 0, locals := 48 } : Room) (({ frames := 4, cells := 0, slots := 0, locals := 48 } : Room)).cells (({ frames := 4, cells := 0, slots := 0, locals := 48 } : Room)).slots #[(.ref r1), (.ref r2), (.int (0 : Int32))] h0 (Q_own_ln Z r1 r2 h0 n0) := by
  refine own_enter (plainFor_of_name own_pn8) ?_
  intro p e s m below meth c s₁ X0 hx hZ hby hml hown hnm hlk hret e0
  have N0 := Fr.nil n0
  refine own_cast (own_ef_own_ln m r1 r2) ?_
  refine own_by (g' := (mkF m 1 #[.val (.ref r1), .val (.ref r2), .val (.int (0 : Int32))] [(.ref r1)])) (fun t k => XS.aloadN X0.here hx rfl (hb hby own_d11_0) rfl rfl k) ?_
  refine own_callI X0 hx hZ hown rfl (hw _ (List.mem_of_getElem? (i := 71) rfl)) (hw _ (List.mem_of_getElem? (i := 72) rfl)) (hw _ (List.mem_of_getElem? (i := 75) rfl)) (hw _ (List.mem_of_getElem? (i := 76) rfl)) (by decide) (a := r1) (own_ail l Z a0 hw [] (r1) h0 n0 Z0 ) 0 (by decide) (by decide) (by decide) (by decide) e0 (g := (mkF m 1 #[.val (.ref r1), .val (.ref r2), .val (.int (0 : Int32))] [(.ref r1)])) rfl (by rw [hml]; rfl) (argsL := []) (rest := []) (lenOf own_pd0 rfl) rfl (by show 2 * 0 + _ ≤ _; exact Nat.le_of_eq rfl) (hb hby own_d11_1) ?_
  intro v101 T101 L101 X101 q101
  obtain ⟨rfl, N101q, e101⟩ := q101
  have N101 := Fr.app N0 N101q
  show own_Goes p e below s _ _ _ T101 (mkF m 4 #[.val (.ref r1), .val (.ref r2), .val (.int (0 : Int32))] [])
  refine own_by (g' := (mkF m 5 #[.val (.ref r1), .val (.ref r2), .val (.int (0 : Int32))] [(.ref r1)])) (fun t k => XS.aloadN X101.here hx rfl (hb hby own_d11_4) rfl rfl k) ?_
  refine own_by (g' := (mkF m 6 #[.val (.ref r1), .val (.ref r2), .val (.int (0 : Int32))] [(.ref r2), (.ref r1)])) (fun t k => XS.aloadN X101.here hx rfl (hb hby own_d11_5) rfl rfl k) ?_
  obtain ⟨T102, h102, X102, e102, W102, st102⟩ := putF X101 hx hZ hown (host := "") (Or.inl (hw _ (List.mem_of_getElem? (i := 90) rfl))) Via.refl e101 F1 E1 (Or.inr ⟨(hw _ (List.mem_of_getElem? (i := 91) rfl)), rfl, hnm⟩) (hw _ (List.mem_of_getElem? (i := 65) rfl)) (ty := (.array (.object "java/lang/Object"))) (by decide) rfl rfl (g := (mkF m 6 #[.val (.ref r1), .val (.ref r2), .val (.int (0 : Int32))] [(.ref r2), (.ref r1)])) rfl rfl (hb hby own_d11_6)
  have f103 := F1.same W102
  have N102 := Fr.snoc X102 N101 g1
  refine own_by (g' := (mkF m 9 #[.val (.ref r1), .val (.ref r2), .val (.int (0 : Int32))] [])) st102 ?_
  refine own_by (g' := (mkF m 10 #[.val (.ref r1), .val (.ref r2), .val (.int (0 : Int32))] [(.ref r1)])) (fun t k => XS.aloadN X102.here hx rfl (hb hby own_d11_9) rfl rfl k) ?_
  refine own_by (g' := (mkF m 11 #[.val (.ref r1), .val (.ref r2), .val (.int (0 : Int32))] [(.int (0 : Int32)), (.ref r1)])) (fun t k => XS.iloadN X102.here hx rfl (hb hby own_d11_10) rfl k) ?_
  have f104 := (F2.other W102 (Or.inr (slot_ne (Or.inr (hw _ (List.mem_of_getElem? (i := 93) rfl))) (Or.inr (hw _ (List.mem_of_getElem? (i := 91) rfl))) (by decide) (t := .boolean) (t' := (.array (.object "java/lang/Object"))) (by decide) (by decide))))
  have f105 := (E1.wr W102)
  obtain ⟨T106, h106, X106, e106, W106, st106⟩ := putFN X102 hx hZ hown (hw _ (List.mem_of_getElem? (i := 92) rfl)) Via.refl e102 f104 f105 (Or.inr ⟨(hw _ (List.mem_of_getElem? (i := 93) rfl)), rfl, hnm⟩) (hw _ (List.mem_of_getElem? (i := 65) rfl)) (ty := .boolean) (v' := (.int (0 : Int32))) (by decide) rfl (by decide) (g := (mkF m 11 #[.val (.ref r1), .val (.ref r2), .val (.int (0 : Int32))] [(.int (0 : Int32)), (.ref r1)])) rfl rfl (hb hby own_d11_11)
  have f107 := f104.same W106
  have N106 := Fr.snoc X106 N102 g1
  refine own_by (g' := (mkF m 14 #[.val (.ref r1), .val (.ref r2), .val (.int (0 : Int32))] [])) st106 ?_
  have f108 := (f105.wr W106)
  have f109 := (f103.other W106 (Or.inr (slot_ne (Or.inr (hw _ (List.mem_of_getElem? (i := 91) rfl))) (Or.inr (hw _ (List.mem_of_getElem? (i := 93) rfl))) (by decide) (t := (.array (.object "java/lang/Object"))) (t' := .boolean) (by decide) (by decide))))
  refine own_retV X106 hx hlk hret (hb hby own_d11_14) (by decide) (by decide) ?_
  rw [e106]
  exact ⟨rfl, N106, (((Keep.refl h0 [r1]).wr W102 (Or.inl (List.mem_of_getElem? (i := 0) rfl))).wr W106 (Or.inl (List.mem_of_getElem? (i := 0) rfl))), f108, f109⟩
theorem own_pn9 : plainName "java/util/ImmutableCollections" = true := by first | (simp [plainName, overriddenIn]; done) | decide +kernel
theorem own_d9_0 : decode jdk_56_method_5_code 0 = .ok (.getstatic 46, 3) := by decide +kernel
theorem own_d9_3 : decode jdk_56_method_5_code 3 = .ok (.ifCond .ne 20, 3) := by decide +kernel
theorem own_d9_23 : decode jdk_56_method_5_code 23 = .ok (.aload_n 0, 1) := by decide +kernel
theorem own_d9_24 : decode jdk_56_method_5_code 24 = .ok (.astore_n 1, 1) := by decide +kernel
theorem own_d9_25 : decode jdk_56_method_5_code 25 = .ok (.aload_n 1, 1) := by decide +kernel
theorem own_d9_26 : decode jdk_56_method_5_code 26 = .ok (.arraylength, 1) := by decide +kernel
theorem own_d9_27 : decode jdk_56_method_5_code 27 = .ok (.istore_n 2, 1) := by decide +kernel
theorem own_d9_28 : decode jdk_56_method_5_code 28 = .ok (.iconst 0, 1) := by decide +kernel
theorem own_d9_29 : decode jdk_56_method_5_code 29 = .ok (.istore_n 3, 1) := by decide +kernel
theorem own_d9_30 : decode jdk_56_method_5_code 30 = .ok (.iload_n 3, 1) := by decide +kernel
theorem own_d9_31 : decode jdk_56_method_5_code 31 = .ok (.iload_n 2, 1) := by decide +kernel
theorem own_d9_32 : decode jdk_56_method_5_code 32 = .ok (.if_icmp .ge 20, 3) := by decide +kernel
theorem own_d9_35 : decode jdk_56_method_5_code 35 = .ok (.aload_n 1, 1) := by decide +kernel
theorem own_d9_36 : decode jdk_56_method_5_code 36 = .ok (.iload_n 3, 1) := by decide +kernel
theorem own_d9_37 : decode jdk_56_method_5_code 37 = .ok (.aaload, 1) := by decide +kernel
theorem own_d9_38 : decode jdk_56_method_5_code 38 = .ok (.astore 4, 2) := by decide +kernel
theorem own_d9_40 : decode jdk_56_method_5_code 40 = .ok (.aload 4, 2) := by decide +kernel
theorem own_d9_42 : decode jdk_56_method_5_code 42 = .ok (.invokestatic 37, 3) := by decide +kernel
theorem own_pd2 : parseMethodDescriptor "(Ljava/lang/Object;)Ljava/lang/Object;" = some ⟨[(.object "java/lang/Object")], some (.object "java/lang/Object")⟩ := by decide +kernel
theorem own_d9_45 : decode jdk_56_method_5_code 45 = .ok (.pop, 1) := by decide +kernel
theorem own_d9_46 : decode jdk_56_method_5_code 46 = .ok (.iinc 3 1, 3) := by decide +kernel
theorem own_d9_49 : decode jdk_56_method_5_code 49 = .ok (.goto (-19), 3) := by decide +kernel
theorem own_d9_52 : decode jdk_56_method_5_code 52 = .ok (.aload_n 0, 1) := by decide +kernel
theorem own_d9_53 : decode jdk_56_method_5_code 53 = .ok (.arraylength, 1) := by decide +kernel
theorem own_d9_54 : decode jdk_56_method_5_code 54 = .ok (.tableswitch 61 0 2 #[26, 32, 45], 26) := by decide +kernel
theorem own_d9_115 : decode jdk_56_method_5_code 115 = .ok (.new 12, 3) := by decide +kernel
theorem own_d9_118 : decode jdk_56_method_5_code 118 = .ok (.dup, 1) := by decide +kernel
theorem own_d9_119 : decode jdk_56_method_5_code 119 = .ok (.aload_n 0, 1) := by decide +kernel
theorem own_d9_120 : decode jdk_56_method_5_code 120 = .ok (.iconst 0, 1) := by decide +kernel
theorem own_d9_121 : decode jdk_56_method_5_code 121 = .ok (.invokespecial 43, 3) := by decide +kernel
theorem own_pd3 : parseMethodDescriptor "([Ljava/lang/Object;Z)V" = some ⟨[(.array (.object "java/lang/Object")), .boolean], none⟩ := by decide +kernel
theorem own_d9_124 : decode jdk_56_method_5_code 124 = .ok (.areturn, 1) := by decide +kernel
def Q_own_lta (Z : State) (r1 : Addr) (kk : ClassId) (y1 : Addr) (y2 : Addr) (y3 : Addr) (h0 : Heap) (n0 : Nat) (v : Option Value) (h : Heap) (L : List Loc) : Prop := ∃ (bo : Addr), v = some (.ref bo) ∧ Fr n0 L ∧ Keep h0 h [] ∧ h0.size ≤ bo ∧ Exa Z h bo "java/util/ImmutableCollections$ListN" ∧ Fld Z h bo "java/util/ImmutableCollections$ListN" "elements" "[Ljava/lang/Object;" (.ref r1)
theorem own_ef_own_lta (m : MethodId) (r1 : Addr) : entryFrame m #[(.ref r1)] 5 = mkF m 0 #[.val (.ref r1), .unset, .unset, .unset, .unset] [] := by first | (simp [entryFrame, mkF, argsToLocals, Value.category]; done) | rfl
set_option maxRecDepth 65536 in
set_option maxHeartbeats 40000000 in
theorem own_lta (l : Launch) (Z : State) (a0 : Array Value) (hw : ∀ d ∈ tables_1, d.before a0 Z = true) (ws : List Jvm.Cond) (r1 : Addr) (kk : ClassId) (y1 : Addr) (y2 : Addr) (y3 : Addr) (h0 : Heap) (n0 : Nat) (Z0 : n0 ≤ h0.size) (O0 : Old Z n0 h0) (S_ad : Sta Z Z.heap "java/util/ImmutableCollections" "$assertionsDisabled" "Z" (.int (1 : Int32))) (V1 : Arv Z h0 r1 kk (.object "java/lang/Object") (3 : Int32) [(.ref y1), (.ref y2), (.ref y3)] .null) :
    own_Ctr l Z (⟨"java/util/ImmutableCollections", "listFromTrustedArray", "([Ljava/lang/Object;)Ljava/util/List;"⟩ : MethodName) jdk_56_method_5_code 5 (some (.object "java/util/List")) ws ({ frames := 5, cells := 1, slots := 2, locals := 63 } : Room) (({ frames := 5, cells := 1, slots := 2, locals := 63 } : Room)).cells (({ frames := 5, cells := 1, slots := 2, locals := 63 } : Room)).slots #[(.ref r1)] h0 (Q_own_lta Z r1 kk y1 y2 y3 h0 n0) := by
  refine own_enter (plainFor_of_name own_pn9) ?_
  intro p e s m below meth c s₁ X0 hx hZ hby hml hown hnm hlk hret e0
  have N0 := Fr.nil n0
  refine own_cast (own_ef_own_lta m r1) ?_
  obtain ⟨T101, X101, e101, st101⟩ := getS2 X0 hx hZ hown (host := "") (Or.inl (hw _ (List.mem_of_getElem? (i := 59) rfl))) Via.refl e0 (S_ad.ext O0.2) (g := (mkF m 0 #[.val (.ref r1), .unset, .unset, .unset, .unset] [])) rfl (hb hby own_d9_0)
  refine own_by (g' := (mkF m 3 #[.val (.ref r1), .unset, .unset, .unset, .unset] [(.int (1 : Int32))])) st101 ?_
  refine own_by (g' := (mkF m 23 #[.val (.ref r1), .unset, .unset, .unset, .unset] [])) (fun t k => XS.ifYes X101.here hx rfl (pc0 := 3) (pc' := 23) rfl (hb hby own_d9_3) rfl ((if0 _ _).trans (feq (by decide : ¬ ((1 : Int32) = (0 : Int32)))).2) (by decide) (by decide) k) ?_
  refine own_by (g' := (mkF m 24 #[.val (.ref r1), .unset, .unset, .unset, .unset] [(.ref r1)])) (fun t k => XS.aloadN X101.here hx rfl (hb hby own_d9_23) rfl rfl k) ?_
  refine own_by (g' := (mkF m 25 #[.val (.ref r1), .val (.ref r1), .unset, .unset, .unset] [])) (fun t k => XS.astoreN X101.here hx rfl (hb hby own_d9_24) rfl rfl (l' := #[.val (.ref r1), .val (.ref r1), .unset, .unset, .unset]) rfl k) ?_
  refine own_by (g' := (mkF m 26 #[.val (.ref r1), .val (.ref r1), .unset, .unset, .unset] [(.ref r1)])) (fun t k => XS.aloadN X101.here hx rfl (hb hby own_d9_25) rfl rfl k) ?_
  obtain ⟨c102, Ar102, -, S102, G102, -, -⟩ := id V1
  refine own_by (g' := (mkF m 27 #[.val (.ref r1), .val (.ref r1), .unset, .unset, .unset] [(.int (3 : Int32))])) (fun t k => X101.arraylength hx (by rw [e101]; exact Ar102.1) (State.isArrayOf_alike hZ.alike Ar102.2.1) (g := (mkF m 26 #[.val (.ref r1), .val (.ref r1), .unset, .unset, .unset] [(.ref r1)])) rfl rfl (hb hby own_d9_26) t (by rw [len_of S102 G102]; exact k)) ?_
  refine own_by (g' := (mkF m 28 #[.val (.ref r1), .val (.ref r1), .val (.int (3 : Int32)), .unset, .unset] [])) (fun t k => XS.istoreN X101.here hx rfl (hb hby own_d9_27) rfl (l' := #[.val (.ref r1), .val (.ref r1), .val (.int (3 : Int32)), .unset, .unset]) rfl k) ?_
  refine own_by (g' := (mkF m 29 #[.val (.ref r1), .val (.ref r1), .val (.int (3 : Int32)), .unset, .unset] [(.int (0 : Int32))])) (fun t k => XS.iconst X101.here hx rfl (hb hby own_d9_28) k) ?_
  refine own_by (g' := (mkF m 30 #[.val (.ref r1), .val (.ref r1), .val (.int (3 : Int32)), .val (.int (0 : Int32)), .unset] [])) (fun t k => XS.istoreN X101.here hx rfl (hb hby own_d9_29) rfl (l' := #[.val (.ref r1), .val (.ref r1), .val (.int (3 : Int32)), .val (.int (0 : Int32)), .unset]) rfl k) ?_
  refine own_by (g' := (mkF m 31 #[.val (.ref r1), .val (.ref r1), .val (.int (3 : Int32)), .val (.int (0 : Int32)), .unset] [(.int (0 : Int32))])) (fun t k => XS.iloadN X101.here hx rfl (hb hby own_d9_30) rfl k) ?_
  refine own_by (g' := (mkF m 32 #[.val (.ref r1), .val (.ref r1), .val (.int (3 : Int32)), .val (.int (0 : Int32)), .unset] [(.int (3 : Int32)), (.int (0 : Int32))])) (fun t k => XS.iloadN X101.here hx rfl (hb hby own_d9_31) rfl k) ?_
  refine own_by (g' := (mkF m 35 #[.val (.ref r1), .val (.ref r1), .val (.int (3 : Int32)), .val (.int (0 : Int32)), .unset] [])) (fun t k => XS.icmpNo X101.here hx rfl (hb hby own_d9_32) rfl (tlt (by decide : (0 : Int32) < (3 : Int32))).2.1 k) ?_
  refine own_by (g' := (mkF m 36 #[.val (.ref r1), .val (.ref r1), .val (.int (3 : Int32)), .val (.int (0 : Int32)), .unset] [(.ref r1)])) (fun t k => XS.aloadN X101.here hx rfl (hb hby own_d9_35) rfl rfl k) ?_
  refine own_by (g' := (mkF m 37 #[.val (.ref r1), .val (.ref r1), .val (.int (3 : Int32)), .val (.int (0 : Int32)), .unset] [(.int (0 : Int32)), (.ref r1)])) (fun t k => XS.iloadN X101.here hx rfl (hb hby own_d9_36) rfl k) ?_
  obtain ⟨c103, Ar103, q103, S103, G103, H103, F103⟩ := id V1
  have hin103 : ¬ ((0 : Int32) < 0 ∨ c103.slots.size ≤ ((0 : Int32)).toNatClampNeg) := inb_of S103 ⟨by decide, by decide⟩
  have hat103 : c103.slots[((0 : Int32)).toNatClampNeg]? = some (.ref y1) := H103.at hin103 rfl
  refine own_by (g' := (mkF m 38 #[.val (.ref r1), .val (.ref r1), .val (.int (3 : Int32)), .val (.int (0 : Int32)), .unset] [(.ref y1)])) (fun t k => X101.aaload hx (j := (0 : Int32)) (v := (.ref y1)) (by rw [e101]; exact Ar103.1) (State.isArrayOf_alike hZ.alike Ar103.2.1) rfl Ar103.2.2 hin103 hat103 (g := (mkF m 37 #[.val (.ref r1), .val (.ref r1), .val (.int (3 : Int32)), .val (.int (0 : Int32)), .unset] [(.int (0 : Int32)), (.ref r1)])) rfl rfl (hb hby own_d9_37) t k) ?_
  refine own_by (g' := (mkF m 40 #[.val (.ref r1), .val (.ref r1), .val (.int (3 : Int32)), .val (.int (0 : Int32)), .val (.ref y1)] [])) (fun t k => XS.astore X101.here hx rfl (hb hby own_d9_38) rfl rfl (l' := #[.val (.ref r1), .val (.ref r1), .val (.int (3 : Int32)), .val (.int (0 : Int32)), .val (.ref y1)]) rfl k) ?_
  refine own_by (g' := (mkF m 42 #[.val (.ref r1), .val (.ref r1), .val (.int (3 : Int32)), .val (.int (0 : Int32)), .val (.ref y1)] [(.ref y1)])) (fun t k => XS.aload X101.here hx rfl (hb hby own_d9_40) rfl rfl k) ?_
  refine own_callS X101 hx hZ hown (hw _ (List.mem_of_getElem? (i := 60) rfl)) (hw _ (List.mem_of_getElem? (i := 61) rfl)) (hw _ (List.mem_of_getElem? (i := 62) rfl)) (hw _ (List.mem_of_getElem? (i := 63) rfl)) (by decide) (own_rnn l Z a0 hw [] (y1) h0 n0 Z0 ) 0 (by decide) (by decide) (by decide) (by decide) e101 (g := (mkF m 42 #[.val (.ref r1), .val (.ref r1), .val (.int (3 : Int32)), .val (.int (0 : Int32)), .val (.ref y1)] [(.ref y1)])) rfl (by rw [hml]; rfl) (argsL := [(.ref y1)]) (rest := []) (lenOf own_pd2 rfl) rfl (by show 2 * 0 + _ ≤ _; exact Nat.le_of_eq rfl) (hb hby own_d9_42) ?_
  intro v104 T104 L104 X104 q104
  obtain ⟨rfl, N104q, e104⟩ := q104
  have N104 := Fr.app N0 N104q
  show own_Goes p e below s _ _ _ T104 (mkF m 45 #[.val (.ref r1), .val (.ref r1), .val (.int (3 : Int32)), .val (.int (0 : Int32)), .val (.ref y1)] [(.ref y1)])
  refine own_by (g' := (mkF m 46 #[.val (.ref r1), .val (.ref r1), .val (.int (3 : Int32)), .val (.int (0 : Int32)), .val (.ref y1)] [])) (fun t k => XS.pop X104.here hx rfl (hb hby own_d9_45) rfl rfl k) ?_
  refine own_by (g' := (mkF m 49 #[.val (.ref r1), .val (.ref r1), .val (.int (3 : Int32)), .val (.int (1 : Int32)), .val (.ref y1)] [])) (fun t k => XS.iinc X104.here hx rfl (hb hby own_d9_46) rfl (l' := #[.val (.ref r1), .val (.ref r1), .val (.int (3 : Int32)), .val (.int (1 : Int32)), .val (.ref y1)]) rfl k) ?_
  refine own_by (g' := (mkF m 30 #[.val (.ref r1), .val (.ref r1), .val (.int (3 : Int32)), .val (.int (1 : Int32)), .val (.ref y1)] [])) (fun t k => XS.goto X104.here hx rfl (pc0 := 49) (pc' := 30) rfl (hb hby own_d9_49) (by decide) (by decide) k) ?_
  refine own_by (g' := (mkF m 31 #[.val (.ref r1), .val (.ref r1), .val (.int (3 : Int32)), .val (.int (1 : Int32)), .val (.ref y1)] [(.int (1 : Int32))])) (fun t k => XS.iloadN X104.here hx rfl (hb hby own_d9_30) rfl k) ?_
  refine own_by (g' := (mkF m 32 #[.val (.ref r1), .val (.ref r1), .val (.int (3 : Int32)), .val (.int (1 : Int32)), .val (.ref y1)] [(.int (3 : Int32)), (.int (1 : Int32))])) (fun t k => XS.iloadN X104.here hx rfl (hb hby own_d9_31) rfl k) ?_
  refine own_by (g' := (mkF m 35 #[.val (.ref r1), .val (.ref r1), .val (.int (3 : Int32)), .val (.int (1 : Int32)), .val (.ref y1)] [])) (fun t k => XS.icmpNo X104.here hx rfl (hb hby own_d9_32) rfl (tlt (by decide : (1 : Int32) < (3 : Int32))).2.1 k) ?_
  refine own_by (g' := (mkF m 36 #[.val (.ref r1), .val (.ref r1), .val (.int (3 : Int32)), .val (.int (1 : Int32)), .val (.ref y1)] [(.ref r1)])) (fun t k => XS.aloadN X104.here hx rfl (hb hby own_d9_35) rfl rfl k) ?_
  refine own_by (g' := (mkF m 37 #[.val (.ref r1), .val (.ref r1), .val (.int (3 : Int32)), .val (.int (1 : Int32)), .val (.ref y1)] [(.int (1 : Int32)), (.ref r1)])) (fun t k => XS.iloadN X104.here hx rfl (hb hby own_d9_36) rfl k) ?_
  obtain ⟨c105, Ar105, q105, S105, G105, H105, F105⟩ := id V1
  have hin105 : ¬ ((1 : Int32) < 0 ∨ c105.slots.size ≤ ((1 : Int32)).toNatClampNeg) := inb_of S105 ⟨by decide, by decide⟩
  have hat105 : c105.slots[((1 : Int32)).toNatClampNeg]? = some (.ref y2) := H105.at hin105 rfl
  refine own_by (g' := (mkF m 38 #[.val (.ref r1), .val (.ref r1), .val (.int (3 : Int32)), .val (.int (1 : Int32)), .val (.ref y1)] [(.ref y2)])) (fun t k => X104.aaload hx (j := (1 : Int32)) (v := (.ref y2)) (by rw [e104]; exact Ar105.1) (State.isArrayOf_alike hZ.alike Ar105.2.1) rfl Ar105.2.2 hin105 hat105 (g := (mkF m 37 #[.val (.ref r1), .val (.ref r1), .val (.int (3 : Int32)), .val (.int (1 : Int32)), .val (.ref y1)] [(.int (1 : Int32)), (.ref r1)])) rfl rfl (hb hby own_d9_37) t k) ?_
  refine own_by (g' := (mkF m 40 #[.val (.ref r1), .val (.ref r1), .val (.int (3 : Int32)), .val (.int (1 : Int32)), .val (.ref y2)] [])) (fun t k => XS.astore X104.here hx rfl (hb hby own_d9_38) rfl rfl (l' := #[.val (.ref r1), .val (.ref r1), .val (.int (3 : Int32)), .val (.int (1 : Int32)), .val (.ref y2)]) rfl k) ?_
  refine own_by (g' := (mkF m 42 #[.val (.ref r1), .val (.ref r1), .val (.int (3 : Int32)), .val (.int (1 : Int32)), .val (.ref y2)] [(.ref y2)])) (fun t k => XS.aload X104.here hx rfl (hb hby own_d9_40) rfl rfl k) ?_
  refine own_callS X104 hx hZ hown (hw _ (List.mem_of_getElem? (i := 60) rfl)) (hw _ (List.mem_of_getElem? (i := 61) rfl)) (hw _ (List.mem_of_getElem? (i := 62) rfl)) (hw _ (List.mem_of_getElem? (i := 63) rfl)) (by decide) (own_rnn l Z a0 hw [] (y2) h0 n0 Z0 ) 0 (by decide) (by decide) (by decide) (by decide) e104 (g := (mkF m 42 #[.val (.ref r1), .val (.ref r1), .val (.int (3 : Int32)), .val (.int (1 : Int32)), .val (.ref y2)] [(.ref y2)])) rfl (by rw [hml]; rfl) (argsL := [(.ref y2)]) (rest := []) (lenOf own_pd2 rfl) rfl (by show 2 * 0 + _ ≤ _; exact Nat.le_of_eq rfl) (hb hby own_d9_42) ?_
  intro v106 T106 L106 X106 q106
  obtain ⟨rfl, N106q, e106⟩ := q106
  have N106 := Fr.app N104 N106q
  show own_Goes p e below s _ _ _ T106 (mkF m 45 #[.val (.ref r1), .val (.ref r1), .val (.int (3 : Int32)), .val (.int (1 : Int32)), .val (.ref y2)] [(.ref y2)])
  refine own_by (g' := (mkF m 46 #[.val (.ref r1), .val (.ref r1), .val (.int (3 : Int32)), .val (.int (1 : Int32)), .val (.ref y2)] [])) (fun t k => XS.pop X106.here hx rfl (hb hby own_d9_45) rfl rfl k) ?_
  refine own_by (g' := (mkF m 49 #[.val (.ref r1), .val (.ref r1), .val (.int (3 : Int32)), .val (.int (2 : Int32)), .val (.ref y2)] [])) (fun t k => XS.iinc X106.here hx rfl (hb hby own_d9_46) rfl (l' := #[.val (.ref r1), .val (.ref r1), .val (.int (3 : Int32)), .val (.int (2 : Int32)), .val (.ref y2)]) rfl k) ?_
  refine own_by (g' := (mkF m 30 #[.val (.ref r1), .val (.ref r1), .val (.int (3 : Int32)), .val (.int (2 : Int32)), .val (.ref y2)] [])) (fun t k => XS.goto X106.here hx rfl (pc0 := 49) (pc' := 30) rfl (hb hby own_d9_49) (by decide) (by decide) k) ?_
  refine own_by (g' := (mkF m 31 #[.val (.ref r1), .val (.ref r1), .val (.int (3 : Int32)), .val (.int (2 : Int32)), .val (.ref y2)] [(.int (2 : Int32))])) (fun t k => XS.iloadN X106.here hx rfl (hb hby own_d9_30) rfl k) ?_
  refine own_by (g' := (mkF m 32 #[.val (.ref r1), .val (.ref r1), .val (.int (3 : Int32)), .val (.int (2 : Int32)), .val (.ref y2)] [(.int (3 : Int32)), (.int (2 : Int32))])) (fun t k => XS.iloadN X106.here hx rfl (hb hby own_d9_31) rfl k) ?_
  refine own_by (g' := (mkF m 35 #[.val (.ref r1), .val (.ref r1), .val (.int (3 : Int32)), .val (.int (2 : Int32)), .val (.ref y2)] [])) (fun t k => XS.icmpNo X106.here hx rfl (hb hby own_d9_32) rfl (tlt (by decide : (2 : Int32) < (3 : Int32))).2.1 k) ?_
  refine own_by (g' := (mkF m 36 #[.val (.ref r1), .val (.ref r1), .val (.int (3 : Int32)), .val (.int (2 : Int32)), .val (.ref y2)] [(.ref r1)])) (fun t k => XS.aloadN X106.here hx rfl (hb hby own_d9_35) rfl rfl k) ?_
  refine own_by (g' := (mkF m 37 #[.val (.ref r1), .val (.ref r1), .val (.int (3 : Int32)), .val (.int (2 : Int32)), .val (.ref y2)] [(.int (2 : Int32)), (.ref r1)])) (fun t k => XS.iloadN X106.here hx rfl (hb hby own_d9_36) rfl k) ?_
  obtain ⟨c107, Ar107, q107, S107, G107, H107, F107⟩ := id V1
  have hin107 : ¬ ((2 : Int32) < 0 ∨ c107.slots.size ≤ ((2 : Int32)).toNatClampNeg) := inb_of S107 ⟨by decide, by decide⟩
  have hat107 : c107.slots[((2 : Int32)).toNatClampNeg]? = some (.ref y3) := H107.at hin107 rfl
  refine own_by (g' := (mkF m 38 #[.val (.ref r1), .val (.ref r1), .val (.int (3 : Int32)), .val (.int (2 : Int32)), .val (.ref y2)] [(.ref y3)])) (fun t k => X106.aaload hx (j := (2 : Int32)) (v := (.ref y3)) (by rw [e106]; exact Ar107.1) (State.isArrayOf_alike hZ.alike Ar107.2.1) rfl Ar107.2.2 hin107 hat107 (g := (mkF m 37 #[.val (.ref r1), .val (.ref r1), .val (.int (3 : Int32)), .val (.int (2 : Int32)), .val (.ref y2)] [(.int (2 : Int32)), (.ref r1)])) rfl rfl (hb hby own_d9_37) t k) ?_
  refine own_by (g' := (mkF m 40 #[.val (.ref r1), .val (.ref r1), .val (.int (3 : Int32)), .val (.int (2 : Int32)), .val (.ref y3)] [])) (fun t k => XS.astore X106.here hx rfl (hb hby own_d9_38) rfl rfl (l' := #[.val (.ref r1), .val (.ref r1), .val (.int (3 : Int32)), .val (.int (2 : Int32)), .val (.ref y3)]) rfl k) ?_
  refine own_by (g' := (mkF m 42 #[.val (.ref r1), .val (.ref r1), .val (.int (3 : Int32)), .val (.int (2 : Int32)), .val (.ref y3)] [(.ref y3)])) (fun t k => XS.aload X106.here hx rfl (hb hby own_d9_40) rfl rfl k) ?_
  refine own_callS X106 hx hZ hown (hw _ (List.mem_of_getElem? (i := 60) rfl)) (hw _ (List.mem_of_getElem? (i := 61) rfl)) (hw _ (List.mem_of_getElem? (i := 62) rfl)) (hw _ (List.mem_of_getElem? (i := 63) rfl)) (by decide) (own_rnn l Z a0 hw [] (y3) h0 n0 Z0 ) 0 (by decide) (by decide) (by decide) (by decide) e106 (g := (mkF m 42 #[.val (.ref r1), .val (.ref r1), .val (.int (3 : Int32)), .val (.int (2 : Int32)), .val (.ref y3)] [(.ref y3)])) rfl (by rw [hml]; rfl) (argsL := [(.ref y3)]) (rest := []) (lenOf own_pd2 rfl) rfl (by show 2 * 0 + _ ≤ _; exact Nat.le_of_eq rfl) (hb hby own_d9_42) ?_
  intro v108 T108 L108 X108 q108
  obtain ⟨rfl, N108q, e108⟩ := q108
  have N108 := Fr.app N106 N108q
  show own_Goes p e below s _ _ _ T108 (mkF m 45 #[.val (.ref r1), .val (.ref r1), .val (.int (3 : Int32)), .val (.int (2 : Int32)), .val (.ref y3)] [(.ref y3)])
  refine own_by (g' := (mkF m 46 #[.val (.ref r1), .val (.ref r1), .val (.int (3 : Int32)), .val (.int (2 : Int32)), .val (.ref y3)] [])) (fun t k => XS.pop X108.here hx rfl (hb hby own_d9_45) rfl rfl k) ?_
  refine own_by (g' := (mkF m 49 #[.val (.ref r1), .val (.ref r1), .val (.int (3 : Int32)), .val (.int (3 : Int32)), .val (.ref y3)] [])) (fun t k => XS.iinc X108.here hx rfl (hb hby own_d9_46) rfl (l' := #[.val (.ref r1), .val (.ref r1), .val (.int (3 : Int32)), .val (.int (3 : Int32)), .val (.ref y3)]) rfl k) ?_
  refine own_by (g' := (mkF m 30 #[.val (.ref r1), .val (.ref r1), .val (.int (3 : Int32)), .val (.int (3 : Int32)), .val (.ref y3)] [])) (fun t k => XS.goto X108.here hx rfl (pc0 := 49) (pc' := 30) rfl (hb hby own_d9_49) (by decide) (by decide) k) ?_
  refine own_by (g' := (mkF m 31 #[.val (.ref r1), .val (.ref r1), .val (.int (3 : Int32)), .val (.int (3 : Int32)), .val (.ref y3)] [(.int (3 : Int32))])) (fun t k => XS.iloadN X108.here hx rfl (hb hby own_d9_30) rfl k) ?_
  refine own_by (g' := (mkF m 32 #[.val (.ref r1), .val (.ref r1), .val (.int (3 : Int32)), .val (.int (3 : Int32)), .val (.ref y3)] [(.int (3 : Int32)), (.int (3 : Int32))])) (fun t k => XS.iloadN X108.here hx rfl (hb hby own_d9_31) rfl k) ?_
  refine own_by (g' := (mkF m 52 #[.val (.ref r1), .val (.ref r1), .val (.int (3 : Int32)), .val (.int (3 : Int32)), .val (.ref y3)] [])) (fun t k => XS.icmpYes X108.here hx rfl (pc0 := 32) (pc' := 52) rfl (hb hby own_d9_32) rfl (flt (by decide : ¬ ((3 : Int32) < (3 : Int32)))).2.1 (by decide) (by decide) k) ?_
  refine own_by (g' := (mkF m 53 #[.val (.ref r1), .val (.ref r1), .val (.int (3 : Int32)), .val (.int (3 : Int32)), .val (.ref y3)] [(.ref r1)])) (fun t k => XS.aloadN X108.here hx rfl (hb hby own_d9_52) rfl rfl k) ?_
  obtain ⟨c109, Ar109, -, S109, G109, -, -⟩ := id V1
  refine own_by (g' := (mkF m 54 #[.val (.ref r1), .val (.ref r1), .val (.int (3 : Int32)), .val (.int (3 : Int32)), .val (.ref y3)] [(.int (3 : Int32))])) (fun t k => X108.arraylength hx (by rw [e108]; exact Ar109.1) (State.isArrayOf_alike hZ.alike Ar109.2.1) (g := (mkF m 53 #[.val (.ref r1), .val (.ref r1), .val (.int (3 : Int32)), .val (.int (3 : Int32)), .val (.ref y3)] [(.ref r1)])) rfl rfl (hb hby own_d9_53) t (by rw [len_of S109 G109]; exact k)) ?_
  refine own_by (g' := (mkF m 115 #[.val (.ref r1), .val (.ref r1), .val (.int (3 : Int32)), .val (.int (3 : Int32)), .val (.ref y3)] [])) (fun t k => XS.tswOut X108.here hx rfl (pc0 := 54) (pc' := 115) rfl (hb hby own_d9_54) rfl (by decide) (by decide) (by decide) k) ?_
  obtain ⟨T110, h110, X110, e110, E110, A110, D110, U110, st110⟩ := newO X108 hx hZ hown (hw _ (List.mem_of_getElem? (i := 64) rfl)) (hw _ (List.mem_of_getElem? (i := 65) rfl)) (hw _ (List.mem_of_getElem? (i := 66) rfl)) e108 (g := (mkF m 115 #[.val (.ref r1), .val (.ref r1), .val (.int (3 : Int32)), .val (.int (3 : Int32)), .val (.ref y3)] [])) rfl (hb hby own_d9_115) (by decide) (by decide)
  obtain ⟨b110, g110⟩ : ∃ z, z = h0.size := ⟨_, rfl⟩
  rw [← g110] at A110 D110 U110 st110
  have sz_b110 : h0.size ≤ b110 := Nat.le_trans (Nat.le_refl _) (Nat.le_of_eq g110.symm)
  have g_b110 : n0 ≤ b110 := Nat.le_trans Z0 sz_b110
  have f111 : Fld Z h110 b110 "java/util/ImmutableCollections$ListN" "elements" "[Ljava/lang/Object;" .null := D110 (Or.inr (hw _ (List.mem_of_getElem? (i := 91) rfl))) (ty := (.array (.object "java/lang/Object"))) (by decide)
  have f112 : Fld Z h110 b110 "java/util/ImmutableCollections$ListN" "allowNulls" "Z" (.int (0 : Int32)) := D110 (Or.inr (hw _ (List.mem_of_getElem? (i := 93) rfl))) (ty := .boolean) (by decide)
  refine own_by (g' := (mkF m 118 #[.val (.ref r1), .val (.ref r1), .val (.int (3 : Int32)), .val (.int (3 : Int32)), .val (.ref y3)] [(.ref b110)])) st110 ?_
  refine own_by (g' := (mkF m 119 #[.val (.ref r1), .val (.ref r1), .val (.int (3 : Int32)), .val (.int (3 : Int32)), .val (.ref y3)] [(.ref b110), (.ref b110)])) (fun t k => XS.dup X110.here hx rfl (hb hby own_d9_118) rfl rfl k) ?_
  refine own_by (g' := (mkF m 120 #[.val (.ref r1), .val (.ref r1), .val (.int (3 : Int32)), .val (.int (3 : Int32)), .val (.ref y3)] [(.ref r1), (.ref b110), (.ref b110)])) (fun t k => XS.aloadN X110.here hx rfl (hb hby own_d9_119) rfl rfl k) ?_
  refine own_by (g' := (mkF m 121 #[.val (.ref r1), .val (.ref r1), .val (.int (3 : Int32)), .val (.int (3 : Int32)), .val (.ref y3)] [(.int (0 : Int32)), (.ref r1), (.ref b110), (.ref b110)])) (fun t k => XS.iconst X110.here hx rfl (hb hby own_d9_120) k) ?_
  refine own_callIN X110 hx hZ hown rfl (hw _ (List.mem_of_getElem? (i := 67) rfl)) (hw _ (List.mem_of_getElem? (i := 68) rfl)) (hw _ (List.mem_of_getElem? (i := 66) rfl)) (hw _ (List.mem_of_getElem? (i := 70) rfl)) (by decide) (a := b110) (own_ln l Z a0 hw [] (b110) (r1) h110 n0 (Nat.le_trans Z0 E110.1) A110 f111 f112 g_b110) 1 (by decide) (by decide) (by decide) (by decide) e110 (g := (mkF m 121 #[.val (.ref r1), .val (.ref r1), .val (.int (3 : Int32)), .val (.int (3 : Int32)), .val (.ref y3)] [(.int (0 : Int32)), (.ref r1), (.ref b110), (.ref b110)])) rfl (by rw [hml]; rfl) (argsL := [(.ref r1), (.int (0 : Int32))]) (rest := [(.ref b110)]) (lenOf own_pd3 rfl) rfl (by show 2 * 0 + _ ≤ _; exact Nat.le_of_eq rfl) (hb hby own_d9_121) ?_
  intro v113 T113 L113 X113 q113
  obtain ⟨rfl, N113q, K113, f114, f115⟩ := q113
  have N113 := Fr.app N108 N113q
  show own_Goes p e below s _ _ _ T113 (mkF m 124 #[.val (.ref r1), .val (.ref r1), .val (.int (3 : Int32)), .val (.int (3 : Int32)), .val (.ref y3)] [(.ref b110)])
  refine own_retA X113 hx hlk hret rfl rfl (hb hby own_d9_124) (by decide) (by decide) ?_
  exact ⟨b110, rfl, N113, (((Keep.refl h0 []).ext E110).trans K113 (allS (Or.inr sz_b110) all0)), sz_b110, f114, f115⟩
theorem own_pn10 : plainName "java/util/List" = true := by first | (simp [plainName, overriddenIn]; done) | decide +kernel
theorem own_d8_0 : decode jdk_40_method_39_code 0 = .ok (.iconst 3, 1) := by decide +kernel
theorem own_d8_1 : decode jdk_40_method_39_code 1 = .ok (.anewarray 103, 3) := by decide +kernel
theorem own_ad_java_lang_Object : "[" ++ (FieldType.object "java/lang/Object").toString = "[Ljava/lang/Object;" := by decide +kernel
theorem own_d8_4 : decode jdk_40_method_39_code 4 = .ok (.dup, 1) := by decide +kernel
theorem own_d8_5 : decode jdk_40_method_39_code 5 = .ok (.iconst 0, 1) := by decide +kernel
theorem own_d8_6 : decode jdk_40_method_39_code 6 = .ok (.aload_n 0, 1) := by decide +kernel
theorem own_d8_7 : decode jdk_40_method_39_code 7 = .ok (.aastore, 1) := by decide +kernel
theorem own_d8_8 : decode jdk_40_method_39_code 8 = .ok (.dup, 1) := by decide +kernel
theorem own_d8_9 : decode jdk_40_method_39_code 9 = .ok (.iconst 1, 1) := by decide +kernel
theorem own_d8_10 : decode jdk_40_method_39_code 10 = .ok (.aload_n 1, 1) := by decide +kernel
theorem own_d8_11 : decode jdk_40_method_39_code 11 = .ok (.aastore, 1) := by decide +kernel
theorem own_d8_12 : decode jdk_40_method_39_code 12 = .ok (.dup, 1) := by decide +kernel
theorem own_d8_13 : decode jdk_40_method_39_code 13 = .ok (.iconst 2, 1) := by decide +kernel
theorem own_d8_14 : decode jdk_40_method_39_code 14 = .ok (.aload_n 2, 1) := by decide +kernel
theorem own_d8_15 : decode jdk_40_method_39_code 15 = .ok (.aastore, 1) := by decide +kernel
theorem own_d8_16 : decode jdk_40_method_39_code 16 = .ok (.invokestatic 105, 3) := by decide +kernel
theorem own_pd4 : parseMethodDescriptor "([Ljava/lang/Object;)Ljava/util/List;" = some ⟨[(.array (.object "java/lang/Object"))], some (.object "java/util/List")⟩ := by decide +kernel
theorem own_d8_19 : decode jdk_40_method_39_code 19 = .ok (.areturn, 1) := by decide +kernel
def Q_own_of (Z : State) (y1 : Addr) (y2 : Addr) (y3 : Addr) (h0 : Heap) (n0 : Nat) (v : Option Value) (h : Heap) (L : List Loc) : Prop := ∃ (bo : Addr), ∃ (ba : Addr), ∃ (kk : ClassId), v = some (.ref bo) ∧ Fr n0 L ∧ Keep h0 h [] ∧ h0.size ≤ bo ∧ Exa Z h bo "java/util/ImmutableCollections$ListN" ∧ Fld Z h bo "java/util/ImmutableCollections$ListN" "elements" "[Ljava/lang/Object;" (.ref ba) ∧ Arv Z h ba kk (.object "java/lang/Object") (3 : Int32) [(.ref y1), (.ref y2), (.ref y3)] .null
theorem own_ef_own_of (m : MethodId) (y1 : Addr) (y2 : Addr) (y3 : Addr) : entryFrame m #[(.ref y1), (.ref y2), (.ref y3)] 3 = mkF m 0 #[.val (.ref y1), .val (.ref y2), .val (.ref y3)] [] := by first | (simp [entryFrame, mkF, argsToLocals, Value.category]; done) | rfl
set_option maxRecDepth 65536 in
set_option maxHeartbeats 40000000 in
theorem own_of (l : Launch) (Z : State) (a0 : Array Value) (hw : ∀ d ∈ tables_1, d.before a0 Z = true) (ws : List Jvm.Cond) (y1 : Addr) (y2 : Addr) (y3 : Addr) (h0 : Heap) (n0 : Nat) (Z0 : n0 ≤ h0.size) (O0 : Old Z n0 h0) (S_ad : Sta Z Z.heap "java/util/ImmutableCollections" "$assertionsDisabled" "Z" (.int (1 : Int32))) (EY1 : Exa Z h0 y1 "java/lang/Long") (EY2 : Exa Z h0 y2 "java/lang/Long") (EY3 : Exa Z h0 y3 "java/lang/Long") :
    own_Ctr l Z (⟨"java/util/List", "of", "(Ljava/lang/Object;Ljava/lang/Object;Ljava/lang/Object;)Ljava/util/List;"⟩ : MethodName) jdk_40_method_39_code 3 (some (.object "java/util/List")) ws ({ frames := 6, cells := 2, slots := 5, locals := 79 } : Room) (({ frames := 6, cells := 2, slots := 5, locals := 79 } : Room)).cells (({ frames := 6, cells := 2, slots := 5, locals := 79 } : Room)).slots #[(.ref y1), (.ref y2), (.ref y3)] h0 (Q_own_of Z y1 y2 y3 h0 n0) := by
  refine own_enter (plainFor_of_name own_pn10) ?_
  intro p e s m below meth c s₁ X0 hx hZ hby hml hown hnm hlk hret e0
  have N0 := Fr.nil n0
  refine own_cast (own_ef_own_of m y1 y2 y3) ?_
  refine own_by (g' := (mkF m 1 #[.val (.ref y1), .val (.ref y2), .val (.ref y3)] [(.int (3 : Int32))])) (fun t k => XS.iconst X0.here hx rfl (hb hby own_d8_0) k) ?_
  obtain ⟨T101, h101, k101, X101, e101, E101, A101, Y101, O101, st101⟩ := newRE X0 hx hZ hown (hw _ (List.mem_of_getElem? (i := 52) rfl)) (hw _ (List.mem_of_getElem? (i := 53) rfl)) e0 (g := (mkF m 1 #[.val (.ref y1), .val (.ref y2), .val (.ref y3)] [(.int (3 : Int32))])) rfl (hb hby own_d8_1) rfl (by decide) (cap := 3) (by decide) (by decide) (by decide) (by decide) (ad := "[Ljava/lang/Object;") own_ad_java_lang_Object
  obtain ⟨b101, g101⟩ : ∃ z, z = h0.size := ⟨_, rfl⟩
  rw [← g101] at A101 Y101 st101
  have sz_b101 : h0.size ≤ b101 := Nat.le_trans (Nat.le_refl _) (Nat.le_of_eq g101.symm)
  have g_b101 : n0 ≤ b101 := Nat.le_trans Z0 sz_b101
  have V101 : Arv Z h101 b101 k101 (.object "java/lang/Object") (3 : Int32) [.null, .null, .null] .null := (Arv.new A101 (by decide)).pad (pad_rep [] .null 3)
  refine own_by (g' := (mkF m 4 #[.val (.ref y1), .val (.ref y2), .val (.ref y3)] [(.ref b101)])) st101 ?_
  refine own_by (g' := (mkF m 5 #[.val (.ref y1), .val (.ref y2), .val (.ref y3)] [(.ref b101), (.ref b101)])) (fun t k => XS.dup X101.here hx rfl (hb hby own_d8_4) rfl rfl k) ?_
  refine own_by (g' := (mkF m 6 #[.val (.ref y1), .val (.ref y2), .val (.ref y3)] [(.int (0 : Int32)), (.ref b101), (.ref b101)])) (fun t k => XS.iconst X101.here hx rfl (hb hby own_d8_5) k) ?_
  refine own_by (g' := (mkF m 7 #[.val (.ref y1), .val (.ref y2), .val (.ref y3)] [(.ref y1), (.int (0 : Int32)), (.ref b101), (.ref b101)])) (fun t k => XS.aloadN X101.here hx rfl (hb hby own_d8_6) rfl rfl k) ?_
  obtain ⟨c102, Ar102, q102, S102, G102, H102, F102⟩ := id V101
  have hin102 : ¬ ((0 : Int32) < 0 ∨ c102.slots.size ≤ ((0 : Int32)).toNatClampNeg) := inb_of S102 ⟨by decide, by decide⟩
  have f103 := (EY1.ext E101)
  obtain ⟨T102, h102, X102, e102, W102, st102⟩ := stR X101 hx hZ e101 Ar102 (j := (0 : Int32)) hin102 rfl (Sto.ofV Ar102 q102 O101 (Ins.of_exa f103 (hw _ (List.mem_of_getElem? (i := 54) rfl)))) (g := (mkF m 7 #[.val (.ref y1), .val (.ref y2), .val (.ref y3)] [(.ref y1), (.int (0 : Int32)), (.ref b101), (.ref b101)])) rfl rfl (hb hby own_d8_7)
  have V104 : Arv Z h102 b101 k101 (.object "java/lang/Object") (3 : Int32) [(.ref y1), .null, .null] .null := Arv.set Ar102 q102 S102 G102 H102 F102 rfl W102 0 rfl (Nat.le_of_ble_eq_true rfl)
  have N102 := Fr.snoc X102 N0 g_b101
  refine own_by (g' := (mkF m 8 #[.val (.ref y1), .val (.ref y2), .val (.ref y3)] [(.ref b101)])) st102 ?_
  refine own_by (g' := (mkF m 9 #[.val (.ref y1), .val (.ref y2), .val (.ref y3)] [(.ref b101), (.ref b101)])) (fun t k => XS.dup X102.here hx rfl (hb hby own_d8_8) rfl rfl k) ?_
  refine own_by (g' := (mkF m 10 #[.val (.ref y1), .val (.ref y2), .val (.ref y3)] [(.int (1 : Int32)), (.ref b101), (.ref b101)])) (fun t k => XS.iconst X102.here hx rfl (hb hby own_d8_9) k) ?_
  refine own_by (g' := (mkF m 11 #[.val (.ref y1), .val (.ref y2), .val (.ref y3)] [(.ref y2), (.int (1 : Int32)), (.ref b101), (.ref b101)])) (fun t k => XS.aloadN X102.here hx rfl (hb hby own_d8_10) rfl rfl k) ?_
  obtain ⟨c105, Ar105, q105, S105, G105, H105, F105⟩ := id V104
  have hin105 : ¬ ((1 : Int32) < 0 ∨ c105.slots.size ≤ ((1 : Int32)).toNatClampNeg) := inb_of S105 ⟨by decide, by decide⟩
  have f106 := ((EY2.ext E101).wr W102)
  obtain ⟨T105, h105, X105, e105, W105, st105⟩ := stR X102 hx hZ e102 Ar105 (j := (1 : Int32)) hin105 rfl (Sto.ofV Ar105 q105 O101 (Ins.of_exa f106 (hw _ (List.mem_of_getElem? (i := 54) rfl)))) (g := (mkF m 11 #[.val (.ref y1), .val (.ref y2), .val (.ref y3)] [(.ref y2), (.int (1 : Int32)), (.ref b101), (.ref b101)])) rfl rfl (hb hby own_d8_11)
  have V107 : Arv Z h105 b101 k101 (.object "java/lang/Object") (3 : Int32) [(.ref y1), (.ref y2), .null] .null := Arv.set Ar105 q105 S105 G105 H105 F105 rfl W105 1 rfl (Nat.le_of_ble_eq_true rfl)
  have N105 := Fr.snoc X105 N102 g_b101
  refine own_by (g' := (mkF m 12 #[.val (.ref y1), .val (.ref y2), .val (.ref y3)] [(.ref b101)])) st105 ?_
  refine own_by (g' := (mkF m 13 #[.val (.ref y1), .val (.ref y2), .val (.ref y3)] [(.ref b101), (.ref b101)])) (fun t k => XS.dup X105.here hx rfl (hb hby own_d8_12) rfl rfl k) ?_
  refine own_by (g' := (mkF m 14 #[.val (.ref y1), .val (.ref y2), .val (.ref y3)] [(.int (2 : Int32)), (.ref b101), (.ref b101)])) (fun t k => XS.iconst X105.here hx rfl (hb hby own_d8_13) k) ?_
  refine own_by (g' := (mkF m 15 #[.val (.ref y1), .val (.ref y2), .val (.ref y3)] [(.ref y3), (.int (2 : Int32)), (.ref b101), (.ref b101)])) (fun t k => XS.aloadN X105.here hx rfl (hb hby own_d8_14) rfl rfl k) ?_
  obtain ⟨c108, Ar108, q108, S108, G108, H108, F108⟩ := id V107
  have hin108 : ¬ ((2 : Int32) < 0 ∨ c108.slots.size ≤ ((2 : Int32)).toNatClampNeg) := inb_of S108 ⟨by decide, by decide⟩
  have f109 := (((EY3.ext E101).wr W102).wr W105)
  obtain ⟨T108, h108, X108, e108, W108, st108⟩ := stR X105 hx hZ e105 Ar108 (j := (2 : Int32)) hin108 rfl (Sto.ofV Ar108 q108 O101 (Ins.of_exa f109 (hw _ (List.mem_of_getElem? (i := 54) rfl)))) (g := (mkF m 15 #[.val (.ref y1), .val (.ref y2), .val (.ref y3)] [(.ref y3), (.int (2 : Int32)), (.ref b101), (.ref b101)])) rfl rfl (hb hby own_d8_15)
  have V110 : Arv Z h108 b101 k101 (.object "java/lang/Object") (3 : Int32) [(.ref y1), (.ref y2), (.ref y3)] .null := Arv.set Ar108 q108 S108 G108 H108 F108 rfl W108 2 rfl (Nat.le_of_ble_eq_true rfl)
  have N108 := Fr.snoc X108 N105 g_b101
  refine own_by (g' := (mkF m 16 #[.val (.ref y1), .val (.ref y2), .val (.ref y3)] [(.ref b101)])) st108 ?_
  have f111 := ((((O0.ext E101).wr W102 g_b101).wr W105 g_b101).wr W108 g_b101)
  refine own_callS X108 hx hZ hown (hw _ (List.mem_of_getElem? (i := 55) rfl)) (hw _ (List.mem_of_getElem? (i := 56) rfl)) (hw _ (List.mem_of_getElem? (i := 57) rfl)) (hw _ (List.mem_of_getElem? (i := 58) rfl)) (by decide) (own_lta l Z a0 hw [] (b101) (k101) (y1) (y2) (y3) h108 n0 (Nat.le_trans Z0 (Nat.le_trans (Nat.le_trans (Nat.le_trans E101.1 (Nat.le_of_eq W102.size.symm)) (Nat.le_of_eq W105.size.symm)) (Nat.le_of_eq W108.size.symm))) f111 S_ad V110) 0 (by decide) (by decide) (by decide) (by decide) e108 (g := (mkF m 16 #[.val (.ref y1), .val (.ref y2), .val (.ref y3)] [(.ref b101)])) rfl (by rw [hml]; rfl) (argsL := [(.ref b101)]) (rest := []) (lenOf own_pd4 rfl) rfl (by show 2 * 0 + _ ≤ _; exact Nat.le_of_eq rfl) (hb hby own_d8_16) ?_
  intro v112 T112 L112 X112 q112
  obtain ⟨bo112, rfl, N112q, K112, f113, f114, f115⟩ := q112
  have N112 := Fr.app N108 N112q
  show own_Goes p e below s _ _ _ T112 (mkF m 19 #[.val (.ref y1), .val (.ref y2), .val (.ref y3)] [(.ref bo112)])
  have f116 := (V110.keep K112 nin0)
  refine own_retA X112 hx hlk hret rfl rfl (hb hby own_d8_19) (by decide) (by decide) ?_
  exact ⟨bo112, b101, k101, rfl, N112, ((((((Keep.refl h0 []).ext E101).wr W102 (Or.inr sz_b101)).wr W105 (Or.inr sz_b101)).wr W108 (Or.inr sz_b101)).trans K112 all0), (Nat.le_trans (Nat.le_trans (Nat.le_trans (Nat.le_trans E101.1 (Nat.le_of_eq W102.size.symm)) (Nat.le_of_eq W105.size.symm)) (Nat.le_of_eq W108.size.symm)) f113), f114, f115, f116⟩
theorem own_d4_0 : decode prog_29_method_3_code 0 = .ok (.aload_n 0, 1) := by decide +kernel
theorem own_d4_1 : decode prog_29_method_3_code 1 = .ok (.getfield 7, 3) := by decide +kernel
theorem own_d4_4 : decode prog_29_method_3_code 4 = .ok (.invokestatic 30, 3) := by decide +kernel
theorem own_pd5 : parseMethodDescriptor "(J)Ljava/lang/Long;" = some ⟨[.long], some (.object "java/lang/Long")⟩ := by decide +kernel
theorem own_d4_7 : decode prog_29_method_3_code 7 = .ok (.aload_n 0, 1) := by decide +kernel
theorem own_d4_8 : decode prog_29_method_3_code 8 = .ok (.getfield 13, 3) := by decide +kernel
theorem own_d4_11 : decode prog_29_method_3_code 11 = .ok (.invokestatic 30, 3) := by decide +kernel
theorem own_d4_14 : decode prog_29_method_3_code 14 = .ok (.aload_n 0, 1) := by decide +kernel
theorem own_d4_15 : decode prog_29_method_3_code 15 = .ok (.getfield 16, 3) := by decide +kernel
theorem own_d4_18 : decode prog_29_method_3_code 18 = .ok (.invokestatic 30, 3) := by decide +kernel
theorem own_d4_21 : decode prog_29_method_3_code 21 = .ok (.invokestatic 36, 3) := by decide +kernel
theorem own_pd6 : parseMethodDescriptor "(Ljava/lang/Object;Ljava/lang/Object;Ljava/lang/Object;)Ljava/util/List;" = some ⟨[(.object "java/lang/Object"), (.object "java/lang/Object"), (.object "java/lang/Object")], some (.object "java/util/List")⟩ := by decide +kernel
theorem own_d4_24 : decode prog_29_method_3_code 24 = .ok (.areturn, 1) := by decide +kernel
def Q_own_vals (Z : State) (r1 : Addr) (q1 : Int64) (q2 : Int64) (q3 : Int64) (zc : Addr) (h0 : Heap) (n0 : Nat) (v : Option Value) (h : Heap) (L : List Loc) : Prop := ∃ (bo : Addr), ∃ (ba : Addr), ∃ (kk : ClassId), ∃ (y1 : Addr), ∃ (y2 : Addr), ∃ (y3 : Addr), v = some (.ref bo) ∧ Fr n0 L ∧ Keep h0 h [] ∧ Exa Z h bo "java/util/ImmutableCollections$ListN" ∧ Fld Z h bo "java/util/ImmutableCollections$ListN" "elements" "[Ljava/lang/Object;" (.ref ba) ∧ Arv Z h ba kk (.object "java/lang/Object") (3 : Int32) [(.ref y1), (.ref y2), (.ref y3)] .null ∧ Exa Z h y1 "java/lang/Long" ∧ Exa Z h y2 "java/lang/Long" ∧ Exa Z h y3 "java/lang/Long" ∧ Fld Z h y1 "java/lang/Long" "value" "J" (.long q1) ∧ Fld Z h y2 "java/lang/Long" "value" "J" (.long q2) ∧ Fld Z h y3 "java/lang/Long" "value" "J" (.long q3)
theorem own_ef_own_vals (m : MethodId) (r1 : Addr) : entryFrame m #[(.ref r1)] 1 = mkF m 0 #[.val (.ref r1)] [] := by first | (simp [entryFrame, mkF, argsToLocals, Value.category]; done) | rfl
set_option maxRecDepth 65536 in
set_option maxHeartbeats 40000000 in
theorem own_vals (l : Launch) (Z : State) (a0 : Array Value) (hw : ∀ d ∈ tables_1, d.before a0 Z = true) (ws : List Jvm.Cond) (r1 : Addr) (q1 : Int64) (q2 : Int64) (q3 : Int64) (zc : Addr) (h0 : Heap) (n0 : Nat) (Z0 : n0 ≤ h0.size) (O0 : Old Z n0 h0) (S_cache : Sta Z Z.heap "java/lang/Long$LongCache" "cache" "[Ljava/lang/Long;" (.ref zc)) (hLC : own_LCache Z zc) (S_ad : Sta Z Z.heap "java/util/ImmutableCollections" "$assertionsDisabled" "Z" (.int (1 : Int32))) (F1 : Fld Z h0 r1 (site_8.cls) "first" "J" (.long q1)) (F2 : Fld Z h0 r1 (site_8.cls) "second" "J" (.long q2)) (F3 : Fld Z h0 r1 (site_8.cls) "third" "J" (.long q3)) :
    own_Ctr l Z (⟨(site_8.cls), "values", "()Ljava/util/List;"⟩ : MethodName) prog_29_method_3_code 1 (some (.object "java/util/List")) ws ({ frames := 7, cells := 5, slots := 8, locals := 93 } : Room) (({ frames := 7, cells := 5, slots := 8, locals := 93 } : Room)).cells (({ frames := 7, cells := 5, slots := 8, locals := 93 } : Room)).slots #[(.ref r1)] h0 (Q_own_vals Z r1 q1 q2 q3 zc h0 n0) := by
  refine own_enter (plainFor_of_name own_pn3) ?_
  intro p e s m below meth c s₁ X0 hx hZ hby hml hown hnm hlk hret e0
  have N0 := Fr.nil n0
  refine own_cast (own_ef_own_vals m r1) ?_
  refine own_by (g' := (mkF m 1 #[.val (.ref r1)] [(.ref r1)])) (fun t k => XS.aloadN X0.here hx rfl (hb hby own_d4_0) rfl rfl k) ?_
  obtain ⟨T101, X101, e101, st101⟩ := getF X0 hx hZ hown (host := "") (Or.inl (hw _ (List.mem_of_getElem? (i := 14) rfl))) Via.refl e0 F1 (g := (mkF m 1 #[.val (.ref r1)] [(.ref r1)])) rfl rfl (hb hby own_d4_1)
  refine own_by (g' := (mkF m 4 #[.val (.ref r1)] [(.long q1)])) st101 ?_
  refine own_callS X101 hx hZ hown (hw _ (List.mem_of_getElem? (i := 25) rfl)) (hw _ (List.mem_of_getElem? (i := 26) rfl)) (hw _ (List.mem_of_getElem? (i := 27) rfl)) (hw _ (List.mem_of_getElem? (i := 28) rfl)) (by decide) (own_valueOf l Z a0 hw [] (q1) (zc) h0 n0 Z0 O0 S_cache (by first | assumption | decide)) 0 (by decide) (by decide) (by decide) (by decide) e101 (g := (mkF m 4 #[.val (.ref r1)] [(.long q1)])) rfl (by rw [hml]; rfl) (argsL := [(.long q1)]) (rest := []) (lenOf own_pd5 rfl) rfl (by show 2 * 0 + _ ≤ _; exact Nat.le_of_eq rfl) (hb hby own_d4_4) ?_
  intro v102 T102 L102 X102 q102
  obtain ⟨bo102, rfl, N102q, K102, f103, f104⟩ := q102
  have N102 := Fr.app N0 N102q
  show own_Goes p e below s _ _ _ T102 (mkF m 7 #[.val (.ref r1)] [(.ref bo102)])
  refine own_by (g' := (mkF m 8 #[.val (.ref r1)] [(.ref r1), (.ref bo102)])) (fun t k => XS.aloadN X102.here hx rfl (hb hby own_d4_7) rfl rfl k) ?_
  have f105 := (F2.keep K102 nin0)
  obtain ⟨T106, X106, e106, st106⟩ := getF X102 hx hZ hown (host := "") (Or.inl (hw _ (List.mem_of_getElem? (i := 16) rfl))) Via.refl rfl f105 (g := (mkF m 8 #[.val (.ref r1)] [(.ref r1), (.ref bo102)])) rfl rfl (hb hby own_d4_8)
  refine own_by (g' := (mkF m 11 #[.val (.ref r1)] [(.long q2), (.ref bo102)])) st106 ?_
  have f107 := (O0.keep K102 all0)
  refine own_callS X106 hx hZ hown (hw _ (List.mem_of_getElem? (i := 25) rfl)) (hw _ (List.mem_of_getElem? (i := 26) rfl)) (hw _ (List.mem_of_getElem? (i := 27) rfl)) (hw _ (List.mem_of_getElem? (i := 28) rfl)) (by decide) (own_valueOf l Z a0 hw [] (q2) (zc) T102.heap n0 (Nat.le_trans Z0 K102.1) f107 S_cache (by first | assumption | decide)) 1 (by decide) (by decide) (by decide) (by decide) e106 (g := (mkF m 11 #[.val (.ref r1)] [(.long q2), (.ref bo102)])) rfl (by rw [hml]; rfl) (argsL := [(.long q2)]) (rest := [(.ref bo102)]) (lenOf own_pd5 rfl) rfl (by show 2 * 0 + _ ≤ _; exact Nat.le_of_eq rfl) (hb hby own_d4_11) ?_
  intro v108 T108 L108 X108 q108
  obtain ⟨bo108, rfl, N108q, K108, f109, f110⟩ := q108
  have N108 := Fr.app N102 N108q
  show own_Goes p e below s _ _ _ T108 (mkF m 14 #[.val (.ref r1)] [(.ref bo108), (.ref bo102)])
  refine own_by (g' := (mkF m 15 #[.val (.ref r1)] [(.ref r1), (.ref bo108), (.ref bo102)])) (fun t k => XS.aloadN X108.here hx rfl (hb hby own_d4_14) rfl rfl k) ?_
  have f111 := ((F3.keep K102 nin0).keep K108 nin0)
  obtain ⟨T112, X112, e112, st112⟩ := getF X108 hx hZ hown (host := "") (Or.inl (hw _ (List.mem_of_getElem? (i := 18) rfl))) Via.refl rfl f111 (g := (mkF m 15 #[.val (.ref r1)] [(.ref r1), (.ref bo108), (.ref bo102)])) rfl rfl (hb hby own_d4_15)
  refine own_by (g' := (mkF m 18 #[.val (.ref r1)] [(.long q3), (.ref bo108), (.ref bo102)])) st112 ?_
  have f113 := (f107.keep K108 all0)
  refine own_callS X112 hx hZ hown (hw _ (List.mem_of_getElem? (i := 25) rfl)) (hw _ (List.mem_of_getElem? (i := 26) rfl)) (hw _ (List.mem_of_getElem? (i := 27) rfl)) (hw _ (List.mem_of_getElem? (i := 28) rfl)) (by decide) (own_valueOf l Z a0 hw [] (q3) (zc) T108.heap n0 (Nat.le_trans Z0 (Nat.le_trans K102.1 K108.1)) f113 S_cache (by first | assumption | decide)) 2 (by decide) (by decide) (by decide) (by decide) e112 (g := (mkF m 18 #[.val (.ref r1)] [(.long q3), (.ref bo108), (.ref bo102)])) rfl (by rw [hml]; rfl) (argsL := [(.long q3)]) (rest := [(.ref bo108), (.ref bo102)]) (lenOf own_pd5 rfl) rfl (by show 2 * 0 + _ ≤ _; exact Nat.le_of_eq rfl) (hb hby own_d4_18) ?_
  intro v114 T114 L114 X114 q114
  obtain ⟨bo114, rfl, N114q, K114, f115, f116⟩ := q114
  have N114 := Fr.app N108 N114q
  show own_Goes p e below s _ _ _ T114 (mkF m 21 #[.val (.ref r1)] [(.ref bo114), (.ref bo108), (.ref bo102)])
  have f117 := (f113.keep K114 all0)
  have f118 := ((f103.keep K108).keep K114)
  have f119 := (f109.keep K114)
  refine own_callS X114 hx hZ hown (hw _ (List.mem_of_getElem? (i := 48) rfl)) (hw _ (List.mem_of_getElem? (i := 49) rfl)) (hw _ (List.mem_of_getElem? (i := 50) rfl)) (hw _ (List.mem_of_getElem? (i := 51) rfl)) (by decide) (own_of l Z a0 hw [] (bo102) (bo108) (bo114) T114.heap n0 (Nat.le_trans Z0 (Nat.le_trans (Nat.le_trans K102.1 K108.1) K114.1)) f117 S_ad f118 f119 f115) 0 (by decide) (by decide) (by decide) (by decide) rfl (g := (mkF m 21 #[.val (.ref r1)] [(.ref bo114), (.ref bo108), (.ref bo102)])) rfl (by rw [hml]; rfl) (argsL := [(.ref bo102), (.ref bo108), (.ref bo114)]) (rest := []) (lenOf own_pd6 rfl) rfl (by show 2 * 0 + _ ≤ _; exact Nat.le_of_eq rfl) (hb hby own_d4_21) ?_
  intro v120 T120 L120 X120 q120
  obtain ⟨bo120, ba120, kk120, rfl, N120q, K120, f121, f122, f123, f124⟩ := q120
  have N120 := Fr.app N114 N120q
  show own_Goes p e below s _ _ _ T120 (mkF m 24 #[.val (.ref r1)] [(.ref bo120)])
  have f125 := (f118.keep K120)
  have f126 := (f119.keep K120)
  have f127 := (f115.keep K120)
  have f128 := (((f104.keep K108 nin0).keep K114 nin0).keep K120 nin0)
  have f129 := ((f110.keep K114 nin0).keep K120 nin0)
  have f130 := (f116.keep K120 nin0)
  refine own_retA X120 hx hlk hret rfl rfl (hb hby own_d4_24) (by decide) (by decide) ?_
  exact ⟨bo120, ba120, kk120, bo102, bo108, bo114, rfl, N120, (((((Keep.refl h0 []).trans K102 all0).trans K108 all0).trans K114 all0).trans K120 all0), f122, f123, f124, f125, f126, f127, f128, f129, f130⟩
theorem own_d15_0 : decode jdk_45_method_3_code 0 = .ok (.aload_n 0, 1) := by decide +kernel
theorem own_d15_1 : decode jdk_45_method_3_code 1 = .ok (.getfield 7, 3) := by decide +kernel
theorem own_d15_4 : decode jdk_45_method_3_code 4 = .ok (.arraylength, 1) := by decide +kernel
theorem own_d15_5 : decode jdk_45_method_3_code 5 = .ok (.ireturn, 1) := by decide +kernel
def Q_own_size (Z : State) (r1 : Addr) (r2 : Addr) (kk : ClassId) (y1 : Addr) (y2 : Addr) (y3 : Addr) (h0 : Heap) (n0 : Nat) (v : Option Value) (h : Heap) (L : List Loc) : Prop := v = some (.int (3 : Int32)) ∧ Fr n0 L ∧ h = h0
theorem own_ef_own_size (m : MethodId) (r1 : Addr) : entryFrame m #[(.ref r1)] 1 = mkF m 0 #[.val (.ref r1)] [] := by first | (simp [entryFrame, mkF, argsToLocals, Value.category]; done) | rfl
set_option maxRecDepth 65536 in
set_option maxHeartbeats 40000000 in
theorem own_size (l : Launch) (Z : State) (a0 : Array Value) (hw : ∀ d ∈ tables_1, d.before a0 Z = true) (ws : List Jvm.Cond) (r1 : Addr) (r2 : Addr) (kk : ClassId) (y1 : Addr) (y2 : Addr) (y3 : Addr) (h0 : Heap) (n0 : Nat) (Z0 : n0 ≤ h0.size) (F1 : Fld Z h0 r1 "java/util/ImmutableCollections$ListN" "elements" "[Ljava/lang/Object;" (.ref r2)) (V1 : Arv Z h0 r2 kk (.object "java/lang/Object") (3 : Int32) [(.ref y1), (.ref y2), (.ref y3)] .null) :
    own_Ctr l Z (⟨"java/util/ImmutableCollections$ListN", "size", "()I"⟩ : MethodName) jdk_45_method_3_code 1 (some .int) ws ({ frames := 0, cells := 0, slots := 0, locals := 0 } : Room) (({ frames := 0, cells := 0, slots := 0, locals := 0 } : Room)).cells (({ frames := 0, cells := 0, slots := 0, locals := 0 } : Room)).slots #[(.ref r1)] h0 (Q_own_size Z r1 r2 kk y1 y2 y3 h0 n0) := by
  refine own_enter (plainFor_of_name own_pn8) ?_
  intro p e s m below meth c s₁ X0 hx hZ hby hml hown hnm hlk hret e0
  have N0 := Fr.nil n0
  refine own_cast (own_ef_own_size m r1) ?_
  refine own_by (g' := (mkF m 1 #[.val (.ref r1)] [(.ref r1)])) (fun t k => XS.aloadN X0.here hx rfl (hb hby own_d15_0) rfl rfl k) ?_
  obtain ⟨T101, X101, e101, st101⟩ := getF X0 hx hZ hown (host := "") (Or.inl (hw _ (List.mem_of_getElem? (i := 90) rfl))) Via.refl e0 F1 (g := (mkF m 1 #[.val (.ref r1)] [(.ref r1)])) rfl rfl (hb hby own_d15_1)
  refine own_by (g' := (mkF m 4 #[.val (.ref r1)] [(.ref r2)])) st101 ?_
  obtain ⟨c102, Ar102, -, S102, G102, -, -⟩ := id V1
  refine own_by (g' := (mkF m 5 #[.val (.ref r1)] [(.int (3 : Int32))])) (fun t k => X101.arraylength hx (by rw [e101]; exact Ar102.1) (State.isArrayOf_alike hZ.alike Ar102.2.1) (g := (mkF m 4 #[.val (.ref r1)] [(.ref r2)])) rfl rfl (hb hby own_d15_4) t (by rw [len_of S102 G102]; exact k)) ?_
  refine own_retI X101 hx hlk hret (hb hby own_d15_5) (by decide) (by decide) ?_
  exact ⟨rfl, N0, e101⟩
theorem own_d16_0 : decode jdk_45_method_4_code 0 = .ok (.aload_n 0, 1) := by decide +kernel
theorem own_d16_1 : decode jdk_45_method_4_code 1 = .ok (.getfield 7, 3) := by decide +kernel
theorem own_d16_4 : decode jdk_45_method_4_code 4 = .ok (.iload_n 1, 1) := by decide +kernel
theorem own_d16_5 : decode jdk_45_method_4_code 5 = .ok (.aaload, 1) := by decide +kernel
theorem own_d16_6 : decode jdk_45_method_4_code 6 = .ok (.areturn, 1) := by decide +kernel
def Q_own_get0 (Z : State) (r1 : Addr) (r2 : Addr) (kk : ClassId) (y1 : Addr) (y2 : Addr) (y3 : Addr) (h0 : Heap) (n0 : Nat) (v : Option Value) (h : Heap) (L : List Loc) : Prop := v = some (.ref y1) ∧ Fr n0 L ∧ h = h0
theorem own_ef_own_get0 (m : MethodId) (r1 : Addr) : entryFrame m #[(.ref r1), (.int (0 : Int32))] 2 = mkF m 0 #[.val (.ref r1), .val (.int (0 : Int32))] [] := by first | (simp [entryFrame, mkF, argsToLocals, Value.category]; done) | rfl
set_option maxRecDepth 65536 in
set_option maxHeartbeats 40000000 in
theorem own_get0 (l : Launch) (Z : State) (a0 : Array Value) (hw : ∀ d ∈ tables_1, d.before a0 Z = true) (ws : List Jvm.Cond) (r1 : Addr) (r2 : Addr) (kk : ClassId) (y1 : Addr) (y2 : Addr) (y3 : Addr) (h0 : Heap) (n0 : Nat) (Z0 : n0 ≤ h0.size) (F1 : Fld Z h0 r1 "java/util/ImmutableCollections$ListN" "elements" "[Ljava/lang/Object;" (.ref r2)) (V1 : Arv Z h0 r2 kk (.object "java/lang/Object") (3 : Int32) [(.ref y1), (.ref y2), (.ref y3)] .null) :
    own_Ctr l Z (⟨"java/util/ImmutableCollections$ListN", "get", "(I)Ljava/lang/Object;"⟩ : MethodName) jdk_45_method_4_code 2 (some (.object "java/lang/Object")) ws ({ frames := 0, cells := 0, slots := 0, locals := 0 } : Room) (({ frames := 0, cells := 0, slots := 0, locals := 0 } : Room)).cells (({ frames := 0, cells := 0, slots := 0, locals := 0 } : Room)).slots #[(.ref r1), (.int (0 : Int32))] h0 (Q_own_get0 Z r1 r2 kk y1 y2 y3 h0 n0) := by
  refine own_enter (plainFor_of_name own_pn8) ?_
  intro p e s m below meth c s₁ X0 hx hZ hby hml hown hnm hlk hret e0
  have N0 := Fr.nil n0
  refine own_cast (own_ef_own_get0 m r1) ?_
  refine own_by (g' := (mkF m 1 #[.val (.ref r1), .val (.int (0 : Int32))] [(.ref r1)])) (fun t k => XS.aloadN X0.here hx rfl (hb hby own_d16_0) rfl rfl k) ?_
  obtain ⟨T101, X101, e101, st101⟩ := getF X0 hx hZ hown (host := "") (Or.inl (hw _ (List.mem_of_getElem? (i := 90) rfl))) Via.refl e0 F1 (g := (mkF m 1 #[.val (.ref r1), .val (.int (0 : Int32))] [(.ref r1)])) rfl rfl (hb hby own_d16_1)
  refine own_by (g' := (mkF m 4 #[.val (.ref r1), .val (.int (0 : Int32))] [(.ref r2)])) st101 ?_
  refine own_by (g' := (mkF m 5 #[.val (.ref r1), .val (.int (0 : Int32))] [(.int (0 : Int32)), (.ref r2)])) (fun t k => XS.iloadN X101.here hx rfl (hb hby own_d16_4) rfl k) ?_
  obtain ⟨c102, Ar102, q102, S102, G102, H102, F102⟩ := id V1
  have hin102 : ¬ ((0 : Int32) < 0 ∨ c102.slots.size ≤ ((0 : Int32)).toNatClampNeg) := inb_of S102 ⟨by decide, by decide⟩
  have hat102 : c102.slots[((0 : Int32)).toNatClampNeg]? = some (.ref y1) := H102.at hin102 rfl
  refine own_by (g' := (mkF m 6 #[.val (.ref r1), .val (.int (0 : Int32))] [(.ref y1)])) (fun t k => X101.aaload hx (j := (0 : Int32)) (v := (.ref y1)) (by rw [e101]; exact Ar102.1) (State.isArrayOf_alike hZ.alike Ar102.2.1) rfl Ar102.2.2 hin102 hat102 (g := (mkF m 5 #[.val (.ref r1), .val (.int (0 : Int32))] [(.int (0 : Int32)), (.ref r2)])) rfl rfl (hb hby own_d16_5) t k) ?_
  refine own_retA X101 hx hlk hret rfl rfl (hb hby own_d16_6) (by decide) (by decide) ?_
  exact ⟨rfl, N0, e101⟩
def Q_own_get1 (Z : State) (r1 : Addr) (r2 : Addr) (kk : ClassId) (y1 : Addr) (y2 : Addr) (y3 : Addr) (h0 : Heap) (n0 : Nat) (v : Option Value) (h : Heap) (L : List Loc) : Prop := v = some (.ref y2) ∧ Fr n0 L ∧ h = h0
theorem own_ef_own_get1 (m : MethodId) (r1 : Addr) : entryFrame m #[(.ref r1), (.int (1 : Int32))] 2 = mkF m 0 #[.val (.ref r1), .val (.int (1 : Int32))] [] := by first | (simp [entryFrame, mkF, argsToLocals, Value.category]; done) | rfl
set_option maxRecDepth 65536 in
set_option maxHeartbeats 40000000 in
theorem own_get1 (l : Launch) (Z : State) (a0 : Array Value) (hw : ∀ d ∈ tables_1, d.before a0 Z = true) (ws : List Jvm.Cond) (r1 : Addr) (r2 : Addr) (kk : ClassId) (y1 : Addr) (y2 : Addr) (y3 : Addr) (h0 : Heap) (n0 : Nat) (Z0 : n0 ≤ h0.size) (F1 : Fld Z h0 r1 "java/util/ImmutableCollections$ListN" "elements" "[Ljava/lang/Object;" (.ref r2)) (V1 : Arv Z h0 r2 kk (.object "java/lang/Object") (3 : Int32) [(.ref y1), (.ref y2), (.ref y3)] .null) :
    own_Ctr l Z (⟨"java/util/ImmutableCollections$ListN", "get", "(I)Ljava/lang/Object;"⟩ : MethodName) jdk_45_method_4_code 2 (some (.object "java/lang/Object")) ws ({ frames := 0, cells := 0, slots := 0, locals := 0 } : Room) (({ frames := 0, cells := 0, slots := 0, locals := 0 } : Room)).cells (({ frames := 0, cells := 0, slots := 0, locals := 0 } : Room)).slots #[(.ref r1), (.int (1 : Int32))] h0 (Q_own_get1 Z r1 r2 kk y1 y2 y3 h0 n0) := by
  refine own_enter (plainFor_of_name own_pn8) ?_
  intro p e s m below meth c s₁ X0 hx hZ hby hml hown hnm hlk hret e0
  have N0 := Fr.nil n0
  refine own_cast (own_ef_own_get1 m r1) ?_
  refine own_by (g' := (mkF m 1 #[.val (.ref r1), .val (.int (1 : Int32))] [(.ref r1)])) (fun t k => XS.aloadN X0.here hx rfl (hb hby own_d16_0) rfl rfl k) ?_
  obtain ⟨T101, X101, e101, st101⟩ := getF X0 hx hZ hown (host := "") (Or.inl (hw _ (List.mem_of_getElem? (i := 90) rfl))) Via.refl e0 F1 (g := (mkF m 1 #[.val (.ref r1), .val (.int (1 : Int32))] [(.ref r1)])) rfl rfl (hb hby own_d16_1)
  refine own_by (g' := (mkF m 4 #[.val (.ref r1), .val (.int (1 : Int32))] [(.ref r2)])) st101 ?_
  refine own_by (g' := (mkF m 5 #[.val (.ref r1), .val (.int (1 : Int32))] [(.int (1 : Int32)), (.ref r2)])) (fun t k => XS.iloadN X101.here hx rfl (hb hby own_d16_4) rfl k) ?_
  obtain ⟨c102, Ar102, q102, S102, G102, H102, F102⟩ := id V1
  have hin102 : ¬ ((1 : Int32) < 0 ∨ c102.slots.size ≤ ((1 : Int32)).toNatClampNeg) := inb_of S102 ⟨by decide, by decide⟩
  have hat102 : c102.slots[((1 : Int32)).toNatClampNeg]? = some (.ref y2) := H102.at hin102 rfl
  refine own_by (g' := (mkF m 6 #[.val (.ref r1), .val (.int (1 : Int32))] [(.ref y2)])) (fun t k => X101.aaload hx (j := (1 : Int32)) (v := (.ref y2)) (by rw [e101]; exact Ar102.1) (State.isArrayOf_alike hZ.alike Ar102.2.1) rfl Ar102.2.2 hin102 hat102 (g := (mkF m 5 #[.val (.ref r1), .val (.int (1 : Int32))] [(.int (1 : Int32)), (.ref r2)])) rfl rfl (hb hby own_d16_5) t k) ?_
  refine own_retA X101 hx hlk hret rfl rfl (hb hby own_d16_6) (by decide) (by decide) ?_
  exact ⟨rfl, N0, e101⟩
def Q_own_get2 (Z : State) (r1 : Addr) (r2 : Addr) (kk : ClassId) (y1 : Addr) (y2 : Addr) (y3 : Addr) (h0 : Heap) (n0 : Nat) (v : Option Value) (h : Heap) (L : List Loc) : Prop := v = some (.ref y3) ∧ Fr n0 L ∧ h = h0
theorem own_ef_own_get2 (m : MethodId) (r1 : Addr) : entryFrame m #[(.ref r1), (.int (2 : Int32))] 2 = mkF m 0 #[.val (.ref r1), .val (.int (2 : Int32))] [] := by first | (simp [entryFrame, mkF, argsToLocals, Value.category]; done) | rfl
set_option maxRecDepth 65536 in
set_option maxHeartbeats 40000000 in
theorem own_get2 (l : Launch) (Z : State) (a0 : Array Value) (hw : ∀ d ∈ tables_1, d.before a0 Z = true) (ws : List Jvm.Cond) (r1 : Addr) (r2 : Addr) (kk : ClassId) (y1 : Addr) (y2 : Addr) (y3 : Addr) (h0 : Heap) (n0 : Nat) (Z0 : n0 ≤ h0.size) (F1 : Fld Z h0 r1 "java/util/ImmutableCollections$ListN" "elements" "[Ljava/lang/Object;" (.ref r2)) (V1 : Arv Z h0 r2 kk (.object "java/lang/Object") (3 : Int32) [(.ref y1), (.ref y2), (.ref y3)] .null) :
    own_Ctr l Z (⟨"java/util/ImmutableCollections$ListN", "get", "(I)Ljava/lang/Object;"⟩ : MethodName) jdk_45_method_4_code 2 (some (.object "java/lang/Object")) ws ({ frames := 0, cells := 0, slots := 0, locals := 0 } : Room) (({ frames := 0, cells := 0, slots := 0, locals := 0 } : Room)).cells (({ frames := 0, cells := 0, slots := 0, locals := 0 } : Room)).slots #[(.ref r1), (.int (2 : Int32))] h0 (Q_own_get2 Z r1 r2 kk y1 y2 y3 h0 n0) := by
  refine own_enter (plainFor_of_name own_pn8) ?_
  intro p e s m below meth c s₁ X0 hx hZ hby hml hown hnm hlk hret e0
  have N0 := Fr.nil n0
  refine own_cast (own_ef_own_get2 m r1) ?_
  refine own_by (g' := (mkF m 1 #[.val (.ref r1), .val (.int (2 : Int32))] [(.ref r1)])) (fun t k => XS.aloadN X0.here hx rfl (hb hby own_d16_0) rfl rfl k) ?_
  obtain ⟨T101, X101, e101, st101⟩ := getF X0 hx hZ hown (host := "") (Or.inl (hw _ (List.mem_of_getElem? (i := 90) rfl))) Via.refl e0 F1 (g := (mkF m 1 #[.val (.ref r1), .val (.int (2 : Int32))] [(.ref r1)])) rfl rfl (hb hby own_d16_1)
  refine own_by (g' := (mkF m 4 #[.val (.ref r1), .val (.int (2 : Int32))] [(.ref r2)])) st101 ?_
  refine own_by (g' := (mkF m 5 #[.val (.ref r1), .val (.int (2 : Int32))] [(.int (2 : Int32)), (.ref r2)])) (fun t k => XS.iloadN X101.here hx rfl (hb hby own_d16_4) rfl k) ?_
  obtain ⟨c102, Ar102, q102, S102, G102, H102, F102⟩ := id V1
  have hin102 : ¬ ((2 : Int32) < 0 ∨ c102.slots.size ≤ ((2 : Int32)).toNatClampNeg) := inb_of S102 ⟨by decide, by decide⟩
  have hat102 : c102.slots[((2 : Int32)).toNatClampNeg]? = some (.ref y3) := H102.at hin102 rfl
  refine own_by (g' := (mkF m 6 #[.val (.ref r1), .val (.int (2 : Int32))] [(.ref y3)])) (fun t k => X101.aaload hx (j := (2 : Int32)) (v := (.ref y3)) (by rw [e101]; exact Ar102.1) (State.isArrayOf_alike hZ.alike Ar102.2.1) rfl Ar102.2.2 hin102 hat102 (g := (mkF m 5 #[.val (.ref r1), .val (.int (2 : Int32))] [(.int (2 : Int32)), (.ref r2)])) rfl rfl (hb hby own_d16_5) t k) ?_
  refine own_retA X101 hx hlk hret rfl rfl (hb hby own_d16_6) (by decide) (by decide) ?_
  exact ⟨rfl, N0, e101⟩
theorem own_pn11 : plainName (x.cls) = true := by first | (simp [plainName, overriddenIn]; done) | decide +kernel
theorem own_pd7 : parseMethodDescriptor "(JJJ)V" = some ⟨[.long, .long, .long], none⟩ := by decide +kernel
theorem own_pd8 : parseMethodDescriptor "()Ljava/util/List;" = some ⟨[], some (.object "java/util/List")⟩ := by decide +kernel
theorem own_pd9 : parseMethodDescriptor "()I" = some ⟨[], some .int⟩ := by decide +kernel
theorem own_pd10 : parseMethodDescriptor "(I)Ljava/lang/Object;" = some ⟨[.int], some (.object "java/lang/Object")⟩ := by decide +kernel
theorem own_pd11 : parseMethodDescriptor "()J" = some ⟨[], some .long⟩ := by decide +kernel
def Q_own_law (Z : State) (q1 : Int64) (q2 : Int64) (q3 : Int64) (zc : Addr) (h0 : Heap) (n0 : Nat) (v : Option Value) (h : Heap) (L : List Loc) : Prop := v = some (.int (1 : Int32)) ∧ Fr n0 L ∧ Keep h0 h []
theorem own_ef_own_law (m : MethodId) (q1 : Int64) (q2 : Int64) (q3 : Int64) : entryFrame m #[(.long q1), (.long q2), (.long q3)] maxLocals = mkF m 0 #[.val (.long q1), .second, .val (.long q2), .second, .val (.long q3), .second, .unset, .unset] [] := by first | (simp [entryFrame, mkF, argsToLocals, Value.category, maxLocals]; done) | rfl
set_option maxRecDepth 65536 in
set_option maxHeartbeats 40000000 in
theorem own_law (l : Launch) (Z : State) (a0 : Array Value) (hw : ∀ d ∈ tables_1, d.before a0 Z = true) (ws : List Jvm.Cond) (q1 : Int64) (q2 : Int64) (q3 : Int64) (zc : Addr) (h0 : Heap) (n0 : Nat) (Z0 : n0 ≤ h0.size) (O0 : Old Z n0 h0) (S_cache : Sta Z Z.heap "java/lang/Long$LongCache" "cache" "[Ljava/lang/Long;" (.ref zc)) (hLC : own_LCache Z zc) (S_ad : Sta Z Z.heap "java/util/ImmutableCollections" "$assertionsDisabled" "Z" (.int (1 : Int32))) :
    own_Ctr l Z x code maxLocals ret ws room_1 6 11 #[(.long q1), (.long q2), (.long q3)] h0 (Q_own_law Z q1 q2 q3 zc h0 n0) := by
  refine own_enter (plainFor_of_name own_pn11) ?_
  intro p e s m below meth c s₁ X0 hx hZ hby hml hown hnm hlk hret e0
  have N0 := Fr.nil n0
  refine own_cast (own_ef_own_law m q1 q2 q3) ?_
  obtain ⟨T101, h101, X101, e101, E101, A101, D101, U101, st101⟩ := newO X0 hx hZ hown (hw _ (List.mem_of_getElem? (i := 0) rfl)) (hw _ (List.mem_of_getElem? (i := 1) rfl)) (hw _ (List.mem_of_getElem? (i := 2) rfl)) e0 (g := (mkF m 0 #[.val (.long q1), .second, .val (.long q2), .second, .val (.long q3), .second, .unset, .unset] [])) rfl (hb hby at_0) (by decide) (by decide)
  obtain ⟨b101, g101⟩ : ∃ z, z = h0.size := ⟨_, rfl⟩
  rw [← g101] at A101 D101 U101 st101
  have sz_b101 : h0.size ≤ b101 := Nat.le_trans (Nat.le_refl _) (Nat.le_of_eq g101.symm)
  have g_b101 : n0 ≤ b101 := Nat.le_trans Z0 sz_b101
  have f102 : Fld Z h101 b101 (site_8.cls) "first" "J" (.long (0 : Int64)) := D101 (Or.inr (hw _ (List.mem_of_getElem? (i := 15) rfl))) (ty := .long) (by decide)
  have f103 : Fld Z h101 b101 (site_8.cls) "second" "J" (.long (0 : Int64)) := D101 (Or.inr (hw _ (List.mem_of_getElem? (i := 17) rfl))) (ty := .long) (by decide)
  have f104 : Fld Z h101 b101 (site_8.cls) "third" "J" (.long (0 : Int64)) := D101 (Or.inr (hw _ (List.mem_of_getElem? (i := 19) rfl))) (ty := .long) (by decide)
  refine own_by (g' := (mkF m 3 #[.val (.long q1), .second, .val (.long q2), .second, .val (.long q3), .second, .unset, .unset] [(.ref b101)])) st101 ?_
  refine own_by (g' := (mkF m 4 #[.val (.long q1), .second, .val (.long q2), .second, .val (.long q3), .second, .unset, .unset] [(.ref b101), (.ref b101)])) (fun t k => XS.dup X101.here hx rfl (hb hby at_3) rfl rfl k) ?_
  refine own_by (g' := (mkF m 5 #[.val (.long q1), .second, .val (.long q2), .second, .val (.long q3), .second, .unset, .unset] [(.long q1), (.ref b101), (.ref b101)])) (fun t k => XS.lloadN X101.here hx rfl (hb hby at_4) rfl k) ?_
  refine own_by (g' := (mkF m 6 #[.val (.long q1), .second, .val (.long q2), .second, .val (.long q3), .second, .unset, .unset] [(.long q2), (.long q1), (.ref b101), (.ref b101)])) (fun t k => XS.lloadN X101.here hx rfl (hb hby at_5) rfl k) ?_
  refine own_by (g' := (mkF m 8 #[.val (.long q1), .second, .val (.long q2), .second, .val (.long q3), .second, .unset, .unset] [(.long q3), (.long q2), (.long q1), (.ref b101), (.ref b101)])) (fun t k => XS.lload X101.here hx rfl (hb hby at_6) rfl k) ?_
  refine own_callI X101 hx hZ hown rfl (hw _ (List.mem_of_getElem? (i := 3) rfl)) (hw _ (List.mem_of_getElem? (i := 4) rfl)) (hw _ (List.mem_of_getElem? (i := 2) rfl)) (hw _ (List.mem_of_getElem? (i := 5) rfl)) (by decide) (a := b101) (own_ini l Z a0 hw [] (b101) (q1) (q2) (q3) h101 n0 (Nat.le_trans Z0 E101.1) A101 f102 f103 f104 g_b101) 1 (by decide) (by decide) (by decide) (by decide) e101 (g := (mkF m 8 #[.val (.long q1), .second, .val (.long q2), .second, .val (.long q3), .second, .unset, .unset] [(.long q3), (.long q2), (.long q1), (.ref b101), (.ref b101)])) rfl (by rw [hml]; rfl) (argsL := [(.long q1), (.long q2), (.long q3)]) (rest := [(.ref b101)]) (lenOf own_pd7 rfl) rfl (by show 2 * 0 + _ ≤ _; exact Nat.le_of_eq rfl) (hb hby at_8) ?_
  intro v105 T105 L105 X105 q105
  obtain ⟨rfl, N105q, K105, f106, f107, f108, f109⟩ := q105
  have N105 := Fr.app N0 N105q
  show own_Goes p e below s _ _ _ T105 (mkF m 11 #[.val (.long q1), .second, .val (.long q2), .second, .val (.long q3), .second, .unset, .unset] [(.ref b101)])
  refine own_by (g' := (mkF m 13 #[.val (.long q1), .second, .val (.long q2), .second, .val (.long q3), .second, .val (.ref b101), .unset] [])) (fun t k => XS.astore X105.here hx rfl (hb hby at_11) rfl rfl (l' := #[.val (.long q1), .second, .val (.long q2), .second, .val (.long q3), .second, .val (.ref b101), .unset]) rfl k) ?_
  refine own_by (g' := (mkF m 15 #[.val (.long q1), .second, .val (.long q2), .second, .val (.long q3), .second, .val (.ref b101), .unset] [(.ref b101)])) (fun t k => XS.aload X105.here hx rfl (hb hby at_13) rfl rfl k) ?_
  have f110 := ((O0.ext E101).keep K105 (allS g_b101 all0))
  refine own_callV X105 hx hZ hown (hw _ (List.mem_of_getElem? (i := 20) rfl)) (hw _ (List.mem_of_getElem? (i := 21) rfl)) (notFace_of_selects (args := #[]) (mvT hZ (hw _ (List.mem_of_getElem? (i := 23) rfl)))) (hw _ (List.mem_of_getElem? (i := 23) rfl)) (hw _ (List.mem_of_getElem? (i := 22) rfl)) (hw _ (List.mem_of_getElem? (i := 24) rfl)) (hw _ (List.mem_of_getElem? (i := 2) rfl)) (by decide) (a := b101) f106 (own_vals l Z a0 hw [] (b101) (q1) (q2) (q3) (zc) T105.heap n0 (Nat.le_trans Z0 (Nat.le_trans E101.1 K105.1)) f110 S_cache (by first | assumption | decide) S_ad f107 f108 f109) 0 (by decide) (by decide) (by decide) (by decide) rfl (g := (mkF m 15 #[.val (.long q1), .second, .val (.long q2), .second, .val (.long q3), .second, .val (.ref b101), .unset] [(.ref b101)])) rfl (by rw [hml]; rfl) (argsL := []) (rest := []) (lenOf own_pd8 rfl) rfl (by show 2 * 0 + _ ≤ _; exact Nat.le_of_eq rfl) (hb hby at_15) ?_
  intro v111 T111 L111 X111 q111
  obtain ⟨bo111, ba111, kk111, y1111, y2111, y3111, rfl, N111q, K111, f112, f113, f114, f115, f116, f117, f118, f119, f120⟩ := q111
  have N111 := Fr.app N105 N111q
  show own_Goes p e below s _ _ _ T111 (mkF m 18 #[.val (.long q1), .second, .val (.long q2), .second, .val (.long q3), .second, .val (.ref b101), .unset] [(.ref bo111)])
  refine own_by (g' := (mkF m 20 #[.val (.long q1), .second, .val (.long q2), .second, .val (.long q3), .second, .val (.ref b101), .val (.ref bo111)] [])) (fun t k => XS.astore X111.here hx rfl (hb hby at_18) rfl rfl (l' := #[.val (.long q1), .second, .val (.long q2), .second, .val (.long q3), .second, .val (.ref b101), .val (.ref bo111)]) rfl k) ?_
  refine own_by (g' := (mkF m 22 #[.val (.long q1), .second, .val (.long q2), .second, .val (.long q3), .second, .val (.ref b101), .val (.ref bo111)] [(.ref bo111)])) (fun t k => XS.aload X111.here hx rfl (hb hby at_20) rfl rfl k) ?_
  refine own_callF X111 hx hZ hown (hw _ (List.mem_of_getElem? (i := 94) rfl)) (hw _ (List.mem_of_getElem? (i := 95) rfl)) (hw _ (List.mem_of_getElem? (i := 96) rfl)) (hw _ (List.mem_of_getElem? (i := 97) rfl)) (hw _ (List.mem_of_getElem? (i := 98) rfl)) (hw _ (List.mem_of_getElem? (i := 99) rfl)) (hw _ (List.mem_of_getElem? (i := 100) rfl)) (hw _ (List.mem_of_getElem? (i := 101) rfl)) (hw _ (List.mem_of_getElem? (i := 102) rfl)) (hw _ (List.mem_of_getElem? (i := 66) rfl)) (by decide) (a := bo111) f112 (own_size l Z a0 hw [] (bo111) (ba111) (kk111) (y1111) (y2111) (y3111) T111.heap n0 (Nat.le_trans Z0 (Nat.le_trans (Nat.le_trans E101.1 K105.1) K111.1)) f113 f114) 0 (by decide) (by decide) (by decide) (by decide) rfl (g := (mkF m 22 #[.val (.long q1), .second, .val (.long q2), .second, .val (.long q3), .second, .val (.ref b101), .val (.ref bo111)] [(.ref bo111)])) rfl (by rw [hml]; rfl) (argsL := []) (rest := []) (lenOf own_pd9 rfl) rfl (by show 2 * 0 + _ ≤ _; exact Nat.le_of_eq rfl) (hb hby at_22) ?_
  intro v121 T121 L121 X121 q121
  obtain ⟨rfl, N121q, e121⟩ := q121
  have N121 := Fr.app N111 N121q
  show own_Goes p e below s _ _ _ T121 (mkF m 27 #[.val (.long q1), .second, .val (.long q2), .second, .val (.long q3), .second, .val (.ref b101), .val (.ref bo111)] [(.int (3 : Int32))])
  refine own_by (g' := (mkF m 28 #[.val (.long q1), .second, .val (.long q2), .second, .val (.long q3), .second, .val (.ref b101), .val (.ref bo111)] [(.int (3 : Int32)), (.int (3 : Int32))])) (fun t k => XS.iconst X121.here hx rfl (hb hby at_27) k) ?_
  refine own_by (g' := (mkF m 33 #[.val (.long q1), .second, .val (.long q2), .second, .val (.long q3), .second, .val (.ref b101), .val (.ref bo111)] [])) (fun t k => XS.icmpYes X121.here hx rfl (pc0 := 28) (pc' := 33) rfl (hb hby at_28) rfl (teq (by decide : (3 : Int32) = (3 : Int32))).1 (by decide) (by decide) k) ?_
  refine own_by (g' := (mkF m 35 #[.val (.long q1), .second, .val (.long q2), .second, .val (.long q3), .second, .val (.ref b101), .val (.ref bo111)] [(.ref bo111)])) (fun t k => XS.aload X121.here hx rfl (hb hby at_33) rfl rfl k) ?_
  refine own_by (g' := (mkF m 36 #[.val (.long q1), .second, .val (.long q2), .second, .val (.long q3), .second, .val (.ref b101), .val (.ref bo111)] [(.int (0 : Int32)), (.ref bo111)])) (fun t k => XS.iconst X121.here hx rfl (hb hby at_35) k) ?_
  refine own_callF X121 hx hZ hown (hw _ (List.mem_of_getElem? (i := 103) rfl)) (hw _ (List.mem_of_getElem? (i := 104) rfl)) (hw _ (List.mem_of_getElem? (i := 105) rfl)) (hw _ (List.mem_of_getElem? (i := 106) rfl)) (hw _ (List.mem_of_getElem? (i := 107) rfl)) (hw _ (List.mem_of_getElem? (i := 108) rfl)) (hw _ (List.mem_of_getElem? (i := 109) rfl)) (hw _ (List.mem_of_getElem? (i := 101) rfl)) (hw _ (List.mem_of_getElem? (i := 110) rfl)) (hw _ (List.mem_of_getElem? (i := 66) rfl)) (by decide) (a := bo111) f112 (own_get0 l Z a0 hw [] (bo111) (ba111) (kk111) (y1111) (y2111) (y3111) T111.heap n0 (Nat.le_trans Z0 (Nat.le_trans (Nat.le_trans E101.1 K105.1) K111.1)) f113 f114) 0 (by decide) (by decide) (by decide) (by decide) e121 (g := (mkF m 36 #[.val (.long q1), .second, .val (.long q2), .second, .val (.long q3), .second, .val (.ref b101), .val (.ref bo111)] [(.int (0 : Int32)), (.ref bo111)])) rfl (by rw [hml]; rfl) (argsL := [(.int (0 : Int32))]) (rest := []) (lenOf own_pd10 rfl) rfl (by show 2 * 0 + _ ≤ _; exact Nat.le_of_eq rfl) (hb hby at_36) ?_
  intro v122 T122 L122 X122 q122
  obtain ⟨rfl, N122q, e122⟩ := q122
  have N122 := Fr.app N121 N122q
  show own_Goes p e below s _ _ _ T122 (mkF m 41 #[.val (.long q1), .second, .val (.long q2), .second, .val (.long q3), .second, .val (.ref b101), .val (.ref bo111)] [(.ref y1111)])
  obtain ⟨T123, X123, e123, st123⟩ := castY X122 hx hZ hown (hw _ (List.mem_of_getElem? (i := 111) rfl)) e122 (Ins.self f115) (g := (mkF m 41 #[.val (.long q1), .second, .val (.long q2), .second, .val (.long q3), .second, .val (.ref b101), .val (.ref bo111)] [(.ref y1111)])) rfl rfl (hb hby at_41)
  refine own_by (g' := (mkF m 44 #[.val (.long q1), .second, .val (.long q2), .second, .val (.long q3), .second, .val (.ref b101), .val (.ref bo111)] [(.ref y1111)])) st123 ?_
  refine own_callV X123 hx hZ hown (hw _ (List.mem_of_getElem? (i := 112) rfl)) (hw _ (List.mem_of_getElem? (i := 113) rfl)) (notFace_of_selects (args := #[]) (mvT hZ (hw _ (List.mem_of_getElem? (i := 115) rfl)))) (hw _ (List.mem_of_getElem? (i := 115) rfl)) (hw _ (List.mem_of_getElem? (i := 114) rfl)) (hw _ (List.mem_of_getElem? (i := 116) rfl)) (hw _ (List.mem_of_getElem? (i := 27) rfl)) (by decide) (a := y1111) f115 (own_longValue l Z a0 hw [] (y1111) (q1) T111.heap n0 (Nat.le_trans Z0 (Nat.le_trans (Nat.le_trans E101.1 K105.1) K111.1)) f118) 0 (by decide) (by decide) (by decide) (by decide) e123 (g := (mkF m 44 #[.val (.long q1), .second, .val (.long q2), .second, .val (.long q3), .second, .val (.ref b101), .val (.ref bo111)] [(.ref y1111)])) rfl (by rw [hml]; rfl) (argsL := []) (rest := []) (lenOf own_pd11 rfl) rfl (by show 2 * 0 + _ ≤ _; exact Nat.le_of_eq rfl) (hb hby at_44) ?_
  intro v124 T124 L124 X124 q124
  obtain ⟨rfl, N124q, e124⟩ := q124
  have N124 := Fr.app N122 N124q
  show own_Goes p e below s _ _ _ T124 (mkF m 47 #[.val (.long q1), .second, .val (.long q2), .second, .val (.long q3), .second, .val (.ref b101), .val (.ref bo111)] [(.long q1)])
  refine own_by (g' := (mkF m 48 #[.val (.long q1), .second, .val (.long q2), .second, .val (.long q3), .second, .val (.ref b101), .val (.ref bo111)] [(.long q1), (.long q1)])) (fun t k => XS.lloadN X124.here hx rfl (hb hby at_47) rfl k) ?_
  refine own_by (g' := (mkF m 49 #[.val (.long q1), .second, .val (.long q2), .second, .val (.long q3), .second, .val (.ref b101), .val (.ref bo111)] [(.int (lcmpW q1 q1))])) (fun t k => XS.lcmp X124.here hx rfl (hb hby at_48) rfl k) ?_
  refine own_by (g' := (mkF m 52 #[.val (.long q1), .second, .val (.long q2), .second, .val (.long q3), .second, .val (.ref b101), .val (.ref bo111)] [])) (fun t k => XS.ifNo X124.here hx rfl (hb hby at_49) rfl ((if0 _ _).trans (teq ((lw_eq q1 q1).mpr (rfl : q1 = q1))).2) k) ?_
  refine own_by (g' := (mkF m 54 #[.val (.long q1), .second, .val (.long q2), .second, .val (.long q3), .second, .val (.ref b101), .val (.ref bo111)] [(.ref bo111)])) (fun t k => XS.aload X124.here hx rfl (hb hby at_52) rfl rfl k) ?_
  refine own_by (g' := (mkF m 55 #[.val (.long q1), .second, .val (.long q2), .second, .val (.long q3), .second, .val (.ref b101), .val (.ref bo111)] [(.int (1 : Int32)), (.ref bo111)])) (fun t k => XS.iconst X124.here hx rfl (hb hby at_54) k) ?_
  refine own_callF X124 hx hZ hown (hw _ (List.mem_of_getElem? (i := 103) rfl)) (hw _ (List.mem_of_getElem? (i := 104) rfl)) (hw _ (List.mem_of_getElem? (i := 105) rfl)) (hw _ (List.mem_of_getElem? (i := 106) rfl)) (hw _ (List.mem_of_getElem? (i := 107) rfl)) (hw _ (List.mem_of_getElem? (i := 108) rfl)) (hw _ (List.mem_of_getElem? (i := 109) rfl)) (hw _ (List.mem_of_getElem? (i := 101) rfl)) (hw _ (List.mem_of_getElem? (i := 110) rfl)) (hw _ (List.mem_of_getElem? (i := 66) rfl)) (by decide) (a := bo111) f112 (own_get1 l Z a0 hw [] (bo111) (ba111) (kk111) (y1111) (y2111) (y3111) T111.heap n0 (Nat.le_trans Z0 (Nat.le_trans (Nat.le_trans E101.1 K105.1) K111.1)) f113 f114) 0 (by decide) (by decide) (by decide) (by decide) e124 (g := (mkF m 55 #[.val (.long q1), .second, .val (.long q2), .second, .val (.long q3), .second, .val (.ref b101), .val (.ref bo111)] [(.int (1 : Int32)), (.ref bo111)])) rfl (by rw [hml]; rfl) (argsL := [(.int (1 : Int32))]) (rest := []) (lenOf own_pd10 rfl) rfl (by show 2 * 0 + _ ≤ _; exact Nat.le_of_eq rfl) (hb hby at_55) ?_
  intro v125 T125 L125 X125 q125
  obtain ⟨rfl, N125q, e125⟩ := q125
  have N125 := Fr.app N124 N125q
  show own_Goes p e below s _ _ _ T125 (mkF m 60 #[.val (.long q1), .second, .val (.long q2), .second, .val (.long q3), .second, .val (.ref b101), .val (.ref bo111)] [(.ref y2111)])
  obtain ⟨T126, X126, e126, st126⟩ := castY X125 hx hZ hown (hw _ (List.mem_of_getElem? (i := 111) rfl)) e125 (Ins.self f116) (g := (mkF m 60 #[.val (.long q1), .second, .val (.long q2), .second, .val (.long q3), .second, .val (.ref b101), .val (.ref bo111)] [(.ref y2111)])) rfl rfl (hb hby at_60)
  refine own_by (g' := (mkF m 63 #[.val (.long q1), .second, .val (.long q2), .second, .val (.long q3), .second, .val (.ref b101), .val (.ref bo111)] [(.ref y2111)])) st126 ?_
  refine own_callV X126 hx hZ hown (hw _ (List.mem_of_getElem? (i := 112) rfl)) (hw _ (List.mem_of_getElem? (i := 113) rfl)) (notFace_of_selects (args := #[]) (mvT hZ (hw _ (List.mem_of_getElem? (i := 115) rfl)))) (hw _ (List.mem_of_getElem? (i := 115) rfl)) (hw _ (List.mem_of_getElem? (i := 114) rfl)) (hw _ (List.mem_of_getElem? (i := 116) rfl)) (hw _ (List.mem_of_getElem? (i := 27) rfl)) (by decide) (a := y2111) f116 (own_longValue l Z a0 hw [] (y2111) (q2) T111.heap n0 (Nat.le_trans Z0 (Nat.le_trans (Nat.le_trans E101.1 K105.1) K111.1)) f119) 0 (by decide) (by decide) (by decide) (by decide) e126 (g := (mkF m 63 #[.val (.long q1), .second, .val (.long q2), .second, .val (.long q3), .second, .val (.ref b101), .val (.ref bo111)] [(.ref y2111)])) rfl (by rw [hml]; rfl) (argsL := []) (rest := []) (lenOf own_pd11 rfl) rfl (by show 2 * 0 + _ ≤ _; exact Nat.le_of_eq rfl) (hb hby at_63) ?_
  intro v127 T127 L127 X127 q127
  obtain ⟨rfl, N127q, e127⟩ := q127
  have N127 := Fr.app N125 N127q
  show own_Goes p e below s _ _ _ T127 (mkF m 66 #[.val (.long q1), .second, .val (.long q2), .second, .val (.long q3), .second, .val (.ref b101), .val (.ref bo111)] [(.long q2)])
  refine own_by (g' := (mkF m 67 #[.val (.long q1), .second, .val (.long q2), .second, .val (.long q3), .second, .val (.ref b101), .val (.ref bo111)] [(.long q2), (.long q2)])) (fun t k => XS.lloadN X127.here hx rfl (hb hby at_66) rfl k) ?_
  refine own_by (g' := (mkF m 68 #[.val (.long q1), .second, .val (.long q2), .second, .val (.long q3), .second, .val (.ref b101), .val (.ref bo111)] [(.int (lcmpW q2 q2))])) (fun t k => XS.lcmp X127.here hx rfl (hb hby at_67) rfl k) ?_
  refine own_by (g' := (mkF m 71 #[.val (.long q1), .second, .val (.long q2), .second, .val (.long q3), .second, .val (.ref b101), .val (.ref bo111)] [])) (fun t k => XS.ifNo X127.here hx rfl (hb hby at_68) rfl ((if0 _ _).trans (teq ((lw_eq q2 q2).mpr (rfl : q2 = q2))).2) k) ?_
  refine own_by (g' := (mkF m 73 #[.val (.long q1), .second, .val (.long q2), .second, .val (.long q3), .second, .val (.ref b101), .val (.ref bo111)] [(.ref bo111)])) (fun t k => XS.aload X127.here hx rfl (hb hby at_71) rfl rfl k) ?_
  refine own_by (g' := (mkF m 74 #[.val (.long q1), .second, .val (.long q2), .second, .val (.long q3), .second, .val (.ref b101), .val (.ref bo111)] [(.int (2 : Int32)), (.ref bo111)])) (fun t k => XS.iconst X127.here hx rfl (hb hby at_73) k) ?_
  refine own_callF X127 hx hZ hown (hw _ (List.mem_of_getElem? (i := 103) rfl)) (hw _ (List.mem_of_getElem? (i := 104) rfl)) (hw _ (List.mem_of_getElem? (i := 105) rfl)) (hw _ (List.mem_of_getElem? (i := 106) rfl)) (hw _ (List.mem_of_getElem? (i := 107) rfl)) (hw _ (List.mem_of_getElem? (i := 108) rfl)) (hw _ (List.mem_of_getElem? (i := 109) rfl)) (hw _ (List.mem_of_getElem? (i := 101) rfl)) (hw _ (List.mem_of_getElem? (i := 110) rfl)) (hw _ (List.mem_of_getElem? (i := 66) rfl)) (by decide) (a := bo111) f112 (own_get2 l Z a0 hw [] (bo111) (ba111) (kk111) (y1111) (y2111) (y3111) T111.heap n0 (Nat.le_trans Z0 (Nat.le_trans (Nat.le_trans E101.1 K105.1) K111.1)) f113 f114) 0 (by decide) (by decide) (by decide) (by decide) e127 (g := (mkF m 74 #[.val (.long q1), .second, .val (.long q2), .second, .val (.long q3), .second, .val (.ref b101), .val (.ref bo111)] [(.int (2 : Int32)), (.ref bo111)])) rfl (by rw [hml]; rfl) (argsL := [(.int (2 : Int32))]) (rest := []) (lenOf own_pd10 rfl) rfl (by show 2 * 0 + _ ≤ _; exact Nat.le_of_eq rfl) (hb hby at_74) ?_
  intro v128 T128 L128 X128 q128
  obtain ⟨rfl, N128q, e128⟩ := q128
  have N128 := Fr.app N127 N128q
  show own_Goes p e below s _ _ _ T128 (mkF m 79 #[.val (.long q1), .second, .val (.long q2), .second, .val (.long q3), .second, .val (.ref b101), .val (.ref bo111)] [(.ref y3111)])
  obtain ⟨T129, X129, e129, st129⟩ := castY X128 hx hZ hown (hw _ (List.mem_of_getElem? (i := 111) rfl)) e128 (Ins.self f117) (g := (mkF m 79 #[.val (.long q1), .second, .val (.long q2), .second, .val (.long q3), .second, .val (.ref b101), .val (.ref bo111)] [(.ref y3111)])) rfl rfl (hb hby at_79)
  refine own_by (g' := (mkF m 82 #[.val (.long q1), .second, .val (.long q2), .second, .val (.long q3), .second, .val (.ref b101), .val (.ref bo111)] [(.ref y3111)])) st129 ?_
  refine own_callV X129 hx hZ hown (hw _ (List.mem_of_getElem? (i := 112) rfl)) (hw _ (List.mem_of_getElem? (i := 113) rfl)) (notFace_of_selects (args := #[]) (mvT hZ (hw _ (List.mem_of_getElem? (i := 115) rfl)))) (hw _ (List.mem_of_getElem? (i := 115) rfl)) (hw _ (List.mem_of_getElem? (i := 114) rfl)) (hw _ (List.mem_of_getElem? (i := 116) rfl)) (hw _ (List.mem_of_getElem? (i := 27) rfl)) (by decide) (a := y3111) f117 (own_longValue l Z a0 hw [] (y3111) (q3) T111.heap n0 (Nat.le_trans Z0 (Nat.le_trans (Nat.le_trans E101.1 K105.1) K111.1)) f120) 0 (by decide) (by decide) (by decide) (by decide) e129 (g := (mkF m 82 #[.val (.long q1), .second, .val (.long q2), .second, .val (.long q3), .second, .val (.ref b101), .val (.ref bo111)] [(.ref y3111)])) rfl (by rw [hml]; rfl) (argsL := []) (rest := []) (lenOf own_pd11 rfl) rfl (by show 2 * 0 + _ ≤ _; exact Nat.le_of_eq rfl) (hb hby at_82) ?_
  intro v130 T130 L130 X130 q130
  obtain ⟨rfl, N130q, e130⟩ := q130
  have N130 := Fr.app N128 N130q
  show own_Goes p e below s _ _ _ T130 (mkF m 85 #[.val (.long q1), .second, .val (.long q2), .second, .val (.long q3), .second, .val (.ref b101), .val (.ref bo111)] [(.long q3)])
  refine own_by (g' := (mkF m 87 #[.val (.long q1), .second, .val (.long q2), .second, .val (.long q3), .second, .val (.ref b101), .val (.ref bo111)] [(.long q3), (.long q3)])) (fun t k => XS.lload X130.here hx rfl (hb hby at_85) rfl k) ?_
  refine own_by (g' := (mkF m 88 #[.val (.long q1), .second, .val (.long q2), .second, .val (.long q3), .second, .val (.ref b101), .val (.ref bo111)] [(.int (lcmpW q3 q3))])) (fun t k => XS.lcmp X130.here hx rfl (hb hby at_87) rfl k) ?_
  refine own_by (g' := (mkF m 91 #[.val (.long q1), .second, .val (.long q2), .second, .val (.long q3), .second, .val (.ref b101), .val (.ref bo111)] [])) (fun t k => XS.ifNo X130.here hx rfl (hb hby at_88) rfl ((if0 _ _).trans (teq ((lw_eq q3 q3).mpr (rfl : q3 = q3))).2) k) ?_
  refine own_by (g' := (mkF m 92 #[.val (.long q1), .second, .val (.long q2), .second, .val (.long q3), .second, .val (.ref b101), .val (.ref bo111)] [(.int (1 : Int32))])) (fun t k => XS.iconst X130.here hx rfl (hb hby at_91) k) ?_
  refine own_by (g' := (mkF m 96 #[.val (.long q1), .second, .val (.long q2), .second, .val (.long q3), .second, .val (.ref b101), .val (.ref bo111)] [(.int (1 : Int32))])) (fun t k => XS.goto X130.here hx rfl (pc0 := 92) (pc' := 96) rfl (hb hby at_92) (by decide) (by decide) k) ?_
  refine own_retN X130 hx hlk hret (t := .boolean) (by simp) (hb hby at_96) (by decide) (by decide) ?_
  rw [e130]
  exact ⟨rfl, N130, ((((Keep.refl h0 []).ext E101).trans K105 (allS (Or.inr sz_b101) all0)).trans K111 all0)⟩
theorem own_staI {args : Array Value} {s : State} {C n d : String} {z : Int32} (h1 : (Cond.initializedFor C n d).before args s = true) (h2 : (Cond.eq (Term.static C n d) (Term.int z)).before args s = true) : Sta s s.heap C n d (.int z) := by
  have h := Cond.before_iff.mp h2
  obtain ⟨x, y, q1, q2, k1, k2⟩ := cmp_v (Or.inl h)
  have q3 : y = .int z := (Option.some.inj q2).symm
  subst q3
  obtain ⟨w, rfl⟩ := k2
  have h4 := own_eqI q1 q2
  have r := gotT h4 h
  subst r
  exact Sta.start q1 (Or.inl h1)
set_option maxRecDepth 65536 in
set_option maxHeartbeats 40000000 in
theorem comes_1 {Post : Tables → Env → Array Value → State → Outcome → State → Prop} (hpost : ∀ tb e args s v u, (limb_1_1.after args s (.returned v) u = true ∧ limb_1_2.after args s (.returned v) u = true ∧ True) → FrameEnd s (.returned v) u (Jvm.fieldLocs frame_1_writes args s ++ Jvm.arrayLocs frame_1_arrays args s ++ Jvm.staticLocs frame_1_statics s) 24 128 → Post tb e args s (.returned v) u) :
    ArmFor flags0 classFile x code maxLocals ret World_1 tables_1 room_1 Calls_1 rest_1 Pre_1 Post := by
  intro l hfl _ _ p e ha hc hk s m args below hf hA hF happ hP
  obtain ⟨hcalls, hrest, hpre⟩ := hP
  obtain ⟨-, -, -, hnamed, -, -, -, hat⟩ := (Spec.applies_iff hf).mp happ
  obtain ⟨hg, hn⟩ := and_e (Cond.before_iff.mp (show (Jvm.Cond.and given_1 narrow_1).before args s = true from hpre))
  obtain ⟨ga1, gb1⟩ := and_e hg
  obtain ⟨ga2, gb2⟩ := and_e gb1
  obtain ⟨ga3, gb3⟩ := and_e gb2
  obtain ⟨w0, w1, w2, rfl⟩ : ∃ w0 w1 w2 : Value, args = #[w0, w1, w2] := by
    have hs : args.size = 3 := by simpa [Cond.value, given_1] using ga1
    obtain ⟨L⟩ := args
    match L, hs with
    | [w0, w1, w2], _ => exact ⟨w0, w1, w2, rfl⟩
  have hw := fun d (hd : d ∈ tables_1) => atoms_spec (ws := Jvm.Cond.code x code maxLocals ret :: tables_1) hat d (List.mem_cons_of_mem _ hd)
  have hfit : Fit s := fun {y c} hc i hi => by
    obtain ⟨ha, rfl⟩ := Array.getElem?_eq_some_iff.mp hc
    have q := List.all_eq_true.mp ((Array.all_eq_true_iff_forall_mem.mp hF) _ (Array.getElem_mem ha)) i (List.mem_range.mpr hi)
    simpa [Array.getElem?_eq_getElem hi] using q
  obtain ⟨hsets, hown0⟩ := atoms_of _ (rest_1_c_eq ▸ (show rest_1_c.before _ s = true from hrest))
  have hr0 := Cond.before_iff.mp hown0
  obtain ⟨i0, ei0⟩ := isL_v ga2
  obtain rfl : w0 = (.long i0) := Option.some.inj ei0
  obtain ⟨i1, ei1⟩ := isL_v ga3
  obtain rfl : w1 = (.long i1) := Option.some.inj ei1
  obtain ⟨i2, ei2⟩ := isL_v gb3
  obtain rfl : w2 = (.long i2) := Option.some.inj ei2
  obtain ⟨zc, St_cache, hLC0⟩ := own_lcache (hsets _ (List.mem_of_getElem? (i := 1) rfl)) (hsets _ (List.mem_of_getElem? (i := 2) rfl)) (hsets _ (List.mem_of_getElem? (i := 4) rfl)) (hsets _ (List.mem_of_getElem? (i := 5) rfl))
  obtain ⟨n, o, h1, h2, h3, _, L, rfl, ⟨rfl, N, -⟩, hq⟩ := own_law l s _ hw tables_1 i0 i1 i2 (zc) s.heap s.heap.size (Nat.le_refl _) (Old.start s) St_cache hLC0 (own_staI (hsets _ (List.mem_of_getElem? (i := 10) rfl)) (hsets _ (List.mem_of_getElem? (i := 11) rfl))) p e ha hc hk s m _ below hf ((Spec.applies_iff_loose hf).mp happ).1 ⟨rfl, State.Warmed39.refl s, rfl⟩ trivial
  exact ⟨n, _, h1, h2, h3, hpost _ _ _ _ _ _ ⟨Cond.after_iff.mpr rfl, Cond.after_iff.mpr (eq_i res_at (Term.int_eval (1)) rfl), trivial⟩ ⟨hq.1, hq.2.1, (hq.2.2.sift fun y hy => Or.inr (N y hy)).mono (by decide) (by decide)⟩⟩
theorem main_1_1 : Claimed_1_1 := comes_1 fun _ _ _ _ _ _ h hF => ⟨h.1, hF⟩
theorem main_1_2 : Claimed_1_2 := comes_1 fun _ _ _ _ _ _ h hF => ⟨h.2.1, hF⟩
end Jvm.Pilot.@@N@@
namespace Jvm.Pilot.@@N@@
open Jvm Jvm.ClassFile Sem Op Lib Jvm.Free Jvm.Stand Jvm.Pilot.@@N@@.Jvm.D
/-! MADE BY PROGRAM (witnessworld.py) out of the Statement's table words and the real class files: 29 classes; the members and pool entries that the words name. The judged class is class 1, her method 1. -/
namespace start1
open Jvm.ClassFile
def u (s : String) : CpInfo := .utf8 (stringToUtf16 s)
/-- a pool by its gaps: so many unusable entries, then the entry; so many at the end -/
def gap : Nat → List CpInfo → List CpInfo
  | 0, r => r
  | n + 1, r => .unusable :: gap n r
def poolList (es : List (Nat × CpInfo)) (last : Nat) : List CpInfo := es.foldr (fun e r => gap e.1 (e.2 :: r)) (gap last [])
def pool (es : List (Nat × CpInfo)) (last : Nat) : Array CpInfo := ⟨poolList es last⟩
def fileOf (pool : Array CpInfo) (this : Nat) (attrs : Array Attribute := #[]) (ms : Array MethodInfo := #[]) (fl : Nat := 33) (sup : Nat := 0) (ifs : Array Nat := #[]) (fds : Array FieldInfo := #[]) : ClassFile where
  minorVersion := 0
  majorVersion := 65
  constantPool := pool
  accessFlags := fl
  thisClass := this
  superClass := sup
  interfaces := ifs
  fields := fds
  methods := ms
  attributes := attrs
def plain (name : String) (sup : Option ClassId) : Class where
  name := name
  kind := .ordinary
  loader := none
  accessFlags := 33
  super := sup
  interfaces := #[]
  cf := none
  fields := #[]
  methods := #[]
  instanceTypes := #[]
  staticTypes := #[]
  resolved := #[]
  callSites := []
  init := .initialized
  statics := none
  mirror := none

def pool0 : Array CpInfo := pool [(5, u "<init>"), (0, u "()V"), (1, .class_ 10), (1, u "java/lang/Object")] 113

def k0c0 : Code := { maxStack := 0, maxLocals := 1, code := object_method_1_code, exceptionTable := #[], attributes := #[] }
def k0m0 : Method := { name := "<init>", desc := "()V", sig := { parameters := [], returnType := none }, accessFlags := 1, code := some k0c0 }
/-- java/lang/Object -/
def k0 : Class := { plain "java/lang/Object" none with
  accessFlags := 33
  interfaces := #[]
  cf := some (fileOf pool0 8 #[] #[{ accessFlags := 1, nameIndex := 5, descriptorIndex := 6, attributes := #[] }] 33 0 #[] #[])
  fields := #[]
  methods := #[k0m0]
  instanceTypes := #[]
  staticTypes := #[]
  resolved := Array.replicate 124 none
  statics := none }

def pool1 : Array CpInfo := pool [(2, .class_ 4), (1, u "java/lang/Object"), (0, u "<init>"), (0, u "()V"), (0, .class_ 8), (0, u (site_8.cls)), (0, .methodref 7 10), (0, .nameAndType 5 11), (0, u "(JJJ)V"), (0, .methodref 7 13), (0, .nameAndType 14 15), (0, u "values"), (0, u "()Ljava/util/List;"), (0, .interfaceMethodref 17 18), (0, .class_ 19), (0, .nameAndType 20 21), (0, u "java/util/List"), (0, u "size"), (0, u "()I"), (0, .interfaceMethodref 17 23), (0, .nameAndType 24 25), (0, u "get"), (0, u "(I)Ljava/lang/Object;"), (0, .class_ 27), (0, u "java/lang/Long"), (0, .methodref 26 29), (0, .nameAndType 30 31), (0, u "longValue"), (0, u "()J"), (0, .class_ 33), (0, u (x.cls)), (2, u "law"), (0, u "(JJJ)Z")] 3

def k1m0 : Method := { name := "<init>", desc := "()V", sig := { parameters := [], returnType := none }, accessFlags := 1, code := none }
def k1c1 : Code := { maxStack := 8, maxLocals := 8, code := code, exceptionTable := #[], attributes := #[] }
def k1m1 : Method := { name := "law", desc := "(JJJ)Z", sig := { parameters := [.long, .long, .long], returnType := some .boolean }, accessFlags := 9, code := some k1c1 }
def k1 : Class := { plain (x.cls) (some 0) with
  accessFlags := 49
  interfaces := #[]
  cf := some (fileOf pool1 32 #[] #[{ accessFlags := 1, nameIndex := 5, descriptorIndex := 6, attributes := #[] }, { accessFlags := 9, nameIndex := 36, descriptorIndex := 37, attributes := #[] }] 49 2 #[] #[])
  fields := #[]
  methods := #[k1m0, k1m1]
  instanceTypes := #[]
  staticTypes := #[]
  resolved := Array.replicate 41 none
  statics := none }

def pool2 : Array CpInfo := pool [(1, .methodref 2 3), (0, .class_ 4), (0, .nameAndType 5 6), (0, u "java/lang/Object"), (0, u "<init>"), (0, u "()V"), (0, .class_ 8), (0, u "java/lang/Record")] 13

def k2c0 : Code := { maxStack := 1, maxLocals := 1, code := jdk_30_method_1_code, exceptionTable := #[], attributes := #[] }
def k2m0 : Method := { name := "<init>", desc := "()V", sig := { parameters := [], returnType := none }, accessFlags := 4, code := some k2c0 }
/-- java/lang/Record -/
def k2 : Class := { plain "java/lang/Record" (some 0) with
  accessFlags := 1057
  interfaces := #[]
  cf := some (fileOf pool2 7 #[] #[{ accessFlags := 4, nameIndex := 5, descriptorIndex := 6, attributes := #[] }] 1057 2 #[] #[])
  fields := #[]
  methods := #[k2m0]
  instanceTypes := #[]
  staticTypes := #[]
  resolved := Array.replicate 22 none
  statics := none }

def pool3 : Array CpInfo := pool [(1, .methodref 2 3), (0, .class_ 4), (0, .nameAndType 5 6), (0, u "java/lang/Record"), (0, u "<init>"), (0, u "()V"), (0, .fieldref 8 9), (0, .class_ 10), (0, .nameAndType 11 12), (0, u (site_8.cls)), (0, u "first"), (0, u "J"), (0, .fieldref 8 14), (0, .nameAndType 15 12), (0, u "second"), (0, .fieldref 8 17), (0, .nameAndType 18 12), (0, u "third"), (10, u "(JJJ)V"), (0, .methodref 31 32), (0, .class_ 33), (0, .nameAndType 34 35), (0, u "java/lang/Long"), (0, u "valueOf"), (0, u "(J)Ljava/lang/Long;"), (0, .interfaceMethodref 37 38), (0, .class_ 39), (0, .nameAndType 40 41), (0, u "java/util/List"), (0, u "of"), (0, u "(Ljava/lang/Object;Ljava/lang/Object;Ljava/lang/Object;)Ljava/util/List;"), (42, u "FIRST_SEED"), (3, u "SECOND_SEED"), (0, u "THIRD_SEED"), (6, u "values"), (0, u "()Ljava/util/List;")] 29

def k3c0 : Code := { maxStack := 3, maxLocals := 7, code := prog_29_method_1_code, exceptionTable := #[], attributes := #[] }
def k3m0 : Method := { name := "<init>", desc := "(JJJ)V", sig := { parameters := [.long, .long, .long], returnType := none }, accessFlags := 1, code := some k3c0 }
def k3c1 : Code := { maxStack := 4, maxLocals := 1, code := prog_29_method_3_code, exceptionTable := #[], attributes := #[] }
def k3m1 : Method := { name := "values", desc := "()Ljava/util/List;", sig := { parameters := [], returnType := some (.object "java/util/List") }, accessFlags := 1, code := some k3c1 }
def k3 : Class := { plain (site_8.cls) (some 2) with
  accessFlags := 49
  interfaces := #[]
  cf := some (fileOf pool3 8 #[] #[{ accessFlags := 1, nameIndex := 5, descriptorIndex := 29, attributes := #[] }, { accessFlags := 1, nameIndex := 96, descriptorIndex := 97, attributes := #[] }] 49 2 #[] #[{ accessFlags := 18, nameIndex := 11, descriptorIndex := 12, attributes := #[] }, { accessFlags := 18, nameIndex := 15, descriptorIndex := 12, attributes := #[] }, { accessFlags := 18, nameIndex := 18, descriptorIndex := 12, attributes := #[] }, { accessFlags := 26, nameIndex := 84, descriptorIndex := 12, attributes := #[] }, { accessFlags := 26, nameIndex := 88, descriptorIndex := 12, attributes := #[] }, { accessFlags := 26, nameIndex := 89, descriptorIndex := 12, attributes := #[] }])
  fields := #[{ name := "first", type := .long, accessFlags := 18, slot := 0, constantValue := 0 }, { name := "second", type := .long, accessFlags := 18, slot := 1, constantValue := 0 }, { name := "third", type := .long, accessFlags := 18, slot := 2, constantValue := 0 }, { name := "FIRST_SEED", type := .long, accessFlags := 26, slot := 0, constantValue := 0 }, { name := "SECOND_SEED", type := .long, accessFlags := 26, slot := 1, constantValue := 0 }, { name := "THIRD_SEED", type := .long, accessFlags := 26, slot := 2, constantValue := 0 }]
  methods := #[k3m0, k3m1]
  instanceTypes := #[.long, .long, .long]
  staticTypes := #[.long, .long, .long]
  resolved := Array.replicate 127 none
  statics := none }

def pool4 : Array CpInfo := pool [(1, .class_ 2), (0, u "java/io/Serializable"), (0, .class_ 4), (0, u "java/lang/Object")] 2

/-- java/io/Serializable -/
def k4 : Class := { plain "java/io/Serializable" (some 0) with
  accessFlags := 1537
  interfaces := #[]
  cf := some (fileOf pool4 1 #[] #[] 1537 3 #[] #[])
  fields := #[]
  methods := #[]
  instanceTypes := #[]
  staticTypes := #[]
  resolved := Array.replicate 7 none
  statics := none }

def pool5 : Array CpInfo := pool [(1, .methodref 2 3), (0, .class_ 4), (0, .nameAndType 5 6), (0, u "java/lang/Object"), (0, u "<init>"), (0, u "()V"), (1, .class_ 10), (1, u "java/lang/Number"), (2, .class_ 14), (0, u "java/io/Serializable"), (0, u "serialVersionUID"), (0, u "J")] 20

def k5c0 : Code := { maxStack := 1, maxLocals := 1, code := jdk_18_method_1_code, exceptionTable := #[], attributes := #[] }
def k5m0 : Method := { name := "<init>", desc := "()V", sig := { parameters := [], returnType := none }, accessFlags := 1, code := some k5c0 }
/-- java/lang/Number -/
def k5 : Class := { plain "java/lang/Number" (some 0) with
  accessFlags := 1057
  interfaces := #[4]
  cf := some (fileOf pool5 8 #[] #[{ accessFlags := 1, nameIndex := 5, descriptorIndex := 6, attributes := #[] }] 1057 2 #[13] #[{ accessFlags := 26, nameIndex := 15, descriptorIndex := 16, attributes := #[] }])
  fields := #[{ name := "serialVersionUID", type := .long, accessFlags := 26, slot := 0, constantValue := 0 }]
  methods := #[k5m0]
  instanceTypes := #[]
  staticTypes := #[.long]
  resolved := Array.replicate 37 none
  statics := none }

def pool6 : Array CpInfo := pool [(1, .class_ 2), (0, u "java/lang/Comparable"), (0, .class_ 4), (0, u "java/lang/Object")] 7

/-- java/lang/Comparable -/
def k6 : Class := { plain "java/lang/Comparable" (some 0) with
  accessFlags := 1537
  interfaces := #[]
  cf := some (fileOf pool6 1 #[] #[] 1537 3 #[] #[])
  fields := #[]
  methods := #[]
  instanceTypes := #[]
  staticTypes := #[]
  resolved := Array.replicate 12 none
  statics := none }

def pool7 : Array CpInfo := pool [(1, .class_ 2), (0, u "java/lang/constant/Constable"), (0, .class_ 4), (0, u "java/lang/Object")] 6

/-- java/lang/constant/Constable -/
def k7 : Class := { plain "java/lang/constant/Constable" (some 0) with
  accessFlags := 1537
  interfaces := #[]
  cf := some (fileOf pool7 1 #[] #[] 1537 3 #[] #[])
  fields := #[]
  methods := #[]
  instanceTypes := #[]
  staticTypes := #[]
  resolved := Array.replicate 11 none
  statics := none }

def pool8 : Array CpInfo := pool [(1, .class_ 2), (0, u "java/lang/constant/ConstantDesc"), (0, .class_ 4), (0, u "java/lang/Object")] 32

/-- java/lang/constant/ConstantDesc -/
def k8 : Class := { plain "java/lang/constant/ConstantDesc" (some 0) with
  accessFlags := 1537
  interfaces := #[]
  cf := some (fileOf pool8 1 #[] #[] 1537 3 #[] #[])
  fields := #[]
  methods := #[]
  instanceTypes := #[]
  staticTypes := #[]
  resolved := Array.replicate 37 none
  statics := none }

def pool9 : Array CpInfo := pool [(1, .class_ 2), (0, u "java/lang/Long"), (55, .nameAndType 59 60), (0, u "<init>"), (0, u "()V"), (24, u "valueOf"), (143, u "(J)Ljava/lang/Long;"), (0, .long 18446744073709551488), (1, .long 127), (1, .fieldref 235 236), (0, .class_ 237), (0, .nameAndType 238 239), (0, u "java/lang/Long$LongCache"), (0, u "cache"), (0, u "[Ljava/lang/Long;"), (0, .methodref 1 241), (0, .nameAndType 59 242), (0, u "(J)V"), (27, .methodref 271 58), (0, .class_ 272), (0, u "java/lang/Number"), (0, .fieldref 1 274), (0, .nameAndType 275 276), (0, u "value"), (0, u "J"), (5, u "longValue"), (0, u "()J"), (77, u "TYPE"), (0, u "Ljava/lang/Class;"), (0, .class_ 364), (0, u "java/lang/Comparable"), (0, .class_ 366), (0, u "java/lang/constant/Constable"), (0, .class_ 368), (0, u "java/lang/constant/ConstantDesc"), (0, u "MIN_VALUE"), (1, u "MAX_VALUE"), (4, u "SIZE"), (0, u "I"), (1, u "BYTES"), (1, u "serialVersionUID")] 142

def k9c0 : Code := { maxStack := 4, maxLocals := 3, code := jdk_35_method_24_code, exceptionTable := #[], attributes := #[] }
def k9m0 : Method := { name := "valueOf", desc := "(J)Ljava/lang/Long;", sig := { parameters := [.long], returnType := some (.object "java/lang/Long") }, accessFlags := 9, code := some k9c0 }
def k9c1 : Code := { maxStack := 3, maxLocals := 3, code := jdk_35_method_26_code, exceptionTable := #[], attributes := #[] }
def k9m1 : Method := { name := "<init>", desc := "(J)V", sig := { parameters := [.long], returnType := none }, accessFlags := 1, code := some k9c1 }
def k9c2 : Code := { maxStack := 2, maxLocals := 1, code := jdk_35_method_31_code, exceptionTable := #[], attributes := #[] }
def k9m2 : Method := { name := "longValue", desc := "()J", sig := { parameters := [], returnType := some .long }, accessFlags := 1, code := some k9c2 }
/-- java/lang/Long -/
def k9 : Class := { plain "java/lang/Long" (some 5) with
  accessFlags := 49
  interfaces := #[6, 7, 8]
  cf := some (fileOf pool9 1 #[.nestMembers #[235]] #[{ accessFlags := 9, nameIndex := 85, descriptorIndex := 229, attributes := #[] }, { accessFlags := 1, nameIndex := 59, descriptorIndex := 242, attributes := #[] }, { accessFlags := 1, nameIndex := 282, descriptorIndex := 283, attributes := #[] }] 49 271 #[363, 365, 367] #[{ accessFlags := 25, nameIndex := 369, descriptorIndex := 276, attributes := #[] }, { accessFlags := 25, nameIndex := 371, descriptorIndex := 276, attributes := #[] }, { accessFlags := 25, nameIndex := 361, descriptorIndex := 362, attributes := #[] }, { accessFlags := 18, nameIndex := 275, descriptorIndex := 276, attributes := #[] }, { accessFlags := 25, nameIndex := 376, descriptorIndex := 377, attributes := #[] }, { accessFlags := 25, nameIndex := 379, descriptorIndex := 377, attributes := #[] }, { accessFlags := 26, nameIndex := 381, descriptorIndex := 276, attributes := #[] }])
  fields := #[{ name := "MIN_VALUE", type := .long, accessFlags := 25, slot := 0, constantValue := 0 }, { name := "MAX_VALUE", type := .long, accessFlags := 25, slot := 1, constantValue := 0 }, { name := "TYPE", type := (.object "java/lang/Class"), accessFlags := 25, slot := 2, constantValue := 0 }, { name := "value", type := .long, accessFlags := 18, slot := 0, constantValue := 0 }, { name := "SIZE", type := .int, accessFlags := 25, slot := 3, constantValue := 0 }, { name := "BYTES", type := .int, accessFlags := 25, slot := 4, constantValue := 0 }, { name := "serialVersionUID", type := .long, accessFlags := 26, slot := 5, constantValue := 0 }]
  methods := #[k9m0, k9m1, k9m2]
  instanceTypes := #[.long]
  staticTypes := #[.long, .long, (.object "java/lang/Class"), .int, .int, .long]
  resolved := Array.replicate 524 none
  statics := none }

def pool10 : Array CpInfo := pool [(2, .class_ 4), (1, u "java/lang/Object"), (0, u "<init>"), (0, u "()V"), (0, .class_ 8), (0, u "java/lang/Long"), (7, .class_ 18), (1, u "java/lang/Long$LongCache"), (0, u "$assertionsDisabled"), (0, u "Z"), (8, u "archivedCache"), (0, u "[Ljava/lang/Long;"), (7, u "cache")] 24

def k10m0 : Method := { name := "<init>", desc := "()V", sig := { parameters := [], returnType := none }, accessFlags := 2, code := none }
/-- java/lang/Long$LongCache -/
def k10 : Class := { plain "java/lang/Long$LongCache" (some 0) with
  accessFlags := 48
  interfaces := #[]
  cf := some (fileOf pool10 16 #[.nestHost 7] #[{ accessFlags := 2, nameIndex := 5, descriptorIndex := 6, attributes := #[] }] 48 2 #[] #[{ accessFlags := 24, nameIndex := 38, descriptorIndex := 30, attributes := #[] }, { accessFlags := 8, nameIndex := 29, descriptorIndex := 30, attributes := #[] }, { accessFlags := 4120, nameIndex := 19, descriptorIndex := 20, attributes := #[] }])
  fields := #[{ name := "cache", type := (.array (.object "java/lang/Long")), accessFlags := 24, slot := 0, constantValue := 0 }, { name := "archivedCache", type := (.array (.object "java/lang/Long")), accessFlags := 8, slot := 1, constantValue := 0 }, { name := "$assertionsDisabled", type := .boolean, accessFlags := 4120, slot := 2, constantValue := 0 }]
  methods := #[k10m0]
  instanceTypes := #[]
  staticTypes := #[(.array (.object "java/lang/Long")), (.array (.object "java/lang/Long")), .boolean]
  resolved := Array.replicate 63 none
  statics := some 0 }

def pool11 : Array CpInfo := pool [(8, .class_ 10), (1, u "java/lang/Iterable"), (24, .class_ 36), (0, u "java/lang/Object")] 25

/-- java/lang/Iterable -/
def k11 : Class := { plain "java/lang/Iterable" (some 0) with
  accessFlags := 1537
  interfaces := #[]
  cf := some (fileOf pool11 8 #[] #[] 1537 35 #[] #[])
  fields := #[]
  methods := #[]
  instanceTypes := #[]
  staticTypes := #[]
  resolved := Array.replicate 62 none
  statics := none }

def pool12 : Array CpInfo := pool [(10, .class_ 12), (1, u "java/util/Collection"), (47, .class_ 61), (0, u "java/lang/Object"), (0, .class_ 63), (0, u "java/lang/Iterable")] 51

/-- java/util/Collection -/
def k12 : Class := { plain "java/util/Collection" (some 0) with
  accessFlags := 1537
  interfaces := #[11]
  cf := some (fileOf pool12 10 #[] #[] 1537 60 #[62] #[])
  fields := #[]
  methods := #[]
  instanceTypes := #[]
  staticTypes := #[]
  resolved := Array.replicate 115 none
  statics := none }

def pool13 : Array CpInfo := pool [(8, .class_ 10), (1, u "java/util/SequencedCollection"), (15, .class_ 27), (0, u "java/lang/Object"), (0, .class_ 29), (0, u "java/util/Collection")] 27

/-- java/util/SequencedCollection -/
def k13 : Class := { plain "java/util/SequencedCollection" (some 0) with
  accessFlags := 1537
  interfaces := #[12]
  cf := some (fileOf pool13 8 #[] #[] 1537 26 #[28] #[])
  fields := #[]
  methods := #[]
  instanceTypes := #[]
  staticTypes := #[]
  resolved := Array.replicate 57 none
  statics := none }

def pool14 : Array CpInfo := pool [(8, .class_ 10), (1, u "java/util/List"), (64, u "get"), (0, u "(I)Ljava/lang/Object;"), (2, u "size"), (0, u "()I"), (7, u "of"), (2, .class_ 93), (1, u "java/util/ImmutableCollections"), (9, .class_ 104), (0, u "java/lang/Object"), (0, .methodref 91 106), (0, .nameAndType 107 108), (0, u "listFromTrustedArray"), (0, u "([Ljava/lang/Object;)Ljava/util/List;"), (11, .class_ 121), (0, u "java/util/SequencedCollection"), (82, u "(Ljava/lang/Object;Ljava/lang/Object;Ljava/lang/Object;)Ljava/util/List;")] 46

def k14m0 : Method := { name := "size", desc := "()I", sig := { parameters := [], returnType := some .int }, accessFlags := 1025, code := none }
def k14m1 : Method := { name := "get", desc := "(I)Ljava/lang/Object;", sig := { parameters := [.int], returnType := some (.object "java/lang/Object") }, accessFlags := 1025, code := none }
def k14c2 : Code := { maxStack := 4, maxLocals := 3, code := jdk_40_method_39_code, exceptionTable := #[], attributes := #[] }
def k14m2 : Method := { name := "of", desc := "(Ljava/lang/Object;Ljava/lang/Object;Ljava/lang/Object;)Ljava/util/List;", sig := { parameters := [(.object "java/lang/Object"), (.object "java/lang/Object"), (.object "java/lang/Object")], returnType := some (.object "java/util/List") }, accessFlags := 9, code := some k14c2 }
/-- java/util/List -/
def k14 : Class := { plain "java/util/List" (some 0) with
  accessFlags := 1537
  interfaces := #[13]
  cf := some (fileOf pool14 8 #[] #[{ accessFlags := 1025, nameIndex := 79, descriptorIndex := 80, attributes := #[] }, { accessFlags := 1025, nameIndex := 75, descriptorIndex := 76, attributes := #[] }, { accessFlags := 9, nameIndex := 88, descriptorIndex := 204, attributes := #[] }] 1537 103 #[120] #[])
  fields := #[]
  methods := #[k14m0, k14m1, k14m2]
  instanceTypes := #[]
  staticTypes := #[]
  resolved := Array.replicate 251 none
  statics := none }

def pool15 : Array CpInfo := pool [(2, .class_ 4), (1, u "java/lang/Object"), (0, u "<init>"), (0, u "()V"), (3, .class_ 11), (0, u "java/util/ImmutableCollections$List12"), (0, .class_ 13), (0, u "java/util/ImmutableCollections$ListN"), (3, u "Z"), (18, u "([Ljava/lang/Object;)Ljava/util/List;"), (0, .methodref 38 39), (0, .class_ 40), (0, .nameAndType 41 42), (0, u "java/util/Objects"), (0, u "requireNonNull"), (0, u "(Ljava/lang/Object;)Ljava/lang/Object;"), (0, .methodref 12 44), (0, .nameAndType 5 45), (0, u "([Ljava/lang/Object;Z)V"), (0, .fieldref 47 48), (0, .class_ 49), (0, .nameAndType 50 17), (0, u "java/util/ImmutableCollections"), (0, u "$assertionsDisabled"), (5, u "[Ljava/lang/Object;"), (5, u "EMPTY_LIST"), (0, u "Ljava/util/ImmutableCollections$ListN;"), (8, u "EMPTY_LIST_NULLS"), (22, u "SALT32L"), (0, u "J"), (2, u "REVERSE"), (6, u "archivedObjects"), (2, u "EMPTY"), (0, u "Ljava/lang/Object;"), (0, .class_ 112), (0, u "java/util/ImmutableCollections$SetN"), (5, u "EMPTY_SET"), (0, u "Ljava/util/ImmutableCollections$SetN;"), (0, .class_ 121), (0, u "java/util/ImmutableCollections$MapN"), (3, u "EMPTY_MAP"), (0, u "Ljava/util/ImmutableCollections$MapN;"), (4, u "EXPAND_FACTOR"), (0, u "I"), (26, u "listFromTrustedArray"), (9, .class_ 170), (0, u "java/util/ImmutableCollections$MapN$MapNIterator"), (0, .class_ 172), (0, u "java/util/ImmutableCollections$MapN$1"), (0, .class_ 174), (0, u "java/util/ImmutableCollections$Map1"), (0, .class_ 176), (0, u "java/util/ImmutableCollections$AbstractImmutableMap"), (0, .class_ 178), (0, u "java/util/ImmutableCollections$SetN$SetNIterator"), (0, .class_ 180), (0, u "java/util/ImmutableCollections$Set12"), (0, .class_ 182), (0, u "java/util/ImmutableCollections$Set12$1"), (0, .class_ 184), (0, u "java/util/ImmutableCollections$AbstractImmutableSet"), (0, .class_ 186), (0, u "java/util/ImmutableCollections$SubList"), (0, .class_ 188), (0, u "java/util/ImmutableCollections$ListItr"), (0, .class_ 190), (0, u "java/util/ImmutableCollections$AbstractImmutableList"), (0, .class_ 192), (0, u "java/util/ImmutableCollections$AbstractImmutableCollection"), (0, .class_ 194), (0, u "java/util/ImmutableCollections$Access"), (0, .class_ 196), (0, u "java/util/ImmutableCollections$Access$1")] 16

def k15m0 : Method := { name := "<init>", desc := "()V", sig := { parameters := [], returnType := none }, accessFlags := 2, code := none }
def k15c1 : Code := { maxStack := 5, maxLocals := 5, code := jdk_56_method_5_code, exceptionTable := #[], attributes := #[] }
def k15m1 : Method := { name := "listFromTrustedArray", desc := "([Ljava/lang/Object;)Ljava/util/List;", sig := { parameters := [(.array (.object "java/lang/Object"))], returnType := some (.object "java/util/List") }, accessFlags := 136, code := some k15c1 }
/-- java/util/ImmutableCollections -/
def k15 : Class := { plain "java/util/ImmutableCollections" (some 0) with
  accessFlags := 32
  interfaces := #[]
  cf := some (fileOf pool15 47 #[.nestMembers #[120, 169, 171, 173, 175, 111, 177, 179, 181, 183, 12, 10, 185, 187, 189, 191, 193, 195]] #[{ accessFlags := 2, nameIndex := 5, descriptorIndex := 6, attributes := #[] }, { accessFlags := 136, nameIndex := 159, descriptorIndex := 36, attributes := #[] }] 32 2 #[] #[{ accessFlags := 26, nameIndex := 95, descriptorIndex := 96, attributes := #[] }, { accessFlags := 26, nameIndex := 99, descriptorIndex := 17, attributes := #[] }, { accessFlags := 10, nameIndex := 106, descriptorIndex := 56, attributes := #[] }, { accessFlags := 26, nameIndex := 109, descriptorIndex := 110, attributes := #[] }, { accessFlags := 24, nameIndex := 62, descriptorIndex := 63, attributes := #[] }, { accessFlags := 24, nameIndex := 72, descriptorIndex := 63, attributes := #[] }, { accessFlags := 24, nameIndex := 118, descriptorIndex := 119, attributes := #[] }, { accessFlags := 24, nameIndex := 125, descriptorIndex := 126, attributes := #[] }, { accessFlags := 24, nameIndex := 131, descriptorIndex := 132, attributes := #[] }, { accessFlags := 4120, nameIndex := 50, descriptorIndex := 17, attributes := #[] }])
  fields := #[{ name := "SALT32L", type := .long, accessFlags := 26, slot := 0, constantValue := 0 }, { name := "REVERSE", type := .boolean, accessFlags := 26, slot := 1, constantValue := 0 }, { name := "archivedObjects", type := (.array (.object "java/lang/Object")), accessFlags := 10, slot := 2, constantValue := 0 }, { name := "EMPTY", type := (.object "java/lang/Object"), accessFlags := 26, slot := 3, constantValue := 0 }, { name := "EMPTY_LIST", type := (.object "java/util/ImmutableCollections$ListN"), accessFlags := 24, slot := 4, constantValue := 0 }, { name := "EMPTY_LIST_NULLS", type := (.object "java/util/ImmutableCollections$ListN"), accessFlags := 24, slot := 5, constantValue := 0 }, { name := "EMPTY_SET", type := (.object "java/util/ImmutableCollections$SetN"), accessFlags := 24, slot := 6, constantValue := 0 }, { name := "EMPTY_MAP", type := (.object "java/util/ImmutableCollections$MapN"), accessFlags := 24, slot := 7, constantValue := 0 }, { name := "EXPAND_FACTOR", type := .int, accessFlags := 24, slot := 8, constantValue := 0 }, { name := "$assertionsDisabled", type := .boolean, accessFlags := 4120, slot := 9, constantValue := 0 }]
  methods := #[k15m0, k15m1]
  instanceTypes := #[]
  staticTypes := #[.long, .boolean, (.array (.object "java/lang/Object")), (.object "java/lang/Object"), (.object "java/util/ImmutableCollections$ListN"), (.object "java/util/ImmutableCollections$ListN"), (.object "java/util/ImmutableCollections$SetN"), (.object "java/util/ImmutableCollections$MapN"), .int, .boolean]
  resolved := Array.replicate 213 none
  statics := some 1 }

def pool16 : Array CpInfo := pool [(2, .class_ 4), (1, u "java/lang/Object"), (0, u "<init>"), (0, u "()V"), (35, .class_ 44), (1, u "java/util/Objects"), (0, u "requireNonNull"), (0, u "(Ljava/lang/Object;)Ljava/lang/Object;")] 137

def k16m0 : Method := { name := "<init>", desc := "()V", sig := { parameters := [], returnType := none }, accessFlags := 2, code := none }
def k16c1 : Code := { maxStack := 2, maxLocals := 1, code := jdk_31_method_10_code, exceptionTable := #[], attributes := #[] }
def k16m1 : Method := { name := "requireNonNull", desc := "(Ljava/lang/Object;)Ljava/lang/Object;", sig := { parameters := [(.object "java/lang/Object")], returnType := some (.object "java/lang/Object") }, accessFlags := 9, code := some k16c1 }
/-- java/util/Objects -/
def k16 : Class := { plain "java/util/Objects" (some 0) with
  accessFlags := 49
  interfaces := #[]
  cf := some (fileOf pool16 42 #[] #[{ accessFlags := 2, nameIndex := 5, descriptorIndex := 6, attributes := #[] }, { accessFlags := 9, nameIndex := 45, descriptorIndex := 46, attributes := #[] }] 49 2 #[] #[])
  fields := #[]
  methods := #[k16m0, k16m1]
  instanceTypes := #[]
  staticTypes := #[]
  resolved := Array.replicate 184 none
  statics := none }

def pool17 : Array CpInfo := pool [(1, .methodref 2 3), (0, .class_ 4), (0, .nameAndType 5 6), (0, u "java/lang/Object"), (0, u "<init>"), (0, u "()V"), (1, .class_ 10), (1, u "java/util/AbstractCollection"), (66, .class_ 78), (0, u "java/util/Collection")] 81

def k17c0 : Code := { maxStack := 1, maxLocals := 1, code := jdk_22_method_1_code, exceptionTable := #[], attributes := #[] }
def k17m0 : Method := { name := "<init>", desc := "()V", sig := { parameters := [], returnType := none }, accessFlags := 4, code := some k17c0 }
/-- java/util/AbstractCollection -/
def k17 : Class := { plain "java/util/AbstractCollection" (some 0) with
  accessFlags := 1057
  interfaces := #[12]
  cf := some (fileOf pool17 8 #[] #[{ accessFlags := 4, nameIndex := 5, descriptorIndex := 6, attributes := #[] }] 1057 2 #[77] #[])
  fields := #[]
  methods := #[k17m0]
  instanceTypes := #[]
  staticTypes := #[]
  resolved := Array.replicate 160 none
  statics := none }

def pool18 : Array CpInfo := pool [(1, .methodref 2 3), (0, .class_ 4), (0, .nameAndType 5 6), (0, u "java/util/AbstractCollection"), (0, u "<init>"), (0, u "()V"), (1, .class_ 10), (1, u "java/util/ImmutableCollections"), (2, .class_ 14), (0, u "java/util/ImmutableCollections$AbstractImmutableCollection")] 41

def k18c0 : Code := { maxStack := 1, maxLocals := 1, code := jdk_47_method_1_code, exceptionTable := #[], attributes := #[] }
def k18m0 : Method := { name := "<init>", desc := "()V", sig := { parameters := [], returnType := none }, accessFlags := 0, code := some k18c0 }
/-- java/util/ImmutableCollections$AbstractImmutableCollection -/
def k18 : Class := { plain "java/util/ImmutableCollections$AbstractImmutableCollection" (some 17) with
  accessFlags := 1056
  interfaces := #[]
  cf := some (fileOf pool18 13 #[.nestHost 8] #[{ accessFlags := 0, nameIndex := 5, descriptorIndex := 6, attributes := #[] }] 1056 2 #[] #[])
  fields := #[]
  methods := #[k18m0]
  instanceTypes := #[]
  staticTypes := #[]
  resolved := Array.replicate 56 none
  statics := none }

def pool19 : Array CpInfo := pool [(1, .class_ 2), (0, u "java/util/RandomAccess"), (0, .class_ 4), (0, u "java/lang/Object")] 2

/-- java/util/RandomAccess -/
def k19 : Class := { plain "java/util/RandomAccess" (some 0) with
  accessFlags := 1537
  interfaces := #[]
  cf := some (fileOf pool19 1 #[] #[] 1537 3 #[] #[])
  fields := #[]
  methods := #[]
  instanceTypes := #[]
  staticTypes := #[]
  resolved := Array.replicate 7 none
  statics := none }

def pool20 : Array CpInfo := pool [(1, .methodref 2 3), (0, .class_ 4), (0, .nameAndType 5 6), (0, u "java/util/ImmutableCollections$AbstractImmutableCollection"), (0, u "<init>"), (0, u "()V"), (1, .class_ 10), (1, u "java/util/ImmutableCollections"), (3, .class_ 16), (1, u "java/util/ImmutableCollections$AbstractImmutableList"), (60, .class_ 78), (0, u "java/util/List"), (45, .class_ 125), (0, u "java/util/RandomAccess")] 70

def k20c0 : Code := { maxStack := 1, maxLocals := 1, code := jdk_46_method_1_code, exceptionTable := #[], attributes := #[] }
def k20m0 : Method := { name := "<init>", desc := "()V", sig := { parameters := [], returnType := none }, accessFlags := 0, code := some k20c0 }
/-- java/util/ImmutableCollections$AbstractImmutableList -/
def k20 : Class := { plain "java/util/ImmutableCollections$AbstractImmutableList" (some 18) with
  accessFlags := 1056
  interfaces := #[14, 19]
  cf := some (fileOf pool20 14 #[.nestHost 8] #[{ accessFlags := 0, nameIndex := 5, descriptorIndex := 6, attributes := #[] }] 1056 2 #[77, 124] #[])
  fields := #[]
  methods := #[k20m0]
  instanceTypes := #[]
  staticTypes := #[]
  resolved := Array.replicate 196 none
  statics := none }

def pool21 : Array CpInfo := pool [(1, .methodref 2 3), (0, .class_ 4), (0, .nameAndType 5 6), (0, u "java/util/ImmutableCollections$AbstractImmutableList"), (0, u "<init>"), (0, u "()V"), (0, .fieldref 8 9), (0, .class_ 10), (0, .nameAndType 11 12), (0, u "java/util/ImmutableCollections$ListN"), (0, u "elements"), (0, u "[Ljava/lang/Object;"), (0, .fieldref 8 14), (0, .nameAndType 15 16), (0, u "allowNulls"), (0, u "Z"), (42, .class_ 60), (0, u "java/io/Serializable"), (4, u "([Ljava/lang/Object;Z)V"), (11, u "size"), (0, u "()I"), (0, u "get"), (0, u "(I)Ljava/lang/Object;"), (33, .class_ 115), (0, u "java/util/ImmutableCollections")] 3

def k21c0 : Code := { maxStack := 2, maxLocals := 3, code := jdk_45_method_1_code, exceptionTable := #[], attributes := #[] }
def k21m0 : Method := { name := "<init>", desc := "([Ljava/lang/Object;Z)V", sig := { parameters := [(.array (.object "java/lang/Object")), .boolean], returnType := none }, accessFlags := 2, code := some k21c0 }
def k21c1 : Code := { maxStack := 1, maxLocals := 1, code := jdk_45_method_3_code, exceptionTable := #[], attributes := #[] }
def k21m1 : Method := { name := "size", desc := "()I", sig := { parameters := [], returnType := some .int }, accessFlags := 1, code := some k21c1 }
def k21c2 : Code := { maxStack := 2, maxLocals := 2, code := jdk_45_method_4_code, exceptionTable := #[], attributes := #[] }
def k21m2 : Method := { name := "get", desc := "(I)Ljava/lang/Object;", sig := { parameters := [.int], returnType := some (.object "java/lang/Object") }, accessFlags := 1, code := some k21c2 }
/-- java/util/ImmutableCollections$ListN -/
def k21 : Class := { plain "java/util/ImmutableCollections$ListN" (some 20) with
  accessFlags := 48
  interfaces := #[4]
  cf := some (fileOf pool21 8 #[.nestHost 114] #[{ accessFlags := 2, nameIndex := 5, descriptorIndex := 65, attributes := #[] }, { accessFlags := 1, nameIndex := 77, descriptorIndex := 78, attributes := #[] }, { accessFlags := 1, nameIndex := 79, descriptorIndex := 80, attributes := #[] }] 48 2 #[59] #[{ accessFlags := 18, nameIndex := 11, descriptorIndex := 12, attributes := #[] }, { accessFlags := 18, nameIndex := 15, descriptorIndex := 16, attributes := #[] }])
  fields := #[{ name := "elements", type := (.array (.object "java/lang/Object")), accessFlags := 18, slot := 0, constantValue := 0 }, { name := "allowNulls", type := .boolean, accessFlags := 18, slot := 1, constantValue := 0 }]
  methods := #[k21m0, k21m1, k21m2]
  instanceTypes := #[(.array (.object "java/lang/Object")), .boolean]
  staticTypes := #[]
  resolved := Array.replicate 119 none
  statics := none }

def pool22 : Array CpInfo := pool [(1, u "java/lang/Cloneable"), (0, .class_ 1), (0, u "java/lang/Object"), (0, .class_ 3)] 3

/-- java/lang/Cloneable -/
def k22 : Class := { plain "java/lang/Cloneable" (some 0) with
  accessFlags := 1537
  interfaces := #[]
  cf := some (fileOf pool22 2 #[] #[] 1537 4 #[] #[])
  fields := #[]
  methods := #[]
  instanceTypes := #[]
  staticTypes := #[]
  resolved := Array.replicate 8 none
  statics := none }

/-- the primitive byte -/
def k23 : Class := { plain "byte" none with kind := .primitive 'B', accessFlags := 0x411 }
/-- [B -/
def k24 : Class := { plain "[B" (some 0) with kind := .array 23 .byte, interfaces := #[22, 4], accessFlags := 1041 }

/-- the primitive int -/
def k25 : Class := { plain "int" none with kind := .primitive 'I', accessFlags := 0x411 }
/-- [I -/
def k26 : Class := { plain "[I" (some 0) with kind := .array 25 .int, interfaces := #[22, 4], accessFlags := 1041 }

/-- [Ljava/lang/Long; -/
def k27 : Class := { plain "[Ljava/lang/Long;" (some 0) with kind := .array 9 (.object "java/lang/Long"), interfaces := #[22, 4], accessFlags := 1041 }

/-- [Ljava/lang/Object; -/
def k28 : Class := { plain "[Ljava/lang/Object;" (some 0) with kind := .array 0 (.object "java/lang/Object"), interfaces := #[22, 4], accessFlags := 1041 }

def heap : Heap := #[{ cls := 10, slots := #[.ref 2, .null, .int 0], vm := .statics 10 },
  { cls := 15, slots := #[.long 0, .int 0, .null, .ref 259, .ref 260, .null, .null, .null, .int 0, .int 1], vm := .statics 15 },
  { cls := 27, slots := #[.ref 3, .ref 4, .ref 5, .ref 6, .ref 7, .ref 8, .ref 9, .ref 10, .ref 11, .ref 12, .ref 13, .ref 14, .ref 15, .ref 16, .ref 17, .ref 18, .ref 19, .ref 20, .ref 21, .ref 22, .ref 23, .ref 24, .ref 25, .ref 26, .ref 27, .ref 28, .ref 29, .ref 30, .ref 31, .ref 32, .ref 33, .ref 34, .ref 35, .ref 36, .ref 37, .ref 38, .ref 39, .ref 40, .ref 41, .ref 42, .ref 43, .ref 44, .ref 45, .ref 46, .ref 47, .ref 48, .ref 49, .ref 50, .ref 51, .ref 52, .ref 53, .ref 54, .ref 55, .ref 56, .ref 57, .ref 58, .ref 59, .ref 60, .ref 61, .ref 62, .ref 63, .ref 64, .ref 65, .ref 66, .ref 67, .ref 68, .ref 69, .ref 70, .ref 71, .ref 72, .ref 73, .ref 74, .ref 75, .ref 76, .ref 77, .ref 78, .ref 79, .ref 80, .ref 81, .ref 82, .ref 83, .ref 84, .ref 85, .ref 86, .ref 87, .ref 88, .ref 89, .ref 90, .ref 91, .ref 92, .ref 93, .ref 94, .ref 95, .ref 96, .ref 97, .ref 98, .ref 99, .ref 100, .ref 101, .ref 102, .ref 103, .ref 104, .ref 105, .ref 106, .ref 107, .ref 108, .ref 109, .ref 110, .ref 111, .ref 112, .ref 113, .ref 114, .ref 115, .ref 116, .ref 117, .ref 118, .ref 119, .ref 120, .ref 121, .ref 122, .ref 123, .ref 124, .ref 125, .ref 126, .ref 127, .ref 128, .ref 129, .ref 130, .ref 131, .ref 132, .ref 133, .ref 134, .ref 135, .ref 136, .ref 137, .ref 138, .ref 139, .ref 140, .ref 141, .ref 142, .ref 143, .ref 144, .ref 145, .ref 146, .ref 147, .ref 148, .ref 149, .ref 150, .ref 151, .ref 152, .ref 153, .ref 154, .ref 155, .ref 156, .ref 157, .ref 158, .ref 159, .ref 160, .ref 161, .ref 162, .ref 163, .ref 164, .ref 165, .ref 166, .ref 167, .ref 168, .ref 169, .ref 170, .ref 171, .ref 172, .ref 173, .ref 174, .ref 175, .ref 176, .ref 177, .ref 178, .ref 179, .ref 180, .ref 181, .ref 182, .ref 183, .ref 184, .ref 185, .ref 186, .ref 187, .ref 188, .ref 189, .ref 190, .ref 191, .ref 192, .ref 193, .ref 194, .ref 195, .ref 196, .ref 197, .ref 198, .ref 199, .ref 200, .ref 201, .ref 202, .ref 203, .ref 204, .ref 205, .ref 206, .ref 207, .ref 208, .ref 209, .ref 210, .ref 211, .ref 212, .ref 213, .ref 214, .ref 215, .ref 216, .ref 217, .ref 218, .ref 219, .ref 220, .ref 221, .ref 222, .ref 223, .ref 224, .ref 225, .ref 226, .ref 227, .ref 228, .ref 229, .ref 230, .ref 231, .ref 232, .ref 233, .ref 234, .ref 235, .ref 236, .ref 237, .ref 238, .ref 239, .ref 240, .ref 241, .ref 242, .ref 243, .ref 244, .ref 245, .ref 246, .ref 247, .ref 248, .ref 249, .ref 250, .ref 251, .ref 252, .ref 253, .ref 254, .ref 255, .ref 256, .ref 257, .ref 258], vm := .none },
  { cls := 9, slots := #[.long (-128)], vm := .none },
  { cls := 9, slots := #[.long (-127)], vm := .none },
  { cls := 9, slots := #[.long (-126)], vm := .none },
  { cls := 9, slots := #[.long (-125)], vm := .none },
  { cls := 9, slots := #[.long (-124)], vm := .none },
  { cls := 9, slots := #[.long (-123)], vm := .none },
  { cls := 9, slots := #[.long (-122)], vm := .none },
  { cls := 9, slots := #[.long (-121)], vm := .none },
  { cls := 9, slots := #[.long (-120)], vm := .none },
  { cls := 9, slots := #[.long (-119)], vm := .none },
  { cls := 9, slots := #[.long (-118)], vm := .none },
  { cls := 9, slots := #[.long (-117)], vm := .none },
  { cls := 9, slots := #[.long (-116)], vm := .none },
  { cls := 9, slots := #[.long (-115)], vm := .none },
  { cls := 9, slots := #[.long (-114)], vm := .none },
  { cls := 9, slots := #[.long (-113)], vm := .none },
  { cls := 9, slots := #[.long (-112)], vm := .none },
  { cls := 9, slots := #[.long (-111)], vm := .none },
  { cls := 9, slots := #[.long (-110)], vm := .none },
  { cls := 9, slots := #[.long (-109)], vm := .none },
  { cls := 9, slots := #[.long (-108)], vm := .none },
  { cls := 9, slots := #[.long (-107)], vm := .none },
  { cls := 9, slots := #[.long (-106)], vm := .none },
  { cls := 9, slots := #[.long (-105)], vm := .none },
  { cls := 9, slots := #[.long (-104)], vm := .none },
  { cls := 9, slots := #[.long (-103)], vm := .none },
  { cls := 9, slots := #[.long (-102)], vm := .none },
  { cls := 9, slots := #[.long (-101)], vm := .none },
  { cls := 9, slots := #[.long (-100)], vm := .none },
  { cls := 9, slots := #[.long (-99)], vm := .none },
  { cls := 9, slots := #[.long (-98)], vm := .none },
  { cls := 9, slots := #[.long (-97)], vm := .none },
  { cls := 9, slots := #[.long (-96)], vm := .none },
  { cls := 9, slots := #[.long (-95)], vm := .none },
  { cls := 9, slots := #[.long (-94)], vm := .none },
  { cls := 9, slots := #[.long (-93)], vm := .none },
  { cls := 9, slots := #[.long (-92)], vm := .none },
  { cls := 9, slots := #[.long (-91)], vm := .none },
  { cls := 9, slots := #[.long (-90)], vm := .none },
  { cls := 9, slots := #[.long (-89)], vm := .none },
  { cls := 9, slots := #[.long (-88)], vm := .none },
  { cls := 9, slots := #[.long (-87)], vm := .none },
  { cls := 9, slots := #[.long (-86)], vm := .none },
  { cls := 9, slots := #[.long (-85)], vm := .none },
  { cls := 9, slots := #[.long (-84)], vm := .none },
  { cls := 9, slots := #[.long (-83)], vm := .none },
  { cls := 9, slots := #[.long (-82)], vm := .none },
  { cls := 9, slots := #[.long (-81)], vm := .none },
  { cls := 9, slots := #[.long (-80)], vm := .none },
  { cls := 9, slots := #[.long (-79)], vm := .none },
  { cls := 9, slots := #[.long (-78)], vm := .none },
  { cls := 9, slots := #[.long (-77)], vm := .none },
  { cls := 9, slots := #[.long (-76)], vm := .none },
  { cls := 9, slots := #[.long (-75)], vm := .none },
  { cls := 9, slots := #[.long (-74)], vm := .none },
  { cls := 9, slots := #[.long (-73)], vm := .none },
  { cls := 9, slots := #[.long (-72)], vm := .none },
  { cls := 9, slots := #[.long (-71)], vm := .none },
  { cls := 9, slots := #[.long (-70)], vm := .none },
  { cls := 9, slots := #[.long (-69)], vm := .none },
  { cls := 9, slots := #[.long (-68)], vm := .none },
  { cls := 9, slots := #[.long (-67)], vm := .none },
  { cls := 9, slots := #[.long (-66)], vm := .none },
  { cls := 9, slots := #[.long (-65)], vm := .none },
  { cls := 9, slots := #[.long (-64)], vm := .none },
  { cls := 9, slots := #[.long (-63)], vm := .none },
  { cls := 9, slots := #[.long (-62)], vm := .none },
  { cls := 9, slots := #[.long (-61)], vm := .none },
  { cls := 9, slots := #[.long (-60)], vm := .none },
  { cls := 9, slots := #[.long (-59)], vm := .none },
  { cls := 9, slots := #[.long (-58)], vm := .none },
  { cls := 9, slots := #[.long (-57)], vm := .none },
  { cls := 9, slots := #[.long (-56)], vm := .none },
  { cls := 9, slots := #[.long (-55)], vm := .none },
  { cls := 9, slots := #[.long (-54)], vm := .none },
  { cls := 9, slots := #[.long (-53)], vm := .none },
  { cls := 9, slots := #[.long (-52)], vm := .none },
  { cls := 9, slots := #[.long (-51)], vm := .none },
  { cls := 9, slots := #[.long (-50)], vm := .none },
  { cls := 9, slots := #[.long (-49)], vm := .none },
  { cls := 9, slots := #[.long (-48)], vm := .none },
  { cls := 9, slots := #[.long (-47)], vm := .none },
  { cls := 9, slots := #[.long (-46)], vm := .none },
  { cls := 9, slots := #[.long (-45)], vm := .none },
  { cls := 9, slots := #[.long (-44)], vm := .none },
  { cls := 9, slots := #[.long (-43)], vm := .none },
  { cls := 9, slots := #[.long (-42)], vm := .none },
  { cls := 9, slots := #[.long (-41)], vm := .none },
  { cls := 9, slots := #[.long (-40)], vm := .none },
  { cls := 9, slots := #[.long (-39)], vm := .none },
  { cls := 9, slots := #[.long (-38)], vm := .none },
  { cls := 9, slots := #[.long (-37)], vm := .none },
  { cls := 9, slots := #[.long (-36)], vm := .none },
  { cls := 9, slots := #[.long (-35)], vm := .none },
  { cls := 9, slots := #[.long (-34)], vm := .none },
  { cls := 9, slots := #[.long (-33)], vm := .none },
  { cls := 9, slots := #[.long (-32)], vm := .none },
  { cls := 9, slots := #[.long (-31)], vm := .none },
  { cls := 9, slots := #[.long (-30)], vm := .none },
  { cls := 9, slots := #[.long (-29)], vm := .none },
  { cls := 9, slots := #[.long (-28)], vm := .none },
  { cls := 9, slots := #[.long (-27)], vm := .none },
  { cls := 9, slots := #[.long (-26)], vm := .none },
  { cls := 9, slots := #[.long (-25)], vm := .none },
  { cls := 9, slots := #[.long (-24)], vm := .none },
  { cls := 9, slots := #[.long (-23)], vm := .none },
  { cls := 9, slots := #[.long (-22)], vm := .none },
  { cls := 9, slots := #[.long (-21)], vm := .none },
  { cls := 9, slots := #[.long (-20)], vm := .none },
  { cls := 9, slots := #[.long (-19)], vm := .none },
  { cls := 9, slots := #[.long (-18)], vm := .none },
  { cls := 9, slots := #[.long (-17)], vm := .none },
  { cls := 9, slots := #[.long (-16)], vm := .none },
  { cls := 9, slots := #[.long (-15)], vm := .none },
  { cls := 9, slots := #[.long (-14)], vm := .none },
  { cls := 9, slots := #[.long (-13)], vm := .none },
  { cls := 9, slots := #[.long (-12)], vm := .none },
  { cls := 9, slots := #[.long (-11)], vm := .none },
  { cls := 9, slots := #[.long (-10)], vm := .none },
  { cls := 9, slots := #[.long (-9)], vm := .none },
  { cls := 9, slots := #[.long (-8)], vm := .none },
  { cls := 9, slots := #[.long (-7)], vm := .none },
  { cls := 9, slots := #[.long (-6)], vm := .none },
  { cls := 9, slots := #[.long (-5)], vm := .none },
  { cls := 9, slots := #[.long (-4)], vm := .none },
  { cls := 9, slots := #[.long (-3)], vm := .none },
  { cls := 9, slots := #[.long (-2)], vm := .none },
  { cls := 9, slots := #[.long (-1)], vm := .none },
  { cls := 9, slots := #[.long (0)], vm := .none },
  { cls := 9, slots := #[.long (1)], vm := .none },
  { cls := 9, slots := #[.long (2)], vm := .none },
  { cls := 9, slots := #[.long (3)], vm := .none },
  { cls := 9, slots := #[.long (4)], vm := .none },
  { cls := 9, slots := #[.long (5)], vm := .none },
  { cls := 9, slots := #[.long (6)], vm := .none },
  { cls := 9, slots := #[.long (7)], vm := .none },
  { cls := 9, slots := #[.long (8)], vm := .none },
  { cls := 9, slots := #[.long (9)], vm := .none },
  { cls := 9, slots := #[.long (10)], vm := .none },
  { cls := 9, slots := #[.long (11)], vm := .none },
  { cls := 9, slots := #[.long (12)], vm := .none },
  { cls := 9, slots := #[.long (13)], vm := .none },
  { cls := 9, slots := #[.long (14)], vm := .none },
  { cls := 9, slots := #[.long (15)], vm := .none },
  { cls := 9, slots := #[.long (16)], vm := .none },
  { cls := 9, slots := #[.long (17)], vm := .none },
  { cls := 9, slots := #[.long (18)], vm := .none },
  { cls := 9, slots := #[.long (19)], vm := .none },
  { cls := 9, slots := #[.long (20)], vm := .none },
  { cls := 9, slots := #[.long (21)], vm := .none },
  { cls := 9, slots := #[.long (22)], vm := .none },
  { cls := 9, slots := #[.long (23)], vm := .none },
  { cls := 9, slots := #[.long (24)], vm := .none },
  { cls := 9, slots := #[.long (25)], vm := .none },
  { cls := 9, slots := #[.long (26)], vm := .none },
  { cls := 9, slots := #[.long (27)], vm := .none },
  { cls := 9, slots := #[.long (28)], vm := .none },
  { cls := 9, slots := #[.long (29)], vm := .none },
  { cls := 9, slots := #[.long (30)], vm := .none },
  { cls := 9, slots := #[.long (31)], vm := .none },
  { cls := 9, slots := #[.long (32)], vm := .none },
  { cls := 9, slots := #[.long (33)], vm := .none },
  { cls := 9, slots := #[.long (34)], vm := .none },
  { cls := 9, slots := #[.long (35)], vm := .none },
  { cls := 9, slots := #[.long (36)], vm := .none },
  { cls := 9, slots := #[.long (37)], vm := .none },
  { cls := 9, slots := #[.long (38)], vm := .none },
  { cls := 9, slots := #[.long (39)], vm := .none },
  { cls := 9, slots := #[.long (40)], vm := .none },
  { cls := 9, slots := #[.long (41)], vm := .none },
  { cls := 9, slots := #[.long (42)], vm := .none },
  { cls := 9, slots := #[.long (43)], vm := .none },
  { cls := 9, slots := #[.long (44)], vm := .none },
  { cls := 9, slots := #[.long (45)], vm := .none },
  { cls := 9, slots := #[.long (46)], vm := .none },
  { cls := 9, slots := #[.long (47)], vm := .none },
  { cls := 9, slots := #[.long (48)], vm := .none },
  { cls := 9, slots := #[.long (49)], vm := .none },
  { cls := 9, slots := #[.long (50)], vm := .none },
  { cls := 9, slots := #[.long (51)], vm := .none },
  { cls := 9, slots := #[.long (52)], vm := .none },
  { cls := 9, slots := #[.long (53)], vm := .none },
  { cls := 9, slots := #[.long (54)], vm := .none },
  { cls := 9, slots := #[.long (55)], vm := .none },
  { cls := 9, slots := #[.long (56)], vm := .none },
  { cls := 9, slots := #[.long (57)], vm := .none },
  { cls := 9, slots := #[.long (58)], vm := .none },
  { cls := 9, slots := #[.long (59)], vm := .none },
  { cls := 9, slots := #[.long (60)], vm := .none },
  { cls := 9, slots := #[.long (61)], vm := .none },
  { cls := 9, slots := #[.long (62)], vm := .none },
  { cls := 9, slots := #[.long (63)], vm := .none },
  { cls := 9, slots := #[.long (64)], vm := .none },
  { cls := 9, slots := #[.long (65)], vm := .none },
  { cls := 9, slots := #[.long (66)], vm := .none },
  { cls := 9, slots := #[.long (67)], vm := .none },
  { cls := 9, slots := #[.long (68)], vm := .none },
  { cls := 9, slots := #[.long (69)], vm := .none },
  { cls := 9, slots := #[.long (70)], vm := .none },
  { cls := 9, slots := #[.long (71)], vm := .none },
  { cls := 9, slots := #[.long (72)], vm := .none },
  { cls := 9, slots := #[.long (73)], vm := .none },
  { cls := 9, slots := #[.long (74)], vm := .none },
  { cls := 9, slots := #[.long (75)], vm := .none },
  { cls := 9, slots := #[.long (76)], vm := .none },
  { cls := 9, slots := #[.long (77)], vm := .none },
  { cls := 9, slots := #[.long (78)], vm := .none },
  { cls := 9, slots := #[.long (79)], vm := .none },
  { cls := 9, slots := #[.long (80)], vm := .none },
  { cls := 9, slots := #[.long (81)], vm := .none },
  { cls := 9, slots := #[.long (82)], vm := .none },
  { cls := 9, slots := #[.long (83)], vm := .none },
  { cls := 9, slots := #[.long (84)], vm := .none },
  { cls := 9, slots := #[.long (85)], vm := .none },
  { cls := 9, slots := #[.long (86)], vm := .none },
  { cls := 9, slots := #[.long (87)], vm := .none },
  { cls := 9, slots := #[.long (88)], vm := .none },
  { cls := 9, slots := #[.long (89)], vm := .none },
  { cls := 9, slots := #[.long (90)], vm := .none },
  { cls := 9, slots := #[.long (91)], vm := .none },
  { cls := 9, slots := #[.long (92)], vm := .none },
  { cls := 9, slots := #[.long (93)], vm := .none },
  { cls := 9, slots := #[.long (94)], vm := .none },
  { cls := 9, slots := #[.long (95)], vm := .none },
  { cls := 9, slots := #[.long (96)], vm := .none },
  { cls := 9, slots := #[.long (97)], vm := .none },
  { cls := 9, slots := #[.long (98)], vm := .none },
  { cls := 9, slots := #[.long (99)], vm := .none },
  { cls := 9, slots := #[.long (100)], vm := .none },
  { cls := 9, slots := #[.long (101)], vm := .none },
  { cls := 9, slots := #[.long (102)], vm := .none },
  { cls := 9, slots := #[.long (103)], vm := .none },
  { cls := 9, slots := #[.long (104)], vm := .none },
  { cls := 9, slots := #[.long (105)], vm := .none },
  { cls := 9, slots := #[.long (106)], vm := .none },
  { cls := 9, slots := #[.long (107)], vm := .none },
  { cls := 9, slots := #[.long (108)], vm := .none },
  { cls := 9, slots := #[.long (109)], vm := .none },
  { cls := 9, slots := #[.long (110)], vm := .none },
  { cls := 9, slots := #[.long (111)], vm := .none },
  { cls := 9, slots := #[.long (112)], vm := .none },
  { cls := 9, slots := #[.long (113)], vm := .none },
  { cls := 9, slots := #[.long (114)], vm := .none },
  { cls := 9, slots := #[.long (115)], vm := .none },
  { cls := 9, slots := #[.long (116)], vm := .none },
  { cls := 9, slots := #[.long (117)], vm := .none },
  { cls := 9, slots := #[.long (118)], vm := .none },
  { cls := 9, slots := #[.long (119)], vm := .none },
  { cls := 9, slots := #[.long (120)], vm := .none },
  { cls := 9, slots := #[.long (121)], vm := .none },
  { cls := 9, slots := #[.long (122)], vm := .none },
  { cls := 9, slots := #[.long (123)], vm := .none },
  { cls := 9, slots := #[.long (124)], vm := .none },
  { cls := 9, slots := #[.long (125)], vm := .none },
  { cls := 9, slots := #[.long (126)], vm := .none },
  { cls := 9, slots := #[.long (127)], vm := .none },
  { cls := 0, slots := #[], vm := .none },
  { cls := 21, slots := #[.null, .int 0], vm := .none }]
def classes : Array Class := #[k0, k1, k2, k3, k4, k5, k6, k7, k8, k9, k10, k11, k12, k13, k14, k15, k16, k17, k18, k19, k20, k21, k22, k23, k24, k25, k26, k27, k28]
def interned : List (Array UInt16 × Addr) := []
def slotsUsed : Nat := 527
def theMethod : MethodId := ⟨1, 1⟩
def args0 : Array Value := #[.long 6, .long 8, .long 9]
def aboutOver (below : List Frame) : State where
  vm := { classes := classes, interned := interned.toArray }
  heap := heap
  slotsUsed := slotsUsed
  threads := #[{ frames := .invoking theMethod args0 :: below }]
def below0 : List Frame := [.native { method := ⟨0, 0⟩, args := #[] }]
def about1 : State := aboutOver below0
def p0 : Program := .bare "" "" ""
def e0 : Env := launch0.env 0 0 0
theorem w_frames : about1.frames = Frame.invoking theMethod args0 :: below0 := rfl
set_option maxRecDepth 65536 in
theorem w_args : argsFit about1.vm theMethod args0 = true := by decide +kernel
set_option maxRecDepth 65536 in
theorem w_heap : heapFits about1 = true := by decide +kernel
set_option maxRecDepth 65536 in
theorem w_runnable : about1.curStatus? = some .runnable := by decide +kernel
set_option maxRecDepth 65536 in
theorem w_alone : about1.alone = true := by decide +kernel
set_option maxRecDepth 65536 in
theorem w_named : about1.methodNamed? x = some theMethod := by decide +kernel
set_option maxRecDepth 65536 in
theorem w_hears : about1.hears theMethod below0 = true := by decide +kernel
set_option maxRecDepth 65536 in
theorem w_ripe : about1.ripe theMethod args0 below0 = true := by decide +kernel
theorem w_running : about1.status = .running := rfl
set_option maxRecDepth 65536 in
theorem w_room : about1.hasRoom e0.platform room_1 = true :=
  launch0.hasRoom_least _ room_1 (by decide +kernel) (by decide +kernel) (by decide +kernel) (by decide +kernel) (by decide +kernel) (by decide +kernel)
theorem allAtoms_all (ts : List Jvm.Cond) (a : Array Jvm.Value) (st : Jvm.State) : (allAtoms ts).before a st = ts.all (fun c => c.before a st) := by
  induction ts with
  | nil => rfl
  | cons c t ih =>
    show (Jvm.Cond.and c (allAtoms t)).before a st = _
    rw [Jvm.Cond.before_and, ih, List.all_cons]
def words1 : List Jvm.Cond := Jvm.Cond.code x code maxLocals ret :: tables_1
/-- a 'code' word, met by the world's own term for the bytes: nothing is compared byte by byte -/
theorem code_word {y : MethodName} {bytes : ByteArray} {mx : Nat} {rt : Option FieldType} {a : Array Value} {s : State} {m : MethodId} {meth : Method} {c : Code} (h1 : s.methodNamed? y = some m) (h2 : s.vm.method? m = some meth) (h3 : meth.code = some c) (h4 : c.code = bytes)
    (h5 : (c.maxLocals == mx && c.exceptionTable.isEmpty && decide (c.maxStack ≤ mostOperands) && decide (meth.sig.returnType = rt) && !meth.locks && decide (parseMethodDescriptor y.desc = some meth.sig)) = true) : (Jvm.Cond.code y bytes mx rt).before a s = true := by
  simp only [Bool.and_eq_true, beq_iff_eq, Bool.not_eq_true', decide_eq_true_eq] at h5
  obtain ⟨⟨⟨⟨⟨g1, g2⟩, g3⟩, g4⟩, g5⟩, g6⟩ := h5
  simp [Cond.before, Cond.holds, Cond.value, h1, h2, h3, h4, g1, g2, g3, g4, g5, g6]
def isCode : Jvm.Cond → Bool
  | .code _ _ _ _ => true
  | _ => false
theorem all_split {L : List Jvm.Cond} {P : Jvm.Cond → Bool} (h1 : L.all (fun c => isCode c || P c) = true) (h2 : ∀ c ∈ L.filter isCode, P c = true) : L.all P = true := by
  refine List.all_eq_true.mpr fun c hc => ?_
  have h := List.all_eq_true.mp h1 c hc
  rcases Bool.eq_false_or_eq_true (isCode c) with hi | hi
  · exact h2 c (List.mem_filter.mpr ⟨hc, hi⟩)
  · simpa [hi] using h
set_option maxRecDepth 65536 in
theorem w_c0 : (Jvm.Cond.code x code maxLocals ret).before args0 about1 = true := code_word (m := ⟨1, 1⟩) (meth := k1m1) (c := k1c1) (by decide +kernel) rfl rfl rfl (by decide +kernel)
set_option maxRecDepth 65536 in
theorem w_c1 : (Jvm.Cond.code ({ cls := (site_8.cls), name := "<init>", desc := "(JJJ)V" } : Jvm.MethodName) prog_29_method_1_code (7 : Nat) (Option.none : Option Jvm.ClassFile.FieldType)).before args0 about1 = true := code_word (m := ⟨3, 0⟩) (meth := k3m0) (c := k3c0) (by decide +kernel) rfl rfl rfl (by decide +kernel)
set_option maxRecDepth 65536 in
theorem w_c2 : (Jvm.Cond.code ({ cls := "java/lang/Record", name := "<init>", desc := "()V" } : Jvm.MethodName) jdk_30_method_1_code (1 : Nat) (Option.none : Option Jvm.ClassFile.FieldType)).before args0 about1 = true := code_word (m := ⟨2, 0⟩) (meth := k2m0) (c := k2c0) (by decide +kernel) rfl rfl rfl (by decide +kernel)
set_option maxRecDepth 65536 in
theorem w_c3 : (Jvm.Cond.code ({ cls := "java/lang/Object", name := "<init>", desc := "()V" } : Jvm.MethodName) object_method_1_code (1 : Nat) (Option.none : Option Jvm.ClassFile.FieldType)).before args0 about1 = true := code_word (m := ⟨0, 0⟩) (meth := k0m0) (c := k0c0) (by decide +kernel) rfl rfl rfl (by decide +kernel)
set_option maxRecDepth 65536 in
theorem w_c4 : (Jvm.Cond.code ({ cls := (site_8.cls), name := "values", desc := "()Ljava/util/List;" } : Jvm.MethodName) prog_29_method_3_code (1 : Nat) (Option.some (Jvm.ClassFile.FieldType.object "java/util/List"))).before args0 about1 = true := code_word (m := ⟨3, 1⟩) (meth := k3m1) (c := k3c1) (by decide +kernel) rfl rfl rfl (by decide +kernel)
set_option maxRecDepth 65536 in
theorem w_c5 : (Jvm.Cond.code ({ cls := "java/lang/Long", name := "valueOf", desc := "(J)Ljava/lang/Long;" } : Jvm.MethodName) jdk_35_method_24_code (3 : Nat) (Option.some (Jvm.ClassFile.FieldType.object "java/lang/Long"))).before args0 about1 = true := code_word (m := ⟨9, 0⟩) (meth := k9m0) (c := k9c0) (by decide +kernel) rfl rfl rfl (by decide +kernel)
set_option maxRecDepth 65536 in
theorem w_c6 : (Jvm.Cond.code ({ cls := "java/lang/Long", name := "<init>", desc := "(J)V" } : Jvm.MethodName) jdk_35_method_26_code (3 : Nat) (Option.none : Option Jvm.ClassFile.FieldType)).before args0 about1 = true := code_word (m := ⟨9, 1⟩) (meth := k9m1) (c := k9c1) (by decide +kernel) rfl rfl rfl (by decide +kernel)
set_option maxRecDepth 65536 in
theorem w_c7 : (Jvm.Cond.code ({ cls := "java/lang/Number", name := "<init>", desc := "()V" } : Jvm.MethodName) jdk_18_method_1_code (1 : Nat) (Option.none : Option Jvm.ClassFile.FieldType)).before args0 about1 = true := code_word (m := ⟨5, 0⟩) (meth := k5m0) (c := k5c0) (by decide +kernel) rfl rfl rfl (by decide +kernel)
set_option maxRecDepth 65536 in
theorem w_c8 : (Jvm.Cond.code ({ cls := "java/util/List", name := "of", desc := "(Ljava/lang/Object;Ljava/lang/Object;Ljava/lang/Object;)Ljava/util/List;" } : Jvm.MethodName) jdk_40_method_39_code (3 : Nat) (Option.some (Jvm.ClassFile.FieldType.object "java/util/List"))).before args0 about1 = true := code_word (m := ⟨14, 2⟩) (meth := k14m2) (c := k14c2) (by decide +kernel) rfl rfl rfl (by decide +kernel)
set_option maxRecDepth 65536 in
theorem w_c9 : (Jvm.Cond.code ({ cls := "java/util/ImmutableCollections", name := "listFromTrustedArray", desc := "([Ljava/lang/Object;)Ljava/util/List;" } : Jvm.MethodName) jdk_56_method_5_code (5 : Nat) (Option.some (Jvm.ClassFile.FieldType.object "java/util/List"))).before args0 about1 = true := code_word (m := ⟨15, 1⟩) (meth := k15m1) (c := k15c1) (by decide +kernel) rfl rfl rfl (by decide +kernel)
set_option maxRecDepth 65536 in
theorem w_c10 : (Jvm.Cond.code ({ cls := "java/util/Objects", name := "requireNonNull", desc := "(Ljava/lang/Object;)Ljava/lang/Object;" } : Jvm.MethodName) jdk_31_method_10_code (1 : Nat) (Option.some (Jvm.ClassFile.FieldType.object "java/lang/Object"))).before args0 about1 = true := code_word (m := ⟨16, 1⟩) (meth := k16m1) (c := k16c1) (by decide +kernel) rfl rfl rfl (by decide +kernel)
set_option maxRecDepth 65536 in
theorem w_c11 : (Jvm.Cond.code ({ cls := "java/util/ImmutableCollections$ListN", name := "<init>", desc := "([Ljava/lang/Object;Z)V" } : Jvm.MethodName) jdk_45_method_1_code (3 : Nat) (Option.none : Option Jvm.ClassFile.FieldType)).before args0 about1 = true := code_word (m := ⟨21, 0⟩) (meth := k21m0) (c := k21c0) (by decide +kernel) rfl rfl rfl (by decide +kernel)
set_option maxRecDepth 65536 in
theorem w_c12 : (Jvm.Cond.code ({ cls := "java/util/ImmutableCollections$AbstractImmutableList", name := "<init>", desc := "()V" } : Jvm.MethodName) jdk_46_method_1_code (1 : Nat) (Option.none : Option Jvm.ClassFile.FieldType)).before args0 about1 = true := code_word (m := ⟨20, 0⟩) (meth := k20m0) (c := k20c0) (by decide +kernel) rfl rfl rfl (by decide +kernel)
set_option maxRecDepth 65536 in
theorem w_c13 : (Jvm.Cond.code ({ cls := "java/util/ImmutableCollections$AbstractImmutableCollection", name := "<init>", desc := "()V" } : Jvm.MethodName) jdk_47_method_1_code (1 : Nat) (Option.none : Option Jvm.ClassFile.FieldType)).before args0 about1 = true := code_word (m := ⟨18, 0⟩) (meth := k18m0) (c := k18c0) (by decide +kernel) rfl rfl rfl (by decide +kernel)
set_option maxRecDepth 65536 in
theorem w_c14 : (Jvm.Cond.code ({ cls := "java/util/AbstractCollection", name := "<init>", desc := "()V" } : Jvm.MethodName) jdk_22_method_1_code (1 : Nat) (Option.none : Option Jvm.ClassFile.FieldType)).before args0 about1 = true := code_word (m := ⟨17, 0⟩) (meth := k17m0) (c := k17c0) (by decide +kernel) rfl rfl rfl (by decide +kernel)
set_option maxRecDepth 65536 in
theorem w_c15 : (Jvm.Cond.code ({ cls := "java/util/ImmutableCollections$ListN", name := "size", desc := "()I" } : Jvm.MethodName) jdk_45_method_3_code (1 : Nat) (Option.some Jvm.ClassFile.FieldType.int)).before args0 about1 = true := code_word (m := ⟨21, 1⟩) (meth := k21m1) (c := k21c1) (by decide +kernel) rfl rfl rfl (by decide +kernel)
set_option maxRecDepth 65536 in
theorem w_c16 : (Jvm.Cond.code ({ cls := "java/util/ImmutableCollections$ListN", name := "get", desc := "(I)Ljava/lang/Object;" } : Jvm.MethodName) jdk_45_method_4_code (2 : Nat) (Option.some (Jvm.ClassFile.FieldType.object "java/lang/Object"))).before args0 about1 = true := code_word (m := ⟨21, 2⟩) (meth := k21m2) (c := k21c2) (by decide +kernel) rfl rfl rfl (by decide +kernel)
set_option maxRecDepth 65536 in
theorem w_c17 : (Jvm.Cond.code ({ cls := "java/lang/Long", name := "longValue", desc := "()J" } : Jvm.MethodName) jdk_35_method_31_code (1 : Nat) (Option.some Jvm.ClassFile.FieldType.long)).before args0 about1 = true := code_word (m := ⟨9, 2⟩) (meth := k9m2) (c := k9c2) (by decide +kernel) rfl rfl rfl (by decide +kernel)
def codes1 : List Jvm.Cond := [Jvm.Cond.code x code maxLocals ret, Jvm.Cond.code ({ cls := (site_8.cls), name := "<init>", desc := "(JJJ)V" } : Jvm.MethodName) prog_29_method_1_code (7 : Nat) (Option.none : Option Jvm.ClassFile.FieldType), Jvm.Cond.code ({ cls := "java/lang/Record", name := "<init>", desc := "()V" } : Jvm.MethodName) jdk_30_method_1_code (1 : Nat) (Option.none : Option Jvm.ClassFile.FieldType), Jvm.Cond.code ({ cls := "java/lang/Object", name := "<init>", desc := "()V" } : Jvm.MethodName) object_method_1_code (1 : Nat) (Option.none : Option Jvm.ClassFile.FieldType), Jvm.Cond.code ({ cls := (site_8.cls), name := "values", desc := "()Ljava/util/List;" } : Jvm.MethodName) prog_29_method_3_code (1 : Nat) (Option.some (Jvm.ClassFile.FieldType.object "java/util/List")), Jvm.Cond.code ({ cls := "java/lang/Long", name := "valueOf", desc := "(J)Ljava/lang/Long;" } : Jvm.MethodName) jdk_35_method_24_code (3 : Nat) (Option.some (Jvm.ClassFile.FieldType.object "java/lang/Long")), Jvm.Cond.code ({ cls := "java/lang/Long", name := "<init>", desc := "(J)V" } : Jvm.MethodName) jdk_35_method_26_code (3 : Nat) (Option.none : Option Jvm.ClassFile.FieldType), Jvm.Cond.code ({ cls := "java/lang/Number", name := "<init>", desc := "()V" } : Jvm.MethodName) jdk_18_method_1_code (1 : Nat) (Option.none : Option Jvm.ClassFile.FieldType), Jvm.Cond.code ({ cls := "java/util/List", name := "of", desc := "(Ljava/lang/Object;Ljava/lang/Object;Ljava/lang/Object;)Ljava/util/List;" } : Jvm.MethodName) jdk_40_method_39_code (3 : Nat) (Option.some (Jvm.ClassFile.FieldType.object "java/util/List")), Jvm.Cond.code ({ cls := "java/util/ImmutableCollections", name := "listFromTrustedArray", desc := "([Ljava/lang/Object;)Ljava/util/List;" } : Jvm.MethodName) jdk_56_method_5_code (5 : Nat) (Option.some (Jvm.ClassFile.FieldType.object "java/util/List")), Jvm.Cond.code ({ cls := "java/util/Objects", name := "requireNonNull", desc := "(Ljava/lang/Object;)Ljava/lang/Object;" } : Jvm.MethodName) jdk_31_method_10_code (1 : Nat) (Option.some (Jvm.ClassFile.FieldType.object "java/lang/Object")), Jvm.Cond.code ({ cls := "java/util/ImmutableCollections$ListN", name := "<init>", desc := "([Ljava/lang/Object;Z)V" } : Jvm.MethodName) jdk_45_method_1_code (3 : Nat) (Option.none : Option Jvm.ClassFile.FieldType), Jvm.Cond.code ({ cls := "java/util/ImmutableCollections$AbstractImmutableList", name := "<init>", desc := "()V" } : Jvm.MethodName) jdk_46_method_1_code (1 : Nat) (Option.none : Option Jvm.ClassFile.FieldType), Jvm.Cond.code ({ cls := "java/util/ImmutableCollections$AbstractImmutableCollection", name := "<init>", desc := "()V" } : Jvm.MethodName) jdk_47_method_1_code (1 : Nat) (Option.none : Option Jvm.ClassFile.FieldType), Jvm.Cond.code ({ cls := "java/util/AbstractCollection", name := "<init>", desc := "()V" } : Jvm.MethodName) jdk_22_method_1_code (1 : Nat) (Option.none : Option Jvm.ClassFile.FieldType), Jvm.Cond.code ({ cls := "java/util/ImmutableCollections$ListN", name := "size", desc := "()I" } : Jvm.MethodName) jdk_45_method_3_code (1 : Nat) (Option.some Jvm.ClassFile.FieldType.int), Jvm.Cond.code ({ cls := "java/util/ImmutableCollections$ListN", name := "get", desc := "(I)Ljava/lang/Object;" } : Jvm.MethodName) jdk_45_method_4_code (2 : Nat) (Option.some (Jvm.ClassFile.FieldType.object "java/lang/Object")), Jvm.Cond.code ({ cls := "java/lang/Long", name := "longValue", desc := "()J" } : Jvm.MethodName) jdk_35_method_31_code (1 : Nat) (Option.some Jvm.ClassFile.FieldType.long)]
set_option maxRecDepth 65536 in
theorem codes_eq : words1.filter isCode = codes1 := rfl
theorem w_codes : ∀ c ∈ words1.filter isCode, c.before args0 about1 = true := by
  rw [codes_eq]
  intro c hc
  simp only [codes1, List.mem_cons, List.not_mem_nil, or_false] at hc
  rcases hc with rfl | rfl | rfl | rfl | rfl | rfl | rfl | rfl | rfl | rfl | rfl | rfl | rfl | rfl | rfl | rfl | rfl | rfl
  · exact w_c0
  · exact w_c1
  · exact w_c2
  · exact w_c3
  · exact w_c4
  · exact w_c5
  · exact w_c6
  · exact w_c7
  · exact w_c8
  · exact w_c9
  · exact w_c10
  · exact w_c11
  · exact w_c12
  · exact w_c13
  · exact w_c14
  · exact w_c15
  · exact w_c16
  · exact w_c17
set_option maxRecDepth 65536 in
theorem w_t1 : (words1.take 24).all (fun c => isCode c || c.before args0 about1) = true := by decide +kernel
set_option maxRecDepth 65536 in
theorem w_t2 : ((words1.drop 24).take 24).all (fun c => isCode c || c.before args0 about1) = true := by decide +kernel
set_option maxRecDepth 65536 in
theorem w_t3 : (((words1.drop 24).drop 24).take 24).all (fun c => isCode c || c.before args0 about1) = true := by decide +kernel
set_option maxRecDepth 65536 in
theorem w_t4 : ((((words1.drop 24).drop 24).drop 24).take 24).all (fun c => isCode c || c.before args0 about1) = true := by decide +kernel
set_option maxRecDepth 65536 in
theorem w_t5 : ((((words1.drop 24).drop 24).drop 24).drop 24).all (fun c => isCode c || c.before args0 about1) = true := by decide +kernel
theorem w_tables : (allAtoms (Jvm.Cond.code x code maxLocals ret :: tables_1)).before args0 about1 = true := by
  rw [allAtoms_all]
  show words1.all (fun c => c.before args0 about1) = true
  refine all_split ?_ w_codes
  rw [← List.take_append_drop 24 words1, List.all_append, w_t1, ← List.take_append_drop 24 (words1.drop 24), List.all_append, w_t2, ← List.take_append_drop 24 ((words1.drop 24).drop 24), List.all_append, w_t3, ← List.take_append_drop 24 (((words1.drop 24).drop 24).drop 24), List.all_append, w_t4, w_t5]
  rfl
set_option maxRecDepth 65536 in
theorem w_rest : rest_1_c.before args0 about1 = true := by decide +kernel
set_option maxRecDepth 65536 in
theorem w_case : (Jvm.Cond.and given_1 narrow_1).before args0 about1 = true := by decide +kernel
theorem w_applies : (headSpec (Jvm.Cond.code x code maxLocals ret :: tables_1) room_1).applies x e0.platform about1 = true :=
  (Spec.applies_iff w_frames).mpr ⟨w_running, w_runnable, w_alone, w_named, w_hears, w_ripe, w_room, w_tables⟩
theorem atStart : AtStart classFile x code maxLocals ret World_1 tables_1 room_1 Calls_1 rest_1 Pre_1 launch0 p0 e0 about1 theMethod args0 below0 :=
  ⟨lists_1, trivial, launch0.admits_env _ _ _, launch0.least_env, fairChoices_fair.cas, fairChoices_fair.clock, w_frames, w_args, w_heap, w_applies, trivial, w_rest, w_case⟩
end start1
theorem witness_1 : WitnessClaimed_1 := ⟨start1.p0, start1.e0, start1.about1, start1.theMethod, start1.args0, start1.below0, start1.atStart⟩
end Jvm.Pilot.@@N@@
