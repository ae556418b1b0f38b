import JvmDerived
import JvmDerived.Pilot.@@N@@Statement
import JvmDerived.Pilot.@@N@@Code
set_option linter.unusedVariables false
set_option linter.unusedSimpArgs false
namespace Jvm.Pilot.@@N@@
open Jvm Jvm.ClassFile Sem Op Lib Jvm.Free Jvm.Stand Jvm.LawKit Jvm.RoadKit Bundle Jvm.Pilot.@@N@@.Jvm.D
/-! own prelude: 'own_Goes' says that from state T with top frame g the invocation comes to its end with what Q says -/
section OwnPrelude
variable {p : Program} {l : Launch} {e : Env} {R : Room} {s : State} {m : MethodId} {args : Array Value} {below : List Frame} {meth : Method} {c : Code} {T T' : State} {locs : List Loc} {cells slots : Nat} {Z : State} {a0 : Array Value} {h : Heap} {kc ks : Nat} {Q : Option Value → Heap → List Loc → Prop} {g g' : JFrame}
def own_Goes (p : Program) (e : Env) (below : List Frame) (s : State) (kc ks : Nat) (Q : Option Value → Heap → List Loc → Prop) (T : State) (g : JFrame) : Prop :=
  ∃ t o, Steps p.tables e below (T.setTop g) t ∧ t.status = .running ∧ Ended t below o ∧ ∃ v L, o = .returned v ∧ Q v t.heap L ∧ FrameEnd s o t L kc ks
abbrev own_Ctr (l : Launch) (Z : State) (y : MethodName) (bytes : ByteArray) (maxL : Nat) (ret : Option FieldType) (ws : List Jvm.Cond) (rm : Room) (kc ks : Nat) (as' : Array Value) (h : Heap) (Q : Option Value → Heap → List Loc → Prop) : Prop :=
  MetFree l y (head1 (Jvm.Cond.code y bytes maxL ret :: ws) rm) (fun a U => a = as' ∧ Z.Warmed39 U.vm ∧ U.heap = h) (fun _ _ _ _ _ => True) (fun _ U o U' => ∃ v L, o = .returned v ∧ Q v U'.heap L ∧ FrameEnd U o U' L kc ks)
theorem own_by (st : ∀ t, Steps p.tables e below (T'.setTop g') t → Steps p.tables e below (T.setTop g) t) (k : own_Goes p e below s kc ks Q T' g') : own_Goes p e below s kc ks Q T g := by
  obtain ⟨t, o, h1, r⟩ := k; exact ⟨t, o, st t h1, r⟩
theorem own_cast (q : g = g') (k : own_Goes p e below s kc ks Q T g') : own_Goes p e below s kc ks Q T g := q ▸ k
theorem own_enter {y : MethodName} {bytes : ByteArray} {maxL : Nat} {ret : Option FieldType} {ws : List Jvm.Cond} {rm : Room} {as' : Array Value} (hpl : plainFor y = true)
    (k : ∀ p e s m below meth c s₁, Stand p l e rm s m as' below meth c s₁ [] 0 0 → p.tables.exec = Jvm.exec → Z.Warmed39 s.vm → c.code = bytes → c.maxLocals = maxL → s.vm.findClass y.cls = some m.cls → meth.name = y.name → meth.locks = false → meth.sig.returnType = ret → s₁.heap = h → own_Goes p e below s kc ks Q s₁ (entryFrame m as' maxL)) :
    own_Ctr l Z y bytes maxL ret ws rm kc ks as' h Q := by
  refine MetFree.of_bodySF hpl hisR ?_
  intro p e s m args below meth c s₁ Bd hml0 hP hK
  obtain ⟨rfl, hZ, hh⟩ := hP
  exact k p e s m below meth c s₁ (Stand.of_body Bd) Bd.exec hZ Bd.bytes hml0 (findClass_of_methodNamed Bd.named) (name_of_methodNamed Bd.named Bd.method).1 Bd.notSynchronized Bd.returns (by rw [← hh, Bd.state]; rfl)
theorem own_mono (X : Stand p l e R s m args below meth c T locs cells slots) {c' n' : Nat} (h1 : cells ≤ c') (h2 : slots ≤ n') : Stand p l e R s m args below meth c T locs c' n' :=
  { X with same := X.same.mono h1 h2 }
theorem own_out (X : Stand p l e R s m args below meth c T locs cells slots) (hlk : meth.locks = false) {v : Option Value} (hv : meth.sig.returnType = none → v = none)
    (st : ∀ fs, (∀ (f : JFrame) (acts : List Action), f.method = m → f.locked = none → f.entered = [] → (doReturn e (T.setTop f) acts v).1 = T.setFrames fs) → Steps p.tables e below (T.setTop g) (T.setFrames fs))
    (hc : cells ≤ kc) (hs : slots ≤ ks) (hQ : Q v T.heap locs) : own_Goes p e below s kc ks Q T g := by
  obtain ⟨fs, hr, hrun, hended, hW, hsame⟩ := X.leave (v := v) hv hlk
  exact ⟨_, _, st fs hr, hrun, hended, v, locs, rfl, hQ, ⟨_, rfl⟩, hW, hsame.mono hc hs⟩
theorem own_ret {w : Value} {t : FieldType} {i : Instr} {pc : Nat} {Ls : Array Slot} {rest : List Value} (X : Stand p l e R s m args below meth c T locs cells slots) (hx : p.tables.exec = Jvm.exec) (hlk : meth.locks = false) (hret : meth.sig.returnType = some t) (hn : narrow t w = w)
    (hi : (i = .ireturn ∧ (t = .int ∨ t = .boolean ∨ t = .byte ∨ t = .char ∨ t = .short) ∧ ∃ z, w = .int z) ∨ (i = .lreturn ∧ t = .long ∧ ∃ z, w = .long z) ∨ (i = .dreturn ∧ t = .double ∧ ∃ z, w = .double z) ∨ (i = .freturn ∧ t = .float ∧ ∃ z, w = .float z) ∨ (i = .areturn ∧ t.isReference = true ∧ w.isRef = true))
    (hd : decode c.code pc = .ok (i, 1)) (hc : cells ≤ kc) (hs : slots ≤ ks) (hQ : Q (some w) T.heap locs) : own_Goes p e below s kc ks Q T (mkF m pc Ls (w :: rest)) :=
  own_out X hlk (fun h => by rw [hret] at h; cases h) (fun fs hr => retOut X hx hret hn hi hd hr) hc hs hQ
theorem own_retI {z : Int32} {pc : Nat} {Ls : Array Slot} {rest : List Value} (X : Stand p l e R s m args below meth c T locs cells slots) (hx : p.tables.exec = Jvm.exec) (hlk : meth.locks = false) (hret : meth.sig.returnType = some .int)
    (hd : decode c.code pc = .ok (.ireturn, 1)) (hc : cells ≤ kc) (hs : slots ≤ ks) (hQ : Q (some (.int z)) T.heap locs) : own_Goes p e below s kc ks Q T (mkF m pc Ls (.int z :: rest)) :=
  own_ret X hx hlk hret rfl (Or.inl ⟨rfl, Or.inl rfl, z, rfl⟩) hd hc hs hQ
theorem own_retJ {z : Int64} {pc : Nat} {Ls : Array Slot} {rest : List Value} (X : Stand p l e R s m args below meth c T locs cells slots) (hx : p.tables.exec = Jvm.exec) (hlk : meth.locks = false) (hret : meth.sig.returnType = some .long)
    (hd : decode c.code pc = .ok (.lreturn, 1)) (hc : cells ≤ kc) (hs : slots ≤ ks) (hQ : Q (some (.long z)) T.heap locs) : own_Goes p e below s kc ks Q T (mkF m pc Ls (.long z :: rest)) :=
  own_ret X hx hlk hret rfl (Or.inr (Or.inl ⟨rfl, rfl, z, rfl⟩)) hd hc hs hQ
theorem own_retD {z : UInt64} {pc : Nat} {Ls : Array Slot} {rest : List Value} (X : Stand p l e R s m args below meth c T locs cells slots) (hx : p.tables.exec = Jvm.exec) (hlk : meth.locks = false) (hret : meth.sig.returnType = some .double)
    (hd : decode c.code pc = .ok (.dreturn, 1)) (hc : cells ≤ kc) (hs : slots ≤ ks) (hQ : Q (some (.double z)) T.heap locs) : own_Goes p e below s kc ks Q T (mkF m pc Ls (.double z :: rest)) :=
  own_ret X hx hlk hret rfl (Or.inr (Or.inr (Or.inl ⟨rfl, rfl, z, rfl⟩))) hd hc hs hQ
theorem own_b8 (x : Int32) : ((x).toInt8.toInt32).toInt8.toInt32 = x.toInt8.toInt32 := by simp
theorem own_c16 (x : Int32) : ((x).toUInt32.toUInt16.toUInt32.toInt32).toUInt32.toUInt16.toUInt32.toInt32 = x.toUInt32.toUInt16.toUInt32.toInt32 := by
  have h : ∀ u : UInt16, (u.toUInt32.toInt32).toUInt32.toUInt16 = u := fun u => by
    show (u.toUInt32).toUInt16 = u
    simp
  rw [h]
theorem own_at_ {a : Addr} {cl : Cell} (q : T.heap = h) (A : h[a]? = some cl) : T.heap[a]? = some cl := q ▸ A
theorem own_wr {h' : Heap} {a : Addr} {sl : Nat} {v v' : Value} (W : Wr h h' a sl v) (q : v = v') : Wr h h' a sl v' := q ▸ W
theorem own_eqI {first : State} {o : Option Outcome} {idx : List Nat} {a b : Term} {x y : Int32} (ha : a.eval args first o idx s = some (.int x)) (hb : b.eval args first o idx s = some (.int y)) : (Cond.eq a b).value args first o s idx = some (decide (x = y)) := by simp [Cond.value, ha, hb]
theorem own_fitR {t : FieldType} {w : Value} (ht : t.isReference = true) (hw : w.isRef = true) : fits t w = true := by cases t <;> simp [FieldType.isReference] at ht <;> rcases ref_cases hw with rfl | ⟨a, rfl⟩ <;> rfl
theorem own_cat1 {w : Value} (hw : w.isRef = true) : w.category = 1 := by rcases ref_cases hw with rfl | ⟨a, rfl⟩ <;> rfl
theorem own_stG {ls l' : Array Slot} {i : Nat} {v : Value} {o : Slot} (hold : ls[i]? = some o) (ho : o = .unset ∨ ∃ w, o = .val w ∧ w.category = 1) (hv : v.category = 1) (q : ls.setIfInBounds i (.val v) = l') : storeLocals ls i v = some l' := q ▸ XS.store1 hold ho hv
theorem own_narR {t : FieldType} {w : Value} (ht : t.isReference = true) : narrow t w = w := by cases t <;> simp [FieldType.isReference] at ht <;> cases w <;> rfl
theorem own_retA {w : Value} {t : FieldType} {pc : Nat} {Ls : Array Slot} {rest : List Value} (X : Stand p l e R s m args below meth c T locs cells slots) (hx : p.tables.exec = Jvm.exec) (hlk : meth.locks = false) (hret : meth.sig.returnType = some t) (ht : t.isReference = true) (hw : w.isRef = true)
    (hd : decode c.code pc = .ok (.areturn, 1)) (hc : cells ≤ kc) (hs : slots ≤ ks) (hQ : Q (some w) T.heap locs) : own_Goes p e below s kc ks Q T (mkF m pc Ls (w :: rest)) :=
  own_ret X hx hlk hret (own_narR ht) (Or.inr (Or.inr (Or.inr (Or.inr ⟨rfl, ht, hw⟩)))) hd hc hs hQ
theorem own_retN {z : Int32} {t : FieldType} {pc : Nat} {Ls : Array Slot} {rest : List Value} (X : Stand p l e R s m args below meth c T locs cells slots) (hx : p.tables.exec = Jvm.exec) (hlk : meth.locks = false) (hret : meth.sig.returnType = some t) (ht : t = .boolean ∨ t = .byte ∨ t = .char ∨ t = .short)
    (hd : decode c.code pc = .ok (.ireturn, 1)) (hc : cells ≤ kc) (hs : slots ≤ ks) (hQ : Q (some (.int (nar t z))) T.heap locs) : own_Goes p e below s kc ks Q T (mkF m pc Ls (.int z :: rest)) :=
  own_out X hlk (fun h => by rw [hret] at h; cases h) (fun fs hr => retN X hx hret ht hd hr) hc hs hQ
theorem own_retV {pc : Nat} {Ls : Array Slot} (X : Stand p l e R s m args below meth c T locs cells slots) (hx : p.tables.exec = Jvm.exec) (hlk : meth.locks = false) (hret : meth.sig.returnType = none)
    (hd : decode c.code pc = .ok (.return_, 1)) (hc : cells ≤ kc) (hs : slots ≤ ks) (hQ : Q none T.heap locs) : own_Goes p e below s kc ks Q T (mkF m pc Ls []) :=
  own_out X hlk (fun _ => rfl) (fun fs hr => X.returnOut hx hret hd hr) hc hs hQ
/-- an array of that type and length, whatever it holds -/
def own_Arz (Z : State) (h : Heap) (a : Addr) (ty : FieldType) (z : Int32) : Prop := ∃ c : Cell, Arr Z h a c ty ∧ c.slots.size = z.toNatClampNeg ∧ ¬ z < 0
theorem own_Arz.of {a : Addr} {k : ClassId} {ty : FieldType} {z : Int32} {vs : List Value} {dv : Value} (F : Arv Z h a k ty z vs dv) : own_Arz Z h a ty z := by obtain ⟨c, A, -, S, q, -⟩ := F; exact ⟨c, A, S, q⟩
theorem own_Arz.lt {a : Addr} {ty : FieldType} {z : Int32} (F : own_Arz Z h a ty z) : a < h.size := by obtain ⟨c, A, -⟩ := F; exact A.lt
theorem own_Arz.ext {h' : Heap} {a : Addr} {ty : FieldType} {z : Int32} (F : own_Arz Z h a ty z) (E : Ext h h') : own_Arz Z h' a ty z := by obtain ⟨c, A, r⟩ := F; exact ⟨c, A.ext E, r⟩
theorem own_Arz.other {h' : Heap} {a b : Addr} {ty : FieldType} {z : Int32} {sl : Nat} {v : Value} (F : own_Arz Z h b ty z) (W : Wr h h' a sl v) (q : b ≠ a) : own_Arz Z h' b ty z := by obtain ⟨c, A, r⟩ := F; exact ⟨c, A.other W q, r⟩
theorem own_Arz.same {h' : Heap} {a : Addr} {ty : FieldType} {z : Int32} {sl : Nat} {v : Value} (F : own_Arz Z h a ty z) (W : Wr h h' a sl v) : own_Arz Z h' a ty z := by obtain ⟨c, A, r1, r2⟩ := F; exact ⟨_, A.same W, by rw [sz_set]; exact r1, r2⟩
theorem own_Arz.keep {h' : Heap} {a : Addr} {ty : FieldType} {z : Int32} {ws : List Addr} (F : own_Arz Z h a ty z) (K : Keep h h' ws) (q : a ∉ ws) : own_Arz Z h' a ty z := by obtain ⟨c, A, r⟩ := F; exact ⟨c, ⟨K.2.1 a c A.1 q, A.2⟩, r⟩
section OwnCalls
variable {own : String} {index : Nat} {y z : MethodName} {bytes : ByteArray} {maxL : Nat} {ret : Option FieldType} {rm : Room} {Q' : Option Value → Heap → List Loc → Prop} {argsL rest : List Value}
theorem own_callS (X : Stand p l e R s m args below meth c T locs cells slots) (hx : p.tables.exec = Jvm.exec) (hZ : Z.Warmed39 s.vm) (hown : s.vm.findClass own = some m.cls)
    (w1 : (Cond.methodLink own index y).before a0 Z = true) (w2 : (Cond.static y).before a0 Z = true) (w3 : (Cond.initialized y.cls).before a0 Z = true) (w4 : (Cond.code y bytes maxL ret).before a0 Z = true)
    (hy : y.cls ≠ "java/lang/invoke/MethodHandle" ∧ y.cls ≠ "java/lang/invoke/VarHandle") (hM : own_Ctr l Z y bytes maxL ret [] rm rm.cells rm.slots argsL.toArray h Q') (W : Nat)
    (hf : rm.frames + 1 ≤ R.frames) (hl : W + (maxL + 11) + rm.locals ≤ R.locals) (hc : cells + rm.cells ≤ R.cells) (hs : slots + rm.slots ≤ R.slots) (eT : T.heap = h)
    (hg : g.method = m) (hsize : g.locals.size = c.maxLocals) (hlen : ∀ sig, parseMethodDescriptor y.desc = some sig → argsL.length = sig.parameters.length) (hstack : g.stack = argsL.reverse ++ rest)
    (hW : 2 * g.monitorRoom + (rest.map fun v => v.category).sum ≤ W) (hd : decode c.code g.pc = .ok (.invokestatic index, 3))
    (k : ∀ v T' L, Stand p l e R s m args below meth c T' (locs ++ L) (cells + rm.cells) (slots + rm.slots) → Q' v T'.heap L → own_Goes p e below s kc ks Q T' { g with pc := g.pc + 3, stack := v.toList ++ rest }) : own_Goes p e below s kc ks Q T g := by
  obtain ⟨v, _, ⟨T', L', k', n'⟩, -, X', ⟨Lc, hQ, l1, y1, z1⟩, st⟩ := Jvm.LawKit.callS X hx hown (mvT hZ w1) (mvT hZ w2) (mvT hZ w3) (mvT hZ w4) hy (backOf (W := W) hM hZ w4 w3 hf hl) hg hsize hlen hstack hW hd (fun _ _ => ⟨rfl, eT, hc, hs⟩)
  dsimp only [Pt.U, Pt.locs, Pt.cells, Pt.slots] at X' l1 y1 z1 st hQ
  subst l1 y1 z1
  exact own_by st (k v T' Lc X' hQ)
theorem own_callI (X : Stand p l e R s m args below meth c T locs cells slots) (hx : p.tables.exec = Jvm.exec) (hZ : Z.Warmed39 s.vm) (hown : s.vm.findClass own = some m.cls) (hy1 : y.name = "<init>")
    (w1 : (Cond.methodLink own index y).before a0 Z = true) (w2 : (Cond.instanceMethod y).before a0 Z = true) (w3 : (Cond.initialized y.cls).before a0 Z = true) (w4 : (Cond.code y bytes maxL none).before a0 Z = true)
    (hy : y.cls ≠ "java/lang/invoke/MethodHandle" ∧ y.cls ≠ "java/lang/invoke/VarHandle") {a : Addr} (hM : own_Ctr l Z y bytes maxL none [] rm rm.cells rm.slots (.ref a :: argsL).toArray h Q') (W : Nat)
    (hf : rm.frames + 1 ≤ R.frames) (hl : W + (maxL + 11) + rm.locals ≤ R.locals) (hc : cells + rm.cells ≤ R.cells) (hs : slots + rm.slots ≤ R.slots) (eT : T.heap = h)
    (hg : g.method = m) (hsize : g.locals.size = c.maxLocals) (hlen : ∀ sig, parseMethodDescriptor y.desc = some sig → argsL.length = sig.parameters.length) (hstack : g.stack = argsL.reverse ++ .ref a :: rest)
    (hW : 2 * g.monitorRoom + (rest.map fun v => v.category).sum ≤ W) (hd : decode c.code g.pc = .ok (.invokespecial index, 3))
    (k : ∀ v T' L, Stand p l e R s m args below meth c T' (locs ++ L) (cells + rm.cells) (slots + rm.slots) → Q' v T'.heap L → own_Goes p e below s kc ks Q T' { g with pc := g.pc + 3, stack := v.toList ++ rest }) : own_Goes p e below s kc ks Q T g := by
  obtain ⟨v, _, ⟨T', L', k', n'⟩, -, X', ⟨Lc, hQ, l1, y1, z1⟩, st⟩ := X.specialBack hx hy1 hown (mvT hZ w1) (mvT hZ w2) (mvT hZ w4) hy (backOf (W := W) hM hZ w4 w3 hf hl) hg hsize (Steps.refl _) hlen hstack hW hd (fun _ _ => ⟨rfl, eT, hc, hs⟩)
  dsimp only [Pt.U, Pt.locs, Pt.cells, Pt.slots] at X' l1 y1 z1 st hQ
  subst l1 y1 z1
  exact own_by (fun t kt => st.trans kt) (k v T' Lc X' hQ)
theorem own_callIN {host : String} (X : Stand p l e R s m args below meth c T locs cells slots) (hx : p.tables.exec = Jvm.exec) (hZ : Z.Warmed39 s.vm) (hown : s.vm.findClass own = some m.cls) (hy1 : y.name = "<init>")
    (w1 : (Cond.methodLinkNest own index y host).before a0 Z = true) (w2 : (Cond.instanceMethod y).before a0 Z = true) (w3 : (Cond.initialized y.cls).before a0 Z = true) (w4 : (Cond.code y bytes maxL none).before a0 Z = true)
    (hy : y.cls ≠ "java/lang/invoke/MethodHandle" ∧ y.cls ≠ "java/lang/invoke/VarHandle") {a : Addr} (hM : own_Ctr l Z y bytes maxL none [] rm rm.cells rm.slots (.ref a :: argsL).toArray h Q') (W : Nat)
    (hf : rm.frames + 1 ≤ R.frames) (hl : W + (maxL + 11) + rm.locals ≤ R.locals) (hc : cells + rm.cells ≤ R.cells) (hs : slots + rm.slots ≤ R.slots) (eT : T.heap = h)
    (hg : g.method = m) (hsize : g.locals.size = c.maxLocals) (hlen : ∀ sig, parseMethodDescriptor y.desc = some sig → argsL.length = sig.parameters.length) (hstack : g.stack = argsL.reverse ++ .ref a :: rest)
    (hW : 2 * g.monitorRoom + (rest.map fun v => v.category).sum ≤ W) (hd : decode c.code g.pc = .ok (.invokespecial index, 3))
    (k : ∀ v T' L, Stand p l e R s m args below meth c T' (locs ++ L) (cells + rm.cells) (slots + rm.slots) → Q' v T'.heap L → own_Goes p e below s kc ks Q T' { g with pc := g.pc + 3, stack := v.toList ++ rest }) : own_Goes p e below s kc ks Q T g := by
  obtain ⟨v, _, ⟨T', L', k', n'⟩, -, X', ⟨Lc, hQ, l1, y1, z1⟩, st⟩ := X.specialBackNest hx hy1 hown (Cond.methodLinkNest_wide hZ w1 :) (mvT hZ w2) (mvT hZ w4) hy (backOf (W := W) hM hZ w4 w3 hf hl) hg hsize (Steps.refl _) hlen hstack hW hd (fun _ _ => ⟨rfl, eT, hc, hs⟩)
  dsimp only [Pt.U, Pt.locs, Pt.cells, Pt.slots] at X' l1 y1 z1 st hQ
  subst l1 y1 z1
  exact own_by (fun t kt => st.trans kt) (k v T' Lc X' hQ)
theorem own_callV {C : String} (X : Stand p l e R s m args below meth c T locs cells slots) (hx : p.tables.exec = Jvm.exec) (hZ : Z.Warmed39 s.vm) (hown : s.vm.findClass own = some m.cls)
    (w1 : (Cond.methodLink own index y).before a0 Z = true) (w2 : (Cond.declares y).before a0 Z = true) (hnf : NotFace s y) (w3 : (Cond.selects C y z).before a0 Z = true) (w4 : (Cond.instanceMethod z).before a0 Z = true) (w5 : (Cond.code z bytes maxL ret).before a0 Z = true) (w6 : (Cond.initialized z.cls).before a0 Z = true)
    (hy : y.cls ≠ "java/lang/invoke/MethodHandle" ∧ y.cls ≠ "java/lang/invoke/VarHandle") {a : Addr} (E : Exa Z h a C) (hM : own_Ctr l Z z bytes maxL ret [] rm rm.cells rm.slots (.ref a :: argsL).toArray h Q') (W : Nat)
    (hf : rm.frames + 1 ≤ R.frames) (hl : W + (maxL + 11) + rm.locals ≤ R.locals) (hc : cells + rm.cells ≤ R.cells) (hs : slots + rm.slots ≤ R.slots) (eT : T.heap = h)
    (hg : g.method = m) (hsize : g.locals.size = c.maxLocals) (hlen : ∀ sig, parseMethodDescriptor y.desc = some sig → argsL.length = sig.parameters.length) (hstack : g.stack = argsL.reverse ++ .ref a :: rest)
    (hW : 2 * g.monitorRoom + (rest.map fun v => v.category).sum ≤ W) (hd : decode c.code g.pc = .ok (.invokevirtual index, 3))
    (k : ∀ v T' L, Stand p l e R s m args below meth c T' (locs ++ L) (cells + rm.cells) (slots + rm.slots) → Q' v T'.heap L → own_Goes p e below s kc ks Q T' { g with pc := g.pc + 3, stack := v.toList ++ rest }) : own_Goes p e below s kc ks Q T g := by
  obtain ⟨cq, kq, qa, qb, qc⟩ := isOf hZ eT E
  obtain ⟨v, _, ⟨T', L', k', n'⟩, -, X', ⟨Lc, hQ, l1, y1, z1⟩, st⟩ := X.virtualBack hx hown (mvT hZ w1) (mvT hZ w2) hnf (mvT hZ w3) (mvT hZ w4) hy (backOf (W := W) hM hZ w5 w6 hf hl) qa qc hg hsize (Steps.refl _) hlen hstack hW hd (fun _ _ => ⟨rfl, eT, hc, hs⟩)
  dsimp only [Pt.U, Pt.locs, Pt.cells, Pt.slots] at X' l1 y1 z1 st hQ
  subst l1 y1 z1
  exact own_by (fun t kt => st.trans kt) (k v T' Lc X' hQ)
theorem own_callP (X : Stand p l e R s m args below meth c T locs cells slots) (hx : p.tables.exec = Jvm.exec) (hZ : Z.Warmed39 s.vm) (hown : s.vm.findClass own = some m.cls)
    (w1 : (Cond.methodLink own index y).before a0 Z = true) (w2 : (Cond.instanceMethod y).before a0 Z = true) (w3 : (Cond.selects y.cls y y).before a0 Z = true) (w4 : (Cond.privateMethod y).before a0 Z = true) (w5 : (Cond.code y bytes maxL ret).before a0 Z = true) (w6 : (Cond.initialized y.cls).before a0 Z = true)
    (hy : y.cls ≠ "java/lang/invoke/MethodHandle" ∧ y.cls ≠ "java/lang/invoke/VarHandle") {a : Addr} {C : String} (E : Exa Z h a C) (hM : own_Ctr l Z y bytes maxL ret [] rm rm.cells rm.slots (.ref a :: argsL).toArray h Q') (W : Nat)
    (hf : rm.frames + 1 ≤ R.frames) (hl : W + (maxL + 11) + rm.locals ≤ R.locals) (hc : cells + rm.cells ≤ R.cells) (hs : slots + rm.slots ≤ R.slots) (eT : T.heap = h)
    (hg : g.method = m) (hsize : g.locals.size = c.maxLocals) (hlen : ∀ sig, parseMethodDescriptor y.desc = some sig → argsL.length = sig.parameters.length) (hstack : g.stack = argsL.reverse ++ .ref a :: rest)
    (hW : 2 * g.monitorRoom + (rest.map fun v => v.category).sum ≤ W) (hd : decode c.code g.pc = .ok (.invokevirtual index, 3))
    (k : ∀ v T' L, Stand p l e R s m args below meth c T' (locs ++ L) (cells + rm.cells) (slots + rm.slots) → Q' v T'.heap L → own_Goes p e below s kc ks Q T' { g with pc := g.pc + 3, stack := v.toList ++ rest }) : own_Goes p e below s kc ks Q T g := by
  obtain ⟨cq, q1, q2⟩ := E.cell
  obtain ⟨v, _, ⟨T', L', k', n'⟩, -, X', ⟨Lc, hQ, l1, y1, z1⟩, st⟩ := X.privateBack hx hown (mvT hZ w1) (mvT hZ w2) (mvT hZ w3) (Cond.privateMethod_at (mvP hZ w4 (args := #[]))) (mvT hZ w5) hy (backOf (W := W) hM hZ w5 w6 hf hl) hg hsize (Steps.refl _) (a := a) (by rw [eT]; exact q1) q2 hlen hstack hW hd (fun _ _ => ⟨rfl, eT, hc, hs⟩)
  dsimp only [Pt.U, Pt.locs, Pt.cells, Pt.slots] at X' l1 y1 z1 st hQ
  subst l1 y1 z1
  exact own_by (fun t kt => st.trans kt) (k v T' Lc X' hQ)
theorem own_callF {C : String} {count : Nat} (X : Stand p l e R s m args below meth c T locs cells slots) (hx : p.tables.exec = Jvm.exec) (hZ : Z.Warmed39 s.vm) (hown : s.vm.findClass own = some m.cls)
    (w1 : (Cond.methodLink own index y).before a0 Z = true) (w2 : (Cond.declares y).before a0 Z = true) (w2f : (Cond.interfaceMethod y.cls y.cls y.name y.desc).before a0 Z = true) (w3 : (Cond.selects C y z).before a0 Z = true) (w4 : (Cond.instanceMethod z).before a0 Z = true)
    (wp : (Cond.publicMethod z).before a0 Z = true) (wu : (Cond.unhidden C y.name y.desc).before a0 Z = true) (wk : (Cond.castable C y.cls).before a0 Z = true) (w5 : (Cond.code z bytes maxL ret).before a0 Z = true) (w6 : (Cond.initialized z.cls).before a0 Z = true)
    (hy : y.cls ≠ "java/lang/invoke/MethodHandle" ∧ y.cls ≠ "java/lang/invoke/VarHandle") {a : Addr} (E : Exa Z h a C) (hM : own_Ctr l Z z bytes maxL ret [] rm rm.cells rm.slots (.ref a :: argsL).toArray h Q') (W : Nat)
    (hf : rm.frames + 1 ≤ R.frames) (hl : W + (maxL + 11) + rm.locals ≤ R.locals) (hc : cells + rm.cells ≤ R.cells) (hs : slots + rm.slots ≤ R.slots) (eT : T.heap = h)
    (hg : g.method = m) (hsize : g.locals.size = c.maxLocals) (hlen : ∀ sig, parseMethodDescriptor y.desc = some sig → argsL.length = sig.parameters.length) (hstack : g.stack = argsL.reverse ++ .ref a :: rest)
    (hW : 2 * g.monitorRoom + (rest.map fun v => v.category).sum ≤ W) (hd : decode c.code g.pc = .ok (.invokeinterface index count, 5))
    (k : ∀ v T' L, Stand p l e R s m args below meth c T' (locs ++ L) (cells + rm.cells) (slots + rm.slots) → Q' v T'.heap L → own_Goes p e below s kc ks Q T' { g with pc := g.pc + 5, stack := v.toList ++ rest }) : own_Goes p e below s kc ks Q T g := by
  obtain ⟨cq, kq, qa, qb, qc⟩ := isOf hZ eT E
  have hface : ((Cond.interfaceMethod y.cls y.cls y.name y.desc).onTables && (Cond.interfaceMethod y.cls y.cls y.name y.desc).keepsFace) = true := by simp [Cond.onTables, Cond.keepsFace, Cond.keeps, Cond.steady, Cond.faceAtom, hy.1, hy.2]
  obtain ⟨v, _, ⟨T', L', k', n'⟩, -, X', ⟨Lc, hQ, l1, y1, z1⟩, st⟩ := X.interfaceBack hx hown (mvT hZ w1) (mvT hZ w2) (mvT hZ w2f hface) (mvT hZ w3) (mvT hZ w4) (mvT hZ wp) (mvT hZ wu) (mvT hZ wk) hy (backOf (W := W) hM hZ w5 w6 hf hl) qa qb qc hg hsize (Steps.refl _) hlen hstack hW hd (fun _ _ => ⟨rfl, eT, hc, hs⟩)
  dsimp only [Pt.U, Pt.locs, Pt.cells, Pt.slots] at X' l1 y1 z1 st hQ
  subst l1 y1 z1
  exact own_by (fun t kt => st.trans kt) (k v T' Lc X' hQ)
end OwnCalls
end OwnPrelude
def own_b (w : Int64) (i : Int32) : Int32 := ((((w).toUInt64 >>> (i &&& 0x3f).toInt64.toUInt64).toInt64).toInt32).toInt8.toInt32
def own_b0 (w : Int64) : Int32 := ((w).toInt32).toInt8.toInt32
def own_put (vs : List Value) (o : Nat) (w : Int64) : List Value := (((((((vs.set o (.int (own_b0 w))).set (o + 1) (.int (own_b w 8))).set (o + 2) (.int (own_b w 16))).set (o + 3) (.int (own_b w 24))).set (o + 4) (.int (own_b w 32))).set (o + 5) (.int (own_b w 40))).set (o + 6) (.int (own_b w 48))).set (o + 7) (.int (own_b w 56))
def own_full (w0 w1 w2 w3 : Int64) : List Value := [(.int (own_b0 w0)), (.int (own_b w0 8)), (.int (own_b w0 16)), (.int (own_b w0 24)), (.int (own_b w0 32)), (.int (own_b w0 40)), (.int (own_b w0 48)), (.int (own_b w0 56)), (.int (own_b0 w1)), (.int (own_b w1 8)), (.int (own_b w1 16)), (.int (own_b w1 24)), (.int (own_b w1 32)), (.int (own_b w1 40)), (.int (own_b w1 48)), (.int (own_b w1 56)), (.int (own_b0 w2)), (.int (own_b w2 8)), (.int (own_b w2 16)), (.int (own_b w2 24)), (.int (own_b w2 32)), (.int (own_b w2 40)), (.int (own_b w2 48)), (.int (own_b w2 56)), (.int (own_b0 w3)), (.int (own_b w3 8)), (.int (own_b w3 16)), (.int (own_b w3 24)), (.int (own_b w3 32)), (.int (own_b w3 40)), (.int (own_b w3 48)), (.int (own_b w3 56))]
theorem own_putLen (vs : List Value) (o : Nat) (w : Int64) (h : vs.length = 32) : (own_put vs o w).length = 32 := by simp [own_put, h]
theorem own_fullE (w0 w1 w2 w3 : Int64) : own_put (own_put (own_put (own_put [(.int (0 : Int32)), (.int (0 : Int32)), (.int (0 : Int32)), (.int (0 : Int32)), (.int (0 : Int32)), (.int (0 : Int32)), (.int (0 : Int32)), (.int (0 : Int32)), (.int (0 : Int32)), (.int (0 : Int32)), (.int (0 : Int32)), (.int (0 : Int32)), (.int (0 : Int32)), (.int (0 : Int32)), (.int (0 : Int32)), (.int (0 : Int32)), (.int (0 : Int32)), (.int (0 : Int32)), (.int (0 : Int32)), (.int (0 : Int32)), (.int (0 : Int32)), (.int (0 : Int32)), (.int (0 : Int32)), (.int (0 : Int32)), (.int (0 : Int32)), (.int (0 : Int32)), (.int (0 : Int32)), (.int (0 : Int32)), (.int (0 : Int32)), (.int (0 : Int32)), (.int (0 : Int32)), (.int (0 : Int32))] 0 w0) 8 w1) 16 w2) 24 w3 = own_full w0 w1 w2 w3 := by simp [own_put, own_full]
theorem own_pn0 : plainName "com/example/idemnity/idemnity/model/Sha256FromDigestPinLaw" = true := by first | (simp [plainName, overriddenIn]; done) | decide +kernel
theorem own_d1_0 : decode method_2_code 0 = .ok (.aload_n 0, 1) := by decide +kernel
theorem own_d1_1 : decode method_2_code 1 = .ok (.iload_n 1, 1) := by decide +kernel
theorem own_d1_2 : decode method_2_code 2 = .ok (.lload_n 2, 1) := by decide +kernel
theorem own_d1_3 : decode method_2_code 3 = .ok (.l2i, 1) := by decide +kernel
theorem own_d1_4 : decode method_2_code 4 = .ok (.i2b, 1) := by decide +kernel
theorem own_d1_5 : decode method_2_code 5 = .ok (.bastore, 1) := by decide +kernel
theorem own_d1_6 : decode method_2_code 6 = .ok (.aload_n 0, 1) := by decide +kernel
theorem own_d1_7 : decode method_2_code 7 = .ok (.iload_n 1, 1) := by decide +kernel
theorem own_d1_8 : decode method_2_code 8 = .ok (.iconst 1, 1) := by decide +kernel
theorem own_d1_9 : decode method_2_code 9 = .ok (.iadd, 1) := by decide +kernel
theorem own_d1_10 : decode method_2_code 10 = .ok (.lload_n 2, 1) := by decide +kernel
theorem own_d1_11 : decode method_2_code 11 = .ok (.bipush 8, 2) := by decide +kernel
theorem own_d1_13 : decode method_2_code 13 = .ok (.lushr, 1) := by decide +kernel
theorem own_d1_14 : decode method_2_code 14 = .ok (.l2i, 1) := by decide +kernel
theorem own_d1_15 : decode method_2_code 15 = .ok (.i2b, 1) := by decide +kernel
theorem own_d1_16 : decode method_2_code 16 = .ok (.bastore, 1) := by decide +kernel
theorem own_d1_17 : decode method_2_code 17 = .ok (.aload_n 0, 1) := by decide +kernel
theorem own_d1_18 : decode method_2_code 18 = .ok (.iload_n 1, 1) := by decide +kernel
theorem own_d1_19 : decode method_2_code 19 = .ok (.iconst 2, 1) := by decide +kernel
theorem own_d1_20 : decode method_2_code 20 = .ok (.iadd, 1) := by decide +kernel
theorem own_d1_21 : decode method_2_code 21 = .ok (.lload_n 2, 1) := by decide +kernel
theorem own_d1_22 : decode method_2_code 22 = .ok (.bipush 16, 2) := by decide +kernel
theorem own_d1_24 : decode method_2_code 24 = .ok (.lushr, 1) := by decide +kernel
theorem own_d1_25 : decode method_2_code 25 = .ok (.l2i, 1) := by decide +kernel
theorem own_d1_26 : decode method_2_code 26 = .ok (.i2b, 1) := by decide +kernel
theorem own_d1_27 : decode method_2_code 27 = .ok (.bastore, 1) := by decide +kernel
theorem own_d1_28 : decode method_2_code 28 = .ok (.aload_n 0, 1) := by decide +kernel
theorem own_d1_29 : decode method_2_code 29 = .ok (.iload_n 1, 1) := by decide +kernel
theorem own_d1_30 : decode method_2_code 30 = .ok (.iconst 3, 1) := by decide +kernel
theorem own_d1_31 : decode method_2_code 31 = .ok (.iadd, 1) := by decide +kernel
theorem own_d1_32 : decode method_2_code 32 = .ok (.lload_n 2, 1) := by decide +kernel
theorem own_d1_33 : decode method_2_code 33 = .ok (.bipush 24, 2) := by decide +kernel
theorem own_d1_35 : decode method_2_code 35 = .ok (.lushr, 1) := by decide +kernel
theorem own_d1_36 : decode method_2_code 36 = .ok (.l2i, 1) := by decide +kernel
theorem own_d1_37 : decode method_2_code 37 = .ok (.i2b, 1) := by decide +kernel
theorem own_d1_38 : decode method_2_code 38 = .ok (.bastore, 1) := by decide +kernel
theorem own_d1_39 : decode method_2_code 39 = .ok (.aload_n 0, 1) := by decide +kernel
theorem own_d1_40 : decode method_2_code 40 = .ok (.iload_n 1, 1) := by decide +kernel
theorem own_d1_41 : decode method_2_code 41 = .ok (.iconst 4, 1) := by decide +kernel
theorem own_d1_42 : decode method_2_code 42 = .ok (.iadd, 1) := by decide +kernel
theorem own_d1_43 : decode method_2_code 43 = .ok (.lload_n 2, 1) := by decide +kernel
theorem own_d1_44 : decode method_2_code 44 = .ok (.bipush 32, 2) := by decide +kernel
theorem own_d1_46 : decode method_2_code 46 = .ok (.lushr, 1) := by decide +kernel
theorem own_d1_47 : decode method_2_code 47 = .ok (.l2i, 1) := by decide +kernel
theorem own_d1_48 : decode method_2_code 48 = .ok (.i2b, 1) := by decide +kernel
theorem own_d1_49 : decode method_2_code 49 = .ok (.bastore, 1) := by decide +kernel
theorem own_d1_50 : decode method_2_code 50 = .ok (.aload_n 0, 1) := by decide +kernel
theorem own_d1_51 : decode method_2_code 51 = .ok (.iload_n 1, 1) := by decide +kernel
theorem own_d1_52 : decode method_2_code 52 = .ok (.iconst 5, 1) := by decide +kernel
theorem own_d1_53 : decode method_2_code 53 = .ok (.iadd, 1) := by decide +kernel
theorem own_d1_54 : decode method_2_code 54 = .ok (.lload_n 2, 1) := by decide +kernel
theorem own_d1_55 : decode method_2_code 55 = .ok (.bipush 40, 2) := by decide +kernel
theorem own_d1_57 : decode method_2_code 57 = .ok (.lushr, 1) := by decide +kernel
theorem own_d1_58 : decode method_2_code 58 = .ok (.l2i, 1) := by decide +kernel
theorem own_d1_59 : decode method_2_code 59 = .ok (.i2b, 1) := by decide +kernel
theorem own_d1_60 : decode method_2_code 60 = .ok (.bastore, 1) := by decide +kernel
theorem own_d1_61 : decode method_2_code 61 = .ok (.aload_n 0, 1) := by decide +kernel
theorem own_d1_62 : decode method_2_code 62 = .ok (.iload_n 1, 1) := by decide +kernel
theorem own_d1_63 : decode method_2_code 63 = .ok (.bipush 6, 2) := by decide +kernel
theorem own_d1_65 : decode method_2_code 65 = .ok (.iadd, 1) := by decide +kernel
theorem own_d1_66 : decode method_2_code 66 = .ok (.lload_n 2, 1) := by decide +kernel
theorem own_d1_67 : decode method_2_code 67 = .ok (.bipush 48, 2) := by decide +kernel
theorem own_d1_69 : decode method_2_code 69 = .ok (.lushr, 1) := by decide +kernel
theorem own_d1_70 : decode method_2_code 70 = .ok (.l2i, 1) := by decide +kernel
theorem own_d1_71 : decode method_2_code 71 = .ok (.i2b, 1) := by decide +kernel
theorem own_d1_72 : decode method_2_code 72 = .ok (.bastore, 1) := by decide +kernel
theorem own_d1_73 : decode method_2_code 73 = .ok (.aload_n 0, 1) := by decide +kernel
theorem own_d1_74 : decode method_2_code 74 = .ok (.iload_n 1, 1) := by decide +kernel
theorem own_d1_75 : decode method_2_code 75 = .ok (.bipush 7, 2) := by decide +kernel
theorem own_d1_77 : decode method_2_code 77 = .ok (.iadd, 1) := by decide +kernel
theorem own_d1_78 : decode method_2_code 78 = .ok (.lload_n 2, 1) := by decide +kernel
theorem own_d1_79 : decode method_2_code 79 = .ok (.bipush 56, 2) := by decide +kernel
theorem own_d1_81 : decode method_2_code 81 = .ok (.lushr, 1) := by decide +kernel
theorem own_d1_82 : decode method_2_code 82 = .ok (.l2i, 1) := by decide +kernel
theorem own_d1_83 : decode method_2_code 83 = .ok (.i2b, 1) := by decide +kernel
theorem own_d1_84 : decode method_2_code 84 = .ok (.bastore, 1) := by decide +kernel
theorem own_d1_85 : decode method_2_code 85 = .ok (.return_, 1) := by decide +kernel
def Q_own_put0 (Z : State) (r1 : Addr) (u1 : Int64) (kk : ClassId) (xs : List Value) (h0 : Heap) (n0 : Nat) (v : Option Value) (h : Heap) (L : List Loc) : Prop := v = none ∧ Fr n0 L ∧ Keep h0 h [r1] ∧ Arv Z h r1 kk .byte (32 : Int32) (own_put xs 0 u1) (.int (0 : Int32))
theorem own_ef_own_put0 (m : MethodId) (r1 : Addr) (u1 : Int64) : entryFrame m #[(.ref r1), (.int (0 : Int32)), (.long u1)] 4 = mkF m 0 #[.val (.ref r1), .val (.int (0 : Int32)), .val (.long u1), .second] [] := by first | (simp [entryFrame, mkF, argsToLocals, Value.category]; done) | rfl
set_option maxRecDepth 65536 in
set_option maxHeartbeats 40000000 in
theorem own_put0 (l : Launch) (Z : State) (a0 : Array Value) (hw : ∀ d ∈ tables_1, d.before a0 Z = true) (ws : List Jvm.Cond) (r1 : Addr) (u1 : Int64) (kk : ClassId) (xs : List Value) (h0 : Heap) (n0 : Nat) (Z0 : n0 ≤ h0.size) (V1 : Arv Z h0 r1 kk .byte (32 : Int32) xs (.int (0 : Int32))) (hl : xs.length = 32) (g1 : n0 ≤ r1) :
    own_Ctr l Z (⟨"com/example/idemnity/idemnity/model/Sha256FromDigestPinLaw", "put", "([BIJ)V"⟩ : MethodName) method_2_code 4 none ws ({ frames := 0, cells := 0, slots := 0, locals := 0 } : Room) (({ frames := 0, cells := 0, slots := 0, locals := 0 } : Room)).cells (({ frames := 0, cells := 0, slots := 0, locals := 0 } : Room)).slots #[(.ref r1), (.int (0 : Int32)), (.long u1)] h0 (Q_own_put0 Z r1 u1 kk xs h0 n0) := by
  refine own_enter (plainFor_of_name own_pn0) ?_
  intro p e s m below meth c s₁ X0 hx hZ hby hml hown hnm hlk hret e0
  have N0 := Fr.nil n0
  refine own_cast (own_ef_own_put0 m r1 u1) ?_
  refine own_by (g' := (mkF m 1 #[.val (.ref r1), .val (.int (0 : Int32)), .val (.long u1), .second] [(.ref r1)])) (fun t k => XS.aloadN X0.here hx rfl (hb hby own_d1_0) rfl rfl k) ?_
  refine own_by (g' := (mkF m 2 #[.val (.ref r1), .val (.int (0 : Int32)), .val (.long u1), .second] [(.int (0 : Int32)), (.ref r1)])) (fun t k => XS.iloadN X0.here hx rfl (hb hby own_d1_1) rfl k) ?_
  refine own_by (g' := (mkF m 3 #[.val (.ref r1), .val (.int (0 : Int32)), .val (.long u1), .second] [(.long u1), (.int (0 : Int32)), (.ref r1)])) (fun t k => XS.lloadN X0.here hx rfl (hb hby own_d1_2) rfl k) ?_
  refine own_by (g' := (mkF m 4 #[.val (.ref r1), .val (.int (0 : Int32)), .val (.long u1), .second] [(.int (u1).toInt32), (.int (0 : Int32)), (.ref r1)])) (fun t k => XS.l2i X0.here hx rfl (hb hby own_d1_3) rfl k) ?_
  refine own_by (g' := (mkF m 5 #[.val (.ref r1), .val (.int (0 : Int32)), .val (.long u1), .second] [(.int ((u1).toInt32).toInt8.toInt32), (.int (0 : Int32)), (.ref r1)])) (fun t k => XS.i2b X0.here hx rfl (hb hby own_d1_4) rfl k) ?_
  obtain ⟨c101, Ar101, q101, S101, G101, H101, F101⟩ := id V1
  have hin101 : ¬ ((0 : Int32) < 0 ∨ c101.slots.size ≤ ((0 : Int32)).toNatClampNeg) := inb_of S101 ⟨by decide, by decide⟩
  obtain ⟨T101, h101, X101, e101, W101, st101⟩ := stB X0 hx hZ e0 Ar101 (j := (0 : Int32)) hin101 (g := (mkF m 5 #[.val (.ref r1), .val (.int (0 : Int32)), .val (.long u1), .second] [(.int ((u1).toInt32).toInt8.toInt32), (.int (0 : Int32)), (.ref r1)])) rfl rfl (hb hby own_d1_5)
  have V102 : Arv Z h101 r1 kk .byte (32 : Int32) (xs.set 0 (.int (own_b0 u1))) (.int (0 : Int32)) := Arv.set Ar101 q101 S101 G101 H101 F101 (fits_nar_byte _) (own_wr (v' := .int (own_b0 u1)) W101 (congrArg Value.int (own_b8 _))) 0 rfl (by simp [hl])
  have N101 := Fr.snoc X101 N0 g1
  refine own_by (g' := (mkF m 6 #[.val (.ref r1), .val (.int (0 : Int32)), .val (.long u1), .second] [])) st101 ?_
  refine own_by (g' := (mkF m 7 #[.val (.ref r1), .val (.int (0 : Int32)), .val (.long u1), .second] [(.ref r1)])) (fun t k => XS.aloadN X101.here hx rfl (hb hby own_d1_6) rfl rfl k) ?_
  refine own_by (g' := (mkF m 8 #[.val (.ref r1), .val (.int (0 : Int32)), .val (.long u1), .second] [(.int (0 : Int32)), (.ref r1)])) (fun t k => XS.iloadN X101.here hx rfl (hb hby own_d1_7) rfl k) ?_
  refine own_by (g' := (mkF m 9 #[.val (.ref r1), .val (.int (0 : Int32)), .val (.long u1), .second] [(.int (1 : Int32)), (.int (0 : Int32)), (.ref r1)])) (fun t k => XS.iconst X101.here hx rfl (hb hby own_d1_8) k) ?_
  refine own_by (g' := (mkF m 10 #[.val (.ref r1), .val (.int (0 : Int32)), .val (.long u1), .second] [(.int (1 : Int32)), (.ref r1)])) (fun t k => XS.iadd X101.here hx rfl (hb hby own_d1_9) rfl k) ?_
  refine own_by (g' := (mkF m 11 #[.val (.ref r1), .val (.int (0 : Int32)), .val (.long u1), .second] [(.long u1), (.int (1 : Int32)), (.ref r1)])) (fun t k => XS.lloadN X101.here hx rfl (hb hby own_d1_10) rfl k) ?_
  refine own_by (g' := (mkF m 13 #[.val (.ref r1), .val (.int (0 : Int32)), .val (.long u1), .second] [(.int (8 : Int32)), (.long u1), (.int (1 : Int32)), (.ref r1)])) (fun t k => XS.bipush X101.here hx rfl (hb hby own_d1_11) k) ?_
  refine own_by (g' := (mkF m 14 #[.val (.ref r1), .val (.int (0 : Int32)), .val (.long u1), .second] [(.long ((u1).toUInt64 >>> ((8 : Int32) &&& 0x3f).toInt64.toUInt64).toInt64), (.int (1 : Int32)), (.ref r1)])) (fun t k => XS.lushr X101.here hx rfl (hb hby own_d1_13) rfl k) ?_
  refine own_by (g' := (mkF m 15 #[.val (.ref r1), .val (.int (0 : Int32)), .val (.long u1), .second] [(.int (((u1).toUInt64 >>> ((8 : Int32) &&& 0x3f).toInt64.toUInt64).toInt64).toInt32), (.int (1 : Int32)), (.ref r1)])) (fun t k => XS.l2i X101.here hx rfl (hb hby own_d1_14) rfl k) ?_
  refine own_by (g' := (mkF m 16 #[.val (.ref r1), .val (.int (0 : Int32)), .val (.long u1), .second] [(.int ((((u1).toUInt64 >>> ((8 : Int32) &&& 0x3f).toInt64.toUInt64).toInt64).toInt32).toInt8.toInt32), (.int (1 : Int32)), (.ref r1)])) (fun t k => XS.i2b X101.here hx rfl (hb hby own_d1_15) rfl k) ?_
  obtain ⟨c103, Ar103, q103, S103, G103, H103, F103⟩ := id V102
  have hin103 : ¬ ((1 : Int32) < 0 ∨ c103.slots.size ≤ ((1 : Int32)).toNatClampNeg) := inb_of S103 ⟨by decide, by decide⟩
  obtain ⟨T103, h103, X103, e103, W103, st103⟩ := stB X101 hx hZ e101 Ar103 (j := (1 : Int32)) hin103 (g := (mkF m 16 #[.val (.ref r1), .val (.int (0 : Int32)), .val (.long u1), .second] [(.int ((((u1).toUInt64 >>> ((8 : Int32) &&& 0x3f).toInt64.toUInt64).toInt64).toInt32).toInt8.toInt32), (.int (1 : Int32)), (.ref r1)])) rfl rfl (hb hby own_d1_16)
  have V104 : Arv Z h103 r1 kk .byte (32 : Int32) ((xs.set 0 (.int (own_b0 u1))).set 1 (.int (own_b u1 8))) (.int (0 : Int32)) := Arv.set Ar103 q103 S103 G103 H103 F103 (fits_nar_byte _) (own_wr (v' := .int (own_b u1 8)) W103 (congrArg Value.int (own_b8 _))) 1 rfl (by simp [hl])
  have N103 := Fr.snoc X103 N101 g1
  refine own_by (g' := (mkF m 17 #[.val (.ref r1), .val (.int (0 : Int32)), .val (.long u1), .second] [])) st103 ?_
  refine own_by (g' := (mkF m 18 #[.val (.ref r1), .val (.int (0 : Int32)), .val (.long u1), .second] [(.ref r1)])) (fun t k => XS.aloadN X103.here hx rfl (hb hby own_d1_17) rfl rfl k) ?_
  refine own_by (g' := (mkF m 19 #[.val (.ref r1), .val (.int (0 : Int32)), .val (.long u1), .second] [(.int (0 : Int32)), (.ref r1)])) (fun t k => XS.iloadN X103.here hx rfl (hb hby own_d1_18) rfl k) ?_
  refine own_by (g' := (mkF m 20 #[.val (.ref r1), .val (.int (0 : Int32)), .val (.long u1), .second] [(.int (2 : Int32)), (.int (0 : Int32)), (.ref r1)])) (fun t k => XS.iconst X103.here hx rfl (hb hby own_d1_19) k) ?_
  refine own_by (g' := (mkF m 21 #[.val (.ref r1), .val (.int (0 : Int32)), .val (.long u1), .second] [(.int (2 : Int32)), (.ref r1)])) (fun t k => XS.iadd X103.here hx rfl (hb hby own_d1_20) rfl k) ?_
  refine own_by (g' := (mkF m 22 #[.val (.ref r1), .val (.int (0 : Int32)), .val (.long u1), .second] [(.long u1), (.int (2 : Int32)), (.ref r1)])) (fun t k => XS.lloadN X103.here hx rfl (hb hby own_d1_21) rfl k) ?_
  refine own_by (g' := (mkF m 24 #[.val (.ref r1), .val (.int (0 : Int32)), .val (.long u1), .second] [(.int (16 : Int32)), (.long u1), (.int (2 : Int32)), (.ref r1)])) (fun t k => XS.bipush X103.here hx rfl (hb hby own_d1_22) k) ?_
  refine own_by (g' := (mkF m 25 #[.val (.ref r1), .val (.int (0 : Int32)), .val (.long u1), .second] [(.long ((u1).toUInt64 >>> ((16 : Int32) &&& 0x3f).toInt64.toUInt64).toInt64), (.int (2 : Int32)), (.ref r1)])) (fun t k => XS.lushr X103.here hx rfl (hb hby own_d1_24) rfl k) ?_
  refine own_by (g' := (mkF m 26 #[.val (.ref r1), .val (.int (0 : Int32)), .val (.long u1), .second] [(.int (((u1).toUInt64 >>> ((16 : Int32) &&& 0x3f).toInt64.toUInt64).toInt64).toInt32), (.int (2 : Int32)), (.ref r1)])) (fun t k => XS.l2i X103.here hx rfl (hb hby own_d1_25) rfl k) ?_
  refine own_by (g' := (mkF m 27 #[.val (.ref r1), .val (.int (0 : Int32)), .val (.long u1), .second] [(.int ((((u1).toUInt64 >>> ((16 : Int32) &&& 0x3f).toInt64.toUInt64).toInt64).toInt32).toInt8.toInt32), (.int (2 : Int32)), (.ref r1)])) (fun t k => XS.i2b X103.here hx rfl (hb hby own_d1_26) rfl k) ?_
  obtain ⟨c105, Ar105, q105, S105, G105, H105, F105⟩ := id V104
  have hin105 : ¬ ((2 : Int32) < 0 ∨ c105.slots.size ≤ ((2 : Int32)).toNatClampNeg) := inb_of S105 ⟨by decide, by decide⟩
  obtain ⟨T105, h105, X105, e105, W105, st105⟩ := stB X103 hx hZ e103 Ar105 (j := (2 : Int32)) hin105 (g := (mkF m 27 #[.val (.ref r1), .val (.int (0 : Int32)), .val (.long u1), .second] [(.int ((((u1).toUInt64 >>> ((16 : Int32) &&& 0x3f).toInt64.toUInt64).toInt64).toInt32).toInt8.toInt32), (.int (2 : Int32)), (.ref r1)])) rfl rfl (hb hby own_d1_27)
  have V106 : Arv Z h105 r1 kk .byte (32 : Int32) (((xs.set 0 (.int (own_b0 u1))).set 1 (.int (own_b u1 8))).set 2 (.int (own_b u1 16))) (.int (0 : Int32)) := Arv.set Ar105 q105 S105 G105 H105 F105 (fits_nar_byte _) (own_wr (v' := .int (own_b u1 16)) W105 (congrArg Value.int (own_b8 _))) 2 rfl (by simp [hl])
  have N105 := Fr.snoc X105 N103 g1
  refine own_by (g' := (mkF m 28 #[.val (.ref r1), .val (.int (0 : Int32)), .val (.long u1), .second] [])) st105 ?_
  refine own_by (g' := (mkF m 29 #[.val (.ref r1), .val (.int (0 : Int32)), .val (.long u1), .second] [(.ref r1)])) (fun t k => XS.aloadN X105.here hx rfl (hb hby own_d1_28) rfl rfl k) ?_
  refine own_by (g' := (mkF m 30 #[.val (.ref r1), .val (.int (0 : Int32)), .val (.long u1), .second] [(.int (0 : Int32)), (.ref r1)])) (fun t k => XS.iloadN X105.here hx rfl (hb hby own_d1_29) rfl k) ?_
  refine own_by (g' := (mkF m 31 #[.val (.ref r1), .val (.int (0 : Int32)), .val (.long u1), .second] [(.int (3 : Int32)), (.int (0 : Int32)), (.ref r1)])) (fun t k => XS.iconst X105.here hx rfl (hb hby own_d1_30) k) ?_
  refine own_by (g' := (mkF m 32 #[.val (.ref r1), .val (.int (0 : Int32)), .val (.long u1), .second] [(.int (3 : Int32)), (.ref r1)])) (fun t k => XS.iadd X105.here hx rfl (hb hby own_d1_31) rfl k) ?_
  refine own_by (g' := (mkF m 33 #[.val (.ref r1), .val (.int (0 : Int32)), .val (.long u1), .second] [(.long u1), (.int (3 : Int32)), (.ref r1)])) (fun t k => XS.lloadN X105.here hx rfl (hb hby own_d1_32) rfl k) ?_
  refine own_by (g' := (mkF m 35 #[.val (.ref r1), .val (.int (0 : Int32)), .val (.long u1), .second] [(.int (24 : Int32)), (.long u1), (.int (3 : Int32)), (.ref r1)])) (fun t k => XS.bipush X105.here hx rfl (hb hby own_d1_33) k) ?_
  refine own_by (g' := (mkF m 36 #[.val (.ref r1), .val (.int (0 : Int32)), .val (.long u1), .second] [(.long ((u1).toUInt64 >>> ((24 : Int32) &&& 0x3f).toInt64.toUInt64).toInt64), (.int (3 : Int32)), (.ref r1)])) (fun t k => XS.lushr X105.here hx rfl (hb hby own_d1_35) rfl k) ?_
  refine own_by (g' := (mkF m 37 #[.val (.ref r1), .val (.int (0 : Int32)), .val (.long u1), .second] [(.int (((u1).toUInt64 >>> ((24 : Int32) &&& 0x3f).toInt64.toUInt64).toInt64).toInt32), (.int (3 : Int32)), (.ref r1)])) (fun t k => XS.l2i X105.here hx rfl (hb hby own_d1_36) rfl k) ?_
  refine own_by (g' := (mkF m 38 #[.val (.ref r1), .val (.int (0 : Int32)), .val (.long u1), .second] [(.int ((((u1).toUInt64 >>> ((24 : Int32) &&& 0x3f).toInt64.toUInt64).toInt64).toInt32).toInt8.toInt32), (.int (3 : Int32)), (.ref r1)])) (fun t k => XS.i2b X105.here hx rfl (hb hby own_d1_37) rfl k) ?_
  obtain ⟨c107, Ar107, q107, S107, G107, H107, F107⟩ := id V106
  have hin107 : ¬ ((3 : Int32) < 0 ∨ c107.slots.size ≤ ((3 : Int32)).toNatClampNeg) := inb_of S107 ⟨by decide, by decide⟩
  obtain ⟨T107, h107, X107, e107, W107, st107⟩ := stB X105 hx hZ e105 Ar107 (j := (3 : Int32)) hin107 (g := (mkF m 38 #[.val (.ref r1), .val (.int (0 : Int32)), .val (.long u1), .second] [(.int ((((u1).toUInt64 >>> ((24 : Int32) &&& 0x3f).toInt64.toUInt64).toInt64).toInt32).toInt8.toInt32), (.int (3 : Int32)), (.ref r1)])) rfl rfl (hb hby own_d1_38)
  have V108 : Arv Z h107 r1 kk .byte (32 : Int32) ((((xs.set 0 (.int (own_b0 u1))).set 1 (.int (own_b u1 8))).set 2 (.int (own_b u1 16))).set 3 (.int (own_b u1 24))) (.int (0 : Int32)) := Arv.set Ar107 q107 S107 G107 H107 F107 (fits_nar_byte _) (own_wr (v' := .int (own_b u1 24)) W107 (congrArg Value.int (own_b8 _))) 3 rfl (by simp [hl])
  have N107 := Fr.snoc X107 N105 g1
  refine own_by (g' := (mkF m 39 #[.val (.ref r1), .val (.int (0 : Int32)), .val (.long u1), .second] [])) st107 ?_
  refine own_by (g' := (mkF m 40 #[.val (.ref r1), .val (.int (0 : Int32)), .val (.long u1), .second] [(.ref r1)])) (fun t k => XS.aloadN X107.here hx rfl (hb hby own_d1_39) rfl rfl k) ?_
  refine own_by (g' := (mkF m 41 #[.val (.ref r1), .val (.int (0 : Int32)), .val (.long u1), .second] [(.int (0 : Int32)), (.ref r1)])) (fun t k => XS.iloadN X107.here hx rfl (hb hby own_d1_40) rfl k) ?_
  refine own_by (g' := (mkF m 42 #[.val (.ref r1), .val (.int (0 : Int32)), .val (.long u1), .second] [(.int (4 : Int32)), (.int (0 : Int32)), (.ref r1)])) (fun t k => XS.iconst X107.here hx rfl (hb hby own_d1_41) k) ?_
  refine own_by (g' := (mkF m 43 #[.val (.ref r1), .val (.int (0 : Int32)), .val (.long u1), .second] [(.int (4 : Int32)), (.ref r1)])) (fun t k => XS.iadd X107.here hx rfl (hb hby own_d1_42) rfl k) ?_
  refine own_by (g' := (mkF m 44 #[.val (.ref r1), .val (.int (0 : Int32)), .val (.long u1), .second] [(.long u1), (.int (4 : Int32)), (.ref r1)])) (fun t k => XS.lloadN X107.here hx rfl (hb hby own_d1_43) rfl k) ?_
  refine own_by (g' := (mkF m 46 #[.val (.ref r1), .val (.int (0 : Int32)), .val (.long u1), .second] [(.int (32 : Int32)), (.long u1), (.int (4 : Int32)), (.ref r1)])) (fun t k => XS.bipush X107.here hx rfl (hb hby own_d1_44) k) ?_
  refine own_by (g' := (mkF m 47 #[.val (.ref r1), .val (.int (0 : Int32)), .val (.long u1), .second] [(.long ((u1).toUInt64 >>> ((32 : Int32) &&& 0x3f).toInt64.toUInt64).toInt64), (.int (4 : Int32)), (.ref r1)])) (fun t k => XS.lushr X107.here hx rfl (hb hby own_d1_46) rfl k) ?_
  refine own_by (g' := (mkF m 48 #[.val (.ref r1), .val (.int (0 : Int32)), .val (.long u1), .second] [(.int (((u1).toUInt64 >>> ((32 : Int32) &&& 0x3f).toInt64.toUInt64).toInt64).toInt32), (.int (4 : Int32)), (.ref r1)])) (fun t k => XS.l2i X107.here hx rfl (hb hby own_d1_47) rfl k) ?_
  refine own_by (g' := (mkF m 49 #[.val (.ref r1), .val (.int (0 : Int32)), .val (.long u1), .second] [(.int ((((u1).toUInt64 >>> ((32 : Int32) &&& 0x3f).toInt64.toUInt64).toInt64).toInt32).toInt8.toInt32), (.int (4 : Int32)), (.ref r1)])) (fun t k => XS.i2b X107.here hx rfl (hb hby own_d1_48) rfl k) ?_
  obtain ⟨c109, Ar109, q109, S109, G109, H109, F109⟩ := id V108
  have hin109 : ¬ ((4 : Int32) < 0 ∨ c109.slots.size ≤ ((4 : Int32)).toNatClampNeg) := inb_of S109 ⟨by decide, by decide⟩
  obtain ⟨T109, h109, X109, e109, W109, st109⟩ := stB X107 hx hZ e107 Ar109 (j := (4 : Int32)) hin109 (g := (mkF m 49 #[.val (.ref r1), .val (.int (0 : Int32)), .val (.long u1), .second] [(.int ((((u1).toUInt64 >>> ((32 : Int32) &&& 0x3f).toInt64.toUInt64).toInt64).toInt32).toInt8.toInt32), (.int (4 : Int32)), (.ref r1)])) rfl rfl (hb hby own_d1_49)
  have V110 : Arv Z h109 r1 kk .byte (32 : Int32) (((((xs.set 0 (.int (own_b0 u1))).set 1 (.int (own_b u1 8))).set 2 (.int (own_b u1 16))).set 3 (.int (own_b u1 24))).set 4 (.int (own_b u1 32))) (.int (0 : Int32)) := Arv.set Ar109 q109 S109 G109 H109 F109 (fits_nar_byte _) (own_wr (v' := .int (own_b u1 32)) W109 (congrArg Value.int (own_b8 _))) 4 rfl (by simp [hl])
  have N109 := Fr.snoc X109 N107 g1
  refine own_by (g' := (mkF m 50 #[.val (.ref r1), .val (.int (0 : Int32)), .val (.long u1), .second] [])) st109 ?_
  refine own_by (g' := (mkF m 51 #[.val (.ref r1), .val (.int (0 : Int32)), .val (.long u1), .second] [(.ref r1)])) (fun t k => XS.aloadN X109.here hx rfl (hb hby own_d1_50) rfl rfl k) ?_
  refine own_by (g' := (mkF m 52 #[.val (.ref r1), .val (.int (0 : Int32)), .val (.long u1), .second] [(.int (0 : Int32)), (.ref r1)])) (fun t k => XS.iloadN X109.here hx rfl (hb hby own_d1_51) rfl k) ?_
  refine own_by (g' := (mkF m 53 #[.val (.ref r1), .val (.int (0 : Int32)), .val (.long u1), .second] [(.int (5 : Int32)), (.int (0 : Int32)), (.ref r1)])) (fun t k => XS.iconst X109.here hx rfl (hb hby own_d1_52) k) ?_
  refine own_by (g' := (mkF m 54 #[.val (.ref r1), .val (.int (0 : Int32)), .val (.long u1), .second] [(.int (5 : Int32)), (.ref r1)])) (fun t k => XS.iadd X109.here hx rfl (hb hby own_d1_53) rfl k) ?_
  refine own_by (g' := (mkF m 55 #[.val (.ref r1), .val (.int (0 : Int32)), .val (.long u1), .second] [(.long u1), (.int (5 : Int32)), (.ref r1)])) (fun t k => XS.lloadN X109.here hx rfl (hb hby own_d1_54) rfl k) ?_
  refine own_by (g' := (mkF m 57 #[.val (.ref r1), .val (.int (0 : Int32)), .val (.long u1), .second] [(.int (40 : Int32)), (.long u1), (.int (5 : Int32)), (.ref r1)])) (fun t k => XS.bipush X109.here hx rfl (hb hby own_d1_55) k) ?_
  refine own_by (g' := (mkF m 58 #[.val (.ref r1), .val (.int (0 : Int32)), .val (.long u1), .second] [(.long ((u1).toUInt64 >>> ((40 : Int32) &&& 0x3f).toInt64.toUInt64).toInt64), (.int (5 : Int32)), (.ref r1)])) (fun t k => XS.lushr X109.here hx rfl (hb hby own_d1_57) rfl k) ?_
  refine own_by (g' := (mkF m 59 #[.val (.ref r1), .val (.int (0 : Int32)), .val (.long u1), .second] [(.int (((u1).toUInt64 >>> ((40 : Int32) &&& 0x3f).toInt64.toUInt64).toInt64).toInt32), (.int (5 : Int32)), (.ref r1)])) (fun t k => XS.l2i X109.here hx rfl (hb hby own_d1_58) rfl k) ?_
  refine own_by (g' := (mkF m 60 #[.val (.ref r1), .val (.int (0 : Int32)), .val (.long u1), .second] [(.int ((((u1).toUInt64 >>> ((40 : Int32) &&& 0x3f).toInt64.toUInt64).toInt64).toInt32).toInt8.toInt32), (.int (5 : Int32)), (.ref r1)])) (fun t k => XS.i2b X109.here hx rfl (hb hby own_d1_59) rfl k) ?_
  obtain ⟨c111, Ar111, q111, S111, G111, H111, F111⟩ := id V110
  have hin111 : ¬ ((5 : Int32) < 0 ∨ c111.slots.size ≤ ((5 : Int32)).toNatClampNeg) := inb_of S111 ⟨by decide, by decide⟩
  obtain ⟨T111, h111, X111, e111, W111, st111⟩ := stB X109 hx hZ e109 Ar111 (j := (5 : Int32)) hin111 (g := (mkF m 60 #[.val (.ref r1), .val (.int (0 : Int32)), .val (.long u1), .second] [(.int ((((u1).toUInt64 >>> ((40 : Int32) &&& 0x3f).toInt64.toUInt64).toInt64).toInt32).toInt8.toInt32), (.int (5 : Int32)), (.ref r1)])) rfl rfl (hb hby own_d1_60)
  have V112 : Arv Z h111 r1 kk .byte (32 : Int32) ((((((xs.set 0 (.int (own_b0 u1))).set 1 (.int (own_b u1 8))).set 2 (.int (own_b u1 16))).set 3 (.int (own_b u1 24))).set 4 (.int (own_b u1 32))).set 5 (.int (own_b u1 40))) (.int (0 : Int32)) := Arv.set Ar111 q111 S111 G111 H111 F111 (fits_nar_byte _) (own_wr (v' := .int (own_b u1 40)) W111 (congrArg Value.int (own_b8 _))) 5 rfl (by simp [hl])
  have N111 := Fr.snoc X111 N109 g1
  refine own_by (g' := (mkF m 61 #[.val (.ref r1), .val (.int (0 : Int32)), .val (.long u1), .second] [])) st111 ?_
  refine own_by (g' := (mkF m 62 #[.val (.ref r1), .val (.int (0 : Int32)), .val (.long u1), .second] [(.ref r1)])) (fun t k => XS.aloadN X111.here hx rfl (hb hby own_d1_61) rfl rfl k) ?_
  refine own_by (g' := (mkF m 63 #[.val (.ref r1), .val (.int (0 : Int32)), .val (.long u1), .second] [(.int (0 : Int32)), (.ref r1)])) (fun t k => XS.iloadN X111.here hx rfl (hb hby own_d1_62) rfl k) ?_
  refine own_by (g' := (mkF m 65 #[.val (.ref r1), .val (.int (0 : Int32)), .val (.long u1), .second] [(.int (6 : Int32)), (.int (0 : Int32)), (.ref r1)])) (fun t k => XS.bipush X111.here hx rfl (hb hby own_d1_63) k) ?_
  refine own_by (g' := (mkF m 66 #[.val (.ref r1), .val (.int (0 : Int32)), .val (.long u1), .second] [(.int (6 : Int32)), (.ref r1)])) (fun t k => XS.iadd X111.here hx rfl (hb hby own_d1_65) rfl k) ?_
  refine own_by (g' := (mkF m 67 #[.val (.ref r1), .val (.int (0 : Int32)), .val (.long u1), .second] [(.long u1), (.int (6 : Int32)), (.ref r1)])) (fun t k => XS.lloadN X111.here hx rfl (hb hby own_d1_66) rfl k) ?_
  refine own_by (g' := (mkF m 69 #[.val (.ref r1), .val (.int (0 : Int32)), .val (.long u1), .second] [(.int (48 : Int32)), (.long u1), (.int (6 : Int32)), (.ref r1)])) (fun t k => XS.bipush X111.here hx rfl (hb hby own_d1_67) k) ?_
  refine own_by (g' := (mkF m 70 #[.val (.ref r1), .val (.int (0 : Int32)), .val (.long u1), .second] [(.long ((u1).toUInt64 >>> ((48 : Int32) &&& 0x3f).toInt64.toUInt64).toInt64), (.int (6 : Int32)), (.ref r1)])) (fun t k => XS.lushr X111.here hx rfl (hb hby own_d1_69) rfl k) ?_
  refine own_by (g' := (mkF m 71 #[.val (.ref r1), .val (.int (0 : Int32)), .val (.long u1), .second] [(.int (((u1).toUInt64 >>> ((48 : Int32) &&& 0x3f).toInt64.toUInt64).toInt64).toInt32), (.int (6 : Int32)), (.ref r1)])) (fun t k => XS.l2i X111.here hx rfl (hb hby own_d1_70) rfl k) ?_
  refine own_by (g' := (mkF m 72 #[.val (.ref r1), .val (.int (0 : Int32)), .val (.long u1), .second] [(.int ((((u1).toUInt64 >>> ((48 : Int32) &&& 0x3f).toInt64.toUInt64).toInt64).toInt32).toInt8.toInt32), (.int (6 : Int32)), (.ref r1)])) (fun t k => XS.i2b X111.here hx rfl (hb hby own_d1_71) rfl k) ?_
  obtain ⟨c113, Ar113, q113, S113, G113, H113, F113⟩ := id V112
  have hin113 : ¬ ((6 : Int32) < 0 ∨ c113.slots.size ≤ ((6 : Int32)).toNatClampNeg) := inb_of S113 ⟨by decide, by decide⟩
  obtain ⟨T113, h113, X113, e113, W113, st113⟩ := stB X111 hx hZ e111 Ar113 (j := (6 : Int32)) hin113 (g := (mkF m 72 #[.val (.ref r1), .val (.int (0 : Int32)), .val (.long u1), .second] [(.int ((((u1).toUInt64 >>> ((48 : Int32) &&& 0x3f).toInt64.toUInt64).toInt64).toInt32).toInt8.toInt32), (.int (6 : Int32)), (.ref r1)])) rfl rfl (hb hby own_d1_72)
  have V114 : Arv Z h113 r1 kk .byte (32 : Int32) (((((((xs.set 0 (.int (own_b0 u1))).set 1 (.int (own_b u1 8))).set 2 (.int (own_b u1 16))).set 3 (.int (own_b u1 24))).set 4 (.int (own_b u1 32))).set 5 (.int (own_b u1 40))).set 6 (.int (own_b u1 48))) (.int (0 : Int32)) := Arv.set Ar113 q113 S113 G113 H113 F113 (fits_nar_byte _) (own_wr (v' := .int (own_b u1 48)) W113 (congrArg Value.int (own_b8 _))) 6 rfl (by simp [hl])
  have N113 := Fr.snoc X113 N111 g1
  refine own_by (g' := (mkF m 73 #[.val (.ref r1), .val (.int (0 : Int32)), .val (.long u1), .second] [])) st113 ?_
  refine own_by (g' := (mkF m 74 #[.val (.ref r1), .val (.int (0 : Int32)), .val (.long u1), .second] [(.ref r1)])) (fun t k => XS.aloadN X113.here hx rfl (hb hby own_d1_73) rfl rfl k) ?_
  refine own_by (g' := (mkF m 75 #[.val (.ref r1), .val (.int (0 : Int32)), .val (.long u1), .second] [(.int (0 : Int32)), (.ref r1)])) (fun t k => XS.iloadN X113.here hx rfl (hb hby own_d1_74) rfl k) ?_
  refine own_by (g' := (mkF m 77 #[.val (.ref r1), .val (.int (0 : Int32)), .val (.long u1), .second] [(.int (7 : Int32)), (.int (0 : Int32)), (.ref r1)])) (fun t k => XS.bipush X113.here hx rfl (hb hby own_d1_75) k) ?_
  refine own_by (g' := (mkF m 78 #[.val (.ref r1), .val (.int (0 : Int32)), .val (.long u1), .second] [(.int (7 : Int32)), (.ref r1)])) (fun t k => XS.iadd X113.here hx rfl (hb hby own_d1_77) rfl k) ?_
  refine own_by (g' := (mkF m 79 #[.val (.ref r1), .val (.int (0 : Int32)), .val (.long u1), .second] [(.long u1), (.int (7 : Int32)), (.ref r1)])) (fun t k => XS.lloadN X113.here hx rfl (hb hby own_d1_78) rfl k) ?_
  refine own_by (g' := (mkF m 81 #[.val (.ref r1), .val (.int (0 : Int32)), .val (.long u1), .second] [(.int (56 : Int32)), (.long u1), (.int (7 : Int32)), (.ref r1)])) (fun t k => XS.bipush X113.here hx rfl (hb hby own_d1_79) k) ?_
  refine own_by (g' := (mkF m 82 #[.val (.ref r1), .val (.int (0 : Int32)), .val (.long u1), .second] [(.long ((u1).toUInt64 >>> ((56 : Int32) &&& 0x3f).toInt64.toUInt64).toInt64), (.int (7 : Int32)), (.ref r1)])) (fun t k => XS.lushr X113.here hx rfl (hb hby own_d1_81) rfl k) ?_
  refine own_by (g' := (mkF m 83 #[.val (.ref r1), .val (.int (0 : Int32)), .val (.long u1), .second] [(.int (((u1).toUInt64 >>> ((56 : Int32) &&& 0x3f).toInt64.toUInt64).toInt64).toInt32), (.int (7 : Int32)), (.ref r1)])) (fun t k => XS.l2i X113.here hx rfl (hb hby own_d1_82) rfl k) ?_
  refine own_by (g' := (mkF m 84 #[.val (.ref r1), .val (.int (0 : Int32)), .val (.long u1), .second] [(.int ((((u1).toUInt64 >>> ((56 : Int32) &&& 0x3f).toInt64.toUInt64).toInt64).toInt32).toInt8.toInt32), (.int (7 : Int32)), (.ref r1)])) (fun t k => XS.i2b X113.here hx rfl (hb hby own_d1_83) rfl k) ?_
  obtain ⟨c115, Ar115, q115, S115, G115, H115, F115⟩ := id V114
  have hin115 : ¬ ((7 : Int32) < 0 ∨ c115.slots.size ≤ ((7 : Int32)).toNatClampNeg) := inb_of S115 ⟨by decide, by decide⟩
  obtain ⟨T115, h115, X115, e115, W115, st115⟩ := stB X113 hx hZ e113 Ar115 (j := (7 : Int32)) hin115 (g := (mkF m 84 #[.val (.ref r1), .val (.int (0 : Int32)), .val (.long u1), .second] [(.int ((((u1).toUInt64 >>> ((56 : Int32) &&& 0x3f).toInt64.toUInt64).toInt64).toInt32).toInt8.toInt32), (.int (7 : Int32)), (.ref r1)])) rfl rfl (hb hby own_d1_84)
  have V116 : Arv Z h115 r1 kk .byte (32 : Int32) ((((((((xs.set 0 (.int (own_b0 u1))).set 1 (.int (own_b u1 8))).set 2 (.int (own_b u1 16))).set 3 (.int (own_b u1 24))).set 4 (.int (own_b u1 32))).set 5 (.int (own_b u1 40))).set 6 (.int (own_b u1 48))).set 7 (.int (own_b u1 56))) (.int (0 : Int32)) := Arv.set Ar115 q115 S115 G115 H115 F115 (fits_nar_byte _) (own_wr (v' := .int (own_b u1 56)) W115 (congrArg Value.int (own_b8 _))) 7 rfl (by simp [hl])
  have N115 := Fr.snoc X115 N113 g1
  refine own_by (g' := (mkF m 85 #[.val (.ref r1), .val (.int (0 : Int32)), .val (.long u1), .second] [])) st115 ?_
  refine own_retV X115 hx hlk hret (hb hby own_d1_85) (by decide) (by decide) ?_
  rw [e115]
  exact ⟨rfl, N115, (((((((((Keep.refl h0 [r1]).wr W101 (Or.inl (List.mem_of_getElem? (i := 0) rfl))).wr W103 (Or.inl (List.mem_of_getElem? (i := 0) rfl))).wr W105 (Or.inl (List.mem_of_getElem? (i := 0) rfl))).wr W107 (Or.inl (List.mem_of_getElem? (i := 0) rfl))).wr W109 (Or.inl (List.mem_of_getElem? (i := 0) rfl))).wr W111 (Or.inl (List.mem_of_getElem? (i := 0) rfl))).wr W113 (Or.inl (List.mem_of_getElem? (i := 0) rfl))).wr W115 (Or.inl (List.mem_of_getElem? (i := 0) rfl))), V116⟩
def Q_own_put8 (Z : State) (r1 : Addr) (u1 : Int64) (kk : ClassId) (xs : List Value) (h0 : Heap) (n0 : Nat) (v : Option Value) (h : Heap) (L : List Loc) : Prop := v = none ∧ Fr n0 L ∧ Keep h0 h [r1] ∧ Arv Z h r1 kk .byte (32 : Int32) (own_put xs 8 u1) (.int (0 : Int32))
theorem own_ef_own_put8 (m : MethodId) (r1 : Addr) (u1 : Int64) : entryFrame m #[(.ref r1), (.int (8 : Int32)), (.long u1)] 4 = mkF m 0 #[.val (.ref r1), .val (.int (8 : Int32)), .val (.long u1), .second] [] := by first | (simp [entryFrame, mkF, argsToLocals, Value.category]; done) | rfl
set_option maxRecDepth 65536 in
set_option maxHeartbeats 40000000 in
theorem own_put8 (l : Launch) (Z : State) (a0 : Array Value) (hw : ∀ d ∈ tables_1, d.before a0 Z = true) (ws : List Jvm.Cond) (r1 : Addr) (u1 : Int64) (kk : ClassId) (xs : List Value) (h0 : Heap) (n0 : Nat) (Z0 : n0 ≤ h0.size) (V1 : Arv Z h0 r1 kk .byte (32 : Int32) xs (.int (0 : Int32))) (hl : xs.length = 32) (g1 : n0 ≤ r1) :
    own_Ctr l Z (⟨"com/example/idemnity/idemnity/model/Sha256FromDigestPinLaw", "put", "([BIJ)V"⟩ : MethodName) method_2_code 4 none ws ({ frames := 0, cells := 0, slots := 0, locals := 0 } : Room) (({ frames := 0, cells := 0, slots := 0, locals := 0 } : Room)).cells (({ frames := 0, cells := 0, slots := 0, locals := 0 } : Room)).slots #[(.ref r1), (.int (8 : Int32)), (.long u1)] h0 (Q_own_put8 Z r1 u1 kk xs h0 n0) := by
  refine own_enter (plainFor_of_name own_pn0) ?_
  intro p e s m below meth c s₁ X0 hx hZ hby hml hown hnm hlk hret e0
  have N0 := Fr.nil n0
  refine own_cast (own_ef_own_put8 m r1 u1) ?_
  refine own_by (g' := (mkF m 1 #[.val (.ref r1), .val (.int (8 : Int32)), .val (.long u1), .second] [(.ref r1)])) (fun t k => XS.aloadN X0.here hx rfl (hb hby own_d1_0) rfl rfl k) ?_
  refine own_by (g' := (mkF m 2 #[.val (.ref r1), .val (.int (8 : Int32)), .val (.long u1), .second] [(.int (8 : Int32)), (.ref r1)])) (fun t k => XS.iloadN X0.here hx rfl (hb hby own_d1_1) rfl k) ?_
  refine own_by (g' := (mkF m 3 #[.val (.ref r1), .val (.int (8 : Int32)), .val (.long u1), .second] [(.long u1), (.int (8 : Int32)), (.ref r1)])) (fun t k => XS.lloadN X0.here hx rfl (hb hby own_d1_2) rfl k) ?_
  refine own_by (g' := (mkF m 4 #[.val (.ref r1), .val (.int (8 : Int32)), .val (.long u1), .second] [(.int (u1).toInt32), (.int (8 : Int32)), (.ref r1)])) (fun t k => XS.l2i X0.here hx rfl (hb hby own_d1_3) rfl k) ?_
  refine own_by (g' := (mkF m 5 #[.val (.ref r1), .val (.int (8 : Int32)), .val (.long u1), .second] [(.int ((u1).toInt32).toInt8.toInt32), (.int (8 : Int32)), (.ref r1)])) (fun t k => XS.i2b X0.here hx rfl (hb hby own_d1_4) rfl k) ?_
  obtain ⟨c101, Ar101, q101, S101, G101, H101, F101⟩ := id V1
  have hin101 : ¬ ((8 : Int32) < 0 ∨ c101.slots.size ≤ ((8 : Int32)).toNatClampNeg) := inb_of S101 ⟨by decide, by decide⟩
  obtain ⟨T101, h101, X101, e101, W101, st101⟩ := stB X0 hx hZ e0 Ar101 (j := (8 : Int32)) hin101 (g := (mkF m 5 #[.val (.ref r1), .val (.int (8 : Int32)), .val (.long u1), .second] [(.int ((u1).toInt32).toInt8.toInt32), (.int (8 : Int32)), (.ref r1)])) rfl rfl (hb hby own_d1_5)
  have V102 : Arv Z h101 r1 kk .byte (32 : Int32) (xs.set 8 (.int (own_b0 u1))) (.int (0 : Int32)) := Arv.set Ar101 q101 S101 G101 H101 F101 (fits_nar_byte _) (own_wr (v' := .int (own_b0 u1)) W101 (congrArg Value.int (own_b8 _))) 8 rfl (by simp [hl])
  have N101 := Fr.snoc X101 N0 g1
  refine own_by (g' := (mkF m 6 #[.val (.ref r1), .val (.int (8 : Int32)), .val (.long u1), .second] [])) st101 ?_
  refine own_by (g' := (mkF m 7 #[.val (.ref r1), .val (.int (8 : Int32)), .val (.long u1), .second] [(.ref r1)])) (fun t k => XS.aloadN X101.here hx rfl (hb hby own_d1_6) rfl rfl k) ?_
  refine own_by (g' := (mkF m 8 #[.val (.ref r1), .val (.int (8 : Int32)), .val (.long u1), .second] [(.int (8 : Int32)), (.ref r1)])) (fun t k => XS.iloadN X101.here hx rfl (hb hby own_d1_7) rfl k) ?_
  refine own_by (g' := (mkF m 9 #[.val (.ref r1), .val (.int (8 : Int32)), .val (.long u1), .second] [(.int (1 : Int32)), (.int (8 : Int32)), (.ref r1)])) (fun t k => XS.iconst X101.here hx rfl (hb hby own_d1_8) k) ?_
  refine own_by (g' := (mkF m 10 #[.val (.ref r1), .val (.int (8 : Int32)), .val (.long u1), .second] [(.int (9 : Int32)), (.ref r1)])) (fun t k => XS.iadd X101.here hx rfl (hb hby own_d1_9) rfl k) ?_
  refine own_by (g' := (mkF m 11 #[.val (.ref r1), .val (.int (8 : Int32)), .val (.long u1), .second] [(.long u1), (.int (9 : Int32)), (.ref r1)])) (fun t k => XS.lloadN X101.here hx rfl (hb hby own_d1_10) rfl k) ?_
  refine own_by (g' := (mkF m 13 #[.val (.ref r1), .val (.int (8 : Int32)), .val (.long u1), .second] [(.int (8 : Int32)), (.long u1), (.int (9 : Int32)), (.ref r1)])) (fun t k => XS.bipush X101.here hx rfl (hb hby own_d1_11) k) ?_
  refine own_by (g' := (mkF m 14 #[.val (.ref r1), .val (.int (8 : Int32)), .val (.long u1), .second] [(.long ((u1).toUInt64 >>> ((8 : Int32) &&& 0x3f).toInt64.toUInt64).toInt64), (.int (9 : Int32)), (.ref r1)])) (fun t k => XS.lushr X101.here hx rfl (hb hby own_d1_13) rfl k) ?_
  refine own_by (g' := (mkF m 15 #[.val (.ref r1), .val (.int (8 : Int32)), .val (.long u1), .second] [(.int (((u1).toUInt64 >>> ((8 : Int32) &&& 0x3f).toInt64.toUInt64).toInt64).toInt32), (.int (9 : Int32)), (.ref r1)])) (fun t k => XS.l2i X101.here hx rfl (hb hby own_d1_14) rfl k) ?_
  refine own_by (g' := (mkF m 16 #[.val (.ref r1), .val (.int (8 : Int32)), .val (.long u1), .second] [(.int ((((u1).toUInt64 >>> ((8 : Int32) &&& 0x3f).toInt64.toUInt64).toInt64).toInt32).toInt8.toInt32), (.int (9 : Int32)), (.ref r1)])) (fun t k => XS.i2b X101.here hx rfl (hb hby own_d1_15) rfl k) ?_
  obtain ⟨c103, Ar103, q103, S103, G103, H103, F103⟩ := id V102
  have hin103 : ¬ ((9 : Int32) < 0 ∨ c103.slots.size ≤ ((9 : Int32)).toNatClampNeg) := inb_of S103 ⟨by decide, by decide⟩
  obtain ⟨T103, h103, X103, e103, W103, st103⟩ := stB X101 hx hZ e101 Ar103 (j := (9 : Int32)) hin103 (g := (mkF m 16 #[.val (.ref r1), .val (.int (8 : Int32)), .val (.long u1), .second] [(.int ((((u1).toUInt64 >>> ((8 : Int32) &&& 0x3f).toInt64.toUInt64).toInt64).toInt32).toInt8.toInt32), (.int (9 : Int32)), (.ref r1)])) rfl rfl (hb hby own_d1_16)
  have V104 : Arv Z h103 r1 kk .byte (32 : Int32) ((xs.set 8 (.int (own_b0 u1))).set 9 (.int (own_b u1 8))) (.int (0 : Int32)) := Arv.set Ar103 q103 S103 G103 H103 F103 (fits_nar_byte _) (own_wr (v' := .int (own_b u1 8)) W103 (congrArg Value.int (own_b8 _))) 9 rfl (by simp [hl])
  have N103 := Fr.snoc X103 N101 g1
  refine own_by (g' := (mkF m 17 #[.val (.ref r1), .val (.int (8 : Int32)), .val (.long u1), .second] [])) st103 ?_
  refine own_by (g' := (mkF m 18 #[.val (.ref r1), .val (.int (8 : Int32)), .val (.long u1), .second] [(.ref r1)])) (fun t k => XS.aloadN X103.here hx rfl (hb hby own_d1_17) rfl rfl k) ?_
  refine own_by (g' := (mkF m 19 #[.val (.ref r1), .val (.int (8 : Int32)), .val (.long u1), .second] [(.int (8 : Int32)), (.ref r1)])) (fun t k => XS.iloadN X103.here hx rfl (hb hby own_d1_18) rfl k) ?_
  refine own_by (g' := (mkF m 20 #[.val (.ref r1), .val (.int (8 : Int32)), .val (.long u1), .second] [(.int (2 : Int32)), (.int (8 : Int32)), (.ref r1)])) (fun t k => XS.iconst X103.here hx rfl (hb hby own_d1_19) k) ?_
  refine own_by (g' := (mkF m 21 #[.val (.ref r1), .val (.int (8 : Int32)), .val (.long u1), .second] [(.int (10 : Int32)), (.ref r1)])) (fun t k => XS.iadd X103.here hx rfl (hb hby own_d1_20) rfl k) ?_
  refine own_by (g' := (mkF m 22 #[.val (.ref r1), .val (.int (8 : Int32)), .val (.long u1), .second] [(.long u1), (.int (10 : Int32)), (.ref r1)])) (fun t k => XS.lloadN X103.here hx rfl (hb hby own_d1_21) rfl k) ?_
  refine own_by (g' := (mkF m 24 #[.val (.ref r1), .val (.int (8 : Int32)), .val (.long u1), .second] [(.int (16 : Int32)), (.long u1), (.int (10 : Int32)), (.ref r1)])) (fun t k => XS.bipush X103.here hx rfl (hb hby own_d1_22) k) ?_
  refine own_by (g' := (mkF m 25 #[.val (.ref r1), .val (.int (8 : Int32)), .val (.long u1), .second] [(.long ((u1).toUInt64 >>> ((16 : Int32) &&& 0x3f).toInt64.toUInt64).toInt64), (.int (10 : Int32)), (.ref r1)])) (fun t k => XS.lushr X103.here hx rfl (hb hby own_d1_24) rfl k) ?_
  refine own_by (g' := (mkF m 26 #[.val (.ref r1), .val (.int (8 : Int32)), .val (.long u1), .second] [(.int (((u1).toUInt64 >>> ((16 : Int32) &&& 0x3f).toInt64.toUInt64).toInt64).toInt32), (.int (10 : Int32)), (.ref r1)])) (fun t k => XS.l2i X103.here hx rfl (hb hby own_d1_25) rfl k) ?_
  refine own_by (g' := (mkF m 27 #[.val (.ref r1), .val (.int (8 : Int32)), .val (.long u1), .second] [(.int ((((u1).toUInt64 >>> ((16 : Int32) &&& 0x3f).toInt64.toUInt64).toInt64).toInt32).toInt8.toInt32), (.int (10 : Int32)), (.ref r1)])) (fun t k => XS.i2b X103.here hx rfl (hb hby own_d1_26) rfl k) ?_
  obtain ⟨c105, Ar105, q105, S105, G105, H105, F105⟩ := id V104
  have hin105 : ¬ ((10 : Int32) < 0 ∨ c105.slots.size ≤ ((10 : Int32)).toNatClampNeg) := inb_of S105 ⟨by decide, by decide⟩
  obtain ⟨T105, h105, X105, e105, W105, st105⟩ := stB X103 hx hZ e103 Ar105 (j := (10 : Int32)) hin105 (g := (mkF m 27 #[.val (.ref r1), .val (.int (8 : Int32)), .val (.long u1), .second] [(.int ((((u1).toUInt64 >>> ((16 : Int32) &&& 0x3f).toInt64.toUInt64).toInt64).toInt32).toInt8.toInt32), (.int (10 : Int32)), (.ref r1)])) rfl rfl (hb hby own_d1_27)
  have V106 : Arv Z h105 r1 kk .byte (32 : Int32) (((xs.set 8 (.int (own_b0 u1))).set 9 (.int (own_b u1 8))).set 10 (.int (own_b u1 16))) (.int (0 : Int32)) := Arv.set Ar105 q105 S105 G105 H105 F105 (fits_nar_byte _) (own_wr (v' := .int (own_b u1 16)) W105 (congrArg Value.int (own_b8 _))) 10 rfl (by simp [hl])
  have N105 := Fr.snoc X105 N103 g1
  refine own_by (g' := (mkF m 28 #[.val (.ref r1), .val (.int (8 : Int32)), .val (.long u1), .second] [])) st105 ?_
  refine own_by (g' := (mkF m 29 #[.val (.ref r1), .val (.int (8 : Int32)), .val (.long u1), .second] [(.ref r1)])) (fun t k => XS.aloadN X105.here hx rfl (hb hby own_d1_28) rfl rfl k) ?_
  refine own_by (g' := (mkF m 30 #[.val (.ref r1), .val (.int (8 : Int32)), .val (.long u1), .second] [(.int (8 : Int32)), (.ref r1)])) (fun t k => XS.iloadN X105.here hx rfl (hb hby own_d1_29) rfl k) ?_
  refine own_by (g' := (mkF m 31 #[.val (.ref r1), .val (.int (8 : Int32)), .val (.long u1), .second] [(.int (3 : Int32)), (.int (8 : Int32)), (.ref r1)])) (fun t k => XS.iconst X105.here hx rfl (hb hby own_d1_30) k) ?_
  refine own_by (g' := (mkF m 32 #[.val (.ref r1), .val (.int (8 : Int32)), .val (.long u1), .second] [(.int (11 : Int32)), (.ref r1)])) (fun t k => XS.iadd X105.here hx rfl (hb hby own_d1_31) rfl k) ?_
  refine own_by (g' := (mkF m 33 #[.val (.ref r1), .val (.int (8 : Int32)), .val (.long u1), .second] [(.long u1), (.int (11 : Int32)), (.ref r1)])) (fun t k => XS.lloadN X105.here hx rfl (hb hby own_d1_32) rfl k) ?_
  refine own_by (g' := (mkF m 35 #[.val (.ref r1), .val (.int (8 : Int32)), .val (.long u1), .second] [(.int (24 : Int32)), (.long u1), (.int (11 : Int32)), (.ref r1)])) (fun t k => XS.bipush X105.here hx rfl (hb hby own_d1_33) k) ?_
  refine own_by (g' := (mkF m 36 #[.val (.ref r1), .val (.int (8 : Int32)), .val (.long u1), .second] [(.long ((u1).toUInt64 >>> ((24 : Int32) &&& 0x3f).toInt64.toUInt64).toInt64), (.int (11 : Int32)), (.ref r1)])) (fun t k => XS.lushr X105.here hx rfl (hb hby own_d1_35) rfl k) ?_
  refine own_by (g' := (mkF m 37 #[.val (.ref r1), .val (.int (8 : Int32)), .val (.long u1), .second] [(.int (((u1).toUInt64 >>> ((24 : Int32) &&& 0x3f).toInt64.toUInt64).toInt64).toInt32), (.int (11 : Int32)), (.ref r1)])) (fun t k => XS.l2i X105.here hx rfl (hb hby own_d1_36) rfl k) ?_
  refine own_by (g' := (mkF m 38 #[.val (.ref r1), .val (.int (8 : Int32)), .val (.long u1), .second] [(.int ((((u1).toUInt64 >>> ((24 : Int32) &&& 0x3f).toInt64.toUInt64).toInt64).toInt32).toInt8.toInt32), (.int (11 : Int32)), (.ref r1)])) (fun t k => XS.i2b X105.here hx rfl (hb hby own_d1_37) rfl k) ?_
  obtain ⟨c107, Ar107, q107, S107, G107, H107, F107⟩ := id V106
  have hin107 : ¬ ((11 : Int32) < 0 ∨ c107.slots.size ≤ ((11 : Int32)).toNatClampNeg) := inb_of S107 ⟨by decide, by decide⟩
  obtain ⟨T107, h107, X107, e107, W107, st107⟩ := stB X105 hx hZ e105 Ar107 (j := (11 : Int32)) hin107 (g := (mkF m 38 #[.val (.ref r1), .val (.int (8 : Int32)), .val (.long u1), .second] [(.int ((((u1).toUInt64 >>> ((24 : Int32) &&& 0x3f).toInt64.toUInt64).toInt64).toInt32).toInt8.toInt32), (.int (11 : Int32)), (.ref r1)])) rfl rfl (hb hby own_d1_38)
  have V108 : Arv Z h107 r1 kk .byte (32 : Int32) ((((xs.set 8 (.int (own_b0 u1))).set 9 (.int (own_b u1 8))).set 10 (.int (own_b u1 16))).set 11 (.int (own_b u1 24))) (.int (0 : Int32)) := Arv.set Ar107 q107 S107 G107 H107 F107 (fits_nar_byte _) (own_wr (v' := .int (own_b u1 24)) W107 (congrArg Value.int (own_b8 _))) 11 rfl (by simp [hl])
  have N107 := Fr.snoc X107 N105 g1
  refine own_by (g' := (mkF m 39 #[.val (.ref r1), .val (.int (8 : Int32)), .val (.long u1), .second] [])) st107 ?_
  refine own_by (g' := (mkF m 40 #[.val (.ref r1), .val (.int (8 : Int32)), .val (.long u1), .second] [(.ref r1)])) (fun t k => XS.aloadN X107.here hx rfl (hb hby own_d1_39) rfl rfl k) ?_
  refine own_by (g' := (mkF m 41 #[.val (.ref r1), .val (.int (8 : Int32)), .val (.long u1), .second] [(.int (8 : Int32)), (.ref r1)])) (fun t k => XS.iloadN X107.here hx rfl (hb hby own_d1_40) rfl k) ?_
  refine own_by (g' := (mkF m 42 #[.val (.ref r1), .val (.int (8 : Int32)), .val (.long u1), .second] [(.int (4 : Int32)), (.int (8 : Int32)), (.ref r1)])) (fun t k => XS.iconst X107.here hx rfl (hb hby own_d1_41) k) ?_
  refine own_by (g' := (mkF m 43 #[.val (.ref r1), .val (.int (8 : Int32)), .val (.long u1), .second] [(.int (12 : Int32)), (.ref r1)])) (fun t k => XS.iadd X107.here hx rfl (hb hby own_d1_42) rfl k) ?_
  refine own_by (g' := (mkF m 44 #[.val (.ref r1), .val (.int (8 : Int32)), .val (.long u1), .second] [(.long u1), (.int (12 : Int32)), (.ref r1)])) (fun t k => XS.lloadN X107.here hx rfl (hb hby own_d1_43) rfl k) ?_
  refine own_by (g' := (mkF m 46 #[.val (.ref r1), .val (.int (8 : Int32)), .val (.long u1), .second] [(.int (32 : Int32)), (.long u1), (.int (12 : Int32)), (.ref r1)])) (fun t k => XS.bipush X107.here hx rfl (hb hby own_d1_44) k) ?_
  refine own_by (g' := (mkF m 47 #[.val (.ref r1), .val (.int (8 : Int32)), .val (.long u1), .second] [(.long ((u1).toUInt64 >>> ((32 : Int32) &&& 0x3f).toInt64.toUInt64).toInt64), (.int (12 : Int32)), (.ref r1)])) (fun t k => XS.lushr X107.here hx rfl (hb hby own_d1_46) rfl k) ?_
  refine own_by (g' := (mkF m 48 #[.val (.ref r1), .val (.int (8 : Int32)), .val (.long u1), .second] [(.int (((u1).toUInt64 >>> ((32 : Int32) &&& 0x3f).toInt64.toUInt64).toInt64).toInt32), (.int (12 : Int32)), (.ref r1)])) (fun t k => XS.l2i X107.here hx rfl (hb hby own_d1_47) rfl k) ?_
  refine own_by (g' := (mkF m 49 #[.val (.ref r1), .val (.int (8 : Int32)), .val (.long u1), .second] [(.int ((((u1).toUInt64 >>> ((32 : Int32) &&& 0x3f).toInt64.toUInt64).toInt64).toInt32).toInt8.toInt32), (.int (12 : Int32)), (.ref r1)])) (fun t k => XS.i2b X107.here hx rfl (hb hby own_d1_48) rfl k) ?_
  obtain ⟨c109, Ar109, q109, S109, G109, H109, F109⟩ := id V108
  have hin109 : ¬ ((12 : Int32) < 0 ∨ c109.slots.size ≤ ((12 : Int32)).toNatClampNeg) := inb_of S109 ⟨by decide, by decide⟩
  obtain ⟨T109, h109, X109, e109, W109, st109⟩ := stB X107 hx hZ e107 Ar109 (j := (12 : Int32)) hin109 (g := (mkF m 49 #[.val (.ref r1), .val (.int (8 : Int32)), .val (.long u1), .second] [(.int ((((u1).toUInt64 >>> ((32 : Int32) &&& 0x3f).toInt64.toUInt64).toInt64).toInt32).toInt8.toInt32), (.int (12 : Int32)), (.ref r1)])) rfl rfl (hb hby own_d1_49)
  have V110 : Arv Z h109 r1 kk .byte (32 : Int32) (((((xs.set 8 (.int (own_b0 u1))).set 9 (.int (own_b u1 8))).set 10 (.int (own_b u1 16))).set 11 (.int (own_b u1 24))).set 12 (.int (own_b u1 32))) (.int (0 : Int32)) := Arv.set Ar109 q109 S109 G109 H109 F109 (fits_nar_byte _) (own_wr (v' := .int (own_b u1 32)) W109 (congrArg Value.int (own_b8 _))) 12 rfl (by simp [hl])
  have N109 := Fr.snoc X109 N107 g1
  refine own_by (g' := (mkF m 50 #[.val (.ref r1), .val (.int (8 : Int32)), .val (.long u1), .second] [])) st109 ?_
  refine own_by (g' := (mkF m 51 #[.val (.ref r1), .val (.int (8 : Int32)), .val (.long u1), .second] [(.ref r1)])) (fun t k => XS.aloadN X109.here hx rfl (hb hby own_d1_50) rfl rfl k) ?_
  refine own_by (g' := (mkF m 52 #[.val (.ref r1), .val (.int (8 : Int32)), .val (.long u1), .second] [(.int (8 : Int32)), (.ref r1)])) (fun t k => XS.iloadN X109.here hx rfl (hb hby own_d1_51) rfl k) ?_
  refine own_by (g' := (mkF m 53 #[.val (.ref r1), .val (.int (8 : Int32)), .val (.long u1), .second] [(.int (5 : Int32)), (.int (8 : Int32)), (.ref r1)])) (fun t k => XS.iconst X109.here hx rfl (hb hby own_d1_52) k) ?_
  refine own_by (g' := (mkF m 54 #[.val (.ref r1), .val (.int (8 : Int32)), .val (.long u1), .second] [(.int (13 : Int32)), (.ref r1)])) (fun t k => XS.iadd X109.here hx rfl (hb hby own_d1_53) rfl k) ?_
  refine own_by (g' := (mkF m 55 #[.val (.ref r1), .val (.int (8 : Int32)), .val (.long u1), .second] [(.long u1), (.int (13 : Int32)), (.ref r1)])) (fun t k => XS.lloadN X109.here hx rfl (hb hby own_d1_54) rfl k) ?_
  refine own_by (g' := (mkF m 57 #[.val (.ref r1), .val (.int (8 : Int32)), .val (.long u1), .second] [(.int (40 : Int32)), (.long u1), (.int (13 : Int32)), (.ref r1)])) (fun t k => XS.bipush X109.here hx rfl (hb hby own_d1_55) k) ?_
  refine own_by (g' := (mkF m 58 #[.val (.ref r1), .val (.int (8 : Int32)), .val (.long u1), .second] [(.long ((u1).toUInt64 >>> ((40 : Int32) &&& 0x3f).toInt64.toUInt64).toInt64), (.int (13 : Int32)), (.ref r1)])) (fun t k => XS.lushr X109.here hx rfl (hb hby own_d1_57) rfl k) ?_
  refine own_by (g' := (mkF m 59 #[.val (.ref r1), .val (.int (8 : Int32)), .val (.long u1), .second] [(.int (((u1).toUInt64 >>> ((40 : Int32) &&& 0x3f).toInt64.toUInt64).toInt64).toInt32), (.int (13 : Int32)), (.ref r1)])) (fun t k => XS.l2i X109.here hx rfl (hb hby own_d1_58) rfl k) ?_
  refine own_by (g' := (mkF m 60 #[.val (.ref r1), .val (.int (8 : Int32)), .val (.long u1), .second] [(.int ((((u1).toUInt64 >>> ((40 : Int32) &&& 0x3f).toInt64.toUInt64).toInt64).toInt32).toInt8.toInt32), (.int (13 : Int32)), (.ref r1)])) (fun t k => XS.i2b X109.here hx rfl (hb hby own_d1_59) rfl k) ?_
  obtain ⟨c111, Ar111, q111, S111, G111, H111, F111⟩ := id V110
  have hin111 : ¬ ((13 : Int32) < 0 ∨ c111.slots.size ≤ ((13 : Int32)).toNatClampNeg) := inb_of S111 ⟨by decide, by decide⟩
  obtain ⟨T111, h111, X111, e111, W111, st111⟩ := stB X109 hx hZ e109 Ar111 (j := (13 : Int32)) hin111 (g := (mkF m 60 #[.val (.ref r1), .val (.int (8 : Int32)), .val (.long u1), .second] [(.int ((((u1).toUInt64 >>> ((40 : Int32) &&& 0x3f).toInt64.toUInt64).toInt64).toInt32).toInt8.toInt32), (.int (13 : Int32)), (.ref r1)])) rfl rfl (hb hby own_d1_60)
  have V112 : Arv Z h111 r1 kk .byte (32 : Int32) ((((((xs.set 8 (.int (own_b0 u1))).set 9 (.int (own_b u1 8))).set 10 (.int (own_b u1 16))).set 11 (.int (own_b u1 24))).set 12 (.int (own_b u1 32))).set 13 (.int (own_b u1 40))) (.int (0 : Int32)) := Arv.set Ar111 q111 S111 G111 H111 F111 (fits_nar_byte _) (own_wr (v' := .int (own_b u1 40)) W111 (congrArg Value.int (own_b8 _))) 13 rfl (by simp [hl])
  have N111 := Fr.snoc X111 N109 g1
  refine own_by (g' := (mkF m 61 #[.val (.ref r1), .val (.int (8 : Int32)), .val (.long u1), .second] [])) st111 ?_
  refine own_by (g' := (mkF m 62 #[.val (.ref r1), .val (.int (8 : Int32)), .val (.long u1), .second] [(.ref r1)])) (fun t k => XS.aloadN X111.here hx rfl (hb hby own_d1_61) rfl rfl k) ?_
  refine own_by (g' := (mkF m 63 #[.val (.ref r1), .val (.int (8 : Int32)), .val (.long u1), .second] [(.int (8 : Int32)), (.ref r1)])) (fun t k => XS.iloadN X111.here hx rfl (hb hby own_d1_62) rfl k) ?_
  refine own_by (g' := (mkF m 65 #[.val (.ref r1), .val (.int (8 : Int32)), .val (.long u1), .second] [(.int (6 : Int32)), (.int (8 : Int32)), (.ref r1)])) (fun t k => XS.bipush X111.here hx rfl (hb hby own_d1_63) k) ?_
  refine own_by (g' := (mkF m 66 #[.val (.ref r1), .val (.int (8 : Int32)), .val (.long u1), .second] [(.int (14 : Int32)), (.ref r1)])) (fun t k => XS.iadd X111.here hx rfl (hb hby own_d1_65) rfl k) ?_
  refine own_by (g' := (mkF m 67 #[.val (.ref r1), .val (.int (8 : Int32)), .val (.long u1), .second] [(.long u1), (.int (14 : Int32)), (.ref r1)])) (fun t k => XS.lloadN X111.here hx rfl (hb hby own_d1_66) rfl k) ?_
  refine own_by (g' := (mkF m 69 #[.val (.ref r1), .val (.int (8 : Int32)), .val (.long u1), .second] [(.int (48 : Int32)), (.long u1), (.int (14 : Int32)), (.ref r1)])) (fun t k => XS.bipush X111.here hx rfl (hb hby own_d1_67) k) ?_
  refine own_by (g' := (mkF m 70 #[.val (.ref r1), .val (.int (8 : Int32)), .val (.long u1), .second] [(.long ((u1).toUInt64 >>> ((48 : Int32) &&& 0x3f).toInt64.toUInt64).toInt64), (.int (14 : Int32)), (.ref r1)])) (fun t k => XS.lushr X111.here hx rfl (hb hby own_d1_69) rfl k) ?_
  refine own_by (g' := (mkF m 71 #[.val (.ref r1), .val (.int (8 : Int32)), .val (.long u1), .second] [(.int (((u1).toUInt64 >>> ((48 : Int32) &&& 0x3f).toInt64.toUInt64).toInt64).toInt32), (.int (14 : Int32)), (.ref r1)])) (fun t k => XS.l2i X111.here hx rfl (hb hby own_d1_70) rfl k) ?_
  refine own_by (g' := (mkF m 72 #[.val (.ref r1), .val (.int (8 : Int32)), .val (.long u1), .second] [(.int ((((u1).toUInt64 >>> ((48 : Int32) &&& 0x3f).toInt64.toUInt64).toInt64).toInt32).toInt8.toInt32), (.int (14 : Int32)), (.ref r1)])) (fun t k => XS.i2b X111.here hx rfl (hb hby own_d1_71) rfl k) ?_
  obtain ⟨c113, Ar113, q113, S113, G113, H113, F113⟩ := id V112
  have hin113 : ¬ ((14 : Int32) < 0 ∨ c113.slots.size ≤ ((14 : Int32)).toNatClampNeg) := inb_of S113 ⟨by decide, by decide⟩
  obtain ⟨T113, h113, X113, e113, W113, st113⟩ := stB X111 hx hZ e111 Ar113 (j := (14 : Int32)) hin113 (g := (mkF m 72 #[.val (.ref r1), .val (.int (8 : Int32)), .val (.long u1), .second] [(.int ((((u1).toUInt64 >>> ((48 : Int32) &&& 0x3f).toInt64.toUInt64).toInt64).toInt32).toInt8.toInt32), (.int (14 : Int32)), (.ref r1)])) rfl rfl (hb hby own_d1_72)
  have V114 : Arv Z h113 r1 kk .byte (32 : Int32) (((((((xs.set 8 (.int (own_b0 u1))).set 9 (.int (own_b u1 8))).set 10 (.int (own_b u1 16))).set 11 (.int (own_b u1 24))).set 12 (.int (own_b u1 32))).set 13 (.int (own_b u1 40))).set 14 (.int (own_b u1 48))) (.int (0 : Int32)) := Arv.set Ar113 q113 S113 G113 H113 F113 (fits_nar_byte _) (own_wr (v' := .int (own_b u1 48)) W113 (congrArg Value.int (own_b8 _))) 14 rfl (by simp [hl])
  have N113 := Fr.snoc X113 N111 g1
  refine own_by (g' := (mkF m 73 #[.val (.ref r1), .val (.int (8 : Int32)), .val (.long u1), .second] [])) st113 ?_
  refine own_by (g' := (mkF m 74 #[.val (.ref r1), .val (.int (8 : Int32)), .val (.long u1), .second] [(.ref r1)])) (fun t k => XS.aloadN X113.here hx rfl (hb hby own_d1_73) rfl rfl k) ?_
  refine own_by (g' := (mkF m 75 #[.val (.ref r1), .val (.int (8 : Int32)), .val (.long u1), .second] [(.int (8 : Int32)), (.ref r1)])) (fun t k => XS.iloadN X113.here hx rfl (hb hby own_d1_74) rfl k) ?_
  refine own_by (g' := (mkF m 77 #[.val (.ref r1), .val (.int (8 : Int32)), .val (.long u1), .second] [(.int (7 : Int32)), (.int (8 : Int32)), (.ref r1)])) (fun t k => XS.bipush X113.here hx rfl (hb hby own_d1_75) k) ?_
  refine own_by (g' := (mkF m 78 #[.val (.ref r1), .val (.int (8 : Int32)), .val (.long u1), .second] [(.int (15 : Int32)), (.ref r1)])) (fun t k => XS.iadd X113.here hx rfl (hb hby own_d1_77) rfl k) ?_
  refine own_by (g' := (mkF m 79 #[.val (.ref r1), .val (.int (8 : Int32)), .val (.long u1), .second] [(.long u1), (.int (15 : Int32)), (.ref r1)])) (fun t k => XS.lloadN X113.here hx rfl (hb hby own_d1_78) rfl k) ?_
  refine own_by (g' := (mkF m 81 #[.val (.ref r1), .val (.int (8 : Int32)), .val (.long u1), .second] [(.int (56 : Int32)), (.long u1), (.int (15 : Int32)), (.ref r1)])) (fun t k => XS.bipush X113.here hx rfl (hb hby own_d1_79) k) ?_
  refine own_by (g' := (mkF m 82 #[.val (.ref r1), .val (.int (8 : Int32)), .val (.long u1), .second] [(.long ((u1).toUInt64 >>> ((56 : Int32) &&& 0x3f).toInt64.toUInt64).toInt64), (.int (15 : Int32)), (.ref r1)])) (fun t k => XS.lushr X113.here hx rfl (hb hby own_d1_81) rfl k) ?_
  refine own_by (g' := (mkF m 83 #[.val (.ref r1), .val (.int (8 : Int32)), .val (.long u1), .second] [(.int (((u1).toUInt64 >>> ((56 : Int32) &&& 0x3f).toInt64.toUInt64).toInt64).toInt32), (.int (15 : Int32)), (.ref r1)])) (fun t k => XS.l2i X113.here hx rfl (hb hby own_d1_82) rfl k) ?_
  refine own_by (g' := (mkF m 84 #[.val (.ref r1), .val (.int (8 : Int32)), .val (.long u1), .second] [(.int ((((u1).toUInt64 >>> ((56 : Int32) &&& 0x3f).toInt64.toUInt64).toInt64).toInt32).toInt8.toInt32), (.int (15 : Int32)), (.ref r1)])) (fun t k => XS.i2b X113.here hx rfl (hb hby own_d1_83) rfl k) ?_
  obtain ⟨c115, Ar115, q115, S115, G115, H115, F115⟩ := id V114
  have hin115 : ¬ ((15 : Int32) < 0 ∨ c115.slots.size ≤ ((15 : Int32)).toNatClampNeg) := inb_of S115 ⟨by decide, by decide⟩
  obtain ⟨T115, h115, X115, e115, W115, st115⟩ := stB X113 hx hZ e113 Ar115 (j := (15 : Int32)) hin115 (g := (mkF m 84 #[.val (.ref r1), .val (.int (8 : Int32)), .val (.long u1), .second] [(.int ((((u1).toUInt64 >>> ((56 : Int32) &&& 0x3f).toInt64.toUInt64).toInt64).toInt32).toInt8.toInt32), (.int (15 : Int32)), (.ref r1)])) rfl rfl (hb hby own_d1_84)
  have V116 : Arv Z h115 r1 kk .byte (32 : Int32) ((((((((xs.set 8 (.int (own_b0 u1))).set 9 (.int (own_b u1 8))).set 10 (.int (own_b u1 16))).set 11 (.int (own_b u1 24))).set 12 (.int (own_b u1 32))).set 13 (.int (own_b u1 40))).set 14 (.int (own_b u1 48))).set 15 (.int (own_b u1 56))) (.int (0 : Int32)) := Arv.set Ar115 q115 S115 G115 H115 F115 (fits_nar_byte _) (own_wr (v' := .int (own_b u1 56)) W115 (congrArg Value.int (own_b8 _))) 15 rfl (by simp [hl])
  have N115 := Fr.snoc X115 N113 g1
  refine own_by (g' := (mkF m 85 #[.val (.ref r1), .val (.int (8 : Int32)), .val (.long u1), .second] [])) st115 ?_
  refine own_retV X115 hx hlk hret (hb hby own_d1_85) (by decide) (by decide) ?_
  rw [e115]
  exact ⟨rfl, N115, (((((((((Keep.refl h0 [r1]).wr W101 (Or.inl (List.mem_of_getElem? (i := 0) rfl))).wr W103 (Or.inl (List.mem_of_getElem? (i := 0) rfl))).wr W105 (Or.inl (List.mem_of_getElem? (i := 0) rfl))).wr W107 (Or.inl (List.mem_of_getElem? (i := 0) rfl))).wr W109 (Or.inl (List.mem_of_getElem? (i := 0) rfl))).wr W111 (Or.inl (List.mem_of_getElem? (i := 0) rfl))).wr W113 (Or.inl (List.mem_of_getElem? (i := 0) rfl))).wr W115 (Or.inl (List.mem_of_getElem? (i := 0) rfl))), V116⟩
def Q_own_put16 (Z : State) (r1 : Addr) (u1 : Int64) (kk : ClassId) (xs : List Value) (h0 : Heap) (n0 : Nat) (v : Option Value) (h : Heap) (L : List Loc) : Prop := v = none ∧ Fr n0 L ∧ Keep h0 h [r1] ∧ Arv Z h r1 kk .byte (32 : Int32) (own_put xs 16 u1) (.int (0 : Int32))
theorem own_ef_own_put16 (m : MethodId) (r1 : Addr) (u1 : Int64) : entryFrame m #[(.ref r1), (.int (16 : Int32)), (.long u1)] 4 = mkF m 0 #[.val (.ref r1), .val (.int (16 : Int32)), .val (.long u1), .second] [] := by first | (simp [entryFrame, mkF, argsToLocals, Value.category]; done) | rfl
set_option maxRecDepth 65536 in
set_option maxHeartbeats 40000000 in
theorem own_put16 (l : Launch) (Z : State) (a0 : Array Value) (hw : ∀ d ∈ tables_1, d.before a0 Z = true) (ws : List Jvm.Cond) (r1 : Addr) (u1 : Int64) (kk : ClassId) (xs : List Value) (h0 : Heap) (n0 : Nat) (Z0 : n0 ≤ h0.size) (V1 : Arv Z h0 r1 kk .byte (32 : Int32) xs (.int (0 : Int32))) (hl : xs.length = 32) (g1 : n0 ≤ r1) :
    own_Ctr l Z (⟨"com/example/idemnity/idemnity/model/Sha256FromDigestPinLaw", "put", "([BIJ)V"⟩ : MethodName) method_2_code 4 none ws ({ frames := 0, cells := 0, slots := 0, locals := 0 } : Room) (({ frames := 0, cells := 0, slots := 0, locals := 0 } : Room)).cells (({ frames := 0, cells := 0, slots := 0, locals := 0 } : Room)).slots #[(.ref r1), (.int (16 : Int32)), (.long u1)] h0 (Q_own_put16 Z r1 u1 kk xs h0 n0) := by
  refine own_enter (plainFor_of_name own_pn0) ?_
  intro p e s m below meth c s₁ X0 hx hZ hby hml hown hnm hlk hret e0
  have N0 := Fr.nil n0
  refine own_cast (own_ef_own_put16 m r1 u1) ?_
  refine own_by (g' := (mkF m 1 #[.val (.ref r1), .val (.int (16 : Int32)), .val (.long u1), .second] [(.ref r1)])) (fun t k => XS.aloadN X0.here hx rfl (hb hby own_d1_0) rfl rfl k) ?_
  refine own_by (g' := (mkF m 2 #[.val (.ref r1), .val (.int (16 : Int32)), .val (.long u1), .second] [(.int (16 : Int32)), (.ref r1)])) (fun t k => XS.iloadN X0.here hx rfl (hb hby own_d1_1) rfl k) ?_
  refine own_by (g' := (mkF m 3 #[.val (.ref r1), .val (.int (16 : Int32)), .val (.long u1), .second] [(.long u1), (.int (16 : Int32)), (.ref r1)])) (fun t k => XS.lloadN X0.here hx rfl (hb hby own_d1_2) rfl k) ?_
  refine own_by (g' := (mkF m 4 #[.val (.ref r1), .val (.int (16 : Int32)), .val (.long u1), .second] [(.int (u1).toInt32), (.int (16 : Int32)), (.ref r1)])) (fun t k => XS.l2i X0.here hx rfl (hb hby own_d1_3) rfl k) ?_
  refine own_by (g' := (mkF m 5 #[.val (.ref r1), .val (.int (16 : Int32)), .val (.long u1), .second] [(.int ((u1).toInt32).toInt8.toInt32), (.int (16 : Int32)), (.ref r1)])) (fun t k => XS.i2b X0.here hx rfl (hb hby own_d1_4) rfl k) ?_
  obtain ⟨c101, Ar101, q101, S101, G101, H101, F101⟩ := id V1
  have hin101 : ¬ ((16 : Int32) < 0 ∨ c101.slots.size ≤ ((16 : Int32)).toNatClampNeg) := inb_of S101 ⟨by decide, by decide⟩
  obtain ⟨T101, h101, X101, e101, W101, st101⟩ := stB X0 hx hZ e0 Ar101 (j := (16 : Int32)) hin101 (g := (mkF m 5 #[.val (.ref r1), .val (.int (16 : Int32)), .val (.long u1), .second] [(.int ((u1).toInt32).toInt8.toInt32), (.int (16 : Int32)), (.ref r1)])) rfl rfl (hb hby own_d1_5)
  have V102 : Arv Z h101 r1 kk .byte (32 : Int32) (xs.set 16 (.int (own_b0 u1))) (.int (0 : Int32)) := Arv.set Ar101 q101 S101 G101 H101 F101 (fits_nar_byte _) (own_wr (v' := .int (own_b0 u1)) W101 (congrArg Value.int (own_b8 _))) 16 rfl (by simp [hl])
  have N101 := Fr.snoc X101 N0 g1
  refine own_by (g' := (mkF m 6 #[.val (.ref r1), .val (.int (16 : Int32)), .val (.long u1), .second] [])) st101 ?_
  refine own_by (g' := (mkF m 7 #[.val (.ref r1), .val (.int (16 : Int32)), .val (.long u1), .second] [(.ref r1)])) (fun t k => XS.aloadN X101.here hx rfl (hb hby own_d1_6) rfl rfl k) ?_
  refine own_by (g' := (mkF m 8 #[.val (.ref r1), .val (.int (16 : Int32)), .val (.long u1), .second] [(.int (16 : Int32)), (.ref r1)])) (fun t k => XS.iloadN X101.here hx rfl (hb hby own_d1_7) rfl k) ?_
  refine own_by (g' := (mkF m 9 #[.val (.ref r1), .val (.int (16 : Int32)), .val (.long u1), .second] [(.int (1 : Int32)), (.int (16 : Int32)), (.ref r1)])) (fun t k => XS.iconst X101.here hx rfl (hb hby own_d1_8) k) ?_
  refine own_by (g' := (mkF m 10 #[.val (.ref r1), .val (.int (16 : Int32)), .val (.long u1), .second] [(.int (17 : Int32)), (.ref r1)])) (fun t k => XS.iadd X101.here hx rfl (hb hby own_d1_9) rfl k) ?_
  refine own_by (g' := (mkF m 11 #[.val (.ref r1), .val (.int (16 : Int32)), .val (.long u1), .second] [(.long u1), (.int (17 : Int32)), (.ref r1)])) (fun t k => XS.lloadN X101.here hx rfl (hb hby own_d1_10) rfl k) ?_
  refine own_by (g' := (mkF m 13 #[.val (.ref r1), .val (.int (16 : Int32)), .val (.long u1), .second] [(.int (8 : Int32)), (.long u1), (.int (17 : Int32)), (.ref r1)])) (fun t k => XS.bipush X101.here hx rfl (hb hby own_d1_11) k) ?_
  refine own_by (g' := (mkF m 14 #[.val (.ref r1), .val (.int (16 : Int32)), .val (.long u1), .second] [(.long ((u1).toUInt64 >>> ((8 : Int32) &&& 0x3f).toInt64.toUInt64).toInt64), (.int (17 : Int32)), (.ref r1)])) (fun t k => XS.lushr X101.here hx rfl (hb hby own_d1_13) rfl k) ?_
  refine own_by (g' := (mkF m 15 #[.val (.ref r1), .val (.int (16 : Int32)), .val (.long u1), .second] [(.int (((u1).toUInt64 >>> ((8 : Int32) &&& 0x3f).toInt64.toUInt64).toInt64).toInt32), (.int (17 : Int32)), (.ref r1)])) (fun t k => XS.l2i X101.here hx rfl (hb hby own_d1_14) rfl k) ?_
  refine own_by (g' := (mkF m 16 #[.val (.ref r1), .val (.int (16 : Int32)), .val (.long u1), .second] [(.int ((((u1).toUInt64 >>> ((8 : Int32) &&& 0x3f).toInt64.toUInt64).toInt64).toInt32).toInt8.toInt32), (.int (17 : Int32)), (.ref r1)])) (fun t k => XS.i2b X101.here hx rfl (hb hby own_d1_15) rfl k) ?_
  obtain ⟨c103, Ar103, q103, S103, G103, H103, F103⟩ := id V102
  have hin103 : ¬ ((17 : Int32) < 0 ∨ c103.slots.size ≤ ((17 : Int32)).toNatClampNeg) := inb_of S103 ⟨by decide, by decide⟩
  obtain ⟨T103, h103, X103, e103, W103, st103⟩ := stB X101 hx hZ e101 Ar103 (j := (17 : Int32)) hin103 (g := (mkF m 16 #[.val (.ref r1), .val (.int (16 : Int32)), .val (.long u1), .second] [(.int ((((u1).toUInt64 >>> ((8 : Int32) &&& 0x3f).toInt64.toUInt64).toInt64).toInt32).toInt8.toInt32), (.int (17 : Int32)), (.ref r1)])) rfl rfl (hb hby own_d1_16)
  have V104 : Arv Z h103 r1 kk .byte (32 : Int32) ((xs.set 16 (.int (own_b0 u1))).set 17 (.int (own_b u1 8))) (.int (0 : Int32)) := Arv.set Ar103 q103 S103 G103 H103 F103 (fits_nar_byte _) (own_wr (v' := .int (own_b u1 8)) W103 (congrArg Value.int (own_b8 _))) 17 rfl (by simp [hl])
  have N103 := Fr.snoc X103 N101 g1
  refine own_by (g' := (mkF m 17 #[.val (.ref r1), .val (.int (16 : Int32)), .val (.long u1), .second] [])) st103 ?_
  refine own_by (g' := (mkF m 18 #[.val (.ref r1), .val (.int (16 : Int32)), .val (.long u1), .second] [(.ref r1)])) (fun t k => XS.aloadN X103.here hx rfl (hb hby own_d1_17) rfl rfl k) ?_
  refine own_by (g' := (mkF m 19 #[.val (.ref r1), .val (.int (16 : Int32)), .val (.long u1), .second] [(.int (16 : Int32)), (.ref r1)])) (fun t k => XS.iloadN X103.here hx rfl (hb hby own_d1_18) rfl k) ?_
  refine own_by (g' := (mkF m 20 #[.val (.ref r1), .val (.int (16 : Int32)), .val (.long u1), .second] [(.int (2 : Int32)), (.int (16 : Int32)), (.ref r1)])) (fun t k => XS.iconst X103.here hx rfl (hb hby own_d1_19) k) ?_
  refine own_by (g' := (mkF m 21 #[.val (.ref r1), .val (.int (16 : Int32)), .val (.long u1), .second] [(.int (18 : Int32)), (.ref r1)])) (fun t k => XS.iadd X103.here hx rfl (hb hby own_d1_20) rfl k) ?_
  refine own_by (g' := (mkF m 22 #[.val (.ref r1), .val (.int (16 : Int32)), .val (.long u1), .second] [(.long u1), (.int (18 : Int32)), (.ref r1)])) (fun t k => XS.lloadN X103.here hx rfl (hb hby own_d1_21) rfl k) ?_
  refine own_by (g' := (mkF m 24 #[.val (.ref r1), .val (.int (16 : Int32)), .val (.long u1), .second] [(.int (16 : Int32)), (.long u1), (.int (18 : Int32)), (.ref r1)])) (fun t k => XS.bipush X103.here hx rfl (hb hby own_d1_22) k) ?_
  refine own_by (g' := (mkF m 25 #[.val (.ref r1), .val (.int (16 : Int32)), .val (.long u1), .second] [(.long ((u1).toUInt64 >>> ((16 : Int32) &&& 0x3f).toInt64.toUInt64).toInt64), (.int (18 : Int32)), (.ref r1)])) (fun t k => XS.lushr X103.here hx rfl (hb hby own_d1_24) rfl k) ?_
  refine own_by (g' := (mkF m 26 #[.val (.ref r1), .val (.int (16 : Int32)), .val (.long u1), .second] [(.int (((u1).toUInt64 >>> ((16 : Int32) &&& 0x3f).toInt64.toUInt64).toInt64).toInt32), (.int (18 : Int32)), (.ref r1)])) (fun t k => XS.l2i X103.here hx rfl (hb hby own_d1_25) rfl k) ?_
  refine own_by (g' := (mkF m 27 #[.val (.ref r1), .val (.int (16 : Int32)), .val (.long u1), .second] [(.int ((((u1).toUInt64 >>> ((16 : Int32) &&& 0x3f).toInt64.toUInt64).toInt64).toInt32).toInt8.toInt32), (.int (18 : Int32)), (.ref r1)])) (fun t k => XS.i2b X103.here hx rfl (hb hby own_d1_26) rfl k) ?_
  obtain ⟨c105, Ar105, q105, S105, G105, H105, F105⟩ := id V104
  have hin105 : ¬ ((18 : Int32) < 0 ∨ c105.slots.size ≤ ((18 : Int32)).toNatClampNeg) := inb_of S105 ⟨by decide, by decide⟩
  obtain ⟨T105, h105, X105, e105, W105, st105⟩ := stB X103 hx hZ e103 Ar105 (j := (18 : Int32)) hin105 (g := (mkF m 27 #[.val (.ref r1), .val (.int (16 : Int32)), .val (.long u1), .second] [(.int ((((u1).toUInt64 >>> ((16 : Int32) &&& 0x3f).toInt64.toUInt64).toInt64).toInt32).toInt8.toInt32), (.int (18 : Int32)), (.ref r1)])) rfl rfl (hb hby own_d1_27)
  have V106 : Arv Z h105 r1 kk .byte (32 : Int32) (((xs.set 16 (.int (own_b0 u1))).set 17 (.int (own_b u1 8))).set 18 (.int (own_b u1 16))) (.int (0 : Int32)) := Arv.set Ar105 q105 S105 G105 H105 F105 (fits_nar_byte _) (own_wr (v' := .int (own_b u1 16)) W105 (congrArg Value.int (own_b8 _))) 18 rfl (by simp [hl])
  have N105 := Fr.snoc X105 N103 g1
  refine own_by (g' := (mkF m 28 #[.val (.ref r1), .val (.int (16 : Int32)), .val (.long u1), .second] [])) st105 ?_
  refine own_by (g' := (mkF m 29 #[.val (.ref r1), .val (.int (16 : Int32)), .val (.long u1), .second] [(.ref r1)])) (fun t k => XS.aloadN X105.here hx rfl (hb hby own_d1_28) rfl rfl k) ?_
  refine own_by (g' := (mkF m 30 #[.val (.ref r1), .val (.int (16 : Int32)), .val (.long u1), .second] [(.int (16 : Int32)), (.ref r1)])) (fun t k => XS.iloadN X105.here hx rfl (hb hby own_d1_29) rfl k) ?_
  refine own_by (g' := (mkF m 31 #[.val (.ref r1), .val (.int (16 : Int32)), .val (.long u1), .second] [(.int (3 : Int32)), (.int (16 : Int32)), (.ref r1)])) (fun t k => XS.iconst X105.here hx rfl (hb hby own_d1_30) k) ?_
  refine own_by (g' := (mkF m 32 #[.val (.ref r1), .val (.int (16 : Int32)), .val (.long u1), .second] [(.int (19 : Int32)), (.ref r1)])) (fun t k => XS.iadd X105.here hx rfl (hb hby own_d1_31) rfl k) ?_
  refine own_by (g' := (mkF m 33 #[.val (.ref r1), .val (.int (16 : Int32)), .val (.long u1), .second] [(.long u1), (.int (19 : Int32)), (.ref r1)])) (fun t k => XS.lloadN X105.here hx rfl (hb hby own_d1_32) rfl k) ?_
  refine own_by (g' := (mkF m 35 #[.val (.ref r1), .val (.int (16 : Int32)), .val (.long u1), .second] [(.int (24 : Int32)), (.long u1), (.int (19 : Int32)), (.ref r1)])) (fun t k => XS.bipush X105.here hx rfl (hb hby own_d1_33) k) ?_
  refine own_by (g' := (mkF m 36 #[.val (.ref r1), .val (.int (16 : Int32)), .val (.long u1), .second] [(.long ((u1).toUInt64 >>> ((24 : Int32) &&& 0x3f).toInt64.toUInt64).toInt64), (.int (19 : Int32)), (.ref r1)])) (fun t k => XS.lushr X105.here hx rfl (hb hby own_d1_35) rfl k) ?_
  refine own_by (g' := (mkF m 37 #[.val (.ref r1), .val (.int (16 : Int32)), .val (.long u1), .second] [(.int (((u1).toUInt64 >>> ((24 : Int32) &&& 0x3f).toInt64.toUInt64).toInt64).toInt32), (.int (19 : Int32)), (.ref r1)])) (fun t k => XS.l2i X105.here hx rfl (hb hby own_d1_36) rfl k) ?_
  refine own_by (g' := (mkF m 38 #[.val (.ref r1), .val (.int (16 : Int32)), .val (.long u1), .second] [(.int ((((u1).toUInt64 >>> ((24 : Int32) &&& 0x3f).toInt64.toUInt64).toInt64).toInt32).toInt8.toInt32), (.int (19 : Int32)), (.ref r1)])) (fun t k => XS.i2b X105.here hx rfl (hb hby own_d1_37) rfl k) ?_
  obtain ⟨c107, Ar107, q107, S107, G107, H107, F107⟩ := id V106
  have hin107 : ¬ ((19 : Int32) < 0 ∨ c107.slots.size ≤ ((19 : Int32)).toNatClampNeg) := inb_of S107 ⟨by decide, by decide⟩
  obtain ⟨T107, h107, X107, e107, W107, st107⟩ := stB X105 hx hZ e105 Ar107 (j := (19 : Int32)) hin107 (g := (mkF m 38 #[.val (.ref r1), .val (.int (16 : Int32)), .val (.long u1), .second] [(.int ((((u1).toUInt64 >>> ((24 : Int32) &&& 0x3f).toInt64.toUInt64).toInt64).toInt32).toInt8.toInt32), (.int (19 : Int32)), (.ref r1)])) rfl rfl (hb hby own_d1_38)
  have V108 : Arv Z h107 r1 kk .byte (32 : Int32) ((((xs.set 16 (.int (own_b0 u1))).set 17 (.int (own_b u1 8))).set 18 (.int (own_b u1 16))).set 19 (.int (own_b u1 24))) (.int (0 : Int32)) := Arv.set Ar107 q107 S107 G107 H107 F107 (fits_nar_byte _) (own_wr (v' := .int (own_b u1 24)) W107 (congrArg Value.int (own_b8 _))) 19 rfl (by simp [hl])
  have N107 := Fr.snoc X107 N105 g1
  refine own_by (g' := (mkF m 39 #[.val (.ref r1), .val (.int (16 : Int32)), .val (.long u1), .second] [])) st107 ?_
  refine own_by (g' := (mkF m 40 #[.val (.ref r1), .val (.int (16 : Int32)), .val (.long u1), .second] [(.ref r1)])) (fun t k => XS.aloadN X107.here hx rfl (hb hby own_d1_39) rfl rfl k) ?_
  refine own_by (g' := (mkF m 41 #[.val (.ref r1), .val (.int (16 : Int32)), .val (.long u1), .second] [(.int (16 : Int32)), (.ref r1)])) (fun t k => XS.iloadN X107.here hx rfl (hb hby own_d1_40) rfl k) ?_
  refine own_by (g' := (mkF m 42 #[.val (.ref r1), .val (.int (16 : Int32)), .val (.long u1), .second] [(.int (4 : Int32)), (.int (16 : Int32)), (.ref r1)])) (fun t k => XS.iconst X107.here hx rfl (hb hby own_d1_41) k) ?_
  refine own_by (g' := (mkF m 43 #[.val (.ref r1), .val (.int (16 : Int32)), .val (.long u1), .second] [(.int (20 : Int32)), (.ref r1)])) (fun t k => XS.iadd X107.here hx rfl (hb hby own_d1_42) rfl k) ?_
  refine own_by (g' := (mkF m 44 #[.val (.ref r1), .val (.int (16 : Int32)), .val (.long u1), .second] [(.long u1), (.int (20 : Int32)), (.ref r1)])) (fun t k => XS.lloadN X107.here hx rfl (hb hby own_d1_43) rfl k) ?_
  refine own_by (g' := (mkF m 46 #[.val (.ref r1), .val (.int (16 : Int32)), .val (.long u1), .second] [(.int (32 : Int32)), (.long u1), (.int (20 : Int32)), (.ref r1)])) (fun t k => XS.bipush X107.here hx rfl (hb hby own_d1_44) k) ?_
  refine own_by (g' := (mkF m 47 #[.val (.ref r1), .val (.int (16 : Int32)), .val (.long u1), .second] [(.long ((u1).toUInt64 >>> ((32 : Int32) &&& 0x3f).toInt64.toUInt64).toInt64), (.int (20 : Int32)), (.ref r1)])) (fun t k => XS.lushr X107.here hx rfl (hb hby own_d1_46) rfl k) ?_
  refine own_by (g' := (mkF m 48 #[.val (.ref r1), .val (.int (16 : Int32)), .val (.long u1), .second] [(.int (((u1).toUInt64 >>> ((32 : Int32) &&& 0x3f).toInt64.toUInt64).toInt64).toInt32), (.int (20 : Int32)), (.ref r1)])) (fun t k => XS.l2i X107.here hx rfl (hb hby own_d1_47) rfl k) ?_
  refine own_by (g' := (mkF m 49 #[.val (.ref r1), .val (.int (16 : Int32)), .val (.long u1), .second] [(.int ((((u1).toUInt64 >>> ((32 : Int32) &&& 0x3f).toInt64.toUInt64).toInt64).toInt32).toInt8.toInt32), (.int (20 : Int32)), (.ref r1)])) (fun t k => XS.i2b X107.here hx rfl (hb hby own_d1_48) rfl k) ?_
  obtain ⟨c109, Ar109, q109, S109, G109, H109, F109⟩ := id V108
  have hin109 : ¬ ((20 : Int32) < 0 ∨ c109.slots.size ≤ ((20 : Int32)).toNatClampNeg) := inb_of S109 ⟨by decide, by decide⟩
  obtain ⟨T109, h109, X109, e109, W109, st109⟩ := stB X107 hx hZ e107 Ar109 (j := (20 : Int32)) hin109 (g := (mkF m 49 #[.val (.ref r1), .val (.int (16 : Int32)), .val (.long u1), .second] [(.int ((((u1).toUInt64 >>> ((32 : Int32) &&& 0x3f).toInt64.toUInt64).toInt64).toInt32).toInt8.toInt32), (.int (20 : Int32)), (.ref r1)])) rfl rfl (hb hby own_d1_49)
  have V110 : Arv Z h109 r1 kk .byte (32 : Int32) (((((xs.set 16 (.int (own_b0 u1))).set 17 (.int (own_b u1 8))).set 18 (.int (own_b u1 16))).set 19 (.int (own_b u1 24))).set 20 (.int (own_b u1 32))) (.int (0 : Int32)) := Arv.set Ar109 q109 S109 G109 H109 F109 (fits_nar_byte _) (own_wr (v' := .int (own_b u1 32)) W109 (congrArg Value.int (own_b8 _))) 20 rfl (by simp [hl])
  have N109 := Fr.snoc X109 N107 g1
  refine own_by (g' := (mkF m 50 #[.val (.ref r1), .val (.int (16 : Int32)), .val (.long u1), .second] [])) st109 ?_
  refine own_by (g' := (mkF m 51 #[.val (.ref r1), .val (.int (16 : Int32)), .val (.long u1), .second] [(.ref r1)])) (fun t k => XS.aloadN X109.here hx rfl (hb hby own_d1_50) rfl rfl k) ?_
  refine own_by (g' := (mkF m 52 #[.val (.ref r1), .val (.int (16 : Int32)), .val (.long u1), .second] [(.int (16 : Int32)), (.ref r1)])) (fun t k => XS.iloadN X109.here hx rfl (hb hby own_d1_51) rfl k) ?_
  refine own_by (g' := (mkF m 53 #[.val (.ref r1), .val (.int (16 : Int32)), .val (.long u1), .second] [(.int (5 : Int32)), (.int (16 : Int32)), (.ref r1)])) (fun t k => XS.iconst X109.here hx rfl (hb hby own_d1_52) k) ?_
  refine own_by (g' := (mkF m 54 #[.val (.ref r1), .val (.int (16 : Int32)), .val (.long u1), .second] [(.int (21 : Int32)), (.ref r1)])) (fun t k => XS.iadd X109.here hx rfl (hb hby own_d1_53) rfl k) ?_
  refine own_by (g' := (mkF m 55 #[.val (.ref r1), .val (.int (16 : Int32)), .val (.long u1), .second] [(.long u1), (.int (21 : Int32)), (.ref r1)])) (fun t k => XS.lloadN X109.here hx rfl (hb hby own_d1_54) rfl k) ?_
  refine own_by (g' := (mkF m 57 #[.val (.ref r1), .val (.int (16 : Int32)), .val (.long u1), .second] [(.int (40 : Int32)), (.long u1), (.int (21 : Int32)), (.ref r1)])) (fun t k => XS.bipush X109.here hx rfl (hb hby own_d1_55) k) ?_
  refine own_by (g' := (mkF m 58 #[.val (.ref r1), .val (.int (16 : Int32)), .val (.long u1), .second] [(.long ((u1).toUInt64 >>> ((40 : Int32) &&& 0x3f).toInt64.toUInt64).toInt64), (.int (21 : Int32)), (.ref r1)])) (fun t k => XS.lushr X109.here hx rfl (hb hby own_d1_57) rfl k) ?_
  refine own_by (g' := (mkF m 59 #[.val (.ref r1), .val (.int (16 : Int32)), .val (.long u1), .second] [(.int (((u1).toUInt64 >>> ((40 : Int32) &&& 0x3f).toInt64.toUInt64).toInt64).toInt32), (.int (21 : Int32)), (.ref r1)])) (fun t k => XS.l2i X109.here hx rfl (hb hby own_d1_58) rfl k) ?_
  refine own_by (g' := (mkF m 60 #[.val (.ref r1), .val (.int (16 : Int32)), .val (.long u1), .second] [(.int ((((u1).toUInt64 >>> ((40 : Int32) &&& 0x3f).toInt64.toUInt64).toInt64).toInt32).toInt8.toInt32), (.int (21 : Int32)), (.ref r1)])) (fun t k => XS.i2b X109.here hx rfl (hb hby own_d1_59) rfl k) ?_
  obtain ⟨c111, Ar111, q111, S111, G111, H111, F111⟩ := id V110
  have hin111 : ¬ ((21 : Int32) < 0 ∨ c111.slots.size ≤ ((21 : Int32)).toNatClampNeg) := inb_of S111 ⟨by decide, by decide⟩
  obtain ⟨T111, h111, X111, e111, W111, st111⟩ := stB X109 hx hZ e109 Ar111 (j := (21 : Int32)) hin111 (g := (mkF m 60 #[.val (.ref r1), .val (.int (16 : Int32)), .val (.long u1), .second] [(.int ((((u1).toUInt64 >>> ((40 : Int32) &&& 0x3f).toInt64.toUInt64).toInt64).toInt32).toInt8.toInt32), (.int (21 : Int32)), (.ref r1)])) rfl rfl (hb hby own_d1_60)
  have V112 : Arv Z h111 r1 kk .byte (32 : Int32) ((((((xs.set 16 (.int (own_b0 u1))).set 17 (.int (own_b u1 8))).set 18 (.int (own_b u1 16))).set 19 (.int (own_b u1 24))).set 20 (.int (own_b u1 32))).set 21 (.int (own_b u1 40))) (.int (0 : Int32)) := Arv.set Ar111 q111 S111 G111 H111 F111 (fits_nar_byte _) (own_wr (v' := .int (own_b u1 40)) W111 (congrArg Value.int (own_b8 _))) 21 rfl (by simp [hl])
  have N111 := Fr.snoc X111 N109 g1
  refine own_by (g' := (mkF m 61 #[.val (.ref r1), .val (.int (16 : Int32)), .val (.long u1), .second] [])) st111 ?_
  refine own_by (g' := (mkF m 62 #[.val (.ref r1), .val (.int (16 : Int32)), .val (.long u1), .second] [(.ref r1)])) (fun t k => XS.aloadN X111.here hx rfl (hb hby own_d1_61) rfl rfl k) ?_
  refine own_by (g' := (mkF m 63 #[.val (.ref r1), .val (.int (16 : Int32)), .val (.long u1), .second] [(.int (16 : Int32)), (.ref r1)])) (fun t k => XS.iloadN X111.here hx rfl (hb hby own_d1_62) rfl k) ?_
  refine own_by (g' := (mkF m 65 #[.val (.ref r1), .val (.int (16 : Int32)), .val (.long u1), .second] [(.int (6 : Int32)), (.int (16 : Int32)), (.ref r1)])) (fun t k => XS.bipush X111.here hx rfl (hb hby own_d1_63) k) ?_
  refine own_by (g' := (mkF m 66 #[.val (.ref r1), .val (.int (16 : Int32)), .val (.long u1), .second] [(.int (22 : Int32)), (.ref r1)])) (fun t k => XS.iadd X111.here hx rfl (hb hby own_d1_65) rfl k) ?_
  refine own_by (g' := (mkF m 67 #[.val (.ref r1), .val (.int (16 : Int32)), .val (.long u1), .second] [(.long u1), (.int (22 : Int32)), (.ref r1)])) (fun t k => XS.lloadN X111.here hx rfl (hb hby own_d1_66) rfl k) ?_
  refine own_by (g' := (mkF m 69 #[.val (.ref r1), .val (.int (16 : Int32)), .val (.long u1), .second] [(.int (48 : Int32)), (.long u1), (.int (22 : Int32)), (.ref r1)])) (fun t k => XS.bipush X111.here hx rfl (hb hby own_d1_67) k) ?_
  refine own_by (g' := (mkF m 70 #[.val (.ref r1), .val (.int (16 : Int32)), .val (.long u1), .second] [(.long ((u1).toUInt64 >>> ((48 : Int32) &&& 0x3f).toInt64.toUInt64).toInt64), (.int (22 : Int32)), (.ref r1)])) (fun t k => XS.lushr X111.here hx rfl (hb hby own_d1_69) rfl k) ?_
  refine own_by (g' := (mkF m 71 #[.val (.ref r1), .val (.int (16 : Int32)), .val (.long u1), .second] [(.int (((u1).toUInt64 >>> ((48 : Int32) &&& 0x3f).toInt64.toUInt64).toInt64).toInt32), (.int (22 : Int32)), (.ref r1)])) (fun t k => XS.l2i X111.here hx rfl (hb hby own_d1_70) rfl k) ?_
  refine own_by (g' := (mkF m 72 #[.val (.ref r1), .val (.int (16 : Int32)), .val (.long u1), .second] [(.int ((((u1).toUInt64 >>> ((48 : Int32) &&& 0x3f).toInt64.toUInt64).toInt64).toInt32).toInt8.toInt32), (.int (22 : Int32)), (.ref r1)])) (fun t k => XS.i2b X111.here hx rfl (hb hby own_d1_71) rfl k) ?_
  obtain ⟨c113, Ar113, q113, S113, G113, H113, F113⟩ := id V112
  have hin113 : ¬ ((22 : Int32) < 0 ∨ c113.slots.size ≤ ((22 : Int32)).toNatClampNeg) := inb_of S113 ⟨by decide, by decide⟩
  obtain ⟨T113, h113, X113, e113, W113, st113⟩ := stB X111 hx hZ e111 Ar113 (j := (22 : Int32)) hin113 (g := (mkF m 72 #[.val (.ref r1), .val (.int (16 : Int32)), .val (.long u1), .second] [(.int ((((u1).toUInt64 >>> ((48 : Int32) &&& 0x3f).toInt64.toUInt64).toInt64).toInt32).toInt8.toInt32), (.int (22 : Int32)), (.ref r1)])) rfl rfl (hb hby own_d1_72)
  have V114 : Arv Z h113 r1 kk .byte (32 : Int32) (((((((xs.set 16 (.int (own_b0 u1))).set 17 (.int (own_b u1 8))).set 18 (.int (own_b u1 16))).set 19 (.int (own_b u1 24))).set 20 (.int (own_b u1 32))).set 21 (.int (own_b u1 40))).set 22 (.int (own_b u1 48))) (.int (0 : Int32)) := Arv.set Ar113 q113 S113 G113 H113 F113 (fits_nar_byte _) (own_wr (v' := .int (own_b u1 48)) W113 (congrArg Value.int (own_b8 _))) 22 rfl (by simp [hl])
  have N113 := Fr.snoc X113 N111 g1
  refine own_by (g' := (mkF m 73 #[.val (.ref r1), .val (.int (16 : Int32)), .val (.long u1), .second] [])) st113 ?_
  refine own_by (g' := (mkF m 74 #[.val (.ref r1), .val (.int (16 : Int32)), .val (.long u1), .second] [(.ref r1)])) (fun t k => XS.aloadN X113.here hx rfl (hb hby own_d1_73) rfl rfl k) ?_
  refine own_by (g' := (mkF m 75 #[.val (.ref r1), .val (.int (16 : Int32)), .val (.long u1), .second] [(.int (16 : Int32)), (.ref r1)])) (fun t k => XS.iloadN X113.here hx rfl (hb hby own_d1_74) rfl k) ?_
  refine own_by (g' := (mkF m 77 #[.val (.ref r1), .val (.int (16 : Int32)), .val (.long u1), .second] [(.int (7 : Int32)), (.int (16 : Int32)), (.ref r1)])) (fun t k => XS.bipush X113.here hx rfl (hb hby own_d1_75) k) ?_
  refine own_by (g' := (mkF m 78 #[.val (.ref r1), .val (.int (16 : Int32)), .val (.long u1), .second] [(.int (23 : Int32)), (.ref r1)])) (fun t k => XS.iadd X113.here hx rfl (hb hby own_d1_77) rfl k) ?_
  refine own_by (g' := (mkF m 79 #[.val (.ref r1), .val (.int (16 : Int32)), .val (.long u1), .second] [(.long u1), (.int (23 : Int32)), (.ref r1)])) (fun t k => XS.lloadN X113.here hx rfl (hb hby own_d1_78) rfl k) ?_
  refine own_by (g' := (mkF m 81 #[.val (.ref r1), .val (.int (16 : Int32)), .val (.long u1), .second] [(.int (56 : Int32)), (.long u1), (.int (23 : Int32)), (.ref r1)])) (fun t k => XS.bipush X113.here hx rfl (hb hby own_d1_79) k) ?_
  refine own_by (g' := (mkF m 82 #[.val (.ref r1), .val (.int (16 : Int32)), .val (.long u1), .second] [(.long ((u1).toUInt64 >>> ((56 : Int32) &&& 0x3f).toInt64.toUInt64).toInt64), (.int (23 : Int32)), (.ref r1)])) (fun t k => XS.lushr X113.here hx rfl (hb hby own_d1_81) rfl k) ?_
  refine own_by (g' := (mkF m 83 #[.val (.ref r1), .val (.int (16 : Int32)), .val (.long u1), .second] [(.int (((u1).toUInt64 >>> ((56 : Int32) &&& 0x3f).toInt64.toUInt64).toInt64).toInt32), (.int (23 : Int32)), (.ref r1)])) (fun t k => XS.l2i X113.here hx rfl (hb hby own_d1_82) rfl k) ?_
  refine own_by (g' := (mkF m 84 #[.val (.ref r1), .val (.int (16 : Int32)), .val (.long u1), .second] [(.int ((((u1).toUInt64 >>> ((56 : Int32) &&& 0x3f).toInt64.toUInt64).toInt64).toInt32).toInt8.toInt32), (.int (23 : Int32)), (.ref r1)])) (fun t k => XS.i2b X113.here hx rfl (hb hby own_d1_83) rfl k) ?_
  obtain ⟨c115, Ar115, q115, S115, G115, H115, F115⟩ := id V114
  have hin115 : ¬ ((23 : Int32) < 0 ∨ c115.slots.size ≤ ((23 : Int32)).toNatClampNeg) := inb_of S115 ⟨by decide, by decide⟩
  obtain ⟨T115, h115, X115, e115, W115, st115⟩ := stB X113 hx hZ e113 Ar115 (j := (23 : Int32)) hin115 (g := (mkF m 84 #[.val (.ref r1), .val (.int (16 : Int32)), .val (.long u1), .second] [(.int ((((u1).toUInt64 >>> ((56 : Int32) &&& 0x3f).toInt64.toUInt64).toInt64).toInt32).toInt8.toInt32), (.int (23 : Int32)), (.ref r1)])) rfl rfl (hb hby own_d1_84)
  have V116 : Arv Z h115 r1 kk .byte (32 : Int32) ((((((((xs.set 16 (.int (own_b0 u1))).set 17 (.int (own_b u1 8))).set 18 (.int (own_b u1 16))).set 19 (.int (own_b u1 24))).set 20 (.int (own_b u1 32))).set 21 (.int (own_b u1 40))).set 22 (.int (own_b u1 48))).set 23 (.int (own_b u1 56))) (.int (0 : Int32)) := Arv.set Ar115 q115 S115 G115 H115 F115 (fits_nar_byte _) (own_wr (v' := .int (own_b u1 56)) W115 (congrArg Value.int (own_b8 _))) 23 rfl (by simp [hl])
  have N115 := Fr.snoc X115 N113 g1
  refine own_by (g' := (mkF m 85 #[.val (.ref r1), .val (.int (16 : Int32)), .val (.long u1), .second] [])) st115 ?_
  refine own_retV X115 hx hlk hret (hb hby own_d1_85) (by decide) (by decide) ?_
  rw [e115]
  exact ⟨rfl, N115, (((((((((Keep.refl h0 [r1]).wr W101 (Or.inl (List.mem_of_getElem? (i := 0) rfl))).wr W103 (Or.inl (List.mem_of_getElem? (i := 0) rfl))).wr W105 (Or.inl (List.mem_of_getElem? (i := 0) rfl))).wr W107 (Or.inl (List.mem_of_getElem? (i := 0) rfl))).wr W109 (Or.inl (List.mem_of_getElem? (i := 0) rfl))).wr W111 (Or.inl (List.mem_of_getElem? (i := 0) rfl))).wr W113 (Or.inl (List.mem_of_getElem? (i := 0) rfl))).wr W115 (Or.inl (List.mem_of_getElem? (i := 0) rfl))), V116⟩
def Q_own_put24 (Z : State) (r1 : Addr) (u1 : Int64) (kk : ClassId) (xs : List Value) (h0 : Heap) (n0 : Nat) (v : Option Value) (h : Heap) (L : List Loc) : Prop := v = none ∧ Fr n0 L ∧ Keep h0 h [r1] ∧ Arv Z h r1 kk .byte (32 : Int32) (own_put xs 24 u1) (.int (0 : Int32))
theorem own_ef_own_put24 (m : MethodId) (r1 : Addr) (u1 : Int64) : entryFrame m #[(.ref r1), (.int (24 : Int32)), (.long u1)] 4 = mkF m 0 #[.val (.ref r1), .val (.int (24 : Int32)), .val (.long u1), .second] [] := by first | (simp [entryFrame, mkF, argsToLocals, Value.category]; done) | rfl
set_option maxRecDepth 65536 in
set_option maxHeartbeats 40000000 in
theorem own_put24 (l : Launch) (Z : State) (a0 : Array Value) (hw : ∀ d ∈ tables_1, d.before a0 Z = true) (ws : List Jvm.Cond) (r1 : Addr) (u1 : Int64) (kk : ClassId) (xs : List Value) (h0 : Heap) (n0 : Nat) (Z0 : n0 ≤ h0.size) (V1 : Arv Z h0 r1 kk .byte (32 : Int32) xs (.int (0 : Int32))) (hl : xs.length = 32) (g1 : n0 ≤ r1) :
    own_Ctr l Z (⟨"com/example/idemnity/idemnity/model/Sha256FromDigestPinLaw", "put", "([BIJ)V"⟩ : MethodName) method_2_code 4 none ws ({ frames := 0, cells := 0, slots := 0, locals := 0 } : Room) (({ frames := 0, cells := 0, slots := 0, locals := 0 } : Room)).cells (({ frames := 0, cells := 0, slots := 0, locals := 0 } : Room)).slots #[(.ref r1), (.int (24 : Int32)), (.long u1)] h0 (Q_own_put24 Z r1 u1 kk xs h0 n0) := by
  refine own_enter (plainFor_of_name own_pn0) ?_
  intro p e s m below meth c s₁ X0 hx hZ hby hml hown hnm hlk hret e0
  have N0 := Fr.nil n0
  refine own_cast (own_ef_own_put24 m r1 u1) ?_
  refine own_by (g' := (mkF m 1 #[.val (.ref r1), .val (.int (24 : Int32)), .val (.long u1), .second] [(.ref r1)])) (fun t k => XS.aloadN X0.here hx rfl (hb hby own_d1_0) rfl rfl k) ?_
  refine own_by (g' := (mkF m 2 #[.val (.ref r1), .val (.int (24 : Int32)), .val (.long u1), .second] [(.int (24 : Int32)), (.ref r1)])) (fun t k => XS.iloadN X0.here hx rfl (hb hby own_d1_1) rfl k) ?_
  refine own_by (g' := (mkF m 3 #[.val (.ref r1), .val (.int (24 : Int32)), .val (.long u1), .second] [(.long u1), (.int (24 : Int32)), (.ref r1)])) (fun t k => XS.lloadN X0.here hx rfl (hb hby own_d1_2) rfl k) ?_
  refine own_by (g' := (mkF m 4 #[.val (.ref r1), .val (.int (24 : Int32)), .val (.long u1), .second] [(.int (u1).toInt32), (.int (24 : Int32)), (.ref r1)])) (fun t k => XS.l2i X0.here hx rfl (hb hby own_d1_3) rfl k) ?_
  refine own_by (g' := (mkF m 5 #[.val (.ref r1), .val (.int (24 : Int32)), .val (.long u1), .second] [(.int ((u1).toInt32).toInt8.toInt32), (.int (24 : Int32)), (.ref r1)])) (fun t k => XS.i2b X0.here hx rfl (hb hby own_d1_4) rfl k) ?_
  obtain ⟨c101, Ar101, q101, S101, G101, H101, F101⟩ := id V1
  have hin101 : ¬ ((24 : Int32) < 0 ∨ c101.slots.size ≤ ((24 : Int32)).toNatClampNeg) := inb_of S101 ⟨by decide, by decide⟩
  obtain ⟨T101, h101, X101, e101, W101, st101⟩ := stB X0 hx hZ e0 Ar101 (j := (24 : Int32)) hin101 (g := (mkF m 5 #[.val (.ref r1), .val (.int (24 : Int32)), .val (.long u1), .second] [(.int ((u1).toInt32).toInt8.toInt32), (.int (24 : Int32)), (.ref r1)])) rfl rfl (hb hby own_d1_5)
  have V102 : Arv Z h101 r1 kk .byte (32 : Int32) (xs.set 24 (.int (own_b0 u1))) (.int (0 : Int32)) := Arv.set Ar101 q101 S101 G101 H101 F101 (fits_nar_byte _) (own_wr (v' := .int (own_b0 u1)) W101 (congrArg Value.int (own_b8 _))) 24 rfl (by simp [hl])
  have N101 := Fr.snoc X101 N0 g1
  refine own_by (g' := (mkF m 6 #[.val (.ref r1), .val (.int (24 : Int32)), .val (.long u1), .second] [])) st101 ?_
  refine own_by (g' := (mkF m 7 #[.val (.ref r1), .val (.int (24 : Int32)), .val (.long u1), .second] [(.ref r1)])) (fun t k => XS.aloadN X101.here hx rfl (hb hby own_d1_6) rfl rfl k) ?_
  refine own_by (g' := (mkF m 8 #[.val (.ref r1), .val (.int (24 : Int32)), .val (.long u1), .second] [(.int (24 : Int32)), (.ref r1)])) (fun t k => XS.iloadN X101.here hx rfl (hb hby own_d1_7) rfl k) ?_
  refine own_by (g' := (mkF m 9 #[.val (.ref r1), .val (.int (24 : Int32)), .val (.long u1), .second] [(.int (1 : Int32)), (.int (24 : Int32)), (.ref r1)])) (fun t k => XS.iconst X101.here hx rfl (hb hby own_d1_8) k) ?_
  refine own_by (g' := (mkF m 10 #[.val (.ref r1), .val (.int (24 : Int32)), .val (.long u1), .second] [(.int (25 : Int32)), (.ref r1)])) (fun t k => XS.iadd X101.here hx rfl (hb hby own_d1_9) rfl k) ?_
  refine own_by (g' := (mkF m 11 #[.val (.ref r1), .val (.int (24 : Int32)), .val (.long u1), .second] [(.long u1), (.int (25 : Int32)), (.ref r1)])) (fun t k => XS.lloadN X101.here hx rfl (hb hby own_d1_10) rfl k) ?_
  refine own_by (g' := (mkF m 13 #[.val (.ref r1), .val (.int (24 : Int32)), .val (.long u1), .second] [(.int (8 : Int32)), (.long u1), (.int (25 : Int32)), (.ref r1)])) (fun t k => XS.bipush X101.here hx rfl (hb hby own_d1_11) k) ?_
  refine own_by (g' := (mkF m 14 #[.val (.ref r1), .val (.int (24 : Int32)), .val (.long u1), .second] [(.long ((u1).toUInt64 >>> ((8 : Int32) &&& 0x3f).toInt64.toUInt64).toInt64), (.int (25 : Int32)), (.ref r1)])) (fun t k => XS.lushr X101.here hx rfl (hb hby own_d1_13) rfl k) ?_
  refine own_by (g' := (mkF m 15 #[.val (.ref r1), .val (.int (24 : Int32)), .val (.long u1), .second] [(.int (((u1).toUInt64 >>> ((8 : Int32) &&& 0x3f).toInt64.toUInt64).toInt64).toInt32), (.int (25 : Int32)), (.ref r1)])) (fun t k => XS.l2i X101.here hx rfl (hb hby own_d1_14) rfl k) ?_
  refine own_by (g' := (mkF m 16 #[.val (.ref r1), .val (.int (24 : Int32)), .val (.long u1), .second] [(.int ((((u1).toUInt64 >>> ((8 : Int32) &&& 0x3f).toInt64.toUInt64).toInt64).toInt32).toInt8.toInt32), (.int (25 : Int32)), (.ref r1)])) (fun t k => XS.i2b X101.here hx rfl (hb hby own_d1_15) rfl k) ?_
  obtain ⟨c103, Ar103, q103, S103, G103, H103, F103⟩ := id V102
  have hin103 : ¬ ((25 : Int32) < 0 ∨ c103.slots.size ≤ ((25 : Int32)).toNatClampNeg) := inb_of S103 ⟨by decide, by decide⟩
  obtain ⟨T103, h103, X103, e103, W103, st103⟩ := stB X101 hx hZ e101 Ar103 (j := (25 : Int32)) hin103 (g := (mkF m 16 #[.val (.ref r1), .val (.int (24 : Int32)), .val (.long u1), .second] [(.int ((((u1).toUInt64 >>> ((8 : Int32) &&& 0x3f).toInt64.toUInt64).toInt64).toInt32).toInt8.toInt32), (.int (25 : Int32)), (.ref r1)])) rfl rfl (hb hby own_d1_16)
  have V104 : Arv Z h103 r1 kk .byte (32 : Int32) ((xs.set 24 (.int (own_b0 u1))).set 25 (.int (own_b u1 8))) (.int (0 : Int32)) := Arv.set Ar103 q103 S103 G103 H103 F103 (fits_nar_byte _) (own_wr (v' := .int (own_b u1 8)) W103 (congrArg Value.int (own_b8 _))) 25 rfl (by simp [hl])
  have N103 := Fr.snoc X103 N101 g1
  refine own_by (g' := (mkF m 17 #[.val (.ref r1), .val (.int (24 : Int32)), .val (.long u1), .second] [])) st103 ?_
  refine own_by (g' := (mkF m 18 #[.val (.ref r1), .val (.int (24 : Int32)), .val (.long u1), .second] [(.ref r1)])) (fun t k => XS.aloadN X103.here hx rfl (hb hby own_d1_17) rfl rfl k) ?_
  refine own_by (g' := (mkF m 19 #[.val (.ref r1), .val (.int (24 : Int32)), .val (.long u1), .second] [(.int (24 : Int32)), (.ref r1)])) (fun t k => XS.iloadN X103.here hx rfl (hb hby own_d1_18) rfl k) ?_
  refine own_by (g' := (mkF m 20 #[.val (.ref r1), .val (.int (24 : Int32)), .val (.long u1), .second] [(.int (2 : Int32)), (.int (24 : Int32)), (.ref r1)])) (fun t k => XS.iconst X103.here hx rfl (hb hby own_d1_19) k) ?_
  refine own_by (g' := (mkF m 21 #[.val (.ref r1), .val (.int (24 : Int32)), .val (.long u1), .second] [(.int (26 : Int32)), (.ref r1)])) (fun t k => XS.iadd X103.here hx rfl (hb hby own_d1_20) rfl k) ?_
  refine own_by (g' := (mkF m 22 #[.val (.ref r1), .val (.int (24 : Int32)), .val (.long u1), .second] [(.long u1), (.int (26 : Int32)), (.ref r1)])) (fun t k => XS.lloadN X103.here hx rfl (hb hby own_d1_21) rfl k) ?_
  refine own_by (g' := (mkF m 24 #[.val (.ref r1), .val (.int (24 : Int32)), .val (.long u1), .second] [(.int (16 : Int32)), (.long u1), (.int (26 : Int32)), (.ref r1)])) (fun t k => XS.bipush X103.here hx rfl (hb hby own_d1_22) k) ?_
  refine own_by (g' := (mkF m 25 #[.val (.ref r1), .val (.int (24 : Int32)), .val (.long u1), .second] [(.long ((u1).toUInt64 >>> ((16 : Int32) &&& 0x3f).toInt64.toUInt64).toInt64), (.int (26 : Int32)), (.ref r1)])) (fun t k => XS.lushr X103.here hx rfl (hb hby own_d1_24) rfl k) ?_
  refine own_by (g' := (mkF m 26 #[.val (.ref r1), .val (.int (24 : Int32)), .val (.long u1), .second] [(.int (((u1).toUInt64 >>> ((16 : Int32) &&& 0x3f).toInt64.toUInt64).toInt64).toInt32), (.int (26 : Int32)), (.ref r1)])) (fun t k => XS.l2i X103.here hx rfl (hb hby own_d1_25) rfl k) ?_
  refine own_by (g' := (mkF m 27 #[.val (.ref r1), .val (.int (24 : Int32)), .val (.long u1), .second] [(.int ((((u1).toUInt64 >>> ((16 : Int32) &&& 0x3f).toInt64.toUInt64).toInt64).toInt32).toInt8.toInt32), (.int (26 : Int32)), (.ref r1)])) (fun t k => XS.i2b X103.here hx rfl (hb hby own_d1_26) rfl k) ?_
  obtain ⟨c105, Ar105, q105, S105, G105, H105, F105⟩ := id V104
  have hin105 : ¬ ((26 : Int32) < 0 ∨ c105.slots.size ≤ ((26 : Int32)).toNatClampNeg) := inb_of S105 ⟨by decide, by decide⟩
  obtain ⟨T105, h105, X105, e105, W105, st105⟩ := stB X103 hx hZ e103 Ar105 (j := (26 : Int32)) hin105 (g := (mkF m 27 #[.val (.ref r1), .val (.int (24 : Int32)), .val (.long u1), .second] [(.int ((((u1).toUInt64 >>> ((16 : Int32) &&& 0x3f).toInt64.toUInt64).toInt64).toInt32).toInt8.toInt32), (.int (26 : Int32)), (.ref r1)])) rfl rfl (hb hby own_d1_27)
  have V106 : Arv Z h105 r1 kk .byte (32 : Int32) (((xs.set 24 (.int (own_b0 u1))).set 25 (.int (own_b u1 8))).set 26 (.int (own_b u1 16))) (.int (0 : Int32)) := Arv.set Ar105 q105 S105 G105 H105 F105 (fits_nar_byte _) (own_wr (v' := .int (own_b u1 16)) W105 (congrArg Value.int (own_b8 _))) 26 rfl (by simp [hl])
  have N105 := Fr.snoc X105 N103 g1
  refine own_by (g' := (mkF m 28 #[.val (.ref r1), .val (.int (24 : Int32)), .val (.long u1), .second] [])) st105 ?_
  refine own_by (g' := (mkF m 29 #[.val (.ref r1), .val (.int (24 : Int32)), .val (.long u1), .second] [(.ref r1)])) (fun t k => XS.aloadN X105.here hx rfl (hb hby own_d1_28) rfl rfl k) ?_
  refine own_by (g' := (mkF m 30 #[.val (.ref r1), .val (.int (24 : Int32)), .val (.long u1), .second] [(.int (24 : Int32)), (.ref r1)])) (fun t k => XS.iloadN X105.here hx rfl (hb hby own_d1_29) rfl k) ?_
  refine own_by (g' := (mkF m 31 #[.val (.ref r1), .val (.int (24 : Int32)), .val (.long u1), .second] [(.int (3 : Int32)), (.int (24 : Int32)), (.ref r1)])) (fun t k => XS.iconst X105.here hx rfl (hb hby own_d1_30) k) ?_
  refine own_by (g' := (mkF m 32 #[.val (.ref r1), .val (.int (24 : Int32)), .val (.long u1), .second] [(.int (27 : Int32)), (.ref r1)])) (fun t k => XS.iadd X105.here hx rfl (hb hby own_d1_31) rfl k) ?_
  refine own_by (g' := (mkF m 33 #[.val (.ref r1), .val (.int (24 : Int32)), .val (.long u1), .second] [(.long u1), (.int (27 : Int32)), (.ref r1)])) (fun t k => XS.lloadN X105.here hx rfl (hb hby own_d1_32) rfl k) ?_
  refine own_by (g' := (mkF m 35 #[.val (.ref r1), .val (.int (24 : Int32)), .val (.long u1), .second] [(.int (24 : Int32)), (.long u1), (.int (27 : Int32)), (.ref r1)])) (fun t k => XS.bipush X105.here hx rfl (hb hby own_d1_33) k) ?_
  refine own_by (g' := (mkF m 36 #[.val (.ref r1), .val (.int (24 : Int32)), .val (.long u1), .second] [(.long ((u1).toUInt64 >>> ((24 : Int32) &&& 0x3f).toInt64.toUInt64).toInt64), (.int (27 : Int32)), (.ref r1)])) (fun t k => XS.lushr X105.here hx rfl (hb hby own_d1_35) rfl k) ?_
  refine own_by (g' := (mkF m 37 #[.val (.ref r1), .val (.int (24 : Int32)), .val (.long u1), .second] [(.int (((u1).toUInt64 >>> ((24 : Int32) &&& 0x3f).toInt64.toUInt64).toInt64).toInt32), (.int (27 : Int32)), (.ref r1)])) (fun t k => XS.l2i X105.here hx rfl (hb hby own_d1_36) rfl k) ?_
  refine own_by (g' := (mkF m 38 #[.val (.ref r1), .val (.int (24 : Int32)), .val (.long u1), .second] [(.int ((((u1).toUInt64 >>> ((24 : Int32) &&& 0x3f).toInt64.toUInt64).toInt64).toInt32).toInt8.toInt32), (.int (27 : Int32)), (.ref r1)])) (fun t k => XS.i2b X105.here hx rfl (hb hby own_d1_37) rfl k) ?_
  obtain ⟨c107, Ar107, q107, S107, G107, H107, F107⟩ := id V106
  have hin107 : ¬ ((27 : Int32) < 0 ∨ c107.slots.size ≤ ((27 : Int32)).toNatClampNeg) := inb_of S107 ⟨by decide, by decide⟩
  obtain ⟨T107, h107, X107, e107, W107, st107⟩ := stB X105 hx hZ e105 Ar107 (j := (27 : Int32)) hin107 (g := (mkF m 38 #[.val (.ref r1), .val (.int (24 : Int32)), .val (.long u1), .second] [(.int ((((u1).toUInt64 >>> ((24 : Int32) &&& 0x3f).toInt64.toUInt64).toInt64).toInt32).toInt8.toInt32), (.int (27 : Int32)), (.ref r1)])) rfl rfl (hb hby own_d1_38)
  have V108 : Arv Z h107 r1 kk .byte (32 : Int32) ((((xs.set 24 (.int (own_b0 u1))).set 25 (.int (own_b u1 8))).set 26 (.int (own_b u1 16))).set 27 (.int (own_b u1 24))) (.int (0 : Int32)) := Arv.set Ar107 q107 S107 G107 H107 F107 (fits_nar_byte _) (own_wr (v' := .int (own_b u1 24)) W107 (congrArg Value.int (own_b8 _))) 27 rfl (by simp [hl])
  have N107 := Fr.snoc X107 N105 g1
  refine own_by (g' := (mkF m 39 #[.val (.ref r1), .val (.int (24 : Int32)), .val (.long u1), .second] [])) st107 ?_
  refine own_by (g' := (mkF m 40 #[.val (.ref r1), .val (.int (24 : Int32)), .val (.long u1), .second] [(.ref r1)])) (fun t k => XS.aloadN X107.here hx rfl (hb hby own_d1_39) rfl rfl k) ?_
  refine own_by (g' := (mkF m 41 #[.val (.ref r1), .val (.int (24 : Int32)), .val (.long u1), .second] [(.int (24 : Int32)), (.ref r1)])) (fun t k => XS.iloadN X107.here hx rfl (hb hby own_d1_40) rfl k) ?_
  refine own_by (g' := (mkF m 42 #[.val (.ref r1), .val (.int (24 : Int32)), .val (.long u1), .second] [(.int (4 : Int32)), (.int (24 : Int32)), (.ref r1)])) (fun t k => XS.iconst X107.here hx rfl (hb hby own_d1_41) k) ?_
  refine own_by (g' := (mkF m 43 #[.val (.ref r1), .val (.int (24 : Int32)), .val (.long u1), .second] [(.int (28 : Int32)), (.ref r1)])) (fun t k => XS.iadd X107.here hx rfl (hb hby own_d1_42) rfl k) ?_
  refine own_by (g' := (mkF m 44 #[.val (.ref r1), .val (.int (24 : Int32)), .val (.long u1), .second] [(.long u1), (.int (28 : Int32)), (.ref r1)])) (fun t k => XS.lloadN X107.here hx rfl (hb hby own_d1_43) rfl k) ?_
  refine own_by (g' := (mkF m 46 #[.val (.ref r1), .val (.int (24 : Int32)), .val (.long u1), .second] [(.int (32 : Int32)), (.long u1), (.int (28 : Int32)), (.ref r1)])) (fun t k => XS.bipush X107.here hx rfl (hb hby own_d1_44) k) ?_
  refine own_by (g' := (mkF m 47 #[.val (.ref r1), .val (.int (24 : Int32)), .val (.long u1), .second] [(.long ((u1).toUInt64 >>> ((32 : Int32) &&& 0x3f).toInt64.toUInt64).toInt64), (.int (28 : Int32)), (.ref r1)])) (fun t k => XS.lushr X107.here hx rfl (hb hby own_d1_46) rfl k) ?_
  refine own_by (g' := (mkF m 48 #[.val (.ref r1), .val (.int (24 : Int32)), .val (.long u1), .second] [(.int (((u1).toUInt64 >>> ((32 : Int32) &&& 0x3f).toInt64.toUInt64).toInt64).toInt32), (.int (28 : Int32)), (.ref r1)])) (fun t k => XS.l2i X107.here hx rfl (hb hby own_d1_47) rfl k) ?_
  refine own_by (g' := (mkF m 49 #[.val (.ref r1), .val (.int (24 : Int32)), .val (.long u1), .second] [(.int ((((u1).toUInt64 >>> ((32 : Int32) &&& 0x3f).toInt64.toUInt64).toInt64).toInt32).toInt8.toInt32), (.int (28 : Int32)), (.ref r1)])) (fun t k => XS.i2b X107.here hx rfl (hb hby own_d1_48) rfl k) ?_
  obtain ⟨c109, Ar109, q109, S109, G109, H109, F109⟩ := id V108
  have hin109 : ¬ ((28 : Int32) < 0 ∨ c109.slots.size ≤ ((28 : Int32)).toNatClampNeg) := inb_of S109 ⟨by decide, by decide⟩
  obtain ⟨T109, h109, X109, e109, W109, st109⟩ := stB X107 hx hZ e107 Ar109 (j := (28 : Int32)) hin109 (g := (mkF m 49 #[.val (.ref r1), .val (.int (24 : Int32)), .val (.long u1), .second] [(.int ((((u1).toUInt64 >>> ((32 : Int32) &&& 0x3f).toInt64.toUInt64).toInt64).toInt32).toInt8.toInt32), (.int (28 : Int32)), (.ref r1)])) rfl rfl (hb hby own_d1_49)
  have V110 : Arv Z h109 r1 kk .byte (32 : Int32) (((((xs.set 24 (.int (own_b0 u1))).set 25 (.int (own_b u1 8))).set 26 (.int (own_b u1 16))).set 27 (.int (own_b u1 24))).set 28 (.int (own_b u1 32))) (.int (0 : Int32)) := Arv.set Ar109 q109 S109 G109 H109 F109 (fits_nar_byte _) (own_wr (v' := .int (own_b u1 32)) W109 (congrArg Value.int (own_b8 _))) 28 rfl (by simp [hl])
  have N109 := Fr.snoc X109 N107 g1
  refine own_by (g' := (mkF m 50 #[.val (.ref r1), .val (.int (24 : Int32)), .val (.long u1), .second] [])) st109 ?_
  refine own_by (g' := (mkF m 51 #[.val (.ref r1), .val (.int (24 : Int32)), .val (.long u1), .second] [(.ref r1)])) (fun t k => XS.aloadN X109.here hx rfl (hb hby own_d1_50) rfl rfl k) ?_
  refine own_by (g' := (mkF m 52 #[.val (.ref r1), .val (.int (24 : Int32)), .val (.long u1), .second] [(.int (24 : Int32)), (.ref r1)])) (fun t k => XS.iloadN X109.here hx rfl (hb hby own_d1_51) rfl k) ?_
  refine own_by (g' := (mkF m 53 #[.val (.ref r1), .val (.int (24 : Int32)), .val (.long u1), .second] [(.int (5 : Int32)), (.int (24 : Int32)), (.ref r1)])) (fun t k => XS.iconst X109.here hx rfl (hb hby own_d1_52) k) ?_
  refine own_by (g' := (mkF m 54 #[.val (.ref r1), .val (.int (24 : Int32)), .val (.long u1), .second] [(.int (29 : Int32)), (.ref r1)])) (fun t k => XS.iadd X109.here hx rfl (hb hby own_d1_53) rfl k) ?_
  refine own_by (g' := (mkF m 55 #[.val (.ref r1), .val (.int (24 : Int32)), .val (.long u1), .second] [(.long u1), (.int (29 : Int32)), (.ref r1)])) (fun t k => XS.lloadN X109.here hx rfl (hb hby own_d1_54) rfl k) ?_
  refine own_by (g' := (mkF m 57 #[.val (.ref r1), .val (.int (24 : Int32)), .val (.long u1), .second] [(.int (40 : Int32)), (.long u1), (.int (29 : Int32)), (.ref r1)])) (fun t k => XS.bipush X109.here hx rfl (hb hby own_d1_55) k) ?_
  refine own_by (g' := (mkF m 58 #[.val (.ref r1), .val (.int (24 : Int32)), .val (.long u1), .second] [(.long ((u1).toUInt64 >>> ((40 : Int32) &&& 0x3f).toInt64.toUInt64).toInt64), (.int (29 : Int32)), (.ref r1)])) (fun t k => XS.lushr X109.here hx rfl (hb hby own_d1_57) rfl k) ?_
  refine own_by (g' := (mkF m 59 #[.val (.ref r1), .val (.int (24 : Int32)), .val (.long u1), .second] [(.int (((u1).toUInt64 >>> ((40 : Int32) &&& 0x3f).toInt64.toUInt64).toInt64).toInt32), (.int (29 : Int32)), (.ref r1)])) (fun t k => XS.l2i X109.here hx rfl (hb hby own_d1_58) rfl k) ?_
  refine own_by (g' := (mkF m 60 #[.val (.ref r1), .val (.int (24 : Int32)), .val (.long u1), .second] [(.int ((((u1).toUInt64 >>> ((40 : Int32) &&& 0x3f).toInt64.toUInt64).toInt64).toInt32).toInt8.toInt32), (.int (29 : Int32)), (.ref r1)])) (fun t k => XS.i2b X109.here hx rfl (hb hby own_d1_59) rfl k) ?_
  obtain ⟨c111, Ar111, q111, S111, G111, H111, F111⟩ := id V110
  have hin111 : ¬ ((29 : Int32) < 0 ∨ c111.slots.size ≤ ((29 : Int32)).toNatClampNeg) := inb_of S111 ⟨by decide, by decide⟩
  obtain ⟨T111, h111, X111, e111, W111, st111⟩ := stB X109 hx hZ e109 Ar111 (j := (29 : Int32)) hin111 (g := (mkF m 60 #[.val (.ref r1), .val (.int (24 : Int32)), .val (.long u1), .second] [(.int ((((u1).toUInt64 >>> ((40 : Int32) &&& 0x3f).toInt64.toUInt64).toInt64).toInt32).toInt8.toInt32), (.int (29 : Int32)), (.ref r1)])) rfl rfl (hb hby own_d1_60)
  have V112 : Arv Z h111 r1 kk .byte (32 : Int32) ((((((xs.set 24 (.int (own_b0 u1))).set 25 (.int (own_b u1 8))).set 26 (.int (own_b u1 16))).set 27 (.int (own_b u1 24))).set 28 (.int (own_b u1 32))).set 29 (.int (own_b u1 40))) (.int (0 : Int32)) := Arv.set Ar111 q111 S111 G111 H111 F111 (fits_nar_byte _) (own_wr (v' := .int (own_b u1 40)) W111 (congrArg Value.int (own_b8 _))) 29 rfl (by simp [hl])
  have N111 := Fr.snoc X111 N109 g1
  refine own_by (g' := (mkF m 61 #[.val (.ref r1), .val (.int (24 : Int32)), .val (.long u1), .second] [])) st111 ?_
  refine own_by (g' := (mkF m 62 #[.val (.ref r1), .val (.int (24 : Int32)), .val (.long u1), .second] [(.ref r1)])) (fun t k => XS.aloadN X111.here hx rfl (hb hby own_d1_61) rfl rfl k) ?_
  refine own_by (g' := (mkF m 63 #[.val (.ref r1), .val (.int (24 : Int32)), .val (.long u1), .second] [(.int (24 : Int32)), (.ref r1)])) (fun t k => XS.iloadN X111.here hx rfl (hb hby own_d1_62) rfl k) ?_
  refine own_by (g' := (mkF m 65 #[.val (.ref r1), .val (.int (24 : Int32)), .val (.long u1), .second] [(.int (6 : Int32)), (.int (24 : Int32)), (.ref r1)])) (fun t k => XS.bipush X111.here hx rfl (hb hby own_d1_63) k) ?_
  refine own_by (g' := (mkF m 66 #[.val (.ref r1), .val (.int (24 : Int32)), .val (.long u1), .second] [(.int (30 : Int32)), (.ref r1)])) (fun t k => XS.iadd X111.here hx rfl (hb hby own_d1_65) rfl k) ?_
  refine own_by (g' := (mkF m 67 #[.val (.ref r1), .val (.int (24 : Int32)), .val (.long u1), .second] [(.long u1), (.int (30 : Int32)), (.ref r1)])) (fun t k => XS.lloadN X111.here hx rfl (hb hby own_d1_66) rfl k) ?_
  refine own_by (g' := (mkF m 69 #[.val (.ref r1), .val (.int (24 : Int32)), .val (.long u1), .second] [(.int (48 : Int32)), (.long u1), (.int (30 : Int32)), (.ref r1)])) (fun t k => XS.bipush X111.here hx rfl (hb hby own_d1_67) k) ?_
  refine own_by (g' := (mkF m 70 #[.val (.ref r1), .val (.int (24 : Int32)), .val (.long u1), .second] [(.long ((u1).toUInt64 >>> ((48 : Int32) &&& 0x3f).toInt64.toUInt64).toInt64), (.int (30 : Int32)), (.ref r1)])) (fun t k => XS.lushr X111.here hx rfl (hb hby own_d1_69) rfl k) ?_
  refine own_by (g' := (mkF m 71 #[.val (.ref r1), .val (.int (24 : Int32)), .val (.long u1), .second] [(.int (((u1).toUInt64 >>> ((48 : Int32) &&& 0x3f).toInt64.toUInt64).toInt64).toInt32), (.int (30 : Int32)), (.ref r1)])) (fun t k => XS.l2i X111.here hx rfl (hb hby own_d1_70) rfl k) ?_
  refine own_by (g' := (mkF m 72 #[.val (.ref r1), .val (.int (24 : Int32)), .val (.long u1), .second] [(.int ((((u1).toUInt64 >>> ((48 : Int32) &&& 0x3f).toInt64.toUInt64).toInt64).toInt32).toInt8.toInt32), (.int (30 : Int32)), (.ref r1)])) (fun t k => XS.i2b X111.here hx rfl (hb hby own_d1_71) rfl k) ?_
  obtain ⟨c113, Ar113, q113, S113, G113, H113, F113⟩ := id V112
  have hin113 : ¬ ((30 : Int32) < 0 ∨ c113.slots.size ≤ ((30 : Int32)).toNatClampNeg) := inb_of S113 ⟨by decide, by decide⟩
  obtain ⟨T113, h113, X113, e113, W113, st113⟩ := stB X111 hx hZ e111 Ar113 (j := (30 : Int32)) hin113 (g := (mkF m 72 #[.val (.ref r1), .val (.int (24 : Int32)), .val (.long u1), .second] [(.int ((((u1).toUInt64 >>> ((48 : Int32) &&& 0x3f).toInt64.toUInt64).toInt64).toInt32).toInt8.toInt32), (.int (30 : Int32)), (.ref r1)])) rfl rfl (hb hby own_d1_72)
  have V114 : Arv Z h113 r1 kk .byte (32 : Int32) (((((((xs.set 24 (.int (own_b0 u1))).set 25 (.int (own_b u1 8))).set 26 (.int (own_b u1 16))).set 27 (.int (own_b u1 24))).set 28 (.int (own_b u1 32))).set 29 (.int (own_b u1 40))).set 30 (.int (own_b u1 48))) (.int (0 : Int32)) := Arv.set Ar113 q113 S113 G113 H113 F113 (fits_nar_byte _) (own_wr (v' := .int (own_b u1 48)) W113 (congrArg Value.int (own_b8 _))) 30 rfl (by simp [hl])
  have N113 := Fr.snoc X113 N111 g1
  refine own_by (g' := (mkF m 73 #[.val (.ref r1), .val (.int (24 : Int32)), .val (.long u1), .second] [])) st113 ?_
  refine own_by (g' := (mkF m 74 #[.val (.ref r1), .val (.int (24 : Int32)), .val (.long u1), .second] [(.ref r1)])) (fun t k => XS.aloadN X113.here hx rfl (hb hby own_d1_73) rfl rfl k) ?_
  refine own_by (g' := (mkF m 75 #[.val (.ref r1), .val (.int (24 : Int32)), .val (.long u1), .second] [(.int (24 : Int32)), (.ref r1)])) (fun t k => XS.iloadN X113.here hx rfl (hb hby own_d1_74) rfl k) ?_
  refine own_by (g' := (mkF m 77 #[.val (.ref r1), .val (.int (24 : Int32)), .val (.long u1), .second] [(.int (7 : Int32)), (.int (24 : Int32)), (.ref r1)])) (fun t k => XS.bipush X113.here hx rfl (hb hby own_d1_75) k) ?_
  refine own_by (g' := (mkF m 78 #[.val (.ref r1), .val (.int (24 : Int32)), .val (.long u1), .second] [(.int (31 : Int32)), (.ref r1)])) (fun t k => XS.iadd X113.here hx rfl (hb hby own_d1_77) rfl k) ?_
  refine own_by (g' := (mkF m 79 #[.val (.ref r1), .val (.int (24 : Int32)), .val (.long u1), .second] [(.long u1), (.int (31 : Int32)), (.ref r1)])) (fun t k => XS.lloadN X113.here hx rfl (hb hby own_d1_78) rfl k) ?_
  refine own_by (g' := (mkF m 81 #[.val (.ref r1), .val (.int (24 : Int32)), .val (.long u1), .second] [(.int (56 : Int32)), (.long u1), (.int (31 : Int32)), (.ref r1)])) (fun t k => XS.bipush X113.here hx rfl (hb hby own_d1_79) k) ?_
  refine own_by (g' := (mkF m 82 #[.val (.ref r1), .val (.int (24 : Int32)), .val (.long u1), .second] [(.long ((u1).toUInt64 >>> ((56 : Int32) &&& 0x3f).toInt64.toUInt64).toInt64), (.int (31 : Int32)), (.ref r1)])) (fun t k => XS.lushr X113.here hx rfl (hb hby own_d1_81) rfl k) ?_
  refine own_by (g' := (mkF m 83 #[.val (.ref r1), .val (.int (24 : Int32)), .val (.long u1), .second] [(.int (((u1).toUInt64 >>> ((56 : Int32) &&& 0x3f).toInt64.toUInt64).toInt64).toInt32), (.int (31 : Int32)), (.ref r1)])) (fun t k => XS.l2i X113.here hx rfl (hb hby own_d1_82) rfl k) ?_
  refine own_by (g' := (mkF m 84 #[.val (.ref r1), .val (.int (24 : Int32)), .val (.long u1), .second] [(.int ((((u1).toUInt64 >>> ((56 : Int32) &&& 0x3f).toInt64.toUInt64).toInt64).toInt32).toInt8.toInt32), (.int (31 : Int32)), (.ref r1)])) (fun t k => XS.i2b X113.here hx rfl (hb hby own_d1_83) rfl k) ?_
  obtain ⟨c115, Ar115, q115, S115, G115, H115, F115⟩ := id V114
  have hin115 : ¬ ((31 : Int32) < 0 ∨ c115.slots.size ≤ ((31 : Int32)).toNatClampNeg) := inb_of S115 ⟨by decide, by decide⟩
  obtain ⟨T115, h115, X115, e115, W115, st115⟩ := stB X113 hx hZ e113 Ar115 (j := (31 : Int32)) hin115 (g := (mkF m 84 #[.val (.ref r1), .val (.int (24 : Int32)), .val (.long u1), .second] [(.int ((((u1).toUInt64 >>> ((56 : Int32) &&& 0x3f).toInt64.toUInt64).toInt64).toInt32).toInt8.toInt32), (.int (31 : Int32)), (.ref r1)])) rfl rfl (hb hby own_d1_84)
  have V116 : Arv Z h115 r1 kk .byte (32 : Int32) ((((((((xs.set 24 (.int (own_b0 u1))).set 25 (.int (own_b u1 8))).set 26 (.int (own_b u1 16))).set 27 (.int (own_b u1 24))).set 28 (.int (own_b u1 32))).set 29 (.int (own_b u1 40))).set 30 (.int (own_b u1 48))).set 31 (.int (own_b u1 56))) (.int (0 : Int32)) := Arv.set Ar115 q115 S115 G115 H115 F115 (fits_nar_byte _) (own_wr (v' := .int (own_b u1 56)) W115 (congrArg Value.int (own_b8 _))) 31 rfl (by simp [hl])
  have N115 := Fr.snoc X115 N113 g1
  refine own_by (g' := (mkF m 85 #[.val (.ref r1), .val (.int (24 : Int32)), .val (.long u1), .second] [])) st115 ?_
  refine own_retV X115 hx hlk hret (hb hby own_d1_85) (by decide) (by decide) ?_
  rw [e115]
  exact ⟨rfl, N115, (((((((((Keep.refl h0 [r1]).wr W101 (Or.inl (List.mem_of_getElem? (i := 0) rfl))).wr W103 (Or.inl (List.mem_of_getElem? (i := 0) rfl))).wr W105 (Or.inl (List.mem_of_getElem? (i := 0) rfl))).wr W107 (Or.inl (List.mem_of_getElem? (i := 0) rfl))).wr W109 (Or.inl (List.mem_of_getElem? (i := 0) rfl))).wr W111 (Or.inl (List.mem_of_getElem? (i := 0) rfl))).wr W113 (Or.inl (List.mem_of_getElem? (i := 0) rfl))).wr W115 (Or.inl (List.mem_of_getElem? (i := 0) rfl))), V116⟩
theorem own_d7_0 : decode method_3_code 0 = .ok (.aload_n 0, 1) := by decide +kernel
theorem own_d7_1 : decode method_3_code 1 = .ok (.iload_n 1, 1) := by decide +kernel
theorem own_d7_2 : decode method_3_code 2 = .ok (.baload, 1) := by decide +kernel
theorem own_d7_3 : decode method_3_code 3 = .ok (.lload_n 2, 1) := by decide +kernel
theorem own_d7_4 : decode method_3_code 4 = .ok (.l2i, 1) := by decide +kernel
theorem own_d7_5 : decode method_3_code 5 = .ok (.i2b, 1) := by decide +kernel
theorem own_d7_6 : decode method_3_code 6 = .ok (.if_icmp .ne 107, 3) := by decide +kernel
theorem own_d7_9 : decode method_3_code 9 = .ok (.aload_n 0, 1) := by decide +kernel
theorem own_d7_10 : decode method_3_code 10 = .ok (.iload_n 1, 1) := by decide +kernel
theorem own_d7_11 : decode method_3_code 11 = .ok (.iconst 1, 1) := by decide +kernel
theorem own_d7_12 : decode method_3_code 12 = .ok (.iadd, 1) := by decide +kernel
theorem own_d7_13 : decode method_3_code 13 = .ok (.baload, 1) := by decide +kernel
theorem own_d7_14 : decode method_3_code 14 = .ok (.lload_n 2, 1) := by decide +kernel
theorem own_d7_15 : decode method_3_code 15 = .ok (.bipush 8, 2) := by decide +kernel
theorem own_d7_17 : decode method_3_code 17 = .ok (.lushr, 1) := by decide +kernel
theorem own_d7_18 : decode method_3_code 18 = .ok (.l2i, 1) := by decide +kernel
theorem own_d7_19 : decode method_3_code 19 = .ok (.i2b, 1) := by decide +kernel
theorem own_d7_20 : decode method_3_code 20 = .ok (.if_icmp .ne 93, 3) := by decide +kernel
theorem own_d7_23 : decode method_3_code 23 = .ok (.aload_n 0, 1) := by decide +kernel
theorem own_d7_24 : decode method_3_code 24 = .ok (.iload_n 1, 1) := by decide +kernel
theorem own_d7_25 : decode method_3_code 25 = .ok (.iconst 2, 1) := by decide +kernel
theorem own_d7_26 : decode method_3_code 26 = .ok (.iadd, 1) := by decide +kernel
theorem own_d7_27 : decode method_3_code 27 = .ok (.baload, 1) := by decide +kernel
theorem own_d7_28 : decode method_3_code 28 = .ok (.lload_n 2, 1) := by decide +kernel
theorem own_d7_29 : decode method_3_code 29 = .ok (.bipush 16, 2) := by decide +kernel
theorem own_d7_31 : decode method_3_code 31 = .ok (.lushr, 1) := by decide +kernel
theorem own_d7_32 : decode method_3_code 32 = .ok (.l2i, 1) := by decide +kernel
theorem own_d7_33 : decode method_3_code 33 = .ok (.i2b, 1) := by decide +kernel
theorem own_d7_34 : decode method_3_code 34 = .ok (.if_icmp .ne 79, 3) := by decide +kernel
theorem own_d7_37 : decode method_3_code 37 = .ok (.aload_n 0, 1) := by decide +kernel
theorem own_d7_38 : decode method_3_code 38 = .ok (.iload_n 1, 1) := by decide +kernel
theorem own_d7_39 : decode method_3_code 39 = .ok (.iconst 3, 1) := by decide +kernel
theorem own_d7_40 : decode method_3_code 40 = .ok (.iadd, 1) := by decide +kernel
theorem own_d7_41 : decode method_3_code 41 = .ok (.baload, 1) := by decide +kernel
theorem own_d7_42 : decode method_3_code 42 = .ok (.lload_n 2, 1) := by decide +kernel
theorem own_d7_43 : decode method_3_code 43 = .ok (.bipush 24, 2) := by decide +kernel
theorem own_d7_45 : decode method_3_code 45 = .ok (.lushr, 1) := by decide +kernel
theorem own_d7_46 : decode method_3_code 46 = .ok (.l2i, 1) := by decide +kernel
theorem own_d7_47 : decode method_3_code 47 = .ok (.i2b, 1) := by decide +kernel
theorem own_d7_48 : decode method_3_code 48 = .ok (.if_icmp .ne 65, 3) := by decide +kernel
theorem own_d7_51 : decode method_3_code 51 = .ok (.aload_n 0, 1) := by decide +kernel
theorem own_d7_52 : decode method_3_code 52 = .ok (.iload_n 1, 1) := by decide +kernel
theorem own_d7_53 : decode method_3_code 53 = .ok (.iconst 4, 1) := by decide +kernel
theorem own_d7_54 : decode method_3_code 54 = .ok (.iadd, 1) := by decide +kernel
theorem own_d7_55 : decode method_3_code 55 = .ok (.baload, 1) := by decide +kernel
theorem own_d7_56 : decode method_3_code 56 = .ok (.lload_n 2, 1) := by decide +kernel
theorem own_d7_57 : decode method_3_code 57 = .ok (.bipush 32, 2) := by decide +kernel
theorem own_d7_59 : decode method_3_code 59 = .ok (.lushr, 1) := by decide +kernel
theorem own_d7_60 : decode method_3_code 60 = .ok (.l2i, 1) := by decide +kernel
theorem own_d7_61 : decode method_3_code 61 = .ok (.i2b, 1) := by decide +kernel
theorem own_d7_62 : decode method_3_code 62 = .ok (.if_icmp .ne 51, 3) := by decide +kernel
theorem own_d7_65 : decode method_3_code 65 = .ok (.aload_n 0, 1) := by decide +kernel
theorem own_d7_66 : decode method_3_code 66 = .ok (.iload_n 1, 1) := by decide +kernel
theorem own_d7_67 : decode method_3_code 67 = .ok (.iconst 5, 1) := by decide +kernel
theorem own_d7_68 : decode method_3_code 68 = .ok (.iadd, 1) := by decide +kernel
theorem own_d7_69 : decode method_3_code 69 = .ok (.baload, 1) := by decide +kernel
theorem own_d7_70 : decode method_3_code 70 = .ok (.lload_n 2, 1) := by decide +kernel
theorem own_d7_71 : decode method_3_code 71 = .ok (.bipush 40, 2) := by decide +kernel
theorem own_d7_73 : decode method_3_code 73 = .ok (.lushr, 1) := by decide +kernel
theorem own_d7_74 : decode method_3_code 74 = .ok (.l2i, 1) := by decide +kernel
theorem own_d7_75 : decode method_3_code 75 = .ok (.i2b, 1) := by decide +kernel
theorem own_d7_76 : decode method_3_code 76 = .ok (.if_icmp .ne 37, 3) := by decide +kernel
theorem own_d7_79 : decode method_3_code 79 = .ok (.aload_n 0, 1) := by decide +kernel
theorem own_d7_80 : decode method_3_code 80 = .ok (.iload_n 1, 1) := by decide +kernel
theorem own_d7_81 : decode method_3_code 81 = .ok (.bipush 6, 2) := by decide +kernel
theorem own_d7_83 : decode method_3_code 83 = .ok (.iadd, 1) := by decide +kernel
theorem own_d7_84 : decode method_3_code 84 = .ok (.baload, 1) := by decide +kernel
theorem own_d7_85 : decode method_3_code 85 = .ok (.lload_n 2, 1) := by decide +kernel
theorem own_d7_86 : decode method_3_code 86 = .ok (.bipush 48, 2) := by decide +kernel
theorem own_d7_88 : decode method_3_code 88 = .ok (.lushr, 1) := by decide +kernel
theorem own_d7_89 : decode method_3_code 89 = .ok (.l2i, 1) := by decide +kernel
theorem own_d7_90 : decode method_3_code 90 = .ok (.i2b, 1) := by decide +kernel
theorem own_d7_91 : decode method_3_code 91 = .ok (.if_icmp .ne 22, 3) := by decide +kernel
theorem own_d7_94 : decode method_3_code 94 = .ok (.aload_n 0, 1) := by decide +kernel
theorem own_d7_95 : decode method_3_code 95 = .ok (.iload_n 1, 1) := by decide +kernel
theorem own_d7_96 : decode method_3_code 96 = .ok (.bipush 7, 2) := by decide +kernel
theorem own_d7_98 : decode method_3_code 98 = .ok (.iadd, 1) := by decide +kernel
theorem own_d7_99 : decode method_3_code 99 = .ok (.baload, 1) := by decide +kernel
theorem own_d7_100 : decode method_3_code 100 = .ok (.lload_n 2, 1) := by decide +kernel
theorem own_d7_101 : decode method_3_code 101 = .ok (.bipush 56, 2) := by decide +kernel
theorem own_d7_103 : decode method_3_code 103 = .ok (.lushr, 1) := by decide +kernel
theorem own_d7_104 : decode method_3_code 104 = .ok (.l2i, 1) := by decide +kernel
theorem own_d7_105 : decode method_3_code 105 = .ok (.i2b, 1) := by decide +kernel
theorem own_d7_106 : decode method_3_code 106 = .ok (.if_icmp .ne 7, 3) := by decide +kernel
theorem own_d7_109 : decode method_3_code 109 = .ok (.iconst 1, 1) := by decide +kernel
theorem own_d7_110 : decode method_3_code 110 = .ok (.goto 4, 3) := by decide +kernel
theorem own_d7_114 : decode method_3_code 114 = .ok (.ireturn, 1) := by decide +kernel
def Q_own_same0 (Z : State) (r1 : Addr) (u1 : Int64) (kk : ClassId) (xs : List Value) (h0 : Heap) (n0 : Nat) (v : Option Value) (h : Heap) (L : List Loc) : Prop := v = some (.int (1 : Int32)) ∧ Fr n0 L ∧ h = h0
theorem own_ef_own_same0 (m : MethodId) (r1 : Addr) (u1 : Int64) : entryFrame m #[(.ref r1), (.int (0 : Int32)), (.long u1)] 4 = mkF m 0 #[.val (.ref r1), .val (.int (0 : Int32)), .val (.long u1), .second] [] := by first | (simp [entryFrame, mkF, argsToLocals, Value.category]; done) | rfl
set_option maxRecDepth 65536 in
set_option maxHeartbeats 40000000 in
theorem own_same0 (l : Launch) (Z : State) (a0 : Array Value) (hw : ∀ d ∈ tables_1, d.before a0 Z = true) (ws : List Jvm.Cond) (r1 : Addr) (u1 : Int64) (kk : ClassId) (xs : List Value) (h0 : Heap) (n0 : Nat) (Z0 : n0 ≤ h0.size) (V1 : Arv Z h0 r1 kk .byte (32 : Int32) xs (.int (0 : Int32))) (hv0 : xs.getD 0 (.int (0 : Int32)) = .int (own_b0 u1)) (hv1 : xs.getD 1 (.int (0 : Int32)) = .int (own_b u1 8)) (hv2 : xs.getD 2 (.int (0 : Int32)) = .int (own_b u1 16)) (hv3 : xs.getD 3 (.int (0 : Int32)) = .int (own_b u1 24)) (hv4 : xs.getD 4 (.int (0 : Int32)) = .int (own_b u1 32)) (hv5 : xs.getD 5 (.int (0 : Int32)) = .int (own_b u1 40)) (hv6 : xs.getD 6 (.int (0 : Int32)) = .int (own_b u1 48)) (hv7 : xs.getD 7 (.int (0 : Int32)) = .int (own_b u1 56)) :
    own_Ctr l Z (⟨"com/example/idemnity/idemnity/model/Sha256FromDigestPinLaw", "same", "([BIJ)Z"⟩ : MethodName) method_3_code 4 (some .boolean) ws ({ frames := 0, cells := 0, slots := 0, locals := 0 } : Room) (({ frames := 0, cells := 0, slots := 0, locals := 0 } : Room)).cells (({ frames := 0, cells := 0, slots := 0, locals := 0 } : Room)).slots #[(.ref r1), (.int (0 : Int32)), (.long u1)] h0 (Q_own_same0 Z r1 u1 kk xs h0 n0) := by
  refine own_enter (plainFor_of_name own_pn0) ?_
  intro p e s m below meth c s₁ X0 hx hZ hby hml hown hnm hlk hret e0
  have N0 := Fr.nil n0
  refine own_cast (own_ef_own_same0 m r1 u1) ?_
  refine own_by (g' := (mkF m 1 #[.val (.ref r1), .val (.int (0 : Int32)), .val (.long u1), .second] [(.ref r1)])) (fun t k => XS.aloadN X0.here hx rfl (hb hby own_d7_0) rfl rfl k) ?_
  refine own_by (g' := (mkF m 2 #[.val (.ref r1), .val (.int (0 : Int32)), .val (.long u1), .second] [(.int (0 : Int32)), (.ref r1)])) (fun t k => XS.iloadN X0.here hx rfl (hb hby own_d7_1) rfl k) ?_
  obtain ⟨c101, Ar101, q101, S101, G101, H101, F101⟩ := id V1
  have hin101 : ¬ ((0 : Int32) < 0 ∨ c101.slots.size ≤ ((0 : Int32)).toNatClampNeg) := inb_of S101 ⟨by decide, by decide⟩
  have hat101 : c101.slots[((0 : Int32)).toNatClampNeg]? = some (.int (own_b0 u1)) := H101.at hin101 hv0
  refine own_by (g' := (mkF m 3 #[.val (.ref r1), .val (.int (0 : Int32)), .val (.long u1), .second] [(.int (own_b0 u1))])) (fun t k => X0.baloadBytes hx (j := (0 : Int32)) (v := (.int (own_b0 u1))) (own_at_ e0 Ar101.1) (State.isArrayOf_alike hZ.alike Ar101.2.1) Ar101.2.2 hin101 hat101 (g := (mkF m 2 #[.val (.ref r1), .val (.int (0 : Int32)), .val (.long u1), .second] [(.int (0 : Int32)), (.ref r1)])) rfl rfl (hb hby own_d7_2) t k) ?_
  refine own_by (g' := (mkF m 4 #[.val (.ref r1), .val (.int (0 : Int32)), .val (.long u1), .second] [(.long u1), (.int (own_b0 u1))])) (fun t k => XS.lloadN X0.here hx rfl (hb hby own_d7_3) rfl k) ?_
  refine own_by (g' := (mkF m 5 #[.val (.ref r1), .val (.int (0 : Int32)), .val (.long u1), .second] [(.int (u1).toInt32), (.int (own_b0 u1))])) (fun t k => XS.l2i X0.here hx rfl (hb hby own_d7_4) rfl k) ?_
  refine own_by (g' := (mkF m 6 #[.val (.ref r1), .val (.int (0 : Int32)), .val (.long u1), .second] [(.int ((u1).toInt32).toInt8.toInt32), (.int (own_b0 u1))])) (fun t k => XS.i2b X0.here hx rfl (hb hby own_d7_5) rfl k) ?_
  refine own_by (g' := (mkF m 9 #[.val (.ref r1), .val (.int (0 : Int32)), .val (.long u1), .second] [])) (fun t k => XS.icmpNo X0.here hx rfl (hb hby own_d7_6) rfl (teq rfl).2 k) ?_
  refine own_by (g' := (mkF m 10 #[.val (.ref r1), .val (.int (0 : Int32)), .val (.long u1), .second] [(.ref r1)])) (fun t k => XS.aloadN X0.here hx rfl (hb hby own_d7_9) rfl rfl k) ?_
  refine own_by (g' := (mkF m 11 #[.val (.ref r1), .val (.int (0 : Int32)), .val (.long u1), .second] [(.int (0 : Int32)), (.ref r1)])) (fun t k => XS.iloadN X0.here hx rfl (hb hby own_d7_10) rfl k) ?_
  refine own_by (g' := (mkF m 12 #[.val (.ref r1), .val (.int (0 : Int32)), .val (.long u1), .second] [(.int (1 : Int32)), (.int (0 : Int32)), (.ref r1)])) (fun t k => XS.iconst X0.here hx rfl (hb hby own_d7_11) k) ?_
  refine own_by (g' := (mkF m 13 #[.val (.ref r1), .val (.int (0 : Int32)), .val (.long u1), .second] [(.int (1 : Int32)), (.ref r1)])) (fun t k => XS.iadd X0.here hx rfl (hb hby own_d7_12) rfl k) ?_
  obtain ⟨c102, Ar102, q102, S102, G102, H102, F102⟩ := id V1
  have hin102 : ¬ ((1 : Int32) < 0 ∨ c102.slots.size ≤ ((1 : Int32)).toNatClampNeg) := inb_of S102 ⟨by decide, by decide⟩
  have hat102 : c102.slots[((1 : Int32)).toNatClampNeg]? = some (.int (own_b u1 8)) := H102.at hin102 hv1
  refine own_by (g' := (mkF m 14 #[.val (.ref r1), .val (.int (0 : Int32)), .val (.long u1), .second] [(.int (own_b u1 8))])) (fun t k => X0.baloadBytes hx (j := (1 : Int32)) (v := (.int (own_b u1 8))) (own_at_ e0 Ar102.1) (State.isArrayOf_alike hZ.alike Ar102.2.1) Ar102.2.2 hin102 hat102 (g := (mkF m 13 #[.val (.ref r1), .val (.int (0 : Int32)), .val (.long u1), .second] [(.int (1 : Int32)), (.ref r1)])) rfl rfl (hb hby own_d7_13) t k) ?_
  refine own_by (g' := (mkF m 15 #[.val (.ref r1), .val (.int (0 : Int32)), .val (.long u1), .second] [(.long u1), (.int (own_b u1 8))])) (fun t k => XS.lloadN X0.here hx rfl (hb hby own_d7_14) rfl k) ?_
  refine own_by (g' := (mkF m 17 #[.val (.ref r1), .val (.int (0 : Int32)), .val (.long u1), .second] [(.int (8 : Int32)), (.long u1), (.int (own_b u1 8))])) (fun t k => XS.bipush X0.here hx rfl (hb hby own_d7_15) k) ?_
  refine own_by (g' := (mkF m 18 #[.val (.ref r1), .val (.int (0 : Int32)), .val (.long u1), .second] [(.long ((u1).toUInt64 >>> ((8 : Int32) &&& 0x3f).toInt64.toUInt64).toInt64), (.int (own_b u1 8))])) (fun t k => XS.lushr X0.here hx rfl (hb hby own_d7_17) rfl k) ?_
  refine own_by (g' := (mkF m 19 #[.val (.ref r1), .val (.int (0 : Int32)), .val (.long u1), .second] [(.int (((u1).toUInt64 >>> ((8 : Int32) &&& 0x3f).toInt64.toUInt64).toInt64).toInt32), (.int (own_b u1 8))])) (fun t k => XS.l2i X0.here hx rfl (hb hby own_d7_18) rfl k) ?_
  refine own_by (g' := (mkF m 20 #[.val (.ref r1), .val (.int (0 : Int32)), .val (.long u1), .second] [(.int ((((u1).toUInt64 >>> ((8 : Int32) &&& 0x3f).toInt64.toUInt64).toInt64).toInt32).toInt8.toInt32), (.int (own_b u1 8))])) (fun t k => XS.i2b X0.here hx rfl (hb hby own_d7_19) rfl k) ?_
  refine own_by (g' := (mkF m 23 #[.val (.ref r1), .val (.int (0 : Int32)), .val (.long u1), .second] [])) (fun t k => XS.icmpNo X0.here hx rfl (hb hby own_d7_20) rfl (teq rfl).2 k) ?_
  refine own_by (g' := (mkF m 24 #[.val (.ref r1), .val (.int (0 : Int32)), .val (.long u1), .second] [(.ref r1)])) (fun t k => XS.aloadN X0.here hx rfl (hb hby own_d7_23) rfl rfl k) ?_
  refine own_by (g' := (mkF m 25 #[.val (.ref r1), .val (.int (0 : Int32)), .val (.long u1), .second] [(.int (0 : Int32)), (.ref r1)])) (fun t k => XS.iloadN X0.here hx rfl (hb hby own_d7_24) rfl k) ?_
  refine own_by (g' := (mkF m 26 #[.val (.ref r1), .val (.int (0 : Int32)), .val (.long u1), .second] [(.int (2 : Int32)), (.int (0 : Int32)), (.ref r1)])) (fun t k => XS.iconst X0.here hx rfl (hb hby own_d7_25) k) ?_
  refine own_by (g' := (mkF m 27 #[.val (.ref r1), .val (.int (0 : Int32)), .val (.long u1), .second] [(.int (2 : Int32)), (.ref r1)])) (fun t k => XS.iadd X0.here hx rfl (hb hby own_d7_26) rfl k) ?_
  obtain ⟨c103, Ar103, q103, S103, G103, H103, F103⟩ := id V1
  have hin103 : ¬ ((2 : Int32) < 0 ∨ c103.slots.size ≤ ((2 : Int32)).toNatClampNeg) := inb_of S103 ⟨by decide, by decide⟩
  have hat103 : c103.slots[((2 : Int32)).toNatClampNeg]? = some (.int (own_b u1 16)) := H103.at hin103 hv2
  refine own_by (g' := (mkF m 28 #[.val (.ref r1), .val (.int (0 : Int32)), .val (.long u1), .second] [(.int (own_b u1 16))])) (fun t k => X0.baloadBytes hx (j := (2 : Int32)) (v := (.int (own_b u1 16))) (own_at_ e0 Ar103.1) (State.isArrayOf_alike hZ.alike Ar103.2.1) Ar103.2.2 hin103 hat103 (g := (mkF m 27 #[.val (.ref r1), .val (.int (0 : Int32)), .val (.long u1), .second] [(.int (2 : Int32)), (.ref r1)])) rfl rfl (hb hby own_d7_27) t k) ?_
  refine own_by (g' := (mkF m 29 #[.val (.ref r1), .val (.int (0 : Int32)), .val (.long u1), .second] [(.long u1), (.int (own_b u1 16))])) (fun t k => XS.lloadN X0.here hx rfl (hb hby own_d7_28) rfl k) ?_
  refine own_by (g' := (mkF m 31 #[.val (.ref r1), .val (.int (0 : Int32)), .val (.long u1), .second] [(.int (16 : Int32)), (.long u1), (.int (own_b u1 16))])) (fun t k => XS.bipush X0.here hx rfl (hb hby own_d7_29) k) ?_
  refine own_by (g' := (mkF m 32 #[.val (.ref r1), .val (.int (0 : Int32)), .val (.long u1), .second] [(.long ((u1).toUInt64 >>> ((16 : Int32) &&& 0x3f).toInt64.toUInt64).toInt64), (.int (own_b u1 16))])) (fun t k => XS.lushr X0.here hx rfl (hb hby own_d7_31) rfl k) ?_
  refine own_by (g' := (mkF m 33 #[.val (.ref r1), .val (.int (0 : Int32)), .val (.long u1), .second] [(.int (((u1).toUInt64 >>> ((16 : Int32) &&& 0x3f).toInt64.toUInt64).toInt64).toInt32), (.int (own_b u1 16))])) (fun t k => XS.l2i X0.here hx rfl (hb hby own_d7_32) rfl k) ?_
  refine own_by (g' := (mkF m 34 #[.val (.ref r1), .val (.int (0 : Int32)), .val (.long u1), .second] [(.int ((((u1).toUInt64 >>> ((16 : Int32) &&& 0x3f).toInt64.toUInt64).toInt64).toInt32).toInt8.toInt32), (.int (own_b u1 16))])) (fun t k => XS.i2b X0.here hx rfl (hb hby own_d7_33) rfl k) ?_
  refine own_by (g' := (mkF m 37 #[.val (.ref r1), .val (.int (0 : Int32)), .val (.long u1), .second] [])) (fun t k => XS.icmpNo X0.here hx rfl (hb hby own_d7_34) rfl (teq rfl).2 k) ?_
  refine own_by (g' := (mkF m 38 #[.val (.ref r1), .val (.int (0 : Int32)), .val (.long u1), .second] [(.ref r1)])) (fun t k => XS.aloadN X0.here hx rfl (hb hby own_d7_37) rfl rfl k) ?_
  refine own_by (g' := (mkF m 39 #[.val (.ref r1), .val (.int (0 : Int32)), .val (.long u1), .second] [(.int (0 : Int32)), (.ref r1)])) (fun t k => XS.iloadN X0.here hx rfl (hb hby own_d7_38) rfl k) ?_
  refine own_by (g' := (mkF m 40 #[.val (.ref r1), .val (.int (0 : Int32)), .val (.long u1), .second] [(.int (3 : Int32)), (.int (0 : Int32)), (.ref r1)])) (fun t k => XS.iconst X0.here hx rfl (hb hby own_d7_39) k) ?_
  refine own_by (g' := (mkF m 41 #[.val (.ref r1), .val (.int (0 : Int32)), .val (.long u1), .second] [(.int (3 : Int32)), (.ref r1)])) (fun t k => XS.iadd X0.here hx rfl (hb hby own_d7_40) rfl k) ?_
  obtain ⟨c104, Ar104, q104, S104, G104, H104, F104⟩ := id V1
  have hin104 : ¬ ((3 : Int32) < 0 ∨ c104.slots.size ≤ ((3 : Int32)).toNatClampNeg) := inb_of S104 ⟨by decide, by decide⟩
  have hat104 : c104.slots[((3 : Int32)).toNatClampNeg]? = some (.int (own_b u1 24)) := H104.at hin104 hv3
  refine own_by (g' := (mkF m 42 #[.val (.ref r1), .val (.int (0 : Int32)), .val (.long u1), .second] [(.int (own_b u1 24))])) (fun t k => X0.baloadBytes hx (j := (3 : Int32)) (v := (.int (own_b u1 24))) (own_at_ e0 Ar104.1) (State.isArrayOf_alike hZ.alike Ar104.2.1) Ar104.2.2 hin104 hat104 (g := (mkF m 41 #[.val (.ref r1), .val (.int (0 : Int32)), .val (.long u1), .second] [(.int (3 : Int32)), (.ref r1)])) rfl rfl (hb hby own_d7_41) t k) ?_
  refine own_by (g' := (mkF m 43 #[.val (.ref r1), .val (.int (0 : Int32)), .val (.long u1), .second] [(.long u1), (.int (own_b u1 24))])) (fun t k => XS.lloadN X0.here hx rfl (hb hby own_d7_42) rfl k) ?_
  refine own_by (g' := (mkF m 45 #[.val (.ref r1), .val (.int (0 : Int32)), .val (.long u1), .second] [(.int (24 : Int32)), (.long u1), (.int (own_b u1 24))])) (fun t k => XS.bipush X0.here hx rfl (hb hby own_d7_43) k) ?_
  refine own_by (g' := (mkF m 46 #[.val (.ref r1), .val (.int (0 : Int32)), .val (.long u1), .second] [(.long ((u1).toUInt64 >>> ((24 : Int32) &&& 0x3f).toInt64.toUInt64).toInt64), (.int (own_b u1 24))])) (fun t k => XS.lushr X0.here hx rfl (hb hby own_d7_45) rfl k) ?_
  refine own_by (g' := (mkF m 47 #[.val (.ref r1), .val (.int (0 : Int32)), .val (.long u1), .second] [(.int (((u1).toUInt64 >>> ((24 : Int32) &&& 0x3f).toInt64.toUInt64).toInt64).toInt32), (.int (own_b u1 24))])) (fun t k => XS.l2i X0.here hx rfl (hb hby own_d7_46) rfl k) ?_
  refine own_by (g' := (mkF m 48 #[.val (.ref r1), .val (.int (0 : Int32)), .val (.long u1), .second] [(.int ((((u1).toUInt64 >>> ((24 : Int32) &&& 0x3f).toInt64.toUInt64).toInt64).toInt32).toInt8.toInt32), (.int (own_b u1 24))])) (fun t k => XS.i2b X0.here hx rfl (hb hby own_d7_47) rfl k) ?_
  refine own_by (g' := (mkF m 51 #[.val (.ref r1), .val (.int (0 : Int32)), .val (.long u1), .second] [])) (fun t k => XS.icmpNo X0.here hx rfl (hb hby own_d7_48) rfl (teq rfl).2 k) ?_
  refine own_by (g' := (mkF m 52 #[.val (.ref r1), .val (.int (0 : Int32)), .val (.long u1), .second] [(.ref r1)])) (fun t k => XS.aloadN X0.here hx rfl (hb hby own_d7_51) rfl rfl k) ?_
  refine own_by (g' := (mkF m 53 #[.val (.ref r1), .val (.int (0 : Int32)), .val (.long u1), .second] [(.int (0 : Int32)), (.ref r1)])) (fun t k => XS.iloadN X0.here hx rfl (hb hby own_d7_52) rfl k) ?_
  refine own_by (g' := (mkF m 54 #[.val (.ref r1), .val (.int (0 : Int32)), .val (.long u1), .second] [(.int (4 : Int32)), (.int (0 : Int32)), (.ref r1)])) (fun t k => XS.iconst X0.here hx rfl (hb hby own_d7_53) k) ?_
  refine own_by (g' := (mkF m 55 #[.val (.ref r1), .val (.int (0 : Int32)), .val (.long u1), .second] [(.int (4 : Int32)), (.ref r1)])) (fun t k => XS.iadd X0.here hx rfl (hb hby own_d7_54) rfl k) ?_
  obtain ⟨c105, Ar105, q105, S105, G105, H105, F105⟩ := id V1
  have hin105 : ¬ ((4 : Int32) < 0 ∨ c105.slots.size ≤ ((4 : Int32)).toNatClampNeg) := inb_of S105 ⟨by decide, by decide⟩
  have hat105 : c105.slots[((4 : Int32)).toNatClampNeg]? = some (.int (own_b u1 32)) := H105.at hin105 hv4
  refine own_by (g' := (mkF m 56 #[.val (.ref r1), .val (.int (0 : Int32)), .val (.long u1), .second] [(.int (own_b u1 32))])) (fun t k => X0.baloadBytes hx (j := (4 : Int32)) (v := (.int (own_b u1 32))) (own_at_ e0 Ar105.1) (State.isArrayOf_alike hZ.alike Ar105.2.1) Ar105.2.2 hin105 hat105 (g := (mkF m 55 #[.val (.ref r1), .val (.int (0 : Int32)), .val (.long u1), .second] [(.int (4 : Int32)), (.ref r1)])) rfl rfl (hb hby own_d7_55) t k) ?_
  refine own_by (g' := (mkF m 57 #[.val (.ref r1), .val (.int (0 : Int32)), .val (.long u1), .second] [(.long u1), (.int (own_b u1 32))])) (fun t k => XS.lloadN X0.here hx rfl (hb hby own_d7_56) rfl k) ?_
  refine own_by (g' := (mkF m 59 #[.val (.ref r1), .val (.int (0 : Int32)), .val (.long u1), .second] [(.int (32 : Int32)), (.long u1), (.int (own_b u1 32))])) (fun t k => XS.bipush X0.here hx rfl (hb hby own_d7_57) k) ?_
  refine own_by (g' := (mkF m 60 #[.val (.ref r1), .val (.int (0 : Int32)), .val (.long u1), .second] [(.long ((u1).toUInt64 >>> ((32 : Int32) &&& 0x3f).toInt64.toUInt64).toInt64), (.int (own_b u1 32))])) (fun t k => XS.lushr X0.here hx rfl (hb hby own_d7_59) rfl k) ?_
  refine own_by (g' := (mkF m 61 #[.val (.ref r1), .val (.int (0 : Int32)), .val (.long u1), .second] [(.int (((u1).toUInt64 >>> ((32 : Int32) &&& 0x3f).toInt64.toUInt64).toInt64).toInt32), (.int (own_b u1 32))])) (fun t k => XS.l2i X0.here hx rfl (hb hby own_d7_60) rfl k) ?_
  refine own_by (g' := (mkF m 62 #[.val (.ref r1), .val (.int (0 : Int32)), .val (.long u1), .second] [(.int ((((u1).toUInt64 >>> ((32 : Int32) &&& 0x3f).toInt64.toUInt64).toInt64).toInt32).toInt8.toInt32), (.int (own_b u1 32))])) (fun t k => XS.i2b X0.here hx rfl (hb hby own_d7_61) rfl k) ?_
  refine own_by (g' := (mkF m 65 #[.val (.ref r1), .val (.int (0 : Int32)), .val (.long u1), .second] [])) (fun t k => XS.icmpNo X0.here hx rfl (hb hby own_d7_62) rfl (teq rfl).2 k) ?_
  refine own_by (g' := (mkF m 66 #[.val (.ref r1), .val (.int (0 : Int32)), .val (.long u1), .second] [(.ref r1)])) (fun t k => XS.aloadN X0.here hx rfl (hb hby own_d7_65) rfl rfl k) ?_
  refine own_by (g' := (mkF m 67 #[.val (.ref r1), .val (.int (0 : Int32)), .val (.long u1), .second] [(.int (0 : Int32)), (.ref r1)])) (fun t k => XS.iloadN X0.here hx rfl (hb hby own_d7_66) rfl k) ?_
  refine own_by (g' := (mkF m 68 #[.val (.ref r1), .val (.int (0 : Int32)), .val (.long u1), .second] [(.int (5 : Int32)), (.int (0 : Int32)), (.ref r1)])) (fun t k => XS.iconst X0.here hx rfl (hb hby own_d7_67) k) ?_
  refine own_by (g' := (mkF m 69 #[.val (.ref r1), .val (.int (0 : Int32)), .val (.long u1), .second] [(.int (5 : Int32)), (.ref r1)])) (fun t k => XS.iadd X0.here hx rfl (hb hby own_d7_68) rfl k) ?_
  obtain ⟨c106, Ar106, q106, S106, G106, H106, F106⟩ := id V1
  have hin106 : ¬ ((5 : Int32) < 0 ∨ c106.slots.size ≤ ((5 : Int32)).toNatClampNeg) := inb_of S106 ⟨by decide, by decide⟩
  have hat106 : c106.slots[((5 : Int32)).toNatClampNeg]? = some (.int (own_b u1 40)) := H106.at hin106 hv5
  refine own_by (g' := (mkF m 70 #[.val (.ref r1), .val (.int (0 : Int32)), .val (.long u1), .second] [(.int (own_b u1 40))])) (fun t k => X0.baloadBytes hx (j := (5 : Int32)) (v := (.int (own_b u1 40))) (own_at_ e0 Ar106.1) (State.isArrayOf_alike hZ.alike Ar106.2.1) Ar106.2.2 hin106 hat106 (g := (mkF m 69 #[.val (.ref r1), .val (.int (0 : Int32)), .val (.long u1), .second] [(.int (5 : Int32)), (.ref r1)])) rfl rfl (hb hby own_d7_69) t k) ?_
  refine own_by (g' := (mkF m 71 #[.val (.ref r1), .val (.int (0 : Int32)), .val (.long u1), .second] [(.long u1), (.int (own_b u1 40))])) (fun t k => XS.lloadN X0.here hx rfl (hb hby own_d7_70) rfl k) ?_
  refine own_by (g' := (mkF m 73 #[.val (.ref r1), .val (.int (0 : Int32)), .val (.long u1), .second] [(.int (40 : Int32)), (.long u1), (.int (own_b u1 40))])) (fun t k => XS.bipush X0.here hx rfl (hb hby own_d7_71) k) ?_
  refine own_by (g' := (mkF m 74 #[.val (.ref r1), .val (.int (0 : Int32)), .val (.long u1), .second] [(.long ((u1).toUInt64 >>> ((40 : Int32) &&& 0x3f).toInt64.toUInt64).toInt64), (.int (own_b u1 40))])) (fun t k => XS.lushr X0.here hx rfl (hb hby own_d7_73) rfl k) ?_
  refine own_by (g' := (mkF m 75 #[.val (.ref r1), .val (.int (0 : Int32)), .val (.long u1), .second] [(.int (((u1).toUInt64 >>> ((40 : Int32) &&& 0x3f).toInt64.toUInt64).toInt64).toInt32), (.int (own_b u1 40))])) (fun t k => XS.l2i X0.here hx rfl (hb hby own_d7_74) rfl k) ?_
  refine own_by (g' := (mkF m 76 #[.val (.ref r1), .val (.int (0 : Int32)), .val (.long u1), .second] [(.int ((((u1).toUInt64 >>> ((40 : Int32) &&& 0x3f).toInt64.toUInt64).toInt64).toInt32).toInt8.toInt32), (.int (own_b u1 40))])) (fun t k => XS.i2b X0.here hx rfl (hb hby own_d7_75) rfl k) ?_
  refine own_by (g' := (mkF m 79 #[.val (.ref r1), .val (.int (0 : Int32)), .val (.long u1), .second] [])) (fun t k => XS.icmpNo X0.here hx rfl (hb hby own_d7_76) rfl (teq rfl).2 k) ?_
  refine own_by (g' := (mkF m 80 #[.val (.ref r1), .val (.int (0 : Int32)), .val (.long u1), .second] [(.ref r1)])) (fun t k => XS.aloadN X0.here hx rfl (hb hby own_d7_79) rfl rfl k) ?_
  refine own_by (g' := (mkF m 81 #[.val (.ref r1), .val (.int (0 : Int32)), .val (.long u1), .second] [(.int (0 : Int32)), (.ref r1)])) (fun t k => XS.iloadN X0.here hx rfl (hb hby own_d7_80) rfl k) ?_
  refine own_by (g' := (mkF m 83 #[.val (.ref r1), .val (.int (0 : Int32)), .val (.long u1), .second] [(.int (6 : Int32)), (.int (0 : Int32)), (.ref r1)])) (fun t k => XS.bipush X0.here hx rfl (hb hby own_d7_81) k) ?_
  refine own_by (g' := (mkF m 84 #[.val (.ref r1), .val (.int (0 : Int32)), .val (.long u1), .second] [(.int (6 : Int32)), (.ref r1)])) (fun t k => XS.iadd X0.here hx rfl (hb hby own_d7_83) rfl k) ?_
  obtain ⟨c107, Ar107, q107, S107, G107, H107, F107⟩ := id V1
  have hin107 : ¬ ((6 : Int32) < 0 ∨ c107.slots.size ≤ ((6 : Int32)).toNatClampNeg) := inb_of S107 ⟨by decide, by decide⟩
  have hat107 : c107.slots[((6 : Int32)).toNatClampNeg]? = some (.int (own_b u1 48)) := H107.at hin107 hv6
  refine own_by (g' := (mkF m 85 #[.val (.ref r1), .val (.int (0 : Int32)), .val (.long u1), .second] [(.int (own_b u1 48))])) (fun t k => X0.baloadBytes hx (j := (6 : Int32)) (v := (.int (own_b u1 48))) (own_at_ e0 Ar107.1) (State.isArrayOf_alike hZ.alike Ar107.2.1) Ar107.2.2 hin107 hat107 (g := (mkF m 84 #[.val (.ref r1), .val (.int (0 : Int32)), .val (.long u1), .second] [(.int (6 : Int32)), (.ref r1)])) rfl rfl (hb hby own_d7_84) t k) ?_
  refine own_by (g' := (mkF m 86 #[.val (.ref r1), .val (.int (0 : Int32)), .val (.long u1), .second] [(.long u1), (.int (own_b u1 48))])) (fun t k => XS.lloadN X0.here hx rfl (hb hby own_d7_85) rfl k) ?_
  refine own_by (g' := (mkF m 88 #[.val (.ref r1), .val (.int (0 : Int32)), .val (.long u1), .second] [(.int (48 : Int32)), (.long u1), (.int (own_b u1 48))])) (fun t k => XS.bipush X0.here hx rfl (hb hby own_d7_86) k) ?_
  refine own_by (g' := (mkF m 89 #[.val (.ref r1), .val (.int (0 : Int32)), .val (.long u1), .second] [(.long ((u1).toUInt64 >>> ((48 : Int32) &&& 0x3f).toInt64.toUInt64).toInt64), (.int (own_b u1 48))])) (fun t k => XS.lushr X0.here hx rfl (hb hby own_d7_88) rfl k) ?_
  refine own_by (g' := (mkF m 90 #[.val (.ref r1), .val (.int (0 : Int32)), .val (.long u1), .second] [(.int (((u1).toUInt64 >>> ((48 : Int32) &&& 0x3f).toInt64.toUInt64).toInt64).toInt32), (.int (own_b u1 48))])) (fun t k => XS.l2i X0.here hx rfl (hb hby own_d7_89) rfl k) ?_
  refine own_by (g' := (mkF m 91 #[.val (.ref r1), .val (.int (0 : Int32)), .val (.long u1), .second] [(.int ((((u1).toUInt64 >>> ((48 : Int32) &&& 0x3f).toInt64.toUInt64).toInt64).toInt32).toInt8.toInt32), (.int (own_b u1 48))])) (fun t k => XS.i2b X0.here hx rfl (hb hby own_d7_90) rfl k) ?_
  refine own_by (g' := (mkF m 94 #[.val (.ref r1), .val (.int (0 : Int32)), .val (.long u1), .second] [])) (fun t k => XS.icmpNo X0.here hx rfl (hb hby own_d7_91) rfl (teq rfl).2 k) ?_
  refine own_by (g' := (mkF m 95 #[.val (.ref r1), .val (.int (0 : Int32)), .val (.long u1), .second] [(.ref r1)])) (fun t k => XS.aloadN X0.here hx rfl (hb hby own_d7_94) rfl rfl k) ?_
  refine own_by (g' := (mkF m 96 #[.val (.ref r1), .val (.int (0 : Int32)), .val (.long u1), .second] [(.int (0 : Int32)), (.ref r1)])) (fun t k => XS.iloadN X0.here hx rfl (hb hby own_d7_95) rfl k) ?_
  refine own_by (g' := (mkF m 98 #[.val (.ref r1), .val (.int (0 : Int32)), .val (.long u1), .second] [(.int (7 : Int32)), (.int (0 : Int32)), (.ref r1)])) (fun t k => XS.bipush X0.here hx rfl (hb hby own_d7_96) k) ?_
  refine own_by (g' := (mkF m 99 #[.val (.ref r1), .val (.int (0 : Int32)), .val (.long u1), .second] [(.int (7 : Int32)), (.ref r1)])) (fun t k => XS.iadd X0.here hx rfl (hb hby own_d7_98) rfl k) ?_
  obtain ⟨c108, Ar108, q108, S108, G108, H108, F108⟩ := id V1
  have hin108 : ¬ ((7 : Int32) < 0 ∨ c108.slots.size ≤ ((7 : Int32)).toNatClampNeg) := inb_of S108 ⟨by decide, by decide⟩
  have hat108 : c108.slots[((7 : Int32)).toNatClampNeg]? = some (.int (own_b u1 56)) := H108.at hin108 hv7
  refine own_by (g' := (mkF m 100 #[.val (.ref r1), .val (.int (0 : Int32)), .val (.long u1), .second] [(.int (own_b u1 56))])) (fun t k => X0.baloadBytes hx (j := (7 : Int32)) (v := (.int (own_b u1 56))) (own_at_ e0 Ar108.1) (State.isArrayOf_alike hZ.alike Ar108.2.1) Ar108.2.2 hin108 hat108 (g := (mkF m 99 #[.val (.ref r1), .val (.int (0 : Int32)), .val (.long u1), .second] [(.int (7 : Int32)), (.ref r1)])) rfl rfl (hb hby own_d7_99) t k) ?_
  refine own_by (g' := (mkF m 101 #[.val (.ref r1), .val (.int (0 : Int32)), .val (.long u1), .second] [(.long u1), (.int (own_b u1 56))])) (fun t k => XS.lloadN X0.here hx rfl (hb hby own_d7_100) rfl k) ?_
  refine own_by (g' := (mkF m 103 #[.val (.ref r1), .val (.int (0 : Int32)), .val (.long u1), .second] [(.int (56 : Int32)), (.long u1), (.int (own_b u1 56))])) (fun t k => XS.bipush X0.here hx rfl (hb hby own_d7_101) k) ?_
  refine own_by (g' := (mkF m 104 #[.val (.ref r1), .val (.int (0 : Int32)), .val (.long u1), .second] [(.long ((u1).toUInt64 >>> ((56 : Int32) &&& 0x3f).toInt64.toUInt64).toInt64), (.int (own_b u1 56))])) (fun t k => XS.lushr X0.here hx rfl (hb hby own_d7_103) rfl k) ?_
  refine own_by (g' := (mkF m 105 #[.val (.ref r1), .val (.int (0 : Int32)), .val (.long u1), .second] [(.int (((u1).toUInt64 >>> ((56 : Int32) &&& 0x3f).toInt64.toUInt64).toInt64).toInt32), (.int (own_b u1 56))])) (fun t k => XS.l2i X0.here hx rfl (hb hby own_d7_104) rfl k) ?_
  refine own_by (g' := (mkF m 106 #[.val (.ref r1), .val (.int (0 : Int32)), .val (.long u1), .second] [(.int ((((u1).toUInt64 >>> ((56 : Int32) &&& 0x3f).toInt64.toUInt64).toInt64).toInt32).toInt8.toInt32), (.int (own_b u1 56))])) (fun t k => XS.i2b X0.here hx rfl (hb hby own_d7_105) rfl k) ?_
  refine own_by (g' := (mkF m 109 #[.val (.ref r1), .val (.int (0 : Int32)), .val (.long u1), .second] [])) (fun t k => XS.icmpNo X0.here hx rfl (hb hby own_d7_106) rfl (teq rfl).2 k) ?_
  refine own_by (g' := (mkF m 110 #[.val (.ref r1), .val (.int (0 : Int32)), .val (.long u1), .second] [(.int (1 : Int32))])) (fun t k => XS.iconst X0.here hx rfl (hb hby own_d7_109) k) ?_
  refine own_by (g' := (mkF m 114 #[.val (.ref r1), .val (.int (0 : Int32)), .val (.long u1), .second] [(.int (1 : Int32))])) (fun t k => XS.goto X0.here hx rfl (pc0 := 110) (pc' := 114) rfl (hb hby own_d7_110) (by decide) (by decide) k) ?_
  refine own_retN X0 hx hlk hret (t := .boolean) (by simp) (hb hby own_d7_114) (by decide) (by decide) ?_
  exact ⟨rfl, N0, e0⟩
def Q_own_same8 (Z : State) (r1 : Addr) (u1 : Int64) (kk : ClassId) (xs : List Value) (h0 : Heap) (n0 : Nat) (v : Option Value) (h : Heap) (L : List Loc) : Prop := v = some (.int (1 : Int32)) ∧ Fr n0 L ∧ h = h0
theorem own_ef_own_same8 (m : MethodId) (r1 : Addr) (u1 : Int64) : entryFrame m #[(.ref r1), (.int (8 : Int32)), (.long u1)] 4 = mkF m 0 #[.val (.ref r1), .val (.int (8 : Int32)), .val (.long u1), .second] [] := by first | (simp [entryFrame, mkF, argsToLocals, Value.category]; done) | rfl
set_option maxRecDepth 65536 in
set_option maxHeartbeats 40000000 in
theorem own_same8 (l : Launch) (Z : State) (a0 : Array Value) (hw : ∀ d ∈ tables_1, d.before a0 Z = true) (ws : List Jvm.Cond) (r1 : Addr) (u1 : Int64) (kk : ClassId) (xs : List Value) (h0 : Heap) (n0 : Nat) (Z0 : n0 ≤ h0.size) (V1 : Arv Z h0 r1 kk .byte (32 : Int32) xs (.int (0 : Int32))) (hv0 : xs.getD 8 (.int (0 : Int32)) = .int (own_b0 u1)) (hv1 : xs.getD 9 (.int (0 : Int32)) = .int (own_b u1 8)) (hv2 : xs.getD 10 (.int (0 : Int32)) = .int (own_b u1 16)) (hv3 : xs.getD 11 (.int (0 : Int32)) = .int (own_b u1 24)) (hv4 : xs.getD 12 (.int (0 : Int32)) = .int (own_b u1 32)) (hv5 : xs.getD 13 (.int (0 : Int32)) = .int (own_b u1 40)) (hv6 : xs.getD 14 (.int (0 : Int32)) = .int (own_b u1 48)) (hv7 : xs.getD 15 (.int (0 : Int32)) = .int (own_b u1 56)) :
    own_Ctr l Z (⟨"com/example/idemnity/idemnity/model/Sha256FromDigestPinLaw", "same", "([BIJ)Z"⟩ : MethodName) method_3_code 4 (some .boolean) ws ({ frames := 0, cells := 0, slots := 0, locals := 0 } : Room) (({ frames := 0, cells := 0, slots := 0, locals := 0 } : Room)).cells (({ frames := 0, cells := 0, slots := 0, locals := 0 } : Room)).slots #[(.ref r1), (.int (8 : Int32)), (.long u1)] h0 (Q_own_same8 Z r1 u1 kk xs h0 n0) := by
  refine own_enter (plainFor_of_name own_pn0) ?_
  intro p e s m below meth c s₁ X0 hx hZ hby hml hown hnm hlk hret e0
  have N0 := Fr.nil n0
  refine own_cast (own_ef_own_same8 m r1 u1) ?_
  refine own_by (g' := (mkF m 1 #[.val (.ref r1), .val (.int (8 : Int32)), .val (.long u1), .second] [(.ref r1)])) (fun t k => XS.aloadN X0.here hx rfl (hb hby own_d7_0) rfl rfl k) ?_
  refine own_by (g' := (mkF m 2 #[.val (.ref r1), .val (.int (8 : Int32)), .val (.long u1), .second] [(.int (8 : Int32)), (.ref r1)])) (fun t k => XS.iloadN X0.here hx rfl (hb hby own_d7_1) rfl k) ?_
  obtain ⟨c101, Ar101, q101, S101, G101, H101, F101⟩ := id V1
  have hin101 : ¬ ((8 : Int32) < 0 ∨ c101.slots.size ≤ ((8 : Int32)).toNatClampNeg) := inb_of S101 ⟨by decide, by decide⟩
  have hat101 : c101.slots[((8 : Int32)).toNatClampNeg]? = some (.int (own_b0 u1)) := H101.at hin101 hv0
  refine own_by (g' := (mkF m 3 #[.val (.ref r1), .val (.int (8 : Int32)), .val (.long u1), .second] [(.int (own_b0 u1))])) (fun t k => X0.baloadBytes hx (j := (8 : Int32)) (v := (.int (own_b0 u1))) (own_at_ e0 Ar101.1) (State.isArrayOf_alike hZ.alike Ar101.2.1) Ar101.2.2 hin101 hat101 (g := (mkF m 2 #[.val (.ref r1), .val (.int (8 : Int32)), .val (.long u1), .second] [(.int (8 : Int32)), (.ref r1)])) rfl rfl (hb hby own_d7_2) t k) ?_
  refine own_by (g' := (mkF m 4 #[.val (.ref r1), .val (.int (8 : Int32)), .val (.long u1), .second] [(.long u1), (.int (own_b0 u1))])) (fun t k => XS.lloadN X0.here hx rfl (hb hby own_d7_3) rfl k) ?_
  refine own_by (g' := (mkF m 5 #[.val (.ref r1), .val (.int (8 : Int32)), .val (.long u1), .second] [(.int (u1).toInt32), (.int (own_b0 u1))])) (fun t k => XS.l2i X0.here hx rfl (hb hby own_d7_4) rfl k) ?_
  refine own_by (g' := (mkF m 6 #[.val (.ref r1), .val (.int (8 : Int32)), .val (.long u1), .second] [(.int ((u1).toInt32).toInt8.toInt32), (.int (own_b0 u1))])) (fun t k => XS.i2b X0.here hx rfl (hb hby own_d7_5) rfl k) ?_
  refine own_by (g' := (mkF m 9 #[.val (.ref r1), .val (.int (8 : Int32)), .val (.long u1), .second] [])) (fun t k => XS.icmpNo X0.here hx rfl (hb hby own_d7_6) rfl (teq rfl).2 k) ?_
  refine own_by (g' := (mkF m 10 #[.val (.ref r1), .val (.int (8 : Int32)), .val (.long u1), .second] [(.ref r1)])) (fun t k => XS.aloadN X0.here hx rfl (hb hby own_d7_9) rfl rfl k) ?_
  refine own_by (g' := (mkF m 11 #[.val (.ref r1), .val (.int (8 : Int32)), .val (.long u1), .second] [(.int (8 : Int32)), (.ref r1)])) (fun t k => XS.iloadN X0.here hx rfl (hb hby own_d7_10) rfl k) ?_
  refine own_by (g' := (mkF m 12 #[.val (.ref r1), .val (.int (8 : Int32)), .val (.long u1), .second] [(.int (1 : Int32)), (.int (8 : Int32)), (.ref r1)])) (fun t k => XS.iconst X0.here hx rfl (hb hby own_d7_11) k) ?_
  refine own_by (g' := (mkF m 13 #[.val (.ref r1), .val (.int (8 : Int32)), .val (.long u1), .second] [(.int (9 : Int32)), (.ref r1)])) (fun t k => XS.iadd X0.here hx rfl (hb hby own_d7_12) rfl k) ?_
  obtain ⟨c102, Ar102, q102, S102, G102, H102, F102⟩ := id V1
  have hin102 : ¬ ((9 : Int32) < 0 ∨ c102.slots.size ≤ ((9 : Int32)).toNatClampNeg) := inb_of S102 ⟨by decide, by decide⟩
  have hat102 : c102.slots[((9 : Int32)).toNatClampNeg]? = some (.int (own_b u1 8)) := H102.at hin102 hv1
  refine own_by (g' := (mkF m 14 #[.val (.ref r1), .val (.int (8 : Int32)), .val (.long u1), .second] [(.int (own_b u1 8))])) (fun t k => X0.baloadBytes hx (j := (9 : Int32)) (v := (.int (own_b u1 8))) (own_at_ e0 Ar102.1) (State.isArrayOf_alike hZ.alike Ar102.2.1) Ar102.2.2 hin102 hat102 (g := (mkF m 13 #[.val (.ref r1), .val (.int (8 : Int32)), .val (.long u1), .second] [(.int (9 : Int32)), (.ref r1)])) rfl rfl (hb hby own_d7_13) t k) ?_
  refine own_by (g' := (mkF m 15 #[.val (.ref r1), .val (.int (8 : Int32)), .val (.long u1), .second] [(.long u1), (.int (own_b u1 8))])) (fun t k => XS.lloadN X0.here hx rfl (hb hby own_d7_14) rfl k) ?_
  refine own_by (g' := (mkF m 17 #[.val (.ref r1), .val (.int (8 : Int32)), .val (.long u1), .second] [(.int (8 : Int32)), (.long u1), (.int (own_b u1 8))])) (fun t k => XS.bipush X0.here hx rfl (hb hby own_d7_15) k) ?_
  refine own_by (g' := (mkF m 18 #[.val (.ref r1), .val (.int (8 : Int32)), .val (.long u1), .second] [(.long ((u1).toUInt64 >>> ((8 : Int32) &&& 0x3f).toInt64.toUInt64).toInt64), (.int (own_b u1 8))])) (fun t k => XS.lushr X0.here hx rfl (hb hby own_d7_17) rfl k) ?_
  refine own_by (g' := (mkF m 19 #[.val (.ref r1), .val (.int (8 : Int32)), .val (.long u1), .second] [(.int (((u1).toUInt64 >>> ((8 : Int32) &&& 0x3f).toInt64.toUInt64).toInt64).toInt32), (.int (own_b u1 8))])) (fun t k => XS.l2i X0.here hx rfl (hb hby own_d7_18) rfl k) ?_
  refine own_by (g' := (mkF m 20 #[.val (.ref r1), .val (.int (8 : Int32)), .val (.long u1), .second] [(.int ((((u1).toUInt64 >>> ((8 : Int32) &&& 0x3f).toInt64.toUInt64).toInt64).toInt32).toInt8.toInt32), (.int (own_b u1 8))])) (fun t k => XS.i2b X0.here hx rfl (hb hby own_d7_19) rfl k) ?_
  refine own_by (g' := (mkF m 23 #[.val (.ref r1), .val (.int (8 : Int32)), .val (.long u1), .second] [])) (fun t k => XS.icmpNo X0.here hx rfl (hb hby own_d7_20) rfl (teq rfl).2 k) ?_
  refine own_by (g' := (mkF m 24 #[.val (.ref r1), .val (.int (8 : Int32)), .val (.long u1), .second] [(.ref r1)])) (fun t k => XS.aloadN X0.here hx rfl (hb hby own_d7_23) rfl rfl k) ?_
  refine own_by (g' := (mkF m 25 #[.val (.ref r1), .val (.int (8 : Int32)), .val (.long u1), .second] [(.int (8 : Int32)), (.ref r1)])) (fun t k => XS.iloadN X0.here hx rfl (hb hby own_d7_24) rfl k) ?_
  refine own_by (g' := (mkF m 26 #[.val (.ref r1), .val (.int (8 : Int32)), .val (.long u1), .second] [(.int (2 : Int32)), (.int (8 : Int32)), (.ref r1)])) (fun t k => XS.iconst X0.here hx rfl (hb hby own_d7_25) k) ?_
  refine own_by (g' := (mkF m 27 #[.val (.ref r1), .val (.int (8 : Int32)), .val (.long u1), .second] [(.int (10 : Int32)), (.ref r1)])) (fun t k => XS.iadd X0.here hx rfl (hb hby own_d7_26) rfl k) ?_
  obtain ⟨c103, Ar103, q103, S103, G103, H103, F103⟩ := id V1
  have hin103 : ¬ ((10 : Int32) < 0 ∨ c103.slots.size ≤ ((10 : Int32)).toNatClampNeg) := inb_of S103 ⟨by decide, by decide⟩
  have hat103 : c103.slots[((10 : Int32)).toNatClampNeg]? = some (.int (own_b u1 16)) := H103.at hin103 hv2
  refine own_by (g' := (mkF m 28 #[.val (.ref r1), .val (.int (8 : Int32)), .val (.long u1), .second] [(.int (own_b u1 16))])) (fun t k => X0.baloadBytes hx (j := (10 : Int32)) (v := (.int (own_b u1 16))) (own_at_ e0 Ar103.1) (State.isArrayOf_alike hZ.alike Ar103.2.1) Ar103.2.2 hin103 hat103 (g := (mkF m 27 #[.val (.ref r1), .val (.int (8 : Int32)), .val (.long u1), .second] [(.int (10 : Int32)), (.ref r1)])) rfl rfl (hb hby own_d7_27) t k) ?_
  refine own_by (g' := (mkF m 29 #[.val (.ref r1), .val (.int (8 : Int32)), .val (.long u1), .second] [(.long u1), (.int (own_b u1 16))])) (fun t k => XS.lloadN X0.here hx rfl (hb hby own_d7_28) rfl k) ?_
  refine own_by (g' := (mkF m 31 #[.val (.ref r1), .val (.int (8 : Int32)), .val (.long u1), .second] [(.int (16 : Int32)), (.long u1), (.int (own_b u1 16))])) (fun t k => XS.bipush X0.here hx rfl (hb hby own_d7_29) k) ?_
  refine own_by (g' := (mkF m 32 #[.val (.ref r1), .val (.int (8 : Int32)), .val (.long u1), .second] [(.long ((u1).toUInt64 >>> ((16 : Int32) &&& 0x3f).toInt64.toUInt64).toInt64), (.int (own_b u1 16))])) (fun t k => XS.lushr X0.here hx rfl (hb hby own_d7_31) rfl k) ?_
  refine own_by (g' := (mkF m 33 #[.val (.ref r1), .val (.int (8 : Int32)), .val (.long u1), .second] [(.int (((u1).toUInt64 >>> ((16 : Int32) &&& 0x3f).toInt64.toUInt64).toInt64).toInt32), (.int (own_b u1 16))])) (fun t k => XS.l2i X0.here hx rfl (hb hby own_d7_32) rfl k) ?_
  refine own_by (g' := (mkF m 34 #[.val (.ref r1), .val (.int (8 : Int32)), .val (.long u1), .second] [(.int ((((u1).toUInt64 >>> ((16 : Int32) &&& 0x3f).toInt64.toUInt64).toInt64).toInt32).toInt8.toInt32), (.int (own_b u1 16))])) (fun t k => XS.i2b X0.here hx rfl (hb hby own_d7_33) rfl k) ?_
  refine own_by (g' := (mkF m 37 #[.val (.ref r1), .val (.int (8 : Int32)), .val (.long u1), .second] [])) (fun t k => XS.icmpNo X0.here hx rfl (hb hby own_d7_34) rfl (teq rfl).2 k) ?_
  refine own_by (g' := (mkF m 38 #[.val (.ref r1), .val (.int (8 : Int32)), .val (.long u1), .second] [(.ref r1)])) (fun t k => XS.aloadN X0.here hx rfl (hb hby own_d7_37) rfl rfl k) ?_
  refine own_by (g' := (mkF m 39 #[.val (.ref r1), .val (.int (8 : Int32)), .val (.long u1), .second] [(.int (8 : Int32)), (.ref r1)])) (fun t k => XS.iloadN X0.here hx rfl (hb hby own_d7_38) rfl k) ?_
  refine own_by (g' := (mkF m 40 #[.val (.ref r1), .val (.int (8 : Int32)), .val (.long u1), .second] [(.int (3 : Int32)), (.int (8 : Int32)), (.ref r1)])) (fun t k => XS.iconst X0.here hx rfl (hb hby own_d7_39) k) ?_
  refine own_by (g' := (mkF m 41 #[.val (.ref r1), .val (.int (8 : Int32)), .val (.long u1), .second] [(.int (11 : Int32)), (.ref r1)])) (fun t k => XS.iadd X0.here hx rfl (hb hby own_d7_40) rfl k) ?_
  obtain ⟨c104, Ar104, q104, S104, G104, H104, F104⟩ := id V1
  have hin104 : ¬ ((11 : Int32) < 0 ∨ c104.slots.size ≤ ((11 : Int32)).toNatClampNeg) := inb_of S104 ⟨by decide, by decide⟩
  have hat104 : c104.slots[((11 : Int32)).toNatClampNeg]? = some (.int (own_b u1 24)) := H104.at hin104 hv3
  refine own_by (g' := (mkF m 42 #[.val (.ref r1), .val (.int (8 : Int32)), .val (.long u1), .second] [(.int (own_b u1 24))])) (fun t k => X0.baloadBytes hx (j := (11 : Int32)) (v := (.int (own_b u1 24))) (own_at_ e0 Ar104.1) (State.isArrayOf_alike hZ.alike Ar104.2.1) Ar104.2.2 hin104 hat104 (g := (mkF m 41 #[.val (.ref r1), .val (.int (8 : Int32)), .val (.long u1), .second] [(.int (11 : Int32)), (.ref r1)])) rfl rfl (hb hby own_d7_41) t k) ?_
  refine own_by (g' := (mkF m 43 #[.val (.ref r1), .val (.int (8 : Int32)), .val (.long u1), .second] [(.long u1), (.int (own_b u1 24))])) (fun t k => XS.lloadN X0.here hx rfl (hb hby own_d7_42) rfl k) ?_
  refine own_by (g' := (mkF m 45 #[.val (.ref r1), .val (.int (8 : Int32)), .val (.long u1), .second] [(.int (24 : Int32)), (.long u1), (.int (own_b u1 24))])) (fun t k => XS.bipush X0.here hx rfl (hb hby own_d7_43) k) ?_
  refine own_by (g' := (mkF m 46 #[.val (.ref r1), .val (.int (8 : Int32)), .val (.long u1), .second] [(.long ((u1).toUInt64 >>> ((24 : Int32) &&& 0x3f).toInt64.toUInt64).toInt64), (.int (own_b u1 24))])) (fun t k => XS.lushr X0.here hx rfl (hb hby own_d7_45) rfl k) ?_
  refine own_by (g' := (mkF m 47 #[.val (.ref r1), .val (.int (8 : Int32)), .val (.long u1), .second] [(.int (((u1).toUInt64 >>> ((24 : Int32) &&& 0x3f).toInt64.toUInt64).toInt64).toInt32), (.int (own_b u1 24))])) (fun t k => XS.l2i X0.here hx rfl (hb hby own_d7_46) rfl k) ?_
  refine own_by (g' := (mkF m 48 #[.val (.ref r1), .val (.int (8 : Int32)), .val (.long u1), .second] [(.int ((((u1).toUInt64 >>> ((24 : Int32) &&& 0x3f).toInt64.toUInt64).toInt64).toInt32).toInt8.toInt32), (.int (own_b u1 24))])) (fun t k => XS.i2b X0.here hx rfl (hb hby own_d7_47) rfl k) ?_
  refine own_by (g' := (mkF m 51 #[.val (.ref r1), .val (.int (8 : Int32)), .val (.long u1), .second] [])) (fun t k => XS.icmpNo X0.here hx rfl (hb hby own_d7_48) rfl (teq rfl).2 k) ?_
  refine own_by (g' := (mkF m 52 #[.val (.ref r1), .val (.int (8 : Int32)), .val (.long u1), .second] [(.ref r1)])) (fun t k => XS.aloadN X0.here hx rfl (hb hby own_d7_51) rfl rfl k) ?_
  refine own_by (g' := (mkF m 53 #[.val (.ref r1), .val (.int (8 : Int32)), .val (.long u1), .second] [(.int (8 : Int32)), (.ref r1)])) (fun t k => XS.iloadN X0.here hx rfl (hb hby own_d7_52) rfl k) ?_
  refine own_by (g' := (mkF m 54 #[.val (.ref r1), .val (.int (8 : Int32)), .val (.long u1), .second] [(.int (4 : Int32)), (.int (8 : Int32)), (.ref r1)])) (fun t k => XS.iconst X0.here hx rfl (hb hby own_d7_53) k) ?_
  refine own_by (g' := (mkF m 55 #[.val (.ref r1), .val (.int (8 : Int32)), .val (.long u1), .second] [(.int (12 : Int32)), (.ref r1)])) (fun t k => XS.iadd X0.here hx rfl (hb hby own_d7_54) rfl k) ?_
  obtain ⟨c105, Ar105, q105, S105, G105, H105, F105⟩ := id V1
  have hin105 : ¬ ((12 : Int32) < 0 ∨ c105.slots.size ≤ ((12 : Int32)).toNatClampNeg) := inb_of S105 ⟨by decide, by decide⟩
  have hat105 : c105.slots[((12 : Int32)).toNatClampNeg]? = some (.int (own_b u1 32)) := H105.at hin105 hv4
  refine own_by (g' := (mkF m 56 #[.val (.ref r1), .val (.int (8 : Int32)), .val (.long u1), .second] [(.int (own_b u1 32))])) (fun t k => X0.baloadBytes hx (j := (12 : Int32)) (v := (.int (own_b u1 32))) (own_at_ e0 Ar105.1) (State.isArrayOf_alike hZ.alike Ar105.2.1) Ar105.2.2 hin105 hat105 (g := (mkF m 55 #[.val (.ref r1), .val (.int (8 : Int32)), .val (.long u1), .second] [(.int (12 : Int32)), (.ref r1)])) rfl rfl (hb hby own_d7_55) t k) ?_
  refine own_by (g' := (mkF m 57 #[.val (.ref r1), .val (.int (8 : Int32)), .val (.long u1), .second] [(.long u1), (.int (own_b u1 32))])) (fun t k => XS.lloadN X0.here hx rfl (hb hby own_d7_56) rfl k) ?_
  refine own_by (g' := (mkF m 59 #[.val (.ref r1), .val (.int (8 : Int32)), .val (.long u1), .second] [(.int (32 : Int32)), (.long u1), (.int (own_b u1 32))])) (fun t k => XS.bipush X0.here hx rfl (hb hby own_d7_57) k) ?_
  refine own_by (g' := (mkF m 60 #[.val (.ref r1), .val (.int (8 : Int32)), .val (.long u1), .second] [(.long ((u1).toUInt64 >>> ((32 : Int32) &&& 0x3f).toInt64.toUInt64).toInt64), (.int (own_b u1 32))])) (fun t k => XS.lushr X0.here hx rfl (hb hby own_d7_59) rfl k) ?_
  refine own_by (g' := (mkF m 61 #[.val (.ref r1), .val (.int (8 : Int32)), .val (.long u1), .second] [(.int (((u1).toUInt64 >>> ((32 : Int32) &&& 0x3f).toInt64.toUInt64).toInt64).toInt32), (.int (own_b u1 32))])) (fun t k => XS.l2i X0.here hx rfl (hb hby own_d7_60) rfl k) ?_
  refine own_by (g' := (mkF m 62 #[.val (.ref r1), .val (.int (8 : Int32)), .val (.long u1), .second] [(.int ((((u1).toUInt64 >>> ((32 : Int32) &&& 0x3f).toInt64.toUInt64).toInt64).toInt32).toInt8.toInt32), (.int (own_b u1 32))])) (fun t k => XS.i2b X0.here hx rfl (hb hby own_d7_61) rfl k) ?_
  refine own_by (g' := (mkF m 65 #[.val (.ref r1), .val (.int (8 : Int32)), .val (.long u1), .second] [])) (fun t k => XS.icmpNo X0.here hx rfl (hb hby own_d7_62) rfl (teq rfl).2 k) ?_
  refine own_by (g' := (mkF m 66 #[.val (.ref r1), .val (.int (8 : Int32)), .val (.long u1), .second] [(.ref r1)])) (fun t k => XS.aloadN X0.here hx rfl (hb hby own_d7_65) rfl rfl k) ?_
  refine own_by (g' := (mkF m 67 #[.val (.ref r1), .val (.int (8 : Int32)), .val (.long u1), .second] [(.int (8 : Int32)), (.ref r1)])) (fun t k => XS.iloadN X0.here hx rfl (hb hby own_d7_66) rfl k) ?_
  refine own_by (g' := (mkF m 68 #[.val (.ref r1), .val (.int (8 : Int32)), .val (.long u1), .second] [(.int (5 : Int32)), (.int (8 : Int32)), (.ref r1)])) (fun t k => XS.iconst X0.here hx rfl (hb hby own_d7_67) k) ?_
  refine own_by (g' := (mkF m 69 #[.val (.ref r1), .val (.int (8 : Int32)), .val (.long u1), .second] [(.int (13 : Int32)), (.ref r1)])) (fun t k => XS.iadd X0.here hx rfl (hb hby own_d7_68) rfl k) ?_
  obtain ⟨c106, Ar106, q106, S106, G106, H106, F106⟩ := id V1
  have hin106 : ¬ ((13 : Int32) < 0 ∨ c106.slots.size ≤ ((13 : Int32)).toNatClampNeg) := inb_of S106 ⟨by decide, by decide⟩
  have hat106 : c106.slots[((13 : Int32)).toNatClampNeg]? = some (.int (own_b u1 40)) := H106.at hin106 hv5
  refine own_by (g' := (mkF m 70 #[.val (.ref r1), .val (.int (8 : Int32)), .val (.long u1), .second] [(.int (own_b u1 40))])) (fun t k => X0.baloadBytes hx (j := (13 : Int32)) (v := (.int (own_b u1 40))) (own_at_ e0 Ar106.1) (State.isArrayOf_alike hZ.alike Ar106.2.1) Ar106.2.2 hin106 hat106 (g := (mkF m 69 #[.val (.ref r1), .val (.int (8 : Int32)), .val (.long u1), .second] [(.int (13 : Int32)), (.ref r1)])) rfl rfl (hb hby own_d7_69) t k) ?_
  refine own_by (g' := (mkF m 71 #[.val (.ref r1), .val (.int (8 : Int32)), .val (.long u1), .second] [(.long u1), (.int (own_b u1 40))])) (fun t k => XS.lloadN X0.here hx rfl (hb hby own_d7_70) rfl k) ?_
  refine own_by (g' := (mkF m 73 #[.val (.ref r1), .val (.int (8 : Int32)), .val (.long u1), .second] [(.int (40 : Int32)), (.long u1), (.int (own_b u1 40))])) (fun t k => XS.bipush X0.here hx rfl (hb hby own_d7_71) k) ?_
  refine own_by (g' := (mkF m 74 #[.val (.ref r1), .val (.int (8 : Int32)), .val (.long u1), .second] [(.long ((u1).toUInt64 >>> ((40 : Int32) &&& 0x3f).toInt64.toUInt64).toInt64), (.int (own_b u1 40))])) (fun t k => XS.lushr X0.here hx rfl (hb hby own_d7_73) rfl k) ?_
  refine own_by (g' := (mkF m 75 #[.val (.ref r1), .val (.int (8 : Int32)), .val (.long u1), .second] [(.int (((u1).toUInt64 >>> ((40 : Int32) &&& 0x3f).toInt64.toUInt64).toInt64).toInt32), (.int (own_b u1 40))])) (fun t k => XS.l2i X0.here hx rfl (hb hby own_d7_74) rfl k) ?_
  refine own_by (g' := (mkF m 76 #[.val (.ref r1), .val (.int (8 : Int32)), .val (.long u1), .second] [(.int ((((u1).toUInt64 >>> ((40 : Int32) &&& 0x3f).toInt64.toUInt64).toInt64).toInt32).toInt8.toInt32), (.int (own_b u1 40))])) (fun t k => XS.i2b X0.here hx rfl (hb hby own_d7_75) rfl k) ?_
  refine own_by (g' := (mkF m 79 #[.val (.ref r1), .val (.int (8 : Int32)), .val (.long u1), .second] [])) (fun t k => XS.icmpNo X0.here hx rfl (hb hby own_d7_76) rfl (teq rfl).2 k) ?_
  refine own_by (g' := (mkF m 80 #[.val (.ref r1), .val (.int (8 : Int32)), .val (.long u1), .second] [(.ref r1)])) (fun t k => XS.aloadN X0.here hx rfl (hb hby own_d7_79) rfl rfl k) ?_
  refine own_by (g' := (mkF m 81 #[.val (.ref r1), .val (.int (8 : Int32)), .val (.long u1), .second] [(.int (8 : Int32)), (.ref r1)])) (fun t k => XS.iloadN X0.here hx rfl (hb hby own_d7_80) rfl k) ?_
  refine own_by (g' := (mkF m 83 #[.val (.ref r1), .val (.int (8 : Int32)), .val (.long u1), .second] [(.int (6 : Int32)), (.int (8 : Int32)), (.ref r1)])) (fun t k => XS.bipush X0.here hx rfl (hb hby own_d7_81) k) ?_
  refine own_by (g' := (mkF m 84 #[.val (.ref r1), .val (.int (8 : Int32)), .val (.long u1), .second] [(.int (14 : Int32)), (.ref r1)])) (fun t k => XS.iadd X0.here hx rfl (hb hby own_d7_83) rfl k) ?_
  obtain ⟨c107, Ar107, q107, S107, G107, H107, F107⟩ := id V1
  have hin107 : ¬ ((14 : Int32) < 0 ∨ c107.slots.size ≤ ((14 : Int32)).toNatClampNeg) := inb_of S107 ⟨by decide, by decide⟩
  have hat107 : c107.slots[((14 : Int32)).toNatClampNeg]? = some (.int (own_b u1 48)) := H107.at hin107 hv6
  refine own_by (g' := (mkF m 85 #[.val (.ref r1), .val (.int (8 : Int32)), .val (.long u1), .second] [(.int (own_b u1 48))])) (fun t k => X0.baloadBytes hx (j := (14 : Int32)) (v := (.int (own_b u1 48))) (own_at_ e0 Ar107.1) (State.isArrayOf_alike hZ.alike Ar107.2.1) Ar107.2.2 hin107 hat107 (g := (mkF m 84 #[.val (.ref r1), .val (.int (8 : Int32)), .val (.long u1), .second] [(.int (14 : Int32)), (.ref r1)])) rfl rfl (hb hby own_d7_84) t k) ?_
  refine own_by (g' := (mkF m 86 #[.val (.ref r1), .val (.int (8 : Int32)), .val (.long u1), .second] [(.long u1), (.int (own_b u1 48))])) (fun t k => XS.lloadN X0.here hx rfl (hb hby own_d7_85) rfl k) ?_
  refine own_by (g' := (mkF m 88 #[.val (.ref r1), .val (.int (8 : Int32)), .val (.long u1), .second] [(.int (48 : Int32)), (.long u1), (.int (own_b u1 48))])) (fun t k => XS.bipush X0.here hx rfl (hb hby own_d7_86) k) ?_
  refine own_by (g' := (mkF m 89 #[.val (.ref r1), .val (.int (8 : Int32)), .val (.long u1), .second] [(.long ((u1).toUInt64 >>> ((48 : Int32) &&& 0x3f).toInt64.toUInt64).toInt64), (.int (own_b u1 48))])) (fun t k => XS.lushr X0.here hx rfl (hb hby own_d7_88) rfl k) ?_
  refine own_by (g' := (mkF m 90 #[.val (.ref r1), .val (.int (8 : Int32)), .val (.long u1), .second] [(.int (((u1).toUInt64 >>> ((48 : Int32) &&& 0x3f).toInt64.toUInt64).toInt64).toInt32), (.int (own_b u1 48))])) (fun t k => XS.l2i X0.here hx rfl (hb hby own_d7_89) rfl k) ?_
  refine own_by (g' := (mkF m 91 #[.val (.ref r1), .val (.int (8 : Int32)), .val (.long u1), .second] [(.int ((((u1).toUInt64 >>> ((48 : Int32) &&& 0x3f).toInt64.toUInt64).toInt64).toInt32).toInt8.toInt32), (.int (own_b u1 48))])) (fun t k => XS.i2b X0.here hx rfl (hb hby own_d7_90) rfl k) ?_
  refine own_by (g' := (mkF m 94 #[.val (.ref r1), .val (.int (8 : Int32)), .val (.long u1), .second] [])) (fun t k => XS.icmpNo X0.here hx rfl (hb hby own_d7_91) rfl (teq rfl).2 k) ?_
  refine own_by (g' := (mkF m 95 #[.val (.ref r1), .val (.int (8 : Int32)), .val (.long u1), .second] [(.ref r1)])) (fun t k => XS.aloadN X0.here hx rfl (hb hby own_d7_94) rfl rfl k) ?_
  refine own_by (g' := (mkF m 96 #[.val (.ref r1), .val (.int (8 : Int32)), .val (.long u1), .second] [(.int (8 : Int32)), (.ref r1)])) (fun t k => XS.iloadN X0.here hx rfl (hb hby own_d7_95) rfl k) ?_
  refine own_by (g' := (mkF m 98 #[.val (.ref r1), .val (.int (8 : Int32)), .val (.long u1), .second] [(.int (7 : Int32)), (.int (8 : Int32)), (.ref r1)])) (fun t k => XS.bipush X0.here hx rfl (hb hby own_d7_96) k) ?_
  refine own_by (g' := (mkF m 99 #[.val (.ref r1), .val (.int (8 : Int32)), .val (.long u1), .second] [(.int (15 : Int32)), (.ref r1)])) (fun t k => XS.iadd X0.here hx rfl (hb hby own_d7_98) rfl k) ?_
  obtain ⟨c108, Ar108, q108, S108, G108, H108, F108⟩ := id V1
  have hin108 : ¬ ((15 : Int32) < 0 ∨ c108.slots.size ≤ ((15 : Int32)).toNatClampNeg) := inb_of S108 ⟨by decide, by decide⟩
  have hat108 : c108.slots[((15 : Int32)).toNatClampNeg]? = some (.int (own_b u1 56)) := H108.at hin108 hv7
  refine own_by (g' := (mkF m 100 #[.val (.ref r1), .val (.int (8 : Int32)), .val (.long u1), .second] [(.int (own_b u1 56))])) (fun t k => X0.baloadBytes hx (j := (15 : Int32)) (v := (.int (own_b u1 56))) (own_at_ e0 Ar108.1) (State.isArrayOf_alike hZ.alike Ar108.2.1) Ar108.2.2 hin108 hat108 (g := (mkF m 99 #[.val (.ref r1), .val (.int (8 : Int32)), .val (.long u1), .second] [(.int (15 : Int32)), (.ref r1)])) rfl rfl (hb hby own_d7_99) t k) ?_
  refine own_by (g' := (mkF m 101 #[.val (.ref r1), .val (.int (8 : Int32)), .val (.long u1), .second] [(.long u1), (.int (own_b u1 56))])) (fun t k => XS.lloadN X0.here hx rfl (hb hby own_d7_100) rfl k) ?_
  refine own_by (g' := (mkF m 103 #[.val (.ref r1), .val (.int (8 : Int32)), .val (.long u1), .second] [(.int (56 : Int32)), (.long u1), (.int (own_b u1 56))])) (fun t k => XS.bipush X0.here hx rfl (hb hby own_d7_101) k) ?_
  refine own_by (g' := (mkF m 104 #[.val (.ref r1), .val (.int (8 : Int32)), .val (.long u1), .second] [(.long ((u1).toUInt64 >>> ((56 : Int32) &&& 0x3f).toInt64.toUInt64).toInt64), (.int (own_b u1 56))])) (fun t k => XS.lushr X0.here hx rfl (hb hby own_d7_103) rfl k) ?_
  refine own_by (g' := (mkF m 105 #[.val (.ref r1), .val (.int (8 : Int32)), .val (.long u1), .second] [(.int (((u1).toUInt64 >>> ((56 : Int32) &&& 0x3f).toInt64.toUInt64).toInt64).toInt32), (.int (own_b u1 56))])) (fun t k => XS.l2i X0.here hx rfl (hb hby own_d7_104) rfl k) ?_
  refine own_by (g' := (mkF m 106 #[.val (.ref r1), .val (.int (8 : Int32)), .val (.long u1), .second] [(.int ((((u1).toUInt64 >>> ((56 : Int32) &&& 0x3f).toInt64.toUInt64).toInt64).toInt32).toInt8.toInt32), (.int (own_b u1 56))])) (fun t k => XS.i2b X0.here hx rfl (hb hby own_d7_105) rfl k) ?_
  refine own_by (g' := (mkF m 109 #[.val (.ref r1), .val (.int (8 : Int32)), .val (.long u1), .second] [])) (fun t k => XS.icmpNo X0.here hx rfl (hb hby own_d7_106) rfl (teq rfl).2 k) ?_
  refine own_by (g' := (mkF m 110 #[.val (.ref r1), .val (.int (8 : Int32)), .val (.long u1), .second] [(.int (1 : Int32))])) (fun t k => XS.iconst X0.here hx rfl (hb hby own_d7_109) k) ?_
  refine own_by (g' := (mkF m 114 #[.val (.ref r1), .val (.int (8 : Int32)), .val (.long u1), .second] [(.int (1 : Int32))])) (fun t k => XS.goto X0.here hx rfl (pc0 := 110) (pc' := 114) rfl (hb hby own_d7_110) (by decide) (by decide) k) ?_
  refine own_retN X0 hx hlk hret (t := .boolean) (by simp) (hb hby own_d7_114) (by decide) (by decide) ?_
  exact ⟨rfl, N0, e0⟩
def Q_own_same16 (Z : State) (r1 : Addr) (u1 : Int64) (kk : ClassId) (xs : List Value) (h0 : Heap) (n0 : Nat) (v : Option Value) (h : Heap) (L : List Loc) : Prop := v = some (.int (1 : Int32)) ∧ Fr n0 L ∧ h = h0
theorem own_ef_own_same16 (m : MethodId) (r1 : Addr) (u1 : Int64) : entryFrame m #[(.ref r1), (.int (16 : Int32)), (.long u1)] 4 = mkF m 0 #[.val (.ref r1), .val (.int (16 : Int32)), .val (.long u1), .second] [] := by first | (simp [entryFrame, mkF, argsToLocals, Value.category]; done) | rfl
set_option maxRecDepth 65536 in
set_option maxHeartbeats 40000000 in
theorem own_same16 (l : Launch) (Z : State) (a0 : Array Value) (hw : ∀ d ∈ tables_1, d.before a0 Z = true) (ws : List Jvm.Cond) (r1 : Addr) (u1 : Int64) (kk : ClassId) (xs : List Value) (h0 : Heap) (n0 : Nat) (Z0 : n0 ≤ h0.size) (V1 : Arv Z h0 r1 kk .byte (32 : Int32) xs (.int (0 : Int32))) (hv0 : xs.getD 16 (.int (0 : Int32)) = .int (own_b0 u1)) (hv1 : xs.getD 17 (.int (0 : Int32)) = .int (own_b u1 8)) (hv2 : xs.getD 18 (.int (0 : Int32)) = .int (own_b u1 16)) (hv3 : xs.getD 19 (.int (0 : Int32)) = .int (own_b u1 24)) (hv4 : xs.getD 20 (.int (0 : Int32)) = .int (own_b u1 32)) (hv5 : xs.getD 21 (.int (0 : Int32)) = .int (own_b u1 40)) (hv6 : xs.getD 22 (.int (0 : Int32)) = .int (own_b u1 48)) (hv7 : xs.getD 23 (.int (0 : Int32)) = .int (own_b u1 56)) :
    own_Ctr l Z (⟨"com/example/idemnity/idemnity/model/Sha256FromDigestPinLaw", "same", "([BIJ)Z"⟩ : MethodName) method_3_code 4 (some .boolean) ws ({ frames := 0, cells := 0, slots := 0, locals := 0 } : Room) (({ frames := 0, cells := 0, slots := 0, locals := 0 } : Room)).cells (({ frames := 0, cells := 0, slots := 0, locals := 0 } : Room)).slots #[(.ref r1), (.int (16 : Int32)), (.long u1)] h0 (Q_own_same16 Z r1 u1 kk xs h0 n0) := by
  refine own_enter (plainFor_of_name own_pn0) ?_
  intro p e s m below meth c s₁ X0 hx hZ hby hml hown hnm hlk hret e0
  have N0 := Fr.nil n0
  refine own_cast (own_ef_own_same16 m r1 u1) ?_
  refine own_by (g' := (mkF m 1 #[.val (.ref r1), .val (.int (16 : Int32)), .val (.long u1), .second] [(.ref r1)])) (fun t k => XS.aloadN X0.here hx rfl (hb hby own_d7_0) rfl rfl k) ?_
  refine own_by (g' := (mkF m 2 #[.val (.ref r1), .val (.int (16 : Int32)), .val (.long u1), .second] [(.int (16 : Int32)), (.ref r1)])) (fun t k => XS.iloadN X0.here hx rfl (hb hby own_d7_1) rfl k) ?_
  obtain ⟨c101, Ar101, q101, S101, G101, H101, F101⟩ := id V1
  have hin101 : ¬ ((16 : Int32) < 0 ∨ c101.slots.size ≤ ((16 : Int32)).toNatClampNeg) := inb_of S101 ⟨by decide, by decide⟩
  have hat101 : c101.slots[((16 : Int32)).toNatClampNeg]? = some (.int (own_b0 u1)) := H101.at hin101 hv0
  refine own_by (g' := (mkF m 3 #[.val (.ref r1), .val (.int (16 : Int32)), .val (.long u1), .second] [(.int (own_b0 u1))])) (fun t k => X0.baloadBytes hx (j := (16 : Int32)) (v := (.int (own_b0 u1))) (own_at_ e0 Ar101.1) (State.isArrayOf_alike hZ.alike Ar101.2.1) Ar101.2.2 hin101 hat101 (g := (mkF m 2 #[.val (.ref r1), .val (.int (16 : Int32)), .val (.long u1), .second] [(.int (16 : Int32)), (.ref r1)])) rfl rfl (hb hby own_d7_2) t k) ?_
  refine own_by (g' := (mkF m 4 #[.val (.ref r1), .val (.int (16 : Int32)), .val (.long u1), .second] [(.long u1), (.int (own_b0 u1))])) (fun t k => XS.lloadN X0.here hx rfl (hb hby own_d7_3) rfl k) ?_
  refine own_by (g' := (mkF m 5 #[.val (.ref r1), .val (.int (16 : Int32)), .val (.long u1), .second] [(.int (u1).toInt32), (.int (own_b0 u1))])) (fun t k => XS.l2i X0.here hx rfl (hb hby own_d7_4) rfl k) ?_
  refine own_by (g' := (mkF m 6 #[.val (.ref r1), .val (.int (16 : Int32)), .val (.long u1), .second] [(.int ((u1).toInt32).toInt8.toInt32), (.int (own_b0 u1))])) (fun t k => XS.i2b X0.here hx rfl (hb hby own_d7_5) rfl k) ?_
  refine own_by (g' := (mkF m 9 #[.val (.ref r1), .val (.int (16 : Int32)), .val (.long u1), .second] [])) (fun t k => XS.icmpNo X0.here hx rfl (hb hby own_d7_6) rfl (teq rfl).2 k) ?_
  refine own_by (g' := (mkF m 10 #[.val (.ref r1), .val (.int (16 : Int32)), .val (.long u1), .second] [(.ref r1)])) (fun t k => XS.aloadN X0.here hx rfl (hb hby own_d7_9) rfl rfl k) ?_
  refine own_by (g' := (mkF m 11 #[.val (.ref r1), .val (.int (16 : Int32)), .val (.long u1), .second] [(.int (16 : Int32)), (.ref r1)])) (fun t k => XS.iloadN X0.here hx rfl (hb hby own_d7_10) rfl k) ?_
  refine own_by (g' := (mkF m 12 #[.val (.ref r1), .val (.int (16 : Int32)), .val (.long u1), .second] [(.int (1 : Int32)), (.int (16 : Int32)), (.ref r1)])) (fun t k => XS.iconst X0.here hx rfl (hb hby own_d7_11) k) ?_
  refine own_by (g' := (mkF m 13 #[.val (.ref r1), .val (.int (16 : Int32)), .val (.long u1), .second] [(.int (17 : Int32)), (.ref r1)])) (fun t k => XS.iadd X0.here hx rfl (hb hby own_d7_12) rfl k) ?_
  obtain ⟨c102, Ar102, q102, S102, G102, H102, F102⟩ := id V1
  have hin102 : ¬ ((17 : Int32) < 0 ∨ c102.slots.size ≤ ((17 : Int32)).toNatClampNeg) := inb_of S102 ⟨by decide, by decide⟩
  have hat102 : c102.slots[((17 : Int32)).toNatClampNeg]? = some (.int (own_b u1 8)) := H102.at hin102 hv1
  refine own_by (g' := (mkF m 14 #[.val (.ref r1), .val (.int (16 : Int32)), .val (.long u1), .second] [(.int (own_b u1 8))])) (fun t k => X0.baloadBytes hx (j := (17 : Int32)) (v := (.int (own_b u1 8))) (own_at_ e0 Ar102.1) (State.isArrayOf_alike hZ.alike Ar102.2.1) Ar102.2.2 hin102 hat102 (g := (mkF m 13 #[.val (.ref r1), .val (.int (16 : Int32)), .val (.long u1), .second] [(.int (17 : Int32)), (.ref r1)])) rfl rfl (hb hby own_d7_13) t k) ?_
  refine own_by (g' := (mkF m 15 #[.val (.ref r1), .val (.int (16 : Int32)), .val (.long u1), .second] [(.long u1), (.int (own_b u1 8))])) (fun t k => XS.lloadN X0.here hx rfl (hb hby own_d7_14) rfl k) ?_
  refine own_by (g' := (mkF m 17 #[.val (.ref r1), .val (.int (16 : Int32)), .val (.long u1), .second] [(.int (8 : Int32)), (.long u1), (.int (own_b u1 8))])) (fun t k => XS.bipush X0.here hx rfl (hb hby own_d7_15) k) ?_
  refine own_by (g' := (mkF m 18 #[.val (.ref r1), .val (.int (16 : Int32)), .val (.long u1), .second] [(.long ((u1).toUInt64 >>> ((8 : Int32) &&& 0x3f).toInt64.toUInt64).toInt64), (.int (own_b u1 8))])) (fun t k => XS.lushr X0.here hx rfl (hb hby own_d7_17) rfl k) ?_
  refine own_by (g' := (mkF m 19 #[.val (.ref r1), .val (.int (16 : Int32)), .val (.long u1), .second] [(.int (((u1).toUInt64 >>> ((8 : Int32) &&& 0x3f).toInt64.toUInt64).toInt64).toInt32), (.int (own_b u1 8))])) (fun t k => XS.l2i X0.here hx rfl (hb hby own_d7_18) rfl k) ?_
  refine own_by (g' := (mkF m 20 #[.val (.ref r1), .val (.int (16 : Int32)), .val (.long u1), .second] [(.int ((((u1).toUInt64 >>> ((8 : Int32) &&& 0x3f).toInt64.toUInt64).toInt64).toInt32).toInt8.toInt32), (.int (own_b u1 8))])) (fun t k => XS.i2b X0.here hx rfl (hb hby own_d7_19) rfl k) ?_
  refine own_by (g' := (mkF m 23 #[.val (.ref r1), .val (.int (16 : Int32)), .val (.long u1), .second] [])) (fun t k => XS.icmpNo X0.here hx rfl (hb hby own_d7_20) rfl (teq rfl).2 k) ?_
  refine own_by (g' := (mkF m 24 #[.val (.ref r1), .val (.int (16 : Int32)), .val (.long u1), .second] [(.ref r1)])) (fun t k => XS.aloadN X0.here hx rfl (hb hby own_d7_23) rfl rfl k) ?_
  refine own_by (g' := (mkF m 25 #[.val (.ref r1), .val (.int (16 : Int32)), .val (.long u1), .second] [(.int (16 : Int32)), (.ref r1)])) (fun t k => XS.iloadN X0.here hx rfl (hb hby own_d7_24) rfl k) ?_
  refine own_by (g' := (mkF m 26 #[.val (.ref r1), .val (.int (16 : Int32)), .val (.long u1), .second] [(.int (2 : Int32)), (.int (16 : Int32)), (.ref r1)])) (fun t k => XS.iconst X0.here hx rfl (hb hby own_d7_25) k) ?_
  refine own_by (g' := (mkF m 27 #[.val (.ref r1), .val (.int (16 : Int32)), .val (.long u1), .second] [(.int (18 : Int32)), (.ref r1)])) (fun t k => XS.iadd X0.here hx rfl (hb hby own_d7_26) rfl k) ?_
  obtain ⟨c103, Ar103, q103, S103, G103, H103, F103⟩ := id V1
  have hin103 : ¬ ((18 : Int32) < 0 ∨ c103.slots.size ≤ ((18 : Int32)).toNatClampNeg) := inb_of S103 ⟨by decide, by decide⟩
  have hat103 : c103.slots[((18 : Int32)).toNatClampNeg]? = some (.int (own_b u1 16)) := H103.at hin103 hv2
  refine own_by (g' := (mkF m 28 #[.val (.ref r1), .val (.int (16 : Int32)), .val (.long u1), .second] [(.int (own_b u1 16))])) (fun t k => X0.baloadBytes hx (j := (18 : Int32)) (v := (.int (own_b u1 16))) (own_at_ e0 Ar103.1) (State.isArrayOf_alike hZ.alike Ar103.2.1) Ar103.2.2 hin103 hat103 (g := (mkF m 27 #[.val (.ref r1), .val (.int (16 : Int32)), .val (.long u1), .second] [(.int (18 : Int32)), (.ref r1)])) rfl rfl (hb hby own_d7_27) t k) ?_
  refine own_by (g' := (mkF m 29 #[.val (.ref r1), .val (.int (16 : Int32)), .val (.long u1), .second] [(.long u1), (.int (own_b u1 16))])) (fun t k => XS.lloadN X0.here hx rfl (hb hby own_d7_28) rfl k) ?_
  refine own_by (g' := (mkF m 31 #[.val (.ref r1), .val (.int (16 : Int32)), .val (.long u1), .second] [(.int (16 : Int32)), (.long u1), (.int (own_b u1 16))])) (fun t k => XS.bipush X0.here hx rfl (hb hby own_d7_29) k) ?_
  refine own_by (g' := (mkF m 32 #[.val (.ref r1), .val (.int (16 : Int32)), .val (.long u1), .second] [(.long ((u1).toUInt64 >>> ((16 : Int32) &&& 0x3f).toInt64.toUInt64).toInt64), (.int (own_b u1 16))])) (fun t k => XS.lushr X0.here hx rfl (hb hby own_d7_31) rfl k) ?_
  refine own_by (g' := (mkF m 33 #[.val (.ref r1), .val (.int (16 : Int32)), .val (.long u1), .second] [(.int (((u1).toUInt64 >>> ((16 : Int32) &&& 0x3f).toInt64.toUInt64).toInt64).toInt32), (.int (own_b u1 16))])) (fun t k => XS.l2i X0.here hx rfl (hb hby own_d7_32) rfl k) ?_
  refine own_by (g' := (mkF m 34 #[.val (.ref r1), .val (.int (16 : Int32)), .val (.long u1), .second] [(.int ((((u1).toUInt64 >>> ((16 : Int32) &&& 0x3f).toInt64.toUInt64).toInt64).toInt32).toInt8.toInt32), (.int (own_b u1 16))])) (fun t k => XS.i2b X0.here hx rfl (hb hby own_d7_33) rfl k) ?_
  refine own_by (g' := (mkF m 37 #[.val (.ref r1), .val (.int (16 : Int32)), .val (.long u1), .second] [])) (fun t k => XS.icmpNo X0.here hx rfl (hb hby own_d7_34) rfl (teq rfl).2 k) ?_
  refine own_by (g' := (mkF m 38 #[.val (.ref r1), .val (.int (16 : Int32)), .val (.long u1), .second] [(.ref r1)])) (fun t k => XS.aloadN X0.here hx rfl (hb hby own_d7_37) rfl rfl k) ?_
  refine own_by (g' := (mkF m 39 #[.val (.ref r1), .val (.int (16 : Int32)), .val (.long u1), .second] [(.int (16 : Int32)), (.ref r1)])) (fun t k => XS.iloadN X0.here hx rfl (hb hby own_d7_38) rfl k) ?_
  refine own_by (g' := (mkF m 40 #[.val (.ref r1), .val (.int (16 : Int32)), .val (.long u1), .second] [(.int (3 : Int32)), (.int (16 : Int32)), (.ref r1)])) (fun t k => XS.iconst X0.here hx rfl (hb hby own_d7_39) k) ?_
  refine own_by (g' := (mkF m 41 #[.val (.ref r1), .val (.int (16 : Int32)), .val (.long u1), .second] [(.int (19 : Int32)), (.ref r1)])) (fun t k => XS.iadd X0.here hx rfl (hb hby own_d7_40) rfl k) ?_
  obtain ⟨c104, Ar104, q104, S104, G104, H104, F104⟩ := id V1
  have hin104 : ¬ ((19 : Int32) < 0 ∨ c104.slots.size ≤ ((19 : Int32)).toNatClampNeg) := inb_of S104 ⟨by decide, by decide⟩
  have hat104 : c104.slots[((19 : Int32)).toNatClampNeg]? = some (.int (own_b u1 24)) := H104.at hin104 hv3
  refine own_by (g' := (mkF m 42 #[.val (.ref r1), .val (.int (16 : Int32)), .val (.long u1), .second] [(.int (own_b u1 24))])) (fun t k => X0.baloadBytes hx (j := (19 : Int32)) (v := (.int (own_b u1 24))) (own_at_ e0 Ar104.1) (State.isArrayOf_alike hZ.alike Ar104.2.1) Ar104.2.2 hin104 hat104 (g := (mkF m 41 #[.val (.ref r1), .val (.int (16 : Int32)), .val (.long u1), .second] [(.int (19 : Int32)), (.ref r1)])) rfl rfl (hb hby own_d7_41) t k) ?_
  refine own_by (g' := (mkF m 43 #[.val (.ref r1), .val (.int (16 : Int32)), .val (.long u1), .second] [(.long u1), (.int (own_b u1 24))])) (fun t k => XS.lloadN X0.here hx rfl (hb hby own_d7_42) rfl k) ?_
  refine own_by (g' := (mkF m 45 #[.val (.ref r1), .val (.int (16 : Int32)), .val (.long u1), .second] [(.int (24 : Int32)), (.long u1), (.int (own_b u1 24))])) (fun t k => XS.bipush X0.here hx rfl (hb hby own_d7_43) k) ?_
  refine own_by (g' := (mkF m 46 #[.val (.ref r1), .val (.int (16 : Int32)), .val (.long u1), .second] [(.long ((u1).toUInt64 >>> ((24 : Int32) &&& 0x3f).toInt64.toUInt64).toInt64), (.int (own_b u1 24))])) (fun t k => XS.lushr X0.here hx rfl (hb hby own_d7_45) rfl k) ?_
  refine own_by (g' := (mkF m 47 #[.val (.ref r1), .val (.int (16 : Int32)), .val (.long u1), .second] [(.int (((u1).toUInt64 >>> ((24 : Int32) &&& 0x3f).toInt64.toUInt64).toInt64).toInt32), (.int (own_b u1 24))])) (fun t k => XS.l2i X0.here hx rfl (hb hby own_d7_46) rfl k) ?_
  refine own_by (g' := (mkF m 48 #[.val (.ref r1), .val (.int (16 : Int32)), .val (.long u1), .second] [(.int ((((u1).toUInt64 >>> ((24 : Int32) &&& 0x3f).toInt64.toUInt64).toInt64).toInt32).toInt8.toInt32), (.int (own_b u1 24))])) (fun t k => XS.i2b X0.here hx rfl (hb hby own_d7_47) rfl k) ?_
  refine own_by (g' := (mkF m 51 #[.val (.ref r1), .val (.int (16 : Int32)), .val (.long u1), .second] [])) (fun t k => XS.icmpNo X0.here hx rfl (hb hby own_d7_48) rfl (teq rfl).2 k) ?_
  refine own_by (g' := (mkF m 52 #[.val (.ref r1), .val (.int (16 : Int32)), .val (.long u1), .second] [(.ref r1)])) (fun t k => XS.aloadN X0.here hx rfl (hb hby own_d7_51) rfl rfl k) ?_
  refine own_by (g' := (mkF m 53 #[.val (.ref r1), .val (.int (16 : Int32)), .val (.long u1), .second] [(.int (16 : Int32)), (.ref r1)])) (fun t k => XS.iloadN X0.here hx rfl (hb hby own_d7_52) rfl k) ?_
  refine own_by (g' := (mkF m 54 #[.val (.ref r1), .val (.int (16 : Int32)), .val (.long u1), .second] [(.int (4 : Int32)), (.int (16 : Int32)), (.ref r1)])) (fun t k => XS.iconst X0.here hx rfl (hb hby own_d7_53) k) ?_
  refine own_by (g' := (mkF m 55 #[.val (.ref r1), .val (.int (16 : Int32)), .val (.long u1), .second] [(.int (20 : Int32)), (.ref r1)])) (fun t k => XS.iadd X0.here hx rfl (hb hby own_d7_54) rfl k) ?_
  obtain ⟨c105, Ar105, q105, S105, G105, H105, F105⟩ := id V1
  have hin105 : ¬ ((20 : Int32) < 0 ∨ c105.slots.size ≤ ((20 : Int32)).toNatClampNeg) := inb_of S105 ⟨by decide, by decide⟩
  have hat105 : c105.slots[((20 : Int32)).toNatClampNeg]? = some (.int (own_b u1 32)) := H105.at hin105 hv4
  refine own_by (g' := (mkF m 56 #[.val (.ref r1), .val (.int (16 : Int32)), .val (.long u1), .second] [(.int (own_b u1 32))])) (fun t k => X0.baloadBytes hx (j := (20 : Int32)) (v := (.int (own_b u1 32))) (own_at_ e0 Ar105.1) (State.isArrayOf_alike hZ.alike Ar105.2.1) Ar105.2.2 hin105 hat105 (g := (mkF m 55 #[.val (.ref r1), .val (.int (16 : Int32)), .val (.long u1), .second] [(.int (20 : Int32)), (.ref r1)])) rfl rfl (hb hby own_d7_55) t k) ?_
  refine own_by (g' := (mkF m 57 #[.val (.ref r1), .val (.int (16 : Int32)), .val (.long u1), .second] [(.long u1), (.int (own_b u1 32))])) (fun t k => XS.lloadN X0.here hx rfl (hb hby own_d7_56) rfl k) ?_
  refine own_by (g' := (mkF m 59 #[.val (.ref r1), .val (.int (16 : Int32)), .val (.long u1), .second] [(.int (32 : Int32)), (.long u1), (.int (own_b u1 32))])) (fun t k => XS.bipush X0.here hx rfl (hb hby own_d7_57) k) ?_
  refine own_by (g' := (mkF m 60 #[.val (.ref r1), .val (.int (16 : Int32)), .val (.long u1), .second] [(.long ((u1).toUInt64 >>> ((32 : Int32) &&& 0x3f).toInt64.toUInt64).toInt64), (.int (own_b u1 32))])) (fun t k => XS.lushr X0.here hx rfl (hb hby own_d7_59) rfl k) ?_
  refine own_by (g' := (mkF m 61 #[.val (.ref r1), .val (.int (16 : Int32)), .val (.long u1), .second] [(.int (((u1).toUInt64 >>> ((32 : Int32) &&& 0x3f).toInt64.toUInt64).toInt64).toInt32), (.int (own_b u1 32))])) (fun t k => XS.l2i X0.here hx rfl (hb hby own_d7_60) rfl k) ?_
  refine own_by (g' := (mkF m 62 #[.val (.ref r1), .val (.int (16 : Int32)), .val (.long u1), .second] [(.int ((((u1).toUInt64 >>> ((32 : Int32) &&& 0x3f).toInt64.toUInt64).toInt64).toInt32).toInt8.toInt32), (.int (own_b u1 32))])) (fun t k => XS.i2b X0.here hx rfl (hb hby own_d7_61) rfl k) ?_
  refine own_by (g' := (mkF m 65 #[.val (.ref r1), .val (.int (16 : Int32)), .val (.long u1), .second] [])) (fun t k => XS.icmpNo X0.here hx rfl (hb hby own_d7_62) rfl (teq rfl).2 k) ?_
  refine own_by (g' := (mkF m 66 #[.val (.ref r1), .val (.int (16 : Int32)), .val (.long u1), .second] [(.ref r1)])) (fun t k => XS.aloadN X0.here hx rfl (hb hby own_d7_65) rfl rfl k) ?_
  refine own_by (g' := (mkF m 67 #[.val (.ref r1), .val (.int (16 : Int32)), .val (.long u1), .second] [(.int (16 : Int32)), (.ref r1)])) (fun t k => XS.iloadN X0.here hx rfl (hb hby own_d7_66) rfl k) ?_
  refine own_by (g' := (mkF m 68 #[.val (.ref r1), .val (.int (16 : Int32)), .val (.long u1), .second] [(.int (5 : Int32)), (.int (16 : Int32)), (.ref r1)])) (fun t k => XS.iconst X0.here hx rfl (hb hby own_d7_67) k) ?_
  refine own_by (g' := (mkF m 69 #[.val (.ref r1), .val (.int (16 : Int32)), .val (.long u1), .second] [(.int (21 : Int32)), (.ref r1)])) (fun t k => XS.iadd X0.here hx rfl (hb hby own_d7_68) rfl k) ?_
  obtain ⟨c106, Ar106, q106, S106, G106, H106, F106⟩ := id V1
  have hin106 : ¬ ((21 : Int32) < 0 ∨ c106.slots.size ≤ ((21 : Int32)).toNatClampNeg) := inb_of S106 ⟨by decide, by decide⟩
  have hat106 : c106.slots[((21 : Int32)).toNatClampNeg]? = some (.int (own_b u1 40)) := H106.at hin106 hv5
  refine own_by (g' := (mkF m 70 #[.val (.ref r1), .val (.int (16 : Int32)), .val (.long u1), .second] [(.int (own_b u1 40))])) (fun t k => X0.baloadBytes hx (j := (21 : Int32)) (v := (.int (own_b u1 40))) (own_at_ e0 Ar106.1) (State.isArrayOf_alike hZ.alike Ar106.2.1) Ar106.2.2 hin106 hat106 (g := (mkF m 69 #[.val (.ref r1), .val (.int (16 : Int32)), .val (.long u1), .second] [(.int (21 : Int32)), (.ref r1)])) rfl rfl (hb hby own_d7_69) t k) ?_
  refine own_by (g' := (mkF m 71 #[.val (.ref r1), .val (.int (16 : Int32)), .val (.long u1), .second] [(.long u1), (.int (own_b u1 40))])) (fun t k => XS.lloadN X0.here hx rfl (hb hby own_d7_70) rfl k) ?_
  refine own_by (g' := (mkF m 73 #[.val (.ref r1), .val (.int (16 : Int32)), .val (.long u1), .second] [(.int (40 : Int32)), (.long u1), (.int (own_b u1 40))])) (fun t k => XS.bipush X0.here hx rfl (hb hby own_d7_71) k) ?_
  refine own_by (g' := (mkF m 74 #[.val (.ref r1), .val (.int (16 : Int32)), .val (.long u1), .second] [(.long ((u1).toUInt64 >>> ((40 : Int32) &&& 0x3f).toInt64.toUInt64).toInt64), (.int (own_b u1 40))])) (fun t k => XS.lushr X0.here hx rfl (hb hby own_d7_73) rfl k) ?_
  refine own_by (g' := (mkF m 75 #[.val (.ref r1), .val (.int (16 : Int32)), .val (.long u1), .second] [(.int (((u1).toUInt64 >>> ((40 : Int32) &&& 0x3f).toInt64.toUInt64).toInt64).toInt32), (.int (own_b u1 40))])) (fun t k => XS.l2i X0.here hx rfl (hb hby own_d7_74) rfl k) ?_
  refine own_by (g' := (mkF m 76 #[.val (.ref r1), .val (.int (16 : Int32)), .val (.long u1), .second] [(.int ((((u1).toUInt64 >>> ((40 : Int32) &&& 0x3f).toInt64.toUInt64).toInt64).toInt32).toInt8.toInt32), (.int (own_b u1 40))])) (fun t k => XS.i2b X0.here hx rfl (hb hby own_d7_75) rfl k) ?_
  refine own_by (g' := (mkF m 79 #[.val (.ref r1), .val (.int (16 : Int32)), .val (.long u1), .second] [])) (fun t k => XS.icmpNo X0.here hx rfl (hb hby own_d7_76) rfl (teq rfl).2 k) ?_
  refine own_by (g' := (mkF m 80 #[.val (.ref r1), .val (.int (16 : Int32)), .val (.long u1), .second] [(.ref r1)])) (fun t k => XS.aloadN X0.here hx rfl (hb hby own_d7_79) rfl rfl k) ?_
  refine own_by (g' := (mkF m 81 #[.val (.ref r1), .val (.int (16 : Int32)), .val (.long u1), .second] [(.int (16 : Int32)), (.ref r1)])) (fun t k => XS.iloadN X0.here hx rfl (hb hby own_d7_80) rfl k) ?_
  refine own_by (g' := (mkF m 83 #[.val (.ref r1), .val (.int (16 : Int32)), .val (.long u1), .second] [(.int (6 : Int32)), (.int (16 : Int32)), (.ref r1)])) (fun t k => XS.bipush X0.here hx rfl (hb hby own_d7_81) k) ?_
  refine own_by (g' := (mkF m 84 #[.val (.ref r1), .val (.int (16 : Int32)), .val (.long u1), .second] [(.int (22 : Int32)), (.ref r1)])) (fun t k => XS.iadd X0.here hx rfl (hb hby own_d7_83) rfl k) ?_
  obtain ⟨c107, Ar107, q107, S107, G107, H107, F107⟩ := id V1
  have hin107 : ¬ ((22 : Int32) < 0 ∨ c107.slots.size ≤ ((22 : Int32)).toNatClampNeg) := inb_of S107 ⟨by decide, by decide⟩
  have hat107 : c107.slots[((22 : Int32)).toNatClampNeg]? = some (.int (own_b u1 48)) := H107.at hin107 hv6
  refine own_by (g' := (mkF m 85 #[.val (.ref r1), .val (.int (16 : Int32)), .val (.long u1), .second] [(.int (own_b u1 48))])) (fun t k => X0.baloadBytes hx (j := (22 : Int32)) (v := (.int (own_b u1 48))) (own_at_ e0 Ar107.1) (State.isArrayOf_alike hZ.alike Ar107.2.1) Ar107.2.2 hin107 hat107 (g := (mkF m 84 #[.val (.ref r1), .val (.int (16 : Int32)), .val (.long u1), .second] [(.int (22 : Int32)), (.ref r1)])) rfl rfl (hb hby own_d7_84) t k) ?_
  refine own_by (g' := (mkF m 86 #[.val (.ref r1), .val (.int (16 : Int32)), .val (.long u1), .second] [(.long u1), (.int (own_b u1 48))])) (fun t k => XS.lloadN X0.here hx rfl (hb hby own_d7_85) rfl k) ?_
  refine own_by (g' := (mkF m 88 #[.val (.ref r1), .val (.int (16 : Int32)), .val (.long u1), .second] [(.int (48 : Int32)), (.long u1), (.int (own_b u1 48))])) (fun t k => XS.bipush X0.here hx rfl (hb hby own_d7_86) k) ?_
  refine own_by (g' := (mkF m 89 #[.val (.ref r1), .val (.int (16 : Int32)), .val (.long u1), .second] [(.long ((u1).toUInt64 >>> ((48 : Int32) &&& 0x3f).toInt64.toUInt64).toInt64), (.int (own_b u1 48))])) (fun t k => XS.lushr X0.here hx rfl (hb hby own_d7_88) rfl k) ?_
  refine own_by (g' := (mkF m 90 #[.val (.ref r1), .val (.int (16 : Int32)), .val (.long u1), .second] [(.int (((u1).toUInt64 >>> ((48 : Int32) &&& 0x3f).toInt64.toUInt64).toInt64).toInt32), (.int (own_b u1 48))])) (fun t k => XS.l2i X0.here hx rfl (hb hby own_d7_89) rfl k) ?_
  refine own_by (g' := (mkF m 91 #[.val (.ref r1), .val (.int (16 : Int32)), .val (.long u1), .second] [(.int ((((u1).toUInt64 >>> ((48 : Int32) &&& 0x3f).toInt64.toUInt64).toInt64).toInt32).toInt8.toInt32), (.int (own_b u1 48))])) (fun t k => XS.i2b X0.here hx rfl (hb hby own_d7_90) rfl k) ?_
  refine own_by (g' := (mkF m 94 #[.val (.ref r1), .val (.int (16 : Int32)), .val (.long u1), .second] [])) (fun t k => XS.icmpNo X0.here hx rfl (hb hby own_d7_91) rfl (teq rfl).2 k) ?_
  refine own_by (g' := (mkF m 95 #[.val (.ref r1), .val (.int (16 : Int32)), .val (.long u1), .second] [(.ref r1)])) (fun t k => XS.aloadN X0.here hx rfl (hb hby own_d7_94) rfl rfl k) ?_
  refine own_by (g' := (mkF m 96 #[.val (.ref r1), .val (.int (16 : Int32)), .val (.long u1), .second] [(.int (16 : Int32)), (.ref r1)])) (fun t k => XS.iloadN X0.here hx rfl (hb hby own_d7_95) rfl k) ?_
  refine own_by (g' := (mkF m 98 #[.val (.ref r1), .val (.int (16 : Int32)), .val (.long u1), .second] [(.int (7 : Int32)), (.int (16 : Int32)), (.ref r1)])) (fun t k => XS.bipush X0.here hx rfl (hb hby own_d7_96) k) ?_
  refine own_by (g' := (mkF m 99 #[.val (.ref r1), .val (.int (16 : Int32)), .val (.long u1), .second] [(.int (23 : Int32)), (.ref r1)])) (fun t k => XS.iadd X0.here hx rfl (hb hby own_d7_98) rfl k) ?_
  obtain ⟨c108, Ar108, q108, S108, G108, H108, F108⟩ := id V1
  have hin108 : ¬ ((23 : Int32) < 0 ∨ c108.slots.size ≤ ((23 : Int32)).toNatClampNeg) := inb_of S108 ⟨by decide, by decide⟩
  have hat108 : c108.slots[((23 : Int32)).toNatClampNeg]? = some (.int (own_b u1 56)) := H108.at hin108 hv7
  refine own_by (g' := (mkF m 100 #[.val (.ref r1), .val (.int (16 : Int32)), .val (.long u1), .second] [(.int (own_b u1 56))])) (fun t k => X0.baloadBytes hx (j := (23 : Int32)) (v := (.int (own_b u1 56))) (own_at_ e0 Ar108.1) (State.isArrayOf_alike hZ.alike Ar108.2.1) Ar108.2.2 hin108 hat108 (g := (mkF m 99 #[.val (.ref r1), .val (.int (16 : Int32)), .val (.long u1), .second] [(.int (23 : Int32)), (.ref r1)])) rfl rfl (hb hby own_d7_99) t k) ?_
  refine own_by (g' := (mkF m 101 #[.val (.ref r1), .val (.int (16 : Int32)), .val (.long u1), .second] [(.long u1), (.int (own_b u1 56))])) (fun t k => XS.lloadN X0.here hx rfl (hb hby own_d7_100) rfl k) ?_
  refine own_by (g' := (mkF m 103 #[.val (.ref r1), .val (.int (16 : Int32)), .val (.long u1), .second] [(.int (56 : Int32)), (.long u1), (.int (own_b u1 56))])) (fun t k => XS.bipush X0.here hx rfl (hb hby own_d7_101) k) ?_
  refine own_by (g' := (mkF m 104 #[.val (.ref r1), .val (.int (16 : Int32)), .val (.long u1), .second] [(.long ((u1).toUInt64 >>> ((56 : Int32) &&& 0x3f).toInt64.toUInt64).toInt64), (.int (own_b u1 56))])) (fun t k => XS.lushr X0.here hx rfl (hb hby own_d7_103) rfl k) ?_
  refine own_by (g' := (mkF m 105 #[.val (.ref r1), .val (.int (16 : Int32)), .val (.long u1), .second] [(.int (((u1).toUInt64 >>> ((56 : Int32) &&& 0x3f).toInt64.toUInt64).toInt64).toInt32), (.int (own_b u1 56))])) (fun t k => XS.l2i X0.here hx rfl (hb hby own_d7_104) rfl k) ?_
  refine own_by (g' := (mkF m 106 #[.val (.ref r1), .val (.int (16 : Int32)), .val (.long u1), .second] [(.int ((((u1).toUInt64 >>> ((56 : Int32) &&& 0x3f).toInt64.toUInt64).toInt64).toInt32).toInt8.toInt32), (.int (own_b u1 56))])) (fun t k => XS.i2b X0.here hx rfl (hb hby own_d7_105) rfl k) ?_
  refine own_by (g' := (mkF m 109 #[.val (.ref r1), .val (.int (16 : Int32)), .val (.long u1), .second] [])) (fun t k => XS.icmpNo X0.here hx rfl (hb hby own_d7_106) rfl (teq rfl).2 k) ?_
  refine own_by (g' := (mkF m 110 #[.val (.ref r1), .val (.int (16 : Int32)), .val (.long u1), .second] [(.int (1 : Int32))])) (fun t k => XS.iconst X0.here hx rfl (hb hby own_d7_109) k) ?_
  refine own_by (g' := (mkF m 114 #[.val (.ref r1), .val (.int (16 : Int32)), .val (.long u1), .second] [(.int (1 : Int32))])) (fun t k => XS.goto X0.here hx rfl (pc0 := 110) (pc' := 114) rfl (hb hby own_d7_110) (by decide) (by decide) k) ?_
  refine own_retN X0 hx hlk hret (t := .boolean) (by simp) (hb hby own_d7_114) (by decide) (by decide) ?_
  exact ⟨rfl, N0, e0⟩
def Q_own_same24 (Z : State) (r1 : Addr) (u1 : Int64) (kk : ClassId) (xs : List Value) (h0 : Heap) (n0 : Nat) (v : Option Value) (h : Heap) (L : List Loc) : Prop := v = some (.int (1 : Int32)) ∧ Fr n0 L ∧ h = h0
theorem own_ef_own_same24 (m : MethodId) (r1 : Addr) (u1 : Int64) : entryFrame m #[(.ref r1), (.int (24 : Int32)), (.long u1)] 4 = mkF m 0 #[.val (.ref r1), .val (.int (24 : Int32)), .val (.long u1), .second] [] := by first | (simp [entryFrame, mkF, argsToLocals, Value.category]; done) | rfl
set_option maxRecDepth 65536 in
set_option maxHeartbeats 40000000 in
theorem own_same24 (l : Launch) (Z : State) (a0 : Array Value) (hw : ∀ d ∈ tables_1, d.before a0 Z = true) (ws : List Jvm.Cond) (r1 : Addr) (u1 : Int64) (kk : ClassId) (xs : List Value) (h0 : Heap) (n0 : Nat) (Z0 : n0 ≤ h0.size) (V1 : Arv Z h0 r1 kk .byte (32 : Int32) xs (.int (0 : Int32))) (hv0 : xs.getD 24 (.int (0 : Int32)) = .int (own_b0 u1)) (hv1 : xs.getD 25 (.int (0 : Int32)) = .int (own_b u1 8)) (hv2 : xs.getD 26 (.int (0 : Int32)) = .int (own_b u1 16)) (hv3 : xs.getD 27 (.int (0 : Int32)) = .int (own_b u1 24)) (hv4 : xs.getD 28 (.int (0 : Int32)) = .int (own_b u1 32)) (hv5 : xs.getD 29 (.int (0 : Int32)) = .int (own_b u1 40)) (hv6 : xs.getD 30 (.int (0 : Int32)) = .int (own_b u1 48)) (hv7 : xs.getD 31 (.int (0 : Int32)) = .int (own_b u1 56)) :
    own_Ctr l Z (⟨"com/example/idemnity/idemnity/model/Sha256FromDigestPinLaw", "same", "([BIJ)Z"⟩ : MethodName) method_3_code 4 (some .boolean) ws ({ frames := 0, cells := 0, slots := 0, locals := 0 } : Room) (({ frames := 0, cells := 0, slots := 0, locals := 0 } : Room)).cells (({ frames := 0, cells := 0, slots := 0, locals := 0 } : Room)).slots #[(.ref r1), (.int (24 : Int32)), (.long u1)] h0 (Q_own_same24 Z r1 u1 kk xs h0 n0) := by
  refine own_enter (plainFor_of_name own_pn0) ?_
  intro p e s m below meth c s₁ X0 hx hZ hby hml hown hnm hlk hret e0
  have N0 := Fr.nil n0
  refine own_cast (own_ef_own_same24 m r1 u1) ?_
  refine own_by (g' := (mkF m 1 #[.val (.ref r1), .val (.int (24 : Int32)), .val (.long u1), .second] [(.ref r1)])) (fun t k => XS.aloadN X0.here hx rfl (hb hby own_d7_0) rfl rfl k) ?_
  refine own_by (g' := (mkF m 2 #[.val (.ref r1), .val (.int (24 : Int32)), .val (.long u1), .second] [(.int (24 : Int32)), (.ref r1)])) (fun t k => XS.iloadN X0.here hx rfl (hb hby own_d7_1) rfl k) ?_
  obtain ⟨c101, Ar101, q101, S101, G101, H101, F101⟩ := id V1
  have hin101 : ¬ ((24 : Int32) < 0 ∨ c101.slots.size ≤ ((24 : Int32)).toNatClampNeg) := inb_of S101 ⟨by decide, by decide⟩
  have hat101 : c101.slots[((24 : Int32)).toNatClampNeg]? = some (.int (own_b0 u1)) := H101.at hin101 hv0
  refine own_by (g' := (mkF m 3 #[.val (.ref r1), .val (.int (24 : Int32)), .val (.long u1), .second] [(.int (own_b0 u1))])) (fun t k => X0.baloadBytes hx (j := (24 : Int32)) (v := (.int (own_b0 u1))) (own_at_ e0 Ar101.1) (State.isArrayOf_alike hZ.alike Ar101.2.1) Ar101.2.2 hin101 hat101 (g := (mkF m 2 #[.val (.ref r1), .val (.int (24 : Int32)), .val (.long u1), .second] [(.int (24 : Int32)), (.ref r1)])) rfl rfl (hb hby own_d7_2) t k) ?_
  refine own_by (g' := (mkF m 4 #[.val (.ref r1), .val (.int (24 : Int32)), .val (.long u1), .second] [(.long u1), (.int (own_b0 u1))])) (fun t k => XS.lloadN X0.here hx rfl (hb hby own_d7_3) rfl k) ?_
  refine own_by (g' := (mkF m 5 #[.val (.ref r1), .val (.int (24 : Int32)), .val (.long u1), .second] [(.int (u1).toInt32), (.int (own_b0 u1))])) (fun t k => XS.l2i X0.here hx rfl (hb hby own_d7_4) rfl k) ?_
  refine own_by (g' := (mkF m 6 #[.val (.ref r1), .val (.int (24 : Int32)), .val (.long u1), .second] [(.int ((u1).toInt32).toInt8.toInt32), (.int (own_b0 u1))])) (fun t k => XS.i2b X0.here hx rfl (hb hby own_d7_5) rfl k) ?_
  refine own_by (g' := (mkF m 9 #[.val (.ref r1), .val (.int (24 : Int32)), .val (.long u1), .second] [])) (fun t k => XS.icmpNo X0.here hx rfl (hb hby own_d7_6) rfl (teq rfl).2 k) ?_
  refine own_by (g' := (mkF m 10 #[.val (.ref r1), .val (.int (24 : Int32)), .val (.long u1), .second] [(.ref r1)])) (fun t k => XS.aloadN X0.here hx rfl (hb hby own_d7_9) rfl rfl k) ?_
  refine own_by (g' := (mkF m 11 #[.val (.ref r1), .val (.int (24 : Int32)), .val (.long u1), .second] [(.int (24 : Int32)), (.ref r1)])) (fun t k => XS.iloadN X0.here hx rfl (hb hby own_d7_10) rfl k) ?_
  refine own_by (g' := (mkF m 12 #[.val (.ref r1), .val (.int (24 : Int32)), .val (.long u1), .second] [(.int (1 : Int32)), (.int (24 : Int32)), (.ref r1)])) (fun t k => XS.iconst X0.here hx rfl (hb hby own_d7_11) k) ?_
  refine own_by (g' := (mkF m 13 #[.val (.ref r1), .val (.int (24 : Int32)), .val (.long u1), .second] [(.int (25 : Int32)), (.ref r1)])) (fun t k => XS.iadd X0.here hx rfl (hb hby own_d7_12) rfl k) ?_
  obtain ⟨c102, Ar102, q102, S102, G102, H102, F102⟩ := id V1
  have hin102 : ¬ ((25 : Int32) < 0 ∨ c102.slots.size ≤ ((25 : Int32)).toNatClampNeg) := inb_of S102 ⟨by decide, by decide⟩
  have hat102 : c102.slots[((25 : Int32)).toNatClampNeg]? = some (.int (own_b u1 8)) := H102.at hin102 hv1
  refine own_by (g' := (mkF m 14 #[.val (.ref r1), .val (.int (24 : Int32)), .val (.long u1), .second] [(.int (own_b u1 8))])) (fun t k => X0.baloadBytes hx (j := (25 : Int32)) (v := (.int (own_b u1 8))) (own_at_ e0 Ar102.1) (State.isArrayOf_alike hZ.alike Ar102.2.1) Ar102.2.2 hin102 hat102 (g := (mkF m 13 #[.val (.ref r1), .val (.int (24 : Int32)), .val (.long u1), .second] [(.int (25 : Int32)), (.ref r1)])) rfl rfl (hb hby own_d7_13) t k) ?_
  refine own_by (g' := (mkF m 15 #[.val (.ref r1), .val (.int (24 : Int32)), .val (.long u1), .second] [(.long u1), (.int (own_b u1 8))])) (fun t k => XS.lloadN X0.here hx rfl (hb hby own_d7_14) rfl k) ?_
  refine own_by (g' := (mkF m 17 #[.val (.ref r1), .val (.int (24 : Int32)), .val (.long u1), .second] [(.int (8 : Int32)), (.long u1), (.int (own_b u1 8))])) (fun t k => XS.bipush X0.here hx rfl (hb hby own_d7_15) k) ?_
  refine own_by (g' := (mkF m 18 #[.val (.ref r1), .val (.int (24 : Int32)), .val (.long u1), .second] [(.long ((u1).toUInt64 >>> ((8 : Int32) &&& 0x3f).toInt64.toUInt64).toInt64), (.int (own_b u1 8))])) (fun t k => XS.lushr X0.here hx rfl (hb hby own_d7_17) rfl k) ?_
  refine own_by (g' := (mkF m 19 #[.val (.ref r1), .val (.int (24 : Int32)), .val (.long u1), .second] [(.int (((u1).toUInt64 >>> ((8 : Int32) &&& 0x3f).toInt64.toUInt64).toInt64).toInt32), (.int (own_b u1 8))])) (fun t k => XS.l2i X0.here hx rfl (hb hby own_d7_18) rfl k) ?_
  refine own_by (g' := (mkF m 20 #[.val (.ref r1), .val (.int (24 : Int32)), .val (.long u1), .second] [(.int ((((u1).toUInt64 >>> ((8 : Int32) &&& 0x3f).toInt64.toUInt64).toInt64).toInt32).toInt8.toInt32), (.int (own_b u1 8))])) (fun t k => XS.i2b X0.here hx rfl (hb hby own_d7_19) rfl k) ?_
  refine own_by (g' := (mkF m 23 #[.val (.ref r1), .val (.int (24 : Int32)), .val (.long u1), .second] [])) (fun t k => XS.icmpNo X0.here hx rfl (hb hby own_d7_20) rfl (teq rfl).2 k) ?_
  refine own_by (g' := (mkF m 24 #[.val (.ref r1), .val (.int (24 : Int32)), .val (.long u1), .second] [(.ref r1)])) (fun t k => XS.aloadN X0.here hx rfl (hb hby own_d7_23) rfl rfl k) ?_
  refine own_by (g' := (mkF m 25 #[.val (.ref r1), .val (.int (24 : Int32)), .val (.long u1), .second] [(.int (24 : Int32)), (.ref r1)])) (fun t k => XS.iloadN X0.here hx rfl (hb hby own_d7_24) rfl k) ?_
  refine own_by (g' := (mkF m 26 #[.val (.ref r1), .val (.int (24 : Int32)), .val (.long u1), .second] [(.int (2 : Int32)), (.int (24 : Int32)), (.ref r1)])) (fun t k => XS.iconst X0.here hx rfl (hb hby own_d7_25) k) ?_
  refine own_by (g' := (mkF m 27 #[.val (.ref r1), .val (.int (24 : Int32)), .val (.long u1), .second] [(.int (26 : Int32)), (.ref r1)])) (fun t k => XS.iadd X0.here hx rfl (hb hby own_d7_26) rfl k) ?_
  obtain ⟨c103, Ar103, q103, S103, G103, H103, F103⟩ := id V1
  have hin103 : ¬ ((26 : Int32) < 0 ∨ c103.slots.size ≤ ((26 : Int32)).toNatClampNeg) := inb_of S103 ⟨by decide, by decide⟩
  have hat103 : c103.slots[((26 : Int32)).toNatClampNeg]? = some (.int (own_b u1 16)) := H103.at hin103 hv2
  refine own_by (g' := (mkF m 28 #[.val (.ref r1), .val (.int (24 : Int32)), .val (.long u1), .second] [(.int (own_b u1 16))])) (fun t k => X0.baloadBytes hx (j := (26 : Int32)) (v := (.int (own_b u1 16))) (own_at_ e0 Ar103.1) (State.isArrayOf_alike hZ.alike Ar103.2.1) Ar103.2.2 hin103 hat103 (g := (mkF m 27 #[.val (.ref r1), .val (.int (24 : Int32)), .val (.long u1), .second] [(.int (26 : Int32)), (.ref r1)])) rfl rfl (hb hby own_d7_27) t k) ?_
  refine own_by (g' := (mkF m 29 #[.val (.ref r1), .val (.int (24 : Int32)), .val (.long u1), .second] [(.long u1), (.int (own_b u1 16))])) (fun t k => XS.lloadN X0.here hx rfl (hb hby own_d7_28) rfl k) ?_
  refine own_by (g' := (mkF m 31 #[.val (.ref r1), .val (.int (24 : Int32)), .val (.long u1), .second] [(.int (16 : Int32)), (.long u1), (.int (own_b u1 16))])) (fun t k => XS.bipush X0.here hx rfl (hb hby own_d7_29) k) ?_
  refine own_by (g' := (mkF m 32 #[.val (.ref r1), .val (.int (24 : Int32)), .val (.long u1), .second] [(.long ((u1).toUInt64 >>> ((16 : Int32) &&& 0x3f).toInt64.toUInt64).toInt64), (.int (own_b u1 16))])) (fun t k => XS.lushr X0.here hx rfl (hb hby own_d7_31) rfl k) ?_
  refine own_by (g' := (mkF m 33 #[.val (.ref r1), .val (.int (24 : Int32)), .val (.long u1), .second] [(.int (((u1).toUInt64 >>> ((16 : Int32) &&& 0x3f).toInt64.toUInt64).toInt64).toInt32), (.int (own_b u1 16))])) (fun t k => XS.l2i X0.here hx rfl (hb hby own_d7_32) rfl k) ?_
  refine own_by (g' := (mkF m 34 #[.val (.ref r1), .val (.int (24 : Int32)), .val (.long u1), .second] [(.int ((((u1).toUInt64 >>> ((16 : Int32) &&& 0x3f).toInt64.toUInt64).toInt64).toInt32).toInt8.toInt32), (.int (own_b u1 16))])) (fun t k => XS.i2b X0.here hx rfl (hb hby own_d7_33) rfl k) ?_
  refine own_by (g' := (mkF m 37 #[.val (.ref r1), .val (.int (24 : Int32)), .val (.long u1), .second] [])) (fun t k => XS.icmpNo X0.here hx rfl (hb hby own_d7_34) rfl (teq rfl).2 k) ?_
  refine own_by (g' := (mkF m 38 #[.val (.ref r1), .val (.int (24 : Int32)), .val (.long u1), .second] [(.ref r1)])) (fun t k => XS.aloadN X0.here hx rfl (hb hby own_d7_37) rfl rfl k) ?_
  refine own_by (g' := (mkF m 39 #[.val (.ref r1), .val (.int (24 : Int32)), .val (.long u1), .second] [(.int (24 : Int32)), (.ref r1)])) (fun t k => XS.iloadN X0.here hx rfl (hb hby own_d7_38) rfl k) ?_
  refine own_by (g' := (mkF m 40 #[.val (.ref r1), .val (.int (24 : Int32)), .val (.long u1), .second] [(.int (3 : Int32)), (.int (24 : Int32)), (.ref r1)])) (fun t k => XS.iconst X0.here hx rfl (hb hby own_d7_39) k) ?_
  refine own_by (g' := (mkF m 41 #[.val (.ref r1), .val (.int (24 : Int32)), .val (.long u1), .second] [(.int (27 : Int32)), (.ref r1)])) (fun t k => XS.iadd X0.here hx rfl (hb hby own_d7_40) rfl k) ?_
  obtain ⟨c104, Ar104, q104, S104, G104, H104, F104⟩ := id V1
  have hin104 : ¬ ((27 : Int32) < 0 ∨ c104.slots.size ≤ ((27 : Int32)).toNatClampNeg) := inb_of S104 ⟨by decide, by decide⟩
  have hat104 : c104.slots[((27 : Int32)).toNatClampNeg]? = some (.int (own_b u1 24)) := H104.at hin104 hv3
  refine own_by (g' := (mkF m 42 #[.val (.ref r1), .val (.int (24 : Int32)), .val (.long u1), .second] [(.int (own_b u1 24))])) (fun t k => X0.baloadBytes hx (j := (27 : Int32)) (v := (.int (own_b u1 24))) (own_at_ e0 Ar104.1) (State.isArrayOf_alike hZ.alike Ar104.2.1) Ar104.2.2 hin104 hat104 (g := (mkF m 41 #[.val (.ref r1), .val (.int (24 : Int32)), .val (.long u1), .second] [(.int (27 : Int32)), (.ref r1)])) rfl rfl (hb hby own_d7_41) t k) ?_
  refine own_by (g' := (mkF m 43 #[.val (.ref r1), .val (.int (24 : Int32)), .val (.long u1), .second] [(.long u1), (.int (own_b u1 24))])) (fun t k => XS.lloadN X0.here hx rfl (hb hby own_d7_42) rfl k) ?_
  refine own_by (g' := (mkF m 45 #[.val (.ref r1), .val (.int (24 : Int32)), .val (.long u1), .second] [(.int (24 : Int32)), (.long u1), (.int (own_b u1 24))])) (fun t k => XS.bipush X0.here hx rfl (hb hby own_d7_43) k) ?_
  refine own_by (g' := (mkF m 46 #[.val (.ref r1), .val (.int (24 : Int32)), .val (.long u1), .second] [(.long ((u1).toUInt64 >>> ((24 : Int32) &&& 0x3f).toInt64.toUInt64).toInt64), (.int (own_b u1 24))])) (fun t k => XS.lushr X0.here hx rfl (hb hby own_d7_45) rfl k) ?_
  refine own_by (g' := (mkF m 47 #[.val (.ref r1), .val (.int (24 : Int32)), .val (.long u1), .second] [(.int (((u1).toUInt64 >>> ((24 : Int32) &&& 0x3f).toInt64.toUInt64).toInt64).toInt32), (.int (own_b u1 24))])) (fun t k => XS.l2i X0.here hx rfl (hb hby own_d7_46) rfl k) ?_
  refine own_by (g' := (mkF m 48 #[.val (.ref r1), .val (.int (24 : Int32)), .val (.long u1), .second] [(.int ((((u1).toUInt64 >>> ((24 : Int32) &&& 0x3f).toInt64.toUInt64).toInt64).toInt32).toInt8.toInt32), (.int (own_b u1 24))])) (fun t k => XS.i2b X0.here hx rfl (hb hby own_d7_47) rfl k) ?_
  refine own_by (g' := (mkF m 51 #[.val (.ref r1), .val (.int (24 : Int32)), .val (.long u1), .second] [])) (fun t k => XS.icmpNo X0.here hx rfl (hb hby own_d7_48) rfl (teq rfl).2 k) ?_
  refine own_by (g' := (mkF m 52 #[.val (.ref r1), .val (.int (24 : Int32)), .val (.long u1), .second] [(.ref r1)])) (fun t k => XS.aloadN X0.here hx rfl (hb hby own_d7_51) rfl rfl k) ?_
  refine own_by (g' := (mkF m 53 #[.val (.ref r1), .val (.int (24 : Int32)), .val (.long u1), .second] [(.int (24 : Int32)), (.ref r1)])) (fun t k => XS.iloadN X0.here hx rfl (hb hby own_d7_52) rfl k) ?_
  refine own_by (g' := (mkF m 54 #[.val (.ref r1), .val (.int (24 : Int32)), .val (.long u1), .second] [(.int (4 : Int32)), (.int (24 : Int32)), (.ref r1)])) (fun t k => XS.iconst X0.here hx rfl (hb hby own_d7_53) k) ?_
  refine own_by (g' := (mkF m 55 #[.val (.ref r1), .val (.int (24 : Int32)), .val (.long u1), .second] [(.int (28 : Int32)), (.ref r1)])) (fun t k => XS.iadd X0.here hx rfl (hb hby own_d7_54) rfl k) ?_
  obtain ⟨c105, Ar105, q105, S105, G105, H105, F105⟩ := id V1
  have hin105 : ¬ ((28 : Int32) < 0 ∨ c105.slots.size ≤ ((28 : Int32)).toNatClampNeg) := inb_of S105 ⟨by decide, by decide⟩
  have hat105 : c105.slots[((28 : Int32)).toNatClampNeg]? = some (.int (own_b u1 32)) := H105.at hin105 hv4
  refine own_by (g' := (mkF m 56 #[.val (.ref r1), .val (.int (24 : Int32)), .val (.long u1), .second] [(.int (own_b u1 32))])) (fun t k => X0.baloadBytes hx (j := (28 : Int32)) (v := (.int (own_b u1 32))) (own_at_ e0 Ar105.1) (State.isArrayOf_alike hZ.alike Ar105.2.1) Ar105.2.2 hin105 hat105 (g := (mkF m 55 #[.val (.ref r1), .val (.int (24 : Int32)), .val (.long u1), .second] [(.int (28 : Int32)), (.ref r1)])) rfl rfl (hb hby own_d7_55) t k) ?_
  refine own_by (g' := (mkF m 57 #[.val (.ref r1), .val (.int (24 : Int32)), .val (.long u1), .second] [(.long u1), (.int (own_b u1 32))])) (fun t k => XS.lloadN X0.here hx rfl (hb hby own_d7_56) rfl k) ?_
  refine own_by (g' := (mkF m 59 #[.val (.ref r1), .val (.int (24 : Int32)), .val (.long u1), .second] [(.int (32 : Int32)), (.long u1), (.int (own_b u1 32))])) (fun t k => XS.bipush X0.here hx rfl (hb hby own_d7_57) k) ?_
  refine own_by (g' := (mkF m 60 #[.val (.ref r1), .val (.int (24 : Int32)), .val (.long u1), .second] [(.long ((u1).toUInt64 >>> ((32 : Int32) &&& 0x3f).toInt64.toUInt64).toInt64), (.int (own_b u1 32))])) (fun t k => XS.lushr X0.here hx rfl (hb hby own_d7_59) rfl k) ?_
  refine own_by (g' := (mkF m 61 #[.val (.ref r1), .val (.int (24 : Int32)), .val (.long u1), .second] [(.int (((u1).toUInt64 >>> ((32 : Int32) &&& 0x3f).toInt64.toUInt64).toInt64).toInt32), (.int (own_b u1 32))])) (fun t k => XS.l2i X0.here hx rfl (hb hby own_d7_60) rfl k) ?_
  refine own_by (g' := (mkF m 62 #[.val (.ref r1), .val (.int (24 : Int32)), .val (.long u1), .second] [(.int ((((u1).toUInt64 >>> ((32 : Int32) &&& 0x3f).toInt64.toUInt64).toInt64).toInt32).toInt8.toInt32), (.int (own_b u1 32))])) (fun t k => XS.i2b X0.here hx rfl (hb hby own_d7_61) rfl k) ?_
  refine own_by (g' := (mkF m 65 #[.val (.ref r1), .val (.int (24 : Int32)), .val (.long u1), .second] [])) (fun t k => XS.icmpNo X0.here hx rfl (hb hby own_d7_62) rfl (teq rfl).2 k) ?_
  refine own_by (g' := (mkF m 66 #[.val (.ref r1), .val (.int (24 : Int32)), .val (.long u1), .second] [(.ref r1)])) (fun t k => XS.aloadN X0.here hx rfl (hb hby own_d7_65) rfl rfl k) ?_
  refine own_by (g' := (mkF m 67 #[.val (.ref r1), .val (.int (24 : Int32)), .val (.long u1), .second] [(.int (24 : Int32)), (.ref r1)])) (fun t k => XS.iloadN X0.here hx rfl (hb hby own_d7_66) rfl k) ?_
  refine own_by (g' := (mkF m 68 #[.val (.ref r1), .val (.int (24 : Int32)), .val (.long u1), .second] [(.int (5 : Int32)), (.int (24 : Int32)), (.ref r1)])) (fun t k => XS.iconst X0.here hx rfl (hb hby own_d7_67) k) ?_
  refine own_by (g' := (mkF m 69 #[.val (.ref r1), .val (.int (24 : Int32)), .val (.long u1), .second] [(.int (29 : Int32)), (.ref r1)])) (fun t k => XS.iadd X0.here hx rfl (hb hby own_d7_68) rfl k) ?_
  obtain ⟨c106, Ar106, q106, S106, G106, H106, F106⟩ := id V1
  have hin106 : ¬ ((29 : Int32) < 0 ∨ c106.slots.size ≤ ((29 : Int32)).toNatClampNeg) := inb_of S106 ⟨by decide, by decide⟩
  have hat106 : c106.slots[((29 : Int32)).toNatClampNeg]? = some (.int (own_b u1 40)) := H106.at hin106 hv5
  refine own_by (g' := (mkF m 70 #[.val (.ref r1), .val (.int (24 : Int32)), .val (.long u1), .second] [(.int (own_b u1 40))])) (fun t k => X0.baloadBytes hx (j := (29 : Int32)) (v := (.int (own_b u1 40))) (own_at_ e0 Ar106.1) (State.isArrayOf_alike hZ.alike Ar106.2.1) Ar106.2.2 hin106 hat106 (g := (mkF m 69 #[.val (.ref r1), .val (.int (24 : Int32)), .val (.long u1), .second] [(.int (29 : Int32)), (.ref r1)])) rfl rfl (hb hby own_d7_69) t k) ?_
  refine own_by (g' := (mkF m 71 #[.val (.ref r1), .val (.int (24 : Int32)), .val (.long u1), .second] [(.long u1), (.int (own_b u1 40))])) (fun t k => XS.lloadN X0.here hx rfl (hb hby own_d7_70) rfl k) ?_
  refine own_by (g' := (mkF m 73 #[.val (.ref r1), .val (.int (24 : Int32)), .val (.long u1), .second] [(.int (40 : Int32)), (.long u1), (.int (own_b u1 40))])) (fun t k => XS.bipush X0.here hx rfl (hb hby own_d7_71) k) ?_
  refine own_by (g' := (mkF m 74 #[.val (.ref r1), .val (.int (24 : Int32)), .val (.long u1), .second] [(.long ((u1).toUInt64 >>> ((40 : Int32) &&& 0x3f).toInt64.toUInt64).toInt64), (.int (own_b u1 40))])) (fun t k => XS.lushr X0.here hx rfl (hb hby own_d7_73) rfl k) ?_
  refine own_by (g' := (mkF m 75 #[.val (.ref r1), .val (.int (24 : Int32)), .val (.long u1), .second] [(.int (((u1).toUInt64 >>> ((40 : Int32) &&& 0x3f).toInt64.toUInt64).toInt64).toInt32), (.int (own_b u1 40))])) (fun t k => XS.l2i X0.here hx rfl (hb hby own_d7_74) rfl k) ?_
  refine own_by (g' := (mkF m 76 #[.val (.ref r1), .val (.int (24 : Int32)), .val (.long u1), .second] [(.int ((((u1).toUInt64 >>> ((40 : Int32) &&& 0x3f).toInt64.toUInt64).toInt64).toInt32).toInt8.toInt32), (.int (own_b u1 40))])) (fun t k => XS.i2b X0.here hx rfl (hb hby own_d7_75) rfl k) ?_
  refine own_by (g' := (mkF m 79 #[.val (.ref r1), .val (.int (24 : Int32)), .val (.long u1), .second] [])) (fun t k => XS.icmpNo X0.here hx rfl (hb hby own_d7_76) rfl (teq rfl).2 k) ?_
  refine own_by (g' := (mkF m 80 #[.val (.ref r1), .val (.int (24 : Int32)), .val (.long u1), .second] [(.ref r1)])) (fun t k => XS.aloadN X0.here hx rfl (hb hby own_d7_79) rfl rfl k) ?_
  refine own_by (g' := (mkF m 81 #[.val (.ref r1), .val (.int (24 : Int32)), .val (.long u1), .second] [(.int (24 : Int32)), (.ref r1)])) (fun t k => XS.iloadN X0.here hx rfl (hb hby own_d7_80) rfl k) ?_
  refine own_by (g' := (mkF m 83 #[.val (.ref r1), .val (.int (24 : Int32)), .val (.long u1), .second] [(.int (6 : Int32)), (.int (24 : Int32)), (.ref r1)])) (fun t k => XS.bipush X0.here hx rfl (hb hby own_d7_81) k) ?_
  refine own_by (g' := (mkF m 84 #[.val (.ref r1), .val (.int (24 : Int32)), .val (.long u1), .second] [(.int (30 : Int32)), (.ref r1)])) (fun t k => XS.iadd X0.here hx rfl (hb hby own_d7_83) rfl k) ?_
  obtain ⟨c107, Ar107, q107, S107, G107, H107, F107⟩ := id V1
  have hin107 : ¬ ((30 : Int32) < 0 ∨ c107.slots.size ≤ ((30 : Int32)).toNatClampNeg) := inb_of S107 ⟨by decide, by decide⟩
  have hat107 : c107.slots[((30 : Int32)).toNatClampNeg]? = some (.int (own_b u1 48)) := H107.at hin107 hv6
  refine own_by (g' := (mkF m 85 #[.val (.ref r1), .val (.int (24 : Int32)), .val (.long u1), .second] [(.int (own_b u1 48))])) (fun t k => X0.baloadBytes hx (j := (30 : Int32)) (v := (.int (own_b u1 48))) (own_at_ e0 Ar107.1) (State.isArrayOf_alike hZ.alike Ar107.2.1) Ar107.2.2 hin107 hat107 (g := (mkF m 84 #[.val (.ref r1), .val (.int (24 : Int32)), .val (.long u1), .second] [(.int (30 : Int32)), (.ref r1)])) rfl rfl (hb hby own_d7_84) t k) ?_
  refine own_by (g' := (mkF m 86 #[.val (.ref r1), .val (.int (24 : Int32)), .val (.long u1), .second] [(.long u1), (.int (own_b u1 48))])) (fun t k => XS.lloadN X0.here hx rfl (hb hby own_d7_85) rfl k) ?_
  refine own_by (g' := (mkF m 88 #[.val (.ref r1), .val (.int (24 : Int32)), .val (.long u1), .second] [(.int (48 : Int32)), (.long u1), (.int (own_b u1 48))])) (fun t k => XS.bipush X0.here hx rfl (hb hby own_d7_86) k) ?_
  refine own_by (g' := (mkF m 89 #[.val (.ref r1), .val (.int (24 : Int32)), .val (.long u1), .second] [(.long ((u1).toUInt64 >>> ((48 : Int32) &&& 0x3f).toInt64.toUInt64).toInt64), (.int (own_b u1 48))])) (fun t k => XS.lushr X0.here hx rfl (hb hby own_d7_88) rfl k) ?_
  refine own_by (g' := (mkF m 90 #[.val (.ref r1), .val (.int (24 : Int32)), .val (.long u1), .second] [(.int (((u1).toUInt64 >>> ((48 : Int32) &&& 0x3f).toInt64.toUInt64).toInt64).toInt32), (.int (own_b u1 48))])) (fun t k => XS.l2i X0.here hx rfl (hb hby own_d7_89) rfl k) ?_
  refine own_by (g' := (mkF m 91 #[.val (.ref r1), .val (.int (24 : Int32)), .val (.long u1), .second] [(.int ((((u1).toUInt64 >>> ((48 : Int32) &&& 0x3f).toInt64.toUInt64).toInt64).toInt32).toInt8.toInt32), (.int (own_b u1 48))])) (fun t k => XS.i2b X0.here hx rfl (hb hby own_d7_90) rfl k) ?_
  refine own_by (g' := (mkF m 94 #[.val (.ref r1), .val (.int (24 : Int32)), .val (.long u1), .second] [])) (fun t k => XS.icmpNo X0.here hx rfl (hb hby own_d7_91) rfl (teq rfl).2 k) ?_
  refine own_by (g' := (mkF m 95 #[.val (.ref r1), .val (.int (24 : Int32)), .val (.long u1), .second] [(.ref r1)])) (fun t k => XS.aloadN X0.here hx rfl (hb hby own_d7_94) rfl rfl k) ?_
  refine own_by (g' := (mkF m 96 #[.val (.ref r1), .val (.int (24 : Int32)), .val (.long u1), .second] [(.int (24 : Int32)), (.ref r1)])) (fun t k => XS.iloadN X0.here hx rfl (hb hby own_d7_95) rfl k) ?_
  refine own_by (g' := (mkF m 98 #[.val (.ref r1), .val (.int (24 : Int32)), .val (.long u1), .second] [(.int (7 : Int32)), (.int (24 : Int32)), (.ref r1)])) (fun t k => XS.bipush X0.here hx rfl (hb hby own_d7_96) k) ?_
  refine own_by (g' := (mkF m 99 #[.val (.ref r1), .val (.int (24 : Int32)), .val (.long u1), .second] [(.int (31 : Int32)), (.ref r1)])) (fun t k => XS.iadd X0.here hx rfl (hb hby own_d7_98) rfl k) ?_
  obtain ⟨c108, Ar108, q108, S108, G108, H108, F108⟩ := id V1
  have hin108 : ¬ ((31 : Int32) < 0 ∨ c108.slots.size ≤ ((31 : Int32)).toNatClampNeg) := inb_of S108 ⟨by decide, by decide⟩
  have hat108 : c108.slots[((31 : Int32)).toNatClampNeg]? = some (.int (own_b u1 56)) := H108.at hin108 hv7
  refine own_by (g' := (mkF m 100 #[.val (.ref r1), .val (.int (24 : Int32)), .val (.long u1), .second] [(.int (own_b u1 56))])) (fun t k => X0.baloadBytes hx (j := (31 : Int32)) (v := (.int (own_b u1 56))) (own_at_ e0 Ar108.1) (State.isArrayOf_alike hZ.alike Ar108.2.1) Ar108.2.2 hin108 hat108 (g := (mkF m 99 #[.val (.ref r1), .val (.int (24 : Int32)), .val (.long u1), .second] [(.int (31 : Int32)), (.ref r1)])) rfl rfl (hb hby own_d7_99) t k) ?_
  refine own_by (g' := (mkF m 101 #[.val (.ref r1), .val (.int (24 : Int32)), .val (.long u1), .second] [(.long u1), (.int (own_b u1 56))])) (fun t k => XS.lloadN X0.here hx rfl (hb hby own_d7_100) rfl k) ?_
  refine own_by (g' := (mkF m 103 #[.val (.ref r1), .val (.int (24 : Int32)), .val (.long u1), .second] [(.int (56 : Int32)), (.long u1), (.int (own_b u1 56))])) (fun t k => XS.bipush X0.here hx rfl (hb hby own_d7_101) k) ?_
  refine own_by (g' := (mkF m 104 #[.val (.ref r1), .val (.int (24 : Int32)), .val (.long u1), .second] [(.long ((u1).toUInt64 >>> ((56 : Int32) &&& 0x3f).toInt64.toUInt64).toInt64), (.int (own_b u1 56))])) (fun t k => XS.lushr X0.here hx rfl (hb hby own_d7_103) rfl k) ?_
  refine own_by (g' := (mkF m 105 #[.val (.ref r1), .val (.int (24 : Int32)), .val (.long u1), .second] [(.int (((u1).toUInt64 >>> ((56 : Int32) &&& 0x3f).toInt64.toUInt64).toInt64).toInt32), (.int (own_b u1 56))])) (fun t k => XS.l2i X0.here hx rfl (hb hby own_d7_104) rfl k) ?_
  refine own_by (g' := (mkF m 106 #[.val (.ref r1), .val (.int (24 : Int32)), .val (.long u1), .second] [(.int ((((u1).toUInt64 >>> ((56 : Int32) &&& 0x3f).toInt64.toUInt64).toInt64).toInt32).toInt8.toInt32), (.int (own_b u1 56))])) (fun t k => XS.i2b X0.here hx rfl (hb hby own_d7_105) rfl k) ?_
  refine own_by (g' := (mkF m 109 #[.val (.ref r1), .val (.int (24 : Int32)), .val (.long u1), .second] [])) (fun t k => XS.icmpNo X0.here hx rfl (hb hby own_d7_106) rfl (teq rfl).2 k) ?_
  refine own_by (g' := (mkF m 110 #[.val (.ref r1), .val (.int (24 : Int32)), .val (.long u1), .second] [(.int (1 : Int32))])) (fun t k => XS.iconst X0.here hx rfl (hb hby own_d7_109) k) ?_
  refine own_by (g' := (mkF m 114 #[.val (.ref r1), .val (.int (24 : Int32)), .val (.long u1), .second] [(.int (1 : Int32))])) (fun t k => XS.goto X0.here hx rfl (pc0 := 110) (pc' := 114) rfl (hb hby own_d7_110) (by decide) (by decide) k) ?_
  refine own_retN X0 hx hlk hret (t := .boolean) (by simp) (hb hby own_d7_114) (by decide) (by decide) ?_
  exact ⟨rfl, N0, e0⟩
theorem own_d6_0 : decode method_4_code 0 = .ok (.aload_n 0, 1) := by decide +kernel
theorem own_d6_1 : decode method_4_code 1 = .ok (.arraylength, 1) := by decide +kernel
theorem own_d6_2 : decode method_4_code 2 = .ok (.bipush 32, 2) := by decide +kernel
theorem own_d6_4 : decode method_4_code 4 = .ok (.if_icmp .ne 48, 3) := by decide +kernel
theorem own_d6_7 : decode method_4_code 7 = .ok (.aload_n 0, 1) := by decide +kernel
theorem own_d6_8 : decode method_4_code 8 = .ok (.iconst 0, 1) := by decide +kernel
theorem own_d6_9 : decode method_4_code 9 = .ok (.lload_n 1, 1) := by decide +kernel
theorem own_d6_10 : decode method_4_code 10 = .ok (.invokestatic 7, 3) := by decide +kernel
theorem own_pd0 : parseMethodDescriptor "([BIJ)Z" = some ⟨[(.array .byte), .int, .long], some .boolean⟩ := by decide +kernel
theorem own_d6_13 : decode method_4_code 13 = .ok (.ifCond .eq 39, 3) := by decide +kernel
theorem own_d6_16 : decode method_4_code 16 = .ok (.aload_n 0, 1) := by decide +kernel
theorem own_d6_17 : decode method_4_code 17 = .ok (.bipush 8, 2) := by decide +kernel
theorem own_d6_19 : decode method_4_code 19 = .ok (.lload_n 3, 1) := by decide +kernel
theorem own_d6_20 : decode method_4_code 20 = .ok (.invokestatic 7, 3) := by decide +kernel
theorem own_d6_23 : decode method_4_code 23 = .ok (.ifCond .eq 29, 3) := by decide +kernel
theorem own_d6_26 : decode method_4_code 26 = .ok (.aload_n 0, 1) := by decide +kernel
theorem own_d6_27 : decode method_4_code 27 = .ok (.bipush 16, 2) := by decide +kernel
theorem own_d6_29 : decode method_4_code 29 = .ok (.lload 5, 2) := by decide +kernel
theorem own_d6_31 : decode method_4_code 31 = .ok (.invokestatic 7, 3) := by decide +kernel
theorem own_d6_34 : decode method_4_code 34 = .ok (.ifCond .eq 18, 3) := by decide +kernel
theorem own_d6_37 : decode method_4_code 37 = .ok (.aload_n 0, 1) := by decide +kernel
theorem own_d6_38 : decode method_4_code 38 = .ok (.bipush 24, 2) := by decide +kernel
theorem own_d6_40 : decode method_4_code 40 = .ok (.lload 7, 2) := by decide +kernel
theorem own_d6_42 : decode method_4_code 42 = .ok (.invokestatic 7, 3) := by decide +kernel
theorem own_d6_45 : decode method_4_code 45 = .ok (.ifCond .eq 7, 3) := by decide +kernel
theorem own_d6_48 : decode method_4_code 48 = .ok (.iconst 1, 1) := by decide +kernel
theorem own_d6_49 : decode method_4_code 49 = .ok (.goto 4, 3) := by decide +kernel
theorem own_d6_53 : decode method_4_code 53 = .ok (.ireturn, 1) := by decide +kernel
def Q_own_all (Z : State) (r1 : Addr) (u0 : Int64) (u1 : Int64) (u2 : Int64) (u3 : Int64) (kk : ClassId) (h0 : Heap) (n0 : Nat) (v : Option Value) (h : Heap) (L : List Loc) : Prop := v = some (.int (1 : Int32)) ∧ Fr n0 L ∧ h = h0
theorem own_ef_own_all (m : MethodId) (r1 : Addr) (u0 : Int64) (u1 : Int64) (u2 : Int64) (u3 : Int64) : entryFrame m #[(.ref r1), (.long u0), (.long u1), (.long u2), (.long u3)] 9 = mkF m 0 #[.val (.ref r1), .val (.long u0), .second, .val (.long u1), .second, .val (.long u2), .second, .val (.long u3), .second] [] := by first | (simp [entryFrame, mkF, argsToLocals, Value.category]; done) | rfl
set_option maxRecDepth 65536 in
set_option maxHeartbeats 40000000 in
theorem own_all (l : Launch) (Z : State) (a0 : Array Value) (hw : ∀ d ∈ tables_1, d.before a0 Z = true) (ws : List Jvm.Cond) (r1 : Addr) (u0 : Int64) (u1 : Int64) (u2 : Int64) (u3 : Int64) (kk : ClassId) (h0 : Heap) (n0 : Nat) (Z0 : n0 ≤ h0.size) (V1 : Arv Z h0 r1 kk .byte (32 : Int32) (own_full u0 u1 u2 u3) (.int (0 : Int32))) :
    own_Ctr l Z (⟨"com/example/idemnity/idemnity/model/Sha256FromDigestPinLaw", "all", "([BJJJJ)Z"⟩ : MethodName) method_4_code 9 (some .boolean) ws ({ frames := 1, cells := 0, slots := 0, locals := 15 } : Room) (({ frames := 1, cells := 0, slots := 0, locals := 15 } : Room)).cells (({ frames := 1, cells := 0, slots := 0, locals := 15 } : Room)).slots #[(.ref r1), (.long u0), (.long u1), (.long u2), (.long u3)] h0 (Q_own_all Z r1 u0 u1 u2 u3 kk h0 n0) := by
  refine own_enter (plainFor_of_name own_pn0) ?_
  intro p e s m below meth c s₁ X0 hx hZ hby hml hown hnm hlk hret e0
  have N0 := Fr.nil n0
  refine own_cast (own_ef_own_all m r1 u0 u1 u2 u3) ?_
  refine own_by (g' := (mkF m 1 #[.val (.ref r1), .val (.long u0), .second, .val (.long u1), .second, .val (.long u2), .second, .val (.long u3), .second] [(.ref r1)])) (fun t k => XS.aloadN X0.here hx rfl (hb hby own_d6_0) rfl rfl k) ?_
  obtain ⟨c101, Ar101, -, S101, G101, -, -⟩ := id V1
  refine own_by (g' := (mkF m 2 #[.val (.ref r1), .val (.long u0), .second, .val (.long u1), .second, .val (.long u2), .second, .val (.long u3), .second] [(.int (32 : Int32))])) (fun t k => X0.arraylength hx (own_at_ e0 Ar101.1) (State.isArrayOf_alike hZ.alike Ar101.2.1) (g := (mkF m 1 #[.val (.ref r1), .val (.long u0), .second, .val (.long u1), .second, .val (.long u2), .second, .val (.long u3), .second] [(.ref r1)])) rfl rfl (hb hby own_d6_1) t (by rw [len_of S101 G101]; exact k)) ?_
  refine own_by (g' := (mkF m 4 #[.val (.ref r1), .val (.long u0), .second, .val (.long u1), .second, .val (.long u2), .second, .val (.long u3), .second] [(.int (32 : Int32)), (.int (32 : Int32))])) (fun t k => XS.bipush X0.here hx rfl (hb hby own_d6_2) k) ?_
  refine own_by (g' := (mkF m 7 #[.val (.ref r1), .val (.long u0), .second, .val (.long u1), .second, .val (.long u2), .second, .val (.long u3), .second] [])) (fun t k => XS.icmpNo X0.here hx rfl (hb hby own_d6_4) rfl (teq (by decide : (32 : Int32) = (32 : Int32))).2 k) ?_
  refine own_by (g' := (mkF m 8 #[.val (.ref r1), .val (.long u0), .second, .val (.long u1), .second, .val (.long u2), .second, .val (.long u3), .second] [(.ref r1)])) (fun t k => XS.aloadN X0.here hx rfl (hb hby own_d6_7) rfl rfl k) ?_
  refine own_by (g' := (mkF m 9 #[.val (.ref r1), .val (.long u0), .second, .val (.long u1), .second, .val (.long u2), .second, .val (.long u3), .second] [(.int (0 : Int32)), (.ref r1)])) (fun t k => XS.iconst X0.here hx rfl (hb hby own_d6_8) k) ?_
  refine own_by (g' := (mkF m 10 #[.val (.ref r1), .val (.long u0), .second, .val (.long u1), .second, .val (.long u2), .second, .val (.long u3), .second] [(.long u0), (.int (0 : Int32)), (.ref r1)])) (fun t k => XS.lloadN X0.here hx rfl (hb hby own_d6_9) rfl k) ?_
  refine own_callS X0 hx hZ hown (hw _ (List.mem_of_getElem? (i := 36) rfl)) (hw _ (List.mem_of_getElem? (i := 37) rfl)) (hw _ (List.mem_of_getElem? (i := 3) rfl)) (hw _ (List.mem_of_getElem? (i := 38) rfl)) (by decide) (own_same0 l Z a0 hw [] (r1) (u0) (kk) ((own_full u0 u1 u2 u3)) h0 n0 Z0 V1 rfl rfl rfl rfl rfl rfl rfl rfl) 0 (by decide) (by decide) (by decide) (by decide) e0 (g := (mkF m 10 #[.val (.ref r1), .val (.long u0), .second, .val (.long u1), .second, .val (.long u2), .second, .val (.long u3), .second] [(.long u0), (.int (0 : Int32)), (.ref r1)])) rfl (by rw [hml]; rfl) (argsL := [(.ref r1), (.int (0 : Int32)), (.long u0)]) (rest := []) (lenOf own_pd0 rfl) rfl (by show 2 * 0 + _ ≤ _; exact Nat.le_of_eq rfl) (hb hby own_d6_10) ?_
  intro v102 T102 L102 X102 q102
  obtain ⟨rfl, N102q, e102⟩ := q102
  have N102 := Fr.app N0 N102q
  show own_Goes p e below s _ _ _ T102 (mkF m 13 #[.val (.ref r1), .val (.long u0), .second, .val (.long u1), .second, .val (.long u2), .second, .val (.long u3), .second] [(.int (1 : Int32))])
  refine own_by (g' := (mkF m 16 #[.val (.ref r1), .val (.long u0), .second, .val (.long u1), .second, .val (.long u2), .second, .val (.long u3), .second] [])) (fun t k => XS.ifNo X102.here hx rfl (hb hby own_d6_13) rfl ((if0 _ _).trans (feq (by decide : ¬ ((1 : Int32) = (0 : Int32)))).1) k) ?_
  refine own_by (g' := (mkF m 17 #[.val (.ref r1), .val (.long u0), .second, .val (.long u1), .second, .val (.long u2), .second, .val (.long u3), .second] [(.ref r1)])) (fun t k => XS.aloadN X102.here hx rfl (hb hby own_d6_16) rfl rfl k) ?_
  refine own_by (g' := (mkF m 19 #[.val (.ref r1), .val (.long u0), .second, .val (.long u1), .second, .val (.long u2), .second, .val (.long u3), .second] [(.int (8 : Int32)), (.ref r1)])) (fun t k => XS.bipush X102.here hx rfl (hb hby own_d6_17) k) ?_
  refine own_by (g' := (mkF m 20 #[.val (.ref r1), .val (.long u0), .second, .val (.long u1), .second, .val (.long u2), .second, .val (.long u3), .second] [(.long u1), (.int (8 : Int32)), (.ref r1)])) (fun t k => XS.lloadN X102.here hx rfl (hb hby own_d6_19) rfl k) ?_
  refine own_callS X102 hx hZ hown (hw _ (List.mem_of_getElem? (i := 36) rfl)) (hw _ (List.mem_of_getElem? (i := 37) rfl)) (hw _ (List.mem_of_getElem? (i := 3) rfl)) (hw _ (List.mem_of_getElem? (i := 38) rfl)) (by decide) (own_same8 l Z a0 hw [] (r1) (u1) (kk) ((own_full u0 u1 u2 u3)) h0 n0 Z0 V1 rfl rfl rfl rfl rfl rfl rfl rfl) 0 (by decide) (by decide) (by decide) (by decide) e102 (g := (mkF m 20 #[.val (.ref r1), .val (.long u0), .second, .val (.long u1), .second, .val (.long u2), .second, .val (.long u3), .second] [(.long u1), (.int (8 : Int32)), (.ref r1)])) rfl (by rw [hml]; rfl) (argsL := [(.ref r1), (.int (8 : Int32)), (.long u1)]) (rest := []) (lenOf own_pd0 rfl) rfl (by show 2 * 0 + _ ≤ _; exact Nat.le_of_eq rfl) (hb hby own_d6_20) ?_
  intro v103 T103 L103 X103 q103
  obtain ⟨rfl, N103q, e103⟩ := q103
  have N103 := Fr.app N102 N103q
  show own_Goes p e below s _ _ _ T103 (mkF m 23 #[.val (.ref r1), .val (.long u0), .second, .val (.long u1), .second, .val (.long u2), .second, .val (.long u3), .second] [(.int (1 : Int32))])
  refine own_by (g' := (mkF m 26 #[.val (.ref r1), .val (.long u0), .second, .val (.long u1), .second, .val (.long u2), .second, .val (.long u3), .second] [])) (fun t k => XS.ifNo X103.here hx rfl (hb hby own_d6_23) rfl ((if0 _ _).trans (feq (by decide : ¬ ((1 : Int32) = (0 : Int32)))).1) k) ?_
  refine own_by (g' := (mkF m 27 #[.val (.ref r1), .val (.long u0), .second, .val (.long u1), .second, .val (.long u2), .second, .val (.long u3), .second] [(.ref r1)])) (fun t k => XS.aloadN X103.here hx rfl (hb hby own_d6_26) rfl rfl k) ?_
  refine own_by (g' := (mkF m 29 #[.val (.ref r1), .val (.long u0), .second, .val (.long u1), .second, .val (.long u2), .second, .val (.long u3), .second] [(.int (16 : Int32)), (.ref r1)])) (fun t k => XS.bipush X103.here hx rfl (hb hby own_d6_27) k) ?_
  refine own_by (g' := (mkF m 31 #[.val (.ref r1), .val (.long u0), .second, .val (.long u1), .second, .val (.long u2), .second, .val (.long u3), .second] [(.long u2), (.int (16 : Int32)), (.ref r1)])) (fun t k => XS.lload X103.here hx rfl (hb hby own_d6_29) rfl k) ?_
  refine own_callS X103 hx hZ hown (hw _ (List.mem_of_getElem? (i := 36) rfl)) (hw _ (List.mem_of_getElem? (i := 37) rfl)) (hw _ (List.mem_of_getElem? (i := 3) rfl)) (hw _ (List.mem_of_getElem? (i := 38) rfl)) (by decide) (own_same16 l Z a0 hw [] (r1) (u2) (kk) ((own_full u0 u1 u2 u3)) h0 n0 Z0 V1 rfl rfl rfl rfl rfl rfl rfl rfl) 0 (by decide) (by decide) (by decide) (by decide) e103 (g := (mkF m 31 #[.val (.ref r1), .val (.long u0), .second, .val (.long u1), .second, .val (.long u2), .second, .val (.long u3), .second] [(.long u2), (.int (16 : Int32)), (.ref r1)])) rfl (by rw [hml]; rfl) (argsL := [(.ref r1), (.int (16 : Int32)), (.long u2)]) (rest := []) (lenOf own_pd0 rfl) rfl (by show 2 * 0 + _ ≤ _; exact Nat.le_of_eq rfl) (hb hby own_d6_31) ?_
  intro v104 T104 L104 X104 q104
  obtain ⟨rfl, N104q, e104⟩ := q104
  have N104 := Fr.app N103 N104q
  show own_Goes p e below s _ _ _ T104 (mkF m 34 #[.val (.ref r1), .val (.long u0), .second, .val (.long u1), .second, .val (.long u2), .second, .val (.long u3), .second] [(.int (1 : Int32))])
  refine own_by (g' := (mkF m 37 #[.val (.ref r1), .val (.long u0), .second, .val (.long u1), .second, .val (.long u2), .second, .val (.long u3), .second] [])) (fun t k => XS.ifNo X104.here hx rfl (hb hby own_d6_34) rfl ((if0 _ _).trans (feq (by decide : ¬ ((1 : Int32) = (0 : Int32)))).1) k) ?_
  refine own_by (g' := (mkF m 38 #[.val (.ref r1), .val (.long u0), .second, .val (.long u1), .second, .val (.long u2), .second, .val (.long u3), .second] [(.ref r1)])) (fun t k => XS.aloadN X104.here hx rfl (hb hby own_d6_37) rfl rfl k) ?_
  refine own_by (g' := (mkF m 40 #[.val (.ref r1), .val (.long u0), .second, .val (.long u1), .second, .val (.long u2), .second, .val (.long u3), .second] [(.int (24 : Int32)), (.ref r1)])) (fun t k => XS.bipush X104.here hx rfl (hb hby own_d6_38) k) ?_
  refine own_by (g' := (mkF m 42 #[.val (.ref r1), .val (.long u0), .second, .val (.long u1), .second, .val (.long u2), .second, .val (.long u3), .second] [(.long u3), (.int (24 : Int32)), (.ref r1)])) (fun t k => XS.lload X104.here hx rfl (hb hby own_d6_40) rfl k) ?_
  refine own_callS X104 hx hZ hown (hw _ (List.mem_of_getElem? (i := 36) rfl)) (hw _ (List.mem_of_getElem? (i := 37) rfl)) (hw _ (List.mem_of_getElem? (i := 3) rfl)) (hw _ (List.mem_of_getElem? (i := 38) rfl)) (by decide) (own_same24 l Z a0 hw [] (r1) (u3) (kk) ((own_full u0 u1 u2 u3)) h0 n0 Z0 V1 rfl rfl rfl rfl rfl rfl rfl rfl) 0 (by decide) (by decide) (by decide) (by decide) e104 (g := (mkF m 42 #[.val (.ref r1), .val (.long u0), .second, .val (.long u1), .second, .val (.long u2), .second, .val (.long u3), .second] [(.long u3), (.int (24 : Int32)), (.ref r1)])) rfl (by rw [hml]; rfl) (argsL := [(.ref r1), (.int (24 : Int32)), (.long u3)]) (rest := []) (lenOf own_pd0 rfl) rfl (by show 2 * 0 + _ ≤ _; exact Nat.le_of_eq rfl) (hb hby own_d6_42) ?_
  intro v105 T105 L105 X105 q105
  obtain ⟨rfl, N105q, e105⟩ := q105
  have N105 := Fr.app N104 N105q
  show own_Goes p e below s _ _ _ T105 (mkF m 45 #[.val (.ref r1), .val (.long u0), .second, .val (.long u1), .second, .val (.long u2), .second, .val (.long u3), .second] [(.int (1 : Int32))])
  refine own_by (g' := (mkF m 48 #[.val (.ref r1), .val (.long u0), .second, .val (.long u1), .second, .val (.long u2), .second, .val (.long u3), .second] [])) (fun t k => XS.ifNo X105.here hx rfl (hb hby own_d6_45) rfl ((if0 _ _).trans (feq (by decide : ¬ ((1 : Int32) = (0 : Int32)))).1) k) ?_
  refine own_by (g' := (mkF m 49 #[.val (.ref r1), .val (.long u0), .second, .val (.long u1), .second, .val (.long u2), .second, .val (.long u3), .second] [(.int (1 : Int32))])) (fun t k => XS.iconst X105.here hx rfl (hb hby own_d6_48) k) ?_
  refine own_by (g' := (mkF m 53 #[.val (.ref r1), .val (.long u0), .second, .val (.long u1), .second, .val (.long u2), .second, .val (.long u3), .second] [(.int (1 : Int32))])) (fun t k => XS.goto X105.here hx rfl (pc0 := 49) (pc' := 53) rfl (hb hby own_d6_49) (by decide) (by decide) k) ?_
  refine own_retN X105 hx hlk hret (t := .boolean) (by simp) (hb hby own_d6_53) (by decide) (by decide) ?_
  exact ⟨rfl, N105, e105⟩
theorem own_pn1 : plainName "com/example/idemnity/idemnity/model/Sha256" = true := by first | (simp [plainName, overriddenIn]; done) | decide +kernel
theorem own_d3_0 : decode prog_14_method_1_code 0 = .ok (.aload_n 0, 1) := by decide +kernel
theorem own_d3_1 : decode prog_14_method_1_code 1 = .ok (.invokespecial 1, 3) := by decide +kernel
theorem own_d3_4 : decode prog_14_method_1_code 4 = .ok (.aload_n 0, 1) := by decide +kernel
theorem own_d3_5 : decode prog_14_method_1_code 5 = .ok (.aload_n 1, 1) := by decide +kernel
theorem own_d3_6 : decode prog_14_method_1_code 6 = .ok (.putfield 7, 3) := by decide +kernel
theorem own_d3_9 : decode prog_14_method_1_code 9 = .ok (.return_, 1) := by decide +kernel
def Q_own_ini (Z : State) (r1 : Addr) (r2 : Addr) (h0 : Heap) (n0 : Nat) (v : Option Value) (h : Heap) (L : List Loc) : Prop := v = none ∧ Fr n0 L ∧ Keep h0 h [r1] ∧ Exa Z h r1 "com/example/idemnity/idemnity/model/Sha256" ∧ Fld Z h r1 "com/example/idemnity/idemnity/model/Sha256" "digest" "[B" (.ref r2)
theorem own_ef_own_ini (m : MethodId) (r1 : Addr) (r2 : Addr) : entryFrame m #[(.ref r1), (.ref r2)] 2 = mkF m 0 #[.val (.ref r1), .val (.ref r2)] [] := by first | (simp [entryFrame, mkF, argsToLocals, Value.category]; done) | rfl
set_option maxRecDepth 65536 in
set_option maxHeartbeats 40000000 in
theorem own_ini (l : Launch) (Z : State) (a0 : Array Value) (hw : ∀ d ∈ tables_1, d.before a0 Z = true) (ws : List Jvm.Cond) (r1 : Addr) (r2 : Addr) (h0 : Heap) (n0 : Nat) (Z0 : n0 ≤ h0.size) (E1 : Exa Z h0 r1 "com/example/idemnity/idemnity/model/Sha256") (F1 : Fld Z h0 r1 "com/example/idemnity/idemnity/model/Sha256" "digest" "[B" .null) (g1 : n0 ≤ r1) :
    own_Ctr l Z (⟨"com/example/idemnity/idemnity/model/Sha256", "<init>", "([B)V"⟩ : MethodName) prog_14_method_1_code 2 none ws ({ frames := 1, cells := 0, slots := 0, locals := 12 } : Room) (({ frames := 1, cells := 0, slots := 0, locals := 12 } : Room)).cells (({ frames := 1, cells := 0, slots := 0, locals := 12 } : Room)).slots #[(.ref r1), (.ref r2)] h0 (Q_own_ini Z r1 r2 h0 n0) := by
  refine own_enter (plainFor_of_name own_pn1) ?_
  intro p e s m below meth c s₁ X0 hx hZ hby hml hown hnm hlk hret e0
  have N0 := Fr.nil n0
  refine own_cast (own_ef_own_ini m r1 r2) ?_
  refine own_by (g' := (mkF m 1 #[.val (.ref r1), .val (.ref r2)] [(.ref r1)])) (fun t k => XS.aloadN X0.here hx rfl (hb hby own_d3_0) rfl rfl k) ?_
  obtain ⟨T101, X101, e101, st101⟩ := initO X0 hx hZ hown (hw _ (List.mem_of_getElem? (i := 23) rfl)) (hw _ (List.mem_of_getElem? (i := 24) rfl)) (hw _ (List.mem_of_getElem? (i := 25) rfl)) e0 (g := (mkF m 1 #[.val (.ref r1), .val (.ref r2)] [(.ref r1)])) rfl (by rw [hml]; rfl) rfl (hb hby own_d3_1) (by decide) (W := 0) (by show 2 * 0 + _ ≤ _; exact Nat.le_of_eq rfl) (by decide)
  refine own_by (g' := (mkF m 4 #[.val (.ref r1), .val (.ref r2)] [])) st101 ?_
  refine own_by (g' := (mkF m 5 #[.val (.ref r1), .val (.ref r2)] [(.ref r1)])) (fun t k => XS.aloadN X101.here hx rfl (hb hby own_d3_4) rfl rfl k) ?_
  refine own_by (g' := (mkF m 6 #[.val (.ref r1), .val (.ref r2)] [(.ref r2), (.ref r1)])) (fun t k => XS.aloadN X101.here hx rfl (hb hby own_d3_5) rfl rfl k) ?_
  obtain ⟨T102, h102, X102, e102, W102, st102⟩ := putF X101 hx hZ hown (host := "") (Or.inl (hw _ (List.mem_of_getElem? (i := 26) rfl))) Via.refl e101 F1 E1 (Or.inr ⟨(hw _ (List.mem_of_getElem? (i := 27) rfl)), rfl, hnm⟩) (hw _ (List.mem_of_getElem? (i := 10) rfl)) (ty := (.array .byte)) (by decide) rfl rfl (g := (mkF m 6 #[.val (.ref r1), .val (.ref r2)] [(.ref r2), (.ref r1)])) rfl rfl (hb hby own_d3_6)
  have f103 := F1.same W102
  have N102 := Fr.snoc X102 N0 g1
  refine own_by (g' := (mkF m 9 #[.val (.ref r1), .val (.ref r2)] [])) st102 ?_
  have f104 := (E1.wr W102)
  refine own_retV X102 hx hlk hret (hb hby own_d3_9) (by decide) (by decide) ?_
  rw [e102]
  exact ⟨rfl, N102, ((Keep.refl h0 [r1]).wr W102 (Or.inl (List.mem_of_getElem? (i := 0) rfl))), f104, f103⟩
theorem own_d2_0 : decode prog_14_method_4_code 0 = .ok (.aload_n 0, 1) := by decide +kernel
theorem own_d2_1 : decode prog_14_method_4_code 1 = .ok (.arraylength, 1) := by decide +kernel
theorem own_d2_2 : decode prog_14_method_4_code 2 = .ok (.bipush 32, 2) := by decide +kernel
theorem own_d2_4 : decode prog_14_method_4_code 4 = .ok (.if_icmp .eq 18, 3) := by decide +kernel
theorem own_d2_22 : decode prog_14_method_4_code 22 = .ok (.new 8, 3) := by decide +kernel
theorem own_d2_25 : decode prog_14_method_4_code 25 = .ok (.dup, 1) := by decide +kernel
theorem own_d2_26 : decode prog_14_method_4_code 26 = .ok (.aload_n 0, 1) := by decide +kernel
theorem own_d2_27 : decode prog_14_method_4_code 27 = .ok (.invokevirtual 56, 3) := by decide +kernel
theorem own_d2_30 : decode prog_14_method_4_code 30 = .ok (.checkcast 57, 3) := by decide +kernel
theorem own_d2_33 : decode prog_14_method_4_code 33 = .ok (.invokespecial 32, 3) := by decide +kernel
theorem own_pd1 : parseMethodDescriptor "([B)V" = some ⟨[(.array .byte)], none⟩ := by decide +kernel
theorem own_d2_36 : decode prog_14_method_4_code 36 = .ok (.areturn, 1) := by decide +kernel
def Q_own_fd (Z : State) (r1 : Addr) (kk : ClassId) (xs : List Value) (h0 : Heap) (n0 : Nat) (v : Option Value) (h : Heap) (L : List Loc) : Prop := ∃ (bo : Addr), ∃ (ba : Addr), v = some (.ref bo) ∧ Fr n0 L ∧ Keep h0 h [] ∧ h0.size ≤ bo ∧ h0.size ≤ ba ∧ Exa Z h bo "com/example/idemnity/idemnity/model/Sha256" ∧ Fld Z h bo "com/example/idemnity/idemnity/model/Sha256" "digest" "[B" (.ref ba) ∧ Arv Z h ba kk .byte (32 : Int32) xs (.int (0 : Int32)) ∧ Exa Z h ba "[B"
theorem own_ef_own_fd (m : MethodId) (r1 : Addr) : entryFrame m #[(.ref r1)] 1 = mkF m 0 #[.val (.ref r1)] [] := by first | (simp [entryFrame, mkF, argsToLocals, Value.category]; done) | rfl
set_option maxRecDepth 65536 in
set_option maxHeartbeats 40000000 in
theorem own_fd (l : Launch) (Z : State) (a0 : Array Value) (hw : ∀ d ∈ tables_1, d.before a0 Z = true) (ws : List Jvm.Cond) (r1 : Addr) (kk : ClassId) (xs : List Value) (h0 : Heap) (n0 : Nat) (Z0 : n0 ≤ h0.size) (V1 : Arv Z h0 r1 kk .byte (32 : Int32) xs (.int (0 : Int32))) (E1 : Exa Z h0 r1 "[B") :
    own_Ctr l Z (⟨"com/example/idemnity/idemnity/model/Sha256", "fromDigest", "([B)Lcom/example/idemnity/idemnity/model/Sha256;"⟩ : MethodName) prog_14_method_4_code 1 (some (.object "com/example/idemnity/idemnity/model/Sha256")) ws ({ frames := 2, cells := 2, slots := 33, locals := 26 } : Room) (({ frames := 2, cells := 2, slots := 33, locals := 26 } : Room)).cells (({ frames := 2, cells := 2, slots := 33, locals := 26 } : Room)).slots #[(.ref r1)] h0 (Q_own_fd Z r1 kk xs h0 n0) := by
  refine own_enter (plainFor_of_name own_pn1) ?_
  intro p e s m below meth c s₁ X0 hx hZ hby hml hown hnm hlk hret e0
  have N0 := Fr.nil n0
  refine own_cast (own_ef_own_fd m r1) ?_
  refine own_by (g' := (mkF m 1 #[.val (.ref r1)] [(.ref r1)])) (fun t k => XS.aloadN X0.here hx rfl (hb hby own_d2_0) rfl rfl k) ?_
  obtain ⟨c101, Ar101, -, S101, G101, -, -⟩ := id V1
  refine own_by (g' := (mkF m 2 #[.val (.ref r1)] [(.int (32 : Int32))])) (fun t k => X0.arraylength hx (own_at_ e0 Ar101.1) (State.isArrayOf_alike hZ.alike Ar101.2.1) (g := (mkF m 1 #[.val (.ref r1)] [(.ref r1)])) rfl rfl (hb hby own_d2_1) t (by rw [len_of S101 G101]; exact k)) ?_
  refine own_by (g' := (mkF m 4 #[.val (.ref r1)] [(.int (32 : Int32)), (.int (32 : Int32))])) (fun t k => XS.bipush X0.here hx rfl (hb hby own_d2_2) k) ?_
  refine own_by (g' := (mkF m 22 #[.val (.ref r1)] [])) (fun t k => XS.icmpYes X0.here hx rfl (pc0 := 4) (pc' := 22) rfl (hb hby own_d2_4) rfl (teq (by decide : (32 : Int32) = (32 : Int32))).1 (by decide) (by decide) k) ?_
  obtain ⟨T102, h102, X102, e102, E102, A102, D102, U102, st102⟩ := newO X0 hx hZ hown (hw _ (List.mem_of_getElem? (i := 9) rfl)) (hw _ (List.mem_of_getElem? (i := 10) rfl)) (hw _ (List.mem_of_getElem? (i := 7) rfl)) e0 (g := (mkF m 22 #[.val (.ref r1)] [])) rfl (hb hby own_d2_22) (by decide) (by decide)
  obtain ⟨b102, g102⟩ : ∃ z, z = h0.size := ⟨_, rfl⟩
  rw [← g102] at A102 D102 U102 st102
  have sz_b102 : h0.size ≤ b102 := Nat.le_trans (Nat.le_refl _) (Nat.le_of_eq g102.symm)
  have g_b102 : n0 ≤ b102 := Nat.le_trans Z0 sz_b102
  have f103 : Fld Z h102 b102 "com/example/idemnity/idemnity/model/Sha256" "digest" "[B" .null := D102 (Or.inr (hw _ (List.mem_of_getElem? (i := 27) rfl))) (ty := (.array .byte)) (by decide)
  refine own_by (g' := (mkF m 25 #[.val (.ref r1)] [(.ref b102)])) st102 ?_
  refine own_by (g' := (mkF m 26 #[.val (.ref r1)] [(.ref b102), (.ref b102)])) (fun t k => XS.dup X102.here hx rfl (hb hby own_d2_25) rfl rfl k) ?_
  refine own_by (g' := (mkF m 27 #[.val (.ref r1)] [(.ref r1), (.ref b102), (.ref b102)])) (fun t k => XS.aloadN X102.here hx rfl (hb hby own_d2_26) rfl rfl k) ?_
  have f105 := (V1.ext E102)
  have f106 := (E1.ext E102)
  obtain ⟨T104, h104, X104, e104, E104, A104, Y104, st104⟩ := cloneH X102 hx hZ hown (hw _ (List.mem_of_getElem? (i := 11) rfl)) (hw _ (List.mem_of_getElem? (i := 12) rfl)) (hw _ (List.mem_of_getElem? (i := 16) rfl)) (hw _ (List.mem_of_getElem? (i := 14) rfl)) (hw _ (List.mem_of_getElem? (i := 15) rfl)) (hw _ (List.mem_of_getElem? (i := 17) rfl)) e102 f105.arh f106 (g := (mkF m 27 #[.val (.ref r1)] [(.ref r1), (.ref b102), (.ref b102)])) rfl (by rw [hml]; rfl) rfl (hb hby own_d2_27) (by decide) (W := 2) (cap := 32) (by show 2 * 0 + _ ≤ _; exact Nat.le_of_eq rfl) (by decide) (by decide) (by decide) (by decide)
  obtain ⟨b104, g104⟩ : ∃ z, z = h102.size := ⟨_, rfl⟩
  rw [← g104] at A104 Y104 st104
  have sz_b104 : h0.size ≤ b104 := Nat.le_trans E102.1 (Nat.le_of_eq g104.symm)
  have g_b104 : n0 ≤ b104 := Nat.le_trans Z0 sz_b104
  have V104 : Arv Z h104 b104 kk .byte (32 : Int32) xs (.int (0 : Int32)) := A104
  refine own_by (g' := (mkF m 30 #[.val (.ref r1)] [(.ref b104), (.ref b102), (.ref b102)])) st104 ?_
  obtain ⟨T107, X107, e107, st107⟩ := castY X104 hx hZ hown (hw _ (List.mem_of_getElem? (i := 18) rfl)) e104 (Ins.self Y104) (g := (mkF m 30 #[.val (.ref r1)] [(.ref b104), (.ref b102), (.ref b102)])) rfl rfl (hb hby own_d2_30)
  refine own_by (g' := (mkF m 33 #[.val (.ref r1)] [(.ref b104), (.ref b102), (.ref b102)])) st107 ?_
  have f108 := (A102.ext E104)
  have f109 := (f103.ext E104)
  refine own_callI X107 hx hZ hown rfl (hw _ (List.mem_of_getElem? (i := 20) rfl)) (hw _ (List.mem_of_getElem? (i := 21) rfl)) (hw _ (List.mem_of_getElem? (i := 7) rfl)) (hw _ (List.mem_of_getElem? (i := 22) rfl)) (by decide) (a := b102) (own_ini l Z a0 hw [] (b102) (b104) h104 n0 (Nat.le_trans Z0 (Nat.le_trans E102.1 E104.1)) f108 f109 g_b102) 1 (by decide) (by decide) (by decide) (by decide) e107 (g := (mkF m 33 #[.val (.ref r1)] [(.ref b104), (.ref b102), (.ref b102)])) rfl (by rw [hml]; rfl) (argsL := [(.ref b104)]) (rest := [(.ref b102)]) (lenOf own_pd1 rfl) rfl (by show 2 * 0 + _ ≤ _; exact Nat.le_of_eq rfl) (hb hby own_d2_33) ?_
  intro v110 T110 L110 X110 q110
  obtain ⟨rfl, N110q, K110, f111, f112⟩ := q110
  have N110 := Fr.app N0 N110q
  show own_Goes p e below s _ _ _ T110 (mkF m 36 #[.val (.ref r1)] [(.ref b102)])
  have f113 := (V104.keep K110 (ninS (Ne.symm (Nat.ne_of_lt (Nat.lt_of_lt_of_le (Nat.lt_of_lt_of_le A102.lt (Nat.le_refl _)) (Nat.le_of_eq g104.symm)))) nin0))
  have f114 := (Y104.keep K110)
  refine own_retA X110 hx hlk hret rfl rfl (hb hby own_d2_36) (by decide) (by decide) ?_
  exact ⟨b102, b104, rfl, N110, ((((Keep.refl h0 []).ext E102).ext E104).trans K110 (allS (Or.inr sz_b102) all0)), sz_b102, sz_b104, f111, f112, f113, f114⟩
theorem own_d5_0 : decode prog_14_method_5_code 0 = .ok (.aload_n 0, 1) := by decide +kernel
theorem own_d5_1 : decode prog_14_method_5_code 1 = .ok (.getfield 7, 3) := by decide +kernel
theorem own_d5_4 : decode prog_14_method_5_code 4 = .ok (.invokevirtual 56, 3) := by decide +kernel
theorem own_d5_7 : decode prog_14_method_5_code 7 = .ok (.checkcast 57, 3) := by decide +kernel
theorem own_d5_10 : decode prog_14_method_5_code 10 = .ok (.areturn, 1) := by decide +kernel
def Q_own_bytes (Z : State) (r1 : Addr) (r2 : Addr) (kk : ClassId) (xs : List Value) (h0 : Heap) (n0 : Nat) (v : Option Value) (h : Heap) (L : List Loc) : Prop := ∃ (bo : Addr), v = some (.ref bo) ∧ Fr n0 L ∧ Keep h0 h [] ∧ h0.size ≤ bo ∧ Arv Z h bo kk .byte (32 : Int32) xs (.int (0 : Int32)) ∧ Exa Z h bo "[B"
theorem own_ef_own_bytes (m : MethodId) (r1 : Addr) : entryFrame m #[(.ref r1)] 1 = mkF m 0 #[.val (.ref r1)] [] := by first | (simp [entryFrame, mkF, argsToLocals, Value.category]; done) | rfl
set_option maxRecDepth 65536 in
set_option maxHeartbeats 40000000 in
theorem own_bytes (l : Launch) (Z : State) (a0 : Array Value) (hw : ∀ d ∈ tables_1, d.before a0 Z = true) (ws : List Jvm.Cond) (r1 : Addr) (r2 : Addr) (kk : ClassId) (xs : List Value) (h0 : Heap) (n0 : Nat) (Z0 : n0 ≤ h0.size) (F1 : Fld Z h0 r1 "com/example/idemnity/idemnity/model/Sha256" "digest" "[B" (.ref r2)) (V1 : Arv Z h0 r2 kk .byte (32 : Int32) xs (.int (0 : Int32))) (E1 : Exa Z h0 r2 "[B") :
    own_Ctr l Z (⟨"com/example/idemnity/idemnity/model/Sha256", "bytes", "()[B"⟩ : MethodName) prog_14_method_5_code 1 (some (.array .byte)) ws ({ frames := 1, cells := 1, slots := 32, locals := 14 } : Room) (({ frames := 1, cells := 1, slots := 32, locals := 14 } : Room)).cells (({ frames := 1, cells := 1, slots := 32, locals := 14 } : Room)).slots #[(.ref r1)] h0 (Q_own_bytes Z r1 r2 kk xs h0 n0) := by
  refine own_enter (plainFor_of_name own_pn1) ?_
  intro p e s m below meth c s₁ X0 hx hZ hby hml hown hnm hlk hret e0
  have N0 := Fr.nil n0
  refine own_cast (own_ef_own_bytes m r1) ?_
  refine own_by (g' := (mkF m 1 #[.val (.ref r1)] [(.ref r1)])) (fun t k => XS.aloadN X0.here hx rfl (hb hby own_d5_0) rfl rfl k) ?_
  obtain ⟨T101, X101, e101, st101⟩ := getF X0 hx hZ hown (host := "") (Or.inl (hw _ (List.mem_of_getElem? (i := 26) rfl))) Via.refl e0 F1 (g := (mkF m 1 #[.val (.ref r1)] [(.ref r1)])) rfl rfl (hb hby own_d5_1)
  refine own_by (g' := (mkF m 4 #[.val (.ref r1)] [(.ref r2)])) st101 ?_
  obtain ⟨T102, h102, X102, e102, E102, A102, Y102, st102⟩ := cloneH X101 hx hZ hown (hw _ (List.mem_of_getElem? (i := 11) rfl)) (hw _ (List.mem_of_getElem? (i := 12) rfl)) (hw _ (List.mem_of_getElem? (i := 16) rfl)) (hw _ (List.mem_of_getElem? (i := 14) rfl)) (hw _ (List.mem_of_getElem? (i := 15) rfl)) (hw _ (List.mem_of_getElem? (i := 17) rfl)) e101 V1.arh E1 (g := (mkF m 4 #[.val (.ref r1)] [(.ref r2)])) rfl (by rw [hml]; rfl) rfl (hb hby own_d5_4) (by decide) (W := 0) (cap := 32) (by show 2 * 0 + _ ≤ _; exact Nat.le_of_eq rfl) (by decide) (by decide) (by decide) (by decide)
  obtain ⟨b102, g102⟩ : ∃ z, z = h0.size := ⟨_, rfl⟩
  rw [← g102] at A102 Y102 st102
  have sz_b102 : h0.size ≤ b102 := Nat.le_trans (Nat.le_refl _) (Nat.le_of_eq g102.symm)
  have g_b102 : n0 ≤ b102 := Nat.le_trans Z0 sz_b102
  have V102 : Arv Z h102 b102 kk .byte (32 : Int32) xs (.int (0 : Int32)) := A102
  refine own_by (g' := (mkF m 7 #[.val (.ref r1)] [(.ref b102)])) st102 ?_
  obtain ⟨T103, X103, e103, st103⟩ := castY X102 hx hZ hown (hw _ (List.mem_of_getElem? (i := 18) rfl)) e102 (Ins.self Y102) (g := (mkF m 7 #[.val (.ref r1)] [(.ref b102)])) rfl rfl (hb hby own_d5_7)
  refine own_by (g' := (mkF m 10 #[.val (.ref r1)] [(.ref b102)])) st103 ?_
  refine own_retA X103 hx hlk hret rfl rfl (hb hby own_d5_10) (by decide) (by decide) ?_
  rw [e103]
  exact ⟨b102, rfl, N0, ((Keep.refl h0 []).ext E102), sz_b102, V102, Y102⟩
theorem own_in31 (a : Int32) : ¬ (a &&& (31 : Int32)) < 0 ∧ (a &&& (31 : Int32)) < (32 : Int32) := by
  have m := c_mask a 31 5 (by decide) (by decide)
  rw [Int32.lt_iff_toInt_lt, Int32.lt_iff_toInt_lt, m]
  have e0 : (0 : Int32).toInt = 0 := by decide
  have e1 : (32 : Int32).toInt = 32 := by decide
  rw [e0, e1]; omega
theorem own_byteAt {c : Cell} {vs : List Value} {dv : Value} {j : Int32} (H : Has c vs dv) (F : ∀ i, i < c.slots.size → fits .byte (vs.getD i dv) = true) (q : ¬ (j < 0 ∨ c.slots.size ≤ j.toNatClampNeg)) : ∃ x : Int32, c.slots[j.toNatClampNeg]? = some (.int x) := by
  have hlt := Nat.lt_of_not_le fun y => q (Or.inr y)
  obtain ⟨x, e⟩ := fit_I (F _ hlt) (by simp)
  exact ⟨x, by rw [H _ hlt, e]⟩
theorem own_ad_byte : "[" ++ (newarray.typeOf .byte).toString = "[B" := by decide +kernel
theorem own_pd2 : parseMethodDescriptor "([BIJ)V" = some ⟨[(.array .byte), .int, .long], none⟩ := by decide +kernel
theorem own_pd3 : parseMethodDescriptor "([B)Lcom/example/idemnity/idemnity/model/Sha256;" = some ⟨[(.array .byte)], some (.object "com/example/idemnity/idemnity/model/Sha256")⟩ := by decide +kernel
theorem own_pd4 : parseMethodDescriptor "()[B" = some ⟨[], some (.array .byte)⟩ := by decide +kernel
theorem own_pd5 : parseMethodDescriptor "([BJJJJ)Z" = some ⟨[(.array .byte), .long, .long, .long, .long], some .boolean⟩ := by decide +kernel
def Q_own_law (Z : State) (u0 : Int64) (u1 : Int64) (u2 : Int64) (u3 : Int64) (u4 : Int32) (h0 : Heap) (n0 : Nat) (v : Option Value) (h : Heap) (L : List Loc) : Prop := v = some (.int (1 : Int32)) ∧ Fr n0 L ∧ Keep h0 h []
theorem own_ef_own_law (m : MethodId) (u0 : Int64) (u1 : Int64) (u2 : Int64) (u3 : Int64) (u4 : Int32) : entryFrame m #[(.long u0), (.long u1), (.long u2), (.long u3), (.int u4)] maxLocals = mkF m 0 #[.val (.long u0), .second, .val (.long u1), .second, .val (.long u2), .second, .val (.long u3), .second, .val (.int u4), .unset, .unset, .unset, .unset, .unset, .unset] [] := by first | (simp [entryFrame, mkF, argsToLocals, Value.category, maxLocals]; done) | rfl
set_option maxRecDepth 65536 in
set_option maxHeartbeats 40000000 in
theorem own_law (l : Launch) (Z : State) (a0 : Array Value) (hw : ∀ d ∈ tables_1, d.before a0 Z = true) (ws : List Jvm.Cond) (u0 : Int64) (u1 : Int64) (u2 : Int64) (u3 : Int64) (u4 : Int32) (h0 : Heap) (n0 : Nat) (Z0 : n0 ≤ h0.size)  :
    own_Ctr l Z x code maxLocals ret ws room_1 5 129 #[(.long u0), (.long u1), (.long u2), (.long u3), (.int u4)] h0 (Q_own_law Z u0 u1 u2 u3 u4 h0 n0) := by
  refine own_enter (plainFor_of_name own_pn0) ?_
  intro p e s m below meth c s₁ X0 hx hZ hby hml hown hnm hlk hret e0
  have N0 := Fr.nil n0
  refine own_cast (own_ef_own_law m u0 u1 u2 u3 u4) ?_
  refine own_by (g' := (mkF m 2 #[.val (.long u0), .second, .val (.long u1), .second, .val (.long u2), .second, .val (.long u3), .second, .val (.int u4), .unset, .unset, .unset, .unset, .unset, .unset] [(.int (32 : Int32))])) (fun t k => XS.bipush X0.here hx rfl (hb hby at_0) k) ?_
  obtain ⟨T101, h101, k101, X101, e101, E101, A101, Y101, st101⟩ := newPE X0 hx hZ (hw _ (List.mem_of_getElem? (i := 0) rfl)) e0 (g := (mkF m 2 #[.val (.long u0), .second, .val (.long u1), .second, .val (.long u2), .second, .val (.long u3), .second, .val (.int u4), .unset, .unset, .unset, .unset, .unset, .unset] [(.int (32 : Int32))])) rfl (hb hby at_2) rfl (by decide) (cap := 32) (by decide) (by decide) (by decide) (by decide) (ad := "[B") own_ad_byte
  obtain ⟨b101, g101⟩ : ∃ z, z = h0.size := ⟨_, rfl⟩
  rw [← g101] at A101 Y101 st101
  have sz_b101 : h0.size ≤ b101 := Nat.le_trans (Nat.le_refl _) (Nat.le_of_eq g101.symm)
  have g_b101 : n0 ≤ b101 := Nat.le_trans Z0 sz_b101
  have V101 : Arv Z h101 b101 k101 .byte (32 : Int32) [(.int (0 : Int32)), (.int (0 : Int32)), (.int (0 : Int32)), (.int (0 : Int32)), (.int (0 : Int32)), (.int (0 : Int32)), (.int (0 : Int32)), (.int (0 : Int32)), (.int (0 : Int32)), (.int (0 : Int32)), (.int (0 : Int32)), (.int (0 : Int32)), (.int (0 : Int32)), (.int (0 : Int32)), (.int (0 : Int32)), (.int (0 : Int32)), (.int (0 : Int32)), (.int (0 : Int32)), (.int (0 : Int32)), (.int (0 : Int32)), (.int (0 : Int32)), (.int (0 : Int32)), (.int (0 : Int32)), (.int (0 : Int32)), (.int (0 : Int32)), (.int (0 : Int32)), (.int (0 : Int32)), (.int (0 : Int32)), (.int (0 : Int32)), (.int (0 : Int32)), (.int (0 : Int32)), (.int (0 : Int32))] (.int (0 : Int32)) := (Arv.new A101 (by decide)).pad (pad_rep [] (.int (0 : Int32)) 32)
  refine own_by (g' := (mkF m 4 #[.val (.long u0), .second, .val (.long u1), .second, .val (.long u2), .second, .val (.long u3), .second, .val (.int u4), .unset, .unset, .unset, .unset, .unset, .unset] [(.ref b101)])) st101 ?_
  refine own_by (g' := (mkF m 6 #[.val (.long u0), .second, .val (.long u1), .second, .val (.long u2), .second, .val (.long u3), .second, .val (.int u4), .val (.ref b101), .unset, .unset, .unset, .unset, .unset] [])) (fun t k => XS.astore X101.here hx rfl (hb hby at_4) rfl rfl (l' := #[.val (.long u0), .second, .val (.long u1), .second, .val (.long u2), .second, .val (.long u3), .second, .val (.int u4), .val (.ref b101), .unset, .unset, .unset, .unset, .unset]) rfl k) ?_
  refine own_by (g' := (mkF m 8 #[.val (.long u0), .second, .val (.long u1), .second, .val (.long u2), .second, .val (.long u3), .second, .val (.int u4), .val (.ref b101), .unset, .unset, .unset, .unset, .unset] [(.ref b101)])) (fun t k => XS.aload X101.here hx rfl (hb hby at_6) rfl rfl k) ?_
  refine own_by (g' := (mkF m 9 #[.val (.long u0), .second, .val (.long u1), .second, .val (.long u2), .second, .val (.long u3), .second, .val (.int u4), .val (.ref b101), .unset, .unset, .unset, .unset, .unset] [(.int (0 : Int32)), (.ref b101)])) (fun t k => XS.iconst X101.here hx rfl (hb hby at_8) k) ?_
  refine own_by (g' := (mkF m 10 #[.val (.long u0), .second, .val (.long u1), .second, .val (.long u2), .second, .val (.long u3), .second, .val (.int u4), .val (.ref b101), .unset, .unset, .unset, .unset, .unset] [(.long u0), (.int (0 : Int32)), (.ref b101)])) (fun t k => XS.lloadN X101.here hx rfl (hb hby at_9) rfl k) ?_
  refine own_callS X101 hx hZ hown (hw _ (List.mem_of_getElem? (i := 1) rfl)) (hw _ (List.mem_of_getElem? (i := 2) rfl)) (hw _ (List.mem_of_getElem? (i := 3) rfl)) (hw _ (List.mem_of_getElem? (i := 4) rfl)) (by decide) (own_put0 l Z a0 hw [] (b101) (u0) (k101) ([(.int (0 : Int32)), (.int (0 : Int32)), (.int (0 : Int32)), (.int (0 : Int32)), (.int (0 : Int32)), (.int (0 : Int32)), (.int (0 : Int32)), (.int (0 : Int32)), (.int (0 : Int32)), (.int (0 : Int32)), (.int (0 : Int32)), (.int (0 : Int32)), (.int (0 : Int32)), (.int (0 : Int32)), (.int (0 : Int32)), (.int (0 : Int32)), (.int (0 : Int32)), (.int (0 : Int32)), (.int (0 : Int32)), (.int (0 : Int32)), (.int (0 : Int32)), (.int (0 : Int32)), (.int (0 : Int32)), (.int (0 : Int32)), (.int (0 : Int32)), (.int (0 : Int32)), (.int (0 : Int32)), (.int (0 : Int32)), (.int (0 : Int32)), (.int (0 : Int32)), (.int (0 : Int32)), (.int (0 : Int32))]) h101 n0 (Nat.le_trans Z0 E101.1) V101 rfl g_b101) 0 (by decide) (by decide) (by decide) (by decide) e101 (g := (mkF m 10 #[.val (.long u0), .second, .val (.long u1), .second, .val (.long u2), .second, .val (.long u3), .second, .val (.int u4), .val (.ref b101), .unset, .unset, .unset, .unset, .unset] [(.long u0), (.int (0 : Int32)), (.ref b101)])) rfl (by rw [hml]; rfl) (argsL := [(.ref b101), (.int (0 : Int32)), (.long u0)]) (rest := []) (lenOf own_pd2 rfl) rfl (by show 2 * 0 + _ ≤ _; exact Nat.le_of_eq rfl) (hb hby at_10) ?_
  intro v102 T102 L102 X102 q102
  obtain ⟨rfl, N102q, K102, f103⟩ := q102
  have N102 := Fr.app N0 N102q
  show own_Goes p e below s _ _ _ T102 (mkF m 13 #[.val (.long u0), .second, .val (.long u1), .second, .val (.long u2), .second, .val (.long u3), .second, .val (.int u4), .val (.ref b101), .unset, .unset, .unset, .unset, .unset] [])
  refine own_by (g' := (mkF m 15 #[.val (.long u0), .second, .val (.long u1), .second, .val (.long u2), .second, .val (.long u3), .second, .val (.int u4), .val (.ref b101), .unset, .unset, .unset, .unset, .unset] [(.ref b101)])) (fun t k => XS.aload X102.here hx rfl (hb hby at_13) rfl rfl k) ?_
  refine own_by (g' := (mkF m 17 #[.val (.long u0), .second, .val (.long u1), .second, .val (.long u2), .second, .val (.long u3), .second, .val (.int u4), .val (.ref b101), .unset, .unset, .unset, .unset, .unset] [(.int (8 : Int32)), (.ref b101)])) (fun t k => XS.bipush X102.here hx rfl (hb hby at_15) k) ?_
  refine own_by (g' := (mkF m 18 #[.val (.long u0), .second, .val (.long u1), .second, .val (.long u2), .second, .val (.long u3), .second, .val (.int u4), .val (.ref b101), .unset, .unset, .unset, .unset, .unset] [(.long u1), (.int (8 : Int32)), (.ref b101)])) (fun t k => XS.lloadN X102.here hx rfl (hb hby at_17) rfl k) ?_
  refine own_callS X102 hx hZ hown (hw _ (List.mem_of_getElem? (i := 1) rfl)) (hw _ (List.mem_of_getElem? (i := 2) rfl)) (hw _ (List.mem_of_getElem? (i := 3) rfl)) (hw _ (List.mem_of_getElem? (i := 4) rfl)) (by decide) (own_put8 l Z a0 hw [] (b101) (u1) (k101) ((own_put ([(.int (0 : Int32)), (.int (0 : Int32)), (.int (0 : Int32)), (.int (0 : Int32)), (.int (0 : Int32)), (.int (0 : Int32)), (.int (0 : Int32)), (.int (0 : Int32)), (.int (0 : Int32)), (.int (0 : Int32)), (.int (0 : Int32)), (.int (0 : Int32)), (.int (0 : Int32)), (.int (0 : Int32)), (.int (0 : Int32)), (.int (0 : Int32)), (.int (0 : Int32)), (.int (0 : Int32)), (.int (0 : Int32)), (.int (0 : Int32)), (.int (0 : Int32)), (.int (0 : Int32)), (.int (0 : Int32)), (.int (0 : Int32)), (.int (0 : Int32)), (.int (0 : Int32)), (.int (0 : Int32)), (.int (0 : Int32)), (.int (0 : Int32)), (.int (0 : Int32)), (.int (0 : Int32)), (.int (0 : Int32))]) 0 u0)) T102.heap n0 (Nat.le_trans Z0 (Nat.le_trans E101.1 K102.1)) f103 (own_putLen _ _ _ rfl) g_b101) 0 (by decide) (by decide) (by decide) (by decide) rfl (g := (mkF m 18 #[.val (.long u0), .second, .val (.long u1), .second, .val (.long u2), .second, .val (.long u3), .second, .val (.int u4), .val (.ref b101), .unset, .unset, .unset, .unset, .unset] [(.long u1), (.int (8 : Int32)), (.ref b101)])) rfl (by rw [hml]; rfl) (argsL := [(.ref b101), (.int (8 : Int32)), (.long u1)]) (rest := []) (lenOf own_pd2 rfl) rfl (by show 2 * 0 + _ ≤ _; exact Nat.le_of_eq rfl) (hb hby at_18) ?_
  intro v104 T104 L104 X104 q104
  obtain ⟨rfl, N104q, K104, f105⟩ := q104
  have N104 := Fr.app N102 N104q
  show own_Goes p e below s _ _ _ T104 (mkF m 21 #[.val (.long u0), .second, .val (.long u1), .second, .val (.long u2), .second, .val (.long u3), .second, .val (.int u4), .val (.ref b101), .unset, .unset, .unset, .unset, .unset] [])
  refine own_by (g' := (mkF m 23 #[.val (.long u0), .second, .val (.long u1), .second, .val (.long u2), .second, .val (.long u3), .second, .val (.int u4), .val (.ref b101), .unset, .unset, .unset, .unset, .unset] [(.ref b101)])) (fun t k => XS.aload X104.here hx rfl (hb hby at_21) rfl rfl k) ?_
  refine own_by (g' := (mkF m 25 #[.val (.long u0), .second, .val (.long u1), .second, .val (.long u2), .second, .val (.long u3), .second, .val (.int u4), .val (.ref b101), .unset, .unset, .unset, .unset, .unset] [(.int (16 : Int32)), (.ref b101)])) (fun t k => XS.bipush X104.here hx rfl (hb hby at_23) k) ?_
  refine own_by (g' := (mkF m 27 #[.val (.long u0), .second, .val (.long u1), .second, .val (.long u2), .second, .val (.long u3), .second, .val (.int u4), .val (.ref b101), .unset, .unset, .unset, .unset, .unset] [(.long u2), (.int (16 : Int32)), (.ref b101)])) (fun t k => XS.lload X104.here hx rfl (hb hby at_25) rfl k) ?_
  refine own_callS X104 hx hZ hown (hw _ (List.mem_of_getElem? (i := 1) rfl)) (hw _ (List.mem_of_getElem? (i := 2) rfl)) (hw _ (List.mem_of_getElem? (i := 3) rfl)) (hw _ (List.mem_of_getElem? (i := 4) rfl)) (by decide) (own_put16 l Z a0 hw [] (b101) (u2) (k101) ((own_put (own_put ([(.int (0 : Int32)), (.int (0 : Int32)), (.int (0 : Int32)), (.int (0 : Int32)), (.int (0 : Int32)), (.int (0 : Int32)), (.int (0 : Int32)), (.int (0 : Int32)), (.int (0 : Int32)), (.int (0 : Int32)), (.int (0 : Int32)), (.int (0 : Int32)), (.int (0 : Int32)), (.int (0 : Int32)), (.int (0 : Int32)), (.int (0 : Int32)), (.int (0 : Int32)), (.int (0 : Int32)), (.int (0 : Int32)), (.int (0 : Int32)), (.int (0 : Int32)), (.int (0 : Int32)), (.int (0 : Int32)), (.int (0 : Int32)), (.int (0 : Int32)), (.int (0 : Int32)), (.int (0 : Int32)), (.int (0 : Int32)), (.int (0 : Int32)), (.int (0 : Int32)), (.int (0 : Int32)), (.int (0 : Int32))]) 0 u0) 8 u1)) T104.heap n0 (Nat.le_trans Z0 (Nat.le_trans (Nat.le_trans E101.1 K102.1) K104.1)) f105 (own_putLen _ _ _ (own_putLen _ _ _ rfl)) g_b101) 0 (by decide) (by decide) (by decide) (by decide) rfl (g := (mkF m 27 #[.val (.long u0), .second, .val (.long u1), .second, .val (.long u2), .second, .val (.long u3), .second, .val (.int u4), .val (.ref b101), .unset, .unset, .unset, .unset, .unset] [(.long u2), (.int (16 : Int32)), (.ref b101)])) rfl (by rw [hml]; rfl) (argsL := [(.ref b101), (.int (16 : Int32)), (.long u2)]) (rest := []) (lenOf own_pd2 rfl) rfl (by show 2 * 0 + _ ≤ _; exact Nat.le_of_eq rfl) (hb hby at_27) ?_
  intro v106 T106 L106 X106 q106
  obtain ⟨rfl, N106q, K106, f107⟩ := q106
  have N106 := Fr.app N104 N106q
  show own_Goes p e below s _ _ _ T106 (mkF m 30 #[.val (.long u0), .second, .val (.long u1), .second, .val (.long u2), .second, .val (.long u3), .second, .val (.int u4), .val (.ref b101), .unset, .unset, .unset, .unset, .unset] [])
  refine own_by (g' := (mkF m 32 #[.val (.long u0), .second, .val (.long u1), .second, .val (.long u2), .second, .val (.long u3), .second, .val (.int u4), .val (.ref b101), .unset, .unset, .unset, .unset, .unset] [(.ref b101)])) (fun t k => XS.aload X106.here hx rfl (hb hby at_30) rfl rfl k) ?_
  refine own_by (g' := (mkF m 34 #[.val (.long u0), .second, .val (.long u1), .second, .val (.long u2), .second, .val (.long u3), .second, .val (.int u4), .val (.ref b101), .unset, .unset, .unset, .unset, .unset] [(.int (24 : Int32)), (.ref b101)])) (fun t k => XS.bipush X106.here hx rfl (hb hby at_32) k) ?_
  refine own_by (g' := (mkF m 36 #[.val (.long u0), .second, .val (.long u1), .second, .val (.long u2), .second, .val (.long u3), .second, .val (.int u4), .val (.ref b101), .unset, .unset, .unset, .unset, .unset] [(.long u3), (.int (24 : Int32)), (.ref b101)])) (fun t k => XS.lload X106.here hx rfl (hb hby at_34) rfl k) ?_
  refine own_callS X106 hx hZ hown (hw _ (List.mem_of_getElem? (i := 1) rfl)) (hw _ (List.mem_of_getElem? (i := 2) rfl)) (hw _ (List.mem_of_getElem? (i := 3) rfl)) (hw _ (List.mem_of_getElem? (i := 4) rfl)) (by decide) (own_put24 l Z a0 hw [] (b101) (u3) (k101) ((own_put (own_put (own_put ([(.int (0 : Int32)), (.int (0 : Int32)), (.int (0 : Int32)), (.int (0 : Int32)), (.int (0 : Int32)), (.int (0 : Int32)), (.int (0 : Int32)), (.int (0 : Int32)), (.int (0 : Int32)), (.int (0 : Int32)), (.int (0 : Int32)), (.int (0 : Int32)), (.int (0 : Int32)), (.int (0 : Int32)), (.int (0 : Int32)), (.int (0 : Int32)), (.int (0 : Int32)), (.int (0 : Int32)), (.int (0 : Int32)), (.int (0 : Int32)), (.int (0 : Int32)), (.int (0 : Int32)), (.int (0 : Int32)), (.int (0 : Int32)), (.int (0 : Int32)), (.int (0 : Int32)), (.int (0 : Int32)), (.int (0 : Int32)), (.int (0 : Int32)), (.int (0 : Int32)), (.int (0 : Int32)), (.int (0 : Int32))]) 0 u0) 8 u1) 16 u2)) T106.heap n0 (Nat.le_trans Z0 (Nat.le_trans (Nat.le_trans (Nat.le_trans E101.1 K102.1) K104.1) K106.1)) f107 (own_putLen _ _ _ (own_putLen _ _ _ (own_putLen _ _ _ rfl))) g_b101) 0 (by decide) (by decide) (by decide) (by decide) rfl (g := (mkF m 36 #[.val (.long u0), .second, .val (.long u1), .second, .val (.long u2), .second, .val (.long u3), .second, .val (.int u4), .val (.ref b101), .unset, .unset, .unset, .unset, .unset] [(.long u3), (.int (24 : Int32)), (.ref b101)])) rfl (by rw [hml]; rfl) (argsL := [(.ref b101), (.int (24 : Int32)), (.long u3)]) (rest := []) (lenOf own_pd2 rfl) rfl (by show 2 * 0 + _ ≤ _; exact Nat.le_of_eq rfl) (hb hby at_36) ?_
  intro v108 T108 L108 X108 q108
  obtain ⟨rfl, N108q, K108, f109⟩ := q108
  have N108 := Fr.app N106 N108q
  show own_Goes p e below s _ _ _ T108 (mkF m 39 #[.val (.long u0), .second, .val (.long u1), .second, .val (.long u2), .second, .val (.long u3), .second, .val (.int u4), .val (.ref b101), .unset, .unset, .unset, .unset, .unset] [])
  have V110 : Arv Z T108.heap b101 k101 .byte (32 : Int32) (own_full u0 u1 u2 u3) (.int (0 : Int32)) := own_fullE u0 u1 u2 u3 ▸ f109
  refine own_by (g' := (mkF m 41 #[.val (.long u0), .second, .val (.long u1), .second, .val (.long u2), .second, .val (.long u3), .second, .val (.int u4), .val (.ref b101), .unset, .unset, .unset, .unset, .unset] [(.ref b101)])) (fun t k => XS.aload X108.here hx rfl (hb hby at_39) rfl rfl k) ?_
  have f111 := ((((Y101.keep K102).keep K104).keep K106).keep K108)
  refine own_callS X108 hx hZ hown (hw _ (List.mem_of_getElem? (i := 5) rfl)) (hw _ (List.mem_of_getElem? (i := 6) rfl)) (hw _ (List.mem_of_getElem? (i := 7) rfl)) (hw _ (List.mem_of_getElem? (i := 8) rfl)) (by decide) (own_fd l Z a0 hw [] (b101) (k101) ((own_full u0 u1 u2 u3)) T108.heap n0 (Nat.le_trans Z0 (Nat.le_trans (Nat.le_trans (Nat.le_trans (Nat.le_trans E101.1 K102.1) K104.1) K106.1) K108.1)) V110 f111) 0 (by decide) (by decide) (by decide) (by decide) rfl (g := (mkF m 41 #[.val (.long u0), .second, .val (.long u1), .second, .val (.long u2), .second, .val (.long u3), .second, .val (.int u4), .val (.ref b101), .unset, .unset, .unset, .unset, .unset] [(.ref b101)])) rfl (by rw [hml]; rfl) (argsL := [(.ref b101)]) (rest := []) (lenOf own_pd3 rfl) rfl (by show 2 * 0 + _ ≤ _; exact Nat.le_of_eq rfl) (hb hby at_41) ?_
  intro v112 T112 L112 X112 q112
  obtain ⟨bo112, ba112, rfl, N112q, K112, f113, f114, f115, f116, f117, f118⟩ := q112
  have N112 := Fr.app N108 N112q
  show own_Goes p e below s _ _ _ T112 (mkF m 44 #[.val (.long u0), .second, .val (.long u1), .second, .val (.long u2), .second, .val (.long u3), .second, .val (.int u4), .val (.ref b101), .unset, .unset, .unset, .unset, .unset] [(.ref bo112)])
  refine own_by (g' := (mkF m 46 #[.val (.long u0), .second, .val (.long u1), .second, .val (.long u2), .second, .val (.long u3), .second, .val (.int u4), .val (.ref b101), .val (.ref bo112), .unset, .unset, .unset, .unset] [])) (fun t k => XS.astore X112.here hx rfl (hb hby at_44) rfl rfl (l' := #[.val (.long u0), .second, .val (.long u1), .second, .val (.long u2), .second, .val (.long u3), .second, .val (.int u4), .val (.ref b101), .val (.ref bo112), .unset, .unset, .unset, .unset]) rfl k) ?_
  refine own_by (g' := (mkF m 48 #[.val (.long u0), .second, .val (.long u1), .second, .val (.long u2), .second, .val (.long u3), .second, .val (.int u4), .val (.ref b101), .val (.ref bo112), .unset, .unset, .unset, .unset] [(.int u4)])) (fun t k => XS.iload X112.here hx rfl (hb hby at_46) rfl k) ?_
  refine own_by (g' := (mkF m 50 #[.val (.long u0), .second, .val (.long u1), .second, .val (.long u2), .second, .val (.long u3), .second, .val (.int u4), .val (.ref b101), .val (.ref bo112), .unset, .unset, .unset, .unset] [(.int (31 : Int32)), (.int u4)])) (fun t k => XS.bipush X112.here hx rfl (hb hby at_48) k) ?_
  refine own_by (g' := (mkF m 51 #[.val (.long u0), .second, .val (.long u1), .second, .val (.long u2), .second, .val (.long u3), .second, .val (.int u4), .val (.ref b101), .val (.ref bo112), .unset, .unset, .unset, .unset] [(.int (u4 &&& (31 : Int32)))])) (fun t k => XS.iand X112.here hx rfl (hb hby at_50) rfl k) ?_
  generalize hv119 : (u4 &&& (31 : Int32)) = v119
  refine own_by (g' := (mkF m 53 #[.val (.long u0), .second, .val (.long u1), .second, .val (.long u2), .second, .val (.long u3), .second, .val (.int u4), .val (.ref b101), .val (.ref bo112), .val (.int v119), .unset, .unset, .unset] [])) (fun t k => XS.istore X112.here hx rfl (hb hby at_51) rfl (l' := #[.val (.long u0), .second, .val (.long u1), .second, .val (.long u2), .second, .val (.long u3), .second, .val (.int u4), .val (.ref b101), .val (.ref bo112), .val (.int v119), .unset, .unset, .unset]) rfl k) ?_
  refine own_by (g' := (mkF m 55 #[.val (.long u0), .second, .val (.long u1), .second, .val (.long u2), .second, .val (.long u3), .second, .val (.int u4), .val (.ref b101), .val (.ref bo112), .val (.int v119), .unset, .unset, .unset] [(.int u4)])) (fun t k => XS.iload X112.here hx rfl (hb hby at_53) rfl k) ?_
  refine own_by (g' := (mkF m 56 #[.val (.long u0), .second, .val (.long u1), .second, .val (.long u2), .second, .val (.long u3), .second, .val (.int u4), .val (.ref b101), .val (.ref bo112), .val (.int v119), .unset, .unset, .unset] [(.int (5 : Int32)), (.int u4)])) (fun t k => XS.iconst X112.here hx rfl (hb hby at_55) k) ?_
  refine own_by (g' := (mkF m 57 #[.val (.long u0), .second, .val (.long u1), .second, .val (.long u2), .second, .val (.long u3), .second, .val (.int u4), .val (.ref b101), .val (.ref bo112), .val (.int v119), .unset, .unset, .unset] [(.int ((u4).toUInt32 >>> ((5 : Int32) &&& 31).toUInt32).toInt32)])) (fun t k => XS.iushr X112.here hx rfl (hb hby at_56) rfl k) ?_
  refine own_by (g' := (mkF m 59 #[.val (.long u0), .second, .val (.long u1), .second, .val (.long u2), .second, .val (.long u3), .second, .val (.int u4), .val (.ref b101), .val (.ref bo112), .val (.int v119), .unset, .unset, .unset] [(.int (31 : Int32)), (.int ((u4).toUInt32 >>> ((5 : Int32) &&& 31).toUInt32).toInt32)])) (fun t k => XS.bipush X112.here hx rfl (hb hby at_57) k) ?_
  refine own_by (g' := (mkF m 60 #[.val (.long u0), .second, .val (.long u1), .second, .val (.long u2), .second, .val (.long u3), .second, .val (.int u4), .val (.ref b101), .val (.ref bo112), .val (.int v119), .unset, .unset, .unset] [(.int (((u4).toUInt32 >>> ((5 : Int32) &&& 31).toUInt32).toInt32 &&& (31 : Int32)))])) (fun t k => XS.iand X112.here hx rfl (hb hby at_59) rfl k) ?_
  generalize hv120 : (((u4).toUInt32 >>> ((5 : Int32) &&& 31).toUInt32).toInt32 &&& (31 : Int32)) = v120
  refine own_by (g' := (mkF m 62 #[.val (.long u0), .second, .val (.long u1), .second, .val (.long u2), .second, .val (.long u3), .second, .val (.int u4), .val (.ref b101), .val (.ref bo112), .val (.int v119), .val (.int v120), .unset, .unset] [])) (fun t k => XS.istore X112.here hx rfl (hb hby at_60) rfl (l' := #[.val (.long u0), .second, .val (.long u1), .second, .val (.long u2), .second, .val (.long u3), .second, .val (.int u4), .val (.ref b101), .val (.ref bo112), .val (.int v119), .val (.int v120), .unset, .unset]) rfl k) ?_
  refine own_by (g' := (mkF m 64 #[.val (.long u0), .second, .val (.long u1), .second, .val (.long u2), .second, .val (.long u3), .second, .val (.int u4), .val (.ref b101), .val (.ref bo112), .val (.int v119), .val (.int v120), .unset, .unset] [(.ref b101)])) (fun t k => XS.aload X112.here hx rfl (hb hby at_62) rfl rfl k) ?_
  refine own_by (g' := (mkF m 66 #[.val (.long u0), .second, .val (.long u1), .second, .val (.long u2), .second, .val (.long u3), .second, .val (.int u4), .val (.ref b101), .val (.ref bo112), .val (.int v119), .val (.int v120), .unset, .unset] [(.int v119), (.ref b101)])) (fun t k => XS.iload X112.here hx rfl (hb hby at_64) rfl k) ?_
  refine own_by (g' := (mkF m 68 #[.val (.long u0), .second, .val (.long u1), .second, .val (.long u2), .second, .val (.long u3), .second, .val (.int u4), .val (.ref b101), .val (.ref bo112), .val (.int v119), .val (.int v120), .unset, .unset] [(.ref b101), (.int v119), (.ref b101)])) (fun t k => XS.aload X112.here hx rfl (hb hby at_66) rfl rfl k) ?_
  refine own_by (g' := (mkF m 70 #[.val (.long u0), .second, .val (.long u1), .second, .val (.long u2), .second, .val (.long u3), .second, .val (.int u4), .val (.ref b101), .val (.ref bo112), .val (.int v119), .val (.int v120), .unset, .unset] [(.int v119), (.ref b101), (.int v119), (.ref b101)])) (fun t k => XS.iload X112.here hx rfl (hb hby at_68) rfl k) ?_
  have f121 := (V110.keep K112 nin0)
  obtain ⟨c122, Ar122, q122, S122, G122, H122, F122⟩ := id f121
  have hin122 : ¬ (v119 < 0 ∨ c122.slots.size ≤ (v119).toNatClampNeg) := inb_of S122 (by rw [← hv119]; exact own_in31 _)
  obtain ⟨y122, hat122⟩ := own_byteAt H122 F122 hin122
  refine own_by (g' := (mkF m 71 #[.val (.long u0), .second, .val (.long u1), .second, .val (.long u2), .second, .val (.long u3), .second, .val (.int u4), .val (.ref b101), .val (.ref bo112), .val (.int v119), .val (.int v120), .unset, .unset] [(.int y122), (.int v119), (.ref b101)])) (fun t k => X112.baloadBytes hx (j := v119) (v := (.int y122)) (own_at_ rfl Ar122.1) (State.isArrayOf_alike hZ.alike Ar122.2.1) Ar122.2.2 hin122 hat122 (g := (mkF m 70 #[.val (.long u0), .second, .val (.long u1), .second, .val (.long u2), .second, .val (.long u3), .second, .val (.int u4), .val (.ref b101), .val (.ref bo112), .val (.int v119), .val (.int v120), .unset, .unset] [(.int v119), (.ref b101), (.int v119), (.ref b101)])) rfl rfl (hb hby at_70) t k) ?_
  refine own_by (g' := (mkF m 72 #[.val (.long u0), .second, .val (.long u1), .second, .val (.long u2), .second, .val (.long u3), .second, .val (.int u4), .val (.ref b101), .val (.ref bo112), .val (.int v119), .val (.int v120), .unset, .unset] [(.int (1 : Int32)), (.int y122), (.int v119), (.ref b101)])) (fun t k => XS.iconst X112.here hx rfl (hb hby at_71) k) ?_
  refine own_by (g' := (mkF m 73 #[.val (.long u0), .second, .val (.long u1), .second, .val (.long u2), .second, .val (.long u3), .second, .val (.int u4), .val (.ref b101), .val (.ref bo112), .val (.int v119), .val (.int v120), .unset, .unset] [(.int (y122 ^^^ (1 : Int32))), (.int v119), (.ref b101)])) (fun t k => XS.ixor X112.here hx rfl (hb hby at_72) rfl k) ?_
  refine own_by (g' := (mkF m 74 #[.val (.long u0), .second, .val (.long u1), .second, .val (.long u2), .second, .val (.long u3), .second, .val (.int u4), .val (.ref b101), .val (.ref bo112), .val (.int v119), .val (.int v120), .unset, .unset] [(.int ((y122 ^^^ (1 : Int32))).toInt8.toInt32), (.int v119), (.ref b101)])) (fun t k => XS.i2b X112.here hx rfl (hb hby at_73) rfl k) ?_
  obtain ⟨c123, Ar123, q123, S123, G123, H123, F123⟩ := id f121
  have hin123 : ¬ (v119 < 0 ∨ c123.slots.size ≤ (v119).toNatClampNeg) := inb_of S123 (by rw [← hv119]; exact own_in31 _)
  obtain ⟨T123, h123, X123, e123, W123, st123⟩ := stB X112 hx hZ rfl Ar123 (j := v119) hin123 (g := (mkF m 74 #[.val (.long u0), .second, .val (.long u1), .second, .val (.long u2), .second, .val (.long u3), .second, .val (.int u4), .val (.ref b101), .val (.ref bo112), .val (.int v119), .val (.int v120), .unset, .unset] [(.int ((y122 ^^^ (1 : Int32))).toInt8.toInt32), (.int v119), (.ref b101)])) rfl rfl (hb hby at_74)
  have Al123 := own_Arz.same (⟨c123, Ar123, S123, G123⟩ : own_Arz Z _ b101 .byte (32 : Int32)) W123
  have N123 := Fr.snoc X123 N112 g_b101
  refine own_by (g' := (mkF m 75 #[.val (.long u0), .second, .val (.long u1), .second, .val (.long u2), .second, .val (.long u3), .second, .val (.int u4), .val (.ref b101), .val (.ref bo112), .val (.int v119), .val (.int v120), .unset, .unset] [])) st123 ?_
  refine own_by (g' := (mkF m 77 #[.val (.long u0), .second, .val (.long u1), .second, .val (.long u2), .second, .val (.long u3), .second, .val (.int u4), .val (.ref b101), .val (.ref bo112), .val (.int v119), .val (.int v120), .unset, .unset] [(.ref bo112)])) (fun t k => XS.aload X123.here hx rfl (hb hby at_75) rfl rfl k) ?_
  have f124 := (f116.other W123 (Or.inl (Ne.symm (Nat.ne_of_lt (Nat.lt_of_lt_of_le (Nat.lt_of_lt_of_le f111.lt (Nat.le_refl _)) f113)))))
  have f125 := (f117.other W123 (Ne.symm (Nat.ne_of_lt (Nat.lt_of_lt_of_le (Nat.lt_of_lt_of_le f111.lt (Nat.le_refl _)) f114))))
  have f126 := (f118.wr W123)
  have f127 := (f115.wr W123)
  refine own_callV X123 hx hZ hown (hw _ (List.mem_of_getElem? (i := 28) rfl)) (hw _ (List.mem_of_getElem? (i := 29) rfl)) (notFace_of_selects (args := #[]) (mvT hZ (hw _ (List.mem_of_getElem? (i := 31) rfl)))) (hw _ (List.mem_of_getElem? (i := 31) rfl)) (hw _ (List.mem_of_getElem? (i := 30) rfl)) (hw _ (List.mem_of_getElem? (i := 32) rfl)) (hw _ (List.mem_of_getElem? (i := 7) rfl)) (by decide) (a := bo112) f127 (own_bytes l Z a0 hw [] (bo112) (ba112) (k101) ((own_full u0 u1 u2 u3)) h123 n0 (Nat.le_trans Z0 (Nat.le_trans (Nat.le_trans (Nat.le_trans (Nat.le_trans (Nat.le_trans (Nat.le_trans E101.1 K102.1) K104.1) K106.1) K108.1) K112.1) (Nat.le_of_eq W123.size.symm))) f124 f125 f126) 0 (by decide) (by decide) (by decide) (by decide) e123 (g := (mkF m 77 #[.val (.long u0), .second, .val (.long u1), .second, .val (.long u2), .second, .val (.long u3), .second, .val (.int u4), .val (.ref b101), .val (.ref bo112), .val (.int v119), .val (.int v120), .unset, .unset] [(.ref bo112)])) rfl (by rw [hml]; rfl) (argsL := []) (rest := []) (lenOf own_pd4 rfl) rfl (by show 2 * 0 + _ ≤ _; exact Nat.le_of_eq rfl) (hb hby at_77) ?_
  intro v128 T128 L128 X128 q128
  obtain ⟨bo128, rfl, N128q, K128, f129, f130, f131⟩ := q128
  have N128 := Fr.app N123 N128q
  show own_Goes p e below s _ _ _ T128 (mkF m 80 #[.val (.long u0), .second, .val (.long u1), .second, .val (.long u2), .second, .val (.long u3), .second, .val (.int u4), .val (.ref b101), .val (.ref bo112), .val (.int v119), .val (.int v120), .unset, .unset] [(.ref bo128)])
  refine own_by (g' := (mkF m 82 #[.val (.long u0), .second, .val (.long u1), .second, .val (.long u2), .second, .val (.long u3), .second, .val (.int u4), .val (.ref b101), .val (.ref bo112), .val (.int v119), .val (.int v120), .val (.ref bo128), .unset] [])) (fun t k => XS.astore X128.here hx rfl (hb hby at_80) rfl rfl (l' := #[.val (.long u0), .second, .val (.long u1), .second, .val (.long u2), .second, .val (.long u3), .second, .val (.int u4), .val (.ref b101), .val (.ref bo112), .val (.int v119), .val (.int v120), .val (.ref bo128), .unset]) rfl k) ?_
  refine own_by (g' := (mkF m 84 #[.val (.long u0), .second, .val (.long u1), .second, .val (.long u2), .second, .val (.long u3), .second, .val (.int u4), .val (.ref b101), .val (.ref bo112), .val (.int v119), .val (.int v120), .val (.ref bo128), .unset] [(.ref bo128)])) (fun t k => XS.aload X128.here hx rfl (hb hby at_82) rfl rfl k) ?_
  refine own_by (g' := (mkF m 85 #[.val (.long u0), .second, .val (.long u1), .second, .val (.long u2), .second, .val (.long u3), .second, .val (.int u4), .val (.ref b101), .val (.ref bo112), .val (.int v119), .val (.int v120), .val (.ref bo128), .unset] [(.long u0), (.ref bo128)])) (fun t k => XS.lloadN X128.here hx rfl (hb hby at_84) rfl k) ?_
  refine own_by (g' := (mkF m 86 #[.val (.long u0), .second, .val (.long u1), .second, .val (.long u2), .second, .val (.long u3), .second, .val (.int u4), .val (.ref b101), .val (.ref bo112), .val (.int v119), .val (.int v120), .val (.ref bo128), .unset] [(.long u1), (.long u0), (.ref bo128)])) (fun t k => XS.lloadN X128.here hx rfl (hb hby at_85) rfl k) ?_
  refine own_by (g' := (mkF m 88 #[.val (.long u0), .second, .val (.long u1), .second, .val (.long u2), .second, .val (.long u3), .second, .val (.int u4), .val (.ref b101), .val (.ref bo112), .val (.int v119), .val (.int v120), .val (.ref bo128), .unset] [(.long u2), (.long u1), (.long u0), (.ref bo128)])) (fun t k => XS.lload X128.here hx rfl (hb hby at_86) rfl k) ?_
  refine own_by (g' := (mkF m 90 #[.val (.long u0), .second, .val (.long u1), .second, .val (.long u2), .second, .val (.long u3), .second, .val (.int u4), .val (.ref b101), .val (.ref bo112), .val (.int v119), .val (.int v120), .val (.ref bo128), .unset] [(.long u3), (.long u2), (.long u1), (.long u0), (.ref bo128)])) (fun t k => XS.lload X128.here hx rfl (hb hby at_88) rfl k) ?_
  refine own_callS X128 hx hZ hown (hw _ (List.mem_of_getElem? (i := 33) rfl)) (hw _ (List.mem_of_getElem? (i := 34) rfl)) (hw _ (List.mem_of_getElem? (i := 3) rfl)) (hw _ (List.mem_of_getElem? (i := 35) rfl)) (by decide) (own_all l Z a0 hw [] (bo128) (u0) (u1) (u2) (u3) (k101) T128.heap n0 (Nat.le_trans Z0 (Nat.le_trans (Nat.le_trans (Nat.le_trans (Nat.le_trans (Nat.le_trans (Nat.le_trans (Nat.le_trans E101.1 K102.1) K104.1) K106.1) K108.1) K112.1) (Nat.le_of_eq W123.size.symm)) K128.1)) f130) 0 (by decide) (by decide) (by decide) (by decide) rfl (g := (mkF m 90 #[.val (.long u0), .second, .val (.long u1), .second, .val (.long u2), .second, .val (.long u3), .second, .val (.int u4), .val (.ref b101), .val (.ref bo112), .val (.int v119), .val (.int v120), .val (.ref bo128), .unset] [(.long u3), (.long u2), (.long u1), (.long u0), (.ref bo128)])) rfl (by rw [hml]; rfl) (argsL := [(.ref bo128), (.long u0), (.long u1), (.long u2), (.long u3)]) (rest := []) (lenOf own_pd5 rfl) rfl (by show 2 * 0 + _ ≤ _; exact Nat.le_of_eq rfl) (hb hby at_90) ?_
  intro v132 T132 L132 X132 q132
  obtain ⟨rfl, N132q, e132⟩ := q132
  have N132 := Fr.app N128 N132q
  show own_Goes p e below s _ _ _ T132 (mkF m 93 #[.val (.long u0), .second, .val (.long u1), .second, .val (.long u2), .second, .val (.long u3), .second, .val (.int u4), .val (.ref b101), .val (.ref bo112), .val (.int v119), .val (.int v120), .val (.ref bo128), .unset] [(.int (1 : Int32))])
  refine own_by (g' := (mkF m 98 #[.val (.long u0), .second, .val (.long u1), .second, .val (.long u2), .second, .val (.long u3), .second, .val (.int u4), .val (.ref b101), .val (.ref bo112), .val (.int v119), .val (.int v120), .val (.ref bo128), .unset] [])) (fun t k => XS.ifYes X132.here hx rfl (pc0 := 93) (pc' := 98) rfl (hb hby at_93) rfl ((if0 _ _).trans (feq (by decide : ¬ ((1 : Int32) = (0 : Int32)))).2) (by decide) (by decide) k) ?_
  refine own_by (g' := (mkF m 100 #[.val (.long u0), .second, .val (.long u1), .second, .val (.long u2), .second, .val (.long u3), .second, .val (.int u4), .val (.ref b101), .val (.ref bo112), .val (.int v119), .val (.int v120), .val (.ref bo128), .unset] [(.ref bo128)])) (fun t k => XS.aload X132.here hx rfl (hb hby at_98) rfl rfl k) ?_
  refine own_by (g' := (mkF m 102 #[.val (.long u0), .second, .val (.long u1), .second, .val (.long u2), .second, .val (.long u3), .second, .val (.int u4), .val (.ref b101), .val (.ref bo112), .val (.int v119), .val (.int v120), .val (.ref bo128), .unset] [(.int v120), (.ref bo128)])) (fun t k => XS.iload X132.here hx rfl (hb hby at_100) rfl k) ?_
  refine own_by (g' := (mkF m 104 #[.val (.long u0), .second, .val (.long u1), .second, .val (.long u2), .second, .val (.long u3), .second, .val (.int u4), .val (.ref b101), .val (.ref bo112), .val (.int v119), .val (.int v120), .val (.ref bo128), .unset] [(.ref bo128), (.int v120), (.ref bo128)])) (fun t k => XS.aload X132.here hx rfl (hb hby at_102) rfl rfl k) ?_
  refine own_by (g' := (mkF m 106 #[.val (.long u0), .second, .val (.long u1), .second, .val (.long u2), .second, .val (.long u3), .second, .val (.int u4), .val (.ref b101), .val (.ref bo112), .val (.int v119), .val (.int v120), .val (.ref bo128), .unset] [(.int v120), (.ref bo128), (.int v120), (.ref bo128)])) (fun t k => XS.iload X132.here hx rfl (hb hby at_104) rfl k) ?_
  obtain ⟨c133, Ar133, q133, S133, G133, H133, F133⟩ := id f130
  have hin133 : ¬ (v120 < 0 ∨ c133.slots.size ≤ (v120).toNatClampNeg) := inb_of S133 (by rw [← hv120]; exact own_in31 _)
  obtain ⟨y133, hat133⟩ := own_byteAt H133 F133 hin133
  refine own_by (g' := (mkF m 107 #[.val (.long u0), .second, .val (.long u1), .second, .val (.long u2), .second, .val (.long u3), .second, .val (.int u4), .val (.ref b101), .val (.ref bo112), .val (.int v119), .val (.int v120), .val (.ref bo128), .unset] [(.int y133), (.int v120), (.ref bo128)])) (fun t k => X132.baloadBytes hx (j := v120) (v := (.int y133)) (own_at_ e132 Ar133.1) (State.isArrayOf_alike hZ.alike Ar133.2.1) Ar133.2.2 hin133 hat133 (g := (mkF m 106 #[.val (.long u0), .second, .val (.long u1), .second, .val (.long u2), .second, .val (.long u3), .second, .val (.int u4), .val (.ref b101), .val (.ref bo112), .val (.int v119), .val (.int v120), .val (.ref bo128), .unset] [(.int v120), (.ref bo128), (.int v120), (.ref bo128)])) rfl rfl (hb hby at_106) t k) ?_
  refine own_by (g' := (mkF m 108 #[.val (.long u0), .second, .val (.long u1), .second, .val (.long u2), .second, .val (.long u3), .second, .val (.int u4), .val (.ref b101), .val (.ref bo112), .val (.int v119), .val (.int v120), .val (.ref bo128), .unset] [(.int (1 : Int32)), (.int y133), (.int v120), (.ref bo128)])) (fun t k => XS.iconst X132.here hx rfl (hb hby at_107) k) ?_
  refine own_by (g' := (mkF m 109 #[.val (.long u0), .second, .val (.long u1), .second, .val (.long u2), .second, .val (.long u3), .second, .val (.int u4), .val (.ref b101), .val (.ref bo112), .val (.int v119), .val (.int v120), .val (.ref bo128), .unset] [(.int (y133 ^^^ (1 : Int32))), (.int v120), (.ref bo128)])) (fun t k => XS.ixor X132.here hx rfl (hb hby at_108) rfl k) ?_
  refine own_by (g' := (mkF m 110 #[.val (.long u0), .second, .val (.long u1), .second, .val (.long u2), .second, .val (.long u3), .second, .val (.int u4), .val (.ref b101), .val (.ref bo112), .val (.int v119), .val (.int v120), .val (.ref bo128), .unset] [(.int ((y133 ^^^ (1 : Int32))).toInt8.toInt32), (.int v120), (.ref bo128)])) (fun t k => XS.i2b X132.here hx rfl (hb hby at_109) rfl k) ?_
  obtain ⟨c134, Ar134, q134, S134, G134, H134, F134⟩ := id f130
  have hin134 : ¬ (v120 < 0 ∨ c134.slots.size ≤ (v120).toNatClampNeg) := inb_of S134 (by rw [← hv120]; exact own_in31 _)
  obtain ⟨T134, h134, X134, e134, W134, st134⟩ := stB X132 hx hZ e132 Ar134 (j := v120) hin134 (g := (mkF m 110 #[.val (.long u0), .second, .val (.long u1), .second, .val (.long u2), .second, .val (.long u3), .second, .val (.int u4), .val (.ref b101), .val (.ref bo112), .val (.int v119), .val (.int v120), .val (.ref bo128), .unset] [(.int ((y133 ^^^ (1 : Int32))).toInt8.toInt32), (.int v120), (.ref bo128)])) rfl rfl (hb hby at_110)
  have Al134 := own_Arz.same (⟨c134, Ar134, S134, G134⟩ : own_Arz Z _ bo128 .byte (32 : Int32)) W134
  have N134 := Fr.snoc X134 N132 (Nat.le_trans (Nat.le_trans Z0 (Nat.le_trans (Nat.le_trans (Nat.le_trans (Nat.le_trans (Nat.le_trans (Nat.le_trans E101.1 K102.1) K104.1) K106.1) K108.1) K112.1) (Nat.le_of_eq W123.size.symm))) f129)
  refine own_by (g' := (mkF m 111 #[.val (.long u0), .second, .val (.long u1), .second, .val (.long u2), .second, .val (.long u3), .second, .val (.int u4), .val (.ref b101), .val (.ref bo112), .val (.int v119), .val (.int v120), .val (.ref bo128), .unset] [])) st134 ?_
  refine own_by (g' := (mkF m 113 #[.val (.long u0), .second, .val (.long u1), .second, .val (.long u2), .second, .val (.long u3), .second, .val (.int u4), .val (.ref b101), .val (.ref bo112), .val (.int v119), .val (.int v120), .val (.ref bo128), .unset] [(.ref bo112)])) (fun t k => XS.aload X134.here hx rfl (hb hby at_111) rfl rfl k) ?_
  have f135 := ((f124.keep K128 nin0).other W134 (Or.inl (Nat.ne_of_lt (Nat.lt_of_lt_of_le (Nat.lt_of_lt_of_le f127.lt (Nat.le_refl _)) f129))))
  have f136 := ((f125.keep K128 nin0).other W134 (Nat.ne_of_lt (Nat.lt_of_lt_of_le (Nat.lt_of_lt_of_le f125.lt (Nat.le_refl _)) f129)))
  have f137 := ((f126.keep K128).wr W134)
  have f138 := ((f127.keep K128).wr W134)
  refine own_callV X134 hx hZ hown (hw _ (List.mem_of_getElem? (i := 28) rfl)) (hw _ (List.mem_of_getElem? (i := 29) rfl)) (notFace_of_selects (args := #[]) (mvT hZ (hw _ (List.mem_of_getElem? (i := 31) rfl)))) (hw _ (List.mem_of_getElem? (i := 31) rfl)) (hw _ (List.mem_of_getElem? (i := 30) rfl)) (hw _ (List.mem_of_getElem? (i := 32) rfl)) (hw _ (List.mem_of_getElem? (i := 7) rfl)) (by decide) (a := bo112) f138 (own_bytes l Z a0 hw [] (bo112) (ba112) (k101) ((own_full u0 u1 u2 u3)) h134 n0 (Nat.le_trans Z0 (Nat.le_trans (Nat.le_trans (Nat.le_trans (Nat.le_trans (Nat.le_trans (Nat.le_trans (Nat.le_trans (Nat.le_trans E101.1 K102.1) K104.1) K106.1) K108.1) K112.1) (Nat.le_of_eq W123.size.symm)) K128.1) (Nat.le_of_eq W134.size.symm))) f135 f136 f137) 0 (by decide) (by decide) (by decide) (by decide) e134 (g := (mkF m 113 #[.val (.long u0), .second, .val (.long u1), .second, .val (.long u2), .second, .val (.long u3), .second, .val (.int u4), .val (.ref b101), .val (.ref bo112), .val (.int v119), .val (.int v120), .val (.ref bo128), .unset] [(.ref bo112)])) rfl (by rw [hml]; rfl) (argsL := []) (rest := []) (lenOf own_pd4 rfl) rfl (by show 2 * 0 + _ ≤ _; exact Nat.le_of_eq rfl) (hb hby at_113) ?_
  intro v139 T139 L139 X139 q139
  obtain ⟨bo139, rfl, N139q, K139, f140, f141, f142⟩ := q139
  have N139 := Fr.app N134 N139q
  show own_Goes p e below s _ _ _ T139 (mkF m 116 #[.val (.long u0), .second, .val (.long u1), .second, .val (.long u2), .second, .val (.long u3), .second, .val (.int u4), .val (.ref b101), .val (.ref bo112), .val (.int v119), .val (.int v120), .val (.ref bo128), .unset] [(.ref bo139)])
  refine own_by (g' := (mkF m 118 #[.val (.long u0), .second, .val (.long u1), .second, .val (.long u2), .second, .val (.long u3), .second, .val (.int u4), .val (.ref b101), .val (.ref bo112), .val (.int v119), .val (.int v120), .val (.ref bo128), .val (.ref bo139)] [])) (fun t k => XS.astore X139.here hx rfl (hb hby at_116) rfl rfl (l' := #[.val (.long u0), .second, .val (.long u1), .second, .val (.long u2), .second, .val (.long u3), .second, .val (.int u4), .val (.ref b101), .val (.ref bo112), .val (.int v119), .val (.int v120), .val (.ref bo128), .val (.ref bo139)]) rfl k) ?_
  refine own_by (g' := (mkF m 120 #[.val (.long u0), .second, .val (.long u1), .second, .val (.long u2), .second, .val (.long u3), .second, .val (.int u4), .val (.ref b101), .val (.ref bo112), .val (.int v119), .val (.int v120), .val (.ref bo128), .val (.ref bo139)] [(.ref bo139)])) (fun t k => XS.aload X139.here hx rfl (hb hby at_118) rfl rfl k) ?_
  refine own_by (g' := (mkF m 121 #[.val (.long u0), .second, .val (.long u1), .second, .val (.long u2), .second, .val (.long u3), .second, .val (.int u4), .val (.ref b101), .val (.ref bo112), .val (.int v119), .val (.int v120), .val (.ref bo128), .val (.ref bo139)] [(.long u0), (.ref bo139)])) (fun t k => XS.lloadN X139.here hx rfl (hb hby at_120) rfl k) ?_
  refine own_by (g' := (mkF m 122 #[.val (.long u0), .second, .val (.long u1), .second, .val (.long u2), .second, .val (.long u3), .second, .val (.int u4), .val (.ref b101), .val (.ref bo112), .val (.int v119), .val (.int v120), .val (.ref bo128), .val (.ref bo139)] [(.long u1), (.long u0), (.ref bo139)])) (fun t k => XS.lloadN X139.here hx rfl (hb hby at_121) rfl k) ?_
  refine own_by (g' := (mkF m 124 #[.val (.long u0), .second, .val (.long u1), .second, .val (.long u2), .second, .val (.long u3), .second, .val (.int u4), .val (.ref b101), .val (.ref bo112), .val (.int v119), .val (.int v120), .val (.ref bo128), .val (.ref bo139)] [(.long u2), (.long u1), (.long u0), (.ref bo139)])) (fun t k => XS.lload X139.here hx rfl (hb hby at_122) rfl k) ?_
  refine own_by (g' := (mkF m 126 #[.val (.long u0), .second, .val (.long u1), .second, .val (.long u2), .second, .val (.long u3), .second, .val (.int u4), .val (.ref b101), .val (.ref bo112), .val (.int v119), .val (.int v120), .val (.ref bo128), .val (.ref bo139)] [(.long u3), (.long u2), (.long u1), (.long u0), (.ref bo139)])) (fun t k => XS.lload X139.here hx rfl (hb hby at_124) rfl k) ?_
  refine own_callS X139 hx hZ hown (hw _ (List.mem_of_getElem? (i := 33) rfl)) (hw _ (List.mem_of_getElem? (i := 34) rfl)) (hw _ (List.mem_of_getElem? (i := 3) rfl)) (hw _ (List.mem_of_getElem? (i := 35) rfl)) (by decide) (own_all l Z a0 hw [] (bo139) (u0) (u1) (u2) (u3) (k101) T139.heap n0 (Nat.le_trans Z0 (Nat.le_trans (Nat.le_trans (Nat.le_trans (Nat.le_trans (Nat.le_trans (Nat.le_trans (Nat.le_trans (Nat.le_trans (Nat.le_trans E101.1 K102.1) K104.1) K106.1) K108.1) K112.1) (Nat.le_of_eq W123.size.symm)) K128.1) (Nat.le_of_eq W134.size.symm)) K139.1)) f141) 0 (by decide) (by decide) (by decide) (by decide) rfl (g := (mkF m 126 #[.val (.long u0), .second, .val (.long u1), .second, .val (.long u2), .second, .val (.long u3), .second, .val (.int u4), .val (.ref b101), .val (.ref bo112), .val (.int v119), .val (.int v120), .val (.ref bo128), .val (.ref bo139)] [(.long u3), (.long u2), (.long u1), (.long u0), (.ref bo139)])) rfl (by rw [hml]; rfl) (argsL := [(.ref bo139), (.long u0), (.long u1), (.long u2), (.long u3)]) (rest := []) (lenOf own_pd5 rfl) rfl (by show 2 * 0 + _ ≤ _; exact Nat.le_of_eq rfl) (hb hby at_126) ?_
  intro v143 T143 L143 X143 q143
  obtain ⟨rfl, N143q, e143⟩ := q143
  have N143 := Fr.app N139 N143q
  show own_Goes p e below s _ _ _ T143 (mkF m 129 #[.val (.long u0), .second, .val (.long u1), .second, .val (.long u2), .second, .val (.long u3), .second, .val (.int u4), .val (.ref b101), .val (.ref bo112), .val (.int v119), .val (.int v120), .val (.ref bo128), .val (.ref bo139)] [(.int (1 : Int32))])
  refine own_retN X143 hx hlk hret (t := .boolean) (by simp) (hb hby at_129) (by decide) (by decide) ?_
  rw [e143]
  exact ⟨rfl, N143, (((((((((((Keep.refl h0 []).ext E101).trans K102 (allS (Or.inr sz_b101) all0)).trans K104 (allS (Or.inr sz_b101) all0)).trans K106 (allS (Or.inr sz_b101) all0)).trans K108 (allS (Or.inr sz_b101) all0)).trans K112 all0).wr W123 (Or.inr sz_b101)).trans K128 all0).wr W134 (Or.inr (Nat.le_trans (Nat.le_trans (Nat.le_trans (Nat.le_trans (Nat.le_trans (Nat.le_trans (Nat.le_trans E101.1 K102.1) K104.1) K106.1) K108.1) K112.1) (Nat.le_of_eq W123.size.symm)) f129))).trans K139 all0)⟩
set_option maxRecDepth 65536 in
set_option maxHeartbeats 40000000 in
theorem comes_1 {Post : Tables → Env → Array Value → State → Outcome → State → Prop} (hpost : ∀ tb e args s v u, (limb_1_1.after args s (.returned v) u = true ∧ limb_1_2.after args s (.returned v) u = true ∧ True) → FrameEnd s (.returned v) u (Jvm.fieldLocs frame_1_writes args s ++ Jvm.arrayLocs frame_1_arrays args s ++ Jvm.staticLocs frame_1_statics s) 24 384 → Post tb e args s (.returned v) u) :
    ArmFor flags0 classFile x code maxLocals ret World_1 tables_1 room_1 Calls_1 rest_1 Pre_1 Post := by
  intro l hfl _ _ p e ha hc hk s m args below hf hA hF happ hP
  obtain ⟨hcalls, hrest, hpre⟩ := hP
  obtain ⟨-, -, -, hnamed, -, -, -, hat⟩ := (Spec.applies_iff hf).mp happ
  obtain ⟨hg, hn⟩ := and_e (Cond.before_iff.mp (show (Jvm.Cond.and given_1 narrow_1).before args s = true from hpre))
  obtain ⟨ga1, gb1⟩ := and_e hg
  obtain ⟨ga2, gb2⟩ := and_e gb1
  obtain ⟨ga3, gb3⟩ := and_e gb2
  obtain ⟨ga4, gb4⟩ := and_e gb3
  obtain ⟨ga5, gb5⟩ := and_e gb4
  obtain ⟨w0, w1, w2, w3, w4, rfl⟩ : ∃ w0 w1 w2 w3 w4 : Value, args = #[w0, w1, w2, w3, w4] := by
    have hs : args.size = 5 := by simpa [Cond.value, given_1] using ga1
    obtain ⟨L⟩ := args
    match L, hs with
    | [w0, w1, w2, w3, w4], _ => exact ⟨w0, w1, w2, w3, w4, rfl⟩
  have hw := fun d (hd : d ∈ tables_1) => atoms_spec (ws := Jvm.Cond.code x code maxLocals ret :: tables_1) hat d (List.mem_cons_of_mem _ hd)
  have hfit : Fit s := fun {y c} hc i hi => by
    obtain ⟨ha, rfl⟩ := Array.getElem?_eq_some_iff.mp hc
    have q := List.all_eq_true.mp ((Array.all_eq_true_iff_forall_mem.mp hF) _ (Array.getElem_mem ha)) i (List.mem_range.mpr hi)
    simpa [Array.getElem?_eq_getElem hi] using q
  obtain ⟨i0, ei0⟩ := isL_v ga2
  obtain rfl : w0 = (.long i0) := Option.some.inj ei0
  obtain ⟨i1, ei1⟩ := isL_v ga3
  obtain rfl : w1 = (.long i1) := Option.some.inj ei1
  obtain ⟨i2, ei2⟩ := isL_v ga4
  obtain rfl : w2 = (.long i2) := Option.some.inj ei2
  obtain ⟨i3, ei3⟩ := isL_v ga5
  obtain rfl : w3 = (.long i3) := Option.some.inj ei3
  obtain ⟨i4, ei4⟩ := is_v gb5
  obtain rfl : w4 = (.int i4) := Option.some.inj ei4
  obtain ⟨n, o, h1, h2, h3, _, L, rfl, ⟨rfl, N, -⟩, hq⟩ := own_law l s _ hw tables_1 i0 i1 i2 i3 i4 s.heap s.heap.size (Nat.le_refl _)  p e ha hc hk s m _ below hf ((Spec.applies_iff_loose hf).mp happ).1 ⟨rfl, State.Warmed39.refl s, rfl⟩ trivial
  exact ⟨n, _, h1, h2, h3, hpost _ _ _ _ _ _ ⟨Cond.after_iff.mpr rfl, Cond.after_iff.mpr (eq_i res_at (Term.int_eval (1)) rfl), trivial⟩ ⟨hq.1, hq.2.1, (hq.2.2.sift fun y hy => Or.inr (N y hy)).mono (by decide) (by decide)⟩⟩
theorem main_1_1 : Claimed_1_1 := comes_1 fun _ _ _ _ _ _ h hF => ⟨h.1, hF⟩
theorem main_1_2 : Claimed_1_2 := comes_1 fun _ _ _ _ _ _ h hF => ⟨h.2.1, hF⟩
end Jvm.Pilot.@@N@@
namespace Jvm.Pilot.@@N@@
open Jvm Jvm.ClassFile Sem Op Lib Jvm.Free Jvm.Stand Jvm.Pilot.@@N@@.Jvm.D
/-! MADE BY PROGRAM (witnessworld.py) out of the Statement's table words and the real class files: 9 classes; the members and pool entries that the words name. The judged class is class 1, her method 4. -/
namespace start1
open Jvm.ClassFile
def u (s : String) : CpInfo := .utf8 (stringToUtf16 s)
/-- a pool by its gaps: so many unusable entries, then the entry; so many at the end -/
def gap : Nat → List CpInfo → List CpInfo
  | 0, r => r
  | n + 1, r => .unusable :: gap n r
def poolList (es : List (Nat × CpInfo)) (last : Nat) : List CpInfo := es.foldr (fun e r => gap e.1 (e.2 :: r)) (gap last [])
def pool (es : List (Nat × CpInfo)) (last : Nat) : Array CpInfo := ⟨poolList es last⟩
def fileOf (pool : Array CpInfo) (this : Nat) (attrs : Array Attribute := #[]) (ms : Array MethodInfo := #[]) (fl : Nat := 33) (sup : Nat := 0) (ifs : Array Nat := #[]) (fds : Array FieldInfo := #[]) : ClassFile where
  minorVersion := 0
  majorVersion := 65
  constantPool := pool
  accessFlags := fl
  thisClass := this
  superClass := sup
  interfaces := ifs
  fields := fds
  methods := ms
  attributes := attrs
def plain (name : String) (sup : Option ClassId) : Class where
  name := name
  kind := .ordinary
  loader := none
  accessFlags := 33
  super := sup
  interfaces := #[]
  cf := none
  fields := #[]
  methods := #[]
  instanceTypes := #[]
  staticTypes := #[]
  resolved := #[]
  callSites := []
  init := .initialized
  statics := none
  mirror := none

def pool0 : Array CpInfo := pool [(5, u "<init>"), (0, u "()V"), (1, .class_ 10), (1, u "java/lang/Object"), (85, u "clone"), (0, u "()Ljava/lang/Object;")] 26

def k0c0 : Code := { maxStack := 0, maxLocals := 1, code := object_method_1_code, exceptionTable := #[], attributes := #[] }
def k0m0 : Method := { name := "<init>", desc := "()V", sig := { parameters := [], returnType := none }, accessFlags := 1, code := some k0c0 }
def k0m1 : Method := { name := "clone", desc := "()Ljava/lang/Object;", sig := { parameters := [], returnType := some (.object "java/lang/Object") }, accessFlags := 260, code := none }
/-- java/lang/Object -/
def k0 : Class := { plain "java/lang/Object" none with
  accessFlags := 33
  interfaces := #[]
  cf := some (fileOf pool0 8 #[] #[{ accessFlags := 1, nameIndex := 5, descriptorIndex := 6, attributes := #[] }, { accessFlags := 260, nameIndex := 96, descriptorIndex := 97, attributes := #[] }] 33 0 #[] #[])
  fields := #[]
  methods := #[k0m0, k0m1]
  instanceTypes := #[]
  staticTypes := #[]
  resolved := Array.replicate 124 none
  statics := none }

def pool1 : Array CpInfo := pool [(2, .class_ 4), (1, u "java/lang/Object"), (0, u "<init>"), (0, u "()V"), (0, .methodref 8 9), (0, .class_ 10), (0, .nameAndType 11 12), (0, u "com/example/idemnity/idemnity/model/Sha256FromDigestPinLaw"), (0, u "same"), (0, u "([BIJ)Z"), (0, .methodref 8 14), (0, .nameAndType 15 16), (0, u "put"), (0, u "([BIJ)V"), (0, .methodref 18 19), (0, .class_ 20), (0, .nameAndType 21 22), (0, u "com/example/idemnity/idemnity/model/Sha256"), (0, u "fromDigest"), (0, u "([B)Lcom/example/idemnity/idemnity/model/Sha256;"), (0, .methodref 18 24), (0, .nameAndType 25 26), (0, u "bytes"), (0, u "()[B"), (0, .methodref 8 28), (0, .nameAndType 29 30), (0, u "all"), (0, u "([BJJJJ)Z"), (3, u "law"), (0, u "(JJJJI)Z")] 4

def k1m0 : Method := { name := "<init>", desc := "()V", sig := { parameters := [], returnType := none }, accessFlags := 1, code := none }
def k1c1 : Code := { maxStack := 5, maxLocals := 4, code := method_2_code, exceptionTable := #[], attributes := #[] }
def k1m1 : Method := { name := "put", desc := "([BIJ)V", sig := { parameters := [(.array .byte), .int, .long], returnType := none }, accessFlags := 10, code := some k1c1 }
def k1c2 : Code := { maxStack := 4, maxLocals := 4, code := method_3_code, exceptionTable := #[], attributes := #[] }
def k1m2 : Method := { name := "same", desc := "([BIJ)Z", sig := { parameters := [(.array .byte), .int, .long], returnType := some .boolean }, accessFlags := 10, code := some k1c2 }
def k1c3 : Code := { maxStack := 4, maxLocals := 9, code := method_4_code, exceptionTable := #[], attributes := #[] }
def k1m3 : Method := { name := "all", desc := "([BJJJJ)Z", sig := { parameters := [(.array .byte), .long, .long, .long, .long], returnType := some .boolean }, accessFlags := 10, code := some k1c3 }
def k1c4 : Code := { maxStack := 9, maxLocals := 15, code := code, exceptionTable := #[], attributes := #[] }
def k1m4 : Method := { name := "law", desc := "(JJJJI)Z", sig := { parameters := [.long, .long, .long, .long, .int], returnType := some .boolean }, accessFlags := 9, code := some k1c4 }
/-- com/example/idemnity/idemnity/model/Sha256FromDigestPinLaw -/
def k1 : Class := { plain "com/example/idemnity/idemnity/model/Sha256FromDigestPinLaw" (some 0) with
  accessFlags := 49
  interfaces := #[]
  cf := some (fileOf pool1 8 #[] #[{ accessFlags := 1, nameIndex := 5, descriptorIndex := 6, attributes := #[] }, { accessFlags := 10, nameIndex := 15, descriptorIndex := 16, attributes := #[] }, { accessFlags := 10, nameIndex := 11, descriptorIndex := 12, attributes := #[] }, { accessFlags := 10, nameIndex := 29, descriptorIndex := 30, attributes := #[] }, { accessFlags := 9, nameIndex := 34, descriptorIndex := 35, attributes := #[] }] 49 2 #[] #[])
  fields := #[]
  methods := #[k1m0, k1m1, k1m2, k1m3, k1m4]
  instanceTypes := #[]
  staticTypes := #[]
  resolved := Array.replicate 40 none
  statics := none }

def pool2 : Array CpInfo := pool [(1, .methodref 2 3), (0, .class_ 4), (0, .nameAndType 5 6), (0, u "java/lang/Object"), (0, u "<init>"), (0, u "()V"), (0, .fieldref 8 9), (0, .class_ 10), (0, .nameAndType 11 12), (0, u "com/example/idemnity/idemnity/model/Sha256"), (0, u "digest"), (0, u "[B"), (2, u "ENGINE"), (0, u "Ljava/lang/ThreadLocal;"), (5, u "()Ljava/lang/Object;"), (5, u "([B)V"), (2, u "()[B"), (0, .methodref 8 33), (0, .nameAndType 5 28), (22, .methodref 57 58), (0, .class_ 12), (0, .nameAndType 59 22), (0, u "clone"), (17, u "LENGTH"), (0, u "I"), (13, u "fromDigest"), (0, u "([B)Lcom/example/idemnity/idemnity/model/Sha256;"), (0, u "bytes")] 33

def k2c0 : Code := { maxStack := 2, maxLocals := 2, code := prog_14_method_1_code, exceptionTable := #[], attributes := #[] }
def k2m0 : Method := { name := "<init>", desc := "([B)V", sig := { parameters := [(.array .byte)], returnType := none }, accessFlags := 2, code := some k2c0 }
def k2c1 : Code := { maxStack := 3, maxLocals := 1, code := prog_14_method_4_code, exceptionTable := #[], attributes := #[] }
def k2m1 : Method := { name := "fromDigest", desc := "([B)Lcom/example/idemnity/idemnity/model/Sha256;", sig := { parameters := [(.array .byte)], returnType := some (.object "com/example/idemnity/idemnity/model/Sha256") }, accessFlags := 9, code := some k2c1 }
def k2c2 : Code := { maxStack := 1, maxLocals := 1, code := prog_14_method_5_code, exceptionTable := #[], attributes := #[] }
def k2m2 : Method := { name := "bytes", desc := "()[B", sig := { parameters := [], returnType := some (.array .byte) }, accessFlags := 1, code := some k2c2 }
/-- com/example/idemnity/idemnity/model/Sha256 -/
def k2 : Class := { plain "com/example/idemnity/idemnity/model/Sha256" (some 0) with
  accessFlags := 33
  interfaces := #[]
  cf := some (fileOf pool2 8 #[] #[{ accessFlags := 2, nameIndex := 5, descriptorIndex := 28, attributes := #[] }, { accessFlags := 9, nameIndex := 92, descriptorIndex := 93, attributes := #[] }, { accessFlags := 1, nameIndex := 94, descriptorIndex := 31, attributes := #[] }] 33 2 #[] #[{ accessFlags := 25, nameIndex := 77, descriptorIndex := 78, attributes := #[] }, { accessFlags := 26, nameIndex := 15, descriptorIndex := 16, attributes := #[] }, { accessFlags := 18, nameIndex := 11, descriptorIndex := 12, attributes := #[] }])
  fields := #[{ name := "LENGTH", type := .int, accessFlags := 25, slot := 0, constantValue := 0 }, { name := "ENGINE", type := (.object "java/lang/ThreadLocal"), accessFlags := 26, slot := 1, constantValue := 0 }, { name := "digest", type := (.array .byte), accessFlags := 18, slot := 0, constantValue := 0 }]
  methods := #[k2m0, k2m1, k2m2]
  instanceTypes := #[(.array .byte)]
  staticTypes := #[.int, (.object "java/lang/ThreadLocal")]
  resolved := Array.replicate 128 none
  statics := none }

def pool3 : Array CpInfo := pool [(1, .class_ 2), (0, u "java/lang/Cloneable"), (0, .class_ 4), (0, u "java/lang/Object")] 2

/-- java/lang/Cloneable -/
def k3 : Class := { plain "java/lang/Cloneable" (some 0) with
  accessFlags := 1537
  interfaces := #[]
  cf := some (fileOf pool3 1 #[] #[] 1537 3 #[] #[])
  fields := #[]
  methods := #[]
  instanceTypes := #[]
  staticTypes := #[]
  resolved := Array.replicate 7 none
  statics := none }

def pool4 : Array CpInfo := pool [(1, u "java/io/Serializable"), (0, .class_ 1), (0, u "java/lang/Object"), (0, .class_ 3)] 3

/-- java/io/Serializable -/
def k4 : Class := { plain "java/io/Serializable" (some 0) with
  accessFlags := 1537
  interfaces := #[]
  cf := some (fileOf pool4 2 #[] #[] 1537 4 #[] #[])
  fields := #[]
  methods := #[]
  instanceTypes := #[]
  staticTypes := #[]
  resolved := Array.replicate 8 none
  statics := none }

/-- the primitive byte -/
def k5 : Class := { plain "byte" none with kind := .primitive 'B', accessFlags := 0x411 }
/-- [B -/
def k6 : Class := { plain "[B" (some 0) with kind := .array 5 .byte, interfaces := #[3, 4], accessFlags := 1041 }

/-- the primitive int -/
def k7 : Class := { plain "int" none with kind := .primitive 'I', accessFlags := 0x411 }
/-- [I -/
def k8 : Class := { plain "[I" (some 0) with kind := .array 7 .int, interfaces := #[3, 4], accessFlags := 1041 }

def heap : Heap := #[]
def classes : Array Class := #[k0, k1, k2, k3, k4, k5, k6, k7, k8]
def interned : List (Array UInt16 × Addr) := []
def slotsUsed : Nat := 0
def theMethod : MethodId := ⟨1, 4⟩
def args0 : Array Value := #[.long 5, .long 6, .long 7, .long 8, .int 9]
def aboutOver (below : List Frame) : State where
  vm := { classes := classes, interned := interned.toArray }
  heap := heap
  slotsUsed := slotsUsed
  threads := #[{ frames := .invoking theMethod args0 :: below }]
def below0 : List Frame := [.native { method := ⟨0, 0⟩, args := #[] }]
def about1 : State := aboutOver below0
def p0 : Program := .bare "" "" ""
def e0 : Env := launch0.env 0 0 0
theorem w_frames : about1.frames = Frame.invoking theMethod args0 :: below0 := rfl
set_option maxRecDepth 65536 in
theorem w_args : argsFit about1.vm theMethod args0 = true := by decide +kernel
set_option maxRecDepth 65536 in
theorem w_heap : heapFits about1 = true := by decide +kernel
set_option maxRecDepth 65536 in
theorem w_runnable : about1.curStatus? = some .runnable := by decide +kernel
set_option maxRecDepth 65536 in
theorem w_alone : about1.alone = true := by decide +kernel
set_option maxRecDepth 65536 in
theorem w_named : about1.methodNamed? x = some theMethod := by decide +kernel
set_option maxRecDepth 65536 in
theorem w_hears : about1.hears theMethod below0 = true := by decide +kernel
set_option maxRecDepth 65536 in
theorem w_ripe : about1.ripe theMethod args0 below0 = true := by decide +kernel
theorem w_running : about1.status = .running := rfl
set_option maxRecDepth 65536 in
theorem w_room : about1.hasRoom e0.platform room_1 = true :=
  launch0.hasRoom_least _ room_1 (by decide +kernel) (by decide +kernel) (by decide +kernel) (by decide +kernel) (by decide +kernel) (by decide +kernel)
theorem allAtoms_all (ts : List Jvm.Cond) (a : Array Jvm.Value) (st : Jvm.State) : (allAtoms ts).before a st = ts.all (fun c => c.before a st) := by
  induction ts with
  | nil => rfl
  | cons c t ih =>
    show (Jvm.Cond.and c (allAtoms t)).before a st = _
    rw [Jvm.Cond.before_and, ih, List.all_cons]
def words1 : List Jvm.Cond := Jvm.Cond.code x code maxLocals ret :: tables_1
/-- a 'code' word, met by the world's own term for the bytes: nothing is compared byte by byte -/
theorem code_word {y : MethodName} {bytes : ByteArray} {mx : Nat} {rt : Option FieldType} {a : Array Value} {s : State} {m : MethodId} {meth : Method} {c : Code} (h1 : s.methodNamed? y = some m) (h2 : s.vm.method? m = some meth) (h3 : meth.code = some c) (h4 : c.code = bytes)
    (h5 : (c.maxLocals == mx && c.exceptionTable.isEmpty && decide (c.maxStack ≤ mostOperands) && decide (meth.sig.returnType = rt) && !meth.locks && decide (parseMethodDescriptor y.desc = some meth.sig)) = true) : (Jvm.Cond.code y bytes mx rt).before a s = true := by
  simp only [Bool.and_eq_true, beq_iff_eq, Bool.not_eq_true', decide_eq_true_eq] at h5
  obtain ⟨⟨⟨⟨⟨g1, g2⟩, g3⟩, g4⟩, g5⟩, g6⟩ := h5
  simp [Cond.before, Cond.holds, Cond.value, h1, h2, h3, h4, g1, g2, g3, g4, g5, g6]
def isCode : Jvm.Cond → Bool
  | .code _ _ _ _ => true
  | _ => false
theorem all_split {L : List Jvm.Cond} {P : Jvm.Cond → Bool} (h1 : L.all (fun c => isCode c || P c) = true) (h2 : ∀ c ∈ L.filter isCode, P c = true) : L.all P = true := by
  refine List.all_eq_true.mpr fun c hc => ?_
  have h := List.all_eq_true.mp h1 c hc
  rcases Bool.eq_false_or_eq_true (isCode c) with hi | hi
  · exact h2 c (List.mem_filter.mpr ⟨hc, hi⟩)
  · simpa [hi] using h
set_option maxRecDepth 65536 in
theorem w_c0 : (Jvm.Cond.code x code maxLocals ret).before args0 about1 = true := code_word (m := ⟨1, 4⟩) (meth := k1m4) (c := k1c4) (by decide +kernel) rfl rfl rfl (by decide +kernel)
set_option maxRecDepth 65536 in
theorem w_c1 : (Jvm.Cond.code ({ cls := "com/example/idemnity/idemnity/model/Sha256FromDigestPinLaw", name := "put", desc := "([BIJ)V" } : Jvm.MethodName) method_2_code (4 : Nat) (Option.none : Option Jvm.ClassFile.FieldType)).before args0 about1 = true := code_word (m := ⟨1, 1⟩) (meth := k1m1) (c := k1c1) (by decide +kernel) rfl rfl rfl (by decide +kernel)
set_option maxRecDepth 65536 in
theorem w_c2 : (Jvm.Cond.code ({ cls := "com/example/idemnity/idemnity/model/Sha256", name := "fromDigest", desc := "([B)Lcom/example/idemnity/idemnity/model/Sha256;" } : Jvm.MethodName) prog_14_method_4_code (1 : Nat) (Option.some (Jvm.ClassFile.FieldType.object "com/example/idemnity/idemnity/model/Sha256"))).before args0 about1 = true := code_word (m := ⟨2, 1⟩) (meth := k2m1) (c := k2c1) (by decide +kernel) rfl rfl rfl (by decide +kernel)
set_option maxRecDepth 65536 in
theorem w_c3 : (Jvm.Cond.code ({ cls := "com/example/idemnity/idemnity/model/Sha256", name := "<init>", desc := "([B)V" } : Jvm.MethodName) prog_14_method_1_code (2 : Nat) (Option.none : Option Jvm.ClassFile.FieldType)).before args0 about1 = true := code_word (m := ⟨2, 0⟩) (meth := k2m0) (c := k2c0) (by decide +kernel) rfl rfl rfl (by decide +kernel)
set_option maxRecDepth 65536 in
theorem w_c4 : (Jvm.Cond.code ({ cls := "java/lang/Object", name := "<init>", desc := "()V" } : Jvm.MethodName) object_method_1_code (1 : Nat) (Option.none : Option Jvm.ClassFile.FieldType)).before args0 about1 = true := code_word (m := ⟨0, 0⟩) (meth := k0m0) (c := k0c0) (by decide +kernel) rfl rfl rfl (by decide +kernel)
set_option maxRecDepth 65536 in
theorem w_c5 : (Jvm.Cond.code ({ cls := "com/example/idemnity/idemnity/model/Sha256", name := "bytes", desc := "()[B" } : Jvm.MethodName) prog_14_method_5_code (1 : Nat) (Option.some (Jvm.ClassFile.FieldType.array Jvm.ClassFile.FieldType.byte))).before args0 about1 = true := code_word (m := ⟨2, 2⟩) (meth := k2m2) (c := k2c2) (by decide +kernel) rfl rfl rfl (by decide +kernel)
set_option maxRecDepth 65536 in
theorem w_c6 : (Jvm.Cond.code ({ cls := "com/example/idemnity/idemnity/model/Sha256FromDigestPinLaw", name := "all", desc := "([BJJJJ)Z" } : Jvm.MethodName) method_4_code (9 : Nat) (Option.some Jvm.ClassFile.FieldType.boolean)).before args0 about1 = true := code_word (m := ⟨1, 3⟩) (meth := k1m3) (c := k1c3) (by decide +kernel) rfl rfl rfl (by decide +kernel)
set_option maxRecDepth 65536 in
theorem w_c7 : (Jvm.Cond.code ({ cls := "com/example/idemnity/idemnity/model/Sha256FromDigestPinLaw", name := "same", desc := "([BIJ)Z" } : Jvm.MethodName) method_3_code (4 : Nat) (Option.some Jvm.ClassFile.FieldType.boolean)).before args0 about1 = true := code_word (m := ⟨1, 2⟩) (meth := k1m2) (c := k1c2) (by decide +kernel) rfl rfl rfl (by decide +kernel)
def codes1 : List Jvm.Cond := [Jvm.Cond.code x code maxLocals ret, Jvm.Cond.code ({ cls := "com/example/idemnity/idemnity/model/Sha256FromDigestPinLaw", name := "put", desc := "([BIJ)V" } : Jvm.MethodName) method_2_code (4 : Nat) (Option.none : Option Jvm.ClassFile.FieldType), Jvm.Cond.code ({ cls := "com/example/idemnity/idemnity/model/Sha256", name := "fromDigest", desc := "([B)Lcom/example/idemnity/idemnity/model/Sha256;" } : Jvm.MethodName) prog_14_method_4_code (1 : Nat) (Option.some (Jvm.ClassFile.FieldType.object "com/example/idemnity/idemnity/model/Sha256")), Jvm.Cond.code ({ cls := "com/example/idemnity/idemnity/model/Sha256", name := "<init>", desc := "([B)V" } : Jvm.MethodName) prog_14_method_1_code (2 : Nat) (Option.none : Option Jvm.ClassFile.FieldType), Jvm.Cond.code ({ cls := "java/lang/Object", name := "<init>", desc := "()V" } : Jvm.MethodName) object_method_1_code (1 : Nat) (Option.none : Option Jvm.ClassFile.FieldType), Jvm.Cond.code ({ cls := "com/example/idemnity/idemnity/model/Sha256", name := "bytes", desc := "()[B" } : Jvm.MethodName) prog_14_method_5_code (1 : Nat) (Option.some (Jvm.ClassFile.FieldType.array Jvm.ClassFile.FieldType.byte)), Jvm.Cond.code ({ cls := "com/example/idemnity/idemnity/model/Sha256FromDigestPinLaw", name := "all", desc := "([BJJJJ)Z" } : Jvm.MethodName) method_4_code (9 : Nat) (Option.some Jvm.ClassFile.FieldType.boolean), Jvm.Cond.code ({ cls := "com/example/idemnity/idemnity/model/Sha256FromDigestPinLaw", name := "same", desc := "([BIJ)Z" } : Jvm.MethodName) method_3_code (4 : Nat) (Option.some Jvm.ClassFile.FieldType.boolean)]
set_option maxRecDepth 65536 in
theorem codes_eq : words1.filter isCode = codes1 := rfl
theorem w_codes : ∀ c ∈ words1.filter isCode, c.before args0 about1 = true := by
  rw [codes_eq]
  intro c hc
  simp only [codes1, List.mem_cons, List.not_mem_nil, or_false] at hc
  rcases hc with rfl | rfl | rfl | rfl | rfl | rfl | rfl | rfl
  · exact w_c0
  · exact w_c1
  · exact w_c2
  · exact w_c3
  · exact w_c4
  · exact w_c5
  · exact w_c6
  · exact w_c7
set_option maxRecDepth 65536 in
theorem w_t1 : (words1.take 24).all (fun c => isCode c || c.before args0 about1) = true := by decide +kernel
set_option maxRecDepth 65536 in
theorem w_t2 : (words1.drop 24).all (fun c => isCode c || c.before args0 about1) = true := by decide +kernel
theorem w_tables : (allAtoms (Jvm.Cond.code x code maxLocals ret :: tables_1)).before args0 about1 = true := by
  rw [allAtoms_all]
  show words1.all (fun c => c.before args0 about1) = true
  refine all_split ?_ w_codes
  rw [← List.take_append_drop 24 words1, List.all_append, w_t1, w_t2]
  rfl
set_option maxRecDepth 65536 in
theorem w_case : (Jvm.Cond.and given_1 narrow_1).before args0 about1 = true := by decide +kernel
theorem w_applies : (headSpec (Jvm.Cond.code x code maxLocals ret :: tables_1) room_1).applies x e0.platform about1 = true :=
  (Spec.applies_iff w_frames).mpr ⟨w_running, w_runnable, w_alone, w_named, w_hears, w_ripe, w_room, w_tables⟩
theorem atStart : AtStart classFile x code maxLocals ret World_1 tables_1 room_1 Calls_1 rest_1 Pre_1 launch0 p0 e0 about1 theMethod args0 below0 :=
  ⟨lists_1, trivial, launch0.admits_env _ _ _, launch0.least_env, fairChoices_fair.cas, fairChoices_fair.clock, w_frames, w_args, w_heap, w_applies, trivial, trivial, w_case⟩
end start1
theorem witness_1 : WitnessClaimed_1 := ⟨start1.p0, start1.e0, start1.about1, start1.theMethod, start1.args0, start1.below0, start1.atStart⟩
end Jvm.Pilot.@@N@@
