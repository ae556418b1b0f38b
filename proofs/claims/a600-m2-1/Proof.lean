import JvmDerived
import JvmDerived.Pilot.@@N@@Statement
import JvmDerived.Pilot.@@N@@Code
set_option linter.unusedVariables false
set_option linter.unusedSimpArgs false
namespace Jvm.Pilot.@@N@@
open Jvm Jvm.ClassFile Sem Op Lib Jvm.Free Jvm.Stand Jvm.LawKit Jvm.RoadKit Bundle Jvm.Pilot.@@N@@.Jvm.D
/-! own prelude: 'own_Goes' says that from state T with top frame g the invocation comes to its end with what Q says -/
section OwnPrelude
variable {p : Program} {l : Launch} {e : Env} {R : Room} {s : State} {m : MethodId} {args : Array Value} {below : List Frame} {meth : Method} {c : Code} {T T' : State} {locs : List Loc} {cells slots : Nat} {Z : State} {a0 : Array Value} {h : Heap} {kc ks : Nat} {Q : Option Value → Heap → List Loc → Prop} {g g' : JFrame}
def own_Goes (p : Program) (e : Env) (below : List Frame) (s : State) (kc ks : Nat) (Q : Option Value → Heap → List Loc → Prop) (T : State) (g : JFrame) : Prop :=
  ∃ t o, Steps p.tables e below (T.setTop g) t ∧ t.status = .running ∧ Ended t below o ∧ ∃ v L, o = .returned v ∧ Q v t.heap L ∧ FrameEnd s o t L kc ks
abbrev own_Ctr (l : Launch) (Z : State) (y : MethodName) (bytes : ByteArray) (maxL : Nat) (ret : Option FieldType) (ws : List Jvm.Cond) (rm : Room) (kc ks : Nat) (as' : Array Value) (h : Heap) (Q : Option Value → Heap → List Loc → Prop) : Prop :=
  MetFree l y (head1 (Jvm.Cond.code y bytes maxL ret :: ws) rm) (fun a U => a = as' ∧ Z.Warmed39 U.vm ∧ U.heap = h) (fun _ _ _ _ _ => True) (fun _ U o U' => ∃ v L, o = .returned v ∧ Q v U'.heap L ∧ FrameEnd U o U' L kc ks)
theorem own_by (st : ∀ t, Steps p.tables e below (T'.setTop g') t → Steps p.tables e below (T.setTop g) t) (k : own_Goes p e below s kc ks Q T' g') : own_Goes p e below s kc ks Q T g := by
  obtain ⟨t, o, h1, r⟩ := k; exact ⟨t, o, st t h1, r⟩
theorem own_cast (q : g = g') (k : own_Goes p e below s kc ks Q T g') : own_Goes p e below s kc ks Q T g := q ▸ k
theorem own_enter {y : MethodName} {bytes : ByteArray} {maxL : Nat} {ret : Option FieldType} {ws : List Jvm.Cond} {rm : Room} {as' : Array Value} (hpl : plainFor y = true)
    (k : ∀ p e s m below meth c s₁, Stand p l e rm s m as' below meth c s₁ [] 0 0 → p.tables.exec = Jvm.exec → Z.Warmed39 s.vm → c.code = bytes → c.maxLocals = maxL → s.vm.findClass y.cls = some m.cls → meth.name = y.name → meth.locks = false → meth.sig.returnType = ret → s₁.heap = h → own_Goes p e below s kc ks Q s₁ (entryFrame m as' maxL)) :
    own_Ctr l Z y bytes maxL ret ws rm kc ks as' h Q := by
  refine MetFree.of_bodySF hpl hisR ?_
  intro p e s m args below meth c s₁ Bd hml0 hP hK
  obtain ⟨rfl, hZ, hh⟩ := hP
  exact k p e s m below meth c s₁ (Stand.of_body Bd) Bd.exec hZ Bd.bytes hml0 (findClass_of_methodNamed Bd.named) (name_of_methodNamed Bd.named Bd.method).1 Bd.notSynchronized Bd.returns (by rw [← hh, Bd.state]; rfl)
theorem own_mono (X : Stand p l e R s m args below meth c T locs cells slots) {c' n' : Nat} (h1 : cells ≤ c') (h2 : slots ≤ n') : Stand p l e R s m args below meth c T locs c' n' :=
  { X with same := X.same.mono h1 h2 }
theorem own_out (X : Stand p l e R s m args below meth c T locs cells slots) (hlk : meth.locks = false) {v : Option Value} (hv : meth.sig.returnType = none → v = none)
    (st : ∀ fs, (∀ (f : JFrame) (acts : List Action), f.method = m → f.locked = none → f.entered = [] → (doReturn e (T.setTop f) acts v).1 = T.setFrames fs) → Steps p.tables e below (T.setTop g) (T.setFrames fs))
    (hc : cells ≤ kc) (hs : slots ≤ ks) (hQ : Q v T.heap locs) : own_Goes p e below s kc ks Q T g := by
  obtain ⟨fs, hr, hrun, hended, hW, hsame⟩ := X.leave (v := v) hv hlk
  exact ⟨_, _, st fs hr, hrun, hended, v, locs, rfl, hQ, ⟨_, rfl⟩, hW, hsame.mono hc hs⟩
theorem own_ret {w : Value} {t : FieldType} {i : Instr} {pc : Nat} {Ls : Array Slot} {rest : List Value} (X : Stand p l e R s m args below meth c T locs cells slots) (hx : p.tables.exec = Jvm.exec) (hlk : meth.locks = false) (hret : meth.sig.returnType = some t) (hn : narrow t w = w)
    (hi : (i = .ireturn ∧ (t = .int ∨ t = .boolean ∨ t = .byte ∨ t = .char ∨ t = .short) ∧ ∃ z, w = .int z) ∨ (i = .lreturn ∧ t = .long ∧ ∃ z, w = .long z) ∨ (i = .dreturn ∧ t = .double ∧ ∃ z, w = .double z) ∨ (i = .freturn ∧ t = .float ∧ ∃ z, w = .float z) ∨ (i = .areturn ∧ t.isReference = true ∧ w.isRef = true))
    (hd : decode c.code pc = .ok (i, 1)) (hc : cells ≤ kc) (hs : slots ≤ ks) (hQ : Q (some w) T.heap locs) : own_Goes p e below s kc ks Q T (mkF m pc Ls (w :: rest)) :=
  own_out X hlk (fun h => by rw [hret] at h; cases h) (fun fs hr => retOut X hx hret hn hi hd hr) hc hs hQ
theorem own_retI {z : Int32} {pc : Nat} {Ls : Array Slot} {rest : List Value} (X : Stand p l e R s m args below meth c T locs cells slots) (hx : p.tables.exec = Jvm.exec) (hlk : meth.locks = false) (hret : meth.sig.returnType = some .int)
    (hd : decode c.code pc = .ok (.ireturn, 1)) (hc : cells ≤ kc) (hs : slots ≤ ks) (hQ : Q (some (.int z)) T.heap locs) : own_Goes p e below s kc ks Q T (mkF m pc Ls (.int z :: rest)) :=
  own_ret X hx hlk hret rfl (Or.inl ⟨rfl, Or.inl rfl, z, rfl⟩) hd hc hs hQ
theorem own_retJ {z : Int64} {pc : Nat} {Ls : Array Slot} {rest : List Value} (X : Stand p l e R s m args below meth c T locs cells slots) (hx : p.tables.exec = Jvm.exec) (hlk : meth.locks = false) (hret : meth.sig.returnType = some .long)
    (hd : decode c.code pc = .ok (.lreturn, 1)) (hc : cells ≤ kc) (hs : slots ≤ ks) (hQ : Q (some (.long z)) T.heap locs) : own_Goes p e below s kc ks Q T (mkF m pc Ls (.long z :: rest)) :=
  own_ret X hx hlk hret rfl (Or.inr (Or.inl ⟨rfl, rfl, z, rfl⟩)) hd hc hs hQ
theorem own_retD {z : UInt64} {pc : Nat} {Ls : Array Slot} {rest : List Value} (X : Stand p l e R s m args below meth c T locs cells slots) (hx : p.tables.exec = Jvm.exec) (hlk : meth.locks = false) (hret : meth.sig.returnType = some .double)
    (hd : decode c.code pc = .ok (.dreturn, 1)) (hc : cells ≤ kc) (hs : slots ≤ ks) (hQ : Q (some (.double z)) T.heap locs) : own_Goes p e below s kc ks Q T (mkF m pc Ls (.double z :: rest)) :=
  own_ret X hx hlk hret rfl (Or.inr (Or.inr (Or.inl ⟨rfl, rfl, z, rfl⟩))) hd hc hs hQ
theorem own_b8 (x : Int32) : ((x).toInt8.toInt32).toInt8.toInt32 = x.toInt8.toInt32 := by simp
theorem own_c16 (x : Int32) : ((x).toUInt32.toUInt16.toUInt32.toInt32).toUInt32.toUInt16.toUInt32.toInt32 = x.toUInt32.toUInt16.toUInt32.toInt32 := by
  have h : ∀ u : UInt16, (u.toUInt32.toInt32).toUInt32.toUInt16 = u := fun u => by
    show (u.toUInt32).toUInt16 = u
    simp
  rw [h]
theorem own_at_ {a : Addr} {cl : Cell} (q : T.heap = h) (A : h[a]? = some cl) : T.heap[a]? = some cl := q ▸ A
theorem own_wr {h' : Heap} {a : Addr} {sl : Nat} {v v' : Value} (W : Wr h h' a sl v) (q : v = v') : Wr h h' a sl v' := q ▸ W
theorem own_eqI {first : State} {o : Option Outcome} {idx : List Nat} {a b : Term} {x y : Int32} (ha : a.eval args first o idx s = some (.int x)) (hb : b.eval args first o idx s = some (.int y)) : (Cond.eq a b).value args first o s idx = some (decide (x = y)) := by simp [Cond.value, ha, hb]
theorem own_fitR {t : FieldType} {w : Value} (ht : t.isReference = true) (hw : w.isRef = true) : fits t w = true := by cases t <;> simp [FieldType.isReference] at ht <;> rcases ref_cases hw with rfl | ⟨a, rfl⟩ <;> rfl
theorem own_cat1 {w : Value} (hw : w.isRef = true) : w.category = 1 := by rcases ref_cases hw with rfl | ⟨a, rfl⟩ <;> rfl
theorem own_stG {ls l' : Array Slot} {i : Nat} {v : Value} {o : Slot} (hold : ls[i]? = some o) (ho : o = .unset ∨ ∃ w, o = .val w ∧ w.category = 1) (hv : v.category = 1) (q : ls.setIfInBounds i (.val v) = l') : storeLocals ls i v = some l' := q ▸ XS.store1 hold ho hv
theorem own_narR {t : FieldType} {w : Value} (ht : t.isReference = true) : narrow t w = w := by cases t <;> simp [FieldType.isReference] at ht <;> cases w <;> rfl
theorem own_retA {w : Value} {t : FieldType} {pc : Nat} {Ls : Array Slot} {rest : List Value} (X : Stand p l e R s m args below meth c T locs cells slots) (hx : p.tables.exec = Jvm.exec) (hlk : meth.locks = false) (hret : meth.sig.returnType = some t) (ht : t.isReference = true) (hw : w.isRef = true)
    (hd : decode c.code pc = .ok (.areturn, 1)) (hc : cells ≤ kc) (hs : slots ≤ ks) (hQ : Q (some w) T.heap locs) : own_Goes p e below s kc ks Q T (mkF m pc Ls (w :: rest)) :=
  own_ret X hx hlk hret (own_narR ht) (Or.inr (Or.inr (Or.inr (Or.inr ⟨rfl, ht, hw⟩)))) hd hc hs hQ
theorem own_retN {z : Int32} {t : FieldType} {pc : Nat} {Ls : Array Slot} {rest : List Value} (X : Stand p l e R s m args below meth c T locs cells slots) (hx : p.tables.exec = Jvm.exec) (hlk : meth.locks = false) (hret : meth.sig.returnType = some t) (ht : t = .boolean ∨ t = .byte ∨ t = .char ∨ t = .short)
    (hd : decode c.code pc = .ok (.ireturn, 1)) (hc : cells ≤ kc) (hs : slots ≤ ks) (hQ : Q (some (.int (nar t z))) T.heap locs) : own_Goes p e below s kc ks Q T (mkF m pc Ls (.int z :: rest)) :=
  own_out X hlk (fun h => by rw [hret] at h; cases h) (fun fs hr => retN X hx hret ht hd hr) hc hs hQ
theorem own_retV {pc : Nat} {Ls : Array Slot} (X : Stand p l e R s m args below meth c T locs cells slots) (hx : p.tables.exec = Jvm.exec) (hlk : meth.locks = false) (hret : meth.sig.returnType = none)
    (hd : decode c.code pc = .ok (.return_, 1)) (hc : cells ≤ kc) (hs : slots ≤ ks) (hQ : Q none T.heap locs) : own_Goes p e below s kc ks Q T (mkF m pc Ls []) :=
  own_out X hlk (fun _ => rfl) (fun fs hr => X.returnOut hx hret hd hr) hc hs hQ
/-- an array of that type and length, whatever it holds -/
def own_Arz (Z : State) (h : Heap) (a : Addr) (ty : FieldType) (z : Int32) : Prop := ∃ c : Cell, Arr Z h a c ty ∧ c.slots.size = z.toNatClampNeg ∧ ¬ z < 0
theorem own_Arz.of {a : Addr} {k : ClassId} {ty : FieldType} {z : Int32} {vs : List Value} {dv : Value} (F : Arv Z h a k ty z vs dv) : own_Arz Z h a ty z := by obtain ⟨c, A, -, S, q, -⟩ := F; exact ⟨c, A, S, q⟩
theorem own_Arz.lt {a : Addr} {ty : FieldType} {z : Int32} (F : own_Arz Z h a ty z) : a < h.size := by obtain ⟨c, A, -⟩ := F; exact A.lt
theorem own_Arz.ext {h' : Heap} {a : Addr} {ty : FieldType} {z : Int32} (F : own_Arz Z h a ty z) (E : Ext h h') : own_Arz Z h' a ty z := by obtain ⟨c, A, r⟩ := F; exact ⟨c, A.ext E, r⟩
theorem own_Arz.other {h' : Heap} {a b : Addr} {ty : FieldType} {z : Int32} {sl : Nat} {v : Value} (F : own_Arz Z h b ty z) (W : Wr h h' a sl v) (q : b ≠ a) : own_Arz Z h' b ty z := by obtain ⟨c, A, r⟩ := F; exact ⟨c, A.other W q, r⟩
theorem own_Arz.same {h' : Heap} {a : Addr} {ty : FieldType} {z : Int32} {sl : Nat} {v : Value} (F : own_Arz Z h a ty z) (W : Wr h h' a sl v) : own_Arz Z h' a ty z := by obtain ⟨c, A, r1, r2⟩ := F; exact ⟨_, A.same W, by rw [sz_set]; exact r1, r2⟩
theorem own_Arz.keep {h' : Heap} {a : Addr} {ty : FieldType} {z : Int32} {ws : List Addr} (F : own_Arz Z h a ty z) (K : Keep h h' ws) (q : a ∉ ws) : own_Arz Z h' a ty z := by obtain ⟨c, A, r⟩ := F; exact ⟨c, ⟨K.2.1 a c A.1 q, A.2⟩, r⟩
theorem own_neY {a b : Addr} {C : String} {n : Nat} {ty : FieldType} {z : Int32} (E : Exa Z h a C) (w : (Cond.instantiable C n).before a0 Z = true) (F : own_Arz Z h b ty z) : a ≠ b := by obtain ⟨c, A, -⟩ := F; exact ne_arr E w A
section OwnCalls
variable {own : String} {index : Nat} {y z : MethodName} {bytes : ByteArray} {maxL : Nat} {ret : Option FieldType} {rm : Room} {Q' : Option Value → Heap → List Loc → Prop} {argsL rest : List Value}
theorem own_callS (X : Stand p l e R s m args below meth c T locs cells slots) (hx : p.tables.exec = Jvm.exec) (hZ : Z.Warmed39 s.vm) (hown : s.vm.findClass own = some m.cls)
    (w1 : (Cond.methodLink own index y).before a0 Z = true) (w2 : (Cond.static y).before a0 Z = true) (w3 : (Cond.initialized y.cls).before a0 Z = true) (w4 : (Cond.code y bytes maxL ret).before a0 Z = true)
    (hy : y.cls ≠ "java/lang/invoke/MethodHandle" ∧ y.cls ≠ "java/lang/invoke/VarHandle") (hM : own_Ctr l Z y bytes maxL ret [] rm rm.cells rm.slots argsL.toArray h Q') (W : Nat)
    (hf : rm.frames + 1 ≤ R.frames) (hl : W + (maxL + 11) + rm.locals ≤ R.locals) (hc : cells + rm.cells ≤ R.cells) (hs : slots + rm.slots ≤ R.slots) (eT : T.heap = h)
    (hg : g.method = m) (hsize : g.locals.size = c.maxLocals) (hlen : ∀ sig, parseMethodDescriptor y.desc = some sig → argsL.length = sig.parameters.length) (hstack : g.stack = argsL.reverse ++ rest)
    (hW : 2 * g.monitorRoom + (rest.map fun v => v.category).sum ≤ W) (hd : decode c.code g.pc = .ok (.invokestatic index, 3))
    (k : ∀ v T' L, Stand p l e R s m args below meth c T' (locs ++ L) (cells + rm.cells) (slots + rm.slots) → Q' v T'.heap L → own_Goes p e below s kc ks Q T' { g with pc := g.pc + 3, stack := v.toList ++ rest }) : own_Goes p e below s kc ks Q T g := by
  obtain ⟨v, _, ⟨T', L', k', n'⟩, -, X', ⟨Lc, hQ, l1, y1, z1⟩, st⟩ := Jvm.LawKit.callS X hx hown (mvT hZ w1) (mvT hZ w2) (mvT hZ w3) (mvT hZ w4) hy (backOf (W := W) hM hZ w4 w3 hf hl) hg hsize hlen hstack hW hd (fun _ _ => ⟨rfl, eT, hc, hs⟩)
  dsimp only [Pt.U, Pt.locs, Pt.cells, Pt.slots] at X' l1 y1 z1 st hQ
  subst l1 y1 z1
  exact own_by st (k v T' Lc X' hQ)
theorem own_callI (X : Stand p l e R s m args below meth c T locs cells slots) (hx : p.tables.exec = Jvm.exec) (hZ : Z.Warmed39 s.vm) (hown : s.vm.findClass own = some m.cls) (hy1 : y.name = "<init>")
    (w1 : (Cond.methodLink own index y).before a0 Z = true) (w2 : (Cond.instanceMethod y).before a0 Z = true) (w3 : (Cond.initialized y.cls).before a0 Z = true) (w4 : (Cond.code y bytes maxL none).before a0 Z = true)
    (hy : y.cls ≠ "java/lang/invoke/MethodHandle" ∧ y.cls ≠ "java/lang/invoke/VarHandle") {a : Addr} (hM : own_Ctr l Z y bytes maxL none [] rm rm.cells rm.slots (.ref a :: argsL).toArray h Q') (W : Nat)
    (hf : rm.frames + 1 ≤ R.frames) (hl : W + (maxL + 11) + rm.locals ≤ R.locals) (hc : cells + rm.cells ≤ R.cells) (hs : slots + rm.slots ≤ R.slots) (eT : T.heap = h)
    (hg : g.method = m) (hsize : g.locals.size = c.maxLocals) (hlen : ∀ sig, parseMethodDescriptor y.desc = some sig → argsL.length = sig.parameters.length) (hstack : g.stack = argsL.reverse ++ .ref a :: rest)
    (hW : 2 * g.monitorRoom + (rest.map fun v => v.category).sum ≤ W) (hd : decode c.code g.pc = .ok (.invokespecial index, 3))
    (k : ∀ v T' L, Stand p l e R s m args below meth c T' (locs ++ L) (cells + rm.cells) (slots + rm.slots) → Q' v T'.heap L → own_Goes p e below s kc ks Q T' { g with pc := g.pc + 3, stack := v.toList ++ rest }) : own_Goes p e below s kc ks Q T g := by
  obtain ⟨v, _, ⟨T', L', k', n'⟩, -, X', ⟨Lc, hQ, l1, y1, z1⟩, st⟩ := X.specialBack hx hy1 hown (mvT hZ w1) (mvT hZ w2) (mvT hZ w4) hy (backOf (W := W) hM hZ w4 w3 hf hl) hg hsize (Steps.refl _) hlen hstack hW hd (fun _ _ => ⟨rfl, eT, hc, hs⟩)
  dsimp only [Pt.U, Pt.locs, Pt.cells, Pt.slots] at X' l1 y1 z1 st hQ
  subst l1 y1 z1
  exact own_by (fun t kt => st.trans kt) (k v T' Lc X' hQ)
theorem own_callIN {host : String} (X : Stand p l e R s m args below meth c T locs cells slots) (hx : p.tables.exec = Jvm.exec) (hZ : Z.Warmed39 s.vm) (hown : s.vm.findClass own = some m.cls) (hy1 : y.name = "<init>")
    (w1 : (Cond.methodLinkNest own index y host).before a0 Z = true) (w2 : (Cond.instanceMethod y).before a0 Z = true) (w3 : (Cond.initialized y.cls).before a0 Z = true) (w4 : (Cond.code y bytes maxL none).before a0 Z = true)
    (hy : y.cls ≠ "java/lang/invoke/MethodHandle" ∧ y.cls ≠ "java/lang/invoke/VarHandle") {a : Addr} (hM : own_Ctr l Z y bytes maxL none [] rm rm.cells rm.slots (.ref a :: argsL).toArray h Q') (W : Nat)
    (hf : rm.frames + 1 ≤ R.frames) (hl : W + (maxL + 11) + rm.locals ≤ R.locals) (hc : cells + rm.cells ≤ R.cells) (hs : slots + rm.slots ≤ R.slots) (eT : T.heap = h)
    (hg : g.method = m) (hsize : g.locals.size = c.maxLocals) (hlen : ∀ sig, parseMethodDescriptor y.desc = some sig → argsL.length = sig.parameters.length) (hstack : g.stack = argsL.reverse ++ .ref a :: rest)
    (hW : 2 * g.monitorRoom + (rest.map fun v => v.category).sum ≤ W) (hd : decode c.code g.pc = .ok (.invokespecial index, 3))
    (k : ∀ v T' L, Stand p l e R s m args below meth c T' (locs ++ L) (cells + rm.cells) (slots + rm.slots) → Q' v T'.heap L → own_Goes p e below s kc ks Q T' { g with pc := g.pc + 3, stack := v.toList ++ rest }) : own_Goes p e below s kc ks Q T g := by
  obtain ⟨v, _, ⟨T', L', k', n'⟩, -, X', ⟨Lc, hQ, l1, y1, z1⟩, st⟩ := X.specialBackNest hx hy1 hown (Cond.methodLinkNest_wide hZ w1 :) (mvT hZ w2) (mvT hZ w4) hy (backOf (W := W) hM hZ w4 w3 hf hl) hg hsize (Steps.refl _) hlen hstack hW hd (fun _ _ => ⟨rfl, eT, hc, hs⟩)
  dsimp only [Pt.U, Pt.locs, Pt.cells, Pt.slots] at X' l1 y1 z1 st hQ
  subst l1 y1 z1
  exact own_by (fun t kt => st.trans kt) (k v T' Lc X' hQ)
theorem own_callV {C : String} (X : Stand p l e R s m args below meth c T locs cells slots) (hx : p.tables.exec = Jvm.exec) (hZ : Z.Warmed39 s.vm) (hown : s.vm.findClass own = some m.cls)
    (w1 : (Cond.methodLink own index y).before a0 Z = true) (w2 : (Cond.declares y).before a0 Z = true) (hnf : NotFace s y) (w3 : (Cond.selects C y z).before a0 Z = true) (w4 : (Cond.instanceMethod z).before a0 Z = true) (w5 : (Cond.code z bytes maxL ret).before a0 Z = true) (w6 : (Cond.initialized z.cls).before a0 Z = true)
    (hy : y.cls ≠ "java/lang/invoke/MethodHandle" ∧ y.cls ≠ "java/lang/invoke/VarHandle") {a : Addr} (E : Exa Z h a C) (hM : own_Ctr l Z z bytes maxL ret [] rm rm.cells rm.slots (.ref a :: argsL).toArray h Q') (W : Nat)
    (hf : rm.frames + 1 ≤ R.frames) (hl : W + (maxL + 11) + rm.locals ≤ R.locals) (hc : cells + rm.cells ≤ R.cells) (hs : slots + rm.slots ≤ R.slots) (eT : T.heap = h)
    (hg : g.method = m) (hsize : g.locals.size = c.maxLocals) (hlen : ∀ sig, parseMethodDescriptor y.desc = some sig → argsL.length = sig.parameters.length) (hstack : g.stack = argsL.reverse ++ .ref a :: rest)
    (hW : 2 * g.monitorRoom + (rest.map fun v => v.category).sum ≤ W) (hd : decode c.code g.pc = .ok (.invokevirtual index, 3))
    (k : ∀ v T' L, Stand p l e R s m args below meth c T' (locs ++ L) (cells + rm.cells) (slots + rm.slots) → Q' v T'.heap L → own_Goes p e below s kc ks Q T' { g with pc := g.pc + 3, stack := v.toList ++ rest }) : own_Goes p e below s kc ks Q T g := by
  obtain ⟨cq, kq, qa, qb, qc⟩ := isOf hZ eT E
  obtain ⟨v, _, ⟨T', L', k', n'⟩, -, X', ⟨Lc, hQ, l1, y1, z1⟩, st⟩ := X.virtualBack hx hown (mvT hZ w1) (mvT hZ w2) hnf (mvT hZ w3) (mvT hZ w4) hy (backOf (W := W) hM hZ w5 w6 hf hl) qa qc hg hsize (Steps.refl _) hlen hstack hW hd (fun _ _ => ⟨rfl, eT, hc, hs⟩)
  dsimp only [Pt.U, Pt.locs, Pt.cells, Pt.slots] at X' l1 y1 z1 st hQ
  subst l1 y1 z1
  exact own_by (fun t kt => st.trans kt) (k v T' Lc X' hQ)
theorem own_callP (X : Stand p l e R s m args below meth c T locs cells slots) (hx : p.tables.exec = Jvm.exec) (hZ : Z.Warmed39 s.vm) (hown : s.vm.findClass own = some m.cls)
    (w1 : (Cond.methodLink own index y).before a0 Z = true) (w2 : (Cond.instanceMethod y).before a0 Z = true) (w3 : (Cond.selects y.cls y y).before a0 Z = true) (w4 : (Cond.privateMethod y).before a0 Z = true) (w5 : (Cond.code y bytes maxL ret).before a0 Z = true) (w6 : (Cond.initialized y.cls).before a0 Z = true)
    (hy : y.cls ≠ "java/lang/invoke/MethodHandle" ∧ y.cls ≠ "java/lang/invoke/VarHandle") {a : Addr} {C : String} (E : Exa Z h a C) (hM : own_Ctr l Z y bytes maxL ret [] rm rm.cells rm.slots (.ref a :: argsL).toArray h Q') (W : Nat)
    (hf : rm.frames + 1 ≤ R.frames) (hl : W + (maxL + 11) + rm.locals ≤ R.locals) (hc : cells + rm.cells ≤ R.cells) (hs : slots + rm.slots ≤ R.slots) (eT : T.heap = h)
    (hg : g.method = m) (hsize : g.locals.size = c.maxLocals) (hlen : ∀ sig, parseMethodDescriptor y.desc = some sig → argsL.length = sig.parameters.length) (hstack : g.stack = argsL.reverse ++ .ref a :: rest)
    (hW : 2 * g.monitorRoom + (rest.map fun v => v.category).sum ≤ W) (hd : decode c.code g.pc = .ok (.invokevirtual index, 3))
    (k : ∀ v T' L, Stand p l e R s m args below meth c T' (locs ++ L) (cells + rm.cells) (slots + rm.slots) → Q' v T'.heap L → own_Goes p e below s kc ks Q T' { g with pc := g.pc + 3, stack := v.toList ++ rest }) : own_Goes p e below s kc ks Q T g := by
  obtain ⟨cq, q1, q2⟩ := E.cell
  obtain ⟨v, _, ⟨T', L', k', n'⟩, -, X', ⟨Lc, hQ, l1, y1, z1⟩, st⟩ := X.privateBack hx hown (mvT hZ w1) (mvT hZ w2) (mvT hZ w3) (Cond.privateMethod_at (mvP hZ w4 (args := #[]))) (mvT hZ w5) hy (backOf (W := W) hM hZ w5 w6 hf hl) hg hsize (Steps.refl _) (a := a) (by rw [eT]; exact q1) q2 hlen hstack hW hd (fun _ _ => ⟨rfl, eT, hc, hs⟩)
  dsimp only [Pt.U, Pt.locs, Pt.cells, Pt.slots] at X' l1 y1 z1 st hQ
  subst l1 y1 z1
  exact own_by (fun t kt => st.trans kt) (k v T' Lc X' hQ)
theorem own_callF {C : String} {count : Nat} (X : Stand p l e R s m args below meth c T locs cells slots) (hx : p.tables.exec = Jvm.exec) (hZ : Z.Warmed39 s.vm) (hown : s.vm.findClass own = some m.cls)
    (w1 : (Cond.methodLink own index y).before a0 Z = true) (w2 : (Cond.declares y).before a0 Z = true) (w2f : (Cond.interfaceMethod y.cls y.cls y.name y.desc).before a0 Z = true) (w3 : (Cond.selects C y z).before a0 Z = true) (w4 : (Cond.instanceMethod z).before a0 Z = true)
    (wp : (Cond.publicMethod z).before a0 Z = true) (wu : (Cond.unhidden C y.name y.desc).before a0 Z = true) (wk : (Cond.castable C y.cls).before a0 Z = true) (w5 : (Cond.code z bytes maxL ret).before a0 Z = true) (w6 : (Cond.initialized z.cls).before a0 Z = true)
    (hy : y.cls ≠ "java/lang/invoke/MethodHandle" ∧ y.cls ≠ "java/lang/invoke/VarHandle") {a : Addr} (E : Exa Z h a C) (hM : own_Ctr l Z z bytes maxL ret [] rm rm.cells rm.slots (.ref a :: argsL).toArray h Q') (W : Nat)
    (hf : rm.frames + 1 ≤ R.frames) (hl : W + (maxL + 11) + rm.locals ≤ R.locals) (hc : cells + rm.cells ≤ R.cells) (hs : slots + rm.slots ≤ R.slots) (eT : T.heap = h)
    (hg : g.method = m) (hsize : g.locals.size = c.maxLocals) (hlen : ∀ sig, parseMethodDescriptor y.desc = some sig → argsL.length = sig.parameters.length) (hstack : g.stack = argsL.reverse ++ .ref a :: rest)
    (hW : 2 * g.monitorRoom + (rest.map fun v => v.category).sum ≤ W) (hd : decode c.code g.pc = .ok (.invokeinterface index count, 5))
    (k : ∀ v T' L, Stand p l e R s m args below meth c T' (locs ++ L) (cells + rm.cells) (slots + rm.slots) → Q' v T'.heap L → own_Goes p e below s kc ks Q T' { g with pc := g.pc + 5, stack := v.toList ++ rest }) : own_Goes p e below s kc ks Q T g := by
  obtain ⟨cq, kq, qa, qb, qc⟩ := isOf hZ eT E
  have hface : ((Cond.interfaceMethod y.cls y.cls y.name y.desc).onTables && (Cond.interfaceMethod y.cls y.cls y.name y.desc).keepsFace) = true := by simp [Cond.onTables, Cond.keepsFace, Cond.keeps, Cond.steady, Cond.faceAtom, hy.1, hy.2]
  obtain ⟨v, _, ⟨T', L', k', n'⟩, -, X', ⟨Lc, hQ, l1, y1, z1⟩, st⟩ := X.interfaceBack hx hown (mvT hZ w1) (mvT hZ w2) (mvT hZ w2f hface) (mvT hZ w3) (mvT hZ w4) (mvT hZ wp) (mvT hZ wu) (mvT hZ wk) hy (backOf (W := W) hM hZ w5 w6 hf hl) qa qb qc hg hsize (Steps.refl _) hlen hstack hW hd (fun _ _ => ⟨rfl, eT, hc, hs⟩)
  dsimp only [Pt.U, Pt.locs, Pt.cells, Pt.slots] at X' l1 y1 z1 st hQ
  subst l1 y1 z1
  exact own_by (fun t kt => st.trans kt) (k v T' Lc X' hQ)
end OwnCalls
end OwnPrelude
section
open Jvm.FP.Core
theorem own_norm (n : Nat) (h0 : 0 < n) (h : n < 2 ^ 53) : ∃ c j : Nat, j ≤ 52 ∧ c = n * 2 ^ j ∧ 2 ^ 52 ≤ c ∧ c < 2 ^ 53 := by
  have l1 : 2 ^ n.log2 ≤ n := Nat.log2_self_le (by omega)
  have l2 : n < 2 ^ (n.log2 + 1) := Nat.lt_log2_self
  have l3 : n.log2 < 53 := (Nat.pow_lt_pow_iff_right (by decide : 1 < 2)).mp (Nat.lt_of_le_of_lt l1 h)
  refine ⟨_, 52 - n.log2, by omega, rfl, ?_, ?_⟩
  · calc 2 ^ 52 = 2 ^ n.log2 * 2 ^ (52 - n.log2) := by rw [← Nat.pow_add]; congr 1; omega
      _ ≤ n * 2 ^ (52 - n.log2) := Nat.mul_le_mul_right _ l1
  · calc n * 2 ^ (52 - n.log2) < 2 ^ (n.log2 + 1) * 2 ^ (52 - n.log2) := Nat.mul_lt_mul_of_pos_right l2 (Nat.two_pow_pos _)
      _ = 2 ^ 53 := by rw [← Nat.pow_add]; congr 1; omega
theorem own_qmin : b64.qmin = -1074 := by decide
theorem own_qmax : b64.qmax = 971 := by decide
theorem own_tails : b64.tails = 2 ^ 52 := by decide
theorem own_fits {c : Nat} {q : Int} (h1 : 2 ^ 52 ≤ c) (h2 : c < 2 ^ 53) (h3 : -1074 ≤ q) (h4 : q ≤ 971) : Jvm.FP.Core.fits b64 (.fin false c q) := ⟨h2, by rw [own_qmin]; exact h3, by rw [own_qmax]; exact h4, Or.inr (by rw [own_tails]; exact h1)⟩
theorem own_k1 : val64 4368491638549381120 = .fin false (2 ^ 52) (-105) := by decide +kernel
theorem own_k2 : val64 4845873199050653696 = .fin false (2 ^ 52) 1 := by decide +kernel
theorem own_v0 : val64 0 = .fin false 0 (-1074) := by decide +kernel
theorem own_v1 : val64 0x3ff0000000000000 = .fin false (2 ^ 52) (-52) := by decide +kernel
/-- the datum of l2d, and what the two products make of it -/
theorem own_fp (T : Int64) (h0 : 0 ≤ T.toInt) (h1 : T.toInt < 2 ^ 53) : ∃ (c : Nat) (q : Int), val64 (l2d T) = .fin false c q ∧ (∃ q', val64 (dmul (l2d T) 4368491638549381120) = .fin false c q' ∧ -1074 ≤ q' ∧ q' ≤ -53 ∧ c < 2 ^ 53) ∧ val64 (dmul (dmul (l2d T) 4368491638549381120) 4845873199050653696) = .fin false c q ∧ truncate false c q = T.toInt := by
  have hb : ofInt T.toInt = .fin false T.toInt.toNat 0 := by
    unfold ofInt
    rw [decide_eq_false (by omega), show T.toInt.natAbs = T.toInt.toNat by omega]
  by_cases hz : T.toInt.toNat = 0
  · have e1 : val64 (l2d T) = .fin false 0 (-1074) := by rw [val64_l2d, hb, hz, ← own_qmin]; rfl
    have e2 : val64 (dmul (l2d T) 4368491638549381120) = .fin false 0 (-1074) := by rw [val64_dmul, e1, own_k1]; unfold exactProduct round roundRatio; simp [own_qmin]
    refine ⟨0, -1074, e1, ⟨-1074, e2, by omega, by omega, by decide⟩, ?_, ?_⟩
    · rw [val64_dmul, e2, own_k2]; unfold exactProduct round roundRatio; simp [own_qmin]
    · show ((0 * 2 ^ (-1074 : Int).toNat / 2 ^ (- -1074 : Int).toNat : Nat) : Int) = T.toInt
      rw [Nat.zero_mul, Nat.zero_div]; omega
  · obtain ⟨c, j, hj, hc, hc1, hc2⟩ := own_norm T.toInt.toNat (by omega) (by omega)
    have e1 : val64 (l2d T) = .fin false c (-(j : Int)) := by
      rw [val64_l2d, hb]
      refine roundRatio_exact good_b64 (by decide) (own_fits hc1 hc2 (by omega) (by omega)) ?_
      rw [show ((0 : Int) - -(j : Int)).toNat = j by omega, show (-(j : Int) - 0).toNat = 0 by omega, hc]; simp
    have e2 : val64 (dmul (l2d T) 4368491638549381120) = .fin false c (-(j : Int) - 53) := by
      rw [val64_dmul, e1, own_k1]
      refine roundRatio_exact good_b64 (by decide) (own_fits hc1 hc2 (by omega) (by omega)) ?_
      rw [show ((-(j : Int) + -105) - (-(j : Int) - 53)).toNat = 0 by omega, show ((-(j : Int) - 53) - (-(j : Int) + -105)).toNat = 52 by omega]; simp
    refine ⟨c, -(j : Int), e1, ⟨_, e2, by omega, by omega, hc2⟩, ?_, ?_⟩
    · rw [val64_dmul, e2, own_k2]
      refine roundRatio_exact good_b64 (by decide) (own_fits hc1 hc2 (by omega) (by omega)) ?_
      rw [show ((-(j : Int) - 53 + 1) - -(j : Int)).toNat = 0 by omega, show (-(j : Int) - (-(j : Int) - 53 + 1)).toNat = 52 by omega]; simp
    · unfold truncate signed
      rw [show (-(j : Int)).toNat = 0 by omega, show (- -(j : Int)).toNat = j by omega, hc]
      simp only [Nat.pow_zero, Nat.mul_one, Nat.mul_div_cancel _ (Nat.two_pow_pos j)]
      show ((T.toInt.toNat : Nat) : Int) = T.toInt
      omega
theorem own_back (T : Int64) (h0 : 0 ≤ T.toInt) (h1 : T.toInt < 2 ^ 53) : dmul (dmul (l2d T) 4368491638549381120) 4845873199050653696 = l2d T := by
  obtain ⟨c, q, e1, -, e3, -⟩ := own_fp T h0 h1
  exact val64_inj (by rw [e3]; nofun) (by rw [e3, e1])
theorem own_d2l (T : Int64) (h0 : 0 ≤ T.toInt) (h1 : T.toInt < 2 ^ 53) : d2l (l2d T) = T := by
  obtain ⟨c, q, e1, -, e3, e4⟩ := own_fp T h0 h1
  show toL (val64 (l2d T)) = T
  rw [e1]; show Int64.ofInt (max (-2 ^ 63) (min (2 ^ 63 - 1) (truncate false c q))) = T
  rw [e4]
  rw [show max (-2 ^ 63) (min (2 ^ 63 - 1) T.toInt) = T.toInt by omega]
  exact Int64.ofInt_toInt T
theorem own_dge (T : Int64) (h0 : 0 ≤ T.toInt) (h1 : T.toInt < 2 ^ 53) : dcmp (dmul (l2d T) 4368491638549381120) 0 = some .eq ∨ dcmp (dmul (l2d T) 4368491638549381120) 0 = some .gt := by
  obtain ⟨c, q, -, ⟨q', e2, -⟩, -⟩ := own_fp T h0 h1
  have : dcmp (dmul (l2d T) 4368491638549381120) 0 = order (.fin false c q') (.fin false 0 (-1074)) := by
    show order (val64 _) (val64 _) = _
    rw [e2, own_v0]
  rw [this]; unfold order signed inUnits
  simp only [Bool.false_eq_true, if_false, Nat.zero_mul]
  generalize c * 2 ^ (q' - min q' (-1074)).toNat = k
  by_cases hk : k = 0
  · left; subst hk; rfl
  · right; congr 1; show compareOfLessAndEq ((k : Nat) : Int) ((0 : Nat) : Int) = .gt; unfold compareOfLessAndEq; rw [if_neg (by omega), if_neg (by omega)]
theorem own_dlt (T : Int64) (h0 : 0 ≤ T.toInt) (h1 : T.toInt < 2 ^ 53) : dcmp (dmul (l2d T) 4368491638549381120) 0x3ff0000000000000 = some .lt := by
  obtain ⟨c, q, -, ⟨q', e2, a1, a2, a3⟩, -⟩ := own_fp T h0 h1
  have : dcmp (dmul (l2d T) 4368491638549381120) 0x3ff0000000000000 = order (.fin false c q') (.fin false (2 ^ 52) (-52)) := by
    show order (val64 _) (val64 _) = _
    rw [e2, own_v1]
  rw [this]; unfold order signed inUnits
  simp only [Bool.false_eq_true, if_false]
  rw [show min q' (-52) = q' by omega, show (q' - q').toNat = 0 by omega]
  have : c * 2 ^ 0 < 2 ^ 52 * 2 ^ (-52 - q').toNat := by
    calc c * 2 ^ 0 = c := by simp
      _ < 2 ^ 53 := a3
      _ = 2 ^ 52 * 2 ^ 1 := by decide
      _ ≤ 2 ^ 52 * 2 ^ (-52 - q').toNat := Nat.mul_le_mul_left _ (Nat.pow_le_pow_right (by decide) (by omega))
  congr 1; show compareOfLessAndEq ((_ : Nat) : Int) ((_ : Nat) : Int) = .lt; unfold compareOfLessAndEq; rw [if_pos (by exact_mod_cast this)]
theorem own_deq (T : Int64) (h0 : 0 ≤ T.toInt) (h1 : T.toInt < 2 ^ 53) : dcmp (l2d T) (l2d T) = some .eq := by
  obtain ⟨c, q, e1, -⟩ := own_fp T h0 h1
  show order (val64 _) (val64 _) = _
  rw [e1]; unfold order; simp [compare, compareOfLessAndEq]
theorem own_nn (T : Int64) (h0 : 0 ≤ T.toInt) (h1 : T.toInt < 2 ^ 53) : val64 (dmul (l2d T) 4368491638549381120) ≠ .nan ∧ val64 (dmul (dmul (l2d T) 4368491638549381120) 4845873199050653696) ≠ .nan := by
  obtain ⟨c, q, e1, ⟨q', e2, -⟩, e3, -⟩ := own_fp T h0 h1
  rw [e2, e3]; exact ⟨nofun, nofun⟩
end
abbrev own_sh (z : Int64) (k : Int32) : Int64 := ((z).toUInt64 >>> (k &&& 0x3f).toInt64.toUInt64).toInt64
def own_mix (z : Int64) : Int64 :=
  let a := (z ^^^ own_sh z (30 : Int32)) * (-4658895280553007687 : Int64)
  let b := (a ^^^ own_sh a (27 : Int32)) * (-7723592293110705685 : Int64)
  b ^^^ own_sh b (31 : Int32)
abbrev own_top (z : Int64) : Int64 := ((z).toUInt64 >>> ((11 : Int32) &&& 0x3f).toInt64.toUInt64).toInt64
theorem own_topB (z : Int64) : 0 ≤ (own_top z).toInt ∧ (own_top z).toInt < 2 ^ 53 := by
  have e : (own_top z).toBitVec = z.toBitVec >>> 11 := by
    show (z.toUInt64 >>> ((11 : Int32) &&& 0x3f).toInt64.toUInt64).toBitVec = _
    rw [UInt64.toBitVec_shiftRight, show ((11 : Int32) &&& 0x3f).toInt64.toUInt64.toBitVec = BitVec.ofNat 64 11 from by decide]
    have e : (BitVec.ofNat 64 11 % 64#64).toNat = 11 := by decide
    show z.toBitVec >>> (BitVec.ofNat 64 11 % 64#64) = _
    rw [BitVec.ushiftRight_eq', e]
  have n : (own_top z).toBitVec.toNat < 2 ^ 53 := by
    rw [e, BitVec.toNat_ushiftRight, Nat.shiftRight_eq_div_pow]
    have := z.toBitVec.isLt
    omega
  have t : (own_top z).toInt = ((own_top z).toBitVec.toNat : Int) := by
    show (own_top z).toBitVec.toInt = _
    rw [BitVec.toInt_eq_toNat_of_lt]; omega
  rw [t]; omega
abbrev own_d (z : Int64) : UInt64 := (FP.dmul (FP.l2d ((z).toUInt64 >>> ((11 : Int32) &&& 0x3f).toInt64.toUInt64).toInt64) (4368491638549381120 : UInt64))
theorem own_nanOf {a : UInt64} (h : Jvm.FP.Core.val64 a ≠ .nan) : Jvm.Free.Fl.NoNaN64 a := Jvm.Free.Fl.noNaN64_no.mpr (decide_eq_false h)
theorem own_nn1 (z : Int64) : Jvm.Free.Fl.NoNaN64 (own_d z) := own_nanOf (own_nn _ (own_topB z).1 (own_topB z).2).1
theorem own_nn2 (z : Int64) : Jvm.Free.Fl.NoNaN64 (FP.dmul (own_d z) (4845873199050653696 : UInt64)) := own_nanOf (own_nn _ (own_topB z).1 (own_topB z).2).2
theorem own_f1 (z : Int64) : ¬ ((cmpValue (FP.dcmp (own_d z) FP.dconst0) .l) < (0 : Int32)) := by
  have q : FP.dcmp (own_d z) FP.dconst0 = some .eq ∨ FP.dcmp (own_d z) FP.dconst0 = some .gt := own_dge _ (own_topB z).1 (own_topB z).2
  rcases q with q | q
  · rw [q]; decide
  · rw [q]; decide
theorem own_f2 (z : Int64) : (cmpValue (FP.dcmp (own_d z) FP.dconst1) .g) < (0 : Int32) := by
  have q : FP.dcmp (own_d z) FP.dconst1 = some .lt := own_dlt _ (own_topB z).1 (own_topB z).2
  rw [q]; decide
theorem own_f0 (z : Int64) : FP.dmul (own_d z) (4845873199050653696 : UInt64) = FP.l2d (own_top z) := own_back _ (own_topB z).1 (own_topB z).2
theorem own_f3 (z : Int64) : FP.d2l (FP.dmul (own_d z) (4845873199050653696 : UInt64)) = own_top z := by rw [own_f0]; exact own_d2l _ (own_topB z).1 (own_topB z).2
theorem own_f4 (z : Int64) : (cmpValue (FP.dcmp (FP.l2d (FP.d2l (FP.dmul (own_d z) (4845873199050653696 : UInt64)))) (FP.dmul (own_d z) (4845873199050653696 : UInt64))) .l) = (0 : Int32) := by
  rw [own_f3, own_f0]
  have q : FP.dcmp (FP.l2d (own_top z)) (FP.l2d (own_top z)) = some .eq := own_deq _ (own_topB z).1 (own_topB z).2
  rw [q]; rfl
theorem own_pn0 : plainName "com/example/tallysieve/tallysieve/SplitMix64" = true := by first | (simp [plainName, overriddenIn]; done) | decide +kernel
theorem own_d1_0 : decode prog_5_method_1_code 0 = .ok (.aload_n 0, 1) := by decide +kernel
theorem own_d1_1 : decode prog_5_method_1_code 1 = .ok (.invokespecial 1, 3) := by decide +kernel
theorem own_d1_4 : decode prog_5_method_1_code 4 = .ok (.aload_n 0, 1) := by decide +kernel
theorem own_d1_5 : decode prog_5_method_1_code 5 = .ok (.lload_n 1, 1) := by decide +kernel
theorem own_d1_6 : decode prog_5_method_1_code 6 = .ok (.putfield 7, 3) := by decide +kernel
theorem own_d1_9 : decode prog_5_method_1_code 9 = .ok (.return_, 1) := by decide +kernel
def Q_own_init (Z : State) (r1 : Addr) (u1 : Int64) (h0 : Heap) (n0 : Nat) (v : Option Value) (h : Heap) (L : List Loc) : Prop := v = none ∧ Fr n0 L ∧ Keep h0 h [r1] ∧ Exa Z h r1 "com/example/tallysieve/tallysieve/SplitMix64" ∧ Fld Z h r1 "com/example/tallysieve/tallysieve/SplitMix64" "state" "J" (.long u1)
theorem own_ef_own_init (m : MethodId) (r1 : Addr) (u1 : Int64) : entryFrame m #[(.ref r1), (.long u1)] 3 = mkF m 0 #[.val (.ref r1), .val (.long u1), .second] [] := by first | (simp [entryFrame, mkF, argsToLocals, Value.category]; done) | rfl
set_option maxRecDepth 65536 in
set_option maxHeartbeats 40000000 in
theorem own_init (l : Launch) (Z : State) (a0 : Array Value) (hw : ∀ d ∈ tables_1, d.before a0 Z = true) (ws : List Jvm.Cond) (r1 : Addr) (u1 : Int64) (h0 : Heap) (n0 : Nat) (Z0 : n0 ≤ h0.size) (E1 : Exa Z h0 r1 "com/example/tallysieve/tallysieve/SplitMix64") (F1 : Fld Z h0 r1 "com/example/tallysieve/tallysieve/SplitMix64" "state" "J" (.long (0 : Int64))) (g1 : n0 ≤ r1) :
    own_Ctr l Z (⟨"com/example/tallysieve/tallysieve/SplitMix64", "<init>", "(J)V"⟩ : MethodName) prog_5_method_1_code 3 none ws ({ frames := 1, cells := 0, slots := 0, locals := 12 } : Room) (({ frames := 1, cells := 0, slots := 0, locals := 12 } : Room)).cells (({ frames := 1, cells := 0, slots := 0, locals := 12 } : Room)).slots #[(.ref r1), (.long u1)] h0 (Q_own_init Z r1 u1 h0 n0) := by
  refine own_enter (plainFor_of_name own_pn0) ?_
  intro p e s m below meth c s₁ X0 hx hZ hby hml hown hnm hlk hret e0
  have N0 := Fr.nil n0
  refine own_cast (own_ef_own_init m r1 u1) ?_
  refine own_by (g' := (mkF m 1 #[.val (.ref r1), .val (.long u1), .second] [(.ref r1)])) (fun t k => XS.aloadN X0.here hx rfl (hb hby own_d1_0) rfl rfl k) ?_
  obtain ⟨T101, X101, e101, st101⟩ := initO X0 hx hZ hown (hw _ (List.mem_of_getElem? (i := 6) rfl)) (hw _ (List.mem_of_getElem? (i := 7) rfl)) (hw _ (List.mem_of_getElem? (i := 8) rfl)) e0 (g := (mkF m 1 #[.val (.ref r1), .val (.long u1), .second] [(.ref r1)])) rfl (by rw [hml]; rfl) rfl (hb hby own_d1_1) (by decide) (W := 0) (by show 2 * 0 + _ ≤ _; exact Nat.le_of_eq rfl) (by decide)
  refine own_by (g' := (mkF m 4 #[.val (.ref r1), .val (.long u1), .second] [])) st101 ?_
  refine own_by (g' := (mkF m 6 #[.val (.ref r1), .val (.long u1), .second] [(.long u1), (.ref r1)])) (fun t k => XS.aloadN X101.here hx rfl (hb hby own_d1_4) rfl rfl (XS.lloadN X101.here hx rfl (hb hby own_d1_5) rfl k)) ?_
  obtain ⟨T102, h102, X102, e102, W102, st102⟩ := putF X101 hx hZ hown (host := "") (Or.inl (hw _ (List.mem_of_getElem? (i := 9) rfl))) Via.refl e101 F1 E1 (Or.inl (hw _ (List.mem_of_getElem? (i := 10) rfl))) (hw _ (List.mem_of_getElem? (i := 1) rfl)) (ty := .long) (by decide) rfl rfl (g := (mkF m 6 #[.val (.ref r1), .val (.long u1), .second] [(.long u1), (.ref r1)])) rfl rfl (hb hby own_d1_6)
  have f103 := F1.same W102
  have N102 := Fr.snoc X102 N0 g1
  refine own_by (g' := (mkF m 9 #[.val (.ref r1), .val (.long u1), .second] [])) st102 ?_
  have f104 := (E1.wr W102)
  refine own_retV X102 hx hlk hret (hb hby own_d1_9) (by decide) (by decide) ?_
  rw [e102]
  exact ⟨rfl, N102, ((Keep.refl h0 [r1]).wr W102 (Or.inl (List.mem_of_getElem? (i := 0) rfl))), f104, f103⟩
theorem own_d4_0 : decode prog_5_method_2_code 0 = .ok (.aload_n 0, 1) := by decide +kernel
theorem own_d4_1 : decode prog_5_method_2_code 1 = .ok (.dup, 1) := by decide +kernel
theorem own_d4_2 : decode prog_5_method_2_code 2 = .ok (.getfield 7, 3) := by decide +kernel
theorem own_d4_5 : decode prog_5_method_2_code 5 = .ok (.ldc2_w 13, 3) := by decide +kernel
theorem own_d4_8 : decode prog_5_method_2_code 8 = .ok (.ladd, 1) := by decide +kernel
theorem own_d4_9 : decode prog_5_method_2_code 9 = .ok (.putfield 7, 3) := by decide +kernel
theorem own_d4_12 : decode prog_5_method_2_code 12 = .ok (.aload_n 0, 1) := by decide +kernel
theorem own_d4_13 : decode prog_5_method_2_code 13 = .ok (.getfield 7, 3) := by decide +kernel
theorem own_d4_16 : decode prog_5_method_2_code 16 = .ok (.lstore_n 1, 1) := by decide +kernel
theorem own_d4_17 : decode prog_5_method_2_code 17 = .ok (.lload_n 1, 1) := by decide +kernel
theorem own_d4_18 : decode prog_5_method_2_code 18 = .ok (.lload_n 1, 1) := by decide +kernel
theorem own_d4_19 : decode prog_5_method_2_code 19 = .ok (.bipush 30, 2) := by decide +kernel
theorem own_d4_21 : decode prog_5_method_2_code 21 = .ok (.lushr, 1) := by decide +kernel
theorem own_d4_22 : decode prog_5_method_2_code 22 = .ok (.lxor, 1) := by decide +kernel
theorem own_d4_23 : decode prog_5_method_2_code 23 = .ok (.ldc2_w 15, 3) := by decide +kernel
theorem own_d4_26 : decode prog_5_method_2_code 26 = .ok (.lmul, 1) := by decide +kernel
theorem own_d4_27 : decode prog_5_method_2_code 27 = .ok (.lstore_n 1, 1) := by decide +kernel
theorem own_d4_28 : decode prog_5_method_2_code 28 = .ok (.lload_n 1, 1) := by decide +kernel
theorem own_d4_29 : decode prog_5_method_2_code 29 = .ok (.lload_n 1, 1) := by decide +kernel
theorem own_d4_30 : decode prog_5_method_2_code 30 = .ok (.bipush 27, 2) := by decide +kernel
theorem own_d4_32 : decode prog_5_method_2_code 32 = .ok (.lushr, 1) := by decide +kernel
theorem own_d4_33 : decode prog_5_method_2_code 33 = .ok (.lxor, 1) := by decide +kernel
theorem own_d4_34 : decode prog_5_method_2_code 34 = .ok (.ldc2_w 17, 3) := by decide +kernel
theorem own_d4_37 : decode prog_5_method_2_code 37 = .ok (.lmul, 1) := by decide +kernel
theorem own_d4_38 : decode prog_5_method_2_code 38 = .ok (.lstore_n 1, 1) := by decide +kernel
theorem own_d4_39 : decode prog_5_method_2_code 39 = .ok (.lload_n 1, 1) := by decide +kernel
theorem own_d4_40 : decode prog_5_method_2_code 40 = .ok (.lload_n 1, 1) := by decide +kernel
theorem own_d4_41 : decode prog_5_method_2_code 41 = .ok (.bipush 31, 2) := by decide +kernel
theorem own_d4_43 : decode prog_5_method_2_code 43 = .ok (.lushr, 1) := by decide +kernel
theorem own_d4_44 : decode prog_5_method_2_code 44 = .ok (.lxor, 1) := by decide +kernel
theorem own_d4_45 : decode prog_5_method_2_code 45 = .ok (.lreturn, 1) := by decide +kernel
def Q_own_next (Z : State) (r1 : Addr) (u1 : Int64) (h0 : Heap) (n0 : Nat) (v : Option Value) (h : Heap) (L : List Loc) : Prop := v = some (.long (own_mix (u1 + (-7046029254386353131 : Int64)))) ∧ Fr n0 L ∧ Keep h0 h [r1] ∧ Exa Z h r1 "com/example/tallysieve/tallysieve/SplitMix64" ∧ Fld Z h r1 "com/example/tallysieve/tallysieve/SplitMix64" "state" "J" (.long (u1 + (-7046029254386353131 : Int64)))
theorem own_ef_own_next (m : MethodId) (r1 : Addr) : entryFrame m #[(.ref r1)] 3 = mkF m 0 #[.val (.ref r1), .unset, .unset] [] := by first | (simp [entryFrame, mkF, argsToLocals, Value.category]; done) | rfl
set_option maxRecDepth 65536 in
set_option maxHeartbeats 40000000 in
theorem own_next (l : Launch) (Z : State) (a0 : Array Value) (hw : ∀ d ∈ tables_1, d.before a0 Z = true) (ws : List Jvm.Cond) (r1 : Addr) (u1 : Int64) (h0 : Heap) (n0 : Nat) (Z0 : n0 ≤ h0.size) (E1 : Exa Z h0 r1 "com/example/tallysieve/tallysieve/SplitMix64") (F1 : Fld Z h0 r1 "com/example/tallysieve/tallysieve/SplitMix64" "state" "J" (.long u1)) (g1 : n0 ≤ r1) :
    own_Ctr l Z (⟨"com/example/tallysieve/tallysieve/SplitMix64", "nextLong", "()J"⟩ : MethodName) prog_5_method_2_code 3 (some .long) ws ({ frames := 0, cells := 0, slots := 0, locals := 0 } : Room) (({ frames := 0, cells := 0, slots := 0, locals := 0 } : Room)).cells (({ frames := 0, cells := 0, slots := 0, locals := 0 } : Room)).slots #[(.ref r1)] h0 (Q_own_next Z r1 u1 h0 n0) := by
  refine own_enter (plainFor_of_name own_pn0) ?_
  intro p e s m below meth c s₁ X0 hx hZ hby hml hown hnm hlk hret e0
  have N0 := Fr.nil n0
  refine own_cast (own_ef_own_next m r1) ?_
  refine own_by (g' := (mkF m 2 #[.val (.ref r1), .unset, .unset] [(.ref r1), (.ref r1)])) (fun t k => XS.aloadN X0.here hx rfl (hb hby own_d4_0) rfl rfl (XS.dup X0.here hx rfl (hb hby own_d4_1) rfl rfl k)) ?_
  obtain ⟨T101, X101, e101, st101⟩ := getF X0 hx hZ hown (host := "") (Or.inl (hw _ (List.mem_of_getElem? (i := 9) rfl))) Via.refl e0 F1 (g := (mkF m 2 #[.val (.ref r1), .unset, .unset] [(.ref r1), (.ref r1)])) rfl rfl (hb hby own_d4_2)
  refine own_by (g' := (mkF m 5 #[.val (.ref r1), .unset, .unset] [(.long u1), (.ref r1)])) st101 ?_
  refine own_by (g' := (mkF m 9 #[.val (.ref r1), .unset, .unset] [(.long (u1 + (-7046029254386353131 : Int64))), (.ref r1)])) (fun t k => X101.ldc2Long hx hown (mvT hZ (hw _ (List.mem_of_getElem? (i := 21) rfl))) (g := (mkF m 5 #[.val (.ref r1), .unset, .unset] [(.long u1), (.ref r1)])) rfl (hb hby own_d4_5) t (XS.ladd X101.here hx rfl (hb hby own_d4_8) rfl k)) ?_
  obtain ⟨T102, h102, X102, e102, W102, st102⟩ := putF X101 hx hZ hown (host := "") (Or.inl (hw _ (List.mem_of_getElem? (i := 9) rfl))) Via.refl e101 F1 E1 (Or.inl (hw _ (List.mem_of_getElem? (i := 10) rfl))) (hw _ (List.mem_of_getElem? (i := 1) rfl)) (ty := .long) (by decide) rfl rfl (g := (mkF m 9 #[.val (.ref r1), .unset, .unset] [(.long (u1 + (-7046029254386353131 : Int64))), (.ref r1)])) rfl rfl (hb hby own_d4_9)
  have f103 := F1.same W102
  have N102 := Fr.snoc X102 N0 g1
  refine own_by (g' := (mkF m 12 #[.val (.ref r1), .unset, .unset] [])) st102 ?_
  refine own_by (g' := (mkF m 13 #[.val (.ref r1), .unset, .unset] [(.ref r1)])) (fun t k => XS.aloadN X102.here hx rfl (hb hby own_d4_12) rfl rfl k) ?_
  obtain ⟨T104, X104, e104, st104⟩ := getF X102 hx hZ hown (host := "") (Or.inl (hw _ (List.mem_of_getElem? (i := 9) rfl))) Via.refl e102 f103 (g := (mkF m 13 #[.val (.ref r1), .unset, .unset] [(.ref r1)])) rfl rfl (hb hby own_d4_13)
  refine own_by (g' := (mkF m 16 #[.val (.ref r1), .unset, .unset] [(.long (u1 + (-7046029254386353131 : Int64)))])) st104 ?_
  generalize hv105 : (u1 + (-7046029254386353131 : Int64)) = v105
  refine own_by (g' := (mkF m 19 #[.val (.ref r1), .val (.long v105), .second] [(.long v105), (.long v105)])) (fun t k => XS.lstoreN X104.here hx rfl (hb hby own_d4_16) rfl (l' := #[.val (.ref r1), .val (.long v105), .second]) rfl (XS.lloadN X104.here hx rfl (hb hby own_d4_17) rfl (XS.lloadN X104.here hx rfl (hb hby own_d4_18) rfl k))) ?_
  refine own_by (g' := (mkF m 23 #[.val (.ref r1), .val (.long v105), .second] [(.long (v105 ^^^ ((v105).toUInt64 >>> ((30 : Int32) &&& 0x3f).toInt64.toUInt64).toInt64))])) (fun t k => XS.bipush X104.here hx rfl (hb hby own_d4_19) (XS.lushr X104.here hx rfl (hb hby own_d4_21) rfl (XS.lxor X104.here hx rfl (hb hby own_d4_22) rfl k))) ?_
  refine own_by (g' := (mkF m 27 #[.val (.ref r1), .val (.long v105), .second] [(.long ((v105 ^^^ ((v105).toUInt64 >>> ((30 : Int32) &&& 0x3f).toInt64.toUInt64).toInt64) * (-4658895280553007687 : Int64)))])) (fun t k => X104.ldc2Long hx hown (mvT hZ (hw _ (List.mem_of_getElem? (i := 22) rfl))) (g := (mkF m 23 #[.val (.ref r1), .val (.long v105), .second] [(.long (v105 ^^^ ((v105).toUInt64 >>> ((30 : Int32) &&& 0x3f).toInt64.toUInt64).toInt64))])) rfl (hb hby own_d4_23) t (XS.lmul X104.here hx rfl (hb hby own_d4_26) rfl k)) ?_
  generalize hv106 : ((v105 ^^^ ((v105).toUInt64 >>> ((30 : Int32) &&& 0x3f).toInt64.toUInt64).toInt64) * (-4658895280553007687 : Int64)) = v106
  refine own_by (g' := (mkF m 30 #[.val (.ref r1), .val (.long v106), .second] [(.long v106), (.long v106)])) (fun t k => XS.lstoreN X104.here hx rfl (hb hby own_d4_27) rfl (l' := #[.val (.ref r1), .val (.long v106), .second]) rfl (XS.lloadN X104.here hx rfl (hb hby own_d4_28) rfl (XS.lloadN X104.here hx rfl (hb hby own_d4_29) rfl k))) ?_
  refine own_by (g' := (mkF m 34 #[.val (.ref r1), .val (.long v106), .second] [(.long (v106 ^^^ ((v106).toUInt64 >>> ((27 : Int32) &&& 0x3f).toInt64.toUInt64).toInt64))])) (fun t k => XS.bipush X104.here hx rfl (hb hby own_d4_30) (XS.lushr X104.here hx rfl (hb hby own_d4_32) rfl (XS.lxor X104.here hx rfl (hb hby own_d4_33) rfl k))) ?_
  refine own_by (g' := (mkF m 38 #[.val (.ref r1), .val (.long v106), .second] [(.long ((v106 ^^^ ((v106).toUInt64 >>> ((27 : Int32) &&& 0x3f).toInt64.toUInt64).toInt64) * (-7723592293110705685 : Int64)))])) (fun t k => X104.ldc2Long hx hown (mvT hZ (hw _ (List.mem_of_getElem? (i := 23) rfl))) (g := (mkF m 34 #[.val (.ref r1), .val (.long v106), .second] [(.long (v106 ^^^ ((v106).toUInt64 >>> ((27 : Int32) &&& 0x3f).toInt64.toUInt64).toInt64))])) rfl (hb hby own_d4_34) t (XS.lmul X104.here hx rfl (hb hby own_d4_37) rfl k)) ?_
  generalize hv107 : ((v106 ^^^ ((v106).toUInt64 >>> ((27 : Int32) &&& 0x3f).toInt64.toUInt64).toInt64) * (-7723592293110705685 : Int64)) = v107
  refine own_by (g' := (mkF m 41 #[.val (.ref r1), .val (.long v107), .second] [(.long v107), (.long v107)])) (fun t k => XS.lstoreN X104.here hx rfl (hb hby own_d4_38) rfl (l' := #[.val (.ref r1), .val (.long v107), .second]) rfl (XS.lloadN X104.here hx rfl (hb hby own_d4_39) rfl (XS.lloadN X104.here hx rfl (hb hby own_d4_40) rfl k))) ?_
  refine own_by (g' := (mkF m 45 #[.val (.ref r1), .val (.long v107), .second] [(.long (v107 ^^^ ((v107).toUInt64 >>> ((31 : Int32) &&& 0x3f).toInt64.toUInt64).toInt64))])) (fun t k => XS.bipush X104.here hx rfl (hb hby own_d4_41) (XS.lushr X104.here hx rfl (hb hby own_d4_43) rfl (XS.lxor X104.here hx rfl (hb hby own_d4_44) rfl k))) ?_
  have f108 := (E1.wr W102)
  refine own_retJ X104 hx hlk hret (hb hby own_d4_45) (by decide) (by decide) ?_
  rw [e104]
  exact ⟨(by subst hv105 hv106 hv107; rfl), N102, ((Keep.refl h0 [r1]).wr W102 (Or.inl (List.mem_of_getElem? (i := 0) rfl))), f108, f103⟩
theorem own_d3_0 : decode prog_5_method_3_code 0 = .ok (.aload_n 0, 1) := by decide +kernel
theorem own_d3_1 : decode prog_5_method_3_code 1 = .ok (.invokevirtual 19, 3) := by decide +kernel
theorem own_pd0 : parseMethodDescriptor "()J" = some ⟨[], some .long⟩ := by decide +kernel
theorem own_d3_4 : decode prog_5_method_3_code 4 = .ok (.bipush 11, 2) := by decide +kernel
theorem own_d3_6 : decode prog_5_method_3_code 6 = .ok (.lushr, 1) := by decide +kernel
theorem own_d3_7 : decode prog_5_method_3_code 7 = .ok (.l2d, 1) := by decide +kernel
theorem own_d3_8 : decode prog_5_method_3_code 8 = .ok (.ldc2_w 23, 3) := by decide +kernel
theorem own_d3_11 : decode prog_5_method_3_code 11 = .ok (.dmul, 1) := by decide +kernel
theorem own_d3_12 : decode prog_5_method_3_code 12 = .ok (.dreturn, 1) := by decide +kernel
def Q_own_nextD (Z : State) (r1 : Addr) (u1 : Int64) (h0 : Heap) (n0 : Nat) (v : Option Value) (h : Heap) (L : List Loc) : Prop := v = some (.double (FP.dmul (FP.l2d (((own_mix (u1 + (-7046029254386353131 : Int64)))).toUInt64 >>> ((11 : Int32) &&& 0x3f).toInt64.toUInt64).toInt64) (4368491638549381120 : UInt64))) ∧ Fr n0 L ∧ Keep h0 h [r1] ∧ Exa Z h r1 "com/example/tallysieve/tallysieve/SplitMix64" ∧ Fld Z h r1 "com/example/tallysieve/tallysieve/SplitMix64" "state" "J" (.long (u1 + (-7046029254386353131 : Int64)))
theorem own_ef_own_nextD (m : MethodId) (r1 : Addr) : entryFrame m #[(.ref r1)] 1 = mkF m 0 #[.val (.ref r1)] [] := by first | (simp [entryFrame, mkF, argsToLocals, Value.category]; done) | rfl
set_option maxRecDepth 65536 in
set_option maxHeartbeats 40000000 in
theorem own_nextD (l : Launch) (Z : State) (a0 : Array Value) (hw : ∀ d ∈ tables_1, d.before a0 Z = true) (ws : List Jvm.Cond) (r1 : Addr) (u1 : Int64) (h0 : Heap) (n0 : Nat) (Z0 : n0 ≤ h0.size) (E1 : Exa Z h0 r1 "com/example/tallysieve/tallysieve/SplitMix64") (F1 : Fld Z h0 r1 "com/example/tallysieve/tallysieve/SplitMix64" "state" "J" (.long u1)) (g1 : n0 ≤ r1) :
    own_Ctr l Z (⟨"com/example/tallysieve/tallysieve/SplitMix64", "nextDouble", "()D"⟩ : MethodName) prog_5_method_3_code 1 (some .double) ws ({ frames := 1, cells := 0, slots := 0, locals := 14 } : Room) (({ frames := 1, cells := 0, slots := 0, locals := 14 } : Room)).cells (({ frames := 1, cells := 0, slots := 0, locals := 14 } : Room)).slots #[(.ref r1)] h0 (Q_own_nextD Z r1 u1 h0 n0) := by
  refine own_enter (plainFor_of_name own_pn0) ?_
  intro p e s m below meth c s₁ X0 hx hZ hby hml hown hnm hlk hret e0
  have N0 := Fr.nil n0
  refine own_cast (own_ef_own_nextD m r1) ?_
  refine own_by (g' := (mkF m 1 #[.val (.ref r1)] [(.ref r1)])) (fun t k => XS.aloadN X0.here hx rfl (hb hby own_d3_0) rfl rfl k) ?_
  refine own_callV X0 hx hZ hown (hw _ (List.mem_of_getElem? (i := 16) rfl)) (hw _ (List.mem_of_getElem? (i := 17) rfl)) (notFace_of_selects (args := #[]) (mvT hZ (hw _ (List.mem_of_getElem? (i := 19) rfl)))) (hw _ (List.mem_of_getElem? (i := 19) rfl)) (hw _ (List.mem_of_getElem? (i := 18) rfl)) (hw _ (List.mem_of_getElem? (i := 20) rfl)) (hw _ (List.mem_of_getElem? (i := 2) rfl)) (by decide) (a := r1) E1 (own_next l Z a0 hw [] (r1) (u1) h0 n0 Z0 E1 F1 g1) 0 (by decide) (by decide) (by decide) (by decide) e0 (g := (mkF m 1 #[.val (.ref r1)] [(.ref r1)])) rfl (by rw [hml]; rfl) (argsL := []) (rest := []) (lenOf own_pd0 rfl) rfl (by show 2 * 0 + _ ≤ _; exact Nat.le_of_eq rfl) (hb hby own_d3_1) ?_
  intro v101 T101 L101 X101 q101
  obtain ⟨rfl, N101q, K101, f102, f103⟩ := q101
  have N101 := Fr.app N0 N101q
  show own_Goes p e below s _ _ _ T101 (mkF m 4 #[.val (.ref r1)] [(.long (own_mix (u1 + (-7046029254386353131 : Int64))))])
  refine own_by (g' := (mkF m 8 #[.val (.ref r1)] [(.double (FP.l2d (((own_mix (u1 + (-7046029254386353131 : Int64)))).toUInt64 >>> ((11 : Int32) &&& 0x3f).toInt64.toUInt64).toInt64))])) (fun t k => XS.bipush X101.here hx rfl (hb hby own_d3_4) (XS.lushr X101.here hx rfl (hb hby own_d3_6) rfl (XS.l2dS X101.here hx rfl (hb hby own_d3_7) rfl rfl k))) ?_
  refine own_by (g' := (mkF m 12 #[.val (.ref r1)] [(.double (FP.dmul (FP.l2d (((own_mix (u1 + (-7046029254386353131 : Int64)))).toUInt64 >>> ((11 : Int32) &&& 0x3f).toInt64.toUInt64).toInt64) (4368491638549381120 : UInt64)))])) (fun t k => X101.ldc2DoubleC hx hown (mvT hZ (hw _ (List.mem_of_getElem? (i := 24) rfl))) (g := (mkF m 8 #[.val (.ref r1)] [(.double (FP.l2d (((own_mix (u1 + (-7046029254386353131 : Int64)))).toUInt64 >>> ((11 : Int32) &&& 0x3f).toInt64.toUInt64).toInt64))])) rfl (hb hby own_d3_8) t (XS.dmulS X101.here hx rfl (hb hby own_d3_11) rfl (own_nn1 _) rfl k)) ?_
  refine own_retD X101 hx hlk hret (hb hby own_d3_12) (by decide) (by decide) ?_
  exact ⟨rfl, N101, ((Keep.refl h0 [r1]).trans K101 (allS (Or.inl (List.mem_of_getElem? (i := 0) rfl)) all0)), f102, f103⟩
theorem own_pn1 : plainName "com/example/tallysieve/tallysieve/SplitMix64NextDoublePinLaw" = true := by first | (simp [plainName, overriddenIn]; done) | decide +kernel
theorem own_pd1 : parseMethodDescriptor "(J)V" = some ⟨[.long], none⟩ := by decide +kernel
theorem own_pd2 : parseMethodDescriptor "()D" = some ⟨[], some .double⟩ := by decide +kernel
def Q_own_law (Z : State) (u1 : Int64) (h0 : Heap) (n0 : Nat) (v : Option Value) (h : Heap) (L : List Loc) : Prop := v = some (.int (1 : Int32)) ∧ Fr n0 L ∧ Keep h0 h []
theorem own_ef_own_law (m : MethodId) (u1 : Int64) : entryFrame m #[(.long u1)] maxLocals = mkF m 0 #[.val (.long u1), .second, .unset, .unset, .unset, .unset, .unset, .unset, .unset, .unset, .unset, .unset, .unset, .unset, .unset] [] := by first | (simp [entryFrame, mkF, argsToLocals, Value.category, maxLocals]; done) | rfl
set_option maxRecDepth 65536 in
set_option maxHeartbeats 40000000 in
theorem own_law (l : Launch) (Z : State) (a0 : Array Value) (hw : ∀ d ∈ tables_1, d.before a0 Z = true) (ws : List Jvm.Cond) (u1 : Int64) (h0 : Heap) (n0 : Nat) (Z0 : n0 ≤ h0.size)  :
    own_Ctr l Z x code maxLocals ret ws room_1 2 2 #[(.long u1)] h0 (Q_own_law Z u1 h0 n0) := by
  refine own_enter (plainFor_of_name own_pn1) ?_
  intro p e s m below meth c s₁ X0 hx hZ hby hml hown hnm hlk hret e0
  have N0 := Fr.nil n0
  refine own_cast (own_ef_own_law m u1) ?_
  obtain ⟨T101, h101, X101, e101, E101, A101, D101, U101, st101⟩ := newO X0 hx hZ hown (hw _ (List.mem_of_getElem? (i := 0) rfl)) (hw _ (List.mem_of_getElem? (i := 1) rfl)) (hw _ (List.mem_of_getElem? (i := 2) rfl)) e0 (g := (mkF m 0 #[.val (.long u1), .second, .unset, .unset, .unset, .unset, .unset, .unset, .unset, .unset, .unset, .unset, .unset, .unset, .unset] [])) rfl (hb hby at_0) (by decide) (by decide)
  obtain ⟨b101, g101⟩ : ∃ z, z = h0.size := ⟨_, rfl⟩
  rw [← g101] at A101 D101 U101 st101
  have sz_b101 : h0.size ≤ b101 := Nat.le_trans (Nat.le_refl _) (Nat.le_of_eq g101.symm)
  have g_b101 : n0 ≤ b101 := Nat.le_trans Z0 sz_b101
  have f102 : Fld Z h101 b101 "com/example/tallysieve/tallysieve/SplitMix64" "state" "J" (.long (0 : Int64)) := D101 (Or.inl (hw _ (List.mem_of_getElem? (i := 10) rfl))) (ty := .long) (by decide)
  refine own_by (g' := (mkF m 3 #[.val (.long u1), .second, .unset, .unset, .unset, .unset, .unset, .unset, .unset, .unset, .unset, .unset, .unset, .unset, .unset] [(.ref b101)])) st101 ?_
  refine own_by (g' := (mkF m 5 #[.val (.long u1), .second, .unset, .unset, .unset, .unset, .unset, .unset, .unset, .unset, .unset, .unset, .unset, .unset, .unset] [(.long u1), (.ref b101), (.ref b101)])) (fun t k => XS.dup X101.here hx rfl (hb hby at_3) rfl rfl (XS.lloadN X101.here hx rfl (hb hby at_4) rfl k)) ?_
  refine own_callI X101 hx hZ hown rfl (hw _ (List.mem_of_getElem? (i := 3) rfl)) (hw _ (List.mem_of_getElem? (i := 4) rfl)) (hw _ (List.mem_of_getElem? (i := 2) rfl)) (hw _ (List.mem_of_getElem? (i := 5) rfl)) (by decide) (a := b101) (own_init l Z a0 hw [] (b101) (u1) h101 n0 (Nat.le_trans Z0 E101.1) A101 f102 g_b101) 1 (by decide) (by decide) (by decide) (by decide) e101 (g := (mkF m 5 #[.val (.long u1), .second, .unset, .unset, .unset, .unset, .unset, .unset, .unset, .unset, .unset, .unset, .unset, .unset, .unset] [(.long u1), (.ref b101), (.ref b101)])) rfl (by rw [hml]; rfl) (argsL := [(.long u1)]) (rest := [(.ref b101)]) (lenOf own_pd1 rfl) rfl (by show 2 * 0 + _ ≤ _; exact Nat.le_of_eq rfl) (hb hby at_5) ?_
  intro v103 T103 L103 X103 q103
  obtain ⟨rfl, N103q, K103, f104, f105⟩ := q103
  have N103 := Fr.app N0 N103q
  show own_Goes p e below s _ _ _ T103 (mkF m 8 #[.val (.long u1), .second, .unset, .unset, .unset, .unset, .unset, .unset, .unset, .unset, .unset, .unset, .unset, .unset, .unset] [(.ref b101)])
  refine own_by (g' := (mkF m 9 #[.val (.long u1), .second, .val (.ref b101), .unset, .unset, .unset, .unset, .unset, .unset, .unset, .unset, .unset, .unset, .unset, .unset] [])) (fun t k => XS.astoreN X103.here hx rfl (hb hby at_8) rfl rfl (l' := #[.val (.long u1), .second, .val (.ref b101), .unset, .unset, .unset, .unset, .unset, .unset, .unset, .unset, .unset, .unset, .unset, .unset]) rfl k) ?_
  obtain ⟨T106, h106, X106, e106, E106, A106, D106, U106, st106⟩ := newO X103 hx hZ hown (hw _ (List.mem_of_getElem? (i := 0) rfl)) (hw _ (List.mem_of_getElem? (i := 1) rfl)) (hw _ (List.mem_of_getElem? (i := 2) rfl)) rfl (g := (mkF m 9 #[.val (.long u1), .second, .val (.ref b101), .unset, .unset, .unset, .unset, .unset, .unset, .unset, .unset, .unset, .unset, .unset, .unset] [])) rfl (hb hby at_9) (by decide) (by decide)
  obtain ⟨b106, g106⟩ : ∃ z, z = T103.heap.size := ⟨_, rfl⟩
  rw [← g106] at A106 D106 U106 st106
  have sz_b106 : h0.size ≤ b106 := Nat.le_trans (Nat.le_trans E101.1 K103.1) (Nat.le_of_eq g106.symm)
  have g_b106 : n0 ≤ b106 := Nat.le_trans Z0 sz_b106
  have f107 : Fld Z h106 b106 "com/example/tallysieve/tallysieve/SplitMix64" "state" "J" (.long (0 : Int64)) := D106 (Or.inl (hw _ (List.mem_of_getElem? (i := 10) rfl))) (ty := .long) (by decide)
  refine own_by (g' := (mkF m 12 #[.val (.long u1), .second, .val (.ref b101), .unset, .unset, .unset, .unset, .unset, .unset, .unset, .unset, .unset, .unset, .unset, .unset] [(.ref b106)])) st106 ?_
  refine own_by (g' := (mkF m 14 #[.val (.long u1), .second, .val (.ref b101), .unset, .unset, .unset, .unset, .unset, .unset, .unset, .unset, .unset, .unset, .unset, .unset] [(.long u1), (.ref b106), (.ref b106)])) (fun t k => XS.dup X106.here hx rfl (hb hby at_12) rfl rfl (XS.lloadN X106.here hx rfl (hb hby at_13) rfl k)) ?_
  refine own_callI X106 hx hZ hown rfl (hw _ (List.mem_of_getElem? (i := 3) rfl)) (hw _ (List.mem_of_getElem? (i := 4) rfl)) (hw _ (List.mem_of_getElem? (i := 2) rfl)) (hw _ (List.mem_of_getElem? (i := 5) rfl)) (by decide) (a := b106) (own_init l Z a0 hw [] (b106) (u1) h106 n0 (Nat.le_trans Z0 (Nat.le_trans (Nat.le_trans E101.1 K103.1) E106.1)) A106 f107 g_b106) 1 (by decide) (by decide) (by decide) (by decide) e106 (g := (mkF m 14 #[.val (.long u1), .second, .val (.ref b101), .unset, .unset, .unset, .unset, .unset, .unset, .unset, .unset, .unset, .unset, .unset, .unset] [(.long u1), (.ref b106), (.ref b106)])) rfl (by rw [hml]; rfl) (argsL := [(.long u1)]) (rest := [(.ref b106)]) (lenOf own_pd1 rfl) rfl (by show 2 * 0 + _ ≤ _; exact Nat.le_of_eq rfl) (hb hby at_14) ?_
  intro v108 T108 L108 X108 q108
  obtain ⟨rfl, N108q, K108, f109, f110⟩ := q108
  have N108 := Fr.app N103 N108q
  show own_Goes p e below s _ _ _ T108 (mkF m 17 #[.val (.long u1), .second, .val (.ref b101), .unset, .unset, .unset, .unset, .unset, .unset, .unset, .unset, .unset, .unset, .unset, .unset] [(.ref b106)])
  refine own_by (g' := (mkF m 19 #[.val (.long u1), .second, .val (.ref b101), .val (.ref b106), .unset, .unset, .unset, .unset, .unset, .unset, .unset, .unset, .unset, .unset, .unset] [(.ref b101)])) (fun t k => XS.astoreN X108.here hx rfl (hb hby at_17) rfl rfl (l' := #[.val (.long u1), .second, .val (.ref b101), .val (.ref b106), .unset, .unset, .unset, .unset, .unset, .unset, .unset, .unset, .unset, .unset, .unset]) rfl (XS.aloadN X108.here hx rfl (hb hby at_18) rfl rfl k)) ?_
  have f111 := ((f104.ext E106).keep K108)
  have f112 := ((f105.ext E106).keep K108 (ninS (Nat.ne_of_lt (Nat.lt_of_lt_of_le (Nat.lt_of_lt_of_le f104.lt (Nat.le_refl _)) (Nat.le_of_eq g106.symm))) nin0))
  refine own_callV X108 hx hZ hown (hw _ (List.mem_of_getElem? (i := 11) rfl)) (hw _ (List.mem_of_getElem? (i := 12) rfl)) (notFace_of_selects (args := #[]) (mvT hZ (hw _ (List.mem_of_getElem? (i := 14) rfl)))) (hw _ (List.mem_of_getElem? (i := 14) rfl)) (hw _ (List.mem_of_getElem? (i := 13) rfl)) (hw _ (List.mem_of_getElem? (i := 15) rfl)) (hw _ (List.mem_of_getElem? (i := 2) rfl)) (by decide) (a := b101) f111 (own_nextD l Z a0 hw [] (b101) (u1) T108.heap n0 (Nat.le_trans Z0 (Nat.le_trans (Nat.le_trans (Nat.le_trans E101.1 K103.1) E106.1) K108.1)) f111 f112 g_b101) 0 (by decide) (by decide) (by decide) (by decide) rfl (g := (mkF m 19 #[.val (.long u1), .second, .val (.ref b101), .val (.ref b106), .unset, .unset, .unset, .unset, .unset, .unset, .unset, .unset, .unset, .unset, .unset] [(.ref b101)])) rfl (by rw [hml]; rfl) (argsL := []) (rest := []) (lenOf own_pd2 rfl) rfl (by show 2 * 0 + _ ≤ _; exact Nat.le_of_eq rfl) (hb hby at_19) ?_
  intro v113 T113 L113 X113 q113
  obtain ⟨rfl, N113q, K113, f114, f115⟩ := q113
  have N113 := Fr.app N108 N113q
  show own_Goes p e below s _ _ _ T113 (mkF m 22 #[.val (.long u1), .second, .val (.ref b101), .val (.ref b106), .unset, .unset, .unset, .unset, .unset, .unset, .unset, .unset, .unset, .unset, .unset] [(.double (FP.dmul (FP.l2d (((own_mix (u1 + (-7046029254386353131 : Int64)))).toUInt64 >>> ((11 : Int32) &&& 0x3f).toInt64.toUInt64).toInt64) (4368491638549381120 : UInt64)))])
  refine own_by (g' := (mkF m 25 #[.val (.long u1), .second, .val (.ref b101), .val (.ref b106), .val (.double (FP.dmul (FP.l2d (((own_mix (u1 + (-7046029254386353131 : Int64)))).toUInt64 >>> ((11 : Int32) &&& 0x3f).toInt64.toUInt64).toInt64) (4368491638549381120 : UInt64))), .second, .unset, .unset, .unset, .unset, .unset, .unset, .unset, .unset, .unset] [(.ref b106)])) (fun t k => XS.dstore X113.here hx rfl (hb hby at_22) rfl (l' := #[.val (.long u1), .second, .val (.ref b101), .val (.ref b106), .val (.double (FP.dmul (FP.l2d (((own_mix (u1 + (-7046029254386353131 : Int64)))).toUInt64 >>> ((11 : Int32) &&& 0x3f).toInt64.toUInt64).toInt64) (4368491638549381120 : UInt64))), .second, .unset, .unset, .unset, .unset, .unset, .unset, .unset, .unset, .unset]) rfl (XS.aloadN X113.here hx rfl (hb hby at_24) rfl rfl k)) ?_
  have f116 := (f109.keep K113)
  have f117 := (f110.keep K113 (ninS (Ne.symm (Nat.ne_of_lt (Nat.lt_of_lt_of_le (Nat.lt_of_lt_of_le f104.lt (Nat.le_refl _)) (Nat.le_of_eq g106.symm)))) nin0))
  refine own_callV X113 hx hZ hown (hw _ (List.mem_of_getElem? (i := 25) rfl)) (hw _ (List.mem_of_getElem? (i := 17) rfl)) (notFace_of_selects (args := #[]) (mvT hZ (hw _ (List.mem_of_getElem? (i := 19) rfl)))) (hw _ (List.mem_of_getElem? (i := 19) rfl)) (hw _ (List.mem_of_getElem? (i := 18) rfl)) (hw _ (List.mem_of_getElem? (i := 20) rfl)) (hw _ (List.mem_of_getElem? (i := 2) rfl)) (by decide) (a := b106) f116 (own_next l Z a0 hw [] (b106) (u1) T113.heap n0 (Nat.le_trans Z0 (Nat.le_trans (Nat.le_trans (Nat.le_trans (Nat.le_trans E101.1 K103.1) E106.1) K108.1) K113.1)) f116 f117 g_b106) 0 (by decide) (by decide) (by decide) (by decide) rfl (g := (mkF m 25 #[.val (.long u1), .second, .val (.ref b101), .val (.ref b106), .val (.double (FP.dmul (FP.l2d (((own_mix (u1 + (-7046029254386353131 : Int64)))).toUInt64 >>> ((11 : Int32) &&& 0x3f).toInt64.toUInt64).toInt64) (4368491638549381120 : UInt64))), .second, .unset, .unset, .unset, .unset, .unset, .unset, .unset, .unset, .unset] [(.ref b106)])) rfl (by rw [hml]; rfl) (argsL := []) (rest := []) (lenOf own_pd0 rfl) rfl (by show 2 * 0 + _ ≤ _; exact Nat.le_of_eq rfl) (hb hby at_25) ?_
  intro v118 T118 L118 X118 q118
  obtain ⟨rfl, N118q, K118, f119, f120⟩ := q118
  have N118 := Fr.app N113 N118q
  show own_Goes p e below s _ _ _ T118 (mkF m 28 #[.val (.long u1), .second, .val (.ref b101), .val (.ref b106), .val (.double (FP.dmul (FP.l2d (((own_mix (u1 + (-7046029254386353131 : Int64)))).toUInt64 >>> ((11 : Int32) &&& 0x3f).toInt64.toUInt64).toInt64) (4368491638549381120 : UInt64))), .second, .unset, .unset, .unset, .unset, .unset, .unset, .unset, .unset, .unset] [(.long (own_mix (u1 + (-7046029254386353131 : Int64))))])
  refine own_by (g' := (mkF m 33 #[.val (.long u1), .second, .val (.ref b101), .val (.ref b106), .val (.double (FP.dmul (FP.l2d (((own_mix (u1 + (-7046029254386353131 : Int64)))).toUInt64 >>> ((11 : Int32) &&& 0x3f).toInt64.toUInt64).toInt64) (4368491638549381120 : UInt64))), .second, .val (.long (((own_mix (u1 + (-7046029254386353131 : Int64)))).toUInt64 >>> ((11 : Int32) &&& 0x3f).toInt64.toUInt64).toInt64), .second, .unset, .unset, .unset, .unset, .unset, .unset, .unset] [])) (fun t k => XS.bipush X118.here hx rfl (hb hby at_28) (XS.lushr X118.here hx rfl (hb hby at_30) rfl (XS.lstore X118.here hx rfl (hb hby at_31) rfl (l' := #[.val (.long u1), .second, .val (.ref b101), .val (.ref b106), .val (.double (FP.dmul (FP.l2d (((own_mix (u1 + (-7046029254386353131 : Int64)))).toUInt64 >>> ((11 : Int32) &&& 0x3f).toInt64.toUInt64).toInt64) (4368491638549381120 : UInt64))), .second, .val (.long (((own_mix (u1 + (-7046029254386353131 : Int64)))).toUInt64 >>> ((11 : Int32) &&& 0x3f).toInt64.toUInt64).toInt64), .second, .unset, .unset, .unset, .unset, .unset, .unset, .unset]) rfl k))) ?_
  refine own_by (g' := (mkF m 37 #[.val (.long u1), .second, .val (.ref b101), .val (.ref b106), .val (.double (FP.dmul (FP.l2d (((own_mix (u1 + (-7046029254386353131 : Int64)))).toUInt64 >>> ((11 : Int32) &&& 0x3f).toInt64.toUInt64).toInt64) (4368491638549381120 : UInt64))), .second, .val (.long (((own_mix (u1 + (-7046029254386353131 : Int64)))).toUInt64 >>> ((11 : Int32) &&& 0x3f).toInt64.toUInt64).toInt64), .second, .unset, .unset, .unset, .unset, .unset, .unset, .unset] [(.int (cmpValue (FP.dcmp (FP.dmul (FP.l2d (((own_mix (u1 + (-7046029254386353131 : Int64)))).toUInt64 >>> ((11 : Int32) &&& 0x3f).toInt64.toUInt64).toInt64) (4368491638549381120 : UInt64)) FP.dconst0) .l))])) (fun t k => XS.dload X118.here hx rfl (hb hby at_33) rfl (XS.dconst0 X118.here hx rfl (hb hby at_35) rfl (XS.dcmpS X118.here hx rfl (hb hby at_36) rfl rfl k))) ?_
  refine own_by (g' := (mkF m 43 #[.val (.long u1), .second, .val (.ref b101), .val (.ref b106), .val (.double (FP.dmul (FP.l2d (((own_mix (u1 + (-7046029254386353131 : Int64)))).toUInt64 >>> ((11 : Int32) &&& 0x3f).toInt64.toUInt64).toInt64) (4368491638549381120 : UInt64))), .second, .val (.long (((own_mix (u1 + (-7046029254386353131 : Int64)))).toUInt64 >>> ((11 : Int32) &&& 0x3f).toInt64.toUInt64).toInt64), .second, .unset, .unset, .unset, .unset, .unset, .unset, .unset] [(.double FP.dconst1), (.double (FP.dmul (FP.l2d (((own_mix (u1 + (-7046029254386353131 : Int64)))).toUInt64 >>> ((11 : Int32) &&& 0x3f).toInt64.toUInt64).toInt64) (4368491638549381120 : UInt64)))])) (fun t k => XS.ifNo X118.here hx rfl (hb hby at_37) rfl ((if0 _ _).trans (flt (own_f1 _)).1) (XS.dload X118.here hx rfl (hb hby at_40) rfl (XS.dconst1 X118.here hx rfl (hb hby at_42) rfl k))) ?_
  refine own_by (g' := (mkF m 48 #[.val (.long u1), .second, .val (.ref b101), .val (.ref b106), .val (.double (FP.dmul (FP.l2d (((own_mix (u1 + (-7046029254386353131 : Int64)))).toUInt64 >>> ((11 : Int32) &&& 0x3f).toInt64.toUInt64).toInt64) (4368491638549381120 : UInt64))), .second, .val (.long (((own_mix (u1 + (-7046029254386353131 : Int64)))).toUInt64 >>> ((11 : Int32) &&& 0x3f).toInt64.toUInt64).toInt64), .second, .unset, .unset, .unset, .unset, .unset, .unset, .unset] [(.int (1 : Int32))])) (fun t k => XS.dcmpS X118.here hx rfl (hb hby at_43) rfl rfl (XS.ifNo X118.here hx rfl (hb hby at_44) rfl ((if0 _ _).trans (tlt (own_f2 _)).2.1) (XS.iconst X118.here hx rfl (hb hby at_47) k))) ?_
  refine own_by (g' := (mkF m 56 #[.val (.long u1), .second, .val (.ref b101), .val (.ref b106), .val (.double (FP.dmul (FP.l2d (((own_mix (u1 + (-7046029254386353131 : Int64)))).toUInt64 >>> ((11 : Int32) &&& 0x3f).toInt64.toUInt64).toInt64) (4368491638549381120 : UInt64))), .second, .val (.long (((own_mix (u1 + (-7046029254386353131 : Int64)))).toUInt64 >>> ((11 : Int32) &&& 0x3f).toInt64.toUInt64).toInt64), .second, .val (.int (1 : Int32)), .unset, .unset, .unset, .unset, .unset, .unset] [(.double (FP.dmul (FP.l2d (((own_mix (u1 + (-7046029254386353131 : Int64)))).toUInt64 >>> ((11 : Int32) &&& 0x3f).toInt64.toUInt64).toInt64) (4368491638549381120 : UInt64)))])) (fun t k => XS.goto X118.here hx rfl (pc0 := 48) (pc' := 52) rfl (hb hby at_48) (by decide) (by decide) (XS.istore X118.here hx rfl (hb hby at_52) rfl (l' := #[.val (.long u1), .second, .val (.ref b101), .val (.ref b106), .val (.double (FP.dmul (FP.l2d (((own_mix (u1 + (-7046029254386353131 : Int64)))).toUInt64 >>> ((11 : Int32) &&& 0x3f).toInt64.toUInt64).toInt64) (4368491638549381120 : UInt64))), .second, .val (.long (((own_mix (u1 + (-7046029254386353131 : Int64)))).toUInt64 >>> ((11 : Int32) &&& 0x3f).toInt64.toUInt64).toInt64), .second, .val (.int (1 : Int32)), .unset, .unset, .unset, .unset, .unset, .unset]) rfl (XS.dload X118.here hx rfl (hb hby at_54) rfl k))) ?_
  refine own_by (g' := (mkF m 62 #[.val (.long u1), .second, .val (.ref b101), .val (.ref b106), .val (.double (FP.dmul (FP.l2d (((own_mix (u1 + (-7046029254386353131 : Int64)))).toUInt64 >>> ((11 : Int32) &&& 0x3f).toInt64.toUInt64).toInt64) (4368491638549381120 : UInt64))), .second, .val (.long (((own_mix (u1 + (-7046029254386353131 : Int64)))).toUInt64 >>> ((11 : Int32) &&& 0x3f).toInt64.toUInt64).toInt64), .second, .val (.int (1 : Int32)), .val (.double (FP.dmul (FP.dmul (FP.l2d (((own_mix (u1 + (-7046029254386353131 : Int64)))).toUInt64 >>> ((11 : Int32) &&& 0x3f).toInt64.toUInt64).toInt64) (4368491638549381120 : UInt64)) (4845873199050653696 : UInt64))), .second, .unset, .unset, .unset, .unset] [])) (fun t k => X118.ldc2DoubleC hx hown (mvT hZ (hw _ (List.mem_of_getElem? (i := 26) rfl))) (g := (mkF m 56 #[.val (.long u1), .second, .val (.ref b101), .val (.ref b106), .val (.double (FP.dmul (FP.l2d (((own_mix (u1 + (-7046029254386353131 : Int64)))).toUInt64 >>> ((11 : Int32) &&& 0x3f).toInt64.toUInt64).toInt64) (4368491638549381120 : UInt64))), .second, .val (.long (((own_mix (u1 + (-7046029254386353131 : Int64)))).toUInt64 >>> ((11 : Int32) &&& 0x3f).toInt64.toUInt64).toInt64), .second, .val (.int (1 : Int32)), .unset, .unset, .unset, .unset, .unset, .unset] [(.double (FP.dmul (FP.l2d (((own_mix (u1 + (-7046029254386353131 : Int64)))).toUInt64 >>> ((11 : Int32) &&& 0x3f).toInt64.toUInt64).toInt64) (4368491638549381120 : UInt64)))])) rfl (hb hby at_56) t (XS.dmulS X118.here hx rfl (hb hby at_59) rfl (own_nn2 _) rfl (XS.dstore X118.here hx rfl (hb hby at_60) rfl (l' := #[.val (.long u1), .second, .val (.ref b101), .val (.ref b106), .val (.double (FP.dmul (FP.l2d (((own_mix (u1 + (-7046029254386353131 : Int64)))).toUInt64 >>> ((11 : Int32) &&& 0x3f).toInt64.toUInt64).toInt64) (4368491638549381120 : UInt64))), .second, .val (.long (((own_mix (u1 + (-7046029254386353131 : Int64)))).toUInt64 >>> ((11 : Int32) &&& 0x3f).toInt64.toUInt64).toInt64), .second, .val (.int (1 : Int32)), .val (.double (FP.dmul (FP.dmul (FP.l2d (((own_mix (u1 + (-7046029254386353131 : Int64)))).toUInt64 >>> ((11 : Int32) &&& 0x3f).toInt64.toUInt64).toInt64) (4368491638549381120 : UInt64)) (4845873199050653696 : UInt64))), .second, .unset, .unset, .unset, .unset]) rfl k))) ?_
  refine own_by (g' := (mkF m 67 #[.val (.long u1), .second, .val (.ref b101), .val (.ref b106), .val (.double (FP.dmul (FP.l2d (((own_mix (u1 + (-7046029254386353131 : Int64)))).toUInt64 >>> ((11 : Int32) &&& 0x3f).toInt64.toUInt64).toInt64) (4368491638549381120 : UInt64))), .second, .val (.long (((own_mix (u1 + (-7046029254386353131 : Int64)))).toUInt64 >>> ((11 : Int32) &&& 0x3f).toInt64.toUInt64).toInt64), .second, .val (.int (1 : Int32)), .val (.double (FP.dmul (FP.dmul (FP.l2d (((own_mix (u1 + (-7046029254386353131 : Int64)))).toUInt64 >>> ((11 : Int32) &&& 0x3f).toInt64.toUInt64).toInt64) (4368491638549381120 : UInt64)) (4845873199050653696 : UInt64))), .second, .val (.long (FP.d2l (FP.dmul (FP.dmul (FP.l2d (((own_mix (u1 + (-7046029254386353131 : Int64)))).toUInt64 >>> ((11 : Int32) &&& 0x3f).toInt64.toUInt64).toInt64) (4368491638549381120 : UInt64)) (4845873199050653696 : UInt64)))), .second, .unset, .unset] [])) (fun t k => XS.dload X118.here hx rfl (hb hby at_62) rfl (XS.d2lS X118.here hx rfl (hb hby at_64) rfl rfl (XS.lstore X118.here hx rfl (hb hby at_65) rfl (l' := #[.val (.long u1), .second, .val (.ref b101), .val (.ref b106), .val (.double (FP.dmul (FP.l2d (((own_mix (u1 + (-7046029254386353131 : Int64)))).toUInt64 >>> ((11 : Int32) &&& 0x3f).toInt64.toUInt64).toInt64) (4368491638549381120 : UInt64))), .second, .val (.long (((own_mix (u1 + (-7046029254386353131 : Int64)))).toUInt64 >>> ((11 : Int32) &&& 0x3f).toInt64.toUInt64).toInt64), .second, .val (.int (1 : Int32)), .val (.double (FP.dmul (FP.dmul (FP.l2d (((own_mix (u1 + (-7046029254386353131 : Int64)))).toUInt64 >>> ((11 : Int32) &&& 0x3f).toInt64.toUInt64).toInt64) (4368491638549381120 : UInt64)) (4845873199050653696 : UInt64))), .second, .val (.long (FP.d2l (FP.dmul (FP.dmul (FP.l2d (((own_mix (u1 + (-7046029254386353131 : Int64)))).toUInt64 >>> ((11 : Int32) &&& 0x3f).toInt64.toUInt64).toInt64) (4368491638549381120 : UInt64)) (4845873199050653696 : UInt64)))), .second, .unset, .unset]) rfl k))) ?_
  refine own_by (g' := (mkF m 72 #[.val (.long u1), .second, .val (.ref b101), .val (.ref b106), .val (.double (FP.dmul (FP.l2d (((own_mix (u1 + (-7046029254386353131 : Int64)))).toUInt64 >>> ((11 : Int32) &&& 0x3f).toInt64.toUInt64).toInt64) (4368491638549381120 : UInt64))), .second, .val (.long (((own_mix (u1 + (-7046029254386353131 : Int64)))).toUInt64 >>> ((11 : Int32) &&& 0x3f).toInt64.toUInt64).toInt64), .second, .val (.int (1 : Int32)), .val (.double (FP.dmul (FP.dmul (FP.l2d (((own_mix (u1 + (-7046029254386353131 : Int64)))).toUInt64 >>> ((11 : Int32) &&& 0x3f).toInt64.toUInt64).toInt64) (4368491638549381120 : UInt64)) (4845873199050653696 : UInt64))), .second, .val (.long (FP.d2l (FP.dmul (FP.dmul (FP.l2d (((own_mix (u1 + (-7046029254386353131 : Int64)))).toUInt64 >>> ((11 : Int32) &&& 0x3f).toInt64.toUInt64).toInt64) (4368491638549381120 : UInt64)) (4845873199050653696 : UInt64)))), .second, .unset, .unset] [(.int (lcmpW (FP.d2l (FP.dmul (FP.dmul (FP.l2d (((own_mix (u1 + (-7046029254386353131 : Int64)))).toUInt64 >>> ((11 : Int32) &&& 0x3f).toInt64.toUInt64).toInt64) (4368491638549381120 : UInt64)) (4845873199050653696 : UInt64))) (((own_mix (u1 + (-7046029254386353131 : Int64)))).toUInt64 >>> ((11 : Int32) &&& 0x3f).toInt64.toUInt64).toInt64))])) (fun t k => XS.lload X118.here hx rfl (hb hby at_67) rfl (XS.lload X118.here hx rfl (hb hby at_69) rfl (XS.lcmp X118.here hx rfl (hb hby at_71) rfl k))) ?_
  refine own_by (g' := (mkF m 78 #[.val (.long u1), .second, .val (.ref b101), .val (.ref b106), .val (.double (FP.dmul (FP.l2d (((own_mix (u1 + (-7046029254386353131 : Int64)))).toUInt64 >>> ((11 : Int32) &&& 0x3f).toInt64.toUInt64).toInt64) (4368491638549381120 : UInt64))), .second, .val (.long (((own_mix (u1 + (-7046029254386353131 : Int64)))).toUInt64 >>> ((11 : Int32) &&& 0x3f).toInt64.toUInt64).toInt64), .second, .val (.int (1 : Int32)), .val (.double (FP.dmul (FP.dmul (FP.l2d (((own_mix (u1 + (-7046029254386353131 : Int64)))).toUInt64 >>> ((11 : Int32) &&& 0x3f).toInt64.toUInt64).toInt64) (4368491638549381120 : UInt64)) (4845873199050653696 : UInt64))), .second, .val (.long (FP.d2l (FP.dmul (FP.dmul (FP.l2d (((own_mix (u1 + (-7046029254386353131 : Int64)))).toUInt64 >>> ((11 : Int32) &&& 0x3f).toInt64.toUInt64).toInt64) (4368491638549381120 : UInt64)) (4845873199050653696 : UInt64)))), .second, .unset, .unset] [(.double (FP.l2d (FP.d2l (FP.dmul (FP.dmul (FP.l2d (((own_mix (u1 + (-7046029254386353131 : Int64)))).toUInt64 >>> ((11 : Int32) &&& 0x3f).toInt64.toUInt64).toInt64) (4368491638549381120 : UInt64)) (4845873199050653696 : UInt64)))))])) (fun t k => XS.ifNo X118.here hx rfl (hb hby at_72) rfl ((if0 _ _).trans (teq ((lw_eq (FP.d2l (FP.dmul (FP.dmul (FP.l2d (((own_mix (u1 + (-7046029254386353131 : Int64)))).toUInt64 >>> ((11 : Int32) &&& 0x3f).toInt64.toUInt64).toInt64) (4368491638549381120 : UInt64)) (4845873199050653696 : UInt64))) (((own_mix (u1 + (-7046029254386353131 : Int64)))).toUInt64 >>> ((11 : Int32) &&& 0x3f).toInt64.toUInt64).toInt64).mpr ((own_f3 _) : (FP.d2l (FP.dmul (FP.dmul (FP.l2d (((own_mix (u1 + (-7046029254386353131 : Int64)))).toUInt64 >>> ((11 : Int32) &&& 0x3f).toInt64.toUInt64).toInt64) (4368491638549381120 : UInt64)) (4845873199050653696 : UInt64))) = (((own_mix (u1 + (-7046029254386353131 : Int64)))).toUInt64 >>> ((11 : Int32) &&& 0x3f).toInt64.toUInt64).toInt64))).2) (XS.lload X118.here hx rfl (hb hby at_75) rfl (XS.l2dS X118.here hx rfl (hb hby at_77) rfl rfl k))) ?_
  refine own_by (g' := (mkF m 84 #[.val (.long u1), .second, .val (.ref b101), .val (.ref b106), .val (.double (FP.dmul (FP.l2d (((own_mix (u1 + (-7046029254386353131 : Int64)))).toUInt64 >>> ((11 : Int32) &&& 0x3f).toInt64.toUInt64).toInt64) (4368491638549381120 : UInt64))), .second, .val (.long (((own_mix (u1 + (-7046029254386353131 : Int64)))).toUInt64 >>> ((11 : Int32) &&& 0x3f).toInt64.toUInt64).toInt64), .second, .val (.int (1 : Int32)), .val (.double (FP.dmul (FP.dmul (FP.l2d (((own_mix (u1 + (-7046029254386353131 : Int64)))).toUInt64 >>> ((11 : Int32) &&& 0x3f).toInt64.toUInt64).toInt64) (4368491638549381120 : UInt64)) (4845873199050653696 : UInt64))), .second, .val (.long (FP.d2l (FP.dmul (FP.dmul (FP.l2d (((own_mix (u1 + (-7046029254386353131 : Int64)))).toUInt64 >>> ((11 : Int32) &&& 0x3f).toInt64.toUInt64).toInt64) (4368491638549381120 : UInt64)) (4845873199050653696 : UInt64)))), .second, .unset, .unset] [])) (fun t k => XS.dload X118.here hx rfl (hb hby at_78) rfl (XS.dcmpS X118.here hx rfl (hb hby at_80) rfl rfl (XS.ifNo X118.here hx rfl (hb hby at_81) rfl ((if0 _ _).trans (teq (own_f4 _)).2) k))) ?_
  refine own_by (g' := (mkF m 91 #[.val (.long u1), .second, .val (.ref b101), .val (.ref b106), .val (.double (FP.dmul (FP.l2d (((own_mix (u1 + (-7046029254386353131 : Int64)))).toUInt64 >>> ((11 : Int32) &&& 0x3f).toInt64.toUInt64).toInt64) (4368491638549381120 : UInt64))), .second, .val (.long (((own_mix (u1 + (-7046029254386353131 : Int64)))).toUInt64 >>> ((11 : Int32) &&& 0x3f).toInt64.toUInt64).toInt64), .second, .val (.int (1 : Int32)), .val (.double (FP.dmul (FP.dmul (FP.l2d (((own_mix (u1 + (-7046029254386353131 : Int64)))).toUInt64 >>> ((11 : Int32) &&& 0x3f).toInt64.toUInt64).toInt64) (4368491638549381120 : UInt64)) (4845873199050653696 : UInt64))), .second, .val (.long (FP.d2l (FP.dmul (FP.dmul (FP.l2d (((own_mix (u1 + (-7046029254386353131 : Int64)))).toUInt64 >>> ((11 : Int32) &&& 0x3f).toInt64.toUInt64).toInt64) (4368491638549381120 : UInt64)) (4845873199050653696 : UInt64)))), .second, .val (.int (1 : Int32)), .unset] [])) (fun t k => XS.iconst X118.here hx rfl (hb hby at_84) (XS.goto X118.here hx rfl (pc0 := 85) (pc' := 89) rfl (hb hby at_85) (by decide) (by decide) (XS.istore X118.here hx rfl (hb hby at_89) rfl (l' := #[.val (.long u1), .second, .val (.ref b101), .val (.ref b106), .val (.double (FP.dmul (FP.l2d (((own_mix (u1 + (-7046029254386353131 : Int64)))).toUInt64 >>> ((11 : Int32) &&& 0x3f).toInt64.toUInt64).toInt64) (4368491638549381120 : UInt64))), .second, .val (.long (((own_mix (u1 + (-7046029254386353131 : Int64)))).toUInt64 >>> ((11 : Int32) &&& 0x3f).toInt64.toUInt64).toInt64), .second, .val (.int (1 : Int32)), .val (.double (FP.dmul (FP.dmul (FP.l2d (((own_mix (u1 + (-7046029254386353131 : Int64)))).toUInt64 >>> ((11 : Int32) &&& 0x3f).toInt64.toUInt64).toInt64) (4368491638549381120 : UInt64)) (4845873199050653696 : UInt64))), .second, .val (.long (FP.d2l (FP.dmul (FP.dmul (FP.l2d (((own_mix (u1 + (-7046029254386353131 : Int64)))).toUInt64 >>> ((11 : Int32) &&& 0x3f).toInt64.toUInt64).toInt64) (4368491638549381120 : UInt64)) (4845873199050653696 : UInt64)))), .second, .val (.int (1 : Int32)), .unset]) rfl k))) ?_
  refine own_by (g' := (mkF m 92 #[.val (.long u1), .second, .val (.ref b101), .val (.ref b106), .val (.double (FP.dmul (FP.l2d (((own_mix (u1 + (-7046029254386353131 : Int64)))).toUInt64 >>> ((11 : Int32) &&& 0x3f).toInt64.toUInt64).toInt64) (4368491638549381120 : UInt64))), .second, .val (.long (((own_mix (u1 + (-7046029254386353131 : Int64)))).toUInt64 >>> ((11 : Int32) &&& 0x3f).toInt64.toUInt64).toInt64), .second, .val (.int (1 : Int32)), .val (.double (FP.dmul (FP.dmul (FP.l2d (((own_mix (u1 + (-7046029254386353131 : Int64)))).toUInt64 >>> ((11 : Int32) &&& 0x3f).toInt64.toUInt64).toInt64) (4368491638549381120 : UInt64)) (4845873199050653696 : UInt64))), .second, .val (.long (FP.d2l (FP.dmul (FP.dmul (FP.l2d (((own_mix (u1 + (-7046029254386353131 : Int64)))).toUInt64 >>> ((11 : Int32) &&& 0x3f).toInt64.toUInt64).toInt64) (4368491638549381120 : UInt64)) (4845873199050653696 : UInt64)))), .second, .val (.int (1 : Int32)), .unset] [(.ref b101)])) (fun t k => XS.aloadN X118.here hx rfl (hb hby at_91) rfl rfl k) ?_
  have f121 := (f114.keep K118)
  have f122 := (f115.keep K118 (ninS (Nat.ne_of_lt (Nat.lt_of_lt_of_le (Nat.lt_of_lt_of_le f104.lt (Nat.le_refl _)) (Nat.le_of_eq g106.symm))) nin0))
  refine own_callV X118 hx hZ hown (hw _ (List.mem_of_getElem? (i := 25) rfl)) (hw _ (List.mem_of_getElem? (i := 17) rfl)) (notFace_of_selects (args := #[]) (mvT hZ (hw _ (List.mem_of_getElem? (i := 19) rfl)))) (hw _ (List.mem_of_getElem? (i := 19) rfl)) (hw _ (List.mem_of_getElem? (i := 18) rfl)) (hw _ (List.mem_of_getElem? (i := 20) rfl)) (hw _ (List.mem_of_getElem? (i := 2) rfl)) (by decide) (a := b101) f121 (own_next l Z a0 hw [] (b101) ((u1 + (-7046029254386353131 : Int64))) T118.heap n0 (Nat.le_trans Z0 (Nat.le_trans (Nat.le_trans (Nat.le_trans (Nat.le_trans (Nat.le_trans E101.1 K103.1) E106.1) K108.1) K113.1) K118.1)) f121 f122 g_b101) 0 (by decide) (by decide) (by decide) (by decide) rfl (g := (mkF m 92 #[.val (.long u1), .second, .val (.ref b101), .val (.ref b106), .val (.double (FP.dmul (FP.l2d (((own_mix (u1 + (-7046029254386353131 : Int64)))).toUInt64 >>> ((11 : Int32) &&& 0x3f).toInt64.toUInt64).toInt64) (4368491638549381120 : UInt64))), .second, .val (.long (((own_mix (u1 + (-7046029254386353131 : Int64)))).toUInt64 >>> ((11 : Int32) &&& 0x3f).toInt64.toUInt64).toInt64), .second, .val (.int (1 : Int32)), .val (.double (FP.dmul (FP.dmul (FP.l2d (((own_mix (u1 + (-7046029254386353131 : Int64)))).toUInt64 >>> ((11 : Int32) &&& 0x3f).toInt64.toUInt64).toInt64) (4368491638549381120 : UInt64)) (4845873199050653696 : UInt64))), .second, .val (.long (FP.d2l (FP.dmul (FP.dmul (FP.l2d (((own_mix (u1 + (-7046029254386353131 : Int64)))).toUInt64 >>> ((11 : Int32) &&& 0x3f).toInt64.toUInt64).toInt64) (4368491638549381120 : UInt64)) (4845873199050653696 : UInt64)))), .second, .val (.int (1 : Int32)), .unset] [(.ref b101)])) rfl (by rw [hml]; rfl) (argsL := []) (rest := []) (lenOf own_pd0 rfl) rfl (by show 2 * 0 + _ ≤ _; exact Nat.le_of_eq rfl) (hb hby at_92) ?_
  intro v123 T123 L123 X123 q123
  obtain ⟨rfl, N123q, K123, f124, f125⟩ := q123
  have N123 := Fr.app N118 N123q
  show own_Goes p e below s _ _ _ T123 (mkF m 95 #[.val (.long u1), .second, .val (.ref b101), .val (.ref b106), .val (.double (FP.dmul (FP.l2d (((own_mix (u1 + (-7046029254386353131 : Int64)))).toUInt64 >>> ((11 : Int32) &&& 0x3f).toInt64.toUInt64).toInt64) (4368491638549381120 : UInt64))), .second, .val (.long (((own_mix (u1 + (-7046029254386353131 : Int64)))).toUInt64 >>> ((11 : Int32) &&& 0x3f).toInt64.toUInt64).toInt64), .second, .val (.int (1 : Int32)), .val (.double (FP.dmul (FP.dmul (FP.l2d (((own_mix (u1 + (-7046029254386353131 : Int64)))).toUInt64 >>> ((11 : Int32) &&& 0x3f).toInt64.toUInt64).toInt64) (4368491638549381120 : UInt64)) (4845873199050653696 : UInt64))), .second, .val (.long (FP.d2l (FP.dmul (FP.dmul (FP.l2d (((own_mix (u1 + (-7046029254386353131 : Int64)))).toUInt64 >>> ((11 : Int32) &&& 0x3f).toInt64.toUInt64).toInt64) (4368491638549381120 : UInt64)) (4845873199050653696 : UInt64)))), .second, .val (.int (1 : Int32)), .unset] [(.long (own_mix ((u1 + (-7046029254386353131 : Int64)) + (-7046029254386353131 : Int64))))])
  refine own_by (g' := (mkF m 96 #[.val (.long u1), .second, .val (.ref b101), .val (.ref b106), .val (.double (FP.dmul (FP.l2d (((own_mix (u1 + (-7046029254386353131 : Int64)))).toUInt64 >>> ((11 : Int32) &&& 0x3f).toInt64.toUInt64).toInt64) (4368491638549381120 : UInt64))), .second, .val (.long (((own_mix (u1 + (-7046029254386353131 : Int64)))).toUInt64 >>> ((11 : Int32) &&& 0x3f).toInt64.toUInt64).toInt64), .second, .val (.int (1 : Int32)), .val (.double (FP.dmul (FP.dmul (FP.l2d (((own_mix (u1 + (-7046029254386353131 : Int64)))).toUInt64 >>> ((11 : Int32) &&& 0x3f).toInt64.toUInt64).toInt64) (4368491638549381120 : UInt64)) (4845873199050653696 : UInt64))), .second, .val (.long (FP.d2l (FP.dmul (FP.dmul (FP.l2d (((own_mix (u1 + (-7046029254386353131 : Int64)))).toUInt64 >>> ((11 : Int32) &&& 0x3f).toInt64.toUInt64).toInt64) (4368491638549381120 : UInt64)) (4845873199050653696 : UInt64)))), .second, .val (.int (1 : Int32)), .unset] [(.ref b106), (.long (own_mix ((u1 + (-7046029254386353131 : Int64)) + (-7046029254386353131 : Int64))))])) (fun t k => XS.aloadN X123.here hx rfl (hb hby at_95) rfl rfl k) ?_
  have f126 := (f119.keep K123)
  have f127 := (f120.keep K123 (ninS (Ne.symm (Nat.ne_of_lt (Nat.lt_of_lt_of_le (Nat.lt_of_lt_of_le f104.lt (Nat.le_refl _)) (Nat.le_of_eq g106.symm)))) nin0))
  refine own_callV X123 hx hZ hown (hw _ (List.mem_of_getElem? (i := 25) rfl)) (hw _ (List.mem_of_getElem? (i := 17) rfl)) (notFace_of_selects (args := #[]) (mvT hZ (hw _ (List.mem_of_getElem? (i := 19) rfl)))) (hw _ (List.mem_of_getElem? (i := 19) rfl)) (hw _ (List.mem_of_getElem? (i := 18) rfl)) (hw _ (List.mem_of_getElem? (i := 20) rfl)) (hw _ (List.mem_of_getElem? (i := 2) rfl)) (by decide) (a := b106) f126 (own_next l Z a0 hw [] (b106) ((u1 + (-7046029254386353131 : Int64))) T123.heap n0 (Nat.le_trans Z0 (Nat.le_trans (Nat.le_trans (Nat.le_trans (Nat.le_trans (Nat.le_trans (Nat.le_trans E101.1 K103.1) E106.1) K108.1) K113.1) K118.1) K123.1)) f126 f127 g_b106) 2 (by decide) (by decide) (by decide) (by decide) rfl (g := (mkF m 96 #[.val (.long u1), .second, .val (.ref b101), .val (.ref b106), .val (.double (FP.dmul (FP.l2d (((own_mix (u1 + (-7046029254386353131 : Int64)))).toUInt64 >>> ((11 : Int32) &&& 0x3f).toInt64.toUInt64).toInt64) (4368491638549381120 : UInt64))), .second, .val (.long (((own_mix (u1 + (-7046029254386353131 : Int64)))).toUInt64 >>> ((11 : Int32) &&& 0x3f).toInt64.toUInt64).toInt64), .second, .val (.int (1 : Int32)), .val (.double (FP.dmul (FP.dmul (FP.l2d (((own_mix (u1 + (-7046029254386353131 : Int64)))).toUInt64 >>> ((11 : Int32) &&& 0x3f).toInt64.toUInt64).toInt64) (4368491638549381120 : UInt64)) (4845873199050653696 : UInt64))), .second, .val (.long (FP.d2l (FP.dmul (FP.dmul (FP.l2d (((own_mix (u1 + (-7046029254386353131 : Int64)))).toUInt64 >>> ((11 : Int32) &&& 0x3f).toInt64.toUInt64).toInt64) (4368491638549381120 : UInt64)) (4845873199050653696 : UInt64)))), .second, .val (.int (1 : Int32)), .unset] [(.ref b106), (.long (own_mix ((u1 + (-7046029254386353131 : Int64)) + (-7046029254386353131 : Int64))))])) rfl (by rw [hml]; rfl) (argsL := []) (rest := [(.long (own_mix ((u1 + (-7046029254386353131 : Int64)) + (-7046029254386353131 : Int64))))]) (lenOf own_pd0 rfl) rfl (by show 2 * 0 + _ ≤ _; exact Nat.le_of_eq rfl) (hb hby at_96) ?_
  intro v128 T128 L128 X128 q128
  obtain ⟨rfl, N128q, K128, f129, f130⟩ := q128
  have N128 := Fr.app N123 N128q
  show own_Goes p e below s _ _ _ T128 (mkF m 99 #[.val (.long u1), .second, .val (.ref b101), .val (.ref b106), .val (.double (FP.dmul (FP.l2d (((own_mix (u1 + (-7046029254386353131 : Int64)))).toUInt64 >>> ((11 : Int32) &&& 0x3f).toInt64.toUInt64).toInt64) (4368491638549381120 : UInt64))), .second, .val (.long (((own_mix (u1 + (-7046029254386353131 : Int64)))).toUInt64 >>> ((11 : Int32) &&& 0x3f).toInt64.toUInt64).toInt64), .second, .val (.int (1 : Int32)), .val (.double (FP.dmul (FP.dmul (FP.l2d (((own_mix (u1 + (-7046029254386353131 : Int64)))).toUInt64 >>> ((11 : Int32) &&& 0x3f).toInt64.toUInt64).toInt64) (4368491638549381120 : UInt64)) (4845873199050653696 : UInt64))), .second, .val (.long (FP.d2l (FP.dmul (FP.dmul (FP.l2d (((own_mix (u1 + (-7046029254386353131 : Int64)))).toUInt64 >>> ((11 : Int32) &&& 0x3f).toInt64.toUInt64).toInt64) (4368491638549381120 : UInt64)) (4845873199050653696 : UInt64)))), .second, .val (.int (1 : Int32)), .unset] [(.long (own_mix ((u1 + (-7046029254386353131 : Int64)) + (-7046029254386353131 : Int64)))), (.long (own_mix ((u1 + (-7046029254386353131 : Int64)) + (-7046029254386353131 : Int64))))])
  refine own_by (g' := (mkF m 104 #[.val (.long u1), .second, .val (.ref b101), .val (.ref b106), .val (.double (FP.dmul (FP.l2d (((own_mix (u1 + (-7046029254386353131 : Int64)))).toUInt64 >>> ((11 : Int32) &&& 0x3f).toInt64.toUInt64).toInt64) (4368491638549381120 : UInt64))), .second, .val (.long (((own_mix (u1 + (-7046029254386353131 : Int64)))).toUInt64 >>> ((11 : Int32) &&& 0x3f).toInt64.toUInt64).toInt64), .second, .val (.int (1 : Int32)), .val (.double (FP.dmul (FP.dmul (FP.l2d (((own_mix (u1 + (-7046029254386353131 : Int64)))).toUInt64 >>> ((11 : Int32) &&& 0x3f).toInt64.toUInt64).toInt64) (4368491638549381120 : UInt64)) (4845873199050653696 : UInt64))), .second, .val (.long (FP.d2l (FP.dmul (FP.dmul (FP.l2d (((own_mix (u1 + (-7046029254386353131 : Int64)))).toUInt64 >>> ((11 : Int32) &&& 0x3f).toInt64.toUInt64).toInt64) (4368491638549381120 : UInt64)) (4845873199050653696 : UInt64)))), .second, .val (.int (1 : Int32)), .unset] [(.int (1 : Int32))])) (fun t k => XS.lcmp X128.here hx rfl (hb hby at_99) rfl (XS.ifNo X128.here hx rfl (hb hby at_100) rfl ((if0 _ _).trans (teq ((lw_eq (own_mix ((u1 + (-7046029254386353131 : Int64)) + (-7046029254386353131 : Int64))) (own_mix ((u1 + (-7046029254386353131 : Int64)) + (-7046029254386353131 : Int64)))).mpr (rfl : (own_mix ((u1 + (-7046029254386353131 : Int64)) + (-7046029254386353131 : Int64))) = (own_mix ((u1 + (-7046029254386353131 : Int64)) + (-7046029254386353131 : Int64)))))).2) (XS.iconst X128.here hx rfl (hb hby at_103) k))) ?_
  refine own_by (g' := (mkF m 112 #[.val (.long u1), .second, .val (.ref b101), .val (.ref b106), .val (.double (FP.dmul (FP.l2d (((own_mix (u1 + (-7046029254386353131 : Int64)))).toUInt64 >>> ((11 : Int32) &&& 0x3f).toInt64.toUInt64).toInt64) (4368491638549381120 : UInt64))), .second, .val (.long (((own_mix (u1 + (-7046029254386353131 : Int64)))).toUInt64 >>> ((11 : Int32) &&& 0x3f).toInt64.toUInt64).toInt64), .second, .val (.int (1 : Int32)), .val (.double (FP.dmul (FP.dmul (FP.l2d (((own_mix (u1 + (-7046029254386353131 : Int64)))).toUInt64 >>> ((11 : Int32) &&& 0x3f).toInt64.toUInt64).toInt64) (4368491638549381120 : UInt64)) (4845873199050653696 : UInt64))), .second, .val (.long (FP.d2l (FP.dmul (FP.dmul (FP.l2d (((own_mix (u1 + (-7046029254386353131 : Int64)))).toUInt64 >>> ((11 : Int32) &&& 0x3f).toInt64.toUInt64).toInt64) (4368491638549381120 : UInt64)) (4845873199050653696 : UInt64)))), .second, .val (.int (1 : Int32)), .val (.int (1 : Int32))] [(.int (1 : Int32))])) (fun t k => XS.goto X128.here hx rfl (pc0 := 104) (pc' := 108) rfl (hb hby at_104) (by decide) (by decide) (XS.istore X128.here hx rfl (hb hby at_108) rfl (l' := #[.val (.long u1), .second, .val (.ref b101), .val (.ref b106), .val (.double (FP.dmul (FP.l2d (((own_mix (u1 + (-7046029254386353131 : Int64)))).toUInt64 >>> ((11 : Int32) &&& 0x3f).toInt64.toUInt64).toInt64) (4368491638549381120 : UInt64))), .second, .val (.long (((own_mix (u1 + (-7046029254386353131 : Int64)))).toUInt64 >>> ((11 : Int32) &&& 0x3f).toInt64.toUInt64).toInt64), .second, .val (.int (1 : Int32)), .val (.double (FP.dmul (FP.dmul (FP.l2d (((own_mix (u1 + (-7046029254386353131 : Int64)))).toUInt64 >>> ((11 : Int32) &&& 0x3f).toInt64.toUInt64).toInt64) (4368491638549381120 : UInt64)) (4845873199050653696 : UInt64))), .second, .val (.long (FP.d2l (FP.dmul (FP.dmul (FP.l2d (((own_mix (u1 + (-7046029254386353131 : Int64)))).toUInt64 >>> ((11 : Int32) &&& 0x3f).toInt64.toUInt64).toInt64) (4368491638549381120 : UInt64)) (4845873199050653696 : UInt64)))), .second, .val (.int (1 : Int32)), .val (.int (1 : Int32))]) rfl (XS.iload X128.here hx rfl (hb hby at_110) rfl k))) ?_
  refine own_by (g' := (mkF m 120 #[.val (.long u1), .second, .val (.ref b101), .val (.ref b106), .val (.double (FP.dmul (FP.l2d (((own_mix (u1 + (-7046029254386353131 : Int64)))).toUInt64 >>> ((11 : Int32) &&& 0x3f).toInt64.toUInt64).toInt64) (4368491638549381120 : UInt64))), .second, .val (.long (((own_mix (u1 + (-7046029254386353131 : Int64)))).toUInt64 >>> ((11 : Int32) &&& 0x3f).toInt64.toUInt64).toInt64), .second, .val (.int (1 : Int32)), .val (.double (FP.dmul (FP.dmul (FP.l2d (((own_mix (u1 + (-7046029254386353131 : Int64)))).toUInt64 >>> ((11 : Int32) &&& 0x3f).toInt64.toUInt64).toInt64) (4368491638549381120 : UInt64)) (4845873199050653696 : UInt64))), .second, .val (.long (FP.d2l (FP.dmul (FP.dmul (FP.l2d (((own_mix (u1 + (-7046029254386353131 : Int64)))).toUInt64 >>> ((11 : Int32) &&& 0x3f).toInt64.toUInt64).toInt64) (4368491638549381120 : UInt64)) (4845873199050653696 : UInt64)))), .second, .val (.int (1 : Int32)), .val (.int (1 : Int32))] [])) (fun t k => XS.ifNo X128.here hx rfl (hb hby at_112) rfl ((if0 _ _).trans (feq (by decide : ¬ ((1 : Int32) = (0 : Int32)))).1) (XS.iload X128.here hx rfl (hb hby at_115) rfl (XS.ifNo X128.here hx rfl (hb hby at_117) rfl ((if0 _ _).trans (feq (by decide : ¬ ((1 : Int32) = (0 : Int32)))).1) k))) ?_
  refine own_by (g' := (mkF m 126 #[.val (.long u1), .second, .val (.ref b101), .val (.ref b106), .val (.double (FP.dmul (FP.l2d (((own_mix (u1 + (-7046029254386353131 : Int64)))).toUInt64 >>> ((11 : Int32) &&& 0x3f).toInt64.toUInt64).toInt64) (4368491638549381120 : UInt64))), .second, .val (.long (((own_mix (u1 + (-7046029254386353131 : Int64)))).toUInt64 >>> ((11 : Int32) &&& 0x3f).toInt64.toUInt64).toInt64), .second, .val (.int (1 : Int32)), .val (.double (FP.dmul (FP.dmul (FP.l2d (((own_mix (u1 + (-7046029254386353131 : Int64)))).toUInt64 >>> ((11 : Int32) &&& 0x3f).toInt64.toUInt64).toInt64) (4368491638549381120 : UInt64)) (4845873199050653696 : UInt64))), .second, .val (.long (FP.d2l (FP.dmul (FP.dmul (FP.l2d (((own_mix (u1 + (-7046029254386353131 : Int64)))).toUInt64 >>> ((11 : Int32) &&& 0x3f).toInt64.toUInt64).toInt64) (4368491638549381120 : UInt64)) (4845873199050653696 : UInt64)))), .second, .val (.int (1 : Int32)), .val (.int (1 : Int32))] [(.int (1 : Int32))])) (fun t k => XS.iload X128.here hx rfl (hb hby at_120) rfl (XS.ifNo X128.here hx rfl (hb hby at_122) rfl ((if0 _ _).trans (feq (by decide : ¬ ((1 : Int32) = (0 : Int32)))).1) (XS.iconst X128.here hx rfl (hb hby at_125) k))) ?_
  refine own_by (g' := (mkF m 130 #[.val (.long u1), .second, .val (.ref b101), .val (.ref b106), .val (.double (FP.dmul (FP.l2d (((own_mix (u1 + (-7046029254386353131 : Int64)))).toUInt64 >>> ((11 : Int32) &&& 0x3f).toInt64.toUInt64).toInt64) (4368491638549381120 : UInt64))), .second, .val (.long (((own_mix (u1 + (-7046029254386353131 : Int64)))).toUInt64 >>> ((11 : Int32) &&& 0x3f).toInt64.toUInt64).toInt64), .second, .val (.int (1 : Int32)), .val (.double (FP.dmul (FP.dmul (FP.l2d (((own_mix (u1 + (-7046029254386353131 : Int64)))).toUInt64 >>> ((11 : Int32) &&& 0x3f).toInt64.toUInt64).toInt64) (4368491638549381120 : UInt64)) (4845873199050653696 : UInt64))), .second, .val (.long (FP.d2l (FP.dmul (FP.dmul (FP.l2d (((own_mix (u1 + (-7046029254386353131 : Int64)))).toUInt64 >>> ((11 : Int32) &&& 0x3f).toInt64.toUInt64).toInt64) (4368491638549381120 : UInt64)) (4845873199050653696 : UInt64)))), .second, .val (.int (1 : Int32)), .val (.int (1 : Int32))] [(.int (1 : Int32))])) (fun t k => XS.goto X128.here hx rfl (pc0 := 126) (pc' := 130) rfl (hb hby at_126) (by decide) (by decide) k) ?_
  refine own_retN X128 hx hlk hret (t := .boolean) (by simp) (hb hby at_130) (by decide) (by decide) ?_
  exact ⟨rfl, N128, (((((((((Keep.refl h0 []).ext E101).trans K103 (allS (Or.inr sz_b101) all0)).ext E106).trans K108 (allS (Or.inr sz_b106) all0)).trans K113 (allS (Or.inr sz_b101) all0)).trans K118 (allS (Or.inr sz_b106) all0)).trans K123 (allS (Or.inr sz_b101) all0)).trans K128 (allS (Or.inr sz_b106) all0))⟩
set_option maxRecDepth 65536 in
set_option maxHeartbeats 40000000 in
theorem comes_1 {Post : Tables → Env → Array Value → State → Outcome → State → Prop} (hpost : ∀ tb e args s v u, (limb_1_1.after args s (.returned v) u = true ∧ limb_1_2.after args s (.returned v) u = true ∧ True) → FrameEnd s (.returned v) u (Jvm.fieldLocs frame_1_writes args s ++ Jvm.arrayLocs frame_1_arrays args s ++ Jvm.staticLocs frame_1_statics s) 16 128 → Post tb e args s (.returned v) u) :
    ArmFor flags0 classFile x code maxLocals ret World_1 tables_1 room_1 Calls_1 rest_1 Pre_1 Post := by
  intro l hfl _ _ p e ha hc hk s m args below hf hA hF happ hP
  obtain ⟨hcalls, hrest, hpre⟩ := hP
  obtain ⟨-, -, -, hnamed, -, -, -, hat⟩ := (Spec.applies_iff hf).mp happ
  obtain ⟨hg, hn⟩ := and_e (Cond.before_iff.mp (show (Jvm.Cond.and given_1 narrow_1).before args s = true from hpre))
  obtain ⟨ga1, gb1⟩ := and_e hg
  obtain ⟨w0, rfl⟩ : ∃ w0 : Value, args = #[w0] := by
    have hs : args.size = 1 := by simpa [Cond.value, given_1] using ga1
    obtain ⟨L⟩ := args
    match L, hs with
    | [w0], _ => exact ⟨w0, rfl⟩
  have hw := fun d (hd : d ∈ tables_1) => atoms_spec (ws := Jvm.Cond.code x code maxLocals ret :: tables_1) hat d (List.mem_cons_of_mem _ hd)
  have hfit : Fit s := fun {y c} hc i hi => by
    obtain ⟨ha, rfl⟩ := Array.getElem?_eq_some_iff.mp hc
    have q := List.all_eq_true.mp ((Array.all_eq_true_iff_forall_mem.mp hF) _ (Array.getElem_mem ha)) i (List.mem_range.mpr hi)
    simpa [Array.getElem?_eq_getElem hi] using q
  obtain ⟨i0, ei0⟩ := isL_v gb1
  obtain rfl : w0 = (.long i0) := Option.some.inj ei0
  obtain ⟨n, o, h1, h2, h3, _, L, rfl, ⟨rfl, N, -⟩, hq⟩ := own_law l s _ hw tables_1 i0 s.heap s.heap.size (Nat.le_refl _)  p e ha hc hk s m _ below hf ((Spec.applies_iff_loose hf).mp happ).1 ⟨rfl, State.Warmed39.refl s, rfl⟩ trivial
  exact ⟨n, _, h1, h2, h3, hpost _ _ _ _ _ _ ⟨Cond.after_iff.mpr rfl, Cond.after_iff.mpr (eq_i res_at (Term.int_eval (1)) rfl), trivial⟩ ⟨hq.1, hq.2.1, (hq.2.2.sift fun y hy => Or.inr (N y hy)).mono (by decide) (by decide)⟩⟩
theorem main_1_1 : Claimed_1_1 := comes_1 fun _ _ _ _ _ _ h hF => ⟨h.1, hF⟩
theorem main_1_2 : Claimed_1_2 := comes_1 fun _ _ _ _ _ _ h hF => ⟨h.2.1, hF⟩
end Jvm.Pilot.@@N@@
namespace Jvm.Pilot.@@N@@
open Jvm Jvm.ClassFile Sem Op Lib Jvm.Free Jvm.Stand Jvm.Pilot.@@N@@.Jvm.D
/-! MADE BY PROGRAM (witnessworld.py) out of the Statement's table words and the real class files: 9 classes; the members and pool entries that the words name. The judged class is class 1, her method 1. -/
namespace start1
open Jvm.ClassFile
def u (s : String) : CpInfo := .utf8 (stringToUtf16 s)
/-- a pool by its gaps: so many unusable entries, then the entry; so many at the end -/
def gap : Nat → List CpInfo → List CpInfo
  | 0, r => r
  | n + 1, r => .unusable :: gap n r
def poolList (es : List (Nat × CpInfo)) (last : Nat) : List CpInfo := es.foldr (fun e r => gap e.1 (e.2 :: r)) (gap last [])
def pool (es : List (Nat × CpInfo)) (last : Nat) : Array CpInfo := ⟨poolList es last⟩
def fileOf (pool : Array CpInfo) (this : Nat) (attrs : Array Attribute := #[]) (ms : Array MethodInfo := #[]) (fl : Nat := 33) (sup : Nat := 0) (ifs : Array Nat := #[]) (fds : Array FieldInfo := #[]) : ClassFile where
  minorVersion := 0
  majorVersion := 65
  constantPool := pool
  accessFlags := fl
  thisClass := this
  superClass := sup
  interfaces := ifs
  fields := fds
  methods := ms
  attributes := attrs
def plain (name : String) (sup : Option ClassId) : Class where
  name := name
  kind := .ordinary
  loader := none
  accessFlags := 33
  super := sup
  interfaces := #[]
  cf := none
  fields := #[]
  methods := #[]
  instanceTypes := #[]
  staticTypes := #[]
  resolved := #[]
  callSites := []
  init := .initialized
  statics := none
  mirror := none

def pool0 : Array CpInfo := pool [(5, u "<init>"), (0, u "()V"), (1, .class_ 10), (1, u "java/lang/Object")] 113

def k0c0 : Code := { maxStack := 0, maxLocals := 1, code := object_method_1_code, exceptionTable := #[], attributes := #[] }
def k0m0 : Method := { name := "<init>", desc := "()V", sig := { parameters := [], returnType := none }, accessFlags := 1, code := some k0c0 }
/-- java/lang/Object -/
def k0 : Class := { plain "java/lang/Object" none with
  accessFlags := 33
  interfaces := #[]
  cf := some (fileOf pool0 8 #[] #[{ accessFlags := 1, nameIndex := 5, descriptorIndex := 6, attributes := #[] }] 33 0 #[] #[])
  fields := #[]
  methods := #[k0m0]
  instanceTypes := #[]
  staticTypes := #[]
  resolved := Array.replicate 124 none
  statics := none }

def pool1 : Array CpInfo := pool [(2, .class_ 4), (1, u "java/lang/Object"), (0, u "<init>"), (0, u "()V"), (0, .class_ 8), (0, u "com/example/tallysieve/tallysieve/SplitMix64"), (0, .methodref 7 10), (0, .nameAndType 5 11), (0, u "(J)V"), (0, .methodref 7 13), (0, .nameAndType 14 15), (0, u "nextDouble"), (0, u "()D"), (0, .methodref 7 17), (0, .nameAndType 18 19), (0, u "nextLong"), (0, u "()J"), (0, .double 4845873199050653696), (1, .class_ 23), (0, u "com/example/tallysieve/tallysieve/SplitMix64NextDoublePinLaw"), (2, u "law"), (0, u "(J)Z")] 3

def k1m0 : Method := { name := "<init>", desc := "()V", sig := { parameters := [], returnType := none }, accessFlags := 2, code := none }
def k1c1 : Code := { maxStack := 4, maxLocals := 15, code := code, exceptionTable := #[], attributes := #[] }
def k1m1 : Method := { name := "law", desc := "(J)Z", sig := { parameters := [.long], returnType := some .boolean }, accessFlags := 9, code := some k1c1 }
/-- com/example/tallysieve/tallysieve/SplitMix64NextDoublePinLaw -/
def k1 : Class := { plain "com/example/tallysieve/tallysieve/SplitMix64NextDoublePinLaw" (some 0) with
  accessFlags := 49
  interfaces := #[]
  cf := some (fileOf pool1 22 #[] #[{ accessFlags := 2, nameIndex := 5, descriptorIndex := 6, attributes := #[] }, { accessFlags := 9, nameIndex := 26, descriptorIndex := 27, attributes := #[] }] 49 2 #[] #[])
  fields := #[]
  methods := #[k1m0, k1m1]
  instanceTypes := #[]
  staticTypes := #[]
  resolved := Array.replicate 31 none
  statics := none }

def pool2 : Array CpInfo := pool [(1, .methodref 2 3), (0, .class_ 4), (0, .nameAndType 5 6), (0, u "java/lang/Object"), (0, u "<init>"), (0, u "()V"), (0, .fieldref 8 9), (0, .class_ 10), (0, .nameAndType 11 12), (0, u "com/example/tallysieve/tallysieve/SplitMix64"), (0, u "state"), (0, u "J"), (0, .long 11400714819323198485), (1, .long 13787848793156543929), (1, .long 10723151780598845931), (1, .methodref 8 20), (0, .nameAndType 21 22), (0, u "nextLong"), (0, u "()J"), (0, .double 4368491638549381120), (1, u "GAMMA"), (1, u "(J)V"), (2, u "nextDouble"), (0, u "()D")] 2

def k2c0 : Code := { maxStack := 3, maxLocals := 3, code := prog_5_method_1_code, exceptionTable := #[], attributes := #[] }
def k2m0 : Method := { name := "<init>", desc := "(J)V", sig := { parameters := [.long], returnType := none }, accessFlags := 0, code := some k2c0 }
def k2c1 : Code := { maxStack := 5, maxLocals := 3, code := prog_5_method_2_code, exceptionTable := #[], attributes := #[] }
def k2m1 : Method := { name := "nextLong", desc := "()J", sig := { parameters := [], returnType := some .long }, accessFlags := 0, code := some k2c1 }
def k2c2 : Code := { maxStack := 4, maxLocals := 1, code := prog_5_method_3_code, exceptionTable := #[], attributes := #[] }
def k2m2 : Method := { name := "nextDouble", desc := "()D", sig := { parameters := [], returnType := some .double }, accessFlags := 0, code := some k2c2 }
/-- com/example/tallysieve/tallysieve/SplitMix64 -/
def k2 : Class := { plain "com/example/tallysieve/tallysieve/SplitMix64" (some 0) with
  accessFlags := 48
  interfaces := #[]
  cf := some (fileOf pool2 8 #[] #[{ accessFlags := 0, nameIndex := 5, descriptorIndex := 27, attributes := #[] }, { accessFlags := 0, nameIndex := 21, descriptorIndex := 22, attributes := #[] }, { accessFlags := 0, nameIndex := 30, descriptorIndex := 31, attributes := #[] }] 48 2 #[] #[{ accessFlags := 26, nameIndex := 25, descriptorIndex := 12, attributes := #[] }, { accessFlags := 2, nameIndex := 11, descriptorIndex := 12, attributes := #[] }])
  fields := #[{ name := "GAMMA", type := .long, accessFlags := 26, slot := 0, constantValue := 0 }, { name := "state", type := .long, accessFlags := 2, slot := 0, constantValue := 0 }]
  methods := #[k2m0, k2m1, k2m2]
  instanceTypes := #[.long]
  staticTypes := #[.long]
  resolved := Array.replicate 34 none
  statics := none }

def pool3 : Array CpInfo := pool [(1, u "java/lang/Cloneable"), (0, .class_ 1), (0, u "java/lang/Object"), (0, .class_ 3)] 3

/-- java/lang/Cloneable -/
def k3 : Class := { plain "java/lang/Cloneable" (some 0) with
  accessFlags := 1537
  interfaces := #[]
  cf := some (fileOf pool3 2 #[] #[] 1537 4 #[] #[])
  fields := #[]
  methods := #[]
  instanceTypes := #[]
  staticTypes := #[]
  resolved := Array.replicate 8 none
  statics := none }

def pool4 : Array CpInfo := pool [(1, u "java/io/Serializable"), (0, .class_ 1), (0, u "java/lang/Object"), (0, .class_ 3)] 3

/-- java/io/Serializable -/
def k4 : Class := { plain "java/io/Serializable" (some 0) with
  accessFlags := 1537
  interfaces := #[]
  cf := some (fileOf pool4 2 #[] #[] 1537 4 #[] #[])
  fields := #[]
  methods := #[]
  instanceTypes := #[]
  staticTypes := #[]
  resolved := Array.replicate 8 none
  statics := none }

/-- the primitive byte -/
def k5 : Class := { plain "byte" none with kind := .primitive 'B', accessFlags := 0x411 }
/-- [B -/
def k6 : Class := { plain "[B" (some 0) with kind := .array 5 .byte, interfaces := #[3, 4], accessFlags := 1041 }

/-- the primitive int -/
def k7 : Class := { plain "int" none with kind := .primitive 'I', accessFlags := 0x411 }
/-- [I -/
def k8 : Class := { plain "[I" (some 0) with kind := .array 7 .int, interfaces := #[3, 4], accessFlags := 1041 }

def heap : Heap := #[]
def classes : Array Class := #[k0, k1, k2, k3, k4, k5, k6, k7, k8]
def interned : List (Array UInt16 × Addr) := []
def slotsUsed : Nat := 0
def theMethod : MethodId := ⟨1, 1⟩
def args0 : Array Value := #[.long 5]
def aboutOver (below : List Frame) : State where
  vm := { classes := classes, interned := interned.toArray }
  heap := heap
  slotsUsed := slotsUsed
  threads := #[{ frames := .invoking theMethod args0 :: below }]
def below0 : List Frame := [.native { method := ⟨0, 0⟩, args := #[] }]
def about1 : State := aboutOver below0
def p0 : Program := .bare "" "" ""
def e0 : Env := launch0.env 0 0 0
theorem w_frames : about1.frames = Frame.invoking theMethod args0 :: below0 := rfl
set_option maxRecDepth 65536 in
theorem w_args : argsFit about1.vm theMethod args0 = true := by decide +kernel
set_option maxRecDepth 65536 in
theorem w_heap : heapFits about1 = true := by decide +kernel
set_option maxRecDepth 65536 in
theorem w_runnable : about1.curStatus? = some .runnable := by decide +kernel
set_option maxRecDepth 65536 in
theorem w_alone : about1.alone = true := by decide +kernel
set_option maxRecDepth 65536 in
theorem w_named : about1.methodNamed? x = some theMethod := by decide +kernel
set_option maxRecDepth 65536 in
theorem w_hears : about1.hears theMethod below0 = true := by decide +kernel
set_option maxRecDepth 65536 in
theorem w_ripe : about1.ripe theMethod args0 below0 = true := by decide +kernel
theorem w_running : about1.status = .running := rfl
set_option maxRecDepth 65536 in
theorem w_room : about1.hasRoom e0.platform room_1 = true :=
  launch0.hasRoom_least _ room_1 (by decide +kernel) (by decide +kernel) (by decide +kernel) (by decide +kernel) (by decide +kernel) (by decide +kernel)
theorem allAtoms_all (ts : List Jvm.Cond) (a : Array Jvm.Value) (st : Jvm.State) : (allAtoms ts).before a st = ts.all (fun c => c.before a st) := by
  induction ts with
  | nil => rfl
  | cons c t ih =>
    show (Jvm.Cond.and c (allAtoms t)).before a st = _
    rw [Jvm.Cond.before_and, ih, List.all_cons]
def words1 : List Jvm.Cond := Jvm.Cond.code x code maxLocals ret :: tables_1
/-- a 'code' word, met by the world's own term for the bytes: nothing is compared byte by byte -/
theorem code_word {y : MethodName} {bytes : ByteArray} {mx : Nat} {rt : Option FieldType} {a : Array Value} {s : State} {m : MethodId} {meth : Method} {c : Code} (h1 : s.methodNamed? y = some m) (h2 : s.vm.method? m = some meth) (h3 : meth.code = some c) (h4 : c.code = bytes)
    (h5 : (c.maxLocals == mx && c.exceptionTable.isEmpty && decide (c.maxStack ≤ mostOperands) && decide (meth.sig.returnType = rt) && !meth.locks && decide (parseMethodDescriptor y.desc = some meth.sig)) = true) : (Jvm.Cond.code y bytes mx rt).before a s = true := by
  simp only [Bool.and_eq_true, beq_iff_eq, Bool.not_eq_true', decide_eq_true_eq] at h5
  obtain ⟨⟨⟨⟨⟨g1, g2⟩, g3⟩, g4⟩, g5⟩, g6⟩ := h5
  simp [Cond.before, Cond.holds, Cond.value, h1, h2, h3, h4, g1, g2, g3, g4, g5, g6]
def isCode : Jvm.Cond → Bool
  | .code _ _ _ _ => true
  | _ => false
theorem all_split {L : List Jvm.Cond} {P : Jvm.Cond → Bool} (h1 : L.all (fun c => isCode c || P c) = true) (h2 : ∀ c ∈ L.filter isCode, P c = true) : L.all P = true := by
  refine List.all_eq_true.mpr fun c hc => ?_
  have h := List.all_eq_true.mp h1 c hc
  rcases Bool.eq_false_or_eq_true (isCode c) with hi | hi
  · exact h2 c (List.mem_filter.mpr ⟨hc, hi⟩)
  · simpa [hi] using h
set_option maxRecDepth 65536 in
theorem w_c0 : (Jvm.Cond.code x code maxLocals ret).before args0 about1 = true := code_word (m := ⟨1, 1⟩) (meth := k1m1) (c := k1c1) (by decide +kernel) rfl rfl rfl (by decide +kernel)
set_option maxRecDepth 65536 in
theorem w_c1 : (Jvm.Cond.code ({ cls := "com/example/tallysieve/tallysieve/SplitMix64", name := "<init>", desc := "(J)V" } : Jvm.MethodName) prog_5_method_1_code (3 : Nat) (Option.none : Option Jvm.ClassFile.FieldType)).before args0 about1 = true := code_word (m := ⟨2, 0⟩) (meth := k2m0) (c := k2c0) (by decide +kernel) rfl rfl rfl (by decide +kernel)
set_option maxRecDepth 65536 in
theorem w_c2 : (Jvm.Cond.code ({ cls := "java/lang/Object", name := "<init>", desc := "()V" } : Jvm.MethodName) object_method_1_code (1 : Nat) (Option.none : Option Jvm.ClassFile.FieldType)).before args0 about1 = true := code_word (m := ⟨0, 0⟩) (meth := k0m0) (c := k0c0) (by decide +kernel) rfl rfl rfl (by decide +kernel)
set_option maxRecDepth 65536 in
theorem w_c3 : (Jvm.Cond.code ({ cls := "com/example/tallysieve/tallysieve/SplitMix64", name := "nextDouble", desc := "()D" } : Jvm.MethodName) prog_5_method_3_code (1 : Nat) (Option.some Jvm.ClassFile.FieldType.double)).before args0 about1 = true := code_word (m := ⟨2, 2⟩) (meth := k2m2) (c := k2c2) (by decide +kernel) rfl rfl rfl (by decide +kernel)
set_option maxRecDepth 65536 in
theorem w_c4 : (Jvm.Cond.code ({ cls := "com/example/tallysieve/tallysieve/SplitMix64", name := "nextLong", desc := "()J" } : Jvm.MethodName) prog_5_method_2_code (3 : Nat) (Option.some Jvm.ClassFile.FieldType.long)).before args0 about1 = true := code_word (m := ⟨2, 1⟩) (meth := k2m1) (c := k2c1) (by decide +kernel) rfl rfl rfl (by decide +kernel)
def codes1 : List Jvm.Cond := [Jvm.Cond.code x code maxLocals ret, Jvm.Cond.code ({ cls := "com/example/tallysieve/tallysieve/SplitMix64", name := "<init>", desc := "(J)V" } : Jvm.MethodName) prog_5_method_1_code (3 : Nat) (Option.none : Option Jvm.ClassFile.FieldType), Jvm.Cond.code ({ cls := "java/lang/Object", name := "<init>", desc := "()V" } : Jvm.MethodName) object_method_1_code (1 : Nat) (Option.none : Option Jvm.ClassFile.FieldType), Jvm.Cond.code ({ cls := "com/example/tallysieve/tallysieve/SplitMix64", name := "nextDouble", desc := "()D" } : Jvm.MethodName) prog_5_method_3_code (1 : Nat) (Option.some Jvm.ClassFile.FieldType.double), Jvm.Cond.code ({ cls := "com/example/tallysieve/tallysieve/SplitMix64", name := "nextLong", desc := "()J" } : Jvm.MethodName) prog_5_method_2_code (3 : Nat) (Option.some Jvm.ClassFile.FieldType.long)]
set_option maxRecDepth 65536 in
theorem codes_eq : words1.filter isCode = codes1 := rfl
theorem w_codes : ∀ c ∈ words1.filter isCode, c.before args0 about1 = true := by
  rw [codes_eq]
  intro c hc
  simp only [codes1, List.mem_cons, List.not_mem_nil, or_false] at hc
  rcases hc with rfl | rfl | rfl | rfl | rfl
  · exact w_c0
  · exact w_c1
  · exact w_c2
  · exact w_c3
  · exact w_c4
set_option maxRecDepth 65536 in
theorem w_t1 : (words1.take 24).all (fun c => isCode c || c.before args0 about1) = true := by decide +kernel
set_option maxRecDepth 65536 in
theorem w_t2 : (words1.drop 24).all (fun c => isCode c || c.before args0 about1) = true := by decide +kernel
theorem w_tables : (allAtoms (Jvm.Cond.code x code maxLocals ret :: tables_1)).before args0 about1 = true := by
  rw [allAtoms_all]
  show words1.all (fun c => c.before args0 about1) = true
  refine all_split ?_ w_codes
  rw [← List.take_append_drop 24 words1, List.all_append, w_t1, w_t2]
  rfl
set_option maxRecDepth 65536 in
theorem w_case : (Jvm.Cond.and given_1 narrow_1).before args0 about1 = true := by decide +kernel
theorem w_applies : (headSpec (Jvm.Cond.code x code maxLocals ret :: tables_1) room_1).applies x e0.platform about1 = true :=
  (Spec.applies_iff w_frames).mpr ⟨w_running, w_runnable, w_alone, w_named, w_hears, w_ripe, w_room, w_tables⟩
theorem atStart : AtStart classFile x code maxLocals ret World_1 tables_1 room_1 Calls_1 rest_1 Pre_1 launch0 p0 e0 about1 theMethod args0 below0 :=
  ⟨lists_1, trivial, launch0.admits_env _ _ _, launch0.least_env, fairChoices_fair.cas, fairChoices_fair.clock, w_frames, w_args, w_heap, w_applies, trivial, trivial, w_case⟩
end start1
theorem witness_1 : WitnessClaimed_1 := ⟨start1.p0, start1.e0, start1.about1, start1.theMethod, start1.args0, start1.below0, start1.atStart⟩
end Jvm.Pilot.@@N@@
