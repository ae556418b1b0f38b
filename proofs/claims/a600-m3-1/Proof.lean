import JvmDerived
import JvmDerived.Pilot.@@N@@Statement
import JvmDerived.Pilot.@@N@@Code
set_option linter.unusedVariables false
set_option linter.unusedSimpArgs false
namespace Jvm.Pilot.@@N@@
open Jvm Jvm.ClassFile Sem Op Lib Jvm.Free Jvm.Stand Jvm.LawKit Jvm.RoadKit Bundle Jvm.Pilot.@@N@@.Jvm.D
/-! own prelude: 'own_Goes' says that from state T with top frame g the invocation comes to its end with what Q says -/
section OwnPrelude
variable {p : Program} {l : Launch} {e : Env} {R : Room} {s : State} {m : MethodId} {args : Array Value} {below : List Frame} {meth : Method} {c : Code} {T T' : State} {locs : List Loc} {cells slots : Nat} {Z : State} {a0 : Array Value} {h : Heap} {kc ks : Nat} {Q : Option Value → Heap → List Loc → Prop} {g g' : JFrame}
def own_Goes (p : Program) (e : Env) (below : List Frame) (s : State) (kc ks : Nat) (Q : Option Value → Heap → List Loc → Prop) (T : State) (g : JFrame) : Prop :=
  ∃ t o, Steps p.tables e below (T.setTop g) t ∧ t.status = .running ∧ Ended t below o ∧ ∃ v L, o = .returned v ∧ Q v t.heap L ∧ FrameEnd s o t L kc ks
abbrev own_Ctr (l : Launch) (Z : State) (y : MethodName) (bytes : ByteArray) (maxL : Nat) (ret : Option FieldType) (ws : List Jvm.Cond) (rm : Room) (kc ks : Nat) (as' : Array Value) (h : Heap) (Q : Option Value → Heap → List Loc → Prop) : Prop :=
  MetFree l y (head1 (Jvm.Cond.code y bytes maxL ret :: ws) rm) (fun a U => a = as' ∧ Z.Warmed39 U.vm ∧ U.heap = h) (fun _ _ _ _ _ => True) (fun _ U o U' => ∃ v L, o = .returned v ∧ Q v U'.heap L ∧ FrameEnd U o U' L kc ks)
theorem own_by (st : ∀ t, Steps p.tables e below (T'.setTop g') t → Steps p.tables e below (T.setTop g) t) (k : own_Goes p e below s kc ks Q T' g') : own_Goes p e below s kc ks Q T g := by
  obtain ⟨t, o, h1, r⟩ := k; exact ⟨t, o, st t h1, r⟩
theorem own_cast (q : g = g') (k : own_Goes p e below s kc ks Q T g') : own_Goes p e below s kc ks Q T g := q ▸ k
theorem own_enter {y : MethodName} {bytes : ByteArray} {maxL : Nat} {ret : Option FieldType} {ws : List Jvm.Cond} {rm : Room} {as' : Array Value} (hpl : plainFor y = true)
    (k : ∀ p e s m below meth c s₁, Stand p l e rm s m as' below meth c s₁ [] 0 0 → p.tables.exec = Jvm.exec → Z.Warmed39 s.vm → c.code = bytes → c.maxLocals = maxL → s.vm.findClass y.cls = some m.cls → meth.name = y.name → meth.locks = false → meth.sig.returnType = ret → s₁.heap = h → own_Goes p e below s kc ks Q s₁ (entryFrame m as' maxL)) :
    own_Ctr l Z y bytes maxL ret ws rm kc ks as' h Q := by
  refine MetFree.of_bodySF hpl hisR ?_
  intro p e s m args below meth c s₁ Bd hml0 hP hK
  obtain ⟨rfl, hZ, hh⟩ := hP
  exact k p e s m below meth c s₁ (Stand.of_body Bd) Bd.exec hZ Bd.bytes hml0 (findClass_of_methodNamed Bd.named) (name_of_methodNamed Bd.named Bd.method).1 Bd.notSynchronized Bd.returns (by rw [← hh, Bd.state]; rfl)
theorem own_mono (X : Stand p l e R s m args below meth c T locs cells slots) {c' n' : Nat} (h1 : cells ≤ c') (h2 : slots ≤ n') : Stand p l e R s m args below meth c T locs c' n' :=
  { X with same := X.same.mono h1 h2 }
theorem own_out (X : Stand p l e R s m args below meth c T locs cells slots) (hlk : meth.locks = false) {v : Option Value} (hv : meth.sig.returnType = none → v = none)
    (st : ∀ fs, (∀ (f : JFrame) (acts : List Action), f.method = m → f.locked = none → f.entered = [] → (doReturn e (T.setTop f) acts v).1 = T.setFrames fs) → Steps p.tables e below (T.setTop g) (T.setFrames fs))
    (hc : cells ≤ kc) (hs : slots ≤ ks) (hQ : Q v T.heap locs) : own_Goes p e below s kc ks Q T g := by
  obtain ⟨fs, hr, hrun, hended, hW, hsame⟩ := X.leave (v := v) hv hlk
  exact ⟨_, _, st fs hr, hrun, hended, v, locs, rfl, hQ, ⟨_, rfl⟩, hW, hsame.mono hc hs⟩
theorem own_ret {w : Value} {t : FieldType} {i : Instr} {pc : Nat} {Ls : Array Slot} {rest : List Value} (X : Stand p l e R s m args below meth c T locs cells slots) (hx : p.tables.exec = Jvm.exec) (hlk : meth.locks = false) (hret : meth.sig.returnType = some t) (hn : narrow t w = w)
    (hi : (i = .ireturn ∧ (t = .int ∨ t = .boolean ∨ t = .byte ∨ t = .char ∨ t = .short) ∧ ∃ z, w = .int z) ∨ (i = .lreturn ∧ t = .long ∧ ∃ z, w = .long z) ∨ (i = .dreturn ∧ t = .double ∧ ∃ z, w = .double z) ∨ (i = .freturn ∧ t = .float ∧ ∃ z, w = .float z) ∨ (i = .areturn ∧ t.isReference = true ∧ w.isRef = true))
    (hd : decode c.code pc = .ok (i, 1)) (hc : cells ≤ kc) (hs : slots ≤ ks) (hQ : Q (some w) T.heap locs) : own_Goes p e below s kc ks Q T (mkF m pc Ls (w :: rest)) :=
  own_out X hlk (fun h => by rw [hret] at h; cases h) (fun fs hr => retOut X hx hret hn hi hd hr) hc hs hQ
theorem own_retI {z : Int32} {pc : Nat} {Ls : Array Slot} {rest : List Value} (X : Stand p l e R s m args below meth c T locs cells slots) (hx : p.tables.exec = Jvm.exec) (hlk : meth.locks = false) (hret : meth.sig.returnType = some .int)
    (hd : decode c.code pc = .ok (.ireturn, 1)) (hc : cells ≤ kc) (hs : slots ≤ ks) (hQ : Q (some (.int z)) T.heap locs) : own_Goes p e below s kc ks Q T (mkF m pc Ls (.int z :: rest)) :=
  own_ret X hx hlk hret rfl (Or.inl ⟨rfl, Or.inl rfl, z, rfl⟩) hd hc hs hQ
theorem own_retJ {z : Int64} {pc : Nat} {Ls : Array Slot} {rest : List Value} (X : Stand p l e R s m args below meth c T locs cells slots) (hx : p.tables.exec = Jvm.exec) (hlk : meth.locks = false) (hret : meth.sig.returnType = some .long)
    (hd : decode c.code pc = .ok (.lreturn, 1)) (hc : cells ≤ kc) (hs : slots ≤ ks) (hQ : Q (some (.long z)) T.heap locs) : own_Goes p e below s kc ks Q T (mkF m pc Ls (.long z :: rest)) :=
  own_ret X hx hlk hret rfl (Or.inr (Or.inl ⟨rfl, rfl, z, rfl⟩)) hd hc hs hQ
theorem own_retD {z : UInt64} {pc : Nat} {Ls : Array Slot} {rest : List Value} (X : Stand p l e R s m args below meth c T locs cells slots) (hx : p.tables.exec = Jvm.exec) (hlk : meth.locks = false) (hret : meth.sig.returnType = some .double)
    (hd : decode c.code pc = .ok (.dreturn, 1)) (hc : cells ≤ kc) (hs : slots ≤ ks) (hQ : Q (some (.double z)) T.heap locs) : own_Goes p e below s kc ks Q T (mkF m pc Ls (.double z :: rest)) :=
  own_ret X hx hlk hret rfl (Or.inr (Or.inr (Or.inl ⟨rfl, rfl, z, rfl⟩))) hd hc hs hQ
theorem own_b8 (x : Int32) : ((x).toInt8.toInt32).toInt8.toInt32 = x.toInt8.toInt32 := by simp
theorem own_c16 (x : Int32) : ((x).toUInt32.toUInt16.toUInt32.toInt32).toUInt32.toUInt16.toUInt32.toInt32 = x.toUInt32.toUInt16.toUInt32.toInt32 := by
  have h : ∀ u : UInt16, (u.toUInt32.toInt32).toUInt32.toUInt16 = u := fun u => by
    show (u.toUInt32).toUInt16 = u
    simp
  rw [h]
theorem own_at_ {a : Addr} {cl : Cell} (q : T.heap = h) (A : h[a]? = some cl) : T.heap[a]? = some cl := q ▸ A
theorem own_wr {h' : Heap} {a : Addr} {sl : Nat} {v v' : Value} (W : Wr h h' a sl v) (q : v = v') : Wr h h' a sl v' := q ▸ W
theorem own_eqI {first : State} {o : Option Outcome} {idx : List Nat} {a b : Term} {x y : Int32} (ha : a.eval args first o idx s = some (.int x)) (hb : b.eval args first o idx s = some (.int y)) : (Cond.eq a b).value args first o s idx = some (decide (x = y)) := by simp [Cond.value, ha, hb]
theorem own_fitR {t : FieldType} {w : Value} (ht : t.isReference = true) (hw : w.isRef = true) : fits t w = true := by cases t <;> simp [FieldType.isReference] at ht <;> rcases ref_cases hw with rfl | ⟨a, rfl⟩ <;> rfl
theorem own_cat1 {w : Value} (hw : w.isRef = true) : w.category = 1 := by rcases ref_cases hw with rfl | ⟨a, rfl⟩ <;> rfl
theorem own_stG {ls l' : Array Slot} {i : Nat} {v : Value} {o : Slot} (hold : ls[i]? = some o) (ho : o = .unset ∨ ∃ w, o = .val w ∧ w.category = 1) (hv : v.category = 1) (q : ls.setIfInBounds i (.val v) = l') : storeLocals ls i v = some l' := q ▸ XS.store1 hold ho hv
theorem own_narR {t : FieldType} {w : Value} (ht : t.isReference = true) : narrow t w = w := by cases t <;> simp [FieldType.isReference] at ht <;> cases w <;> rfl
theorem own_retA {w : Value} {t : FieldType} {pc : Nat} {Ls : Array Slot} {rest : List Value} (X : Stand p l e R s m args below meth c T locs cells slots) (hx : p.tables.exec = Jvm.exec) (hlk : meth.locks = false) (hret : meth.sig.returnType = some t) (ht : t.isReference = true) (hw : w.isRef = true)
    (hd : decode c.code pc = .ok (.areturn, 1)) (hc : cells ≤ kc) (hs : slots ≤ ks) (hQ : Q (some w) T.heap locs) : own_Goes p e below s kc ks Q T (mkF m pc Ls (w :: rest)) :=
  own_ret X hx hlk hret (own_narR ht) (Or.inr (Or.inr (Or.inr (Or.inr ⟨rfl, ht, hw⟩)))) hd hc hs hQ
theorem own_retN {z : Int32} {t : FieldType} {pc : Nat} {Ls : Array Slot} {rest : List Value} (X : Stand p l e R s m args below meth c T locs cells slots) (hx : p.tables.exec = Jvm.exec) (hlk : meth.locks = false) (hret : meth.sig.returnType = some t) (ht : t = .boolean ∨ t = .byte ∨ t = .char ∨ t = .short)
    (hd : decode c.code pc = .ok (.ireturn, 1)) (hc : cells ≤ kc) (hs : slots ≤ ks) (hQ : Q (some (.int (nar t z))) T.heap locs) : own_Goes p e below s kc ks Q T (mkF m pc Ls (.int z :: rest)) :=
  own_out X hlk (fun h => by rw [hret] at h; cases h) (fun fs hr => retN X hx hret ht hd hr) hc hs hQ
theorem own_retV {pc : Nat} {Ls : Array Slot} (X : Stand p l e R s m args below meth c T locs cells slots) (hx : p.tables.exec = Jvm.exec) (hlk : meth.locks = false) (hret : meth.sig.returnType = none)
    (hd : decode c.code pc = .ok (.return_, 1)) (hc : cells ≤ kc) (hs : slots ≤ ks) (hQ : Q none T.heap locs) : own_Goes p e below s kc ks Q T (mkF m pc Ls []) :=
  own_out X hlk (fun _ => rfl) (fun fs hr => X.returnOut hx hret hd hr) hc hs hQ
/-- an array of that type and length, whatever it holds -/
def own_Arz (Z : State) (h : Heap) (a : Addr) (ty : FieldType) (z : Int32) : Prop := ∃ c : Cell, Arr Z h a c ty ∧ c.slots.size = z.toNatClampNeg ∧ ¬ z < 0
theorem own_Arz.of {a : Addr} {k : ClassId} {ty : FieldType} {z : Int32} {vs : List Value} {dv : Value} (F : Arv Z h a k ty z vs dv) : own_Arz Z h a ty z := by obtain ⟨c, A, -, S, q, -⟩ := F; exact ⟨c, A, S, q⟩
theorem own_Arz.lt {a : Addr} {ty : FieldType} {z : Int32} (F : own_Arz Z h a ty z) : a < h.size := by obtain ⟨c, A, -⟩ := F; exact A.lt
theorem own_Arz.ext {h' : Heap} {a : Addr} {ty : FieldType} {z : Int32} (F : own_Arz Z h a ty z) (E : Ext h h') : own_Arz Z h' a ty z := by obtain ⟨c, A, r⟩ := F; exact ⟨c, A.ext E, r⟩
theorem own_Arz.other {h' : Heap} {a b : Addr} {ty : FieldType} {z : Int32} {sl : Nat} {v : Value} (F : own_Arz Z h b ty z) (W : Wr h h' a sl v) (q : b ≠ a) : own_Arz Z h' b ty z := by obtain ⟨c, A, r⟩ := F; exact ⟨c, A.other W q, r⟩
theorem own_Arz.same {h' : Heap} {a : Addr} {ty : FieldType} {z : Int32} {sl : Nat} {v : Value} (F : own_Arz Z h a ty z) (W : Wr h h' a sl v) : own_Arz Z h' a ty z := by obtain ⟨c, A, r1, r2⟩ := F; exact ⟨_, A.same W, by rw [sz_set]; exact r1, r2⟩
theorem own_Arz.keep {h' : Heap} {a : Addr} {ty : FieldType} {z : Int32} {ws : List Addr} (F : own_Arz Z h a ty z) (K : Keep h h' ws) (q : a ∉ ws) : own_Arz Z h' a ty z := by obtain ⟨c, A, r⟩ := F; exact ⟨c, ⟨K.2.1 a c A.1 q, A.2⟩, r⟩
theorem own_neY {a b : Addr} {C : String} {n : Nat} {ty : FieldType} {z : Int32} (E : Exa Z h a C) (w : (Cond.instantiable C n).before a0 Z = true) (F : own_Arz Z h b ty z) : a ≠ b := by obtain ⟨c, A, -⟩ := F; exact ne_arr E w A
section OwnCalls
variable {own : String} {index : Nat} {y z : MethodName} {bytes : ByteArray} {maxL : Nat} {ret : Option FieldType} {rm : Room} {Q' : Option Value → Heap → List Loc → Prop} {argsL rest : List Value}
theorem own_callS (X : Stand p l e R s m args below meth c T locs cells slots) (hx : p.tables.exec = Jvm.exec) (hZ : Z.Warmed39 s.vm) (hown : s.vm.findClass own = some m.cls)
    (w1 : (Cond.methodLink own index y).before a0 Z = true) (w2 : (Cond.static y).before a0 Z = true) (w3 : (Cond.initialized y.cls).before a0 Z = true) (w4 : (Cond.code y bytes maxL ret).before a0 Z = true)
    (hy : y.cls ≠ "java/lang/invoke/MethodHandle" ∧ y.cls ≠ "java/lang/invoke/VarHandle") (hM : own_Ctr l Z y bytes maxL ret [] rm rm.cells rm.slots argsL.toArray h Q') (W : Nat)
    (hf : rm.frames + 1 ≤ R.frames) (hl : W + (maxL + 11) + rm.locals ≤ R.locals) (hc : cells + rm.cells ≤ R.cells) (hs : slots + rm.slots ≤ R.slots) (eT : T.heap = h)
    (hg : g.method = m) (hsize : g.locals.size = c.maxLocals) (hlen : ∀ sig, parseMethodDescriptor y.desc = some sig → argsL.length = sig.parameters.length) (hstack : g.stack = argsL.reverse ++ rest)
    (hW : 2 * g.monitorRoom + (rest.map fun v => v.category).sum ≤ W) (hd : decode c.code g.pc = .ok (.invokestatic index, 3))
    (k : ∀ v T' L, Stand p l e R s m args below meth c T' (locs ++ L) (cells + rm.cells) (slots + rm.slots) → Q' v T'.heap L → own_Goes p e below s kc ks Q T' { g with pc := g.pc + 3, stack := v.toList ++ rest }) : own_Goes p e below s kc ks Q T g := by
  obtain ⟨v, _, ⟨T', L', k', n'⟩, -, X', ⟨Lc, hQ, l1, y1, z1⟩, st⟩ := Jvm.LawKit.callS X hx hown (mvT hZ w1) (mvT hZ w2) (mvT hZ w3) (mvT hZ w4) hy (backOf (W := W) hM hZ w4 w3 hf hl) hg hsize hlen hstack hW hd (fun _ _ => ⟨rfl, eT, hc, hs⟩)
  dsimp only [Pt.U, Pt.locs, Pt.cells, Pt.slots] at X' l1 y1 z1 st hQ
  subst l1 y1 z1
  exact own_by st (k v T' Lc X' hQ)
theorem own_callI (X : Stand p l e R s m args below meth c T locs cells slots) (hx : p.tables.exec = Jvm.exec) (hZ : Z.Warmed39 s.vm) (hown : s.vm.findClass own = some m.cls) (hy1 : y.name = "<init>")
    (w1 : (Cond.methodLink own index y).before a0 Z = true) (w2 : (Cond.instanceMethod y).before a0 Z = true) (w3 : (Cond.initialized y.cls).before a0 Z = true) (w4 : (Cond.code y bytes maxL none).before a0 Z = true)
    (hy : y.cls ≠ "java/lang/invoke/MethodHandle" ∧ y.cls ≠ "java/lang/invoke/VarHandle") {a : Addr} (hM : own_Ctr l Z y bytes maxL none [] rm rm.cells rm.slots (.ref a :: argsL).toArray h Q') (W : Nat)
    (hf : rm.frames + 1 ≤ R.frames) (hl : W + (maxL + 11) + rm.locals ≤ R.locals) (hc : cells + rm.cells ≤ R.cells) (hs : slots + rm.slots ≤ R.slots) (eT : T.heap = h)
    (hg : g.method = m) (hsize : g.locals.size = c.maxLocals) (hlen : ∀ sig, parseMethodDescriptor y.desc = some sig → argsL.length = sig.parameters.length) (hstack : g.stack = argsL.reverse ++ .ref a :: rest)
    (hW : 2 * g.monitorRoom + (rest.map fun v => v.category).sum ≤ W) (hd : decode c.code g.pc = .ok (.invokespecial index, 3))
    (k : ∀ v T' L, Stand p l e R s m args below meth c T' (locs ++ L) (cells + rm.cells) (slots + rm.slots) → Q' v T'.heap L → own_Goes p e below s kc ks Q T' { g with pc := g.pc + 3, stack := v.toList ++ rest }) : own_Goes p e below s kc ks Q T g := by
  obtain ⟨v, _, ⟨T', L', k', n'⟩, -, X', ⟨Lc, hQ, l1, y1, z1⟩, st⟩ := X.specialBack hx hy1 hown (mvT hZ w1) (mvT hZ w2) (mvT hZ w4) hy (backOf (W := W) hM hZ w4 w3 hf hl) hg hsize (Steps.refl _) hlen hstack hW hd (fun _ _ => ⟨rfl, eT, hc, hs⟩)
  dsimp only [Pt.U, Pt.locs, Pt.cells, Pt.slots] at X' l1 y1 z1 st hQ
  subst l1 y1 z1
  exact own_by (fun t kt => st.trans kt) (k v T' Lc X' hQ)
theorem own_callIN {host : String} (X : Stand p l e R s m args below meth c T locs cells slots) (hx : p.tables.exec = Jvm.exec) (hZ : Z.Warmed39 s.vm) (hown : s.vm.findClass own = some m.cls) (hy1 : y.name = "<init>")
    (w1 : (Cond.methodLinkNest own index y host).before a0 Z = true) (w2 : (Cond.instanceMethod y).before a0 Z = true) (w3 : (Cond.initialized y.cls).before a0 Z = true) (w4 : (Cond.code y bytes maxL none).before a0 Z = true)
    (hy : y.cls ≠ "java/lang/invoke/MethodHandle" ∧ y.cls ≠ "java/lang/invoke/VarHandle") {a : Addr} (hM : own_Ctr l Z y bytes maxL none [] rm rm.cells rm.slots (.ref a :: argsL).toArray h Q') (W : Nat)
    (hf : rm.frames + 1 ≤ R.frames) (hl : W + (maxL + 11) + rm.locals ≤ R.locals) (hc : cells + rm.cells ≤ R.cells) (hs : slots + rm.slots ≤ R.slots) (eT : T.heap = h)
    (hg : g.method = m) (hsize : g.locals.size = c.maxLocals) (hlen : ∀ sig, parseMethodDescriptor y.desc = some sig → argsL.length = sig.parameters.length) (hstack : g.stack = argsL.reverse ++ .ref a :: rest)
    (hW : 2 * g.monitorRoom + (rest.map fun v => v.category).sum ≤ W) (hd : decode c.code g.pc = .ok (.invokespecial index, 3))
    (k : ∀ v T' L, Stand p l e R s m args below meth c T' (locs ++ L) (cells + rm.cells) (slots + rm.slots) → Q' v T'.heap L → own_Goes p e below s kc ks Q T' { g with pc := g.pc + 3, stack := v.toList ++ rest }) : own_Goes p e below s kc ks Q T g := by
  obtain ⟨v, _, ⟨T', L', k', n'⟩, -, X', ⟨Lc, hQ, l1, y1, z1⟩, st⟩ := X.specialBackNest hx hy1 hown (Cond.methodLinkNest_wide hZ w1 :) (mvT hZ w2) (mvT hZ w4) hy (backOf (W := W) hM hZ w4 w3 hf hl) hg hsize (Steps.refl _) hlen hstack hW hd (fun _ _ => ⟨rfl, eT, hc, hs⟩)
  dsimp only [Pt.U, Pt.locs, Pt.cells, Pt.slots] at X' l1 y1 z1 st hQ
  subst l1 y1 z1
  exact own_by (fun t kt => st.trans kt) (k v T' Lc X' hQ)
theorem own_callV {C : String} (X : Stand p l e R s m args below meth c T locs cells slots) (hx : p.tables.exec = Jvm.exec) (hZ : Z.Warmed39 s.vm) (hown : s.vm.findClass own = some m.cls)
    (w1 : (Cond.methodLink own index y).before a0 Z = true) (w2 : (Cond.declares y).before a0 Z = true) (hnf : NotFace s y) (w3 : (Cond.selects C y z).before a0 Z = true) (w4 : (Cond.instanceMethod z).before a0 Z = true) (w5 : (Cond.code z bytes maxL ret).before a0 Z = true) (w6 : (Cond.initialized z.cls).before a0 Z = true)
    (hy : y.cls ≠ "java/lang/invoke/MethodHandle" ∧ y.cls ≠ "java/lang/invoke/VarHandle") {a : Addr} (E : Exa Z h a C) (hM : own_Ctr l Z z bytes maxL ret [] rm rm.cells rm.slots (.ref a :: argsL).toArray h Q') (W : Nat)
    (hf : rm.frames + 1 ≤ R.frames) (hl : W + (maxL + 11) + rm.locals ≤ R.locals) (hc : cells + rm.cells ≤ R.cells) (hs : slots + rm.slots ≤ R.slots) (eT : T.heap = h)
    (hg : g.method = m) (hsize : g.locals.size = c.maxLocals) (hlen : ∀ sig, parseMethodDescriptor y.desc = some sig → argsL.length = sig.parameters.length) (hstack : g.stack = argsL.reverse ++ .ref a :: rest)
    (hW : 2 * g.monitorRoom + (rest.map fun v => v.category).sum ≤ W) (hd : decode c.code g.pc = .ok (.invokevirtual index, 3))
    (k : ∀ v T' L, Stand p l e R s m args below meth c T' (locs ++ L) (cells + rm.cells) (slots + rm.slots) → Q' v T'.heap L → own_Goes p e below s kc ks Q T' { g with pc := g.pc + 3, stack := v.toList ++ rest }) : own_Goes p e below s kc ks Q T g := by
  obtain ⟨cq, kq, qa, qb, qc⟩ := isOf hZ eT E
  obtain ⟨v, _, ⟨T', L', k', n'⟩, -, X', ⟨Lc, hQ, l1, y1, z1⟩, st⟩ := X.virtualBack hx hown (mvT hZ w1) (mvT hZ w2) hnf (mvT hZ w3) (mvT hZ w4) hy (backOf (W := W) hM hZ w5 w6 hf hl) qa qc hg hsize (Steps.refl _) hlen hstack hW hd (fun _ _ => ⟨rfl, eT, hc, hs⟩)
  dsimp only [Pt.U, Pt.locs, Pt.cells, Pt.slots] at X' l1 y1 z1 st hQ
  subst l1 y1 z1
  exact own_by (fun t kt => st.trans kt) (k v T' Lc X' hQ)
theorem own_callP (X : Stand p l e R s m args below meth c T locs cells slots) (hx : p.tables.exec = Jvm.exec) (hZ : Z.Warmed39 s.vm) (hown : s.vm.findClass own = some m.cls)
    (w1 : (Cond.methodLink own index y).before a0 Z = true) (w2 : (Cond.instanceMethod y).before a0 Z = true) (w3 : (Cond.selects y.cls y y).before a0 Z = true) (w4 : (Cond.privateMethod y).before a0 Z = true) (w5 : (Cond.code y bytes maxL ret).before a0 Z = true) (w6 : (Cond.initialized y.cls).before a0 Z = true)
    (hy : y.cls ≠ "java/lang/invoke/MethodHandle" ∧ y.cls ≠ "java/lang/invoke/VarHandle") {a : Addr} {C : String} (E : Exa Z h a C) (hM : own_Ctr l Z y bytes maxL ret [] rm rm.cells rm.slots (.ref a :: argsL).toArray h Q') (W : Nat)
    (hf : rm.frames + 1 ≤ R.frames) (hl : W + (maxL + 11) + rm.locals ≤ R.locals) (hc : cells + rm.cells ≤ R.cells) (hs : slots + rm.slots ≤ R.slots) (eT : T.heap = h)
    (hg : g.method = m) (hsize : g.locals.size = c.maxLocals) (hlen : ∀ sig, parseMethodDescriptor y.desc = some sig → argsL.length = sig.parameters.length) (hstack : g.stack = argsL.reverse ++ .ref a :: rest)
    (hW : 2 * g.monitorRoom + (rest.map fun v => v.category).sum ≤ W) (hd : decode c.code g.pc = .ok (.invokevirtual index, 3))
    (k : ∀ v T' L, Stand p l e R s m args below meth c T' (locs ++ L) (cells + rm.cells) (slots + rm.slots) → Q' v T'.heap L → own_Goes p e below s kc ks Q T' { g with pc := g.pc + 3, stack := v.toList ++ rest }) : own_Goes p e below s kc ks Q T g := by
  obtain ⟨cq, q1, q2⟩ := E.cell
  obtain ⟨v, _, ⟨T', L', k', n'⟩, -, X', ⟨Lc, hQ, l1, y1, z1⟩, st⟩ := X.privateBack hx hown (mvT hZ w1) (mvT hZ w2) (mvT hZ w3) (Cond.privateMethod_at (mvP hZ w4 (args := #[]))) (mvT hZ w5) hy (backOf (W := W) hM hZ w5 w6 hf hl) hg hsize (Steps.refl _) (a := a) (by rw [eT]; exact q1) q2 hlen hstack hW hd (fun _ _ => ⟨rfl, eT, hc, hs⟩)
  dsimp only [Pt.U, Pt.locs, Pt.cells, Pt.slots] at X' l1 y1 z1 st hQ
  subst l1 y1 z1
  exact own_by (fun t kt => st.trans kt) (k v T' Lc X' hQ)
theorem own_callF {C : String} {count : Nat} (X : Stand p l e R s m args below meth c T locs cells slots) (hx : p.tables.exec = Jvm.exec) (hZ : Z.Warmed39 s.vm) (hown : s.vm.findClass own = some m.cls)
    (w1 : (Cond.methodLink own index y).before a0 Z = true) (w2 : (Cond.declares y).before a0 Z = true) (w2f : (Cond.interfaceMethod y.cls y.cls y.name y.desc).before a0 Z = true) (w3 : (Cond.selects C y z).before a0 Z = true) (w4 : (Cond.instanceMethod z).before a0 Z = true)
    (wp : (Cond.publicMethod z).before a0 Z = true) (wu : (Cond.unhidden C y.name y.desc).before a0 Z = true) (wk : (Cond.castable C y.cls).before a0 Z = true) (w5 : (Cond.code z bytes maxL ret).before a0 Z = true) (w6 : (Cond.initialized z.cls).before a0 Z = true)
    (hy : y.cls ≠ "java/lang/invoke/MethodHandle" ∧ y.cls ≠ "java/lang/invoke/VarHandle") {a : Addr} (E : Exa Z h a C) (hM : own_Ctr l Z z bytes maxL ret [] rm rm.cells rm.slots (.ref a :: argsL).toArray h Q') (W : Nat)
    (hf : rm.frames + 1 ≤ R.frames) (hl : W + (maxL + 11) + rm.locals ≤ R.locals) (hc : cells + rm.cells ≤ R.cells) (hs : slots + rm.slots ≤ R.slots) (eT : T.heap = h)
    (hg : g.method = m) (hsize : g.locals.size = c.maxLocals) (hlen : ∀ sig, parseMethodDescriptor y.desc = some sig → argsL.length = sig.parameters.length) (hstack : g.stack = argsL.reverse ++ .ref a :: rest)
    (hW : 2 * g.monitorRoom + (rest.map fun v => v.category).sum ≤ W) (hd : decode c.code g.pc = .ok (.invokeinterface index count, 5))
    (k : ∀ v T' L, Stand p l e R s m args below meth c T' (locs ++ L) (cells + rm.cells) (slots + rm.slots) → Q' v T'.heap L → own_Goes p e below s kc ks Q T' { g with pc := g.pc + 5, stack := v.toList ++ rest }) : own_Goes p e below s kc ks Q T g := by
  obtain ⟨cq, kq, qa, qb, qc⟩ := isOf hZ eT E
  have hface : ((Cond.interfaceMethod y.cls y.cls y.name y.desc).onTables && (Cond.interfaceMethod y.cls y.cls y.name y.desc).keepsFace) = true := by simp [Cond.onTables, Cond.keepsFace, Cond.keeps, Cond.steady, Cond.faceAtom, hy.1, hy.2]
  obtain ⟨v, _, ⟨T', L', k', n'⟩, -, X', ⟨Lc, hQ, l1, y1, z1⟩, st⟩ := X.interfaceBack hx hown (mvT hZ w1) (mvT hZ w2) (mvT hZ w2f hface) (mvT hZ w3) (mvT hZ w4) (mvT hZ wp) (mvT hZ wu) (mvT hZ wk) hy (backOf (W := W) hM hZ w5 w6 hf hl) qa qb qc hg hsize (Steps.refl _) hlen hstack hW hd (fun _ _ => ⟨rfl, eT, hc, hs⟩)
  dsimp only [Pt.U, Pt.locs, Pt.cells, Pt.slots] at X' l1 y1 z1 st hQ
  subst l1 y1 z1
  exact own_by (fun t kt => st.trans kt) (k v T' Lc X' hQ)
end OwnCalls
end OwnPrelude
/-! own wide prelude: bodies that may load a String constant cold (the intern table may grow): 's0' is the true start, 's' the start with the tables at hand -/
section OwnWide
variable {p : Program} {l : Launch} {e : Env} {R : Room} {s s0 : State} {m : MethodId} {args : Array Value} {below : List Frame} {meth : Method} {c : Code} {T T' : State} {locs : List Loc} {cells slots : Nat} {Z : State} {a0 : Array Value} {h hb : Heap} {kc ks n : Nat} {QW : Option Value → Vm → Heap → List Loc → Prop} {g g' : JFrame} {J : Vm → Prop}
def ownW_Goes (p : Program) (e : Env) (below : List Frame) (s : State) (kc ks : Nat) (Q : Option Value → Vm → Heap → List Loc → Prop) (T : State) (g : JFrame) : Prop :=
  ∃ t o, Steps p.tables e below (T.setTop g) t ∧ t.status = .running ∧ Ended t below o ∧ ∃ v L, o = .returned v ∧ Q v t.vm t.heap L ∧ ReturnedEndW s o t L kc ks
abbrev ownW_Ctr (l : Launch) (Z : State) (y : MethodName) (bytes : ByteArray) (maxL : Nat) (ret : Option FieldType) (ws : List Jvm.Cond) (rm : Room) (kc ks : Nat) (as' : Array Value) (h : Heap) (J : Vm → Prop) (Q : Option Value → Vm → Heap → List Loc → Prop) : Prop :=
  MetFree l y (head1 (Jvm.Cond.code y bytes maxL ret :: ws) rm) (fun a U => a = as' ∧ Z.Warmed39 U.vm ∧ U.heap = h ∧ J U.vm) (fun _ _ _ _ _ => True) (fun _ U o U' => ∃ v L, o = .returned v ∧ Q v U'.vm U'.heap L ∧ ReturnedEndW U o U' L kc ks)
theorem ownW_by (st : ∀ t, Steps p.tables e below (T'.setTop g') t → Steps p.tables e below (T.setTop g) t) (k : ownW_Goes p e below s0 kc ks QW T' g') : ownW_Goes p e below s0 kc ks QW T g := by
  obtain ⟨t, o, h1, r⟩ := k; exact ⟨t, o, st t h1, r⟩
theorem ownW_cast (q : g = g') (k : ownW_Goes p e below s0 kc ks QW T g') : ownW_Goes p e below s0 kc ks QW T g := q ▸ k
theorem ownW_enter {y : MethodName} {bytes : ByteArray} {maxL : Nat} {ret : Option FieldType} {ws : List Jvm.Cond} {rm : Room} {as' : Array Value} (hpl : plainFor y = true)
    (k : ∀ p e s0 s m below meth c s₁, s = s0.setVm s.vm → s.heap = h → s0.Since s.vm 0 → Stand p l e rm s m as' below meth c s₁ [] 0 0 → p.tables.exec = Jvm.exec → Z.Warmed39 s.vm → c.code = bytes → c.maxLocals = maxL → s.vm.findClass y.cls = some m.cls → meth.name = y.name → meth.locks = false → meth.sig.returnType = ret → s₁.heap = h → J s.vm → ownW_Goes p e below s0 kc ks QW s₁ (entryFrame m as' maxL)) :
    ownW_Ctr l Z y bytes maxL ret ws rm kc ks as' h J QW := by
  refine MetFree.of_bodySF hpl hisR ?_
  intro p e s m args below meth c s₁ Bd hml0 hP hK
  obtain ⟨rfl, hZ, hh, hJ⟩ := hP
  exact k p e s s m below meth c s₁ rfl hh ((State.WarmedH.refl s).since 0) (Stand.of_body Bd) Bd.exec hZ Bd.bytes hml0 (findClass_of_methodNamed Bd.named) (name_of_methodNamed Bd.named Bd.method).1 Bd.notSynchronized Bd.returns (by rw [← hh, Bd.state]; rfl) hJ
theorem ownW_rebase (hsv : s = s0.setVm s.vm) (X : Stand p l e R s m args below meth c T locs cells slots) : Stand p l e R (s0.setVm s.vm) m args below meth c T locs cells slots :=
  Eq.mp (congrArg (fun z => Stand p l e R z m args below meth c T locs cells slots) hsv) X
theorem ownW_since {u : Vm} {n2 : Nat} (hsv : s = s0.setVm s.vm) (hS : s0.Since s.vm n) (h2 : s.Since u n2) (hn : n ≤ n2) : s0.Since u n2 :=
  hS.trans (Eq.mp (congrArg (fun z : State => z.Since u n2) hsv) h2) hn
theorem ownW_set (hsv : s = s0.setVm s.vm) (u : Vm) : s.setVm u = s0.setVm (s.setVm u).vm := by
  have q : s.setVm u = (s0.setVm s.vm).setVm u := congrArg (fun z : State => z.setVm u) hsv
  exact q
theorem ownW_out (X : Stand p l e R s m args below meth c T locs cells slots) (hsv : s = s0.setVm s.vm) (hS : s0.Since s.vm n) (hn : n ≤ T.heap.size) (hlk : meth.locks = false) {v : Option Value} (hv : meth.sig.returnType = none → v = none)
    (st : ∀ fs, (∀ (f : JFrame) (acts : List Action), f.method = m → f.locked = none → f.entered = [] → (doReturn e (T.setTop f) acts v).1 = T.setFrames fs) → Steps p.tables e below (T.setTop g) (T.setFrames fs))
    (hc : cells ≤ kc) (hs : slots ≤ ks) (hQ : ∀ u, s.WarmedH u → QW v u T.heap locs) : ownW_Goes p e below s0 kc ks QW T g := by
  obtain ⟨fs, hr, hrun, hended, -, hW, hB, hsame⟩ := (ownW_rebase hsv X).leaveW hS hn (v := v) hv hlk
  exact ⟨_, _, st fs hr, hrun, hended, v, locs, rfl, hQ _ X.warmed, ⟨_, rfl⟩, hW, hB, hsame.mono hc hs⟩
theorem ownW_ret {w : Value} {t : FieldType} {i : Instr} {pc : Nat} {Ls : Array Slot} {rest : List Value} (X : Stand p l e R s m args below meth c T locs cells slots) (hsv : s = s0.setVm s.vm) (hS : s0.Since s.vm n) (hnS : n ≤ T.heap.size) (hx : p.tables.exec = Jvm.exec) (hlk : meth.locks = false) (hret : meth.sig.returnType = some t) (hn : narrow t w = w)
    (hi : (i = .ireturn ∧ (t = .int ∨ t = .boolean ∨ t = .byte ∨ t = .char ∨ t = .short) ∧ ∃ z, w = .int z) ∨ (i = .lreturn ∧ t = .long ∧ ∃ z, w = .long z) ∨ (i = .dreturn ∧ t = .double ∧ ∃ z, w = .double z) ∨ (i = .freturn ∧ t = .float ∧ ∃ z, w = .float z) ∨ (i = .areturn ∧ t.isReference = true ∧ w.isRef = true))
    (hd : decode c.code pc = .ok (i, 1)) (hc : cells ≤ kc) (hs : slots ≤ ks) (hQ : ∀ u, s.WarmedH u → QW (some w) u T.heap locs) : ownW_Goes p e below s0 kc ks QW T (mkF m pc Ls (w :: rest)) :=
  ownW_out X hsv hS hnS hlk (fun h => by rw [hret] at h; cases h) (fun fs hr => retOut X hx hret hn hi hd hr) hc hs hQ
theorem ownW_retI {z : Int32} {pc : Nat} {Ls : Array Slot} {rest : List Value} (X : Stand p l e R s m args below meth c T locs cells slots) (hsv : s = s0.setVm s.vm) (hS : s0.Since s.vm n) (hnS : n ≤ T.heap.size) (hx : p.tables.exec = Jvm.exec) (hlk : meth.locks = false) (hret : meth.sig.returnType = some .int)
    (hd : decode c.code pc = .ok (.ireturn, 1)) (hc : cells ≤ kc) (hs : slots ≤ ks) (hQ : ∀ u, s.WarmedH u → QW (some (.int z)) u T.heap locs) : ownW_Goes p e below s0 kc ks QW T (mkF m pc Ls (.int z :: rest)) :=
  ownW_ret X hsv hS hnS hx hlk hret rfl (Or.inl ⟨rfl, Or.inl rfl, z, rfl⟩) hd hc hs hQ
theorem ownW_retJ {z : Int64} {pc : Nat} {Ls : Array Slot} {rest : List Value} (X : Stand p l e R s m args below meth c T locs cells slots) (hsv : s = s0.setVm s.vm) (hS : s0.Since s.vm n) (hnS : n ≤ T.heap.size) (hx : p.tables.exec = Jvm.exec) (hlk : meth.locks = false) (hret : meth.sig.returnType = some .long)
    (hd : decode c.code pc = .ok (.lreturn, 1)) (hc : cells ≤ kc) (hs : slots ≤ ks) (hQ : ∀ u, s.WarmedH u → QW (some (.long z)) u T.heap locs) : ownW_Goes p e below s0 kc ks QW T (mkF m pc Ls (.long z :: rest)) :=
  ownW_ret X hsv hS hnS hx hlk hret rfl (Or.inr (Or.inl ⟨rfl, rfl, z, rfl⟩)) hd hc hs hQ
theorem ownW_retD {z : UInt64} {pc : Nat} {Ls : Array Slot} {rest : List Value} (X : Stand p l e R s m args below meth c T locs cells slots) (hsv : s = s0.setVm s.vm) (hS : s0.Since s.vm n) (hnS : n ≤ T.heap.size) (hx : p.tables.exec = Jvm.exec) (hlk : meth.locks = false) (hret : meth.sig.returnType = some .double)
    (hd : decode c.code pc = .ok (.dreturn, 1)) (hc : cells ≤ kc) (hs : slots ≤ ks) (hQ : ∀ u, s.WarmedH u → QW (some (.double z)) u T.heap locs) : ownW_Goes p e below s0 kc ks QW T (mkF m pc Ls (.double z :: rest)) :=
  ownW_ret X hsv hS hnS hx hlk hret rfl (Or.inr (Or.inr (Or.inl ⟨rfl, rfl, z, rfl⟩))) hd hc hs hQ
theorem ownW_retA {w : Value} {t : FieldType} {pc : Nat} {Ls : Array Slot} {rest : List Value} (X : Stand p l e R s m args below meth c T locs cells slots) (hsv : s = s0.setVm s.vm) (hS : s0.Since s.vm n) (hnS : n ≤ T.heap.size) (hx : p.tables.exec = Jvm.exec) (hlk : meth.locks = false) (hret : meth.sig.returnType = some t) (ht : t.isReference = true) (hw : w.isRef = true)
    (hd : decode c.code pc = .ok (.areturn, 1)) (hc : cells ≤ kc) (hs : slots ≤ ks) (hQ : ∀ u, s.WarmedH u → QW (some w) u T.heap locs) : ownW_Goes p e below s0 kc ks QW T (mkF m pc Ls (w :: rest)) :=
  ownW_ret X hsv hS hnS hx hlk hret (own_narR ht) (Or.inr (Or.inr (Or.inr (Or.inr ⟨rfl, ht, hw⟩)))) hd hc hs hQ
theorem ownW_retN {z : Int32} {t : FieldType} {pc : Nat} {Ls : Array Slot} {rest : List Value} (X : Stand p l e R s m args below meth c T locs cells slots) (hsv : s = s0.setVm s.vm) (hS : s0.Since s.vm n) (hnS : n ≤ T.heap.size) (hx : p.tables.exec = Jvm.exec) (hlk : meth.locks = false) (hret : meth.sig.returnType = some t) (ht : t = .boolean ∨ t = .byte ∨ t = .char ∨ t = .short)
    (hd : decode c.code pc = .ok (.ireturn, 1)) (hc : cells ≤ kc) (hs : slots ≤ ks) (hQ : ∀ u, s.WarmedH u → QW (some (.int (nar t z))) u T.heap locs) : ownW_Goes p e below s0 kc ks QW T (mkF m pc Ls (.int z :: rest)) :=
  ownW_out X hsv hS hnS hlk (fun h => by rw [hret] at h; cases h) (fun fs hr => retN X hx hret ht hd hr) hc hs hQ
theorem ownW_retV {pc : Nat} {Ls : Array Slot} (X : Stand p l e R s m args below meth c T locs cells slots) (hsv : s = s0.setVm s.vm) (hS : s0.Since s.vm n) (hnS : n ≤ T.heap.size) (hx : p.tables.exec = Jvm.exec) (hlk : meth.locks = false) (hret : meth.sig.returnType = none)
    (hd : decode c.code pc = .ok (.return_, 1)) (hc : cells ≤ kc) (hs : slots ≤ ks) (hQ : ∀ u, s.WarmedH u → QW none u T.heap locs) : ownW_Goes p e below s0 kc ks QW T (mkF m pc Ls []) :=
  ownW_out X hsv hS hnS hlk (fun _ => rfl) (fun fs hr => X.returnOut hx hret hd hr) hc hs hQ
theorem own_litW {u : Vm} {own : String} {i : Nat} {a : Addr} (L : Lit (Z.setVm s.vm) own i a) (hu : s.WarmedH u) : Lit (Z.setVm u) own i a :=
  State.resolvedAt?_warmed39 (s := s) hu.wide L
theorem own_ibW {u : Vm} {Ts : List String} (I : IB Z s.vm Ts) (hu : s.WarmedH u) : IB Z u Ts := by
  obtain ⟨more, h1, h2⟩ := I; exact ⟨more, hu.interned_eq.trans h1, h2⟩
section OwnWideCalls
variable {own : String} {index : Nat} {y z : MethodName} {bytes : ByteArray} {maxL : Nat} {ret : Option FieldType} {rm : Room} {Q' : Option Value → Heap → List Loc → Prop} {QV : Option Value → Vm → Heap → List Loc → Prop} {argsL rest : List Value}
theorem ownW_callS (X : Stand p l e R s m args below meth c T locs cells slots) (hx : p.tables.exec = Jvm.exec) (hZ : Z.Warmed39 s.vm) (hown : s.vm.findClass own = some m.cls)
    (w1 : (Cond.methodLink own index y).before a0 Z = true) (w2 : (Cond.static y).before a0 Z = true) (w3 : (Cond.initialized y.cls).before a0 Z = true) (w4 : (Cond.code y bytes maxL ret).before a0 Z = true)
    (hy : y.cls ≠ "java/lang/invoke/MethodHandle" ∧ y.cls ≠ "java/lang/invoke/VarHandle") (hM : own_Ctr l Z y bytes maxL ret [] rm rm.cells rm.slots argsL.toArray h Q') (W : Nat)
    (hf : rm.frames + 1 ≤ R.frames) (hl : W + (maxL + 11) + rm.locals ≤ R.locals) (hc : cells + rm.cells ≤ R.cells) (hs : slots + rm.slots ≤ R.slots) (eT : T.heap = h)
    (hg : g.method = m) (hsize : g.locals.size = c.maxLocals) (hlen : ∀ sig, parseMethodDescriptor y.desc = some sig → argsL.length = sig.parameters.length) (hstack : g.stack = argsL.reverse ++ rest)
    (hW : 2 * g.monitorRoom + (rest.map fun v => v.category).sum ≤ W) (hd : decode c.code g.pc = .ok (.invokestatic index, 3))
    (k : ∀ v T' L, Stand p l e R s m args below meth c T' (locs ++ L) (cells + rm.cells) (slots + rm.slots) → Q' v T'.heap L → ownW_Goes p e below s0 kc ks QW T' { g with pc := g.pc + 3, stack := v.toList ++ rest }) : ownW_Goes p e below s0 kc ks QW T g := by
  obtain ⟨v, _, ⟨T', L', k', n'⟩, -, X', ⟨Lc, hQ, l1, y1, z1⟩, st⟩ := Jvm.LawKit.callS X hx hown (mvT hZ w1) (mvT hZ w2) (mvT hZ w3) (mvT hZ w4) hy (backOf (W := W) hM hZ w4 w3 hf hl) hg hsize hlen hstack hW hd (fun _ _ => ⟨rfl, eT, hc, hs⟩)
  dsimp only [Pt.U, Pt.locs, Pt.cells, Pt.slots] at X' l1 y1 z1 st hQ
  subst l1 y1 z1
  exact ownW_by st (k v T' Lc X' hQ)
theorem ownW_callI (X : Stand p l e R s m args below meth c T locs cells slots) (hx : p.tables.exec = Jvm.exec) (hZ : Z.Warmed39 s.vm) (hown : s.vm.findClass own = some m.cls) (hy1 : y.name = "<init>")
    (w1 : (Cond.methodLink own index y).before a0 Z = true) (w2 : (Cond.instanceMethod y).before a0 Z = true) (w3 : (Cond.initialized y.cls).before a0 Z = true) (w4 : (Cond.code y bytes maxL none).before a0 Z = true)
    (hy : y.cls ≠ "java/lang/invoke/MethodHandle" ∧ y.cls ≠ "java/lang/invoke/VarHandle") {a : Addr} (hM : own_Ctr l Z y bytes maxL none [] rm rm.cells rm.slots (.ref a :: argsL).toArray h Q') (W : Nat)
    (hf : rm.frames + 1 ≤ R.frames) (hl : W + (maxL + 11) + rm.locals ≤ R.locals) (hc : cells + rm.cells ≤ R.cells) (hs : slots + rm.slots ≤ R.slots) (eT : T.heap = h)
    (hg : g.method = m) (hsize : g.locals.size = c.maxLocals) (hlen : ∀ sig, parseMethodDescriptor y.desc = some sig → argsL.length = sig.parameters.length) (hstack : g.stack = argsL.reverse ++ .ref a :: rest)
    (hW : 2 * g.monitorRoom + (rest.map fun v => v.category).sum ≤ W) (hd : decode c.code g.pc = .ok (.invokespecial index, 3))
    (k : ∀ v T' L, Stand p l e R s m args below meth c T' (locs ++ L) (cells + rm.cells) (slots + rm.slots) → Q' v T'.heap L → ownW_Goes p e below s0 kc ks QW T' { g with pc := g.pc + 3, stack := v.toList ++ rest }) : ownW_Goes p e below s0 kc ks QW T g := by
  obtain ⟨v, _, ⟨T', L', k', n'⟩, -, X', ⟨Lc, hQ, l1, y1, z1⟩, st⟩ := X.specialBack hx hy1 hown (mvT hZ w1) (mvT hZ w2) (mvT hZ w4) hy (backOf (W := W) hM hZ w4 w3 hf hl) hg hsize (Steps.refl _) hlen hstack hW hd (fun _ _ => ⟨rfl, eT, hc, hs⟩)
  dsimp only [Pt.U, Pt.locs, Pt.cells, Pt.slots] at X' l1 y1 z1 st hQ
  subst l1 y1 z1
  exact ownW_by (fun t kt => st.trans kt) (k v T' Lc X' hQ)
theorem ownW_callIN {host : String} (X : Stand p l e R s m args below meth c T locs cells slots) (hx : p.tables.exec = Jvm.exec) (hZ : Z.Warmed39 s.vm) (hown : s.vm.findClass own = some m.cls) (hy1 : y.name = "<init>")
    (w1 : (Cond.methodLinkNest own index y host).before a0 Z = true) (w2 : (Cond.instanceMethod y).before a0 Z = true) (w3 : (Cond.initialized y.cls).before a0 Z = true) (w4 : (Cond.code y bytes maxL none).before a0 Z = true)
    (hy : y.cls ≠ "java/lang/invoke/MethodHandle" ∧ y.cls ≠ "java/lang/invoke/VarHandle") {a : Addr} (hM : own_Ctr l Z y bytes maxL none [] rm rm.cells rm.slots (.ref a :: argsL).toArray h Q') (W : Nat)
    (hf : rm.frames + 1 ≤ R.frames) (hl : W + (maxL + 11) + rm.locals ≤ R.locals) (hc : cells + rm.cells ≤ R.cells) (hs : slots + rm.slots ≤ R.slots) (eT : T.heap = h)
    (hg : g.method = m) (hsize : g.locals.size = c.maxLocals) (hlen : ∀ sig, parseMethodDescriptor y.desc = some sig → argsL.length = sig.parameters.length) (hstack : g.stack = argsL.reverse ++ .ref a :: rest)
    (hW : 2 * g.monitorRoom + (rest.map fun v => v.category).sum ≤ W) (hd : decode c.code g.pc = .ok (.invokespecial index, 3))
    (k : ∀ v T' L, Stand p l e R s m args below meth c T' (locs ++ L) (cells + rm.cells) (slots + rm.slots) → Q' v T'.heap L → ownW_Goes p e below s0 kc ks QW T' { g with pc := g.pc + 3, stack := v.toList ++ rest }) : ownW_Goes p e below s0 kc ks QW T g := by
  obtain ⟨v, _, ⟨T', L', k', n'⟩, -, X', ⟨Lc, hQ, l1, y1, z1⟩, st⟩ := X.specialBackNest hx hy1 hown (Cond.methodLinkNest_wide hZ w1 :) (mvT hZ w2) (mvT hZ w4) hy (backOf (W := W) hM hZ w4 w3 hf hl) hg hsize (Steps.refl _) hlen hstack hW hd (fun _ _ => ⟨rfl, eT, hc, hs⟩)
  dsimp only [Pt.U, Pt.locs, Pt.cells, Pt.slots] at X' l1 y1 z1 st hQ
  subst l1 y1 z1
  exact ownW_by (fun t kt => st.trans kt) (k v T' Lc X' hQ)
theorem ownW_callV {C : String} (X : Stand p l e R s m args below meth c T locs cells slots) (hx : p.tables.exec = Jvm.exec) (hZ : Z.Warmed39 s.vm) (hown : s.vm.findClass own = some m.cls)
    (w1 : (Cond.methodLink own index y).before a0 Z = true) (w2 : (Cond.declares y).before a0 Z = true) (hnf : NotFace s y) (w3 : (Cond.selects C y z).before a0 Z = true) (w4 : (Cond.instanceMethod z).before a0 Z = true) (w5 : (Cond.code z bytes maxL ret).before a0 Z = true) (w6 : (Cond.initialized z.cls).before a0 Z = true)
    (hy : y.cls ≠ "java/lang/invoke/MethodHandle" ∧ y.cls ≠ "java/lang/invoke/VarHandle") {a : Addr} (E : Exa Z h a C) (hM : own_Ctr l Z z bytes maxL ret [] rm rm.cells rm.slots (.ref a :: argsL).toArray h Q') (W : Nat)
    (hf : rm.frames + 1 ≤ R.frames) (hl : W + (maxL + 11) + rm.locals ≤ R.locals) (hc : cells + rm.cells ≤ R.cells) (hs : slots + rm.slots ≤ R.slots) (eT : T.heap = h)
    (hg : g.method = m) (hsize : g.locals.size = c.maxLocals) (hlen : ∀ sig, parseMethodDescriptor y.desc = some sig → argsL.length = sig.parameters.length) (hstack : g.stack = argsL.reverse ++ .ref a :: rest)
    (hW : 2 * g.monitorRoom + (rest.map fun v => v.category).sum ≤ W) (hd : decode c.code g.pc = .ok (.invokevirtual index, 3))
    (k : ∀ v T' L, Stand p l e R s m args below meth c T' (locs ++ L) (cells + rm.cells) (slots + rm.slots) → Q' v T'.heap L → ownW_Goes p e below s0 kc ks QW T' { g with pc := g.pc + 3, stack := v.toList ++ rest }) : ownW_Goes p e below s0 kc ks QW T g := by
  obtain ⟨cq, kq, qa, qb, qc⟩ := isOf hZ eT E
  obtain ⟨v, _, ⟨T', L', k', n'⟩, -, X', ⟨Lc, hQ, l1, y1, z1⟩, st⟩ := X.virtualBack hx hown (mvT hZ w1) (mvT hZ w2) hnf (mvT hZ w3) (mvT hZ w4) hy (backOf (W := W) hM hZ w5 w6 hf hl) qa qc hg hsize (Steps.refl _) hlen hstack hW hd (fun _ _ => ⟨rfl, eT, hc, hs⟩)
  dsimp only [Pt.U, Pt.locs, Pt.cells, Pt.slots] at X' l1 y1 z1 st hQ
  subst l1 y1 z1
  exact ownW_by (fun t kt => st.trans kt) (k v T' Lc X' hQ)
theorem ownW_callP (X : Stand p l e R s m args below meth c T locs cells slots) (hx : p.tables.exec = Jvm.exec) (hZ : Z.Warmed39 s.vm) (hown : s.vm.findClass own = some m.cls)
    (w1 : (Cond.methodLink own index y).before a0 Z = true) (w2 : (Cond.instanceMethod y).before a0 Z = true) (w3 : (Cond.selects y.cls y y).before a0 Z = true) (w4 : (Cond.privateMethod y).before a0 Z = true) (w5 : (Cond.code y bytes maxL ret).before a0 Z = true) (w6 : (Cond.initialized y.cls).before a0 Z = true)
    (hy : y.cls ≠ "java/lang/invoke/MethodHandle" ∧ y.cls ≠ "java/lang/invoke/VarHandle") {a : Addr} {C : String} (E : Exa Z h a C) (hM : own_Ctr l Z y bytes maxL ret [] rm rm.cells rm.slots (.ref a :: argsL).toArray h Q') (W : Nat)
    (hf : rm.frames + 1 ≤ R.frames) (hl : W + (maxL + 11) + rm.locals ≤ R.locals) (hc : cells + rm.cells ≤ R.cells) (hs : slots + rm.slots ≤ R.slots) (eT : T.heap = h)
    (hg : g.method = m) (hsize : g.locals.size = c.maxLocals) (hlen : ∀ sig, parseMethodDescriptor y.desc = some sig → argsL.length = sig.parameters.length) (hstack : g.stack = argsL.reverse ++ .ref a :: rest)
    (hW : 2 * g.monitorRoom + (rest.map fun v => v.category).sum ≤ W) (hd : decode c.code g.pc = .ok (.invokevirtual index, 3))
    (k : ∀ v T' L, Stand p l e R s m args below meth c T' (locs ++ L) (cells + rm.cells) (slots + rm.slots) → Q' v T'.heap L → ownW_Goes p e below s0 kc ks QW T' { g with pc := g.pc + 3, stack := v.toList ++ rest }) : ownW_Goes p e below s0 kc ks QW T g := by
  obtain ⟨cq, q1, q2⟩ := E.cell
  obtain ⟨v, _, ⟨T', L', k', n'⟩, -, X', ⟨Lc, hQ, l1, y1, z1⟩, st⟩ := X.privateBack hx hown (mvT hZ w1) (mvT hZ w2) (mvT hZ w3) (Cond.privateMethod_at (mvP hZ w4 (args := #[]))) (mvT hZ w5) hy (backOf (W := W) hM hZ w5 w6 hf hl) hg hsize (Steps.refl _) (a := a) (by rw [eT]; exact q1) q2 hlen hstack hW hd (fun _ _ => ⟨rfl, eT, hc, hs⟩)
  dsimp only [Pt.U, Pt.locs, Pt.cells, Pt.slots] at X' l1 y1 z1 st hQ
  subst l1 y1 z1
  exact ownW_by (fun t kt => st.trans kt) (k v T' Lc X' hQ)
theorem ownW_callF {C : String} {count : Nat} (X : Stand p l e R s m args below meth c T locs cells slots) (hx : p.tables.exec = Jvm.exec) (hZ : Z.Warmed39 s.vm) (hown : s.vm.findClass own = some m.cls)
    (w1 : (Cond.methodLink own index y).before a0 Z = true) (w2 : (Cond.declares y).before a0 Z = true) (w2f : (Cond.interfaceMethod y.cls y.cls y.name y.desc).before a0 Z = true) (w3 : (Cond.selects C y z).before a0 Z = true) (w4 : (Cond.instanceMethod z).before a0 Z = true)
    (wp : (Cond.publicMethod z).before a0 Z = true) (wu : (Cond.unhidden C y.name y.desc).before a0 Z = true) (wk : (Cond.castable C y.cls).before a0 Z = true) (w5 : (Cond.code z bytes maxL ret).before a0 Z = true) (w6 : (Cond.initialized z.cls).before a0 Z = true)
    (hy : y.cls ≠ "java/lang/invoke/MethodHandle" ∧ y.cls ≠ "java/lang/invoke/VarHandle") {a : Addr} (E : Exa Z h a C) (hM : own_Ctr l Z z bytes maxL ret [] rm rm.cells rm.slots (.ref a :: argsL).toArray h Q') (W : Nat)
    (hf : rm.frames + 1 ≤ R.frames) (hl : W + (maxL + 11) + rm.locals ≤ R.locals) (hc : cells + rm.cells ≤ R.cells) (hs : slots + rm.slots ≤ R.slots) (eT : T.heap = h)
    (hg : g.method = m) (hsize : g.locals.size = c.maxLocals) (hlen : ∀ sig, parseMethodDescriptor y.desc = some sig → argsL.length = sig.parameters.length) (hstack : g.stack = argsL.reverse ++ .ref a :: rest)
    (hW : 2 * g.monitorRoom + (rest.map fun v => v.category).sum ≤ W) (hd : decode c.code g.pc = .ok (.invokeinterface index count, 5))
    (k : ∀ v T' L, Stand p l e R s m args below meth c T' (locs ++ L) (cells + rm.cells) (slots + rm.slots) → Q' v T'.heap L → ownW_Goes p e below s0 kc ks QW T' { g with pc := g.pc + 5, stack := v.toList ++ rest }) : ownW_Goes p e below s0 kc ks QW T g := by
  obtain ⟨cq, kq, qa, qb, qc⟩ := isOf hZ eT E
  have hface : ((Cond.interfaceMethod y.cls y.cls y.name y.desc).onTables && (Cond.interfaceMethod y.cls y.cls y.name y.desc).keepsFace) = true := by simp [Cond.onTables, Cond.keepsFace, Cond.keeps, Cond.steady, Cond.faceAtom, hy.1, hy.2]
  obtain ⟨v, _, ⟨T', L', k', n'⟩, -, X', ⟨Lc, hQ, l1, y1, z1⟩, st⟩ := X.interfaceBack hx hown (mvT hZ w1) (mvT hZ w2) (mvT hZ w2f hface) (mvT hZ w3) (mvT hZ w4) (mvT hZ wp) (mvT hZ wu) (mvT hZ wk) hy (backOf (W := W) hM hZ w5 w6 hf hl) qa qb qc hg hsize (Steps.refl _) hlen hstack hW hd (fun _ _ => ⟨rfl, eT, hc, hs⟩)
  dsimp only [Pt.U, Pt.locs, Pt.cells, Pt.slots] at X' l1 y1 z1 st hQ
  subst l1 y1 z1
  exact ownW_by (fun t kt => st.trans kt) (k v T' Lc X' hQ)
theorem ownW_backOf {len W : Nat} {as' : Array Value} (hM : ownW_Ctr l Z y bytes maxL ret [] rm rm.cells rm.slots as' h J QV)
    (hZ : Z.Warmed39 s.vm) (wc : (Cond.code y bytes maxL ret).before a0 Z = true) (wz : (Cond.initialized y.cls).before a0 Z = true) (hf : rm.frames + 1 ≤ R.frames) (hl : W + (maxL + 11) + rm.locals ≤ R.locals) :
    BackS l R p e below s args y len W (fun A a => a = as' ∧ A.U.heap = h ∧ A.cells + rm.cells ≤ R.cells ∧ A.slots + rm.slots ≤ R.slots ∧ J A.U.vm)
      (fun A _ v B => ∃ L, QV v B.U.vm B.U.heap L ∧ B.locs = A.locs ++ L ∧ B.cells = A.cells + rm.cells ∧ B.slots = A.slots + rm.slots) :=
  BackS.of_freeW (bytes := bytes) (maxL := maxL) (ret := ret) (E := fun _ _ o t L k n => k = rm.cells ∧ n = rm.slots ∧ ∃ v, o = .returned v ∧ QV v t.vm t.heap L) hM hf hl
    (fun m meth c A a Y hp => have hU : Z.Warmed39 A.U.vm := wtrans hZ Y.warmed
      ⟨by show (Cond.and _ .tt).before a A.U = true; rw [Cond.before_and, mv hU wc]; rfl, mv hU wc, mv hU wz, hp.2.2.1, hp.2.2.2.1⟩)
    (fun m meth c A a g mk Y hp => ⟨hp.1, wtrans hZ Y.warmed, hp.2.1, hp.2.2.2.2⟩) (fun _ _ _ _ _ _ _ _ _ => trivial)
    (fun _ _ _ _ ⟨v, L, h1, h2, h3⟩ => ⟨L, _, _, h3, rfl, rfl, v, h1, h2⟩)
    (fun m meth c A a g mk v t L k n Y hp _ _ ⟨e1, e2, v', e3, e4⟩ => by cases e3; subst e1 e2; exact ⟨L, e4, rfl, rfl, rfl⟩)
theorem ownW_callSW (X : Stand p l e R s m args below meth c T locs cells slots) (hx : p.tables.exec = Jvm.exec) (hZ : Z.Warmed39 s.vm) (hsv : s = s0.setVm s.vm) (hsh : s.heap = hb) (hS : s0.Since s.vm n) (hn : n ≤ h.size) (hown : s.vm.findClass own = some m.cls)
    (w1 : (Cond.methodLink own index y).before a0 Z = true) (w2 : (Cond.static y).before a0 Z = true) (w3 : (Cond.initialized y.cls).before a0 Z = true) (w4 : (Cond.code y bytes maxL ret).before a0 Z = true)
    (hy : y.cls ≠ "java/lang/invoke/MethodHandle" ∧ y.cls ≠ "java/lang/invoke/VarHandle") (hM : ownW_Ctr l Z y bytes maxL ret [] rm rm.cells rm.slots argsL.toArray h J QV) (hJ : ∀ u, s.WarmedH u → J u) (W : Nat)
    (hf : rm.frames + 1 ≤ R.frames) (hl : W + (maxL + 11) + rm.locals ≤ R.locals) (hc : cells + rm.cells ≤ R.cells) (hs : slots + rm.slots ≤ R.slots) (eT : T.heap = h)
    (hg : g.method = m) (hsize : g.locals.size = c.maxLocals) (hlen : ∀ sig, parseMethodDescriptor y.desc = some sig → argsL.length = sig.parameters.length) (hstack : g.stack = argsL.reverse ++ rest)
    (hW : 2 * g.monitorRoom + (rest.map fun v => v.category).sum ≤ W) (hd : decode c.code g.pc = .ok (.invokestatic index, 3))
    (k : ∀ s' v T' L, Stand p l e R s' m args below meth c T' (locs ++ L) (cells + rm.cells) (slots + rm.slots) → s' = s0.setVm s'.vm → s'.heap = hb → s0.Since s'.vm T'.heap.size → Z.Warmed39 s'.vm → s'.vm.findClass own = some m.cls → QV v s'.vm T'.heap L → ownW_Goes p e below s0 kc ks QW T' { g with pc := g.pc + 3, stack := v.toList ++ rest }) : ownW_Goes p e below s0 kc ks QW T g := by
  obtain ⟨v, _, ⟨T', L', k', n'⟩, -, X', hS2, hgr, ⟨Lc, hQ, l1, y1, z1⟩, st⟩ := callSS X hx hown (mvT hZ w1) (mvT hZ w2) (mvT hZ w3) (mvT hZ w4) hy (ownW_backOf (W := W) hM hZ w4 w3 hf hl) hg hsize hlen hstack hW hd (fun u hu => ⟨rfl, eT, hc, hs, hJ u hu⟩)
  dsimp only [Pt.U, Pt.locs, Pt.cells, Pt.slots] at X' l1 y1 z1 st hQ hS2 hgr
  subst l1 y1 z1
  rw [← eT] at hn
  exact ownW_by (fun t kt => st.trans kt) (k (s.setVm T'.vm) v T' Lc X' (ownW_set hsv _) hsh (ownW_since hsv hS hS2 (Nat.le_trans hn hgr)) (State.Warmed39.trans hZ hS2.1) ((hS2.1.alike.findClass _ _).trans hown) hQ)
theorem ownW_callIW (X : Stand p l e R s m args below meth c T locs cells slots) (hx : p.tables.exec = Jvm.exec) (hZ : Z.Warmed39 s.vm) (hsv : s = s0.setVm s.vm) (hsh : s.heap = hb) (hS : s0.Since s.vm n) (hn : n ≤ h.size) (hown : s.vm.findClass own = some m.cls) (hy1 : y.name = "<init>")
    (w1 : (Cond.methodLink own index y).before a0 Z = true) (w2 : (Cond.instanceMethod y).before a0 Z = true) (w3 : (Cond.initialized y.cls).before a0 Z = true) (w4 : (Cond.code y bytes maxL none).before a0 Z = true)
    (hy : y.cls ≠ "java/lang/invoke/MethodHandle" ∧ y.cls ≠ "java/lang/invoke/VarHandle") {a : Addr} (hM : ownW_Ctr l Z y bytes maxL none [] rm rm.cells rm.slots (.ref a :: argsL).toArray h J QV) (hJ : ∀ u, s.WarmedH u → J u) (W : Nat)
    (hf : rm.frames + 1 ≤ R.frames) (hl : W + (maxL + 11) + rm.locals ≤ R.locals) (hc : cells + rm.cells ≤ R.cells) (hs : slots + rm.slots ≤ R.slots) (eT : T.heap = h)
    (hg : g.method = m) (hsize : g.locals.size = c.maxLocals) (hlen : ∀ sig, parseMethodDescriptor y.desc = some sig → argsL.length = sig.parameters.length) (hstack : g.stack = argsL.reverse ++ .ref a :: rest)
    (hW : 2 * g.monitorRoom + (rest.map fun v => v.category).sum ≤ W) (hd : decode c.code g.pc = .ok (.invokespecial index, 3))
    (k : ∀ s' v T' L, Stand p l e R s' m args below meth c T' (locs ++ L) (cells + rm.cells) (slots + rm.slots) → s' = s0.setVm s'.vm → s'.heap = hb → s0.Since s'.vm T'.heap.size → Z.Warmed39 s'.vm → s'.vm.findClass own = some m.cls → QV v s'.vm T'.heap L → ownW_Goes p e below s0 kc ks QW T' { g with pc := g.pc + 3, stack := v.toList ++ rest }) : ownW_Goes p e below s0 kc ks QW T g := by
  obtain ⟨v, _, ⟨T', L', k', n'⟩, -, X', hS2, hgr, ⟨Lc, hQ, l1, y1, z1⟩, st⟩ := X.specialBackS hx hy1 hown (mvT hZ w1) (mvT hZ w2) (mvT hZ w4) hy (ownW_backOf (W := W) hM hZ w4 w3 hf hl) hg hsize (Steps.refl _) hlen hstack hW hd (fun u hu => ⟨rfl, eT, hc, hs, hJ u hu⟩)
  dsimp only [Pt.U, Pt.locs, Pt.cells, Pt.slots] at X' l1 y1 z1 st hQ hS2 hgr
  subst l1 y1 z1
  rw [← eT] at hn
  exact ownW_by (fun t kt => st.trans kt) (k (s.setVm T'.vm) v T' Lc X' (ownW_set hsv _) hsh (ownW_since hsv hS hS2 (Nat.le_trans hn hgr)) (State.Warmed39.trans hZ hS2.1) ((hS2.1.alike.findClass _ _).trans hown) hQ)
theorem ownW_callVW {C : String} (X : Stand p l e R s m args below meth c T locs cells slots) (hx : p.tables.exec = Jvm.exec) (hZ : Z.Warmed39 s.vm) (hsv : s = s0.setVm s.vm) (hsh : s.heap = hb) (hS : s0.Since s.vm n) (hn : n ≤ h.size) (hown : s.vm.findClass own = some m.cls)
    (w1 : (Cond.methodLink own index y).before a0 Z = true) (w2 : (Cond.declares y).before a0 Z = true) (hnf : NotFace s y) (w3 : (Cond.selects C y z).before a0 Z = true) (w4 : (Cond.instanceMethod z).before a0 Z = true) (w5 : (Cond.code z bytes maxL ret).before a0 Z = true) (w6 : (Cond.initialized z.cls).before a0 Z = true)
    (hy : y.cls ≠ "java/lang/invoke/MethodHandle" ∧ y.cls ≠ "java/lang/invoke/VarHandle") {a : Addr} (E : Exa Z h a C) (hM : ownW_Ctr l Z z bytes maxL ret [] rm rm.cells rm.slots (.ref a :: argsL).toArray h J QV) (hJ : ∀ u, s.WarmedH u → J u) (W : Nat)
    (hf : rm.frames + 1 ≤ R.frames) (hl : W + (maxL + 11) + rm.locals ≤ R.locals) (hc : cells + rm.cells ≤ R.cells) (hs : slots + rm.slots ≤ R.slots) (eT : T.heap = h)
    (hg : g.method = m) (hsize : g.locals.size = c.maxLocals) (hlen : ∀ sig, parseMethodDescriptor y.desc = some sig → argsL.length = sig.parameters.length) (hstack : g.stack = argsL.reverse ++ .ref a :: rest)
    (hW : 2 * g.monitorRoom + (rest.map fun v => v.category).sum ≤ W) (hd : decode c.code g.pc = .ok (.invokevirtual index, 3))
    (k : ∀ s' v T' L, Stand p l e R s' m args below meth c T' (locs ++ L) (cells + rm.cells) (slots + rm.slots) → s' = s0.setVm s'.vm → s'.heap = hb → s0.Since s'.vm T'.heap.size → Z.Warmed39 s'.vm → s'.vm.findClass own = some m.cls → QV v s'.vm T'.heap L → ownW_Goes p e below s0 kc ks QW T' { g with pc := g.pc + 3, stack := v.toList ++ rest }) : ownW_Goes p e below s0 kc ks QW T g := by
  obtain ⟨cq, kq, qa, qb, qc⟩ := isOf hZ eT E
  obtain ⟨v, _, ⟨T', L', k', n'⟩, -, X', hS2, hgr, ⟨Lc, hQ, l1, y1, z1⟩, st⟩ := X.virtualBackS hx hown (mvT hZ w1) (mvT hZ w2) hnf (mvT hZ w3) (mvT hZ w4) hy (ownW_backOf (W := W) hM hZ w5 w6 hf hl) qa qc hg hsize (Steps.refl _) hlen hstack hW hd (fun u hu => ⟨rfl, eT, hc, hs, hJ u hu⟩)
  dsimp only [Pt.U, Pt.locs, Pt.cells, Pt.slots] at X' l1 y1 z1 st hQ hS2 hgr
  subst l1 y1 z1
  rw [← eT] at hn
  exact ownW_by (fun t kt => st.trans kt) (k (s.setVm T'.vm) v T' Lc X' (ownW_set hsv _) hsh (ownW_since hsv hS hS2 (Nat.le_trans hn hgr)) (State.Warmed39.trans hZ hS2.1) ((hS2.1.alike.findClass _ _).trans hown) hQ)
/-- a String constant loaded, its text read: nothing has been interned since the case's start -/
theorem ownW_ldc {text : String} {Ts : List String} (X : Stand p l e R s m args below meth c T locs cells slots) (hx : p.tables.exec = Jvm.exec) (hZ : Z.Warmed39 s.vm) (hsv : s = s0.setVm s.vm) (hsh : s.heap = hb) (hS : s0.Since s.vm n) (hn : n ≤ h.size) (hown : s.vm.findClass own = some m.cls)
    (w : (Cond.stringLink own index text).before a0 Z = true) (wS : ∀ a ∈ Bundle.stringAtoms, a.before a0 Z = true) (eT : T.heap = h) {n0 : Nat} (O : Old Z n0 hb) (N : Fr hb.size locs) (I : IB Z s.vm Ts) (hnot : text ∉ Ts) (hh : Jvm.Lit.constHeld Z own index) (hcw : Jvm.Lit.compactW.before a0 Z = true)
    {vs : List Value} {zl : Int32} (ht : (∀ c ∈ text.toList, c.toNat < 256) ∧ text.toList.map (fun c => Value.int (Jvm.Lit.byteI c.toNat.toUInt16)) = vs) (hz : ¬ zl < 0) (hl : zl.toNatClampNeg = vs.length)
    (hg : g.method = m) (hd : decode c.code g.pc = .ok (.ldc index, 2)) {k0 : Nat} (hk0 : 4 * text.toList.length ≤ k0) (hbig : k0 ≤ 536870912) (hc : cells + 2 ≤ R.cells) (hl' : slots + (k0 + 4) ≤ R.slots)
    (k : ∀ s' T' h' a b kb, Stand p l e R s' m args below meth c T' locs (cells + 2) (slots + (k0 + 4)) → s' = s0.setVm s'.vm → s'.heap = hb → s0.Since s'.vm h'.size → Z.Warmed39 s'.vm → s'.vm.findClass own = some m.cls → T'.heap = h' → Ext h h' → Exa Z h' a "java/lang/String" → Fld Z h' a "java/lang/String" "coder" "B" (.int (0 : Int32)) → Fld Z h' a "java/lang/String" "value" "[B" (.ref b) → Arv Z h' b kb .byte zl vs (.int (0 : Int32)) → IB Z s'.vm (text :: Ts) → Lit (Z.setVm s'.vm) own index a → ownW_Goes p e below s0 kc ks QW T' { g with pc := g.pc + 2, stack := .ref a :: g.stack }) : ownW_Goes p e below s0 kc ks QW T g := by
  obtain ⟨a, T', h', k1, b, kb, X', e', E, hS', hk1, hZ', hown', Ex, Fc, Fv, Av, -, -, I', L, st⟩ := ldcSVL (s := s) (vm0 := s.vm) X hx hZ hown w wS eT ((State.WarmedH.refl s).since 0) (Nat.zero_le _) (by rw [hsh]; exact N) (by rw [hsh]; exact O.2.2) I hnot hh hcw ht hz hl hg hd hk0 hbig hc hl'
  refine ownW_by st (k (s.setVm T'.vm) T' h' a b kb X' (ownW_set hsv _) hsh (ownW_since hsv hS ⟨hS'.1, hS'.2.mono hk1⟩ (Nat.le_trans hn E.1)) hZ' hown' e' E Ex Fc Fv Av I' L)
/-- a second load of an entry that has been loaded -/
theorem own_again {text : String} (X : Stand p l e R s m args below meth c T locs cells slots) (hx : p.tables.exec = Jvm.exec) (hZ : Z.Warmed39 s.vm) (hown : s.vm.findClass own = some m.cls) (w : (Cond.stringLink own index text).before a0 Z = true) {a : Addr} (L : Lit (Z.setVm s.vm) own index a)
    (hg : g.method = m) (hd : decode c.code g.pc = .ok (.ldc index, 2)) : ∀ target, Steps p.tables e below (T.setTop { g with pc := g.pc + 2, stack := .ref a :: g.stack }) target → Steps p.tables e below (T.setTop g) target :=
  ldcAgain (s := s) (vm0 := s.vm) X hx hZ hown w L hg hd
/-- a String constant loaded, nobody reads her -/
theorem ownW_ldcP {text : String} (X : Stand p l e R s m args below meth c T locs cells slots) (hx : p.tables.exec = Jvm.exec) (hZ : Z.Warmed39 s.vm) (hsv : s = s0.setVm s.vm) (hsh : s.heap = hb) (hS : s0.Since s.vm n) (hn : n ≤ h.size) (hown : s.vm.findClass own = some m.cls)
    (w : (Cond.stringLink own index text).before a0 Z = true) (wS : ∀ a ∈ Bundle.stringAtoms, a.before a0 Z = true) (eT : T.heap = h)
    (hg : g.method = m) (hd : decode c.code g.pc = .ok (.ldc index, 2)) {k0 : Nat} (hk0 : 4 * text.toList.length ≤ k0) (hbig : k0 ≤ 536870912) (hc : cells + 2 ≤ R.cells) (hl' : slots + (k0 + 4) ≤ R.slots)
    (k : ∀ s' T' h' a, Stand p l e R s' m args below meth c T' locs (cells + 2) (slots + (k0 + 4)) → s' = s0.setVm s'.vm → s'.heap = hb → s0.Since s'.vm h'.size → Z.Warmed39 s'.vm → s'.vm.findClass own = some m.cls → T'.heap = h' → Ext h h' → ownW_Goes p e below s0 kc ks QW T' { g with pc := g.pc + 2, stack := .ref a :: g.stack }) : ownW_Goes p e below s0 kc ks QW T g := by
  obtain ⟨a, T', h', k1, X', e', E, hS', hk1, hZ', hown', st⟩ := ldcS (s := s) (vm0 := s.vm) X hx hZ hown w wS eT ((State.WarmedH.refl s).since 0) (Nat.zero_le _) hg hd hk0 hbig hc hl'
  exact ownW_by st (k (s.setVm T'.vm) T' h' a X' (ownW_set hsv _) hsh (ownW_since hsv hS ⟨hS'.1, hS'.2.mono hk1⟩ (Nat.le_trans hn E.1)) hZ' hown' e' E)
end OwnWideCalls
end OwnWide
def own_ch (x : Int32) : Prop := (x).toUInt32.toUInt16.toUInt32.toInt32 = x
def own_latc (b : Int32) : Int32 := ((b &&& (255 : Int32))).toUInt32.toUInt16.toUInt32.toInt32
def own_utfc (b0 b1 : Int32) : Int32 := ((((b0 &&& (255 : Int32)) <<< ((0 : Int32) &&& 31)) ||| ((b1 &&& (255 : Int32)) <<< ((8 : Int32) &&& 31)))).toUInt32.toUInt16.toUInt32.toInt32
def own_len (k k2 cd ln : Int32) : Prop := (cd = (0 : Int32) ∧ ln = k) ∨ (cd = (1 : Int32) ∧ ln = k2)
theorem own_c16b (z : Int32) : (z.toUInt32.toUInt16.toUInt32.toInt32).toBitVec = (z.toBitVec.setWidth 16).setWidth 32 := rfl
theorem own_b8b (z : Int32) : (z.toInt8.toInt32).toBitVec = (z.toBitVec.signExtend 8).signExtend 32 := by simp
theorem own_chi {x : Int32} (h : own_ch x) (i : Nat) (hi : 16 ≤ i) : x.toBitVec.getLsbD i = false := by
  have q := congrArg Int32.toBitVec h
  rw [own_c16b] at q
  rw [← q]; simp only [BitVec.getLsbD_setWidth]; simp; omega
theorem own_m255 (i : Nat) : (255#32 : BitVec 32).getLsbD i = decide (i < 8) := by
  by_cases h : i < 32
  · have : ∀ j : Fin 32, (255#32 : BitVec 32).getLsbD j = decide (j.val < 8) := by decide
    exact this ⟨i, h⟩
  · rw [BitVec.getLsbD_of_ge _ _ (by omega)]; simp; omega
theorem own_s8 (b : BitVec 32) (i : Nat) (hi : i < 8) : ((b.signExtend 8).signExtend 32).getLsbD i = b.getLsbD i := by
  simp only [BitVec.getLsbD_signExtend]; simp [hi, show i < 32 by omega]
theorem own_utf (x : Int32) (h : own_ch x) : own_utfc ((x >>> ((0 : Int32) &&& 31))).toInt8.toInt32 ((x >>> ((8 : Int32) &&& 31))).toInt8.toInt32 = x := by
  apply Int32.toBitVec_inj.mp
  have e0 : ((0 : Int32) &&& 31) = 0 := by decide
  have e8 : ((8 : Int32) &&& 31) = 8 := by decide
  unfold own_utfc
  rw [own_c16b, e0, e8]
  have z0 : ∀ z : Int32, z <<< (0 : Int32) = z := fun z => by simp
  have z1 : ∀ z : Int32, z >>> (0 : Int32) = z := fun z => by simp
  rw [z0, z1]
  have s8 : (x >>> (8 : Int32)).toBitVec = x.toBitVec.sshiftRight 8 := by simp
  have l8 : ∀ z : Int32, (z <<< (8 : Int32)).toBitVec = z.toBitVec <<< 8 := fun z => by simp
  apply BitVec.eq_of_getLsbD_eq
  intro i hi
  simp only [BitVec.getLsbD_setWidth, Int32.toBitVec_or, l8, Int32.toBitVec_and, own_b8b, s8, BitVec.getLsbD_or, BitVec.getLsbD_and, BitVec.getLsbD_shiftLeft]
  rw [show (255 : Int32).toBitVec = 255#32 from rfl, own_m255, own_m255]
  by_cases h8 : i < 8
  · rw [own_s8 _ i h8]; simp [h8, show i < 16 by omega, hi]
  · by_cases h16 : i < 16
    · rw [own_s8 _ (i - 8) (by omega), BitVec.getLsbD_sshiftRight, show 8 + (i - 8) = i by omega]
      simp [h8, h16, hi, show i - 8 < 8 by omega, show ¬ 32 ≤ i - 8 by omega]
    · simp [h8, h16, own_chi h i (by omega)]
theorem own_lat (x : Int32) (h : own_ch x) (hx : ¬ ((255 : Int32) < x)) : own_latc ((x).toInt8.toInt32) = x := by
  have hb : ∀ i, 8 ≤ i → x.toBitVec.getLsbD i = false := by
    have q : x.toInt ≤ 255 := by rw [Int32.lt_iff_toInt_lt] at hx; have : (255 : Int32).toInt = 255 := by decide
                                 omega
    have q0 : x.toBitVec.toNat < 65536 := by
      have q1 := congrArg Int32.toBitVec h
      rw [own_c16b] at q1
      rw [← q1]; simp; omega
    have q2 : x.toInt = x.toBitVec.toNat := by
      show x.toBitVec.toInt = _
      rw [BitVec.toInt_eq_toNat_of_lt]; omega
    intro i hi
    have : x.toBitVec.toNat < 2 ^ i := Nat.lt_of_lt_of_le (show x.toBitVec.toNat < 2 ^ 8 by omega) (Nat.pow_le_pow_right (by decide) hi)
    simp [BitVec.getLsbD, Nat.testBit_lt_two_pow this]
  apply Int32.toBitVec_inj.mp
  unfold own_latc
  rw [own_c16b]
  apply BitVec.eq_of_getLsbD_eq
  intro i hi
  simp only [BitVec.getLsbD_setWidth, Int32.toBitVec_and, own_b8b, BitVec.getLsbD_and]
  rw [show (255 : Int32).toBitVec = 255#32 from rfl, own_m255]
  by_cases h8 : i < 8
  · rw [own_s8 _ i h8]; simp [h8, show i < 16 by omega, hi]
  · simp [h8, hb i (by omega)]

def own_cA0 (x cd ln : Int32) (vs : List Value) : Prop := (cd = (0 : Int32) ∧ (0 : Int32) < ln ∧ ∃ b : Int32, vs.getD 0 (.int (0 : Int32)) = .int b ∧ own_latc b = x) ∨ (cd = (1 : Int32) ∧ (0 : Int32) < (ln >>> ((1 : Int32) &&& 31)) ∧ (0 : Int32) < ln ∧ (1 : Int32) < ln ∧ ∃ b0 b1 : Int32, vs.getD 0 (.int (0 : Int32)) = .int b0 ∧ vs.getD 1 (.int (0 : Int32)) = .int b1 ∧ own_utfc b0 b1 = x)
def own_cA1 (x cd ln : Int32) (vs : List Value) : Prop := (cd = (0 : Int32) ∧ (1 : Int32) < ln ∧ ∃ b : Int32, vs.getD 1 (.int (0 : Int32)) = .int b ∧ own_latc b = x) ∨ (cd = (1 : Int32) ∧ (1 : Int32) < (ln >>> ((1 : Int32) &&& 31)) ∧ (2 : Int32) < ln ∧ (3 : Int32) < ln ∧ ∃ b0 b1 : Int32, vs.getD 2 (.int (0 : Int32)) = .int b0 ∧ vs.getD 3 (.int (0 : Int32)) = .int b1 ∧ own_utfc b0 b1 = x)
def own_cA2 (x cd ln : Int32) (vs : List Value) : Prop := (cd = (0 : Int32) ∧ (2 : Int32) < ln ∧ ∃ b : Int32, vs.getD 2 (.int (0 : Int32)) = .int b ∧ own_latc b = x) ∨ (cd = (1 : Int32) ∧ (2 : Int32) < (ln >>> ((1 : Int32) &&& 31)) ∧ (4 : Int32) < ln ∧ (5 : Int32) < ln ∧ ∃ b0 b1 : Int32, vs.getD 4 (.int (0 : Int32)) = .int b0 ∧ vs.getD 5 (.int (0 : Int32)) = .int b1 ∧ own_utfc b0 b1 = x)
def own_cA3 (x cd ln : Int32) (vs : List Value) : Prop := (cd = (0 : Int32) ∧ (3 : Int32) < ln ∧ ∃ b : Int32, vs.getD 3 (.int (0 : Int32)) = .int b ∧ own_latc b = x) ∨ (cd = (1 : Int32) ∧ (3 : Int32) < (ln >>> ((1 : Int32) &&& 31)) ∧ (6 : Int32) < ln ∧ (7 : Int32) < ln ∧ ∃ b0 b1 : Int32, vs.getD 6 (.int (0 : Int32)) = .int b0 ∧ vs.getD 7 (.int (0 : Int32)) = .int b1 ∧ own_utfc b0 b1 = x)
def own_s1 (x0 cd ln : Int32) (vs : List Value) : Prop := (cd = (0 : Int32) ∧ ln = (1 : Int32) ∧ vs = [(.int (x0).toInt8.toInt32)] ∧ ¬ ((255 : Int32) < x0)) ∨ (cd = (1 : Int32) ∧ ln = (2 : Int32) ∧ vs = [(.int ((x0 >>> ((0 : Int32) &&& 31))).toInt8.toInt32), (.int ((x0 >>> ((8 : Int32) &&& 31))).toInt8.toInt32)])
theorem own_sl1 {x0 cd ln : Int32} {vs : List Value} (q : own_s1 x0 cd ln vs) : own_len (1 : Int32) (2 : Int32) cd ln := by
  rcases q with ⟨r1, r2, -⟩ | ⟨r1, r2, -⟩
  · exact Or.inl ⟨r1, r2⟩
  · exact Or.inr ⟨r1, r2⟩
theorem own_sc1_0 {x0 cd ln : Int32} {vs : List Value} (hk : own_ch x0) (q : own_s1 x0 cd ln vs) : own_cA0 x0 cd ln vs := by
  rcases q with ⟨rfl, rfl, rfl, q0⟩ | ⟨rfl, rfl, rfl⟩
  · exact Or.inl ⟨rfl, by decide, _, rfl, own_lat x0 hk q0⟩
  · exact Or.inr ⟨rfl, by decide, by decide, by decide, _, _, rfl, rfl, own_utf x0 hk⟩
def own_s2 (x0 x1 cd ln : Int32) (vs : List Value) : Prop := (cd = (0 : Int32) ∧ ln = (2 : Int32) ∧ vs = [(.int (x0).toInt8.toInt32), (.int (x1).toInt8.toInt32)] ∧ ¬ ((255 : Int32) < x0) ∧ ¬ ((255 : Int32) < x1)) ∨ (cd = (1 : Int32) ∧ ln = (4 : Int32) ∧ vs = [(.int ((x0 >>> ((0 : Int32) &&& 31))).toInt8.toInt32), (.int ((x0 >>> ((8 : Int32) &&& 31))).toInt8.toInt32), (.int ((x1 >>> ((0 : Int32) &&& 31))).toInt8.toInt32), (.int ((x1 >>> ((8 : Int32) &&& 31))).toInt8.toInt32)])
theorem own_sl2 {x0 x1 cd ln : Int32} {vs : List Value} (q : own_s2 x0 x1 cd ln vs) : own_len (2 : Int32) (4 : Int32) cd ln := by
  rcases q with ⟨r1, r2, -⟩ | ⟨r1, r2, -⟩
  · exact Or.inl ⟨r1, r2⟩
  · exact Or.inr ⟨r1, r2⟩
theorem own_sc2_0 {x0 x1 cd ln : Int32} {vs : List Value} (hk : own_ch x0) (q : own_s2 x0 x1 cd ln vs) : own_cA0 x0 cd ln vs := by
  rcases q with ⟨rfl, rfl, rfl, q0, q1⟩ | ⟨rfl, rfl, rfl⟩
  · exact Or.inl ⟨rfl, by decide, _, rfl, own_lat x0 hk q0⟩
  · exact Or.inr ⟨rfl, by decide, by decide, by decide, _, _, rfl, rfl, own_utf x0 hk⟩
theorem own_sc2_1 {x0 x1 cd ln : Int32} {vs : List Value} (hk : own_ch x1) (q : own_s2 x0 x1 cd ln vs) : own_cA1 x1 cd ln vs := by
  rcases q with ⟨rfl, rfl, rfl, q0, q1⟩ | ⟨rfl, rfl, rfl⟩
  · exact Or.inl ⟨rfl, by decide, _, rfl, own_lat x1 hk q1⟩
  · exact Or.inr ⟨rfl, by decide, by decide, by decide, _, _, rfl, rfl, own_utf x1 hk⟩
def own_s3 (x0 x1 x2 cd ln : Int32) (vs : List Value) : Prop := (cd = (0 : Int32) ∧ ln = (3 : Int32) ∧ vs = [(.int (x0).toInt8.toInt32), (.int (x1).toInt8.toInt32), (.int (x2).toInt8.toInt32)] ∧ ¬ ((255 : Int32) < x0) ∧ ¬ ((255 : Int32) < x1) ∧ ¬ ((255 : Int32) < x2)) ∨ (cd = (1 : Int32) ∧ ln = (6 : Int32) ∧ vs = [(.int ((x0 >>> ((0 : Int32) &&& 31))).toInt8.toInt32), (.int ((x0 >>> ((8 : Int32) &&& 31))).toInt8.toInt32), (.int ((x1 >>> ((0 : Int32) &&& 31))).toInt8.toInt32), (.int ((x1 >>> ((8 : Int32) &&& 31))).toInt8.toInt32), (.int ((x2 >>> ((0 : Int32) &&& 31))).toInt8.toInt32), (.int ((x2 >>> ((8 : Int32) &&& 31))).toInt8.toInt32)])
theorem own_sl3 {x0 x1 x2 cd ln : Int32} {vs : List Value} (q : own_s3 x0 x1 x2 cd ln vs) : own_len (3 : Int32) (6 : Int32) cd ln := by
  rcases q with ⟨r1, r2, -⟩ | ⟨r1, r2, -⟩
  · exact Or.inl ⟨r1, r2⟩
  · exact Or.inr ⟨r1, r2⟩
theorem own_sc3_0 {x0 x1 x2 cd ln : Int32} {vs : List Value} (hk : own_ch x0) (q : own_s3 x0 x1 x2 cd ln vs) : own_cA0 x0 cd ln vs := by
  rcases q with ⟨rfl, rfl, rfl, q0, q1, q2⟩ | ⟨rfl, rfl, rfl⟩
  · exact Or.inl ⟨rfl, by decide, _, rfl, own_lat x0 hk q0⟩
  · exact Or.inr ⟨rfl, by decide, by decide, by decide, _, _, rfl, rfl, own_utf x0 hk⟩
theorem own_sc3_1 {x0 x1 x2 cd ln : Int32} {vs : List Value} (hk : own_ch x1) (q : own_s3 x0 x1 x2 cd ln vs) : own_cA1 x1 cd ln vs := by
  rcases q with ⟨rfl, rfl, rfl, q0, q1, q2⟩ | ⟨rfl, rfl, rfl⟩
  · exact Or.inl ⟨rfl, by decide, _, rfl, own_lat x1 hk q1⟩
  · exact Or.inr ⟨rfl, by decide, by decide, by decide, _, _, rfl, rfl, own_utf x1 hk⟩
theorem own_sc3_2 {x0 x1 x2 cd ln : Int32} {vs : List Value} (hk : own_ch x2) (q : own_s3 x0 x1 x2 cd ln vs) : own_cA2 x2 cd ln vs := by
  rcases q with ⟨rfl, rfl, rfl, q0, q1, q2⟩ | ⟨rfl, rfl, rfl⟩
  · exact Or.inl ⟨rfl, by decide, _, rfl, own_lat x2 hk q2⟩
  · exact Or.inr ⟨rfl, by decide, by decide, by decide, _, _, rfl, rfl, own_utf x2 hk⟩
def own_s4 (x0 x1 x2 x3 cd ln : Int32) (vs : List Value) : Prop := (cd = (0 : Int32) ∧ ln = (4 : Int32) ∧ vs = [(.int (x0).toInt8.toInt32), (.int (x1).toInt8.toInt32), (.int (x2).toInt8.toInt32), (.int (x3).toInt8.toInt32)] ∧ ¬ ((255 : Int32) < x0) ∧ ¬ ((255 : Int32) < x1) ∧ ¬ ((255 : Int32) < x2) ∧ ¬ ((255 : Int32) < x3)) ∨ (cd = (1 : Int32) ∧ ln = (8 : Int32) ∧ vs = [(.int ((x0 >>> ((0 : Int32) &&& 31))).toInt8.toInt32), (.int ((x0 >>> ((8 : Int32) &&& 31))).toInt8.toInt32), (.int ((x1 >>> ((0 : Int32) &&& 31))).toInt8.toInt32), (.int ((x1 >>> ((8 : Int32) &&& 31))).toInt8.toInt32), (.int ((x2 >>> ((0 : Int32) &&& 31))).toInt8.toInt32), (.int ((x2 >>> ((8 : Int32) &&& 31))).toInt8.toInt32), (.int ((x3 >>> ((0 : Int32) &&& 31))).toInt8.toInt32), (.int ((x3 >>> ((8 : Int32) &&& 31))).toInt8.toInt32)])
theorem own_sl4 {x0 x1 x2 x3 cd ln : Int32} {vs : List Value} (q : own_s4 x0 x1 x2 x3 cd ln vs) : own_len (4 : Int32) (8 : Int32) cd ln := by
  rcases q with ⟨r1, r2, -⟩ | ⟨r1, r2, -⟩
  · exact Or.inl ⟨r1, r2⟩
  · exact Or.inr ⟨r1, r2⟩
theorem own_sc4_0 {x0 x1 x2 x3 cd ln : Int32} {vs : List Value} (hk : own_ch x0) (q : own_s4 x0 x1 x2 x3 cd ln vs) : own_cA0 x0 cd ln vs := by
  rcases q with ⟨rfl, rfl, rfl, q0, q1, q2, q3⟩ | ⟨rfl, rfl, rfl⟩
  · exact Or.inl ⟨rfl, by decide, _, rfl, own_lat x0 hk q0⟩
  · exact Or.inr ⟨rfl, by decide, by decide, by decide, _, _, rfl, rfl, own_utf x0 hk⟩
theorem own_sc4_1 {x0 x1 x2 x3 cd ln : Int32} {vs : List Value} (hk : own_ch x1) (q : own_s4 x0 x1 x2 x3 cd ln vs) : own_cA1 x1 cd ln vs := by
  rcases q with ⟨rfl, rfl, rfl, q0, q1, q2, q3⟩ | ⟨rfl, rfl, rfl⟩
  · exact Or.inl ⟨rfl, by decide, _, rfl, own_lat x1 hk q1⟩
  · exact Or.inr ⟨rfl, by decide, by decide, by decide, _, _, rfl, rfl, own_utf x1 hk⟩
theorem own_sc4_2 {x0 x1 x2 x3 cd ln : Int32} {vs : List Value} (hk : own_ch x2) (q : own_s4 x0 x1 x2 x3 cd ln vs) : own_cA2 x2 cd ln vs := by
  rcases q with ⟨rfl, rfl, rfl, q0, q1, q2, q3⟩ | ⟨rfl, rfl, rfl⟩
  · exact Or.inl ⟨rfl, by decide, _, rfl, own_lat x2 hk q2⟩
  · exact Or.inr ⟨rfl, by decide, by decide, by decide, _, _, rfl, rfl, own_utf x2 hk⟩
theorem own_sc4_3 {x0 x1 x2 x3 cd ln : Int32} {vs : List Value} (hk : own_ch x3) (q : own_s4 x0 x1 x2 x3 cd ln vs) : own_cA3 x3 cd ln vs := by
  rcases q with ⟨rfl, rfl, rfl, q0, q1, q2, q3⟩ | ⟨rfl, rfl, rfl⟩
  · exact Or.inl ⟨rfl, by decide, _, rfl, own_lat x3 hk q3⟩
  · exact Or.inr ⟨rfl, by decide, by decide, by decide, _, _, rfl, rfl, own_utf x3 hk⟩
theorem own_pn0 : plainName "jdk/internal/util/Preconditions" = true := by first | (simp [plainName, overriddenIn]; done) | decide +kernel
theorem own_d15_0 : decode jdk_41_method_11_code 0 = .ok (.iload_n 0, 1) := by decide +kernel
theorem own_d15_1 : decode jdk_41_method_11_code 1 = .ok (.ifCond .lt 8, 3) := by decide +kernel
theorem own_d15_4 : decode jdk_41_method_11_code 4 = .ok (.iload_n 0, 1) := by decide +kernel
theorem own_d15_5 : decode jdk_41_method_11_code 5 = .ok (.iload_n 1, 1) := by decide +kernel
theorem own_d15_6 : decode jdk_41_method_11_code 6 = .ok (.if_icmp .lt 10, 3) := by decide +kernel
theorem own_d15_16 : decode jdk_41_method_11_code 16 = .ok (.iload_n 0, 1) := by decide +kernel
theorem own_d15_17 : decode jdk_41_method_11_code 17 = .ok (.ireturn, 1) := by decide +kernel
def Q_own_pchk (Z : State) (ix : Int32) (nn : Int32) (vsf : Value) (h0 : Heap) (n0 : Nat) (v : Option Value) (h : Heap) (L : List Loc) : Prop := v = some (.int ix) ∧ Fr n0 L ∧ h = h0
theorem own_ef_own_pchk (m : MethodId) (ix : Int32) (nn : Int32) (vsf : Value) (r_sf : (vsf).isRef = true) : entryFrame m #[(.int ix), (.int nn), vsf] 3 = mkF m 0 #[iv ix, iv nn, .val vsf] [] := by
  rcases ref_cases r_sf with rfl | ⟨_, rfl⟩ <;>
  first | (simp [entryFrame, mkF, argsToLocals, Value.category]; done) | rfl
set_option maxRecDepth 65536 in
set_option maxHeartbeats 40000000 in
theorem own_pchk (l : Launch) (Z : State) (a0 : Array Value) (hw : ∀ d ∈ tables_1, d.before a0 Z = true) (ws : List Jvm.Cond) (ix : Int32) (nn : Int32) (vsf : Value) (h0 : Heap) (n0 : Nat) (Z0 : n0 ≤ h0.size) (r_sf : (vsf).isRef = true) (q0 : ¬ (ix < (0 : Int32))) (q1 : ix < nn) :
    own_Ctr l Z (⟨"jdk/internal/util/Preconditions", "checkIndex", "(IILjava/util/function/BiFunction;)I"⟩ : MethodName) jdk_41_method_11_code 3 (some .int) ws ({ frames := 0, cells := 0, slots := 0, locals := 0 } : Room) (({ frames := 0, cells := 0, slots := 0, locals := 0 } : Room)).cells (({ frames := 0, cells := 0, slots := 0, locals := 0 } : Room)).slots #[(.int ix), (.int nn), vsf] h0 (Q_own_pchk Z ix nn vsf h0 n0) := by
  refine own_enter (plainFor_of_name own_pn0) ?_
  intro p e s m below meth c s₁ X0 hx hZ hby hml hown hnm hlk hret e0
  have N0 := Fr.nil n0
  refine own_cast (own_ef_own_pchk m ix nn vsf r_sf) ?_
  refine own_by (g' := (mkF m 17 #[iv ix, iv nn, .val vsf] [(.int ix)])) (fun t k => XS.iloadN X0.here hx rfl (hb hby own_d15_0) rfl (XS.ifNo X0.here hx rfl (hb hby own_d15_1) rfl ((if0 _ _).trans (flt q0).1) (XS.iloadN X0.here hx rfl (hb hby own_d15_4) rfl (XS.iloadN X0.here hx rfl (hb hby own_d15_5) rfl (XS.icmpYes X0.here hx rfl (pc0 := 6) (pc' := 16) rfl (hb hby own_d15_6) rfl (tlt q1).1 (by decide) (by decide) (XS.iloadN X0.here hx rfl (hb hby own_d15_16) rfl k)))))) ?_
  refine own_retI X0 hx hlk hret (hb hby own_d15_17) (by decide) (by decide) ?_
  exact ⟨rfl, N0, e0⟩
theorem own_pn1 : plainName "java/lang/String" = true := by first | (simp [plainName, overriddenIn]; done) | decide +kernel
theorem own_d14_0 : decode jdk_42_method_155_code 0 = .ok (.iload_n 0, 1) := by decide +kernel
theorem own_d14_1 : decode jdk_42_method_155_code 1 = .ok (.iload_n 1, 1) := by decide +kernel
theorem own_d14_2 : decode jdk_42_method_155_code 2 = .ok (.getstatic 1053, 3) := by decide +kernel
theorem own_d14_5 : decode jdk_42_method_155_code 5 = .ok (.invokestatic 1059, 3) := by decide +kernel
theorem own_pd0 : parseMethodDescriptor "(IILjava/util/function/BiFunction;)I" = some ⟨[.int, .int, (.object "java/util/function/BiFunction")], some .int⟩ := by decide +kernel
theorem own_d14_8 : decode jdk_42_method_155_code 8 = .ok (.pop, 1) := by decide +kernel
theorem own_d14_9 : decode jdk_42_method_155_code 9 = .ok (.return_, 1) := by decide +kernel
def Q_own_schk (Z : State) (ix : Int32) (nn : Int32) (vsf : Value) (h0 : Heap) (n0 : Nat) (v : Option Value) (h : Heap) (L : List Loc) : Prop := v = none ∧ Fr n0 L ∧ h = h0
theorem own_ef_own_schk (m : MethodId) (ix : Int32) (nn : Int32) : entryFrame m #[(.int ix), (.int nn)] 2 = mkF m 0 #[iv ix, iv nn] [] := by first | (simp [entryFrame, mkF, argsToLocals, Value.category]; done) | rfl
set_option maxRecDepth 65536 in
set_option maxHeartbeats 40000000 in
theorem own_schk (l : Launch) (Z : State) (a0 : Array Value) (hw : ∀ d ∈ tables_1, d.before a0 Z = true) (ws : List Jvm.Cond) (ix : Int32) (nn : Int32) (vsf : Value) (h0 : Heap) (n0 : Nat) (Z0 : n0 ≤ h0.size) (O0 : Old Z n0 h0) (S_sf : Sta Z Z.heap "jdk/internal/util/Preconditions" "SIOOBE_FORMATTER" "Ljava/util/function/BiFunction;" vsf) (r_sf : (vsf).isRef = true) (q0 : ¬ (ix < (0 : Int32))) (q1 : ix < nn) :
    own_Ctr l Z (⟨"java/lang/String", "checkIndex", "(II)V"⟩ : MethodName) jdk_42_method_155_code 2 none ws ({ frames := 1, cells := 0, slots := 0, locals := 14 } : Room) (({ frames := 1, cells := 0, slots := 0, locals := 14 } : Room)).cells (({ frames := 1, cells := 0, slots := 0, locals := 14 } : Room)).slots #[(.int ix), (.int nn)] h0 (Q_own_schk Z ix nn vsf h0 n0) := by
  refine own_enter (plainFor_of_name own_pn1) ?_
  intro p e s m below meth c s₁ X0 hx hZ hby hml hown hnm hlk hret e0
  have N0 := Fr.nil n0
  refine own_cast (own_ef_own_schk m ix nn) ?_
  refine own_by (g' := (mkF m 2 #[iv ix, iv nn] [(.int nn), (.int ix)])) (fun t k => XS.iloadN X0.here hx rfl (hb hby own_d14_0) rfl (XS.iloadN X0.here hx rfl (hb hby own_d14_1) rfl k)) ?_
  obtain ⟨T101, X101, e101, st101⟩ := getS2 X0 hx hZ hown (host := "") (Or.inl (hw _ (List.mem_of_getElem? (i := 70) rfl))) Via.refl e0 (S_sf.ext O0.2) (g := (mkF m 2 #[iv ix, iv nn] [(.int nn), (.int ix)])) rfl (hb hby own_d14_2)
  refine own_by (g' := (mkF m 5 #[iv ix, iv nn] [vsf, (.int nn), (.int ix)])) st101 ?_
  refine own_callS X101 hx hZ hown (hw _ (List.mem_of_getElem? (i := 72) rfl)) (hw _ (List.mem_of_getElem? (i := 73) rfl)) (hw _ (List.mem_of_getElem? (i := 71) rfl)) (hw _ (List.mem_of_getElem? (i := 74) rfl)) (by decide) (own_pchk l Z a0 hw [] (ix) (nn) (vsf) h0 n0 Z0 r_sf (by first | assumption | decide) (by first | assumption | decide)) 0 (by decide) (by decide) (by decide) (by decide) e101 (g := (mkF m 5 #[iv ix, iv nn] [vsf, (.int nn), (.int ix)])) rfl (by rw [hml]; rfl) (argsL := [(.int ix), (.int nn), vsf]) (rest := []) (lenOf own_pd0 rfl) rfl (by show 2 * 0 + _ ≤ _; exact Nat.le_of_eq rfl) (hb hby own_d14_5) ?_
  intro v102 T102 L102 X102 q102
  obtain ⟨rfl, N102q, e102⟩ := q102
  have N102 := Fr.app N0 N102q
  show own_Goes p e below s _ _ _ T102 (mkF m 8 #[iv ix, iv nn] [(.int ix)])
  refine own_by (g' := (mkF m 9 #[iv ix, iv nn] [])) (fun t k => XS.pop X102.here hx rfl (hb hby own_d14_8) rfl rfl k) ?_
  refine own_retV X102 hx hlk hret (hb hby own_d14_9) (by decide) (by decide) ?_
  exact ⟨rfl, N102, e102⟩
theorem own_pn2 : plainName "java/lang/StringUTF16" = true := by first | (simp [plainName, overriddenIn]; done) | decide +kernel
theorem own_d23_0 : decode jdk_52_method_6_code 0 = .ok (.aload_n 0, 1) := by decide +kernel
theorem own_d23_1 : decode jdk_52_method_6_code 1 = .ok (.arraylength, 1) := by decide +kernel
theorem own_d23_2 : decode jdk_52_method_6_code 2 = .ok (.iconst 1, 1) := by decide +kernel
theorem own_d23_3 : decode jdk_52_method_6_code 3 = .ok (.ishr, 1) := by decide +kernel
theorem own_d23_4 : decode jdk_52_method_6_code 4 = .ok (.ireturn, 1) := by decide +kernel
def Q_own_ulen (Z : State) (r1 : Addr) (k1 : ClassId) (ln : Int32) (vs : List Value) (h0 : Heap) (n0 : Nat) (v : Option Value) (h : Heap) (L : List Loc) : Prop := v = some (.int (ln >>> ((1 : Int32) &&& 31))) ∧ Fr n0 L ∧ h = h0
theorem own_ef_own_ulen (m : MethodId) (r1 : Addr) : entryFrame m #[(.ref r1)] 1 = mkF m 0 #[rv r1] [] := by first | (simp [entryFrame, mkF, argsToLocals, Value.category]; done) | rfl
set_option maxRecDepth 65536 in
set_option maxHeartbeats 40000000 in
theorem own_ulen (l : Launch) (Z : State) (a0 : Array Value) (hw : ∀ d ∈ tables_1, d.before a0 Z = true) (ws : List Jvm.Cond) (r1 : Addr) (k1 : ClassId) (ln : Int32) (vs : List Value) (h0 : Heap) (n0 : Nat) (Z0 : n0 ≤ h0.size) (V1 : Arv Z h0 r1 k1 .byte ln vs (.int (0 : Int32))) :
    own_Ctr l Z (⟨"java/lang/StringUTF16", "length", "([B)I"⟩ : MethodName) jdk_52_method_6_code 1 (some .int) ws ({ frames := 0, cells := 0, slots := 0, locals := 0 } : Room) (({ frames := 0, cells := 0, slots := 0, locals := 0 } : Room)).cells (({ frames := 0, cells := 0, slots := 0, locals := 0 } : Room)).slots #[(.ref r1)] h0 (Q_own_ulen Z r1 k1 ln vs h0 n0) := by
  refine own_enter (plainFor_of_name own_pn2) ?_
  intro p e s m below meth c s₁ X0 hx hZ hby hml hown hnm hlk hret e0
  have N0 := Fr.nil n0
  refine own_cast (own_ef_own_ulen m r1) ?_
  refine own_by (g' := (mkF m 1 #[rv r1] [(.ref r1)])) (fun t k => XS.aloadN X0.here hx rfl (hb hby own_d23_0) rfl rfl k) ?_
  obtain ⟨c101, Ar101, -, S101, G101, -, -⟩ := id V1
  refine own_by (g' := (mkF m 2 #[rv r1] [(.int ln)])) (fun t k => X0.arraylength hx (own_at_ e0 Ar101.1) (State.isArrayOf_alike hZ.alike Ar101.2.1) (g := (mkF m 1 #[rv r1] [(.ref r1)])) rfl rfl (hb hby own_d23_1) t (by rw [len_of S101 G101]; exact k)) ?_
  refine own_by (g' := (mkF m 4 #[rv r1] [(.int (ln >>> ((1 : Int32) &&& 31)))])) (fun t k => XS.iconst X0.here hx rfl (hb hby own_d23_2) (XS.ishr X0.here hx rfl (hb hby own_d23_3) rfl k)) ?_
  refine own_retI X0 hx hlk hret (hb hby own_d23_4) (by decide) (by decide) ?_
  exact ⟨rfl, N0, e0⟩
theorem own_d22_0 : decode jdk_52_method_91_code 0 = .ok (.iload_n 0, 1) := by decide +kernel
theorem own_d22_1 : decode jdk_52_method_91_code 1 = .ok (.aload_n 1, 1) := by decide +kernel
theorem own_d22_2 : decode jdk_52_method_91_code 2 = .ok (.invokestatic 48, 3) := by decide +kernel
theorem own_pd1 : parseMethodDescriptor "([B)I" = some ⟨[(.array .byte)], some .int⟩ := by decide +kernel
theorem own_d22_5 : decode jdk_52_method_91_code 5 = .ok (.invokestatic 414, 3) := by decide +kernel
theorem own_pd2 : parseMethodDescriptor "(II)V" = some ⟨[.int, .int], none⟩ := by decide +kernel
theorem own_d22_8 : decode jdk_52_method_91_code 8 = .ok (.return_, 1) := by decide +kernel
def Q_own_uchk (Z : State) (r1 : Addr) (k1 : ClassId) (ln : Int32) (vs : List Value) (ix : Int32) (vsf : Value) (h0 : Heap) (n0 : Nat) (v : Option Value) (h : Heap) (L : List Loc) : Prop := v = none ∧ Fr n0 L ∧ h = h0
theorem own_ef_own_uchk (m : MethodId) (r1 : Addr) (ix : Int32) : entryFrame m #[(.int ix), (.ref r1)] 2 = mkF m 0 #[iv ix, rv r1] [] := by first | (simp [entryFrame, mkF, argsToLocals, Value.category]; done) | rfl
set_option maxRecDepth 65536 in
set_option maxHeartbeats 40000000 in
theorem own_uchk (l : Launch) (Z : State) (a0 : Array Value) (hw : ∀ d ∈ tables_1, d.before a0 Z = true) (ws : List Jvm.Cond) (r1 : Addr) (k1 : ClassId) (ln : Int32) (vs : List Value) (ix : Int32) (vsf : Value) (h0 : Heap) (n0 : Nat) (Z0 : n0 ≤ h0.size) (O0 : Old Z n0 h0) (S_sf : Sta Z Z.heap "jdk/internal/util/Preconditions" "SIOOBE_FORMATTER" "Ljava/util/function/BiFunction;" vsf) (r_sf : (vsf).isRef = true) (V1 : Arv Z h0 r1 k1 .byte ln vs (.int (0 : Int32))) (q0 : ¬ (ix < (0 : Int32))) (q1 : ix < (ln >>> ((1 : Int32) &&& 31))) :
    own_Ctr l Z (⟨"java/lang/StringUTF16", "checkIndex", "(I[B)V"⟩ : MethodName) jdk_52_method_91_code 2 none ws ({ frames := 2, cells := 0, slots := 0, locals := 27 } : Room) (({ frames := 2, cells := 0, slots := 0, locals := 27 } : Room)).cells (({ frames := 2, cells := 0, slots := 0, locals := 27 } : Room)).slots #[(.int ix), (.ref r1)] h0 (Q_own_uchk Z r1 k1 ln vs ix vsf h0 n0) := by
  refine own_enter (plainFor_of_name own_pn2) ?_
  intro p e s m below meth c s₁ X0 hx hZ hby hml hown hnm hlk hret e0
  have N0 := Fr.nil n0
  refine own_cast (own_ef_own_uchk m r1 ix) ?_
  refine own_by (g' := (mkF m 2 #[iv ix, rv r1] [(.ref r1), (.int ix)])) (fun t k => XS.iloadN X0.here hx rfl (hb hby own_d22_0) rfl (XS.aloadN X0.here hx rfl (hb hby own_d22_1) rfl rfl k)) ?_
  refine own_callS X0 hx hZ hown (hw _ (List.mem_of_getElem? (i := 101) rfl)) (hw _ (List.mem_of_getElem? (i := 102) rfl)) (hw _ (List.mem_of_getElem? (i := 22) rfl)) (hw _ (List.mem_of_getElem? (i := 103) rfl)) (by decide) (own_ulen l Z a0 hw [] (r1) (k1) (ln) (vs) h0 n0 Z0 V1) 1 (by decide) (by decide) (by decide) (by decide) e0 (g := (mkF m 2 #[iv ix, rv r1] [(.ref r1), (.int ix)])) rfl (by rw [hml]; rfl) (argsL := [(.ref r1)]) (rest := [(.int ix)]) (lenOf own_pd1 rfl) rfl (by show 2 * 0 + _ ≤ _; exact Nat.le_of_eq rfl) (hb hby own_d22_2) ?_
  intro v101 T101 L101 X101 q101
  obtain ⟨rfl, N101q, e101⟩ := q101
  have N101 := Fr.app N0 N101q
  show own_Goes p e below s _ _ _ T101 (mkF m 5 #[iv ix, rv r1] [(.int (ln >>> ((1 : Int32) &&& 31))), (.int ix)])
  refine own_callS X101 hx hZ hown (hw _ (List.mem_of_getElem? (i := 104) rfl)) (hw _ (List.mem_of_getElem? (i := 68) rfl)) (hw _ (List.mem_of_getElem? (i := 7) rfl)) (hw _ (List.mem_of_getElem? (i := 69) rfl)) (by decide) (own_schk l Z a0 hw [] (ix) ((ln >>> ((1 : Int32) &&& 31))) (vsf) h0 n0 Z0 O0 S_sf r_sf (by first | assumption | decide) (by first | assumption | decide)) 0 (by decide) (by decide) (by decide) (by decide) e101 (g := (mkF m 5 #[iv ix, rv r1] [(.int (ln >>> ((1 : Int32) &&& 31))), (.int ix)])) rfl (by rw [hml]; rfl) (argsL := [(.int ix), (.int (ln >>> ((1 : Int32) &&& 31)))]) (rest := []) (lenOf own_pd2 rfl) rfl (by show 2 * 0 + _ ≤ _; exact Nat.le_of_eq rfl) (hb hby own_d22_5) ?_
  intro v102 T102 L102 X102 q102
  obtain ⟨rfl, N102q, e102⟩ := q102
  have N102 := Fr.app N101 N102q
  show own_Goes p e below s _ _ _ T102 (mkF m 8 #[iv ix, rv r1] [])
  refine own_retV X102 hx hlk hret (hb hby own_d22_8) (by decide) (by decide) ?_
  exact ⟨rfl, N102, e102⟩
theorem own_d20_0 : decode jdk_52_method_5_code 0 = .ok (.getstatic 44, 3) := by decide +kernel
theorem own_d20_3 : decode jdk_52_method_5_code 3 = .ok (.ifCond .ne 25, 3) := by decide +kernel
theorem own_d20_28 : decode jdk_52_method_5_code 28 = .ok (.iload_n 1, 1) := by decide +kernel
theorem own_d20_29 : decode jdk_52_method_5_code 29 = .ok (.iconst 1, 1) := by decide +kernel
theorem own_d20_30 : decode jdk_52_method_5_code 30 = .ok (.ishl, 1) := by decide +kernel
theorem own_d20_31 : decode jdk_52_method_5_code 31 = .ok (.istore_n 1, 1) := by decide +kernel
theorem own_d20_32 : decode jdk_52_method_5_code 32 = .ok (.aload_n 0, 1) := by decide +kernel
theorem own_d20_33 : decode jdk_52_method_5_code 33 = .ok (.iload_n 1, 1) := by decide +kernel
theorem own_d20_34 : decode jdk_52_method_5_code 34 = .ok (.iinc 1 1, 3) := by decide +kernel
theorem own_d20_37 : decode jdk_52_method_5_code 37 = .ok (.baload, 1) := by decide +kernel
theorem own_d20_38 : decode jdk_52_method_5_code 38 = .ok (.sipush 255, 3) := by decide +kernel
theorem own_d20_41 : decode jdk_52_method_5_code 41 = .ok (.iand, 1) := by decide +kernel
theorem own_d20_42 : decode jdk_52_method_5_code 42 = .ok (.getstatic 59, 3) := by decide +kernel
theorem own_d20_45 : decode jdk_52_method_5_code 45 = .ok (.ishl, 1) := by decide +kernel
theorem own_d20_46 : decode jdk_52_method_5_code 46 = .ok (.aload_n 0, 1) := by decide +kernel
theorem own_d20_47 : decode jdk_52_method_5_code 47 = .ok (.iload_n 1, 1) := by decide +kernel
theorem own_d20_48 : decode jdk_52_method_5_code 48 = .ok (.baload, 1) := by decide +kernel
theorem own_d20_49 : decode jdk_52_method_5_code 49 = .ok (.sipush 255, 3) := by decide +kernel
theorem own_d20_52 : decode jdk_52_method_5_code 52 = .ok (.iand, 1) := by decide +kernel
theorem own_d20_53 : decode jdk_52_method_5_code 53 = .ok (.getstatic 63, 3) := by decide +kernel
theorem own_d20_56 : decode jdk_52_method_5_code 56 = .ok (.ishl, 1) := by decide +kernel
theorem own_d20_57 : decode jdk_52_method_5_code 57 = .ok (.ior, 1) := by decide +kernel
theorem own_d20_58 : decode jdk_52_method_5_code 58 = .ok (.i2c, 1) := by decide +kernel
theorem own_d20_59 : decode jdk_52_method_5_code 59 = .ok (.ireturn, 1) := by decide +kernel
def Q_own_getc0 (Z : State) (r1 : Addr) (k1 : ClassId) (ln : Int32) (vs : List Value) (b0 : Int32) (b1 : Int32) (xc : Int32) (h0 : Heap) (n0 : Nat) (v : Option Value) (h : Heap) (L : List Loc) : Prop := v = some (.int xc) ∧ Fr n0 L ∧ h = h0
theorem own_ef_own_getc0 (m : MethodId) (r1 : Addr) : entryFrame m #[(.ref r1), (.int (0 : Int32))] 2 = mkF m 0 #[rv r1, iv (0 : Int32)] [] := by first | (simp [entryFrame, mkF, argsToLocals, Value.category]; done) | rfl
set_option maxRecDepth 65536 in
set_option maxHeartbeats 40000000 in
theorem own_getc0 (l : Launch) (Z : State) (a0 : Array Value) (hw : ∀ d ∈ tables_1, d.before a0 Z = true) (ws : List Jvm.Cond) (r1 : Addr) (k1 : ClassId) (ln : Int32) (vs : List Value) (b0 : Int32) (b1 : Int32) (xc : Int32) (h0 : Heap) (n0 : Nat) (Z0 : n0 ≤ h0.size) (O0 : Old Z n0 h0) (S_ad : Sta Z Z.heap "java/lang/StringUTF16" "$assertionsDisabled" "Z" (.int (1 : Int32))) (S_hi : Sta Z Z.heap "java/lang/StringUTF16" "HI_BYTE_SHIFT" "I" (.int (0 : Int32))) (S_lo : Sta Z Z.heap "java/lang/StringUTF16" "LO_BYTE_SHIFT" "I" (.int (8 : Int32))) (V1 : Arv Z h0 r1 k1 .byte ln vs (.int (0 : Int32))) (q1 : (0 : Int32) < ln) (q2 : (1 : Int32) < ln) (q3 : vs.getD 0 (.int (0 : Int32)) = .int b0) (q4 : vs.getD 1 (.int (0 : Int32)) = .int b1) (q5 : own_utfc b0 b1 = xc) :
    own_Ctr l Z (⟨"java/lang/StringUTF16", "getChar", "([BI)C"⟩ : MethodName) jdk_52_method_5_code 2 (some .char) ws ({ frames := 0, cells := 0, slots := 0, locals := 0 } : Room) (({ frames := 0, cells := 0, slots := 0, locals := 0 } : Room)).cells (({ frames := 0, cells := 0, slots := 0, locals := 0 } : Room)).slots #[(.ref r1), (.int (0 : Int32))] h0 (Q_own_getc0 Z r1 k1 ln vs b0 b1 xc h0 n0) := by
  refine own_enter (plainFor_of_name own_pn2) ?_
  intro p e s m below meth c s₁ X0 hx hZ hby hml hown hnm hlk hret e0
  have N0 := Fr.nil n0
  refine own_cast (own_ef_own_getc0 m r1) ?_
  obtain ⟨T101, X101, e101, st101⟩ := getS2 X0 hx hZ hown (host := "") (Or.inl (hw _ (List.mem_of_getElem? (i := 89) rfl))) Via.refl e0 (S_ad.ext O0.2) (g := (mkF m 0 #[rv r1, iv (0 : Int32)] [])) rfl (hb hby own_d20_0)
  refine own_by (g' := (mkF m 3 #[rv r1, iv (0 : Int32)] [(.int (1 : Int32))])) st101 ?_
  refine own_by (g' := (mkF m 31 #[rv r1, iv (0 : Int32)] [(.int ((0 : Int32) <<< ((1 : Int32) &&& 31)))])) (fun t k => XS.ifYes X101.here hx rfl (pc0 := 3) (pc' := 28) rfl (hb hby own_d20_3) rfl ((if0 _ _).trans (feq (by decide : ¬ ((1 : Int32) = (0 : Int32)))).2) (by decide) (by decide) (XS.iloadN X101.here hx rfl (hb hby own_d20_28) rfl (XS.iconst X101.here hx rfl (hb hby own_d20_29) (XS.ishl X101.here hx rfl (hb hby own_d20_30) rfl k)))) ?_
  have hz : ((0 : Int32) <<< ((1 : Int32) &&& 31)) = (0 : Int32) := by decide
  rw [hz]
  refine own_by (g' := (mkF m 37 #[rv r1, iv (1 : Int32)] [(.int (0 : Int32)), (.ref r1)])) (fun t k => XS.istoreN X101.here hx rfl (hb hby own_d20_31) rfl (l' := #[rv r1, iv (0 : Int32)]) rfl (XS.aloadN X101.here hx rfl (hb hby own_d20_32) rfl rfl (XS.iloadN X101.here hx rfl (hb hby own_d20_33) rfl (XS.iinc X101.here hx rfl (hb hby own_d20_34) rfl (l' := #[rv r1, iv (1 : Int32)]) rfl k)))) ?_
  obtain ⟨c102, Ar102, q102, S102, G102, H102, F102⟩ := id V1
  have hin102 : ¬ ((0 : Int32) < 0 ∨ c102.slots.size ≤ ((0 : Int32)).toNatClampNeg) := inb_of S102 ⟨by decide, q1⟩
  have hat102 : c102.slots[((0 : Int32)).toNatClampNeg]? = some (.int b0) := H102.at hin102 q3
  refine own_by (g' := (mkF m 42 #[rv r1, iv (1 : Int32)] [(.int (b0 &&& (255 : Int32)))])) (fun t k => X101.baloadBytes hx (j := (0 : Int32)) (v := (.int b0)) (own_at_ e101 Ar102.1) (State.isArrayOf_alike hZ.alike Ar102.2.1) Ar102.2.2 hin102 hat102 (g := (mkF m 37 #[rv r1, iv (1 : Int32)] [(.int (0 : Int32)), (.ref r1)])) rfl rfl (hb hby own_d20_37) t (XS.sipush X101.here hx rfl (hb hby own_d20_38) (XS.iand X101.here hx rfl (hb hby own_d20_41) rfl k))) ?_
  obtain ⟨T103, X103, e103, st103⟩ := getS2 X101 hx hZ hown (host := "") (Or.inl (hw _ (List.mem_of_getElem? (i := 90) rfl))) Via.refl e101 (S_hi.ext O0.2) (g := (mkF m 42 #[rv r1, iv (1 : Int32)] [(.int (b0 &&& (255 : Int32)))])) rfl (hb hby own_d20_42)
  refine own_by (g' := (mkF m 45 #[rv r1, iv (1 : Int32)] [(.int (0 : Int32)), (.int (b0 &&& (255 : Int32)))])) st103 ?_
  refine own_by (g' := (mkF m 48 #[rv r1, iv (1 : Int32)] [(.int (1 : Int32)), (.ref r1), (.int ((b0 &&& (255 : Int32)) <<< ((0 : Int32) &&& 31)))])) (fun t k => XS.ishl X103.here hx rfl (hb hby own_d20_45) rfl (XS.aloadN X103.here hx rfl (hb hby own_d20_46) rfl rfl (XS.iloadN X103.here hx rfl (hb hby own_d20_47) rfl k))) ?_
  obtain ⟨c104, Ar104, q104, S104, G104, H104, F104⟩ := id V1
  have hin104 : ¬ ((1 : Int32) < 0 ∨ c104.slots.size ≤ ((1 : Int32)).toNatClampNeg) := inb_of S104 ⟨by decide, q2⟩
  have hat104 : c104.slots[((1 : Int32)).toNatClampNeg]? = some (.int b1) := H104.at hin104 q4
  refine own_by (g' := (mkF m 53 #[rv r1, iv (1 : Int32)] [(.int (b1 &&& (255 : Int32))), (.int ((b0 &&& (255 : Int32)) <<< ((0 : Int32) &&& 31)))])) (fun t k => X103.baloadBytes hx (j := (1 : Int32)) (v := (.int b1)) (own_at_ e103 Ar104.1) (State.isArrayOf_alike hZ.alike Ar104.2.1) Ar104.2.2 hin104 hat104 (g := (mkF m 48 #[rv r1, iv (1 : Int32)] [(.int (1 : Int32)), (.ref r1), (.int ((b0 &&& (255 : Int32)) <<< ((0 : Int32) &&& 31)))])) rfl rfl (hb hby own_d20_48) t (XS.sipush X103.here hx rfl (hb hby own_d20_49) (XS.iand X103.here hx rfl (hb hby own_d20_52) rfl k))) ?_
  obtain ⟨T105, X105, e105, st105⟩ := getS2 X103 hx hZ hown (host := "") (Or.inl (hw _ (List.mem_of_getElem? (i := 91) rfl))) Via.refl e103 (S_lo.ext O0.2) (g := (mkF m 53 #[rv r1, iv (1 : Int32)] [(.int (b1 &&& (255 : Int32))), (.int ((b0 &&& (255 : Int32)) <<< ((0 : Int32) &&& 31)))])) rfl (hb hby own_d20_53)
  refine own_by (g' := (mkF m 56 #[rv r1, iv (1 : Int32)] [(.int (8 : Int32)), (.int (b1 &&& (255 : Int32))), (.int ((b0 &&& (255 : Int32)) <<< ((0 : Int32) &&& 31)))])) st105 ?_
  refine own_by (g' := (mkF m 59 #[rv r1, iv (1 : Int32)] [(.int ((((b0 &&& (255 : Int32)) <<< ((0 : Int32) &&& 31)) ||| ((b1 &&& (255 : Int32)) <<< ((8 : Int32) &&& 31)))).toUInt32.toUInt16.toUInt32.toInt32)])) (fun t k => XS.ishl X105.here hx rfl (hb hby own_d20_56) rfl (XS.ior X105.here hx rfl (hb hby own_d20_57) rfl (XS.i2c X105.here hx rfl (hb hby own_d20_58) rfl k))) ?_
  refine own_retN X105 hx hlk hret (t := .char) (by simp) (hb hby own_d20_59) (by decide) (by decide) ?_
  exact ⟨(congrArg (fun z => some (Value.int z)) ((own_c16 _).trans q5)), N0, e105⟩
theorem own_d21_0 : decode jdk_52_method_83_code 0 = .ok (.iload_n 1, 1) := by decide +kernel
theorem own_d21_1 : decode jdk_52_method_83_code 1 = .ok (.aload_n 0, 1) := by decide +kernel
theorem own_d21_2 : decode jdk_52_method_83_code 2 = .ok (.invokestatic 67, 3) := by decide +kernel
theorem own_pd3 : parseMethodDescriptor "(I[B)V" = some ⟨[.int, (.array .byte)], none⟩ := by decide +kernel
theorem own_d21_5 : decode jdk_52_method_83_code 5 = .ok (.aload_n 0, 1) := by decide +kernel
theorem own_d21_6 : decode jdk_52_method_83_code 6 = .ok (.iload_n 1, 1) := by decide +kernel
theorem own_d21_7 : decode jdk_52_method_83_code 7 = .ok (.invokestatic 71, 3) := by decide +kernel
theorem own_pd4 : parseMethodDescriptor "([BI)C" = some ⟨[(.array .byte), .int], some .char⟩ := by decide +kernel
theorem own_d21_10 : decode jdk_52_method_83_code 10 = .ok (.ireturn, 1) := by decide +kernel
def Q_own_uchar0 (Z : State) (r1 : Addr) (k1 : ClassId) (ln : Int32) (vs : List Value) (b0 : Int32) (b1 : Int32) (xc : Int32) (vsf : Value) (h0 : Heap) (n0 : Nat) (v : Option Value) (h : Heap) (L : List Loc) : Prop := v = some (.int xc) ∧ Fr n0 L ∧ h = h0
theorem own_ef_own_uchar0 (m : MethodId) (r1 : Addr) : entryFrame m #[(.ref r1), (.int (0 : Int32))] 2 = mkF m 0 #[rv r1, iv (0 : Int32)] [] := by first | (simp [entryFrame, mkF, argsToLocals, Value.category]; done) | rfl
set_option maxRecDepth 65536 in
set_option maxHeartbeats 40000000 in
theorem own_uchar0 (l : Launch) (Z : State) (a0 : Array Value) (hw : ∀ d ∈ tables_1, d.before a0 Z = true) (ws : List Jvm.Cond) (r1 : Addr) (k1 : ClassId) (ln : Int32) (vs : List Value) (b0 : Int32) (b1 : Int32) (xc : Int32) (vsf : Value) (h0 : Heap) (n0 : Nat) (Z0 : n0 ≤ h0.size) (O0 : Old Z n0 h0) (S_ad : Sta Z Z.heap "java/lang/StringUTF16" "$assertionsDisabled" "Z" (.int (1 : Int32))) (S_hi : Sta Z Z.heap "java/lang/StringUTF16" "HI_BYTE_SHIFT" "I" (.int (0 : Int32))) (S_lo : Sta Z Z.heap "java/lang/StringUTF16" "LO_BYTE_SHIFT" "I" (.int (8 : Int32))) (S_sf : Sta Z Z.heap "jdk/internal/util/Preconditions" "SIOOBE_FORMATTER" "Ljava/util/function/BiFunction;" vsf) (r_sf : (vsf).isRef = true) (q0 : (0 : Int32) < (ln >>> ((1 : Int32) &&& 31))) (V1 : Arv Z h0 r1 k1 .byte ln vs (.int (0 : Int32))) (q1 : (0 : Int32) < ln) (q2 : (1 : Int32) < ln) (q3 : vs.getD 0 (.int (0 : Int32)) = .int b0) (q4 : vs.getD 1 (.int (0 : Int32)) = .int b1) (q5 : own_utfc b0 b1 = xc) :
    own_Ctr l Z (⟨"java/lang/StringUTF16", "charAt", "([BI)C"⟩ : MethodName) jdk_52_method_83_code 2 (some .char) ws ({ frames := 3, cells := 0, slots := 0, locals := 40 } : Room) (({ frames := 3, cells := 0, slots := 0, locals := 40 } : Room)).cells (({ frames := 3, cells := 0, slots := 0, locals := 40 } : Room)).slots #[(.ref r1), (.int (0 : Int32))] h0 (Q_own_uchar0 Z r1 k1 ln vs b0 b1 xc vsf h0 n0) := by
  refine own_enter (plainFor_of_name own_pn2) ?_
  intro p e s m below meth c s₁ X0 hx hZ hby hml hown hnm hlk hret e0
  have N0 := Fr.nil n0
  refine own_cast (own_ef_own_uchar0 m r1) ?_
  refine own_by (g' := (mkF m 2 #[rv r1, iv (0 : Int32)] [(.ref r1), (.int (0 : Int32))])) (fun t k => XS.iloadN X0.here hx rfl (hb hby own_d21_0) rfl (XS.aloadN X0.here hx rfl (hb hby own_d21_1) rfl rfl k)) ?_
  refine own_callS X0 hx hZ hown (hw _ (List.mem_of_getElem? (i := 98) rfl)) (hw _ (List.mem_of_getElem? (i := 99) rfl)) (hw _ (List.mem_of_getElem? (i := 22) rfl)) (hw _ (List.mem_of_getElem? (i := 100) rfl)) (by decide) (own_uchk l Z a0 hw [] (r1) (k1) (ln) (vs) ((0 : Int32)) (vsf) h0 n0 Z0 O0 S_sf r_sf V1 (by decide) q0) 0 (by decide) (by decide) (by decide) (by decide) e0 (g := (mkF m 2 #[rv r1, iv (0 : Int32)] [(.ref r1), (.int (0 : Int32))])) rfl (by rw [hml]; rfl) (argsL := [(.int (0 : Int32)), (.ref r1)]) (rest := []) (lenOf own_pd3 rfl) rfl (by show 2 * 0 + _ ≤ _; exact Nat.le_of_eq rfl) (hb hby own_d21_2) ?_
  intro v101 T101 L101 X101 q101
  obtain ⟨rfl, N101q, e101⟩ := q101
  have N101 := Fr.app N0 N101q
  show own_Goes p e below s _ _ _ T101 (mkF m 5 #[rv r1, iv (0 : Int32)] [])
  refine own_by (g' := (mkF m 7 #[rv r1, iv (0 : Int32)] [(.int (0 : Int32)), (.ref r1)])) (fun t k => XS.aloadN X101.here hx rfl (hb hby own_d21_5) rfl rfl (XS.iloadN X101.here hx rfl (hb hby own_d21_6) rfl k)) ?_
  refine own_callS X101 hx hZ hown (hw _ (List.mem_of_getElem? (i := 92) rfl)) (hw _ (List.mem_of_getElem? (i := 93) rfl)) (hw _ (List.mem_of_getElem? (i := 22) rfl)) (hw _ (List.mem_of_getElem? (i := 94) rfl)) (by decide) (own_getc0 l Z a0 hw [] (r1) (k1) (ln) (vs) (b0) (b1) (xc) h0 n0 Z0 O0 S_ad S_hi S_lo V1 (by first | assumption | decide) (by first | assumption | decide) (by first | assumption | decide) (by first | assumption | decide) (by first | assumption | decide)) 0 (by decide) (by decide) (by decide) (by decide) e101 (g := (mkF m 7 #[rv r1, iv (0 : Int32)] [(.int (0 : Int32)), (.ref r1)])) rfl (by rw [hml]; rfl) (argsL := [(.ref r1), (.int (0 : Int32))]) (rest := []) (lenOf own_pd4 rfl) rfl (by show 2 * 0 + _ ≤ _; exact Nat.le_of_eq rfl) (hb hby own_d21_7) ?_
  intro v102 T102 L102 X102 q102
  obtain ⟨rfl, N102q, e102⟩ := q102
  have N102 := Fr.app N101 N102q
  show own_Goes p e below s _ _ _ T102 (mkF m 10 #[rv r1, iv (0 : Int32)] [(.int xc)])
  refine own_retN X102 hx hlk hret (t := .char) (by simp) (hb hby own_d21_10) (by decide) (by decide) ?_
  exact ⟨(by rw [show nar .char xc = xc from by rw [← q5]; exact own_c16 _]), N102, e102⟩
theorem own_pn3 : plainName "java/lang/StringLatin1" = true := by first | (simp [plainName, overriddenIn]; done) | decide +kernel
theorem own_d13_0 : decode jdk_43_method_2_code 0 = .ok (.iload_n 1, 1) := by decide +kernel
theorem own_d13_1 : decode jdk_43_method_2_code 1 = .ok (.aload_n 0, 1) := by decide +kernel
theorem own_d13_2 : decode jdk_43_method_2_code 2 = .ok (.arraylength, 1) := by decide +kernel
theorem own_d13_3 : decode jdk_43_method_2_code 3 = .ok (.invokestatic 9, 3) := by decide +kernel
theorem own_d13_6 : decode jdk_43_method_2_code 6 = .ok (.aload_n 0, 1) := by decide +kernel
theorem own_d13_7 : decode jdk_43_method_2_code 7 = .ok (.iload_n 1, 1) := by decide +kernel
theorem own_d13_8 : decode jdk_43_method_2_code 8 = .ok (.baload, 1) := by decide +kernel
theorem own_d13_9 : decode jdk_43_method_2_code 9 = .ok (.sipush 255, 3) := by decide +kernel
theorem own_d13_12 : decode jdk_43_method_2_code 12 = .ok (.iand, 1) := by decide +kernel
theorem own_d13_13 : decode jdk_43_method_2_code 13 = .ok (.i2c, 1) := by decide +kernel
theorem own_d13_14 : decode jdk_43_method_2_code 14 = .ok (.ireturn, 1) := by decide +kernel
def Q_own_lchar0 (Z : State) (r1 : Addr) (k1 : ClassId) (ln : Int32) (vs : List Value) (bc : Int32) (xc : Int32) (vsf : Value) (h0 : Heap) (n0 : Nat) (v : Option Value) (h : Heap) (L : List Loc) : Prop := v = some (.int xc) ∧ Fr n0 L ∧ h = h0
theorem own_ef_own_lchar0 (m : MethodId) (r1 : Addr) : entryFrame m #[(.ref r1), (.int (0 : Int32))] 2 = mkF m 0 #[rv r1, iv (0 : Int32)] [] := by first | (simp [entryFrame, mkF, argsToLocals, Value.category]; done) | rfl
set_option maxRecDepth 65536 in
set_option maxHeartbeats 40000000 in
theorem own_lchar0 (l : Launch) (Z : State) (a0 : Array Value) (hw : ∀ d ∈ tables_1, d.before a0 Z = true) (ws : List Jvm.Cond) (r1 : Addr) (k1 : ClassId) (ln : Int32) (vs : List Value) (bc : Int32) (xc : Int32) (vsf : Value) (h0 : Heap) (n0 : Nat) (Z0 : n0 ≤ h0.size) (O0 : Old Z n0 h0) (S_sf : Sta Z Z.heap "jdk/internal/util/Preconditions" "SIOOBE_FORMATTER" "Ljava/util/function/BiFunction;" vsf) (r_sf : (vsf).isRef = true) (V1 : Arv Z h0 r1 k1 .byte ln vs (.int (0 : Int32))) (q1 : (0 : Int32) < ln) (q3 : vs.getD 0 (.int (0 : Int32)) = .int bc) (q5 : own_latc bc = xc) :
    own_Ctr l Z (⟨"java/lang/StringLatin1", "charAt", "([BI)C"⟩ : MethodName) jdk_43_method_2_code 2 (some .char) ws ({ frames := 2, cells := 0, slots := 0, locals := 27 } : Room) (({ frames := 2, cells := 0, slots := 0, locals := 27 } : Room)).cells (({ frames := 2, cells := 0, slots := 0, locals := 27 } : Room)).slots #[(.ref r1), (.int (0 : Int32))] h0 (Q_own_lchar0 Z r1 k1 ln vs bc xc vsf h0 n0) := by
  refine own_enter (plainFor_of_name own_pn3) ?_
  intro p e s m below meth c s₁ X0 hx hZ hby hml hown hnm hlk hret e0
  have N0 := Fr.nil n0
  refine own_cast (own_ef_own_lchar0 m r1) ?_
  refine own_by (g' := (mkF m 2 #[rv r1, iv (0 : Int32)] [(.ref r1), (.int (0 : Int32))])) (fun t k => XS.iloadN X0.here hx rfl (hb hby own_d13_0) rfl (XS.aloadN X0.here hx rfl (hb hby own_d13_1) rfl rfl k)) ?_
  obtain ⟨c101, Ar101, -, S101, G101, -, -⟩ := id V1
  refine own_by (g' := (mkF m 3 #[rv r1, iv (0 : Int32)] [(.int ln), (.int (0 : Int32))])) (fun t k => X0.arraylength hx (own_at_ e0 Ar101.1) (State.isArrayOf_alike hZ.alike Ar101.2.1) (g := (mkF m 2 #[rv r1, iv (0 : Int32)] [(.ref r1), (.int (0 : Int32))])) rfl rfl (hb hby own_d13_2) t (by rw [len_of S101 G101]; exact k)) ?_
  refine own_callS X0 hx hZ hown (hw _ (List.mem_of_getElem? (i := 67) rfl)) (hw _ (List.mem_of_getElem? (i := 68) rfl)) (hw _ (List.mem_of_getElem? (i := 7) rfl)) (hw _ (List.mem_of_getElem? (i := 69) rfl)) (by decide) (own_schk l Z a0 hw [] ((0 : Int32)) (ln) (vsf) h0 n0 Z0 O0 S_sf r_sf (by decide) q1) 0 (by decide) (by decide) (by decide) (by decide) e0 (g := (mkF m 3 #[rv r1, iv (0 : Int32)] [(.int ln), (.int (0 : Int32))])) rfl (by rw [hml]; rfl) (argsL := [(.int (0 : Int32)), (.int ln)]) (rest := []) (lenOf own_pd2 rfl) rfl (by show 2 * 0 + _ ≤ _; exact Nat.le_of_eq rfl) (hb hby own_d13_3) ?_
  intro v102 T102 L102 X102 q102
  obtain ⟨rfl, N102q, e102⟩ := q102
  have N102 := Fr.app N0 N102q
  show own_Goes p e below s _ _ _ T102 (mkF m 6 #[rv r1, iv (0 : Int32)] [])
  refine own_by (g' := (mkF m 8 #[rv r1, iv (0 : Int32)] [(.int (0 : Int32)), (.ref r1)])) (fun t k => XS.aloadN X102.here hx rfl (hb hby own_d13_6) rfl rfl (XS.iloadN X102.here hx rfl (hb hby own_d13_7) rfl k)) ?_
  obtain ⟨c103, Ar103, q103, S103, G103, H103, F103⟩ := id V1
  have hin103 : ¬ ((0 : Int32) < 0 ∨ c103.slots.size ≤ ((0 : Int32)).toNatClampNeg) := inb_of S103 ⟨by decide, q1⟩
  have hat103 : c103.slots[((0 : Int32)).toNatClampNeg]? = some (.int bc) := H103.at hin103 q3
  refine own_by (g' := (mkF m 14 #[rv r1, iv (0 : Int32)] [(.int ((bc &&& (255 : Int32))).toUInt32.toUInt16.toUInt32.toInt32)])) (fun t k => X102.baloadBytes hx (j := (0 : Int32)) (v := (.int bc)) (own_at_ e102 Ar103.1) (State.isArrayOf_alike hZ.alike Ar103.2.1) Ar103.2.2 hin103 hat103 (g := (mkF m 8 #[rv r1, iv (0 : Int32)] [(.int (0 : Int32)), (.ref r1)])) rfl rfl (hb hby own_d13_8) t (XS.sipush X102.here hx rfl (hb hby own_d13_9) (XS.iand X102.here hx rfl (hb hby own_d13_12) rfl (XS.i2c X102.here hx rfl (hb hby own_d13_13) rfl k)))) ?_
  refine own_retN X102 hx hlk hret (t := .char) (by simp) (hb hby own_d13_14) (by decide) (by decide) ?_
  exact ⟨(congrArg (fun z => some (Value.int z)) ((own_c16 _).trans q5)), N102, e102⟩
def Q_own_getc1 (Z : State) (r1 : Addr) (k1 : ClassId) (ln : Int32) (vs : List Value) (b0 : Int32) (b1 : Int32) (xc : Int32) (h0 : Heap) (n0 : Nat) (v : Option Value) (h : Heap) (L : List Loc) : Prop := v = some (.int xc) ∧ Fr n0 L ∧ h = h0
theorem own_ef_own_getc1 (m : MethodId) (r1 : Addr) : entryFrame m #[(.ref r1), (.int (1 : Int32))] 2 = mkF m 0 #[rv r1, iv (1 : Int32)] [] := by first | (simp [entryFrame, mkF, argsToLocals, Value.category]; done) | rfl
set_option maxRecDepth 65536 in
set_option maxHeartbeats 40000000 in
theorem own_getc1 (l : Launch) (Z : State) (a0 : Array Value) (hw : ∀ d ∈ tables_1, d.before a0 Z = true) (ws : List Jvm.Cond) (r1 : Addr) (k1 : ClassId) (ln : Int32) (vs : List Value) (b0 : Int32) (b1 : Int32) (xc : Int32) (h0 : Heap) (n0 : Nat) (Z0 : n0 ≤ h0.size) (O0 : Old Z n0 h0) (S_ad : Sta Z Z.heap "java/lang/StringUTF16" "$assertionsDisabled" "Z" (.int (1 : Int32))) (S_hi : Sta Z Z.heap "java/lang/StringUTF16" "HI_BYTE_SHIFT" "I" (.int (0 : Int32))) (S_lo : Sta Z Z.heap "java/lang/StringUTF16" "LO_BYTE_SHIFT" "I" (.int (8 : Int32))) (V1 : Arv Z h0 r1 k1 .byte ln vs (.int (0 : Int32))) (q1 : (2 : Int32) < ln) (q2 : (3 : Int32) < ln) (q3 : vs.getD 2 (.int (0 : Int32)) = .int b0) (q4 : vs.getD 3 (.int (0 : Int32)) = .int b1) (q5 : own_utfc b0 b1 = xc) :
    own_Ctr l Z (⟨"java/lang/StringUTF16", "getChar", "([BI)C"⟩ : MethodName) jdk_52_method_5_code 2 (some .char) ws ({ frames := 0, cells := 0, slots := 0, locals := 0 } : Room) (({ frames := 0, cells := 0, slots := 0, locals := 0 } : Room)).cells (({ frames := 0, cells := 0, slots := 0, locals := 0 } : Room)).slots #[(.ref r1), (.int (1 : Int32))] h0 (Q_own_getc1 Z r1 k1 ln vs b0 b1 xc h0 n0) := by
  refine own_enter (plainFor_of_name own_pn2) ?_
  intro p e s m below meth c s₁ X0 hx hZ hby hml hown hnm hlk hret e0
  have N0 := Fr.nil n0
  refine own_cast (own_ef_own_getc1 m r1) ?_
  obtain ⟨T101, X101, e101, st101⟩ := getS2 X0 hx hZ hown (host := "") (Or.inl (hw _ (List.mem_of_getElem? (i := 89) rfl))) Via.refl e0 (S_ad.ext O0.2) (g := (mkF m 0 #[rv r1, iv (1 : Int32)] [])) rfl (hb hby own_d20_0)
  refine own_by (g' := (mkF m 3 #[rv r1, iv (1 : Int32)] [(.int (1 : Int32))])) st101 ?_
  refine own_by (g' := (mkF m 31 #[rv r1, iv (1 : Int32)] [(.int ((1 : Int32) <<< ((1 : Int32) &&& 31)))])) (fun t k => XS.ifYes X101.here hx rfl (pc0 := 3) (pc' := 28) rfl (hb hby own_d20_3) rfl ((if0 _ _).trans (feq (by decide : ¬ ((1 : Int32) = (0 : Int32)))).2) (by decide) (by decide) (XS.iloadN X101.here hx rfl (hb hby own_d20_28) rfl (XS.iconst X101.here hx rfl (hb hby own_d20_29) (XS.ishl X101.here hx rfl (hb hby own_d20_30) rfl k)))) ?_
  have hz : ((1 : Int32) <<< ((1 : Int32) &&& 31)) = (2 : Int32) := by decide
  rw [hz]
  refine own_by (g' := (mkF m 37 #[rv r1, iv (3 : Int32)] [(.int (2 : Int32)), (.ref r1)])) (fun t k => XS.istoreN X101.here hx rfl (hb hby own_d20_31) rfl (l' := #[rv r1, iv (2 : Int32)]) rfl (XS.aloadN X101.here hx rfl (hb hby own_d20_32) rfl rfl (XS.iloadN X101.here hx rfl (hb hby own_d20_33) rfl (XS.iinc X101.here hx rfl (hb hby own_d20_34) rfl (l' := #[rv r1, iv (3 : Int32)]) rfl k)))) ?_
  obtain ⟨c102, Ar102, q102, S102, G102, H102, F102⟩ := id V1
  have hin102 : ¬ ((2 : Int32) < 0 ∨ c102.slots.size ≤ ((2 : Int32)).toNatClampNeg) := inb_of S102 ⟨by decide, q1⟩
  have hat102 : c102.slots[((2 : Int32)).toNatClampNeg]? = some (.int b0) := H102.at hin102 q3
  refine own_by (g' := (mkF m 42 #[rv r1, iv (3 : Int32)] [(.int (b0 &&& (255 : Int32)))])) (fun t k => X101.baloadBytes hx (j := (2 : Int32)) (v := (.int b0)) (own_at_ e101 Ar102.1) (State.isArrayOf_alike hZ.alike Ar102.2.1) Ar102.2.2 hin102 hat102 (g := (mkF m 37 #[rv r1, iv (3 : Int32)] [(.int (2 : Int32)), (.ref r1)])) rfl rfl (hb hby own_d20_37) t (XS.sipush X101.here hx rfl (hb hby own_d20_38) (XS.iand X101.here hx rfl (hb hby own_d20_41) rfl k))) ?_
  obtain ⟨T103, X103, e103, st103⟩ := getS2 X101 hx hZ hown (host := "") (Or.inl (hw _ (List.mem_of_getElem? (i := 90) rfl))) Via.refl e101 (S_hi.ext O0.2) (g := (mkF m 42 #[rv r1, iv (3 : Int32)] [(.int (b0 &&& (255 : Int32)))])) rfl (hb hby own_d20_42)
  refine own_by (g' := (mkF m 45 #[rv r1, iv (3 : Int32)] [(.int (0 : Int32)), (.int (b0 &&& (255 : Int32)))])) st103 ?_
  refine own_by (g' := (mkF m 48 #[rv r1, iv (3 : Int32)] [(.int (3 : Int32)), (.ref r1), (.int ((b0 &&& (255 : Int32)) <<< ((0 : Int32) &&& 31)))])) (fun t k => XS.ishl X103.here hx rfl (hb hby own_d20_45) rfl (XS.aloadN X103.here hx rfl (hb hby own_d20_46) rfl rfl (XS.iloadN X103.here hx rfl (hb hby own_d20_47) rfl k))) ?_
  obtain ⟨c104, Ar104, q104, S104, G104, H104, F104⟩ := id V1
  have hin104 : ¬ ((3 : Int32) < 0 ∨ c104.slots.size ≤ ((3 : Int32)).toNatClampNeg) := inb_of S104 ⟨by decide, q2⟩
  have hat104 : c104.slots[((3 : Int32)).toNatClampNeg]? = some (.int b1) := H104.at hin104 q4
  refine own_by (g' := (mkF m 53 #[rv r1, iv (3 : Int32)] [(.int (b1 &&& (255 : Int32))), (.int ((b0 &&& (255 : Int32)) <<< ((0 : Int32) &&& 31)))])) (fun t k => X103.baloadBytes hx (j := (3 : Int32)) (v := (.int b1)) (own_at_ e103 Ar104.1) (State.isArrayOf_alike hZ.alike Ar104.2.1) Ar104.2.2 hin104 hat104 (g := (mkF m 48 #[rv r1, iv (3 : Int32)] [(.int (3 : Int32)), (.ref r1), (.int ((b0 &&& (255 : Int32)) <<< ((0 : Int32) &&& 31)))])) rfl rfl (hb hby own_d20_48) t (XS.sipush X103.here hx rfl (hb hby own_d20_49) (XS.iand X103.here hx rfl (hb hby own_d20_52) rfl k))) ?_
  obtain ⟨T105, X105, e105, st105⟩ := getS2 X103 hx hZ hown (host := "") (Or.inl (hw _ (List.mem_of_getElem? (i := 91) rfl))) Via.refl e103 (S_lo.ext O0.2) (g := (mkF m 53 #[rv r1, iv (3 : Int32)] [(.int (b1 &&& (255 : Int32))), (.int ((b0 &&& (255 : Int32)) <<< ((0 : Int32) &&& 31)))])) rfl (hb hby own_d20_53)
  refine own_by (g' := (mkF m 56 #[rv r1, iv (3 : Int32)] [(.int (8 : Int32)), (.int (b1 &&& (255 : Int32))), (.int ((b0 &&& (255 : Int32)) <<< ((0 : Int32) &&& 31)))])) st105 ?_
  refine own_by (g' := (mkF m 59 #[rv r1, iv (3 : Int32)] [(.int ((((b0 &&& (255 : Int32)) <<< ((0 : Int32) &&& 31)) ||| ((b1 &&& (255 : Int32)) <<< ((8 : Int32) &&& 31)))).toUInt32.toUInt16.toUInt32.toInt32)])) (fun t k => XS.ishl X105.here hx rfl (hb hby own_d20_56) rfl (XS.ior X105.here hx rfl (hb hby own_d20_57) rfl (XS.i2c X105.here hx rfl (hb hby own_d20_58) rfl k))) ?_
  refine own_retN X105 hx hlk hret (t := .char) (by simp) (hb hby own_d20_59) (by decide) (by decide) ?_
  exact ⟨(congrArg (fun z => some (Value.int z)) ((own_c16 _).trans q5)), N0, e105⟩
def Q_own_uchar1 (Z : State) (r1 : Addr) (k1 : ClassId) (ln : Int32) (vs : List Value) (b0 : Int32) (b1 : Int32) (xc : Int32) (vsf : Value) (h0 : Heap) (n0 : Nat) (v : Option Value) (h : Heap) (L : List Loc) : Prop := v = some (.int xc) ∧ Fr n0 L ∧ h = h0
theorem own_ef_own_uchar1 (m : MethodId) (r1 : Addr) : entryFrame m #[(.ref r1), (.int (1 : Int32))] 2 = mkF m 0 #[rv r1, iv (1 : Int32)] [] := by first | (simp [entryFrame, mkF, argsToLocals, Value.category]; done) | rfl
set_option maxRecDepth 65536 in
set_option maxHeartbeats 40000000 in
theorem own_uchar1 (l : Launch) (Z : State) (a0 : Array Value) (hw : ∀ d ∈ tables_1, d.before a0 Z = true) (ws : List Jvm.Cond) (r1 : Addr) (k1 : ClassId) (ln : Int32) (vs : List Value) (b0 : Int32) (b1 : Int32) (xc : Int32) (vsf : Value) (h0 : Heap) (n0 : Nat) (Z0 : n0 ≤ h0.size) (O0 : Old Z n0 h0) (S_ad : Sta Z Z.heap "java/lang/StringUTF16" "$assertionsDisabled" "Z" (.int (1 : Int32))) (S_hi : Sta Z Z.heap "java/lang/StringUTF16" "HI_BYTE_SHIFT" "I" (.int (0 : Int32))) (S_lo : Sta Z Z.heap "java/lang/StringUTF16" "LO_BYTE_SHIFT" "I" (.int (8 : Int32))) (S_sf : Sta Z Z.heap "jdk/internal/util/Preconditions" "SIOOBE_FORMATTER" "Ljava/util/function/BiFunction;" vsf) (r_sf : (vsf).isRef = true) (q0 : (1 : Int32) < (ln >>> ((1 : Int32) &&& 31))) (V1 : Arv Z h0 r1 k1 .byte ln vs (.int (0 : Int32))) (q1 : (2 : Int32) < ln) (q2 : (3 : Int32) < ln) (q3 : vs.getD 2 (.int (0 : Int32)) = .int b0) (q4 : vs.getD 3 (.int (0 : Int32)) = .int b1) (q5 : own_utfc b0 b1 = xc) :
    own_Ctr l Z (⟨"java/lang/StringUTF16", "charAt", "([BI)C"⟩ : MethodName) jdk_52_method_83_code 2 (some .char) ws ({ frames := 3, cells := 0, slots := 0, locals := 40 } : Room) (({ frames := 3, cells := 0, slots := 0, locals := 40 } : Room)).cells (({ frames := 3, cells := 0, slots := 0, locals := 40 } : Room)).slots #[(.ref r1), (.int (1 : Int32))] h0 (Q_own_uchar1 Z r1 k1 ln vs b0 b1 xc vsf h0 n0) := by
  refine own_enter (plainFor_of_name own_pn2) ?_
  intro p e s m below meth c s₁ X0 hx hZ hby hml hown hnm hlk hret e0
  have N0 := Fr.nil n0
  refine own_cast (own_ef_own_uchar1 m r1) ?_
  refine own_by (g' := (mkF m 2 #[rv r1, iv (1 : Int32)] [(.ref r1), (.int (1 : Int32))])) (fun t k => XS.iloadN X0.here hx rfl (hb hby own_d21_0) rfl (XS.aloadN X0.here hx rfl (hb hby own_d21_1) rfl rfl k)) ?_
  refine own_callS X0 hx hZ hown (hw _ (List.mem_of_getElem? (i := 98) rfl)) (hw _ (List.mem_of_getElem? (i := 99) rfl)) (hw _ (List.mem_of_getElem? (i := 22) rfl)) (hw _ (List.mem_of_getElem? (i := 100) rfl)) (by decide) (own_uchk l Z a0 hw [] (r1) (k1) (ln) (vs) ((1 : Int32)) (vsf) h0 n0 Z0 O0 S_sf r_sf V1 (by decide) q0) 0 (by decide) (by decide) (by decide) (by decide) e0 (g := (mkF m 2 #[rv r1, iv (1 : Int32)] [(.ref r1), (.int (1 : Int32))])) rfl (by rw [hml]; rfl) (argsL := [(.int (1 : Int32)), (.ref r1)]) (rest := []) (lenOf own_pd3 rfl) rfl (by show 2 * 0 + _ ≤ _; exact Nat.le_of_eq rfl) (hb hby own_d21_2) ?_
  intro v101 T101 L101 X101 q101
  obtain ⟨rfl, N101q, e101⟩ := q101
  have N101 := Fr.app N0 N101q
  show own_Goes p e below s _ _ _ T101 (mkF m 5 #[rv r1, iv (1 : Int32)] [])
  refine own_by (g' := (mkF m 7 #[rv r1, iv (1 : Int32)] [(.int (1 : Int32)), (.ref r1)])) (fun t k => XS.aloadN X101.here hx rfl (hb hby own_d21_5) rfl rfl (XS.iloadN X101.here hx rfl (hb hby own_d21_6) rfl k)) ?_
  refine own_callS X101 hx hZ hown (hw _ (List.mem_of_getElem? (i := 92) rfl)) (hw _ (List.mem_of_getElem? (i := 93) rfl)) (hw _ (List.mem_of_getElem? (i := 22) rfl)) (hw _ (List.mem_of_getElem? (i := 94) rfl)) (by decide) (own_getc1 l Z a0 hw [] (r1) (k1) (ln) (vs) (b0) (b1) (xc) h0 n0 Z0 O0 S_ad S_hi S_lo V1 (by first | assumption | decide) (by first | assumption | decide) (by first | assumption | decide) (by first | assumption | decide) (by first | assumption | decide)) 0 (by decide) (by decide) (by decide) (by decide) e101 (g := (mkF m 7 #[rv r1, iv (1 : Int32)] [(.int (1 : Int32)), (.ref r1)])) rfl (by rw [hml]; rfl) (argsL := [(.ref r1), (.int (1 : Int32))]) (rest := []) (lenOf own_pd4 rfl) rfl (by show 2 * 0 + _ ≤ _; exact Nat.le_of_eq rfl) (hb hby own_d21_7) ?_
  intro v102 T102 L102 X102 q102
  obtain ⟨rfl, N102q, e102⟩ := q102
  have N102 := Fr.app N101 N102q
  show own_Goes p e below s _ _ _ T102 (mkF m 10 #[rv r1, iv (1 : Int32)] [(.int xc)])
  refine own_retN X102 hx hlk hret (t := .char) (by simp) (hb hby own_d21_10) (by decide) (by decide) ?_
  exact ⟨(by rw [show nar .char xc = xc from by rw [← q5]; exact own_c16 _]), N102, e102⟩
def Q_own_lchar1 (Z : State) (r1 : Addr) (k1 : ClassId) (ln : Int32) (vs : List Value) (bc : Int32) (xc : Int32) (vsf : Value) (h0 : Heap) (n0 : Nat) (v : Option Value) (h : Heap) (L : List Loc) : Prop := v = some (.int xc) ∧ Fr n0 L ∧ h = h0
theorem own_ef_own_lchar1 (m : MethodId) (r1 : Addr) : entryFrame m #[(.ref r1), (.int (1 : Int32))] 2 = mkF m 0 #[rv r1, iv (1 : Int32)] [] := by first | (simp [entryFrame, mkF, argsToLocals, Value.category]; done) | rfl
set_option maxRecDepth 65536 in
set_option maxHeartbeats 40000000 in
theorem own_lchar1 (l : Launch) (Z : State) (a0 : Array Value) (hw : ∀ d ∈ tables_1, d.before a0 Z = true) (ws : List Jvm.Cond) (r1 : Addr) (k1 : ClassId) (ln : Int32) (vs : List Value) (bc : Int32) (xc : Int32) (vsf : Value) (h0 : Heap) (n0 : Nat) (Z0 : n0 ≤ h0.size) (O0 : Old Z n0 h0) (S_sf : Sta Z Z.heap "jdk/internal/util/Preconditions" "SIOOBE_FORMATTER" "Ljava/util/function/BiFunction;" vsf) (r_sf : (vsf).isRef = true) (V1 : Arv Z h0 r1 k1 .byte ln vs (.int (0 : Int32))) (q1 : (1 : Int32) < ln) (q3 : vs.getD 1 (.int (0 : Int32)) = .int bc) (q5 : own_latc bc = xc) :
    own_Ctr l Z (⟨"java/lang/StringLatin1", "charAt", "([BI)C"⟩ : MethodName) jdk_43_method_2_code 2 (some .char) ws ({ frames := 2, cells := 0, slots := 0, locals := 27 } : Room) (({ frames := 2, cells := 0, slots := 0, locals := 27 } : Room)).cells (({ frames := 2, cells := 0, slots := 0, locals := 27 } : Room)).slots #[(.ref r1), (.int (1 : Int32))] h0 (Q_own_lchar1 Z r1 k1 ln vs bc xc vsf h0 n0) := by
  refine own_enter (plainFor_of_name own_pn3) ?_
  intro p e s m below meth c s₁ X0 hx hZ hby hml hown hnm hlk hret e0
  have N0 := Fr.nil n0
  refine own_cast (own_ef_own_lchar1 m r1) ?_
  refine own_by (g' := (mkF m 2 #[rv r1, iv (1 : Int32)] [(.ref r1), (.int (1 : Int32))])) (fun t k => XS.iloadN X0.here hx rfl (hb hby own_d13_0) rfl (XS.aloadN X0.here hx rfl (hb hby own_d13_1) rfl rfl k)) ?_
  obtain ⟨c101, Ar101, -, S101, G101, -, -⟩ := id V1
  refine own_by (g' := (mkF m 3 #[rv r1, iv (1 : Int32)] [(.int ln), (.int (1 : Int32))])) (fun t k => X0.arraylength hx (own_at_ e0 Ar101.1) (State.isArrayOf_alike hZ.alike Ar101.2.1) (g := (mkF m 2 #[rv r1, iv (1 : Int32)] [(.ref r1), (.int (1 : Int32))])) rfl rfl (hb hby own_d13_2) t (by rw [len_of S101 G101]; exact k)) ?_
  refine own_callS X0 hx hZ hown (hw _ (List.mem_of_getElem? (i := 67) rfl)) (hw _ (List.mem_of_getElem? (i := 68) rfl)) (hw _ (List.mem_of_getElem? (i := 7) rfl)) (hw _ (List.mem_of_getElem? (i := 69) rfl)) (by decide) (own_schk l Z a0 hw [] ((1 : Int32)) (ln) (vsf) h0 n0 Z0 O0 S_sf r_sf (by decide) q1) 0 (by decide) (by decide) (by decide) (by decide) e0 (g := (mkF m 3 #[rv r1, iv (1 : Int32)] [(.int ln), (.int (1 : Int32))])) rfl (by rw [hml]; rfl) (argsL := [(.int (1 : Int32)), (.int ln)]) (rest := []) (lenOf own_pd2 rfl) rfl (by show 2 * 0 + _ ≤ _; exact Nat.le_of_eq rfl) (hb hby own_d13_3) ?_
  intro v102 T102 L102 X102 q102
  obtain ⟨rfl, N102q, e102⟩ := q102
  have N102 := Fr.app N0 N102q
  show own_Goes p e below s _ _ _ T102 (mkF m 6 #[rv r1, iv (1 : Int32)] [])
  refine own_by (g' := (mkF m 8 #[rv r1, iv (1 : Int32)] [(.int (1 : Int32)), (.ref r1)])) (fun t k => XS.aloadN X102.here hx rfl (hb hby own_d13_6) rfl rfl (XS.iloadN X102.here hx rfl (hb hby own_d13_7) rfl k)) ?_
  obtain ⟨c103, Ar103, q103, S103, G103, H103, F103⟩ := id V1
  have hin103 : ¬ ((1 : Int32) < 0 ∨ c103.slots.size ≤ ((1 : Int32)).toNatClampNeg) := inb_of S103 ⟨by decide, q1⟩
  have hat103 : c103.slots[((1 : Int32)).toNatClampNeg]? = some (.int bc) := H103.at hin103 q3
  refine own_by (g' := (mkF m 14 #[rv r1, iv (1 : Int32)] [(.int ((bc &&& (255 : Int32))).toUInt32.toUInt16.toUInt32.toInt32)])) (fun t k => X102.baloadBytes hx (j := (1 : Int32)) (v := (.int bc)) (own_at_ e102 Ar103.1) (State.isArrayOf_alike hZ.alike Ar103.2.1) Ar103.2.2 hin103 hat103 (g := (mkF m 8 #[rv r1, iv (1 : Int32)] [(.int (1 : Int32)), (.ref r1)])) rfl rfl (hb hby own_d13_8) t (XS.sipush X102.here hx rfl (hb hby own_d13_9) (XS.iand X102.here hx rfl (hb hby own_d13_12) rfl (XS.i2c X102.here hx rfl (hb hby own_d13_13) rfl k)))) ?_
  refine own_retN X102 hx hlk hret (t := .char) (by simp) (hb hby own_d13_14) (by decide) (by decide) ?_
  exact ⟨(congrArg (fun z => some (Value.int z)) ((own_c16 _).trans q5)), N102, e102⟩
def Q_own_getc2 (Z : State) (r1 : Addr) (k1 : ClassId) (ln : Int32) (vs : List Value) (b0 : Int32) (b1 : Int32) (xc : Int32) (h0 : Heap) (n0 : Nat) (v : Option Value) (h : Heap) (L : List Loc) : Prop := v = some (.int xc) ∧ Fr n0 L ∧ h = h0
theorem own_ef_own_getc2 (m : MethodId) (r1 : Addr) : entryFrame m #[(.ref r1), (.int (2 : Int32))] 2 = mkF m 0 #[rv r1, iv (2 : Int32)] [] := by first | (simp [entryFrame, mkF, argsToLocals, Value.category]; done) | rfl
set_option maxRecDepth 65536 in
set_option maxHeartbeats 40000000 in
theorem own_getc2 (l : Launch) (Z : State) (a0 : Array Value) (hw : ∀ d ∈ tables_1, d.before a0 Z = true) (ws : List Jvm.Cond) (r1 : Addr) (k1 : ClassId) (ln : Int32) (vs : List Value) (b0 : Int32) (b1 : Int32) (xc : Int32) (h0 : Heap) (n0 : Nat) (Z0 : n0 ≤ h0.size) (O0 : Old Z n0 h0) (S_ad : Sta Z Z.heap "java/lang/StringUTF16" "$assertionsDisabled" "Z" (.int (1 : Int32))) (S_hi : Sta Z Z.heap "java/lang/StringUTF16" "HI_BYTE_SHIFT" "I" (.int (0 : Int32))) (S_lo : Sta Z Z.heap "java/lang/StringUTF16" "LO_BYTE_SHIFT" "I" (.int (8 : Int32))) (V1 : Arv Z h0 r1 k1 .byte ln vs (.int (0 : Int32))) (q1 : (4 : Int32) < ln) (q2 : (5 : Int32) < ln) (q3 : vs.getD 4 (.int (0 : Int32)) = .int b0) (q4 : vs.getD 5 (.int (0 : Int32)) = .int b1) (q5 : own_utfc b0 b1 = xc) :
    own_Ctr l Z (⟨"java/lang/StringUTF16", "getChar", "([BI)C"⟩ : MethodName) jdk_52_method_5_code 2 (some .char) ws ({ frames := 0, cells := 0, slots := 0, locals := 0 } : Room) (({ frames := 0, cells := 0, slots := 0, locals := 0 } : Room)).cells (({ frames := 0, cells := 0, slots := 0, locals := 0 } : Room)).slots #[(.ref r1), (.int (2 : Int32))] h0 (Q_own_getc2 Z r1 k1 ln vs b0 b1 xc h0 n0) := by
  refine own_enter (plainFor_of_name own_pn2) ?_
  intro p e s m below meth c s₁ X0 hx hZ hby hml hown hnm hlk hret e0
  have N0 := Fr.nil n0
  refine own_cast (own_ef_own_getc2 m r1) ?_
  obtain ⟨T101, X101, e101, st101⟩ := getS2 X0 hx hZ hown (host := "") (Or.inl (hw _ (List.mem_of_getElem? (i := 89) rfl))) Via.refl e0 (S_ad.ext O0.2) (g := (mkF m 0 #[rv r1, iv (2 : Int32)] [])) rfl (hb hby own_d20_0)
  refine own_by (g' := (mkF m 3 #[rv r1, iv (2 : Int32)] [(.int (1 : Int32))])) st101 ?_
  refine own_by (g' := (mkF m 31 #[rv r1, iv (2 : Int32)] [(.int ((2 : Int32) <<< ((1 : Int32) &&& 31)))])) (fun t k => XS.ifYes X101.here hx rfl (pc0 := 3) (pc' := 28) rfl (hb hby own_d20_3) rfl ((if0 _ _).trans (feq (by decide : ¬ ((1 : Int32) = (0 : Int32)))).2) (by decide) (by decide) (XS.iloadN X101.here hx rfl (hb hby own_d20_28) rfl (XS.iconst X101.here hx rfl (hb hby own_d20_29) (XS.ishl X101.here hx rfl (hb hby own_d20_30) rfl k)))) ?_
  have hz : ((2 : Int32) <<< ((1 : Int32) &&& 31)) = (4 : Int32) := by decide
  rw [hz]
  refine own_by (g' := (mkF m 37 #[rv r1, iv (5 : Int32)] [(.int (4 : Int32)), (.ref r1)])) (fun t k => XS.istoreN X101.here hx rfl (hb hby own_d20_31) rfl (l' := #[rv r1, iv (4 : Int32)]) rfl (XS.aloadN X101.here hx rfl (hb hby own_d20_32) rfl rfl (XS.iloadN X101.here hx rfl (hb hby own_d20_33) rfl (XS.iinc X101.here hx rfl (hb hby own_d20_34) rfl (l' := #[rv r1, iv (5 : Int32)]) rfl k)))) ?_
  obtain ⟨c102, Ar102, q102, S102, G102, H102, F102⟩ := id V1
  have hin102 : ¬ ((4 : Int32) < 0 ∨ c102.slots.size ≤ ((4 : Int32)).toNatClampNeg) := inb_of S102 ⟨by decide, q1⟩
  have hat102 : c102.slots[((4 : Int32)).toNatClampNeg]? = some (.int b0) := H102.at hin102 q3
  refine own_by (g' := (mkF m 42 #[rv r1, iv (5 : Int32)] [(.int (b0 &&& (255 : Int32)))])) (fun t k => X101.baloadBytes hx (j := (4 : Int32)) (v := (.int b0)) (own_at_ e101 Ar102.1) (State.isArrayOf_alike hZ.alike Ar102.2.1) Ar102.2.2 hin102 hat102 (g := (mkF m 37 #[rv r1, iv (5 : Int32)] [(.int (4 : Int32)), (.ref r1)])) rfl rfl (hb hby own_d20_37) t (XS.sipush X101.here hx rfl (hb hby own_d20_38) (XS.iand X101.here hx rfl (hb hby own_d20_41) rfl k))) ?_
  obtain ⟨T103, X103, e103, st103⟩ := getS2 X101 hx hZ hown (host := "") (Or.inl (hw _ (List.mem_of_getElem? (i := 90) rfl))) Via.refl e101 (S_hi.ext O0.2) (g := (mkF m 42 #[rv r1, iv (5 : Int32)] [(.int (b0 &&& (255 : Int32)))])) rfl (hb hby own_d20_42)
  refine own_by (g' := (mkF m 45 #[rv r1, iv (5 : Int32)] [(.int (0 : Int32)), (.int (b0 &&& (255 : Int32)))])) st103 ?_
  refine own_by (g' := (mkF m 48 #[rv r1, iv (5 : Int32)] [(.int (5 : Int32)), (.ref r1), (.int ((b0 &&& (255 : Int32)) <<< ((0 : Int32) &&& 31)))])) (fun t k => XS.ishl X103.here hx rfl (hb hby own_d20_45) rfl (XS.aloadN X103.here hx rfl (hb hby own_d20_46) rfl rfl (XS.iloadN X103.here hx rfl (hb hby own_d20_47) rfl k))) ?_
  obtain ⟨c104, Ar104, q104, S104, G104, H104, F104⟩ := id V1
  have hin104 : ¬ ((5 : Int32) < 0 ∨ c104.slots.size ≤ ((5 : Int32)).toNatClampNeg) := inb_of S104 ⟨by decide, q2⟩
  have hat104 : c104.slots[((5 : Int32)).toNatClampNeg]? = some (.int b1) := H104.at hin104 q4
  refine own_by (g' := (mkF m 53 #[rv r1, iv (5 : Int32)] [(.int (b1 &&& (255 : Int32))), (.int ((b0 &&& (255 : Int32)) <<< ((0 : Int32) &&& 31)))])) (fun t k => X103.baloadBytes hx (j := (5 : Int32)) (v := (.int b1)) (own_at_ e103 Ar104.1) (State.isArrayOf_alike hZ.alike Ar104.2.1) Ar104.2.2 hin104 hat104 (g := (mkF m 48 #[rv r1, iv (5 : Int32)] [(.int (5 : Int32)), (.ref r1), (.int ((b0 &&& (255 : Int32)) <<< ((0 : Int32) &&& 31)))])) rfl rfl (hb hby own_d20_48) t (XS.sipush X103.here hx rfl (hb hby own_d20_49) (XS.iand X103.here hx rfl (hb hby own_d20_52) rfl k))) ?_
  obtain ⟨T105, X105, e105, st105⟩ := getS2 X103 hx hZ hown (host := "") (Or.inl (hw _ (List.mem_of_getElem? (i := 91) rfl))) Via.refl e103 (S_lo.ext O0.2) (g := (mkF m 53 #[rv r1, iv (5 : Int32)] [(.int (b1 &&& (255 : Int32))), (.int ((b0 &&& (255 : Int32)) <<< ((0 : Int32) &&& 31)))])) rfl (hb hby own_d20_53)
  refine own_by (g' := (mkF m 56 #[rv r1, iv (5 : Int32)] [(.int (8 : Int32)), (.int (b1 &&& (255 : Int32))), (.int ((b0 &&& (255 : Int32)) <<< ((0 : Int32) &&& 31)))])) st105 ?_
  refine own_by (g' := (mkF m 59 #[rv r1, iv (5 : Int32)] [(.int ((((b0 &&& (255 : Int32)) <<< ((0 : Int32) &&& 31)) ||| ((b1 &&& (255 : Int32)) <<< ((8 : Int32) &&& 31)))).toUInt32.toUInt16.toUInt32.toInt32)])) (fun t k => XS.ishl X105.here hx rfl (hb hby own_d20_56) rfl (XS.ior X105.here hx rfl (hb hby own_d20_57) rfl (XS.i2c X105.here hx rfl (hb hby own_d20_58) rfl k))) ?_
  refine own_retN X105 hx hlk hret (t := .char) (by simp) (hb hby own_d20_59) (by decide) (by decide) ?_
  exact ⟨(congrArg (fun z => some (Value.int z)) ((own_c16 _).trans q5)), N0, e105⟩
def Q_own_uchar2 (Z : State) (r1 : Addr) (k1 : ClassId) (ln : Int32) (vs : List Value) (b0 : Int32) (b1 : Int32) (xc : Int32) (vsf : Value) (h0 : Heap) (n0 : Nat) (v : Option Value) (h : Heap) (L : List Loc) : Prop := v = some (.int xc) ∧ Fr n0 L ∧ h = h0
theorem own_ef_own_uchar2 (m : MethodId) (r1 : Addr) : entryFrame m #[(.ref r1), (.int (2 : Int32))] 2 = mkF m 0 #[rv r1, iv (2 : Int32)] [] := by first | (simp [entryFrame, mkF, argsToLocals, Value.category]; done) | rfl
set_option maxRecDepth 65536 in
set_option maxHeartbeats 40000000 in
theorem own_uchar2 (l : Launch) (Z : State) (a0 : Array Value) (hw : ∀ d ∈ tables_1, d.before a0 Z = true) (ws : List Jvm.Cond) (r1 : Addr) (k1 : ClassId) (ln : Int32) (vs : List Value) (b0 : Int32) (b1 : Int32) (xc : Int32) (vsf : Value) (h0 : Heap) (n0 : Nat) (Z0 : n0 ≤ h0.size) (O0 : Old Z n0 h0) (S_ad : Sta Z Z.heap "java/lang/StringUTF16" "$assertionsDisabled" "Z" (.int (1 : Int32))) (S_hi : Sta Z Z.heap "java/lang/StringUTF16" "HI_BYTE_SHIFT" "I" (.int (0 : Int32))) (S_lo : Sta Z Z.heap "java/lang/StringUTF16" "LO_BYTE_SHIFT" "I" (.int (8 : Int32))) (S_sf : Sta Z Z.heap "jdk/internal/util/Preconditions" "SIOOBE_FORMATTER" "Ljava/util/function/BiFunction;" vsf) (r_sf : (vsf).isRef = true) (q0 : (2 : Int32) < (ln >>> ((1 : Int32) &&& 31))) (V1 : Arv Z h0 r1 k1 .byte ln vs (.int (0 : Int32))) (q1 : (4 : Int32) < ln) (q2 : (5 : Int32) < ln) (q3 : vs.getD 4 (.int (0 : Int32)) = .int b0) (q4 : vs.getD 5 (.int (0 : Int32)) = .int b1) (q5 : own_utfc b0 b1 = xc) :
    own_Ctr l Z (⟨"java/lang/StringUTF16", "charAt", "([BI)C"⟩ : MethodName) jdk_52_method_83_code 2 (some .char) ws ({ frames := 3, cells := 0, slots := 0, locals := 40 } : Room) (({ frames := 3, cells := 0, slots := 0, locals := 40 } : Room)).cells (({ frames := 3, cells := 0, slots := 0, locals := 40 } : Room)).slots #[(.ref r1), (.int (2 : Int32))] h0 (Q_own_uchar2 Z r1 k1 ln vs b0 b1 xc vsf h0 n0) := by
  refine own_enter (plainFor_of_name own_pn2) ?_
  intro p e s m below meth c s₁ X0 hx hZ hby hml hown hnm hlk hret e0
  have N0 := Fr.nil n0
  refine own_cast (own_ef_own_uchar2 m r1) ?_
  refine own_by (g' := (mkF m 2 #[rv r1, iv (2 : Int32)] [(.ref r1), (.int (2 : Int32))])) (fun t k => XS.iloadN X0.here hx rfl (hb hby own_d21_0) rfl (XS.aloadN X0.here hx rfl (hb hby own_d21_1) rfl rfl k)) ?_
  refine own_callS X0 hx hZ hown (hw _ (List.mem_of_getElem? (i := 98) rfl)) (hw _ (List.mem_of_getElem? (i := 99) rfl)) (hw _ (List.mem_of_getElem? (i := 22) rfl)) (hw _ (List.mem_of_getElem? (i := 100) rfl)) (by decide) (own_uchk l Z a0 hw [] (r1) (k1) (ln) (vs) ((2 : Int32)) (vsf) h0 n0 Z0 O0 S_sf r_sf V1 (by decide) q0) 0 (by decide) (by decide) (by decide) (by decide) e0 (g := (mkF m 2 #[rv r1, iv (2 : Int32)] [(.ref r1), (.int (2 : Int32))])) rfl (by rw [hml]; rfl) (argsL := [(.int (2 : Int32)), (.ref r1)]) (rest := []) (lenOf own_pd3 rfl) rfl (by show 2 * 0 + _ ≤ _; exact Nat.le_of_eq rfl) (hb hby own_d21_2) ?_
  intro v101 T101 L101 X101 q101
  obtain ⟨rfl, N101q, e101⟩ := q101
  have N101 := Fr.app N0 N101q
  show own_Goes p e below s _ _ _ T101 (mkF m 5 #[rv r1, iv (2 : Int32)] [])
  refine own_by (g' := (mkF m 7 #[rv r1, iv (2 : Int32)] [(.int (2 : Int32)), (.ref r1)])) (fun t k => XS.aloadN X101.here hx rfl (hb hby own_d21_5) rfl rfl (XS.iloadN X101.here hx rfl (hb hby own_d21_6) rfl k)) ?_
  refine own_callS X101 hx hZ hown (hw _ (List.mem_of_getElem? (i := 92) rfl)) (hw _ (List.mem_of_getElem? (i := 93) rfl)) (hw _ (List.mem_of_getElem? (i := 22) rfl)) (hw _ (List.mem_of_getElem? (i := 94) rfl)) (by decide) (own_getc2 l Z a0 hw [] (r1) (k1) (ln) (vs) (b0) (b1) (xc) h0 n0 Z0 O0 S_ad S_hi S_lo V1 (by first | assumption | decide) (by first | assumption | decide) (by first | assumption | decide) (by first | assumption | decide) (by first | assumption | decide)) 0 (by decide) (by decide) (by decide) (by decide) e101 (g := (mkF m 7 #[rv r1, iv (2 : Int32)] [(.int (2 : Int32)), (.ref r1)])) rfl (by rw [hml]; rfl) (argsL := [(.ref r1), (.int (2 : Int32))]) (rest := []) (lenOf own_pd4 rfl) rfl (by show 2 * 0 + _ ≤ _; exact Nat.le_of_eq rfl) (hb hby own_d21_7) ?_
  intro v102 T102 L102 X102 q102
  obtain ⟨rfl, N102q, e102⟩ := q102
  have N102 := Fr.app N101 N102q
  show own_Goes p e below s _ _ _ T102 (mkF m 10 #[rv r1, iv (2 : Int32)] [(.int xc)])
  refine own_retN X102 hx hlk hret (t := .char) (by simp) (hb hby own_d21_10) (by decide) (by decide) ?_
  exact ⟨(by rw [show nar .char xc = xc from by rw [← q5]; exact own_c16 _]), N102, e102⟩
def Q_own_lchar2 (Z : State) (r1 : Addr) (k1 : ClassId) (ln : Int32) (vs : List Value) (bc : Int32) (xc : Int32) (vsf : Value) (h0 : Heap) (n0 : Nat) (v : Option Value) (h : Heap) (L : List Loc) : Prop := v = some (.int xc) ∧ Fr n0 L ∧ h = h0
theorem own_ef_own_lchar2 (m : MethodId) (r1 : Addr) : entryFrame m #[(.ref r1), (.int (2 : Int32))] 2 = mkF m 0 #[rv r1, iv (2 : Int32)] [] := by first | (simp [entryFrame, mkF, argsToLocals, Value.category]; done) | rfl
set_option maxRecDepth 65536 in
set_option maxHeartbeats 40000000 in
theorem own_lchar2 (l : Launch) (Z : State) (a0 : Array Value) (hw : ∀ d ∈ tables_1, d.before a0 Z = true) (ws : List Jvm.Cond) (r1 : Addr) (k1 : ClassId) (ln : Int32) (vs : List Value) (bc : Int32) (xc : Int32) (vsf : Value) (h0 : Heap) (n0 : Nat) (Z0 : n0 ≤ h0.size) (O0 : Old Z n0 h0) (S_sf : Sta Z Z.heap "jdk/internal/util/Preconditions" "SIOOBE_FORMATTER" "Ljava/util/function/BiFunction;" vsf) (r_sf : (vsf).isRef = true) (V1 : Arv Z h0 r1 k1 .byte ln vs (.int (0 : Int32))) (q1 : (2 : Int32) < ln) (q3 : vs.getD 2 (.int (0 : Int32)) = .int bc) (q5 : own_latc bc = xc) :
    own_Ctr l Z (⟨"java/lang/StringLatin1", "charAt", "([BI)C"⟩ : MethodName) jdk_43_method_2_code 2 (some .char) ws ({ frames := 2, cells := 0, slots := 0, locals := 27 } : Room) (({ frames := 2, cells := 0, slots := 0, locals := 27 } : Room)).cells (({ frames := 2, cells := 0, slots := 0, locals := 27 } : Room)).slots #[(.ref r1), (.int (2 : Int32))] h0 (Q_own_lchar2 Z r1 k1 ln vs bc xc vsf h0 n0) := by
  refine own_enter (plainFor_of_name own_pn3) ?_
  intro p e s m below meth c s₁ X0 hx hZ hby hml hown hnm hlk hret e0
  have N0 := Fr.nil n0
  refine own_cast (own_ef_own_lchar2 m r1) ?_
  refine own_by (g' := (mkF m 2 #[rv r1, iv (2 : Int32)] [(.ref r1), (.int (2 : Int32))])) (fun t k => XS.iloadN X0.here hx rfl (hb hby own_d13_0) rfl (XS.aloadN X0.here hx rfl (hb hby own_d13_1) rfl rfl k)) ?_
  obtain ⟨c101, Ar101, -, S101, G101, -, -⟩ := id V1
  refine own_by (g' := (mkF m 3 #[rv r1, iv (2 : Int32)] [(.int ln), (.int (2 : Int32))])) (fun t k => X0.arraylength hx (own_at_ e0 Ar101.1) (State.isArrayOf_alike hZ.alike Ar101.2.1) (g := (mkF m 2 #[rv r1, iv (2 : Int32)] [(.ref r1), (.int (2 : Int32))])) rfl rfl (hb hby own_d13_2) t (by rw [len_of S101 G101]; exact k)) ?_
  refine own_callS X0 hx hZ hown (hw _ (List.mem_of_getElem? (i := 67) rfl)) (hw _ (List.mem_of_getElem? (i := 68) rfl)) (hw _ (List.mem_of_getElem? (i := 7) rfl)) (hw _ (List.mem_of_getElem? (i := 69) rfl)) (by decide) (own_schk l Z a0 hw [] ((2 : Int32)) (ln) (vsf) h0 n0 Z0 O0 S_sf r_sf (by decide) q1) 0 (by decide) (by decide) (by decide) (by decide) e0 (g := (mkF m 3 #[rv r1, iv (2 : Int32)] [(.int ln), (.int (2 : Int32))])) rfl (by rw [hml]; rfl) (argsL := [(.int (2 : Int32)), (.int ln)]) (rest := []) (lenOf own_pd2 rfl) rfl (by show 2 * 0 + _ ≤ _; exact Nat.le_of_eq rfl) (hb hby own_d13_3) ?_
  intro v102 T102 L102 X102 q102
  obtain ⟨rfl, N102q, e102⟩ := q102
  have N102 := Fr.app N0 N102q
  show own_Goes p e below s _ _ _ T102 (mkF m 6 #[rv r1, iv (2 : Int32)] [])
  refine own_by (g' := (mkF m 8 #[rv r1, iv (2 : Int32)] [(.int (2 : Int32)), (.ref r1)])) (fun t k => XS.aloadN X102.here hx rfl (hb hby own_d13_6) rfl rfl (XS.iloadN X102.here hx rfl (hb hby own_d13_7) rfl k)) ?_
  obtain ⟨c103, Ar103, q103, S103, G103, H103, F103⟩ := id V1
  have hin103 : ¬ ((2 : Int32) < 0 ∨ c103.slots.size ≤ ((2 : Int32)).toNatClampNeg) := inb_of S103 ⟨by decide, q1⟩
  have hat103 : c103.slots[((2 : Int32)).toNatClampNeg]? = some (.int bc) := H103.at hin103 q3
  refine own_by (g' := (mkF m 14 #[rv r1, iv (2 : Int32)] [(.int ((bc &&& (255 : Int32))).toUInt32.toUInt16.toUInt32.toInt32)])) (fun t k => X102.baloadBytes hx (j := (2 : Int32)) (v := (.int bc)) (own_at_ e102 Ar103.1) (State.isArrayOf_alike hZ.alike Ar103.2.1) Ar103.2.2 hin103 hat103 (g := (mkF m 8 #[rv r1, iv (2 : Int32)] [(.int (2 : Int32)), (.ref r1)])) rfl rfl (hb hby own_d13_8) t (XS.sipush X102.here hx rfl (hb hby own_d13_9) (XS.iand X102.here hx rfl (hb hby own_d13_12) rfl (XS.i2c X102.here hx rfl (hb hby own_d13_13) rfl k)))) ?_
  refine own_retN X102 hx hlk hret (t := .char) (by simp) (hb hby own_d13_14) (by decide) (by decide) ?_
  exact ⟨(congrArg (fun z => some (Value.int z)) ((own_c16 _).trans q5)), N102, e102⟩
def Q_own_getc3 (Z : State) (r1 : Addr) (k1 : ClassId) (ln : Int32) (vs : List Value) (b0 : Int32) (b1 : Int32) (xc : Int32) (h0 : Heap) (n0 : Nat) (v : Option Value) (h : Heap) (L : List Loc) : Prop := v = some (.int xc) ∧ Fr n0 L ∧ h = h0
theorem own_ef_own_getc3 (m : MethodId) (r1 : Addr) : entryFrame m #[(.ref r1), (.int (3 : Int32))] 2 = mkF m 0 #[rv r1, iv (3 : Int32)] [] := by first | (simp [entryFrame, mkF, argsToLocals, Value.category]; done) | rfl
set_option maxRecDepth 65536 in
set_option maxHeartbeats 40000000 in
theorem own_getc3 (l : Launch) (Z : State) (a0 : Array Value) (hw : ∀ d ∈ tables_1, d.before a0 Z = true) (ws : List Jvm.Cond) (r1 : Addr) (k1 : ClassId) (ln : Int32) (vs : List Value) (b0 : Int32) (b1 : Int32) (xc : Int32) (h0 : Heap) (n0 : Nat) (Z0 : n0 ≤ h0.size) (O0 : Old Z n0 h0) (S_ad : Sta Z Z.heap "java/lang/StringUTF16" "$assertionsDisabled" "Z" (.int (1 : Int32))) (S_hi : Sta Z Z.heap "java/lang/StringUTF16" "HI_BYTE_SHIFT" "I" (.int (0 : Int32))) (S_lo : Sta Z Z.heap "java/lang/StringUTF16" "LO_BYTE_SHIFT" "I" (.int (8 : Int32))) (V1 : Arv Z h0 r1 k1 .byte ln vs (.int (0 : Int32))) (q1 : (6 : Int32) < ln) (q2 : (7 : Int32) < ln) (q3 : vs.getD 6 (.int (0 : Int32)) = .int b0) (q4 : vs.getD 7 (.int (0 : Int32)) = .int b1) (q5 : own_utfc b0 b1 = xc) :
    own_Ctr l Z (⟨"java/lang/StringUTF16", "getChar", "([BI)C"⟩ : MethodName) jdk_52_method_5_code 2 (some .char) ws ({ frames := 0, cells := 0, slots := 0, locals := 0 } : Room) (({ frames := 0, cells := 0, slots := 0, locals := 0 } : Room)).cells (({ frames := 0, cells := 0, slots := 0, locals := 0 } : Room)).slots #[(.ref r1), (.int (3 : Int32))] h0 (Q_own_getc3 Z r1 k1 ln vs b0 b1 xc h0 n0) := by
  refine own_enter (plainFor_of_name own_pn2) ?_
  intro p e s m below meth c s₁ X0 hx hZ hby hml hown hnm hlk hret e0
  have N0 := Fr.nil n0
  refine own_cast (own_ef_own_getc3 m r1) ?_
  obtain ⟨T101, X101, e101, st101⟩ := getS2 X0 hx hZ hown (host := "") (Or.inl (hw _ (List.mem_of_getElem? (i := 89) rfl))) Via.refl e0 (S_ad.ext O0.2) (g := (mkF m 0 #[rv r1, iv (3 : Int32)] [])) rfl (hb hby own_d20_0)
  refine own_by (g' := (mkF m 3 #[rv r1, iv (3 : Int32)] [(.int (1 : Int32))])) st101 ?_
  refine own_by (g' := (mkF m 31 #[rv r1, iv (3 : Int32)] [(.int ((3 : Int32) <<< ((1 : Int32) &&& 31)))])) (fun t k => XS.ifYes X101.here hx rfl (pc0 := 3) (pc' := 28) rfl (hb hby own_d20_3) rfl ((if0 _ _).trans (feq (by decide : ¬ ((1 : Int32) = (0 : Int32)))).2) (by decide) (by decide) (XS.iloadN X101.here hx rfl (hb hby own_d20_28) rfl (XS.iconst X101.here hx rfl (hb hby own_d20_29) (XS.ishl X101.here hx rfl (hb hby own_d20_30) rfl k)))) ?_
  have hz : ((3 : Int32) <<< ((1 : Int32) &&& 31)) = (6 : Int32) := by decide
  rw [hz]
  refine own_by (g' := (mkF m 37 #[rv r1, iv (7 : Int32)] [(.int (6 : Int32)), (.ref r1)])) (fun t k => XS.istoreN X101.here hx rfl (hb hby own_d20_31) rfl (l' := #[rv r1, iv (6 : Int32)]) rfl (XS.aloadN X101.here hx rfl (hb hby own_d20_32) rfl rfl (XS.iloadN X101.here hx rfl (hb hby own_d20_33) rfl (XS.iinc X101.here hx rfl (hb hby own_d20_34) rfl (l' := #[rv r1, iv (7 : Int32)]) rfl k)))) ?_
  obtain ⟨c102, Ar102, q102, S102, G102, H102, F102⟩ := id V1
  have hin102 : ¬ ((6 : Int32) < 0 ∨ c102.slots.size ≤ ((6 : Int32)).toNatClampNeg) := inb_of S102 ⟨by decide, q1⟩
  have hat102 : c102.slots[((6 : Int32)).toNatClampNeg]? = some (.int b0) := H102.at hin102 q3
  refine own_by (g' := (mkF m 42 #[rv r1, iv (7 : Int32)] [(.int (b0 &&& (255 : Int32)))])) (fun t k => X101.baloadBytes hx (j := (6 : Int32)) (v := (.int b0)) (own_at_ e101 Ar102.1) (State.isArrayOf_alike hZ.alike Ar102.2.1) Ar102.2.2 hin102 hat102 (g := (mkF m 37 #[rv r1, iv (7 : Int32)] [(.int (6 : Int32)), (.ref r1)])) rfl rfl (hb hby own_d20_37) t (XS.sipush X101.here hx rfl (hb hby own_d20_38) (XS.iand X101.here hx rfl (hb hby own_d20_41) rfl k))) ?_
  obtain ⟨T103, X103, e103, st103⟩ := getS2 X101 hx hZ hown (host := "") (Or.inl (hw _ (List.mem_of_getElem? (i := 90) rfl))) Via.refl e101 (S_hi.ext O0.2) (g := (mkF m 42 #[rv r1, iv (7 : Int32)] [(.int (b0 &&& (255 : Int32)))])) rfl (hb hby own_d20_42)
  refine own_by (g' := (mkF m 45 #[rv r1, iv (7 : Int32)] [(.int (0 : Int32)), (.int (b0 &&& (255 : Int32)))])) st103 ?_
  refine own_by (g' := (mkF m 48 #[rv r1, iv (7 : Int32)] [(.int (7 : Int32)), (.ref r1), (.int ((b0 &&& (255 : Int32)) <<< ((0 : Int32) &&& 31)))])) (fun t k => XS.ishl X103.here hx rfl (hb hby own_d20_45) rfl (XS.aloadN X103.here hx rfl (hb hby own_d20_46) rfl rfl (XS.iloadN X103.here hx rfl (hb hby own_d20_47) rfl k))) ?_
  obtain ⟨c104, Ar104, q104, S104, G104, H104, F104⟩ := id V1
  have hin104 : ¬ ((7 : Int32) < 0 ∨ c104.slots.size ≤ ((7 : Int32)).toNatClampNeg) := inb_of S104 ⟨by decide, q2⟩
  have hat104 : c104.slots[((7 : Int32)).toNatClampNeg]? = some (.int b1) := H104.at hin104 q4
  refine own_by (g' := (mkF m 53 #[rv r1, iv (7 : Int32)] [(.int (b1 &&& (255 : Int32))), (.int ((b0 &&& (255 : Int32)) <<< ((0 : Int32) &&& 31)))])) (fun t k => X103.baloadBytes hx (j := (7 : Int32)) (v := (.int b1)) (own_at_ e103 Ar104.1) (State.isArrayOf_alike hZ.alike Ar104.2.1) Ar104.2.2 hin104 hat104 (g := (mkF m 48 #[rv r1, iv (7 : Int32)] [(.int (7 : Int32)), (.ref r1), (.int ((b0 &&& (255 : Int32)) <<< ((0 : Int32) &&& 31)))])) rfl rfl (hb hby own_d20_48) t (XS.sipush X103.here hx rfl (hb hby own_d20_49) (XS.iand X103.here hx rfl (hb hby own_d20_52) rfl k))) ?_
  obtain ⟨T105, X105, e105, st105⟩ := getS2 X103 hx hZ hown (host := "") (Or.inl (hw _ (List.mem_of_getElem? (i := 91) rfl))) Via.refl e103 (S_lo.ext O0.2) (g := (mkF m 53 #[rv r1, iv (7 : Int32)] [(.int (b1 &&& (255 : Int32))), (.int ((b0 &&& (255 : Int32)) <<< ((0 : Int32) &&& 31)))])) rfl (hb hby own_d20_53)
  refine own_by (g' := (mkF m 56 #[rv r1, iv (7 : Int32)] [(.int (8 : Int32)), (.int (b1 &&& (255 : Int32))), (.int ((b0 &&& (255 : Int32)) <<< ((0 : Int32) &&& 31)))])) st105 ?_
  refine own_by (g' := (mkF m 59 #[rv r1, iv (7 : Int32)] [(.int ((((b0 &&& (255 : Int32)) <<< ((0 : Int32) &&& 31)) ||| ((b1 &&& (255 : Int32)) <<< ((8 : Int32) &&& 31)))).toUInt32.toUInt16.toUInt32.toInt32)])) (fun t k => XS.ishl X105.here hx rfl (hb hby own_d20_56) rfl (XS.ior X105.here hx rfl (hb hby own_d20_57) rfl (XS.i2c X105.here hx rfl (hb hby own_d20_58) rfl k))) ?_
  refine own_retN X105 hx hlk hret (t := .char) (by simp) (hb hby own_d20_59) (by decide) (by decide) ?_
  exact ⟨(congrArg (fun z => some (Value.int z)) ((own_c16 _).trans q5)), N0, e105⟩
def Q_own_uchar3 (Z : State) (r1 : Addr) (k1 : ClassId) (ln : Int32) (vs : List Value) (b0 : Int32) (b1 : Int32) (xc : Int32) (vsf : Value) (h0 : Heap) (n0 : Nat) (v : Option Value) (h : Heap) (L : List Loc) : Prop := v = some (.int xc) ∧ Fr n0 L ∧ h = h0
theorem own_ef_own_uchar3 (m : MethodId) (r1 : Addr) : entryFrame m #[(.ref r1), (.int (3 : Int32))] 2 = mkF m 0 #[rv r1, iv (3 : Int32)] [] := by first | (simp [entryFrame, mkF, argsToLocals, Value.category]; done) | rfl
set_option maxRecDepth 65536 in
set_option maxHeartbeats 40000000 in
theorem own_uchar3 (l : Launch) (Z : State) (a0 : Array Value) (hw : ∀ d ∈ tables_1, d.before a0 Z = true) (ws : List Jvm.Cond) (r1 : Addr) (k1 : ClassId) (ln : Int32) (vs : List Value) (b0 : Int32) (b1 : Int32) (xc : Int32) (vsf : Value) (h0 : Heap) (n0 : Nat) (Z0 : n0 ≤ h0.size) (O0 : Old Z n0 h0) (S_ad : Sta Z Z.heap "java/lang/StringUTF16" "$assertionsDisabled" "Z" (.int (1 : Int32))) (S_hi : Sta Z Z.heap "java/lang/StringUTF16" "HI_BYTE_SHIFT" "I" (.int (0 : Int32))) (S_lo : Sta Z Z.heap "java/lang/StringUTF16" "LO_BYTE_SHIFT" "I" (.int (8 : Int32))) (S_sf : Sta Z Z.heap "jdk/internal/util/Preconditions" "SIOOBE_FORMATTER" "Ljava/util/function/BiFunction;" vsf) (r_sf : (vsf).isRef = true) (q0 : (3 : Int32) < (ln >>> ((1 : Int32) &&& 31))) (V1 : Arv Z h0 r1 k1 .byte ln vs (.int (0 : Int32))) (q1 : (6 : Int32) < ln) (q2 : (7 : Int32) < ln) (q3 : vs.getD 6 (.int (0 : Int32)) = .int b0) (q4 : vs.getD 7 (.int (0 : Int32)) = .int b1) (q5 : own_utfc b0 b1 = xc) :
    own_Ctr l Z (⟨"java/lang/StringUTF16", "charAt", "([BI)C"⟩ : MethodName) jdk_52_method_83_code 2 (some .char) ws ({ frames := 3, cells := 0, slots := 0, locals := 40 } : Room) (({ frames := 3, cells := 0, slots := 0, locals := 40 } : Room)).cells (({ frames := 3, cells := 0, slots := 0, locals := 40 } : Room)).slots #[(.ref r1), (.int (3 : Int32))] h0 (Q_own_uchar3 Z r1 k1 ln vs b0 b1 xc vsf h0 n0) := by
  refine own_enter (plainFor_of_name own_pn2) ?_
  intro p e s m below meth c s₁ X0 hx hZ hby hml hown hnm hlk hret e0
  have N0 := Fr.nil n0
  refine own_cast (own_ef_own_uchar3 m r1) ?_
  refine own_by (g' := (mkF m 2 #[rv r1, iv (3 : Int32)] [(.ref r1), (.int (3 : Int32))])) (fun t k => XS.iloadN X0.here hx rfl (hb hby own_d21_0) rfl (XS.aloadN X0.here hx rfl (hb hby own_d21_1) rfl rfl k)) ?_
  refine own_callS X0 hx hZ hown (hw _ (List.mem_of_getElem? (i := 98) rfl)) (hw _ (List.mem_of_getElem? (i := 99) rfl)) (hw _ (List.mem_of_getElem? (i := 22) rfl)) (hw _ (List.mem_of_getElem? (i := 100) rfl)) (by decide) (own_uchk l Z a0 hw [] (r1) (k1) (ln) (vs) ((3 : Int32)) (vsf) h0 n0 Z0 O0 S_sf r_sf V1 (by decide) q0) 0 (by decide) (by decide) (by decide) (by decide) e0 (g := (mkF m 2 #[rv r1, iv (3 : Int32)] [(.ref r1), (.int (3 : Int32))])) rfl (by rw [hml]; rfl) (argsL := [(.int (3 : Int32)), (.ref r1)]) (rest := []) (lenOf own_pd3 rfl) rfl (by show 2 * 0 + _ ≤ _; exact Nat.le_of_eq rfl) (hb hby own_d21_2) ?_
  intro v101 T101 L101 X101 q101
  obtain ⟨rfl, N101q, e101⟩ := q101
  have N101 := Fr.app N0 N101q
  show own_Goes p e below s _ _ _ T101 (mkF m 5 #[rv r1, iv (3 : Int32)] [])
  refine own_by (g' := (mkF m 7 #[rv r1, iv (3 : Int32)] [(.int (3 : Int32)), (.ref r1)])) (fun t k => XS.aloadN X101.here hx rfl (hb hby own_d21_5) rfl rfl (XS.iloadN X101.here hx rfl (hb hby own_d21_6) rfl k)) ?_
  refine own_callS X101 hx hZ hown (hw _ (List.mem_of_getElem? (i := 92) rfl)) (hw _ (List.mem_of_getElem? (i := 93) rfl)) (hw _ (List.mem_of_getElem? (i := 22) rfl)) (hw _ (List.mem_of_getElem? (i := 94) rfl)) (by decide) (own_getc3 l Z a0 hw [] (r1) (k1) (ln) (vs) (b0) (b1) (xc) h0 n0 Z0 O0 S_ad S_hi S_lo V1 (by first | assumption | decide) (by first | assumption | decide) (by first | assumption | decide) (by first | assumption | decide) (by first | assumption | decide)) 0 (by decide) (by decide) (by decide) (by decide) e101 (g := (mkF m 7 #[rv r1, iv (3 : Int32)] [(.int (3 : Int32)), (.ref r1)])) rfl (by rw [hml]; rfl) (argsL := [(.ref r1), (.int (3 : Int32))]) (rest := []) (lenOf own_pd4 rfl) rfl (by show 2 * 0 + _ ≤ _; exact Nat.le_of_eq rfl) (hb hby own_d21_7) ?_
  intro v102 T102 L102 X102 q102
  obtain ⟨rfl, N102q, e102⟩ := q102
  have N102 := Fr.app N101 N102q
  show own_Goes p e below s _ _ _ T102 (mkF m 10 #[rv r1, iv (3 : Int32)] [(.int xc)])
  refine own_retN X102 hx hlk hret (t := .char) (by simp) (hb hby own_d21_10) (by decide) (by decide) ?_
  exact ⟨(by rw [show nar .char xc = xc from by rw [← q5]; exact own_c16 _]), N102, e102⟩
def Q_own_lchar3 (Z : State) (r1 : Addr) (k1 : ClassId) (ln : Int32) (vs : List Value) (bc : Int32) (xc : Int32) (vsf : Value) (h0 : Heap) (n0 : Nat) (v : Option Value) (h : Heap) (L : List Loc) : Prop := v = some (.int xc) ∧ Fr n0 L ∧ h = h0
theorem own_ef_own_lchar3 (m : MethodId) (r1 : Addr) : entryFrame m #[(.ref r1), (.int (3 : Int32))] 2 = mkF m 0 #[rv r1, iv (3 : Int32)] [] := by first | (simp [entryFrame, mkF, argsToLocals, Value.category]; done) | rfl
set_option maxRecDepth 65536 in
set_option maxHeartbeats 40000000 in
theorem own_lchar3 (l : Launch) (Z : State) (a0 : Array Value) (hw : ∀ d ∈ tables_1, d.before a0 Z = true) (ws : List Jvm.Cond) (r1 : Addr) (k1 : ClassId) (ln : Int32) (vs : List Value) (bc : Int32) (xc : Int32) (vsf : Value) (h0 : Heap) (n0 : Nat) (Z0 : n0 ≤ h0.size) (O0 : Old Z n0 h0) (S_sf : Sta Z Z.heap "jdk/internal/util/Preconditions" "SIOOBE_FORMATTER" "Ljava/util/function/BiFunction;" vsf) (r_sf : (vsf).isRef = true) (V1 : Arv Z h0 r1 k1 .byte ln vs (.int (0 : Int32))) (q1 : (3 : Int32) < ln) (q3 : vs.getD 3 (.int (0 : Int32)) = .int bc) (q5 : own_latc bc = xc) :
    own_Ctr l Z (⟨"java/lang/StringLatin1", "charAt", "([BI)C"⟩ : MethodName) jdk_43_method_2_code 2 (some .char) ws ({ frames := 2, cells := 0, slots := 0, locals := 27 } : Room) (({ frames := 2, cells := 0, slots := 0, locals := 27 } : Room)).cells (({ frames := 2, cells := 0, slots := 0, locals := 27 } : Room)).slots #[(.ref r1), (.int (3 : Int32))] h0 (Q_own_lchar3 Z r1 k1 ln vs bc xc vsf h0 n0) := by
  refine own_enter (plainFor_of_name own_pn3) ?_
  intro p e s m below meth c s₁ X0 hx hZ hby hml hown hnm hlk hret e0
  have N0 := Fr.nil n0
  refine own_cast (own_ef_own_lchar3 m r1) ?_
  refine own_by (g' := (mkF m 2 #[rv r1, iv (3 : Int32)] [(.ref r1), (.int (3 : Int32))])) (fun t k => XS.iloadN X0.here hx rfl (hb hby own_d13_0) rfl (XS.aloadN X0.here hx rfl (hb hby own_d13_1) rfl rfl k)) ?_
  obtain ⟨c101, Ar101, -, S101, G101, -, -⟩ := id V1
  refine own_by (g' := (mkF m 3 #[rv r1, iv (3 : Int32)] [(.int ln), (.int (3 : Int32))])) (fun t k => X0.arraylength hx (own_at_ e0 Ar101.1) (State.isArrayOf_alike hZ.alike Ar101.2.1) (g := (mkF m 2 #[rv r1, iv (3 : Int32)] [(.ref r1), (.int (3 : Int32))])) rfl rfl (hb hby own_d13_2) t (by rw [len_of S101 G101]; exact k)) ?_
  refine own_callS X0 hx hZ hown (hw _ (List.mem_of_getElem? (i := 67) rfl)) (hw _ (List.mem_of_getElem? (i := 68) rfl)) (hw _ (List.mem_of_getElem? (i := 7) rfl)) (hw _ (List.mem_of_getElem? (i := 69) rfl)) (by decide) (own_schk l Z a0 hw [] ((3 : Int32)) (ln) (vsf) h0 n0 Z0 O0 S_sf r_sf (by decide) q1) 0 (by decide) (by decide) (by decide) (by decide) e0 (g := (mkF m 3 #[rv r1, iv (3 : Int32)] [(.int ln), (.int (3 : Int32))])) rfl (by rw [hml]; rfl) (argsL := [(.int (3 : Int32)), (.int ln)]) (rest := []) (lenOf own_pd2 rfl) rfl (by show 2 * 0 + _ ≤ _; exact Nat.le_of_eq rfl) (hb hby own_d13_3) ?_
  intro v102 T102 L102 X102 q102
  obtain ⟨rfl, N102q, e102⟩ := q102
  have N102 := Fr.app N0 N102q
  show own_Goes p e below s _ _ _ T102 (mkF m 6 #[rv r1, iv (3 : Int32)] [])
  refine own_by (g' := (mkF m 8 #[rv r1, iv (3 : Int32)] [(.int (3 : Int32)), (.ref r1)])) (fun t k => XS.aloadN X102.here hx rfl (hb hby own_d13_6) rfl rfl (XS.iloadN X102.here hx rfl (hb hby own_d13_7) rfl k)) ?_
  obtain ⟨c103, Ar103, q103, S103, G103, H103, F103⟩ := id V1
  have hin103 : ¬ ((3 : Int32) < 0 ∨ c103.slots.size ≤ ((3 : Int32)).toNatClampNeg) := inb_of S103 ⟨by decide, q1⟩
  have hat103 : c103.slots[((3 : Int32)).toNatClampNeg]? = some (.int bc) := H103.at hin103 q3
  refine own_by (g' := (mkF m 14 #[rv r1, iv (3 : Int32)] [(.int ((bc &&& (255 : Int32))).toUInt32.toUInt16.toUInt32.toInt32)])) (fun t k => X102.baloadBytes hx (j := (3 : Int32)) (v := (.int bc)) (own_at_ e102 Ar103.1) (State.isArrayOf_alike hZ.alike Ar103.2.1) Ar103.2.2 hin103 hat103 (g := (mkF m 8 #[rv r1, iv (3 : Int32)] [(.int (3 : Int32)), (.ref r1)])) rfl rfl (hb hby own_d13_8) t (XS.sipush X102.here hx rfl (hb hby own_d13_9) (XS.iand X102.here hx rfl (hb hby own_d13_12) rfl (XS.i2c X102.here hx rfl (hb hby own_d13_13) rfl k)))) ?_
  refine own_retN X102 hx hlk hret (t := .char) (by simp) (hb hby own_d13_14) (by decide) (by decide) ?_
  exact ⟨(congrArg (fun z => some (Value.int z)) ((own_c16 _).trans q5)), N102, e102⟩
theorem own_d12_0 : decode jdk_42_method_154_code 0 = .ok (.getstatic 38, 3) := by decide +kernel
theorem own_d12_3 : decode jdk_42_method_154_code 3 = .ok (.ifCond .eq 14, 3) := by decide +kernel
theorem own_d12_6 : decode jdk_42_method_154_code 6 = .ok (.aload_n 0, 1) := by decide +kernel
theorem own_d12_7 : decode jdk_42_method_154_code 7 = .ok (.getfield 15, 3) := by decide +kernel
theorem own_d12_10 : decode jdk_42_method_154_code 10 = .ok (.ifCond .ne 7, 3) := by decide +kernel
theorem own_d12_13 : decode jdk_42_method_154_code 13 = .ok (.iconst 1, 1) := by decide +kernel
theorem own_d12_14 : decode jdk_42_method_154_code 14 = .ok (.goto 4, 3) := by decide +kernel
theorem own_d12_18 : decode jdk_42_method_154_code 18 = .ok (.ireturn, 1) := by decide +kernel
def Q_own_isl0 (Z : State) (r1 : Addr) (zcs : Int32) (h0 : Heap) (n0 : Nat) (v : Option Value) (h : Heap) (L : List Loc) : Prop := v = some (.int (1 : Int32)) ∧ Fr n0 L ∧ h = h0
theorem own_ef_own_isl0 (m : MethodId) (r1 : Addr) : entryFrame m #[(.ref r1)] 1 = mkF m 0 #[rv r1] [] := by first | (simp [entryFrame, mkF, argsToLocals, Value.category]; done) | rfl
set_option maxRecDepth 65536 in
set_option maxHeartbeats 40000000 in
theorem own_isl0 (l : Launch) (Z : State) (a0 : Array Value) (hw : ∀ d ∈ tables_1, d.before a0 Z = true) (ws : List Jvm.Cond) (r1 : Addr) (zcs : Int32) (h0 : Heap) (n0 : Nat) (Z0 : n0 ≤ h0.size) (O0 : Old Z n0 h0) (S_cs : Sta Z Z.heap "java/lang/String" "COMPACT_STRINGS" "Z" (.int zcs)) (hcs : ¬ zcs = (0 : Int32)) (E1 : Exa Z h0 r1 "java/lang/String") (F2 : Fld Z h0 r1 "java/lang/String" "coder" "B" (.int (0 : Int32))) :
    own_Ctr l Z (⟨"java/lang/String", "isLatin1", "()Z"⟩ : MethodName) jdk_42_method_154_code 1 (some .boolean) ws ({ frames := 0, cells := 0, slots := 0, locals := 0 } : Room) (({ frames := 0, cells := 0, slots := 0, locals := 0 } : Room)).cells (({ frames := 0, cells := 0, slots := 0, locals := 0 } : Room)).slots #[(.ref r1)] h0 (Q_own_isl0 Z r1 zcs h0 n0) := by
  refine own_enter (plainFor_of_name own_pn1) ?_
  intro p e s m below meth c s₁ X0 hx hZ hby hml hown hnm hlk hret e0
  have N0 := Fr.nil n0
  refine own_cast (own_ef_own_isl0 m r1) ?_
  obtain ⟨T101, X101, e101, st101⟩ := getS2 X0 hx hZ hown (host := "") (Or.inl (hw _ (List.mem_of_getElem? (i := 19) rfl))) Via.refl e0 (S_cs.ext O0.2) (g := (mkF m 0 #[rv r1] [])) rfl (hb hby own_d12_0)
  refine own_by (g' := (mkF m 3 #[rv r1] [(.int zcs)])) st101 ?_
  refine own_by (g' := (mkF m 7 #[rv r1] [(.ref r1)])) (fun t k => XS.ifNo X101.here hx rfl (hb hby own_d12_3) rfl ((if0 _ _).trans (feq hcs).1) (XS.aloadN X101.here hx rfl (hb hby own_d12_6) rfl rfl k)) ?_
  obtain ⟨T102, X102, e102, st102⟩ := getF X101 hx hZ hown (host := "") (Or.inl (hw _ (List.mem_of_getElem? (i := 31) rfl))) Via.refl e101 F2 (g := (mkF m 7 #[rv r1] [(.ref r1)])) rfl rfl (hb hby own_d12_7)
  refine own_by (g' := (mkF m 10 #[rv r1] [(.int (0 : Int32))])) st102 ?_
  refine own_by (g' := (mkF m 18 #[rv r1] [(.int (1 : Int32))])) (fun t k => XS.ifNo X102.here hx rfl (hb hby own_d12_10) rfl ((if0 _ _).trans (teq (by decide : (0 : Int32) = (0 : Int32))).2) (XS.iconst X102.here hx rfl (hb hby own_d12_13) (XS.goto X102.here hx rfl (pc0 := 14) (pc' := 18) rfl (hb hby own_d12_14) (by decide) (by decide) k))) ?_
  refine own_retN X102 hx hlk hret (t := .boolean) (by simp) (hb hby own_d12_18) (by decide) (by decide) ?_
  exact ⟨(by decide), N0, e102⟩
theorem own_d10_0 : decode jdk_42_method_152_code 0 = .ok (.getstatic 38, 3) := by decide +kernel
theorem own_d10_3 : decode jdk_42_method_152_code 3 = .ok (.ifCond .eq 10, 3) := by decide +kernel
theorem own_d10_6 : decode jdk_42_method_152_code 6 = .ok (.aload_n 0, 1) := by decide +kernel
theorem own_d10_7 : decode jdk_42_method_152_code 7 = .ok (.getfield 15, 3) := by decide +kernel
theorem own_d10_10 : decode jdk_42_method_152_code 10 = .ok (.goto 4, 3) := by decide +kernel
theorem own_d10_14 : decode jdk_42_method_152_code 14 = .ok (.ireturn, 1) := by decide +kernel
def Q_own_cod0 (Z : State) (r1 : Addr) (zcs : Int32) (h0 : Heap) (n0 : Nat) (v : Option Value) (h : Heap) (L : List Loc) : Prop := v = some (.int (0 : Int32)) ∧ Fr n0 L ∧ h = h0
theorem own_ef_own_cod0 (m : MethodId) (r1 : Addr) : entryFrame m #[(.ref r1)] 1 = mkF m 0 #[rv r1] [] := by first | (simp [entryFrame, mkF, argsToLocals, Value.category]; done) | rfl
set_option maxRecDepth 65536 in
set_option maxHeartbeats 40000000 in
theorem own_cod0 (l : Launch) (Z : State) (a0 : Array Value) (hw : ∀ d ∈ tables_1, d.before a0 Z = true) (ws : List Jvm.Cond) (r1 : Addr) (zcs : Int32) (h0 : Heap) (n0 : Nat) (Z0 : n0 ≤ h0.size) (O0 : Old Z n0 h0) (S_cs : Sta Z Z.heap "java/lang/String" "COMPACT_STRINGS" "Z" (.int zcs)) (hcs : ¬ zcs = (0 : Int32)) (E1 : Exa Z h0 r1 "java/lang/String") (F2 : Fld Z h0 r1 "java/lang/String" "coder" "B" (.int (0 : Int32))) :
    own_Ctr l Z (⟨"java/lang/String", "coder", "()B"⟩ : MethodName) jdk_42_method_152_code 1 (some .byte) ws ({ frames := 0, cells := 0, slots := 0, locals := 0 } : Room) (({ frames := 0, cells := 0, slots := 0, locals := 0 } : Room)).cells (({ frames := 0, cells := 0, slots := 0, locals := 0 } : Room)).slots #[(.ref r1)] h0 (Q_own_cod0 Z r1 zcs h0 n0) := by
  refine own_enter (plainFor_of_name own_pn1) ?_
  intro p e s m below meth c s₁ X0 hx hZ hby hml hown hnm hlk hret e0
  have N0 := Fr.nil n0
  refine own_cast (own_ef_own_cod0 m r1) ?_
  obtain ⟨T101, X101, e101, st101⟩ := getS2 X0 hx hZ hown (host := "") (Or.inl (hw _ (List.mem_of_getElem? (i := 19) rfl))) Via.refl e0 (S_cs.ext O0.2) (g := (mkF m 0 #[rv r1] [])) rfl (hb hby own_d10_0)
  refine own_by (g' := (mkF m 3 #[rv r1] [(.int zcs)])) st101 ?_
  refine own_by (g' := (mkF m 7 #[rv r1] [(.ref r1)])) (fun t k => XS.ifNo X101.here hx rfl (hb hby own_d10_3) rfl ((if0 _ _).trans (feq hcs).1) (XS.aloadN X101.here hx rfl (hb hby own_d10_6) rfl rfl k)) ?_
  obtain ⟨T102, X102, e102, st102⟩ := getF X101 hx hZ hown (host := "") (Or.inl (hw _ (List.mem_of_getElem? (i := 31) rfl))) Via.refl e101 F2 (g := (mkF m 7 #[rv r1] [(.ref r1)])) rfl rfl (hb hby own_d10_7)
  refine own_by (g' := (mkF m 10 #[rv r1] [(.int (0 : Int32))])) st102 ?_
  refine own_by (g' := (mkF m 14 #[rv r1] [(.int (0 : Int32))])) (fun t k => XS.goto X102.here hx rfl (pc0 := 10) (pc' := 14) rfl (hb hby own_d10_10) (by decide) (by decide) k) ?_
  refine own_retN X102 hx hlk hret (t := .byte) (by simp) (hb hby own_d10_14) (by decide) (by decide) ?_
  exact ⟨(by decide), N0, e102⟩
theorem own_d12_17 : decode jdk_42_method_154_code 17 = .ok (.iconst 0, 1) := by decide +kernel
def Q_own_isl1 (Z : State) (r1 : Addr) (zcs : Int32) (h0 : Heap) (n0 : Nat) (v : Option Value) (h : Heap) (L : List Loc) : Prop := v = some (.int (0 : Int32)) ∧ Fr n0 L ∧ h = h0
theorem own_ef_own_isl1 (m : MethodId) (r1 : Addr) : entryFrame m #[(.ref r1)] 1 = mkF m 0 #[rv r1] [] := by first | (simp [entryFrame, mkF, argsToLocals, Value.category]; done) | rfl
set_option maxRecDepth 65536 in
set_option maxHeartbeats 40000000 in
theorem own_isl1 (l : Launch) (Z : State) (a0 : Array Value) (hw : ∀ d ∈ tables_1, d.before a0 Z = true) (ws : List Jvm.Cond) (r1 : Addr) (zcs : Int32) (h0 : Heap) (n0 : Nat) (Z0 : n0 ≤ h0.size) (O0 : Old Z n0 h0) (S_cs : Sta Z Z.heap "java/lang/String" "COMPACT_STRINGS" "Z" (.int zcs)) (hcs : ¬ zcs = (0 : Int32)) (E1 : Exa Z h0 r1 "java/lang/String") (F2 : Fld Z h0 r1 "java/lang/String" "coder" "B" (.int (1 : Int32))) :
    own_Ctr l Z (⟨"java/lang/String", "isLatin1", "()Z"⟩ : MethodName) jdk_42_method_154_code 1 (some .boolean) ws ({ frames := 0, cells := 0, slots := 0, locals := 0 } : Room) (({ frames := 0, cells := 0, slots := 0, locals := 0 } : Room)).cells (({ frames := 0, cells := 0, slots := 0, locals := 0 } : Room)).slots #[(.ref r1)] h0 (Q_own_isl1 Z r1 zcs h0 n0) := by
  refine own_enter (plainFor_of_name own_pn1) ?_
  intro p e s m below meth c s₁ X0 hx hZ hby hml hown hnm hlk hret e0
  have N0 := Fr.nil n0
  refine own_cast (own_ef_own_isl1 m r1) ?_
  obtain ⟨T101, X101, e101, st101⟩ := getS2 X0 hx hZ hown (host := "") (Or.inl (hw _ (List.mem_of_getElem? (i := 19) rfl))) Via.refl e0 (S_cs.ext O0.2) (g := (mkF m 0 #[rv r1] [])) rfl (hb hby own_d12_0)
  refine own_by (g' := (mkF m 3 #[rv r1] [(.int zcs)])) st101 ?_
  refine own_by (g' := (mkF m 7 #[rv r1] [(.ref r1)])) (fun t k => XS.ifNo X101.here hx rfl (hb hby own_d12_3) rfl ((if0 _ _).trans (feq hcs).1) (XS.aloadN X101.here hx rfl (hb hby own_d12_6) rfl rfl k)) ?_
  obtain ⟨T102, X102, e102, st102⟩ := getF X101 hx hZ hown (host := "") (Or.inl (hw _ (List.mem_of_getElem? (i := 31) rfl))) Via.refl e101 F2 (g := (mkF m 7 #[rv r1] [(.ref r1)])) rfl rfl (hb hby own_d12_7)
  refine own_by (g' := (mkF m 10 #[rv r1] [(.int (1 : Int32))])) st102 ?_
  refine own_by (g' := (mkF m 18 #[rv r1] [(.int (0 : Int32))])) (fun t k => XS.ifYes X102.here hx rfl (pc0 := 10) (pc' := 17) rfl (hb hby own_d12_10) rfl ((if0 _ _).trans (feq (by decide : ¬ ((1 : Int32) = (0 : Int32)))).2) (by decide) (by decide) (XS.iconst X102.here hx rfl (hb hby own_d12_17) k)) ?_
  refine own_retN X102 hx hlk hret (t := .boolean) (by simp) (hb hby own_d12_18) (by decide) (by decide) ?_
  exact ⟨(by decide), N0, e102⟩
def Q_own_cod1 (Z : State) (r1 : Addr) (zcs : Int32) (h0 : Heap) (n0 : Nat) (v : Option Value) (h : Heap) (L : List Loc) : Prop := v = some (.int (1 : Int32)) ∧ Fr n0 L ∧ h = h0
theorem own_ef_own_cod1 (m : MethodId) (r1 : Addr) : entryFrame m #[(.ref r1)] 1 = mkF m 0 #[rv r1] [] := by first | (simp [entryFrame, mkF, argsToLocals, Value.category]; done) | rfl
set_option maxRecDepth 65536 in
set_option maxHeartbeats 40000000 in
theorem own_cod1 (l : Launch) (Z : State) (a0 : Array Value) (hw : ∀ d ∈ tables_1, d.before a0 Z = true) (ws : List Jvm.Cond) (r1 : Addr) (zcs : Int32) (h0 : Heap) (n0 : Nat) (Z0 : n0 ≤ h0.size) (O0 : Old Z n0 h0) (S_cs : Sta Z Z.heap "java/lang/String" "COMPACT_STRINGS" "Z" (.int zcs)) (hcs : ¬ zcs = (0 : Int32)) (E1 : Exa Z h0 r1 "java/lang/String") (F2 : Fld Z h0 r1 "java/lang/String" "coder" "B" (.int (1 : Int32))) :
    own_Ctr l Z (⟨"java/lang/String", "coder", "()B"⟩ : MethodName) jdk_42_method_152_code 1 (some .byte) ws ({ frames := 0, cells := 0, slots := 0, locals := 0 } : Room) (({ frames := 0, cells := 0, slots := 0, locals := 0 } : Room)).cells (({ frames := 0, cells := 0, slots := 0, locals := 0 } : Room)).slots #[(.ref r1)] h0 (Q_own_cod1 Z r1 zcs h0 n0) := by
  refine own_enter (plainFor_of_name own_pn1) ?_
  intro p e s m below meth c s₁ X0 hx hZ hby hml hown hnm hlk hret e0
  have N0 := Fr.nil n0
  refine own_cast (own_ef_own_cod1 m r1) ?_
  obtain ⟨T101, X101, e101, st101⟩ := getS2 X0 hx hZ hown (host := "") (Or.inl (hw _ (List.mem_of_getElem? (i := 19) rfl))) Via.refl e0 (S_cs.ext O0.2) (g := (mkF m 0 #[rv r1] [])) rfl (hb hby own_d10_0)
  refine own_by (g' := (mkF m 3 #[rv r1] [(.int zcs)])) st101 ?_
  refine own_by (g' := (mkF m 7 #[rv r1] [(.ref r1)])) (fun t k => XS.ifNo X101.here hx rfl (hb hby own_d10_3) rfl ((if0 _ _).trans (feq hcs).1) (XS.aloadN X101.here hx rfl (hb hby own_d10_6) rfl rfl k)) ?_
  obtain ⟨T102, X102, e102, st102⟩ := getF X101 hx hZ hown (host := "") (Or.inl (hw _ (List.mem_of_getElem? (i := 31) rfl))) Via.refl e101 F2 (g := (mkF m 7 #[rv r1] [(.ref r1)])) rfl rfl (hb hby own_d10_7)
  refine own_by (g' := (mkF m 10 #[rv r1] [(.int (1 : Int32))])) st102 ?_
  refine own_by (g' := (mkF m 14 #[rv r1] [(.int (1 : Int32))])) (fun t k => XS.goto X102.here hx rfl (pc0 := 10) (pc' := 14) rfl (hb hby own_d10_10) (by decide) (by decide) k) ?_
  refine own_retN X102 hx hlk hret (t := .byte) (by simp) (hb hby own_d10_14) (by decide) (by decide) ?_
  exact ⟨(by decide), N0, e102⟩
theorem own_d9_0 : decode jdk_42_method_54_code 0 = .ok (.aload_n 0, 1) := by decide +kernel
theorem own_d9_1 : decode jdk_42_method_54_code 1 = .ok (.getfield 9, 3) := by decide +kernel
theorem own_d9_4 : decode jdk_42_method_54_code 4 = .ok (.arraylength, 1) := by decide +kernel
theorem own_d9_5 : decode jdk_42_method_54_code 5 = .ok (.aload_n 0, 1) := by decide +kernel
theorem own_d9_6 : decode jdk_42_method_54_code 6 = .ok (.invokevirtual 335, 3) := by decide +kernel
theorem own_pd5 : parseMethodDescriptor "()B" = some ⟨[], some .byte⟩ := by decide +kernel
theorem own_d9_9 : decode jdk_42_method_54_code 9 = .ok (.ishr, 1) := by decide +kernel
theorem own_d9_10 : decode jdk_42_method_54_code 10 = .ok (.ireturn, 1) := by decide +kernel
def Q_own_slen0 (Z : State) (r1 : Addr) (ba : Addr) (kb : ClassId) (cd : Int32) (ln : Int32) (vs : List Value) (zcs : Int32) (h0 : Heap) (n0 : Nat) (v : Option Value) (h : Heap) (L : List Loc) : Prop := v = some (.int (0 : Int32)) ∧ Fr n0 L ∧ h = h0
theorem own_ef_own_slen0 (m : MethodId) (r1 : Addr) : entryFrame m #[(.ref r1)] 1 = mkF m 0 #[rv r1] [] := by first | (simp [entryFrame, mkF, argsToLocals, Value.category]; done) | rfl
set_option maxRecDepth 65536 in
set_option maxHeartbeats 40000000 in
theorem own_slen0 (l : Launch) (Z : State) (a0 : Array Value) (hw : ∀ d ∈ tables_1, d.before a0 Z = true) (ws : List Jvm.Cond) (r1 : Addr) (ba : Addr) (kb : ClassId) (cd : Int32) (ln : Int32) (vs : List Value) (zcs : Int32) (h0 : Heap) (n0 : Nat) (Z0 : n0 ≤ h0.size) (O0 : Old Z n0 h0) (S_cs : Sta Z Z.heap "java/lang/String" "COMPACT_STRINGS" "Z" (.int zcs)) (hcs : ¬ zcs = (0 : Int32)) (E1 : Exa Z h0 r1 "java/lang/String") (F1 : Fld Z h0 r1 "java/lang/String" "value" "[B" (.ref ba)) (F2 : Fld Z h0 r1 "java/lang/String" "coder" "B" (.int cd)) (V1 : Arv Z h0 ba kb .byte ln vs (.int (0 : Int32))) (hl : own_len (0 : Int32) (0 : Int32) cd ln) :
    own_Ctr l Z (⟨"java/lang/String", "length", "()I"⟩ : MethodName) jdk_42_method_54_code 1 (some .int) ws ({ frames := 1, cells := 0, slots := 0, locals := 13 } : Room) (({ frames := 1, cells := 0, slots := 0, locals := 13 } : Room)).cells (({ frames := 1, cells := 0, slots := 0, locals := 13 } : Room)).slots #[(.ref r1)] h0 (Q_own_slen0 Z r1 ba kb cd ln vs zcs h0 n0) := by
  refine own_enter (plainFor_of_name own_pn1) ?_
  intro p e s m below meth c s₁ X0 hx hZ hby hml hown hnm hlk hret e0
  have N0 := Fr.nil n0
  refine own_cast (own_ef_own_slen0 m r1) ?_
  rcases hl with ⟨rfl, rfl⟩ | ⟨rfl, rfl⟩
  ·
    refine own_by (g' := (mkF m 1 #[rv r1] [(.ref r1)])) (fun t k => XS.aloadN X0.here hx rfl (hb hby own_d9_0) rfl rfl k) ?_
    obtain ⟨T101, X101, e101, st101⟩ := getF X0 hx hZ hown (host := "") (Or.inl (hw _ (List.mem_of_getElem? (i := 33) rfl))) Via.refl e0 F1 (g := (mkF m 1 #[rv r1] [(.ref r1)])) rfl rfl (hb hby own_d9_1)
    refine own_by (g' := (mkF m 4 #[rv r1] [(.ref ba)])) st101 ?_
    obtain ⟨c102, Ar102, -, S102, G102, -, -⟩ := id V1
    refine own_by (g' := (mkF m 5 #[rv r1] [(.int (0 : Int32))])) (fun t k => X101.arraylength hx (own_at_ e101 Ar102.1) (State.isArrayOf_alike hZ.alike Ar102.2.1) (g := (mkF m 4 #[rv r1] [(.ref ba)])) rfl rfl (hb hby own_d9_4) t (by rw [len_of S102 G102]; exact k)) ?_
    refine own_by (g' := (mkF m 6 #[rv r1] [(.ref r1), (.int (0 : Int32))])) (fun t k => XS.aloadN X101.here hx rfl (hb hby own_d9_5) rfl rfl k) ?_
    refine own_callV X101 hx hZ hown (hw _ (List.mem_of_getElem? (i := 48) rfl)) (hw _ (List.mem_of_getElem? (i := 49) rfl)) (notFace_of_selects (args := #[]) (mvT hZ (hw _ (List.mem_of_getElem? (i := 51) rfl)))) (hw _ (List.mem_of_getElem? (i := 51) rfl)) (hw _ (List.mem_of_getElem? (i := 50) rfl)) (hw _ (List.mem_of_getElem? (i := 52) rfl)) (hw _ (List.mem_of_getElem? (i := 7) rfl)) (by decide) (a := r1) E1 (own_cod0 l Z a0 hw [] (r1) (zcs) h0 n0 Z0 O0 S_cs (by first | assumption | decide) E1 F2) 1 (by decide) (by decide) (by decide) (by decide) e101 (g := (mkF m 6 #[rv r1] [(.ref r1), (.int (0 : Int32))])) rfl (by rw [hml]; rfl) (argsL := []) (rest := [(.int (0 : Int32))]) (lenOf own_pd5 rfl) rfl (by show 2 * 0 + _ ≤ _; exact Nat.le_of_eq rfl) (hb hby own_d9_6) ?_
    intro v103 T103 L103 X103 q103
    obtain ⟨rfl, N103q, e103⟩ := q103
    have N103 := Fr.app N0 N103q
    show own_Goes p e below s _ _ _ T103 (mkF m 9 #[rv r1] [(.int (0 : Int32)), (.int (0 : Int32))])
    refine own_by (g' := (mkF m 10 #[rv r1] [(.int ((0 : Int32) >>> ((0 : Int32) &&& 31)))])) (fun t k => XS.ishr X103.here hx rfl (hb hby own_d9_9) rfl k) ?_
    refine own_retI X103 hx hlk hret (hb hby own_d9_10) (by decide) (by decide) ?_
    exact ⟨(by decide), N103, e103⟩
  ·
    refine own_by (g' := (mkF m 1 #[rv r1] [(.ref r1)])) (fun t k => XS.aloadN X0.here hx rfl (hb hby own_d9_0) rfl rfl k) ?_
    obtain ⟨T104, X104, e104, st104⟩ := getF X0 hx hZ hown (host := "") (Or.inl (hw _ (List.mem_of_getElem? (i := 33) rfl))) Via.refl e0 F1 (g := (mkF m 1 #[rv r1] [(.ref r1)])) rfl rfl (hb hby own_d9_1)
    refine own_by (g' := (mkF m 4 #[rv r1] [(.ref ba)])) st104 ?_
    obtain ⟨c105, Ar105, -, S105, G105, -, -⟩ := id V1
    refine own_by (g' := (mkF m 5 #[rv r1] [(.int (0 : Int32))])) (fun t k => X104.arraylength hx (own_at_ e104 Ar105.1) (State.isArrayOf_alike hZ.alike Ar105.2.1) (g := (mkF m 4 #[rv r1] [(.ref ba)])) rfl rfl (hb hby own_d9_4) t (by rw [len_of S105 G105]; exact k)) ?_
    refine own_by (g' := (mkF m 6 #[rv r1] [(.ref r1), (.int (0 : Int32))])) (fun t k => XS.aloadN X104.here hx rfl (hb hby own_d9_5) rfl rfl k) ?_
    refine own_callV X104 hx hZ hown (hw _ (List.mem_of_getElem? (i := 48) rfl)) (hw _ (List.mem_of_getElem? (i := 49) rfl)) (notFace_of_selects (args := #[]) (mvT hZ (hw _ (List.mem_of_getElem? (i := 51) rfl)))) (hw _ (List.mem_of_getElem? (i := 51) rfl)) (hw _ (List.mem_of_getElem? (i := 50) rfl)) (hw _ (List.mem_of_getElem? (i := 52) rfl)) (hw _ (List.mem_of_getElem? (i := 7) rfl)) (by decide) (a := r1) E1 (own_cod1 l Z a0 hw [] (r1) (zcs) h0 n0 Z0 O0 S_cs (by first | assumption | decide) E1 F2) 1 (by decide) (by decide) (by decide) (by decide) e104 (g := (mkF m 6 #[rv r1] [(.ref r1), (.int (0 : Int32))])) rfl (by rw [hml]; rfl) (argsL := []) (rest := [(.int (0 : Int32))]) (lenOf own_pd5 rfl) rfl (by show 2 * 0 + _ ≤ _; exact Nat.le_of_eq rfl) (hb hby own_d9_6) ?_
    intro v106 T106 L106 X106 q106
    obtain ⟨rfl, N106q, e106⟩ := q106
    have N106 := Fr.app N0 N106q
    show own_Goes p e below s _ _ _ T106 (mkF m 9 #[rv r1] [(.int (1 : Int32)), (.int (0 : Int32))])
    refine own_by (g' := (mkF m 10 #[rv r1] [(.int ((0 : Int32) >>> ((1 : Int32) &&& 31)))])) (fun t k => XS.ishr X106.here hx rfl (hb hby own_d9_9) rfl k) ?_
    refine own_retI X106 hx hlk hret (hb hby own_d9_10) (by decide) (by decide) ?_
    exact ⟨(by decide), N106, e106⟩
def Q_own_slen1 (Z : State) (r1 : Addr) (ba : Addr) (kb : ClassId) (cd : Int32) (ln : Int32) (vs : List Value) (zcs : Int32) (h0 : Heap) (n0 : Nat) (v : Option Value) (h : Heap) (L : List Loc) : Prop := v = some (.int (1 : Int32)) ∧ Fr n0 L ∧ h = h0
theorem own_ef_own_slen1 (m : MethodId) (r1 : Addr) : entryFrame m #[(.ref r1)] 1 = mkF m 0 #[rv r1] [] := by first | (simp [entryFrame, mkF, argsToLocals, Value.category]; done) | rfl
set_option maxRecDepth 65536 in
set_option maxHeartbeats 40000000 in
theorem own_slen1 (l : Launch) (Z : State) (a0 : Array Value) (hw : ∀ d ∈ tables_1, d.before a0 Z = true) (ws : List Jvm.Cond) (r1 : Addr) (ba : Addr) (kb : ClassId) (cd : Int32) (ln : Int32) (vs : List Value) (zcs : Int32) (h0 : Heap) (n0 : Nat) (Z0 : n0 ≤ h0.size) (O0 : Old Z n0 h0) (S_cs : Sta Z Z.heap "java/lang/String" "COMPACT_STRINGS" "Z" (.int zcs)) (hcs : ¬ zcs = (0 : Int32)) (E1 : Exa Z h0 r1 "java/lang/String") (F1 : Fld Z h0 r1 "java/lang/String" "value" "[B" (.ref ba)) (F2 : Fld Z h0 r1 "java/lang/String" "coder" "B" (.int cd)) (V1 : Arv Z h0 ba kb .byte ln vs (.int (0 : Int32))) (hl : own_len (1 : Int32) (2 : Int32) cd ln) :
    own_Ctr l Z (⟨"java/lang/String", "length", "()I"⟩ : MethodName) jdk_42_method_54_code 1 (some .int) ws ({ frames := 1, cells := 0, slots := 0, locals := 13 } : Room) (({ frames := 1, cells := 0, slots := 0, locals := 13 } : Room)).cells (({ frames := 1, cells := 0, slots := 0, locals := 13 } : Room)).slots #[(.ref r1)] h0 (Q_own_slen1 Z r1 ba kb cd ln vs zcs h0 n0) := by
  refine own_enter (plainFor_of_name own_pn1) ?_
  intro p e s m below meth c s₁ X0 hx hZ hby hml hown hnm hlk hret e0
  have N0 := Fr.nil n0
  refine own_cast (own_ef_own_slen1 m r1) ?_
  rcases hl with ⟨rfl, rfl⟩ | ⟨rfl, rfl⟩
  ·
    refine own_by (g' := (mkF m 1 #[rv r1] [(.ref r1)])) (fun t k => XS.aloadN X0.here hx rfl (hb hby own_d9_0) rfl rfl k) ?_
    obtain ⟨T101, X101, e101, st101⟩ := getF X0 hx hZ hown (host := "") (Or.inl (hw _ (List.mem_of_getElem? (i := 33) rfl))) Via.refl e0 F1 (g := (mkF m 1 #[rv r1] [(.ref r1)])) rfl rfl (hb hby own_d9_1)
    refine own_by (g' := (mkF m 4 #[rv r1] [(.ref ba)])) st101 ?_
    obtain ⟨c102, Ar102, -, S102, G102, -, -⟩ := id V1
    refine own_by (g' := (mkF m 5 #[rv r1] [(.int (1 : Int32))])) (fun t k => X101.arraylength hx (own_at_ e101 Ar102.1) (State.isArrayOf_alike hZ.alike Ar102.2.1) (g := (mkF m 4 #[rv r1] [(.ref ba)])) rfl rfl (hb hby own_d9_4) t (by rw [len_of S102 G102]; exact k)) ?_
    refine own_by (g' := (mkF m 6 #[rv r1] [(.ref r1), (.int (1 : Int32))])) (fun t k => XS.aloadN X101.here hx rfl (hb hby own_d9_5) rfl rfl k) ?_
    refine own_callV X101 hx hZ hown (hw _ (List.mem_of_getElem? (i := 48) rfl)) (hw _ (List.mem_of_getElem? (i := 49) rfl)) (notFace_of_selects (args := #[]) (mvT hZ (hw _ (List.mem_of_getElem? (i := 51) rfl)))) (hw _ (List.mem_of_getElem? (i := 51) rfl)) (hw _ (List.mem_of_getElem? (i := 50) rfl)) (hw _ (List.mem_of_getElem? (i := 52) rfl)) (hw _ (List.mem_of_getElem? (i := 7) rfl)) (by decide) (a := r1) E1 (own_cod0 l Z a0 hw [] (r1) (zcs) h0 n0 Z0 O0 S_cs (by first | assumption | decide) E1 F2) 1 (by decide) (by decide) (by decide) (by decide) e101 (g := (mkF m 6 #[rv r1] [(.ref r1), (.int (1 : Int32))])) rfl (by rw [hml]; rfl) (argsL := []) (rest := [(.int (1 : Int32))]) (lenOf own_pd5 rfl) rfl (by show 2 * 0 + _ ≤ _; exact Nat.le_of_eq rfl) (hb hby own_d9_6) ?_
    intro v103 T103 L103 X103 q103
    obtain ⟨rfl, N103q, e103⟩ := q103
    have N103 := Fr.app N0 N103q
    show own_Goes p e below s _ _ _ T103 (mkF m 9 #[rv r1] [(.int (0 : Int32)), (.int (1 : Int32))])
    refine own_by (g' := (mkF m 10 #[rv r1] [(.int ((1 : Int32) >>> ((0 : Int32) &&& 31)))])) (fun t k => XS.ishr X103.here hx rfl (hb hby own_d9_9) rfl k) ?_
    refine own_retI X103 hx hlk hret (hb hby own_d9_10) (by decide) (by decide) ?_
    exact ⟨(by decide), N103, e103⟩
  ·
    refine own_by (g' := (mkF m 1 #[rv r1] [(.ref r1)])) (fun t k => XS.aloadN X0.here hx rfl (hb hby own_d9_0) rfl rfl k) ?_
    obtain ⟨T104, X104, e104, st104⟩ := getF X0 hx hZ hown (host := "") (Or.inl (hw _ (List.mem_of_getElem? (i := 33) rfl))) Via.refl e0 F1 (g := (mkF m 1 #[rv r1] [(.ref r1)])) rfl rfl (hb hby own_d9_1)
    refine own_by (g' := (mkF m 4 #[rv r1] [(.ref ba)])) st104 ?_
    obtain ⟨c105, Ar105, -, S105, G105, -, -⟩ := id V1
    refine own_by (g' := (mkF m 5 #[rv r1] [(.int (2 : Int32))])) (fun t k => X104.arraylength hx (own_at_ e104 Ar105.1) (State.isArrayOf_alike hZ.alike Ar105.2.1) (g := (mkF m 4 #[rv r1] [(.ref ba)])) rfl rfl (hb hby own_d9_4) t (by rw [len_of S105 G105]; exact k)) ?_
    refine own_by (g' := (mkF m 6 #[rv r1] [(.ref r1), (.int (2 : Int32))])) (fun t k => XS.aloadN X104.here hx rfl (hb hby own_d9_5) rfl rfl k) ?_
    refine own_callV X104 hx hZ hown (hw _ (List.mem_of_getElem? (i := 48) rfl)) (hw _ (List.mem_of_getElem? (i := 49) rfl)) (notFace_of_selects (args := #[]) (mvT hZ (hw _ (List.mem_of_getElem? (i := 51) rfl)))) (hw _ (List.mem_of_getElem? (i := 51) rfl)) (hw _ (List.mem_of_getElem? (i := 50) rfl)) (hw _ (List.mem_of_getElem? (i := 52) rfl)) (hw _ (List.mem_of_getElem? (i := 7) rfl)) (by decide) (a := r1) E1 (own_cod1 l Z a0 hw [] (r1) (zcs) h0 n0 Z0 O0 S_cs (by first | assumption | decide) E1 F2) 1 (by decide) (by decide) (by decide) (by decide) e104 (g := (mkF m 6 #[rv r1] [(.ref r1), (.int (2 : Int32))])) rfl (by rw [hml]; rfl) (argsL := []) (rest := [(.int (2 : Int32))]) (lenOf own_pd5 rfl) rfl (by show 2 * 0 + _ ≤ _; exact Nat.le_of_eq rfl) (hb hby own_d9_6) ?_
    intro v106 T106 L106 X106 q106
    obtain ⟨rfl, N106q, e106⟩ := q106
    have N106 := Fr.app N0 N106q
    show own_Goes p e below s _ _ _ T106 (mkF m 9 #[rv r1] [(.int (1 : Int32)), (.int (2 : Int32))])
    refine own_by (g' := (mkF m 10 #[rv r1] [(.int ((2 : Int32) >>> ((1 : Int32) &&& 31)))])) (fun t k => XS.ishr X106.here hx rfl (hb hby own_d9_9) rfl k) ?_
    refine own_retI X106 hx hlk hret (hb hby own_d9_10) (by decide) (by decide) ?_
    exact ⟨(by decide), N106, e106⟩
def Q_own_slen2 (Z : State) (r1 : Addr) (ba : Addr) (kb : ClassId) (cd : Int32) (ln : Int32) (vs : List Value) (zcs : Int32) (h0 : Heap) (n0 : Nat) (v : Option Value) (h : Heap) (L : List Loc) : Prop := v = some (.int (2 : Int32)) ∧ Fr n0 L ∧ h = h0
theorem own_ef_own_slen2 (m : MethodId) (r1 : Addr) : entryFrame m #[(.ref r1)] 1 = mkF m 0 #[rv r1] [] := by first | (simp [entryFrame, mkF, argsToLocals, Value.category]; done) | rfl
set_option maxRecDepth 65536 in
set_option maxHeartbeats 40000000 in
theorem own_slen2 (l : Launch) (Z : State) (a0 : Array Value) (hw : ∀ d ∈ tables_1, d.before a0 Z = true) (ws : List Jvm.Cond) (r1 : Addr) (ba : Addr) (kb : ClassId) (cd : Int32) (ln : Int32) (vs : List Value) (zcs : Int32) (h0 : Heap) (n0 : Nat) (Z0 : n0 ≤ h0.size) (O0 : Old Z n0 h0) (S_cs : Sta Z Z.heap "java/lang/String" "COMPACT_STRINGS" "Z" (.int zcs)) (hcs : ¬ zcs = (0 : Int32)) (E1 : Exa Z h0 r1 "java/lang/String") (F1 : Fld Z h0 r1 "java/lang/String" "value" "[B" (.ref ba)) (F2 : Fld Z h0 r1 "java/lang/String" "coder" "B" (.int cd)) (V1 : Arv Z h0 ba kb .byte ln vs (.int (0 : Int32))) (hl : own_len (2 : Int32) (4 : Int32) cd ln) :
    own_Ctr l Z (⟨"java/lang/String", "length", "()I"⟩ : MethodName) jdk_42_method_54_code 1 (some .int) ws ({ frames := 1, cells := 0, slots := 0, locals := 13 } : Room) (({ frames := 1, cells := 0, slots := 0, locals := 13 } : Room)).cells (({ frames := 1, cells := 0, slots := 0, locals := 13 } : Room)).slots #[(.ref r1)] h0 (Q_own_slen2 Z r1 ba kb cd ln vs zcs h0 n0) := by
  refine own_enter (plainFor_of_name own_pn1) ?_
  intro p e s m below meth c s₁ X0 hx hZ hby hml hown hnm hlk hret e0
  have N0 := Fr.nil n0
  refine own_cast (own_ef_own_slen2 m r1) ?_
  rcases hl with ⟨rfl, rfl⟩ | ⟨rfl, rfl⟩
  ·
    refine own_by (g' := (mkF m 1 #[rv r1] [(.ref r1)])) (fun t k => XS.aloadN X0.here hx rfl (hb hby own_d9_0) rfl rfl k) ?_
    obtain ⟨T101, X101, e101, st101⟩ := getF X0 hx hZ hown (host := "") (Or.inl (hw _ (List.mem_of_getElem? (i := 33) rfl))) Via.refl e0 F1 (g := (mkF m 1 #[rv r1] [(.ref r1)])) rfl rfl (hb hby own_d9_1)
    refine own_by (g' := (mkF m 4 #[rv r1] [(.ref ba)])) st101 ?_
    obtain ⟨c102, Ar102, -, S102, G102, -, -⟩ := id V1
    refine own_by (g' := (mkF m 5 #[rv r1] [(.int (2 : Int32))])) (fun t k => X101.arraylength hx (own_at_ e101 Ar102.1) (State.isArrayOf_alike hZ.alike Ar102.2.1) (g := (mkF m 4 #[rv r1] [(.ref ba)])) rfl rfl (hb hby own_d9_4) t (by rw [len_of S102 G102]; exact k)) ?_
    refine own_by (g' := (mkF m 6 #[rv r1] [(.ref r1), (.int (2 : Int32))])) (fun t k => XS.aloadN X101.here hx rfl (hb hby own_d9_5) rfl rfl k) ?_
    refine own_callV X101 hx hZ hown (hw _ (List.mem_of_getElem? (i := 48) rfl)) (hw _ (List.mem_of_getElem? (i := 49) rfl)) (notFace_of_selects (args := #[]) (mvT hZ (hw _ (List.mem_of_getElem? (i := 51) rfl)))) (hw _ (List.mem_of_getElem? (i := 51) rfl)) (hw _ (List.mem_of_getElem? (i := 50) rfl)) (hw _ (List.mem_of_getElem? (i := 52) rfl)) (hw _ (List.mem_of_getElem? (i := 7) rfl)) (by decide) (a := r1) E1 (own_cod0 l Z a0 hw [] (r1) (zcs) h0 n0 Z0 O0 S_cs (by first | assumption | decide) E1 F2) 1 (by decide) (by decide) (by decide) (by decide) e101 (g := (mkF m 6 #[rv r1] [(.ref r1), (.int (2 : Int32))])) rfl (by rw [hml]; rfl) (argsL := []) (rest := [(.int (2 : Int32))]) (lenOf own_pd5 rfl) rfl (by show 2 * 0 + _ ≤ _; exact Nat.le_of_eq rfl) (hb hby own_d9_6) ?_
    intro v103 T103 L103 X103 q103
    obtain ⟨rfl, N103q, e103⟩ := q103
    have N103 := Fr.app N0 N103q
    show own_Goes p e below s _ _ _ T103 (mkF m 9 #[rv r1] [(.int (0 : Int32)), (.int (2 : Int32))])
    refine own_by (g' := (mkF m 10 #[rv r1] [(.int ((2 : Int32) >>> ((0 : Int32) &&& 31)))])) (fun t k => XS.ishr X103.here hx rfl (hb hby own_d9_9) rfl k) ?_
    refine own_retI X103 hx hlk hret (hb hby own_d9_10) (by decide) (by decide) ?_
    exact ⟨(by decide), N103, e103⟩
  ·
    refine own_by (g' := (mkF m 1 #[rv r1] [(.ref r1)])) (fun t k => XS.aloadN X0.here hx rfl (hb hby own_d9_0) rfl rfl k) ?_
    obtain ⟨T104, X104, e104, st104⟩ := getF X0 hx hZ hown (host := "") (Or.inl (hw _ (List.mem_of_getElem? (i := 33) rfl))) Via.refl e0 F1 (g := (mkF m 1 #[rv r1] [(.ref r1)])) rfl rfl (hb hby own_d9_1)
    refine own_by (g' := (mkF m 4 #[rv r1] [(.ref ba)])) st104 ?_
    obtain ⟨c105, Ar105, -, S105, G105, -, -⟩ := id V1
    refine own_by (g' := (mkF m 5 #[rv r1] [(.int (4 : Int32))])) (fun t k => X104.arraylength hx (own_at_ e104 Ar105.1) (State.isArrayOf_alike hZ.alike Ar105.2.1) (g := (mkF m 4 #[rv r1] [(.ref ba)])) rfl rfl (hb hby own_d9_4) t (by rw [len_of S105 G105]; exact k)) ?_
    refine own_by (g' := (mkF m 6 #[rv r1] [(.ref r1), (.int (4 : Int32))])) (fun t k => XS.aloadN X104.here hx rfl (hb hby own_d9_5) rfl rfl k) ?_
    refine own_callV X104 hx hZ hown (hw _ (List.mem_of_getElem? (i := 48) rfl)) (hw _ (List.mem_of_getElem? (i := 49) rfl)) (notFace_of_selects (args := #[]) (mvT hZ (hw _ (List.mem_of_getElem? (i := 51) rfl)))) (hw _ (List.mem_of_getElem? (i := 51) rfl)) (hw _ (List.mem_of_getElem? (i := 50) rfl)) (hw _ (List.mem_of_getElem? (i := 52) rfl)) (hw _ (List.mem_of_getElem? (i := 7) rfl)) (by decide) (a := r1) E1 (own_cod1 l Z a0 hw [] (r1) (zcs) h0 n0 Z0 O0 S_cs (by first | assumption | decide) E1 F2) 1 (by decide) (by decide) (by decide) (by decide) e104 (g := (mkF m 6 #[rv r1] [(.ref r1), (.int (4 : Int32))])) rfl (by rw [hml]; rfl) (argsL := []) (rest := [(.int (4 : Int32))]) (lenOf own_pd5 rfl) rfl (by show 2 * 0 + _ ≤ _; exact Nat.le_of_eq rfl) (hb hby own_d9_6) ?_
    intro v106 T106 L106 X106 q106
    obtain ⟨rfl, N106q, e106⟩ := q106
    have N106 := Fr.app N0 N106q
    show own_Goes p e below s _ _ _ T106 (mkF m 9 #[rv r1] [(.int (1 : Int32)), (.int (4 : Int32))])
    refine own_by (g' := (mkF m 10 #[rv r1] [(.int ((4 : Int32) >>> ((1 : Int32) &&& 31)))])) (fun t k => XS.ishr X106.here hx rfl (hb hby own_d9_9) rfl k) ?_
    refine own_retI X106 hx hlk hret (hb hby own_d9_10) (by decide) (by decide) ?_
    exact ⟨(by decide), N106, e106⟩
def Q_own_slen3 (Z : State) (r1 : Addr) (ba : Addr) (kb : ClassId) (cd : Int32) (ln : Int32) (vs : List Value) (zcs : Int32) (h0 : Heap) (n0 : Nat) (v : Option Value) (h : Heap) (L : List Loc) : Prop := v = some (.int (3 : Int32)) ∧ Fr n0 L ∧ h = h0
theorem own_ef_own_slen3 (m : MethodId) (r1 : Addr) : entryFrame m #[(.ref r1)] 1 = mkF m 0 #[rv r1] [] := by first | (simp [entryFrame, mkF, argsToLocals, Value.category]; done) | rfl
set_option maxRecDepth 65536 in
set_option maxHeartbeats 40000000 in
theorem own_slen3 (l : Launch) (Z : State) (a0 : Array Value) (hw : ∀ d ∈ tables_1, d.before a0 Z = true) (ws : List Jvm.Cond) (r1 : Addr) (ba : Addr) (kb : ClassId) (cd : Int32) (ln : Int32) (vs : List Value) (zcs : Int32) (h0 : Heap) (n0 : Nat) (Z0 : n0 ≤ h0.size) (O0 : Old Z n0 h0) (S_cs : Sta Z Z.heap "java/lang/String" "COMPACT_STRINGS" "Z" (.int zcs)) (hcs : ¬ zcs = (0 : Int32)) (E1 : Exa Z h0 r1 "java/lang/String") (F1 : Fld Z h0 r1 "java/lang/String" "value" "[B" (.ref ba)) (F2 : Fld Z h0 r1 "java/lang/String" "coder" "B" (.int cd)) (V1 : Arv Z h0 ba kb .byte ln vs (.int (0 : Int32))) (hl : own_len (3 : Int32) (6 : Int32) cd ln) :
    own_Ctr l Z (⟨"java/lang/String", "length", "()I"⟩ : MethodName) jdk_42_method_54_code 1 (some .int) ws ({ frames := 1, cells := 0, slots := 0, locals := 13 } : Room) (({ frames := 1, cells := 0, slots := 0, locals := 13 } : Room)).cells (({ frames := 1, cells := 0, slots := 0, locals := 13 } : Room)).slots #[(.ref r1)] h0 (Q_own_slen3 Z r1 ba kb cd ln vs zcs h0 n0) := by
  refine own_enter (plainFor_of_name own_pn1) ?_
  intro p e s m below meth c s₁ X0 hx hZ hby hml hown hnm hlk hret e0
  have N0 := Fr.nil n0
  refine own_cast (own_ef_own_slen3 m r1) ?_
  rcases hl with ⟨rfl, rfl⟩ | ⟨rfl, rfl⟩
  ·
    refine own_by (g' := (mkF m 1 #[rv r1] [(.ref r1)])) (fun t k => XS.aloadN X0.here hx rfl (hb hby own_d9_0) rfl rfl k) ?_
    obtain ⟨T101, X101, e101, st101⟩ := getF X0 hx hZ hown (host := "") (Or.inl (hw _ (List.mem_of_getElem? (i := 33) rfl))) Via.refl e0 F1 (g := (mkF m 1 #[rv r1] [(.ref r1)])) rfl rfl (hb hby own_d9_1)
    refine own_by (g' := (mkF m 4 #[rv r1] [(.ref ba)])) st101 ?_
    obtain ⟨c102, Ar102, -, S102, G102, -, -⟩ := id V1
    refine own_by (g' := (mkF m 5 #[rv r1] [(.int (3 : Int32))])) (fun t k => X101.arraylength hx (own_at_ e101 Ar102.1) (State.isArrayOf_alike hZ.alike Ar102.2.1) (g := (mkF m 4 #[rv r1] [(.ref ba)])) rfl rfl (hb hby own_d9_4) t (by rw [len_of S102 G102]; exact k)) ?_
    refine own_by (g' := (mkF m 6 #[rv r1] [(.ref r1), (.int (3 : Int32))])) (fun t k => XS.aloadN X101.here hx rfl (hb hby own_d9_5) rfl rfl k) ?_
    refine own_callV X101 hx hZ hown (hw _ (List.mem_of_getElem? (i := 48) rfl)) (hw _ (List.mem_of_getElem? (i := 49) rfl)) (notFace_of_selects (args := #[]) (mvT hZ (hw _ (List.mem_of_getElem? (i := 51) rfl)))) (hw _ (List.mem_of_getElem? (i := 51) rfl)) (hw _ (List.mem_of_getElem? (i := 50) rfl)) (hw _ (List.mem_of_getElem? (i := 52) rfl)) (hw _ (List.mem_of_getElem? (i := 7) rfl)) (by decide) (a := r1) E1 (own_cod0 l Z a0 hw [] (r1) (zcs) h0 n0 Z0 O0 S_cs (by first | assumption | decide) E1 F2) 1 (by decide) (by decide) (by decide) (by decide) e101 (g := (mkF m 6 #[rv r1] [(.ref r1), (.int (3 : Int32))])) rfl (by rw [hml]; rfl) (argsL := []) (rest := [(.int (3 : Int32))]) (lenOf own_pd5 rfl) rfl (by show 2 * 0 + _ ≤ _; exact Nat.le_of_eq rfl) (hb hby own_d9_6) ?_
    intro v103 T103 L103 X103 q103
    obtain ⟨rfl, N103q, e103⟩ := q103
    have N103 := Fr.app N0 N103q
    show own_Goes p e below s _ _ _ T103 (mkF m 9 #[rv r1] [(.int (0 : Int32)), (.int (3 : Int32))])
    refine own_by (g' := (mkF m 10 #[rv r1] [(.int ((3 : Int32) >>> ((0 : Int32) &&& 31)))])) (fun t k => XS.ishr X103.here hx rfl (hb hby own_d9_9) rfl k) ?_
    refine own_retI X103 hx hlk hret (hb hby own_d9_10) (by decide) (by decide) ?_
    exact ⟨(by decide), N103, e103⟩
  ·
    refine own_by (g' := (mkF m 1 #[rv r1] [(.ref r1)])) (fun t k => XS.aloadN X0.here hx rfl (hb hby own_d9_0) rfl rfl k) ?_
    obtain ⟨T104, X104, e104, st104⟩ := getF X0 hx hZ hown (host := "") (Or.inl (hw _ (List.mem_of_getElem? (i := 33) rfl))) Via.refl e0 F1 (g := (mkF m 1 #[rv r1] [(.ref r1)])) rfl rfl (hb hby own_d9_1)
    refine own_by (g' := (mkF m 4 #[rv r1] [(.ref ba)])) st104 ?_
    obtain ⟨c105, Ar105, -, S105, G105, -, -⟩ := id V1
    refine own_by (g' := (mkF m 5 #[rv r1] [(.int (6 : Int32))])) (fun t k => X104.arraylength hx (own_at_ e104 Ar105.1) (State.isArrayOf_alike hZ.alike Ar105.2.1) (g := (mkF m 4 #[rv r1] [(.ref ba)])) rfl rfl (hb hby own_d9_4) t (by rw [len_of S105 G105]; exact k)) ?_
    refine own_by (g' := (mkF m 6 #[rv r1] [(.ref r1), (.int (6 : Int32))])) (fun t k => XS.aloadN X104.here hx rfl (hb hby own_d9_5) rfl rfl k) ?_
    refine own_callV X104 hx hZ hown (hw _ (List.mem_of_getElem? (i := 48) rfl)) (hw _ (List.mem_of_getElem? (i := 49) rfl)) (notFace_of_selects (args := #[]) (mvT hZ (hw _ (List.mem_of_getElem? (i := 51) rfl)))) (hw _ (List.mem_of_getElem? (i := 51) rfl)) (hw _ (List.mem_of_getElem? (i := 50) rfl)) (hw _ (List.mem_of_getElem? (i := 52) rfl)) (hw _ (List.mem_of_getElem? (i := 7) rfl)) (by decide) (a := r1) E1 (own_cod1 l Z a0 hw [] (r1) (zcs) h0 n0 Z0 O0 S_cs (by first | assumption | decide) E1 F2) 1 (by decide) (by decide) (by decide) (by decide) e104 (g := (mkF m 6 #[rv r1] [(.ref r1), (.int (6 : Int32))])) rfl (by rw [hml]; rfl) (argsL := []) (rest := [(.int (6 : Int32))]) (lenOf own_pd5 rfl) rfl (by show 2 * 0 + _ ≤ _; exact Nat.le_of_eq rfl) (hb hby own_d9_6) ?_
    intro v106 T106 L106 X106 q106
    obtain ⟨rfl, N106q, e106⟩ := q106
    have N106 := Fr.app N0 N106q
    show own_Goes p e below s _ _ _ T106 (mkF m 9 #[rv r1] [(.int (1 : Int32)), (.int (6 : Int32))])
    refine own_by (g' := (mkF m 10 #[rv r1] [(.int ((6 : Int32) >>> ((1 : Int32) &&& 31)))])) (fun t k => XS.ishr X106.here hx rfl (hb hby own_d9_9) rfl k) ?_
    refine own_retI X106 hx hlk hret (hb hby own_d9_10) (by decide) (by decide) ?_
    exact ⟨(by decide), N106, e106⟩
def Q_own_slen4 (Z : State) (r1 : Addr) (ba : Addr) (kb : ClassId) (cd : Int32) (ln : Int32) (vs : List Value) (zcs : Int32) (h0 : Heap) (n0 : Nat) (v : Option Value) (h : Heap) (L : List Loc) : Prop := v = some (.int (4 : Int32)) ∧ Fr n0 L ∧ h = h0
theorem own_ef_own_slen4 (m : MethodId) (r1 : Addr) : entryFrame m #[(.ref r1)] 1 = mkF m 0 #[rv r1] [] := by first | (simp [entryFrame, mkF, argsToLocals, Value.category]; done) | rfl
set_option maxRecDepth 65536 in
set_option maxHeartbeats 40000000 in
theorem own_slen4 (l : Launch) (Z : State) (a0 : Array Value) (hw : ∀ d ∈ tables_1, d.before a0 Z = true) (ws : List Jvm.Cond) (r1 : Addr) (ba : Addr) (kb : ClassId) (cd : Int32) (ln : Int32) (vs : List Value) (zcs : Int32) (h0 : Heap) (n0 : Nat) (Z0 : n0 ≤ h0.size) (O0 : Old Z n0 h0) (S_cs : Sta Z Z.heap "java/lang/String" "COMPACT_STRINGS" "Z" (.int zcs)) (hcs : ¬ zcs = (0 : Int32)) (E1 : Exa Z h0 r1 "java/lang/String") (F1 : Fld Z h0 r1 "java/lang/String" "value" "[B" (.ref ba)) (F2 : Fld Z h0 r1 "java/lang/String" "coder" "B" (.int cd)) (V1 : Arv Z h0 ba kb .byte ln vs (.int (0 : Int32))) (hl : own_len (4 : Int32) (8 : Int32) cd ln) :
    own_Ctr l Z (⟨"java/lang/String", "length", "()I"⟩ : MethodName) jdk_42_method_54_code 1 (some .int) ws ({ frames := 1, cells := 0, slots := 0, locals := 13 } : Room) (({ frames := 1, cells := 0, slots := 0, locals := 13 } : Room)).cells (({ frames := 1, cells := 0, slots := 0, locals := 13 } : Room)).slots #[(.ref r1)] h0 (Q_own_slen4 Z r1 ba kb cd ln vs zcs h0 n0) := by
  refine own_enter (plainFor_of_name own_pn1) ?_
  intro p e s m below meth c s₁ X0 hx hZ hby hml hown hnm hlk hret e0
  have N0 := Fr.nil n0
  refine own_cast (own_ef_own_slen4 m r1) ?_
  rcases hl with ⟨rfl, rfl⟩ | ⟨rfl, rfl⟩
  ·
    refine own_by (g' := (mkF m 1 #[rv r1] [(.ref r1)])) (fun t k => XS.aloadN X0.here hx rfl (hb hby own_d9_0) rfl rfl k) ?_
    obtain ⟨T101, X101, e101, st101⟩ := getF X0 hx hZ hown (host := "") (Or.inl (hw _ (List.mem_of_getElem? (i := 33) rfl))) Via.refl e0 F1 (g := (mkF m 1 #[rv r1] [(.ref r1)])) rfl rfl (hb hby own_d9_1)
    refine own_by (g' := (mkF m 4 #[rv r1] [(.ref ba)])) st101 ?_
    obtain ⟨c102, Ar102, -, S102, G102, -, -⟩ := id V1
    refine own_by (g' := (mkF m 5 #[rv r1] [(.int (4 : Int32))])) (fun t k => X101.arraylength hx (own_at_ e101 Ar102.1) (State.isArrayOf_alike hZ.alike Ar102.2.1) (g := (mkF m 4 #[rv r1] [(.ref ba)])) rfl rfl (hb hby own_d9_4) t (by rw [len_of S102 G102]; exact k)) ?_
    refine own_by (g' := (mkF m 6 #[rv r1] [(.ref r1), (.int (4 : Int32))])) (fun t k => XS.aloadN X101.here hx rfl (hb hby own_d9_5) rfl rfl k) ?_
    refine own_callV X101 hx hZ hown (hw _ (List.mem_of_getElem? (i := 48) rfl)) (hw _ (List.mem_of_getElem? (i := 49) rfl)) (notFace_of_selects (args := #[]) (mvT hZ (hw _ (List.mem_of_getElem? (i := 51) rfl)))) (hw _ (List.mem_of_getElem? (i := 51) rfl)) (hw _ (List.mem_of_getElem? (i := 50) rfl)) (hw _ (List.mem_of_getElem? (i := 52) rfl)) (hw _ (List.mem_of_getElem? (i := 7) rfl)) (by decide) (a := r1) E1 (own_cod0 l Z a0 hw [] (r1) (zcs) h0 n0 Z0 O0 S_cs (by first | assumption | decide) E1 F2) 1 (by decide) (by decide) (by decide) (by decide) e101 (g := (mkF m 6 #[rv r1] [(.ref r1), (.int (4 : Int32))])) rfl (by rw [hml]; rfl) (argsL := []) (rest := [(.int (4 : Int32))]) (lenOf own_pd5 rfl) rfl (by show 2 * 0 + _ ≤ _; exact Nat.le_of_eq rfl) (hb hby own_d9_6) ?_
    intro v103 T103 L103 X103 q103
    obtain ⟨rfl, N103q, e103⟩ := q103
    have N103 := Fr.app N0 N103q
    show own_Goes p e below s _ _ _ T103 (mkF m 9 #[rv r1] [(.int (0 : Int32)), (.int (4 : Int32))])
    refine own_by (g' := (mkF m 10 #[rv r1] [(.int ((4 : Int32) >>> ((0 : Int32) &&& 31)))])) (fun t k => XS.ishr X103.here hx rfl (hb hby own_d9_9) rfl k) ?_
    refine own_retI X103 hx hlk hret (hb hby own_d9_10) (by decide) (by decide) ?_
    exact ⟨(by decide), N103, e103⟩
  ·
    refine own_by (g' := (mkF m 1 #[rv r1] [(.ref r1)])) (fun t k => XS.aloadN X0.here hx rfl (hb hby own_d9_0) rfl rfl k) ?_
    obtain ⟨T104, X104, e104, st104⟩ := getF X0 hx hZ hown (host := "") (Or.inl (hw _ (List.mem_of_getElem? (i := 33) rfl))) Via.refl e0 F1 (g := (mkF m 1 #[rv r1] [(.ref r1)])) rfl rfl (hb hby own_d9_1)
    refine own_by (g' := (mkF m 4 #[rv r1] [(.ref ba)])) st104 ?_
    obtain ⟨c105, Ar105, -, S105, G105, -, -⟩ := id V1
    refine own_by (g' := (mkF m 5 #[rv r1] [(.int (8 : Int32))])) (fun t k => X104.arraylength hx (own_at_ e104 Ar105.1) (State.isArrayOf_alike hZ.alike Ar105.2.1) (g := (mkF m 4 #[rv r1] [(.ref ba)])) rfl rfl (hb hby own_d9_4) t (by rw [len_of S105 G105]; exact k)) ?_
    refine own_by (g' := (mkF m 6 #[rv r1] [(.ref r1), (.int (8 : Int32))])) (fun t k => XS.aloadN X104.here hx rfl (hb hby own_d9_5) rfl rfl k) ?_
    refine own_callV X104 hx hZ hown (hw _ (List.mem_of_getElem? (i := 48) rfl)) (hw _ (List.mem_of_getElem? (i := 49) rfl)) (notFace_of_selects (args := #[]) (mvT hZ (hw _ (List.mem_of_getElem? (i := 51) rfl)))) (hw _ (List.mem_of_getElem? (i := 51) rfl)) (hw _ (List.mem_of_getElem? (i := 50) rfl)) (hw _ (List.mem_of_getElem? (i := 52) rfl)) (hw _ (List.mem_of_getElem? (i := 7) rfl)) (by decide) (a := r1) E1 (own_cod1 l Z a0 hw [] (r1) (zcs) h0 n0 Z0 O0 S_cs (by first | assumption | decide) E1 F2) 1 (by decide) (by decide) (by decide) (by decide) e104 (g := (mkF m 6 #[rv r1] [(.ref r1), (.int (8 : Int32))])) rfl (by rw [hml]; rfl) (argsL := []) (rest := [(.int (8 : Int32))]) (lenOf own_pd5 rfl) rfl (by show 2 * 0 + _ ≤ _; exact Nat.le_of_eq rfl) (hb hby own_d9_6) ?_
    intro v106 T106 L106 X106 q106
    obtain ⟨rfl, N106q, e106⟩ := q106
    have N106 := Fr.app N0 N106q
    show own_Goes p e below s _ _ _ T106 (mkF m 9 #[rv r1] [(.int (1 : Int32)), (.int (8 : Int32))])
    refine own_by (g' := (mkF m 10 #[rv r1] [(.int ((8 : Int32) >>> ((1 : Int32) &&& 31)))])) (fun t k => XS.ishr X106.here hx rfl (hb hby own_d9_9) rfl k) ?_
    refine own_retI X106 hx hlk hret (hb hby own_d9_10) (by decide) (by decide) ?_
    exact ⟨(by decide), N106, e106⟩
theorem own_d11_0 : decode jdk_42_method_56_code 0 = .ok (.aload_n 0, 1) := by decide +kernel
theorem own_d11_1 : decode jdk_42_method_56_code 1 = .ok (.invokevirtual 492, 3) := by decide +kernel
theorem own_pd6 : parseMethodDescriptor "()Z" = some ⟨[], some .boolean⟩ := by decide +kernel
theorem own_d11_4 : decode jdk_42_method_56_code 4 = .ok (.ifCond .eq 12, 3) := by decide +kernel
theorem own_d11_7 : decode jdk_42_method_56_code 7 = .ok (.aload_n 0, 1) := by decide +kernel
theorem own_d11_8 : decode jdk_42_method_56_code 8 = .ok (.getfield 9, 3) := by decide +kernel
theorem own_d11_11 : decode jdk_42_method_56_code 11 = .ok (.iload_n 1, 1) := by decide +kernel
theorem own_d11_12 : decode jdk_42_method_56_code 12 = .ok (.invokestatic 495, 3) := by decide +kernel
theorem own_d11_15 : decode jdk_42_method_56_code 15 = .ok (.ireturn, 1) := by decide +kernel
theorem own_d11_16 : decode jdk_42_method_56_code 16 = .ok (.aload_n 0, 1) := by decide +kernel
theorem own_d11_17 : decode jdk_42_method_56_code 17 = .ok (.getfield 9, 3) := by decide +kernel
theorem own_d11_20 : decode jdk_42_method_56_code 20 = .ok (.iload_n 1, 1) := by decide +kernel
theorem own_d11_21 : decode jdk_42_method_56_code 21 = .ok (.invokestatic 498, 3) := by decide +kernel
theorem own_d11_24 : decode jdk_42_method_56_code 24 = .ok (.ireturn, 1) := by decide +kernel
def Q_own_schar0 (Z : State) (r1 : Addr) (ba : Addr) (kb : ClassId) (cd : Int32) (ln : Int32) (vs : List Value) (xc : Int32) (zcs : Int32) (vsf : Value) (h0 : Heap) (n0 : Nat) (v : Option Value) (h : Heap) (L : List Loc) : Prop := v = some (.int xc) ∧ Fr n0 L ∧ h = h0
theorem own_ef_own_schar0 (m : MethodId) (r1 : Addr) : entryFrame m #[(.ref r1), (.int (0 : Int32))] 2 = mkF m 0 #[rv r1, iv (0 : Int32)] [] := by first | (simp [entryFrame, mkF, argsToLocals, Value.category]; done) | rfl
set_option maxRecDepth 65536 in
set_option maxHeartbeats 40000000 in
theorem own_schar0 (l : Launch) (Z : State) (a0 : Array Value) (hw : ∀ d ∈ tables_1, d.before a0 Z = true) (ws : List Jvm.Cond) (r1 : Addr) (ba : Addr) (kb : ClassId) (cd : Int32) (ln : Int32) (vs : List Value) (xc : Int32) (zcs : Int32) (vsf : Value) (h0 : Heap) (n0 : Nat) (Z0 : n0 ≤ h0.size) (O0 : Old Z n0 h0) (S_cs : Sta Z Z.heap "java/lang/String" "COMPACT_STRINGS" "Z" (.int zcs)) (hcs : ¬ zcs = (0 : Int32)) (S_ad : Sta Z Z.heap "java/lang/StringUTF16" "$assertionsDisabled" "Z" (.int (1 : Int32))) (S_hi : Sta Z Z.heap "java/lang/StringUTF16" "HI_BYTE_SHIFT" "I" (.int (0 : Int32))) (S_lo : Sta Z Z.heap "java/lang/StringUTF16" "LO_BYTE_SHIFT" "I" (.int (8 : Int32))) (S_sf : Sta Z Z.heap "jdk/internal/util/Preconditions" "SIOOBE_FORMATTER" "Ljava/util/function/BiFunction;" vsf) (r_sf : (vsf).isRef = true) (E1 : Exa Z h0 r1 "java/lang/String") (F1 : Fld Z h0 r1 "java/lang/String" "value" "[B" (.ref ba)) (F2 : Fld Z h0 r1 "java/lang/String" "coder" "B" (.int cd)) (V1 : Arv Z h0 ba kb .byte ln vs (.int (0 : Int32))) (ha : own_cA0 xc cd ln vs) (hk : own_ch xc) :
    own_Ctr l Z (⟨"java/lang/String", "charAt", "(I)C"⟩ : MethodName) jdk_42_method_56_code 2 (some .char) ws ({ frames := 4, cells := 0, slots := 0, locals := 53 } : Room) (({ frames := 4, cells := 0, slots := 0, locals := 53 } : Room)).cells (({ frames := 4, cells := 0, slots := 0, locals := 53 } : Room)).slots #[(.ref r1), (.int (0 : Int32))] h0 (Q_own_schar0 Z r1 ba kb cd ln vs xc zcs vsf h0 n0) := by
  refine own_enter (plainFor_of_name own_pn1) ?_
  intro p e s m below meth c s₁ X0 hx hZ hby hml hown hnm hlk hret e0
  have N0 := Fr.nil n0
  refine own_cast (own_ef_own_schar0 m r1) ?_
  rcases ha with ⟨rfl, q1, bc, q3, q5⟩ | ⟨rfl, q0, q1, q2, b0, b1, q3, q4, q5⟩
  ·
    refine own_by (g' := (mkF m 1 #[rv r1, iv (0 : Int32)] [(.ref r1)])) (fun t k => XS.aloadN X0.here hx rfl (hb hby own_d11_0) rfl rfl k) ?_
    refine own_callV X0 hx hZ hown (hw _ (List.mem_of_getElem? (i := 58) rfl)) (hw _ (List.mem_of_getElem? (i := 59) rfl)) (notFace_of_selects (args := #[]) (mvT hZ (hw _ (List.mem_of_getElem? (i := 61) rfl)))) (hw _ (List.mem_of_getElem? (i := 61) rfl)) (hw _ (List.mem_of_getElem? (i := 60) rfl)) (hw _ (List.mem_of_getElem? (i := 62) rfl)) (hw _ (List.mem_of_getElem? (i := 7) rfl)) (by decide) (a := r1) E1 (own_isl0 l Z a0 hw [] (r1) (zcs) h0 n0 Z0 O0 S_cs (by first | assumption | decide) E1 F2) 0 (by decide) (by decide) (by decide) (by decide) e0 (g := (mkF m 1 #[rv r1, iv (0 : Int32)] [(.ref r1)])) rfl (by rw [hml]; rfl) (argsL := []) (rest := []) (lenOf own_pd6 rfl) rfl (by show 2 * 0 + _ ≤ _; exact Nat.le_of_eq rfl) (hb hby own_d11_1) ?_
    intro v101 T101 L101 X101 q101
    obtain ⟨rfl, N101q, e101⟩ := q101
    have N101 := Fr.app N0 N101q
    show own_Goes p e below s _ _ _ T101 (mkF m 4 #[rv r1, iv (0 : Int32)] [(.int (1 : Int32))])
    refine own_by (g' := (mkF m 8 #[rv r1, iv (0 : Int32)] [(.ref r1)])) (fun t k => XS.ifNo X101.here hx rfl (hb hby own_d11_4) rfl ((if0 _ _).trans (feq (by decide : ¬ ((1 : Int32) = (0 : Int32)))).1) (XS.aloadN X101.here hx rfl (hb hby own_d11_7) rfl rfl k)) ?_
    obtain ⟨T102, X102, e102, st102⟩ := getF X101 hx hZ hown (host := "") (Or.inl (hw _ (List.mem_of_getElem? (i := 33) rfl))) Via.refl e101 F1 (g := (mkF m 8 #[rv r1, iv (0 : Int32)] [(.ref r1)])) rfl rfl (hb hby own_d11_8)
    refine own_by (g' := (mkF m 11 #[rv r1, iv (0 : Int32)] [(.ref ba)])) st102 ?_
    refine own_by (g' := (mkF m 12 #[rv r1, iv (0 : Int32)] [(.int (0 : Int32)), (.ref ba)])) (fun t k => XS.iloadN X102.here hx rfl (hb hby own_d11_11) rfl k) ?_
    refine own_callS X102 hx hZ hown (hw _ (List.mem_of_getElem? (i := 63) rfl)) (hw _ (List.mem_of_getElem? (i := 64) rfl)) (hw _ (List.mem_of_getElem? (i := 65) rfl)) (hw _ (List.mem_of_getElem? (i := 66) rfl)) (by decide) (own_lchar0 l Z a0 hw [] (ba) (kb) (ln) (vs) (bc) (xc) (vsf) h0 n0 Z0 O0 S_sf r_sf V1 (by first | assumption | decide) (by first | assumption | decide) (by first | assumption | decide)) 0 (by decide) (by decide) (by decide) (by decide) e102 (g := (mkF m 12 #[rv r1, iv (0 : Int32)] [(.int (0 : Int32)), (.ref ba)])) rfl (by rw [hml]; rfl) (argsL := [(.ref ba), (.int (0 : Int32))]) (rest := []) (lenOf own_pd4 rfl) rfl (by show 2 * 0 + _ ≤ _; exact Nat.le_of_eq rfl) (hb hby own_d11_12) ?_
    intro v103 T103 L103 X103 q103
    obtain ⟨rfl, N103q, e103⟩ := q103
    have N103 := Fr.app N101 N103q
    show own_Goes p e below s _ _ _ T103 (mkF m 15 #[rv r1, iv (0 : Int32)] [(.int xc)])
    refine own_retN X103 hx hlk hret (t := .char) (by simp) (hb hby own_d11_15) (by decide) (by decide) ?_
    exact ⟨(congrArg (fun z => some (Value.int z)) hk), N103, e103⟩
  ·
    refine own_by (g' := (mkF m 1 #[rv r1, iv (0 : Int32)] [(.ref r1)])) (fun t k => XS.aloadN X0.here hx rfl (hb hby own_d11_0) rfl rfl k) ?_
    refine own_callV X0 hx hZ hown (hw _ (List.mem_of_getElem? (i := 58) rfl)) (hw _ (List.mem_of_getElem? (i := 59) rfl)) (notFace_of_selects (args := #[]) (mvT hZ (hw _ (List.mem_of_getElem? (i := 61) rfl)))) (hw _ (List.mem_of_getElem? (i := 61) rfl)) (hw _ (List.mem_of_getElem? (i := 60) rfl)) (hw _ (List.mem_of_getElem? (i := 62) rfl)) (hw _ (List.mem_of_getElem? (i := 7) rfl)) (by decide) (a := r1) E1 (own_isl1 l Z a0 hw [] (r1) (zcs) h0 n0 Z0 O0 S_cs (by first | assumption | decide) E1 F2) 0 (by decide) (by decide) (by decide) (by decide) e0 (g := (mkF m 1 #[rv r1, iv (0 : Int32)] [(.ref r1)])) rfl (by rw [hml]; rfl) (argsL := []) (rest := []) (lenOf own_pd6 rfl) rfl (by show 2 * 0 + _ ≤ _; exact Nat.le_of_eq rfl) (hb hby own_d11_1) ?_
    intro v104 T104 L104 X104 q104
    obtain ⟨rfl, N104q, e104⟩ := q104
    have N104 := Fr.app N0 N104q
    show own_Goes p e below s _ _ _ T104 (mkF m 4 #[rv r1, iv (0 : Int32)] [(.int (0 : Int32))])
    refine own_by (g' := (mkF m 17 #[rv r1, iv (0 : Int32)] [(.ref r1)])) (fun t k => XS.ifYes X104.here hx rfl (pc0 := 4) (pc' := 16) rfl (hb hby own_d11_4) rfl ((if0 _ _).trans (teq (by decide : (0 : Int32) = (0 : Int32))).1) (by decide) (by decide) (XS.aloadN X104.here hx rfl (hb hby own_d11_16) rfl rfl k)) ?_
    obtain ⟨T105, X105, e105, st105⟩ := getF X104 hx hZ hown (host := "") (Or.inl (hw _ (List.mem_of_getElem? (i := 33) rfl))) Via.refl e104 F1 (g := (mkF m 17 #[rv r1, iv (0 : Int32)] [(.ref r1)])) rfl rfl (hb hby own_d11_17)
    refine own_by (g' := (mkF m 20 #[rv r1, iv (0 : Int32)] [(.ref ba)])) st105 ?_
    refine own_by (g' := (mkF m 21 #[rv r1, iv (0 : Int32)] [(.int (0 : Int32)), (.ref ba)])) (fun t k => XS.iloadN X105.here hx rfl (hb hby own_d11_20) rfl k) ?_
    refine own_callS X105 hx hZ hown (hw _ (List.mem_of_getElem? (i := 95) rfl)) (hw _ (List.mem_of_getElem? (i := 96) rfl)) (hw _ (List.mem_of_getElem? (i := 22) rfl)) (hw _ (List.mem_of_getElem? (i := 97) rfl)) (by decide) (own_uchar0 l Z a0 hw [] (ba) (kb) (ln) (vs) (b0) (b1) (xc) (vsf) h0 n0 Z0 O0 S_ad S_hi S_lo S_sf r_sf (by first | assumption | decide) V1 (by first | assumption | decide) (by first | assumption | decide) (by first | assumption | decide) (by first | assumption | decide) (by first | assumption | decide)) 0 (by decide) (by decide) (by decide) (by decide) e105 (g := (mkF m 21 #[rv r1, iv (0 : Int32)] [(.int (0 : Int32)), (.ref ba)])) rfl (by rw [hml]; rfl) (argsL := [(.ref ba), (.int (0 : Int32))]) (rest := []) (lenOf own_pd4 rfl) rfl (by show 2 * 0 + _ ≤ _; exact Nat.le_of_eq rfl) (hb hby own_d11_21) ?_
    intro v106 T106 L106 X106 q106
    obtain ⟨rfl, N106q, e106⟩ := q106
    have N106 := Fr.app N104 N106q
    show own_Goes p e below s _ _ _ T106 (mkF m 24 #[rv r1, iv (0 : Int32)] [(.int xc)])
    refine own_retN X106 hx hlk hret (t := .char) (by simp) (hb hby own_d11_24) (by decide) (by decide) ?_
    exact ⟨(congrArg (fun z => some (Value.int z)) hk), N106, e106⟩
def Q_own_schar1 (Z : State) (r1 : Addr) (ba : Addr) (kb : ClassId) (cd : Int32) (ln : Int32) (vs : List Value) (xc : Int32) (zcs : Int32) (vsf : Value) (h0 : Heap) (n0 : Nat) (v : Option Value) (h : Heap) (L : List Loc) : Prop := v = some (.int xc) ∧ Fr n0 L ∧ h = h0
theorem own_ef_own_schar1 (m : MethodId) (r1 : Addr) : entryFrame m #[(.ref r1), (.int (1 : Int32))] 2 = mkF m 0 #[rv r1, iv (1 : Int32)] [] := by first | (simp [entryFrame, mkF, argsToLocals, Value.category]; done) | rfl
set_option maxRecDepth 65536 in
set_option maxHeartbeats 40000000 in
theorem own_schar1 (l : Launch) (Z : State) (a0 : Array Value) (hw : ∀ d ∈ tables_1, d.before a0 Z = true) (ws : List Jvm.Cond) (r1 : Addr) (ba : Addr) (kb : ClassId) (cd : Int32) (ln : Int32) (vs : List Value) (xc : Int32) (zcs : Int32) (vsf : Value) (h0 : Heap) (n0 : Nat) (Z0 : n0 ≤ h0.size) (O0 : Old Z n0 h0) (S_cs : Sta Z Z.heap "java/lang/String" "COMPACT_STRINGS" "Z" (.int zcs)) (hcs : ¬ zcs = (0 : Int32)) (S_ad : Sta Z Z.heap "java/lang/StringUTF16" "$assertionsDisabled" "Z" (.int (1 : Int32))) (S_hi : Sta Z Z.heap "java/lang/StringUTF16" "HI_BYTE_SHIFT" "I" (.int (0 : Int32))) (S_lo : Sta Z Z.heap "java/lang/StringUTF16" "LO_BYTE_SHIFT" "I" (.int (8 : Int32))) (S_sf : Sta Z Z.heap "jdk/internal/util/Preconditions" "SIOOBE_FORMATTER" "Ljava/util/function/BiFunction;" vsf) (r_sf : (vsf).isRef = true) (E1 : Exa Z h0 r1 "java/lang/String") (F1 : Fld Z h0 r1 "java/lang/String" "value" "[B" (.ref ba)) (F2 : Fld Z h0 r1 "java/lang/String" "coder" "B" (.int cd)) (V1 : Arv Z h0 ba kb .byte ln vs (.int (0 : Int32))) (ha : own_cA1 xc cd ln vs) (hk : own_ch xc) :
    own_Ctr l Z (⟨"java/lang/String", "charAt", "(I)C"⟩ : MethodName) jdk_42_method_56_code 2 (some .char) ws ({ frames := 4, cells := 0, slots := 0, locals := 53 } : Room) (({ frames := 4, cells := 0, slots := 0, locals := 53 } : Room)).cells (({ frames := 4, cells := 0, slots := 0, locals := 53 } : Room)).slots #[(.ref r1), (.int (1 : Int32))] h0 (Q_own_schar1 Z r1 ba kb cd ln vs xc zcs vsf h0 n0) := by
  refine own_enter (plainFor_of_name own_pn1) ?_
  intro p e s m below meth c s₁ X0 hx hZ hby hml hown hnm hlk hret e0
  have N0 := Fr.nil n0
  refine own_cast (own_ef_own_schar1 m r1) ?_
  rcases ha with ⟨rfl, q1, bc, q3, q5⟩ | ⟨rfl, q0, q1, q2, b0, b1, q3, q4, q5⟩
  ·
    refine own_by (g' := (mkF m 1 #[rv r1, iv (1 : Int32)] [(.ref r1)])) (fun t k => XS.aloadN X0.here hx rfl (hb hby own_d11_0) rfl rfl k) ?_
    refine own_callV X0 hx hZ hown (hw _ (List.mem_of_getElem? (i := 58) rfl)) (hw _ (List.mem_of_getElem? (i := 59) rfl)) (notFace_of_selects (args := #[]) (mvT hZ (hw _ (List.mem_of_getElem? (i := 61) rfl)))) (hw _ (List.mem_of_getElem? (i := 61) rfl)) (hw _ (List.mem_of_getElem? (i := 60) rfl)) (hw _ (List.mem_of_getElem? (i := 62) rfl)) (hw _ (List.mem_of_getElem? (i := 7) rfl)) (by decide) (a := r1) E1 (own_isl0 l Z a0 hw [] (r1) (zcs) h0 n0 Z0 O0 S_cs (by first | assumption | decide) E1 F2) 0 (by decide) (by decide) (by decide) (by decide) e0 (g := (mkF m 1 #[rv r1, iv (1 : Int32)] [(.ref r1)])) rfl (by rw [hml]; rfl) (argsL := []) (rest := []) (lenOf own_pd6 rfl) rfl (by show 2 * 0 + _ ≤ _; exact Nat.le_of_eq rfl) (hb hby own_d11_1) ?_
    intro v101 T101 L101 X101 q101
    obtain ⟨rfl, N101q, e101⟩ := q101
    have N101 := Fr.app N0 N101q
    show own_Goes p e below s _ _ _ T101 (mkF m 4 #[rv r1, iv (1 : Int32)] [(.int (1 : Int32))])
    refine own_by (g' := (mkF m 8 #[rv r1, iv (1 : Int32)] [(.ref r1)])) (fun t k => XS.ifNo X101.here hx rfl (hb hby own_d11_4) rfl ((if0 _ _).trans (feq (by decide : ¬ ((1 : Int32) = (0 : Int32)))).1) (XS.aloadN X101.here hx rfl (hb hby own_d11_7) rfl rfl k)) ?_
    obtain ⟨T102, X102, e102, st102⟩ := getF X101 hx hZ hown (host := "") (Or.inl (hw _ (List.mem_of_getElem? (i := 33) rfl))) Via.refl e101 F1 (g := (mkF m 8 #[rv r1, iv (1 : Int32)] [(.ref r1)])) rfl rfl (hb hby own_d11_8)
    refine own_by (g' := (mkF m 11 #[rv r1, iv (1 : Int32)] [(.ref ba)])) st102 ?_
    refine own_by (g' := (mkF m 12 #[rv r1, iv (1 : Int32)] [(.int (1 : Int32)), (.ref ba)])) (fun t k => XS.iloadN X102.here hx rfl (hb hby own_d11_11) rfl k) ?_
    refine own_callS X102 hx hZ hown (hw _ (List.mem_of_getElem? (i := 63) rfl)) (hw _ (List.mem_of_getElem? (i := 64) rfl)) (hw _ (List.mem_of_getElem? (i := 65) rfl)) (hw _ (List.mem_of_getElem? (i := 66) rfl)) (by decide) (own_lchar1 l Z a0 hw [] (ba) (kb) (ln) (vs) (bc) (xc) (vsf) h0 n0 Z0 O0 S_sf r_sf V1 (by first | assumption | decide) (by first | assumption | decide) (by first | assumption | decide)) 0 (by decide) (by decide) (by decide) (by decide) e102 (g := (mkF m 12 #[rv r1, iv (1 : Int32)] [(.int (1 : Int32)), (.ref ba)])) rfl (by rw [hml]; rfl) (argsL := [(.ref ba), (.int (1 : Int32))]) (rest := []) (lenOf own_pd4 rfl) rfl (by show 2 * 0 + _ ≤ _; exact Nat.le_of_eq rfl) (hb hby own_d11_12) ?_
    intro v103 T103 L103 X103 q103
    obtain ⟨rfl, N103q, e103⟩ := q103
    have N103 := Fr.app N101 N103q
    show own_Goes p e below s _ _ _ T103 (mkF m 15 #[rv r1, iv (1 : Int32)] [(.int xc)])
    refine own_retN X103 hx hlk hret (t := .char) (by simp) (hb hby own_d11_15) (by decide) (by decide) ?_
    exact ⟨(congrArg (fun z => some (Value.int z)) hk), N103, e103⟩
  ·
    refine own_by (g' := (mkF m 1 #[rv r1, iv (1 : Int32)] [(.ref r1)])) (fun t k => XS.aloadN X0.here hx rfl (hb hby own_d11_0) rfl rfl k) ?_
    refine own_callV X0 hx hZ hown (hw _ (List.mem_of_getElem? (i := 58) rfl)) (hw _ (List.mem_of_getElem? (i := 59) rfl)) (notFace_of_selects (args := #[]) (mvT hZ (hw _ (List.mem_of_getElem? (i := 61) rfl)))) (hw _ (List.mem_of_getElem? (i := 61) rfl)) (hw _ (List.mem_of_getElem? (i := 60) rfl)) (hw _ (List.mem_of_getElem? (i := 62) rfl)) (hw _ (List.mem_of_getElem? (i := 7) rfl)) (by decide) (a := r1) E1 (own_isl1 l Z a0 hw [] (r1) (zcs) h0 n0 Z0 O0 S_cs (by first | assumption | decide) E1 F2) 0 (by decide) (by decide) (by decide) (by decide) e0 (g := (mkF m 1 #[rv r1, iv (1 : Int32)] [(.ref r1)])) rfl (by rw [hml]; rfl) (argsL := []) (rest := []) (lenOf own_pd6 rfl) rfl (by show 2 * 0 + _ ≤ _; exact Nat.le_of_eq rfl) (hb hby own_d11_1) ?_
    intro v104 T104 L104 X104 q104
    obtain ⟨rfl, N104q, e104⟩ := q104
    have N104 := Fr.app N0 N104q
    show own_Goes p e below s _ _ _ T104 (mkF m 4 #[rv r1, iv (1 : Int32)] [(.int (0 : Int32))])
    refine own_by (g' := (mkF m 17 #[rv r1, iv (1 : Int32)] [(.ref r1)])) (fun t k => XS.ifYes X104.here hx rfl (pc0 := 4) (pc' := 16) rfl (hb hby own_d11_4) rfl ((if0 _ _).trans (teq (by decide : (0 : Int32) = (0 : Int32))).1) (by decide) (by decide) (XS.aloadN X104.here hx rfl (hb hby own_d11_16) rfl rfl k)) ?_
    obtain ⟨T105, X105, e105, st105⟩ := getF X104 hx hZ hown (host := "") (Or.inl (hw _ (List.mem_of_getElem? (i := 33) rfl))) Via.refl e104 F1 (g := (mkF m 17 #[rv r1, iv (1 : Int32)] [(.ref r1)])) rfl rfl (hb hby own_d11_17)
    refine own_by (g' := (mkF m 20 #[rv r1, iv (1 : Int32)] [(.ref ba)])) st105 ?_
    refine own_by (g' := (mkF m 21 #[rv r1, iv (1 : Int32)] [(.int (1 : Int32)), (.ref ba)])) (fun t k => XS.iloadN X105.here hx rfl (hb hby own_d11_20) rfl k) ?_
    refine own_callS X105 hx hZ hown (hw _ (List.mem_of_getElem? (i := 95) rfl)) (hw _ (List.mem_of_getElem? (i := 96) rfl)) (hw _ (List.mem_of_getElem? (i := 22) rfl)) (hw _ (List.mem_of_getElem? (i := 97) rfl)) (by decide) (own_uchar1 l Z a0 hw [] (ba) (kb) (ln) (vs) (b0) (b1) (xc) (vsf) h0 n0 Z0 O0 S_ad S_hi S_lo S_sf r_sf (by first | assumption | decide) V1 (by first | assumption | decide) (by first | assumption | decide) (by first | assumption | decide) (by first | assumption | decide) (by first | assumption | decide)) 0 (by decide) (by decide) (by decide) (by decide) e105 (g := (mkF m 21 #[rv r1, iv (1 : Int32)] [(.int (1 : Int32)), (.ref ba)])) rfl (by rw [hml]; rfl) (argsL := [(.ref ba), (.int (1 : Int32))]) (rest := []) (lenOf own_pd4 rfl) rfl (by show 2 * 0 + _ ≤ _; exact Nat.le_of_eq rfl) (hb hby own_d11_21) ?_
    intro v106 T106 L106 X106 q106
    obtain ⟨rfl, N106q, e106⟩ := q106
    have N106 := Fr.app N104 N106q
    show own_Goes p e below s _ _ _ T106 (mkF m 24 #[rv r1, iv (1 : Int32)] [(.int xc)])
    refine own_retN X106 hx hlk hret (t := .char) (by simp) (hb hby own_d11_24) (by decide) (by decide) ?_
    exact ⟨(congrArg (fun z => some (Value.int z)) hk), N106, e106⟩
def Q_own_schar2 (Z : State) (r1 : Addr) (ba : Addr) (kb : ClassId) (cd : Int32) (ln : Int32) (vs : List Value) (xc : Int32) (zcs : Int32) (vsf : Value) (h0 : Heap) (n0 : Nat) (v : Option Value) (h : Heap) (L : List Loc) : Prop := v = some (.int xc) ∧ Fr n0 L ∧ h = h0
theorem own_ef_own_schar2 (m : MethodId) (r1 : Addr) : entryFrame m #[(.ref r1), (.int (2 : Int32))] 2 = mkF m 0 #[rv r1, iv (2 : Int32)] [] := by first | (simp [entryFrame, mkF, argsToLocals, Value.category]; done) | rfl
set_option maxRecDepth 65536 in
set_option maxHeartbeats 40000000 in
theorem own_schar2 (l : Launch) (Z : State) (a0 : Array Value) (hw : ∀ d ∈ tables_1, d.before a0 Z = true) (ws : List Jvm.Cond) (r1 : Addr) (ba : Addr) (kb : ClassId) (cd : Int32) (ln : Int32) (vs : List Value) (xc : Int32) (zcs : Int32) (vsf : Value) (h0 : Heap) (n0 : Nat) (Z0 : n0 ≤ h0.size) (O0 : Old Z n0 h0) (S_cs : Sta Z Z.heap "java/lang/String" "COMPACT_STRINGS" "Z" (.int zcs)) (hcs : ¬ zcs = (0 : Int32)) (S_ad : Sta Z Z.heap "java/lang/StringUTF16" "$assertionsDisabled" "Z" (.int (1 : Int32))) (S_hi : Sta Z Z.heap "java/lang/StringUTF16" "HI_BYTE_SHIFT" "I" (.int (0 : Int32))) (S_lo : Sta Z Z.heap "java/lang/StringUTF16" "LO_BYTE_SHIFT" "I" (.int (8 : Int32))) (S_sf : Sta Z Z.heap "jdk/internal/util/Preconditions" "SIOOBE_FORMATTER" "Ljava/util/function/BiFunction;" vsf) (r_sf : (vsf).isRef = true) (E1 : Exa Z h0 r1 "java/lang/String") (F1 : Fld Z h0 r1 "java/lang/String" "value" "[B" (.ref ba)) (F2 : Fld Z h0 r1 "java/lang/String" "coder" "B" (.int cd)) (V1 : Arv Z h0 ba kb .byte ln vs (.int (0 : Int32))) (ha : own_cA2 xc cd ln vs) (hk : own_ch xc) :
    own_Ctr l Z (⟨"java/lang/String", "charAt", "(I)C"⟩ : MethodName) jdk_42_method_56_code 2 (some .char) ws ({ frames := 4, cells := 0, slots := 0, locals := 53 } : Room) (({ frames := 4, cells := 0, slots := 0, locals := 53 } : Room)).cells (({ frames := 4, cells := 0, slots := 0, locals := 53 } : Room)).slots #[(.ref r1), (.int (2 : Int32))] h0 (Q_own_schar2 Z r1 ba kb cd ln vs xc zcs vsf h0 n0) := by
  refine own_enter (plainFor_of_name own_pn1) ?_
  intro p e s m below meth c s₁ X0 hx hZ hby hml hown hnm hlk hret e0
  have N0 := Fr.nil n0
  refine own_cast (own_ef_own_schar2 m r1) ?_
  rcases ha with ⟨rfl, q1, bc, q3, q5⟩ | ⟨rfl, q0, q1, q2, b0, b1, q3, q4, q5⟩
  ·
    refine own_by (g' := (mkF m 1 #[rv r1, iv (2 : Int32)] [(.ref r1)])) (fun t k => XS.aloadN X0.here hx rfl (hb hby own_d11_0) rfl rfl k) ?_
    refine own_callV X0 hx hZ hown (hw _ (List.mem_of_getElem? (i := 58) rfl)) (hw _ (List.mem_of_getElem? (i := 59) rfl)) (notFace_of_selects (args := #[]) (mvT hZ (hw _ (List.mem_of_getElem? (i := 61) rfl)))) (hw _ (List.mem_of_getElem? (i := 61) rfl)) (hw _ (List.mem_of_getElem? (i := 60) rfl)) (hw _ (List.mem_of_getElem? (i := 62) rfl)) (hw _ (List.mem_of_getElem? (i := 7) rfl)) (by decide) (a := r1) E1 (own_isl0 l Z a0 hw [] (r1) (zcs) h0 n0 Z0 O0 S_cs (by first | assumption | decide) E1 F2) 0 (by decide) (by decide) (by decide) (by decide) e0 (g := (mkF m 1 #[rv r1, iv (2 : Int32)] [(.ref r1)])) rfl (by rw [hml]; rfl) (argsL := []) (rest := []) (lenOf own_pd6 rfl) rfl (by show 2 * 0 + _ ≤ _; exact Nat.le_of_eq rfl) (hb hby own_d11_1) ?_
    intro v101 T101 L101 X101 q101
    obtain ⟨rfl, N101q, e101⟩ := q101
    have N101 := Fr.app N0 N101q
    show own_Goes p e below s _ _ _ T101 (mkF m 4 #[rv r1, iv (2 : Int32)] [(.int (1 : Int32))])
    refine own_by (g' := (mkF m 8 #[rv r1, iv (2 : Int32)] [(.ref r1)])) (fun t k => XS.ifNo X101.here hx rfl (hb hby own_d11_4) rfl ((if0 _ _).trans (feq (by decide : ¬ ((1 : Int32) = (0 : Int32)))).1) (XS.aloadN X101.here hx rfl (hb hby own_d11_7) rfl rfl k)) ?_
    obtain ⟨T102, X102, e102, st102⟩ := getF X101 hx hZ hown (host := "") (Or.inl (hw _ (List.mem_of_getElem? (i := 33) rfl))) Via.refl e101 F1 (g := (mkF m 8 #[rv r1, iv (2 : Int32)] [(.ref r1)])) rfl rfl (hb hby own_d11_8)
    refine own_by (g' := (mkF m 11 #[rv r1, iv (2 : Int32)] [(.ref ba)])) st102 ?_
    refine own_by (g' := (mkF m 12 #[rv r1, iv (2 : Int32)] [(.int (2 : Int32)), (.ref ba)])) (fun t k => XS.iloadN X102.here hx rfl (hb hby own_d11_11) rfl k) ?_
    refine own_callS X102 hx hZ hown (hw _ (List.mem_of_getElem? (i := 63) rfl)) (hw _ (List.mem_of_getElem? (i := 64) rfl)) (hw _ (List.mem_of_getElem? (i := 65) rfl)) (hw _ (List.mem_of_getElem? (i := 66) rfl)) (by decide) (own_lchar2 l Z a0 hw [] (ba) (kb) (ln) (vs) (bc) (xc) (vsf) h0 n0 Z0 O0 S_sf r_sf V1 (by first | assumption | decide) (by first | assumption | decide) (by first | assumption | decide)) 0 (by decide) (by decide) (by decide) (by decide) e102 (g := (mkF m 12 #[rv r1, iv (2 : Int32)] [(.int (2 : Int32)), (.ref ba)])) rfl (by rw [hml]; rfl) (argsL := [(.ref ba), (.int (2 : Int32))]) (rest := []) (lenOf own_pd4 rfl) rfl (by show 2 * 0 + _ ≤ _; exact Nat.le_of_eq rfl) (hb hby own_d11_12) ?_
    intro v103 T103 L103 X103 q103
    obtain ⟨rfl, N103q, e103⟩ := q103
    have N103 := Fr.app N101 N103q
    show own_Goes p e below s _ _ _ T103 (mkF m 15 #[rv r1, iv (2 : Int32)] [(.int xc)])
    refine own_retN X103 hx hlk hret (t := .char) (by simp) (hb hby own_d11_15) (by decide) (by decide) ?_
    exact ⟨(congrArg (fun z => some (Value.int z)) hk), N103, e103⟩
  ·
    refine own_by (g' := (mkF m 1 #[rv r1, iv (2 : Int32)] [(.ref r1)])) (fun t k => XS.aloadN X0.here hx rfl (hb hby own_d11_0) rfl rfl k) ?_
    refine own_callV X0 hx hZ hown (hw _ (List.mem_of_getElem? (i := 58) rfl)) (hw _ (List.mem_of_getElem? (i := 59) rfl)) (notFace_of_selects (args := #[]) (mvT hZ (hw _ (List.mem_of_getElem? (i := 61) rfl)))) (hw _ (List.mem_of_getElem? (i := 61) rfl)) (hw _ (List.mem_of_getElem? (i := 60) rfl)) (hw _ (List.mem_of_getElem? (i := 62) rfl)) (hw _ (List.mem_of_getElem? (i := 7) rfl)) (by decide) (a := r1) E1 (own_isl1 l Z a0 hw [] (r1) (zcs) h0 n0 Z0 O0 S_cs (by first | assumption | decide) E1 F2) 0 (by decide) (by decide) (by decide) (by decide) e0 (g := (mkF m 1 #[rv r1, iv (2 : Int32)] [(.ref r1)])) rfl (by rw [hml]; rfl) (argsL := []) (rest := []) (lenOf own_pd6 rfl) rfl (by show 2 * 0 + _ ≤ _; exact Nat.le_of_eq rfl) (hb hby own_d11_1) ?_
    intro v104 T104 L104 X104 q104
    obtain ⟨rfl, N104q, e104⟩ := q104
    have N104 := Fr.app N0 N104q
    show own_Goes p e below s _ _ _ T104 (mkF m 4 #[rv r1, iv (2 : Int32)] [(.int (0 : Int32))])
    refine own_by (g' := (mkF m 17 #[rv r1, iv (2 : Int32)] [(.ref r1)])) (fun t k => XS.ifYes X104.here hx rfl (pc0 := 4) (pc' := 16) rfl (hb hby own_d11_4) rfl ((if0 _ _).trans (teq (by decide : (0 : Int32) = (0 : Int32))).1) (by decide) (by decide) (XS.aloadN X104.here hx rfl (hb hby own_d11_16) rfl rfl k)) ?_
    obtain ⟨T105, X105, e105, st105⟩ := getF X104 hx hZ hown (host := "") (Or.inl (hw _ (List.mem_of_getElem? (i := 33) rfl))) Via.refl e104 F1 (g := (mkF m 17 #[rv r1, iv (2 : Int32)] [(.ref r1)])) rfl rfl (hb hby own_d11_17)
    refine own_by (g' := (mkF m 20 #[rv r1, iv (2 : Int32)] [(.ref ba)])) st105 ?_
    refine own_by (g' := (mkF m 21 #[rv r1, iv (2 : Int32)] [(.int (2 : Int32)), (.ref ba)])) (fun t k => XS.iloadN X105.here hx rfl (hb hby own_d11_20) rfl k) ?_
    refine own_callS X105 hx hZ hown (hw _ (List.mem_of_getElem? (i := 95) rfl)) (hw _ (List.mem_of_getElem? (i := 96) rfl)) (hw _ (List.mem_of_getElem? (i := 22) rfl)) (hw _ (List.mem_of_getElem? (i := 97) rfl)) (by decide) (own_uchar2 l Z a0 hw [] (ba) (kb) (ln) (vs) (b0) (b1) (xc) (vsf) h0 n0 Z0 O0 S_ad S_hi S_lo S_sf r_sf (by first | assumption | decide) V1 (by first | assumption | decide) (by first | assumption | decide) (by first | assumption | decide) (by first | assumption | decide) (by first | assumption | decide)) 0 (by decide) (by decide) (by decide) (by decide) e105 (g := (mkF m 21 #[rv r1, iv (2 : Int32)] [(.int (2 : Int32)), (.ref ba)])) rfl (by rw [hml]; rfl) (argsL := [(.ref ba), (.int (2 : Int32))]) (rest := []) (lenOf own_pd4 rfl) rfl (by show 2 * 0 + _ ≤ _; exact Nat.le_of_eq rfl) (hb hby own_d11_21) ?_
    intro v106 T106 L106 X106 q106
    obtain ⟨rfl, N106q, e106⟩ := q106
    have N106 := Fr.app N104 N106q
    show own_Goes p e below s _ _ _ T106 (mkF m 24 #[rv r1, iv (2 : Int32)] [(.int xc)])
    refine own_retN X106 hx hlk hret (t := .char) (by simp) (hb hby own_d11_24) (by decide) (by decide) ?_
    exact ⟨(congrArg (fun z => some (Value.int z)) hk), N106, e106⟩
def Q_own_schar3 (Z : State) (r1 : Addr) (ba : Addr) (kb : ClassId) (cd : Int32) (ln : Int32) (vs : List Value) (xc : Int32) (zcs : Int32) (vsf : Value) (h0 : Heap) (n0 : Nat) (v : Option Value) (h : Heap) (L : List Loc) : Prop := v = some (.int xc) ∧ Fr n0 L ∧ h = h0
theorem own_ef_own_schar3 (m : MethodId) (r1 : Addr) : entryFrame m #[(.ref r1), (.int (3 : Int32))] 2 = mkF m 0 #[rv r1, iv (3 : Int32)] [] := by first | (simp [entryFrame, mkF, argsToLocals, Value.category]; done) | rfl
set_option maxRecDepth 65536 in
set_option maxHeartbeats 40000000 in
theorem own_schar3 (l : Launch) (Z : State) (a0 : Array Value) (hw : ∀ d ∈ tables_1, d.before a0 Z = true) (ws : List Jvm.Cond) (r1 : Addr) (ba : Addr) (kb : ClassId) (cd : Int32) (ln : Int32) (vs : List Value) (xc : Int32) (zcs : Int32) (vsf : Value) (h0 : Heap) (n0 : Nat) (Z0 : n0 ≤ h0.size) (O0 : Old Z n0 h0) (S_cs : Sta Z Z.heap "java/lang/String" "COMPACT_STRINGS" "Z" (.int zcs)) (hcs : ¬ zcs = (0 : Int32)) (S_ad : Sta Z Z.heap "java/lang/StringUTF16" "$assertionsDisabled" "Z" (.int (1 : Int32))) (S_hi : Sta Z Z.heap "java/lang/StringUTF16" "HI_BYTE_SHIFT" "I" (.int (0 : Int32))) (S_lo : Sta Z Z.heap "java/lang/StringUTF16" "LO_BYTE_SHIFT" "I" (.int (8 : Int32))) (S_sf : Sta Z Z.heap "jdk/internal/util/Preconditions" "SIOOBE_FORMATTER" "Ljava/util/function/BiFunction;" vsf) (r_sf : (vsf).isRef = true) (E1 : Exa Z h0 r1 "java/lang/String") (F1 : Fld Z h0 r1 "java/lang/String" "value" "[B" (.ref ba)) (F2 : Fld Z h0 r1 "java/lang/String" "coder" "B" (.int cd)) (V1 : Arv Z h0 ba kb .byte ln vs (.int (0 : Int32))) (ha : own_cA3 xc cd ln vs) (hk : own_ch xc) :
    own_Ctr l Z (⟨"java/lang/String", "charAt", "(I)C"⟩ : MethodName) jdk_42_method_56_code 2 (some .char) ws ({ frames := 4, cells := 0, slots := 0, locals := 53 } : Room) (({ frames := 4, cells := 0, slots := 0, locals := 53 } : Room)).cells (({ frames := 4, cells := 0, slots := 0, locals := 53 } : Room)).slots #[(.ref r1), (.int (3 : Int32))] h0 (Q_own_schar3 Z r1 ba kb cd ln vs xc zcs vsf h0 n0) := by
  refine own_enter (plainFor_of_name own_pn1) ?_
  intro p e s m below meth c s₁ X0 hx hZ hby hml hown hnm hlk hret e0
  have N0 := Fr.nil n0
  refine own_cast (own_ef_own_schar3 m r1) ?_
  rcases ha with ⟨rfl, q1, bc, q3, q5⟩ | ⟨rfl, q0, q1, q2, b0, b1, q3, q4, q5⟩
  ·
    refine own_by (g' := (mkF m 1 #[rv r1, iv (3 : Int32)] [(.ref r1)])) (fun t k => XS.aloadN X0.here hx rfl (hb hby own_d11_0) rfl rfl k) ?_
    refine own_callV X0 hx hZ hown (hw _ (List.mem_of_getElem? (i := 58) rfl)) (hw _ (List.mem_of_getElem? (i := 59) rfl)) (notFace_of_selects (args := #[]) (mvT hZ (hw _ (List.mem_of_getElem? (i := 61) rfl)))) (hw _ (List.mem_of_getElem? (i := 61) rfl)) (hw _ (List.mem_of_getElem? (i := 60) rfl)) (hw _ (List.mem_of_getElem? (i := 62) rfl)) (hw _ (List.mem_of_getElem? (i := 7) rfl)) (by decide) (a := r1) E1 (own_isl0 l Z a0 hw [] (r1) (zcs) h0 n0 Z0 O0 S_cs (by first | assumption | decide) E1 F2) 0 (by decide) (by decide) (by decide) (by decide) e0 (g := (mkF m 1 #[rv r1, iv (3 : Int32)] [(.ref r1)])) rfl (by rw [hml]; rfl) (argsL := []) (rest := []) (lenOf own_pd6 rfl) rfl (by show 2 * 0 + _ ≤ _; exact Nat.le_of_eq rfl) (hb hby own_d11_1) ?_
    intro v101 T101 L101 X101 q101
    obtain ⟨rfl, N101q, e101⟩ := q101
    have N101 := Fr.app N0 N101q
    show own_Goes p e below s _ _ _ T101 (mkF m 4 #[rv r1, iv (3 : Int32)] [(.int (1 : Int32))])
    refine own_by (g' := (mkF m 8 #[rv r1, iv (3 : Int32)] [(.ref r1)])) (fun t k => XS.ifNo X101.here hx rfl (hb hby own_d11_4) rfl ((if0 _ _).trans (feq (by decide : ¬ ((1 : Int32) = (0 : Int32)))).1) (XS.aloadN X101.here hx rfl (hb hby own_d11_7) rfl rfl k)) ?_
    obtain ⟨T102, X102, e102, st102⟩ := getF X101 hx hZ hown (host := "") (Or.inl (hw _ (List.mem_of_getElem? (i := 33) rfl))) Via.refl e101 F1 (g := (mkF m 8 #[rv r1, iv (3 : Int32)] [(.ref r1)])) rfl rfl (hb hby own_d11_8)
    refine own_by (g' := (mkF m 11 #[rv r1, iv (3 : Int32)] [(.ref ba)])) st102 ?_
    refine own_by (g' := (mkF m 12 #[rv r1, iv (3 : Int32)] [(.int (3 : Int32)), (.ref ba)])) (fun t k => XS.iloadN X102.here hx rfl (hb hby own_d11_11) rfl k) ?_
    refine own_callS X102 hx hZ hown (hw _ (List.mem_of_getElem? (i := 63) rfl)) (hw _ (List.mem_of_getElem? (i := 64) rfl)) (hw _ (List.mem_of_getElem? (i := 65) rfl)) (hw _ (List.mem_of_getElem? (i := 66) rfl)) (by decide) (own_lchar3 l Z a0 hw [] (ba) (kb) (ln) (vs) (bc) (xc) (vsf) h0 n0 Z0 O0 S_sf r_sf V1 (by first | assumption | decide) (by first | assumption | decide) (by first | assumption | decide)) 0 (by decide) (by decide) (by decide) (by decide) e102 (g := (mkF m 12 #[rv r1, iv (3 : Int32)] [(.int (3 : Int32)), (.ref ba)])) rfl (by rw [hml]; rfl) (argsL := [(.ref ba), (.int (3 : Int32))]) (rest := []) (lenOf own_pd4 rfl) rfl (by show 2 * 0 + _ ≤ _; exact Nat.le_of_eq rfl) (hb hby own_d11_12) ?_
    intro v103 T103 L103 X103 q103
    obtain ⟨rfl, N103q, e103⟩ := q103
    have N103 := Fr.app N101 N103q
    show own_Goes p e below s _ _ _ T103 (mkF m 15 #[rv r1, iv (3 : Int32)] [(.int xc)])
    refine own_retN X103 hx hlk hret (t := .char) (by simp) (hb hby own_d11_15) (by decide) (by decide) ?_
    exact ⟨(congrArg (fun z => some (Value.int z)) hk), N103, e103⟩
  ·
    refine own_by (g' := (mkF m 1 #[rv r1, iv (3 : Int32)] [(.ref r1)])) (fun t k => XS.aloadN X0.here hx rfl (hb hby own_d11_0) rfl rfl k) ?_
    refine own_callV X0 hx hZ hown (hw _ (List.mem_of_getElem? (i := 58) rfl)) (hw _ (List.mem_of_getElem? (i := 59) rfl)) (notFace_of_selects (args := #[]) (mvT hZ (hw _ (List.mem_of_getElem? (i := 61) rfl)))) (hw _ (List.mem_of_getElem? (i := 61) rfl)) (hw _ (List.mem_of_getElem? (i := 60) rfl)) (hw _ (List.mem_of_getElem? (i := 62) rfl)) (hw _ (List.mem_of_getElem? (i := 7) rfl)) (by decide) (a := r1) E1 (own_isl1 l Z a0 hw [] (r1) (zcs) h0 n0 Z0 O0 S_cs (by first | assumption | decide) E1 F2) 0 (by decide) (by decide) (by decide) (by decide) e0 (g := (mkF m 1 #[rv r1, iv (3 : Int32)] [(.ref r1)])) rfl (by rw [hml]; rfl) (argsL := []) (rest := []) (lenOf own_pd6 rfl) rfl (by show 2 * 0 + _ ≤ _; exact Nat.le_of_eq rfl) (hb hby own_d11_1) ?_
    intro v104 T104 L104 X104 q104
    obtain ⟨rfl, N104q, e104⟩ := q104
    have N104 := Fr.app N0 N104q
    show own_Goes p e below s _ _ _ T104 (mkF m 4 #[rv r1, iv (3 : Int32)] [(.int (0 : Int32))])
    refine own_by (g' := (mkF m 17 #[rv r1, iv (3 : Int32)] [(.ref r1)])) (fun t k => XS.ifYes X104.here hx rfl (pc0 := 4) (pc' := 16) rfl (hb hby own_d11_4) rfl ((if0 _ _).trans (teq (by decide : (0 : Int32) = (0 : Int32))).1) (by decide) (by decide) (XS.aloadN X104.here hx rfl (hb hby own_d11_16) rfl rfl k)) ?_
    obtain ⟨T105, X105, e105, st105⟩ := getF X104 hx hZ hown (host := "") (Or.inl (hw _ (List.mem_of_getElem? (i := 33) rfl))) Via.refl e104 F1 (g := (mkF m 17 #[rv r1, iv (3 : Int32)] [(.ref r1)])) rfl rfl (hb hby own_d11_17)
    refine own_by (g' := (mkF m 20 #[rv r1, iv (3 : Int32)] [(.ref ba)])) st105 ?_
    refine own_by (g' := (mkF m 21 #[rv r1, iv (3 : Int32)] [(.int (3 : Int32)), (.ref ba)])) (fun t k => XS.iloadN X105.here hx rfl (hb hby own_d11_20) rfl k) ?_
    refine own_callS X105 hx hZ hown (hw _ (List.mem_of_getElem? (i := 95) rfl)) (hw _ (List.mem_of_getElem? (i := 96) rfl)) (hw _ (List.mem_of_getElem? (i := 22) rfl)) (hw _ (List.mem_of_getElem? (i := 97) rfl)) (by decide) (own_uchar3 l Z a0 hw [] (ba) (kb) (ln) (vs) (b0) (b1) (xc) (vsf) h0 n0 Z0 O0 S_ad S_hi S_lo S_sf r_sf (by first | assumption | decide) V1 (by first | assumption | decide) (by first | assumption | decide) (by first | assumption | decide) (by first | assumption | decide) (by first | assumption | decide)) 0 (by decide) (by decide) (by decide) (by decide) e105 (g := (mkF m 21 #[rv r1, iv (3 : Int32)] [(.int (3 : Int32)), (.ref ba)])) rfl (by rw [hml]; rfl) (argsL := [(.ref ba), (.int (3 : Int32))]) (rest := []) (lenOf own_pd4 rfl) rfl (by show 2 * 0 + _ ≤ _; exact Nat.le_of_eq rfl) (hb hby own_d11_21) ?_
    intro v106 T106 L106 X106 q106
    obtain ⟨rfl, N106q, e106⟩ := q106
    have N106 := Fr.app N104 N106q
    show own_Goes p e below s _ _ _ T106 (mkF m 24 #[rv r1, iv (3 : Int32)] [(.int xc)])
    refine own_retN X106 hx hlk hret (t := .char) (by simp) (hb hby own_d11_24) (by decide) (by decide) ?_
    exact ⟨(congrArg (fun z => some (Value.int z)) hk), N106, e106⟩
theorem own_d18_0 : decode jdk_52_method_3_code 0 = .ok (.iload_n 0, 1) := by decide +kernel
theorem own_d18_1 : decode jdk_52_method_3_code 1 = .ok (.ifCond .ge 11, 3) := by decide +kernel
theorem own_d18_12 : decode jdk_52_method_3_code 12 = .ok (.iload_n 0, 1) := by decide +kernel
theorem own_d18_13 : decode jdk_52_method_3_code 13 = .ok (.ldc 20, 2) := by decide +kernel
theorem own_d18_15 : decode jdk_52_method_3_code 15 = .ok (.if_icmp .lt 40, 3) := by decide +kernel
theorem own_d18_55 : decode jdk_52_method_3_code 55 = .ok (.iload_n 0, 1) := by decide +kernel
theorem own_d18_56 : decode jdk_52_method_3_code 56 = .ok (.iconst 1, 1) := by decide +kernel
theorem own_d18_57 : decode jdk_52_method_3_code 57 = .ok (.ishl, 1) := by decide +kernel
theorem own_d18_58 : decode jdk_52_method_3_code 58 = .ok (.ireturn, 1) := by decide +kernel
def Q_own_nbl1 (Z : State)  (h0 : Heap) (n0 : Nat) (v : Option Value) (h : Heap) (L : List Loc) : Prop := v = some (.int (2 : Int32)) ∧ Fr n0 L ∧ h = h0
theorem own_ef_own_nbl1 (m : MethodId)  : entryFrame m #[(.int (1 : Int32))] 1 = mkF m 0 #[iv (1 : Int32)] [] := by first | (simp [entryFrame, mkF, argsToLocals, Value.category]; done) | rfl
set_option maxRecDepth 65536 in
set_option maxHeartbeats 40000000 in
theorem own_nbl1 (l : Launch) (Z : State) (a0 : Array Value) (hw : ∀ d ∈ tables_1, d.before a0 Z = true) (ws : List Jvm.Cond)  (h0 : Heap) (n0 : Nat) (Z0 : n0 ≤ h0.size)  :
    own_Ctr l Z (⟨"java/lang/StringUTF16", "newBytesLength", "(I)I"⟩ : MethodName) jdk_52_method_3_code 1 (some .int) ws ({ frames := 0, cells := 0, slots := 0, locals := 0 } : Room) (({ frames := 0, cells := 0, slots := 0, locals := 0 } : Room)).cells (({ frames := 0, cells := 0, slots := 0, locals := 0 } : Room)).slots #[(.int (1 : Int32))] h0 (Q_own_nbl1 Z  h0 n0) := by
  refine own_enter (plainFor_of_name own_pn2) ?_
  intro p e s m below meth c s₁ X0 hx hZ hby hml hown hnm hlk hret e0
  have N0 := Fr.nil n0
  refine own_cast (own_ef_own_nbl1 m ) ?_
  refine own_by (g' := (mkF m 58 #[iv (1 : Int32)] [(.int ((1 : Int32) <<< ((1 : Int32) &&& 31)))])) (fun t k => XS.iloadN X0.here hx rfl (hb hby own_d18_0) rfl (XS.ifYes X0.here hx rfl (pc0 := 1) (pc' := 12) rfl (hb hby own_d18_1) rfl ((if0 _ _).trans (flt (by decide : ¬ ((1 : Int32) < (0 : Int32)))).2.1) (by decide) (by decide) (XS.iloadN X0.here hx rfl (hb hby own_d18_12) rfl (X0.ldcInt hx hown (mvT hZ (hw _ (List.mem_of_getElem? (i := 85) rfl))) (g := (mkF m 13 #[iv (1 : Int32)] [(.int (1 : Int32))])) rfl (hb hby own_d18_13) t (XS.icmpYes X0.here hx rfl (pc0 := 15) (pc' := 55) rfl (hb hby own_d18_15) rfl (tlt (by decide : (1 : Int32) < (1073741823 : Int32))).1 (by decide) (by decide) (XS.iloadN X0.here hx rfl (hb hby own_d18_55) rfl (XS.iconst X0.here hx rfl (hb hby own_d18_56) (XS.ishl X0.here hx rfl (hb hby own_d18_57) rfl k)))))))) ?_
  refine own_retI X0 hx hlk hret (hb hby own_d18_58) (by decide) (by decide) ?_
  exact ⟨(by decide), N0, e0⟩
theorem own_d17_0 : decode jdk_52_method_2_code 0 = .ok (.iload_n 0, 1) := by decide +kernel
theorem own_d17_1 : decode jdk_52_method_2_code 1 = .ok (.invokestatic 11, 3) := by decide +kernel
theorem own_pd7 : parseMethodDescriptor "(I)I" = some ⟨[.int], some .int⟩ := by decide +kernel
theorem own_d17_4 : decode jdk_52_method_2_code 4 = .ok (.newarray .byte, 2) := by decide +kernel
theorem own_ad_byte : "[" ++ (newarray.typeOf .byte).toString = "[B" := by decide +kernel
theorem own_d17_6 : decode jdk_52_method_2_code 6 = .ok (.areturn, 1) := by decide +kernel
def Q_own_nbf1 (Z : State)  (h0 : Heap) (n0 : Nat) (v : Option Value) (h : Heap) (L : List Loc) : Prop := ∃ (bo : Addr), ∃ (kb : ClassId), v = some (.ref bo) ∧ Fr n0 L ∧ Keep h0 h [] ∧ h0.size ≤ bo ∧ Exa Z h bo "[B" ∧ Arv Z h bo kb .byte (2 : Int32) [(.int (0 : Int32)), (.int (0 : Int32))] (.int (0 : Int32))
theorem own_ef_own_nbf1 (m : MethodId)  : entryFrame m #[(.int (1 : Int32))] 1 = mkF m 0 #[iv (1 : Int32)] [] := by first | (simp [entryFrame, mkF, argsToLocals, Value.category]; done) | rfl
set_option maxRecDepth 65536 in
set_option maxHeartbeats 40000000 in
theorem own_nbf1 (l : Launch) (Z : State) (a0 : Array Value) (hw : ∀ d ∈ tables_1, d.before a0 Z = true) (ws : List Jvm.Cond)  (h0 : Heap) (n0 : Nat) (Z0 : n0 ≤ h0.size)  :
    own_Ctr l Z (⟨"java/lang/StringUTF16", "newBytesFor", "(I)[B"⟩ : MethodName) jdk_52_method_2_code 1 (some (.array .byte)) ws ({ frames := 1, cells := 1, slots := 2, locals := 12 } : Room) (({ frames := 1, cells := 1, slots := 2, locals := 12 } : Room)).cells (({ frames := 1, cells := 1, slots := 2, locals := 12 } : Room)).slots #[(.int (1 : Int32))] h0 (Q_own_nbf1 Z  h0 n0) := by
  refine own_enter (plainFor_of_name own_pn2) ?_
  intro p e s m below meth c s₁ X0 hx hZ hby hml hown hnm hlk hret e0
  have N0 := Fr.nil n0
  refine own_cast (own_ef_own_nbf1 m ) ?_
  refine own_by (g' := (mkF m 1 #[iv (1 : Int32)] [(.int (1 : Int32))])) (fun t k => XS.iloadN X0.here hx rfl (hb hby own_d17_0) rfl k) ?_
  refine own_callS X0 hx hZ hown (hw _ (List.mem_of_getElem? (i := 82) rfl)) (hw _ (List.mem_of_getElem? (i := 83) rfl)) (hw _ (List.mem_of_getElem? (i := 22) rfl)) (hw _ (List.mem_of_getElem? (i := 84) rfl)) (by decide) (own_nbl1 l Z a0 hw []  h0 n0 Z0 ) 0 (by decide) (by decide) (by decide) (by decide) e0 (g := (mkF m 1 #[iv (1 : Int32)] [(.int (1 : Int32))])) rfl (by rw [hml]; rfl) (argsL := [(.int (1 : Int32))]) (rest := []) (lenOf own_pd7 rfl) rfl (by show 2 * 0 + _ ≤ _; exact Nat.le_of_eq rfl) (hb hby own_d17_1) ?_
  intro v101 T101 L101 X101 q101
  obtain ⟨rfl, N101q, e101⟩ := q101
  have N101 := Fr.app N0 N101q
  show own_Goes p e below s _ _ _ T101 (mkF m 4 #[iv (1 : Int32)] [(.int (2 : Int32))])
  obtain ⟨T102, h102, k102, X102, e102, E102, A102, Y102, st102⟩ := newPE X101 hx hZ (hw _ (List.mem_of_getElem? (i := 24) rfl)) e101 (g := (mkF m 4 #[iv (1 : Int32)] [(.int (2 : Int32))])) rfl (hb hby own_d17_4) rfl (by decide) (cap := 2) (by decide) (by decide) (by decide) (by decide) (ad := "[B") own_ad_byte
  obtain ⟨b102, g102⟩ : ∃ z, z = h0.size := ⟨_, rfl⟩
  rw [← g102] at A102 Y102 st102
  have sz_b102 : h0.size ≤ b102 := Nat.le_trans (Nat.le_refl _) (Nat.le_of_eq g102.symm)
  have g_b102 : n0 ≤ b102 := Nat.le_trans Z0 sz_b102
  have V102 : Arv Z h102 b102 k102 .byte (2 : Int32) [(.int (0 : Int32)), (.int (0 : Int32))] (.int (0 : Int32)) := (Arv.new A102 (by decide)).pad (pad_rep [] (.int (0 : Int32)) 2)
  refine own_by (g' := (mkF m 6 #[iv (1 : Int32)] [(.ref b102)])) st102 ?_
  refine own_retA X102 hx hlk hret rfl rfl (hb hby own_d17_6) (by decide) (by decide) ?_
  rw [e102]
  exact ⟨b102, k102, rfl, N101, ((Keep.refl h0 []).ext E102), sz_b102, Y102, V102⟩
theorem own_d19_0 : decode jdk_52_method_4_code 0 = .ok (.getstatic 44, 3) := by decide +kernel
theorem own_d19_3 : decode jdk_52_method_4_code 3 = .ok (.ifCond .ne 25, 3) := by decide +kernel
theorem own_d19_28 : decode jdk_52_method_4_code 28 = .ok (.iload_n 1, 1) := by decide +kernel
theorem own_d19_29 : decode jdk_52_method_4_code 29 = .ok (.iconst 1, 1) := by decide +kernel
theorem own_d19_30 : decode jdk_52_method_4_code 30 = .ok (.ishl, 1) := by decide +kernel
theorem own_d19_31 : decode jdk_52_method_4_code 31 = .ok (.istore_n 1, 1) := by decide +kernel
theorem own_d19_32 : decode jdk_52_method_4_code 32 = .ok (.aload_n 0, 1) := by decide +kernel
theorem own_d19_33 : decode jdk_52_method_4_code 33 = .ok (.iload_n 1, 1) := by decide +kernel
theorem own_d19_34 : decode jdk_52_method_4_code 34 = .ok (.iinc 1 1, 3) := by decide +kernel
theorem own_d19_37 : decode jdk_52_method_4_code 37 = .ok (.iload_n 2, 1) := by decide +kernel
theorem own_d19_38 : decode jdk_52_method_4_code 38 = .ok (.getstatic 59, 3) := by decide +kernel
theorem own_d19_41 : decode jdk_52_method_4_code 41 = .ok (.ishr, 1) := by decide +kernel
theorem own_d19_42 : decode jdk_52_method_4_code 42 = .ok (.i2b, 1) := by decide +kernel
theorem own_d19_43 : decode jdk_52_method_4_code 43 = .ok (.bastore, 1) := by decide +kernel
theorem own_d19_44 : decode jdk_52_method_4_code 44 = .ok (.aload_n 0, 1) := by decide +kernel
theorem own_d19_45 : decode jdk_52_method_4_code 45 = .ok (.iload_n 1, 1) := by decide +kernel
theorem own_d19_46 : decode jdk_52_method_4_code 46 = .ok (.iload_n 2, 1) := by decide +kernel
theorem own_d19_47 : decode jdk_52_method_4_code 47 = .ok (.getstatic 63, 3) := by decide +kernel
theorem own_d19_50 : decode jdk_52_method_4_code 50 = .ok (.ishr, 1) := by decide +kernel
theorem own_d19_51 : decode jdk_52_method_4_code 51 = .ok (.i2b, 1) := by decide +kernel
theorem own_d19_52 : decode jdk_52_method_4_code 52 = .ok (.bastore, 1) := by decide +kernel
theorem own_d19_53 : decode jdk_52_method_4_code 53 = .ok (.return_, 1) := by decide +kernel
def Q_own_putc1_0 (Z : State) (r1 : Addr) (k1 : ClassId) (xc : Int32) (ye0 : Value) (ye1 : Value) (h0 : Heap) (n0 : Nat) (v : Option Value) (h : Heap) (L : List Loc) : Prop := v = none ∧ Fr n0 L ∧ Keep h0 h [r1] ∧ Arv Z h r1 k1 .byte (2 : Int32) [(.int ((xc >>> ((0 : Int32) &&& 31))).toInt8.toInt32), (.int ((xc >>> ((8 : Int32) &&& 31))).toInt8.toInt32)] (.int (0 : Int32))
theorem own_ef_own_putc1_0 (m : MethodId) (r1 : Addr) (xc : Int32) : entryFrame m #[(.ref r1), (.int (0 : Int32)), (.int xc)] 3 = mkF m 0 #[rv r1, iv (0 : Int32), iv xc] [] := by first | (simp [entryFrame, mkF, argsToLocals, Value.category]; done) | rfl
set_option maxRecDepth 65536 in
set_option maxHeartbeats 40000000 in
theorem own_putc1_0 (l : Launch) (Z : State) (a0 : Array Value) (hw : ∀ d ∈ tables_1, d.before a0 Z = true) (ws : List Jvm.Cond) (r1 : Addr) (k1 : ClassId) (xc : Int32) (ye0 : Value) (ye1 : Value) (h0 : Heap) (n0 : Nat) (Z0 : n0 ≤ h0.size) (O0 : Old Z n0 h0) (S_ad : Sta Z Z.heap "java/lang/StringUTF16" "$assertionsDisabled" "Z" (.int (1 : Int32))) (S_hi : Sta Z Z.heap "java/lang/StringUTF16" "HI_BYTE_SHIFT" "I" (.int (0 : Int32))) (S_lo : Sta Z Z.heap "java/lang/StringUTF16" "LO_BYTE_SHIFT" "I" (.int (8 : Int32))) (V1 : Arv Z h0 r1 k1 .byte (2 : Int32) [ye0, ye1] (.int (0 : Int32))) (g1 : n0 ≤ r1) :
    own_Ctr l Z (⟨"java/lang/StringUTF16", "putChar", "([BII)V"⟩ : MethodName) jdk_52_method_4_code 3 none ws ({ frames := 0, cells := 0, slots := 0, locals := 0 } : Room) (({ frames := 0, cells := 0, slots := 0, locals := 0 } : Room)).cells (({ frames := 0, cells := 0, slots := 0, locals := 0 } : Room)).slots #[(.ref r1), (.int (0 : Int32)), (.int xc)] h0 (Q_own_putc1_0 Z r1 k1 xc ye0 ye1 h0 n0) := by
  refine own_enter (plainFor_of_name own_pn2) ?_
  intro p e s m below meth c s₁ X0 hx hZ hby hml hown hnm hlk hret e0
  have N0 := Fr.nil n0
  refine own_cast (own_ef_own_putc1_0 m r1 xc) ?_
  obtain ⟨T101, X101, e101, st101⟩ := getS2 X0 hx hZ hown (host := "") (Or.inl (hw _ (List.mem_of_getElem? (i := 89) rfl))) Via.refl e0 (S_ad.ext O0.2) (g := (mkF m 0 #[rv r1, iv (0 : Int32), iv xc] [])) rfl (hb hby own_d19_0)
  refine own_by (g' := (mkF m 3 #[rv r1, iv (0 : Int32), iv xc] [(.int (1 : Int32))])) st101 ?_
  refine own_by (g' := (mkF m 31 #[rv r1, iv (0 : Int32), iv xc] [(.int ((0 : Int32) <<< ((1 : Int32) &&& 31)))])) (fun t k => XS.ifYes X101.here hx rfl (pc0 := 3) (pc' := 28) rfl (hb hby own_d19_3) rfl ((if0 _ _).trans (feq (by decide : ¬ ((1 : Int32) = (0 : Int32)))).2) (by decide) (by decide) (XS.iloadN X101.here hx rfl (hb hby own_d19_28) rfl (XS.iconst X101.here hx rfl (hb hby own_d19_29) (XS.ishl X101.here hx rfl (hb hby own_d19_30) rfl k)))) ?_
  have hz : ((0 : Int32) <<< ((1 : Int32) &&& 31)) = (0 : Int32) := by decide
  rw [hz]
  refine own_by (g' := (mkF m 38 #[rv r1, iv (1 : Int32), iv xc] [(.int xc), (.int (0 : Int32)), (.ref r1)])) (fun t k => XS.istoreN X101.here hx rfl (hb hby own_d19_31) rfl (l' := #[rv r1, iv (0 : Int32), iv xc]) rfl (XS.aloadN X101.here hx rfl (hb hby own_d19_32) rfl rfl (XS.iloadN X101.here hx rfl (hb hby own_d19_33) rfl (XS.iinc X101.here hx rfl (hb hby own_d19_34) rfl (l' := #[rv r1, iv (1 : Int32), iv xc]) rfl (XS.iloadN X101.here hx rfl (hb hby own_d19_37) rfl k))))) ?_
  obtain ⟨T102, X102, e102, st102⟩ := getS2 X101 hx hZ hown (host := "") (Or.inl (hw _ (List.mem_of_getElem? (i := 90) rfl))) Via.refl e101 (S_hi.ext O0.2) (g := (mkF m 38 #[rv r1, iv (1 : Int32), iv xc] [(.int xc), (.int (0 : Int32)), (.ref r1)])) rfl (hb hby own_d19_38)
  refine own_by (g' := (mkF m 41 #[rv r1, iv (1 : Int32), iv xc] [(.int (0 : Int32)), (.int xc), (.int (0 : Int32)), (.ref r1)])) st102 ?_
  refine own_by (g' := (mkF m 43 #[rv r1, iv (1 : Int32), iv xc] [(.int ((xc >>> ((0 : Int32) &&& 31))).toInt8.toInt32), (.int (0 : Int32)), (.ref r1)])) (fun t k => XS.ishr X102.here hx rfl (hb hby own_d19_41) rfl (XS.i2b X102.here hx rfl (hb hby own_d19_42) rfl k)) ?_
  obtain ⟨c103, Ar103, q103, S103, G103, H103, F103⟩ := id V1
  have hin103 : ¬ ((0 : Int32) < 0 ∨ c103.slots.size ≤ ((0 : Int32)).toNatClampNeg) := inb_of S103 ⟨by decide, by decide⟩
  obtain ⟨T103, h103, X103, e103, W103, st103⟩ := stB X102 hx hZ e102 Ar103 (j := (0 : Int32)) hin103 (g := (mkF m 43 #[rv r1, iv (1 : Int32), iv xc] [(.int ((xc >>> ((0 : Int32) &&& 31))).toInt8.toInt32), (.int (0 : Int32)), (.ref r1)])) rfl rfl (hb hby own_d19_43)
  have V104 : Arv Z h103 r1 k1 .byte (2 : Int32) [(.int ((xc >>> ((0 : Int32) &&& 31))).toInt8.toInt32), ye1] (.int (0 : Int32)) := Arv.set Ar103 q103 S103 G103 H103 F103 (fits_nar_byte _) (own_wr W103 (congrArg Value.int (own_b8 _))) 0 rfl (Nat.le_of_ble_eq_true rfl)
  have N103 := Fr.snoc X103 N0 g1
  refine own_by (g' := (mkF m 44 #[rv r1, iv (1 : Int32), iv xc] [])) st103 ?_
  refine own_by (g' := (mkF m 47 #[rv r1, iv (1 : Int32), iv xc] [(.int xc), (.int (1 : Int32)), (.ref r1)])) (fun t k => XS.aloadN X103.here hx rfl (hb hby own_d19_44) rfl rfl (XS.iloadN X103.here hx rfl (hb hby own_d19_45) rfl (XS.iloadN X103.here hx rfl (hb hby own_d19_46) rfl k))) ?_
  have f105 := (O0.wr W103 g1)
  obtain ⟨T106, X106, e106, st106⟩ := getS2 X103 hx hZ hown (host := "") (Or.inl (hw _ (List.mem_of_getElem? (i := 91) rfl))) Via.refl e103 (S_lo.ext f105.2) (g := (mkF m 47 #[rv r1, iv (1 : Int32), iv xc] [(.int xc), (.int (1 : Int32)), (.ref r1)])) rfl (hb hby own_d19_47)
  refine own_by (g' := (mkF m 50 #[rv r1, iv (1 : Int32), iv xc] [(.int (8 : Int32)), (.int xc), (.int (1 : Int32)), (.ref r1)])) st106 ?_
  refine own_by (g' := (mkF m 52 #[rv r1, iv (1 : Int32), iv xc] [(.int ((xc >>> ((8 : Int32) &&& 31))).toInt8.toInt32), (.int (1 : Int32)), (.ref r1)])) (fun t k => XS.ishr X106.here hx rfl (hb hby own_d19_50) rfl (XS.i2b X106.here hx rfl (hb hby own_d19_51) rfl k)) ?_
  obtain ⟨c107, Ar107, q107, S107, G107, H107, F107⟩ := id V104
  have hin107 : ¬ ((1 : Int32) < 0 ∨ c107.slots.size ≤ ((1 : Int32)).toNatClampNeg) := inb_of S107 ⟨by decide, by decide⟩
  obtain ⟨T107, h107, X107, e107, W107, st107⟩ := stB X106 hx hZ e106 Ar107 (j := (1 : Int32)) hin107 (g := (mkF m 52 #[rv r1, iv (1 : Int32), iv xc] [(.int ((xc >>> ((8 : Int32) &&& 31))).toInt8.toInt32), (.int (1 : Int32)), (.ref r1)])) rfl rfl (hb hby own_d19_52)
  have V108 : Arv Z h107 r1 k1 .byte (2 : Int32) [(.int ((xc >>> ((0 : Int32) &&& 31))).toInt8.toInt32), (.int ((xc >>> ((8 : Int32) &&& 31))).toInt8.toInt32)] (.int (0 : Int32)) := Arv.set Ar107 q107 S107 G107 H107 F107 (fits_nar_byte _) (own_wr W107 (congrArg Value.int (own_b8 _))) 1 rfl (Nat.le_of_ble_eq_true rfl)
  have N107 := Fr.snoc X107 N103 g1
  refine own_by (g' := (mkF m 53 #[rv r1, iv (1 : Int32), iv xc] [])) st107 ?_
  refine own_retV X107 hx hlk hret (hb hby own_d19_53) (by decide) (by decide) ?_
  rw [e107]
  exact ⟨rfl, N107, (((Keep.refl h0 [r1]).wr W103 (Or.inl (List.mem_of_getElem? (i := 0) rfl))).wr W107 (Or.inl (List.mem_of_getElem? (i := 0) rfl))), V108⟩
theorem own_d16_0 : decode jdk_52_method_14_code 0 = .ok (.iload_n 2, 1) := by decide +kernel
theorem own_d16_1 : decode jdk_52_method_14_code 1 = .ok (.invokestatic 107, 3) := by decide +kernel
theorem own_pd8 : parseMethodDescriptor "(I)[B" = some ⟨[.int], some (.array .byte)⟩ := by decide +kernel
theorem own_d16_4 : decode jdk_52_method_14_code 4 = .ok (.astore_n 3, 1) := by decide +kernel
theorem own_d16_5 : decode jdk_52_method_14_code 5 = .ok (.iconst 0, 1) := by decide +kernel
theorem own_d16_6 : decode jdk_52_method_14_code 6 = .ok (.istore 4, 2) := by decide +kernel
theorem own_d16_8 : decode jdk_52_method_14_code 8 = .ok (.iload 4, 2) := by decide +kernel
theorem own_d16_10 : decode jdk_52_method_14_code 10 = .ok (.iload_n 2, 1) := by decide +kernel
theorem own_d16_11 : decode jdk_52_method_14_code 11 = .ok (.if_icmp .ge 21, 3) := by decide +kernel
theorem own_d16_14 : decode jdk_52_method_14_code 14 = .ok (.aload_n 3, 1) := by decide +kernel
theorem own_d16_15 : decode jdk_52_method_14_code 15 = .ok (.iload 4, 2) := by decide +kernel
theorem own_d16_17 : decode jdk_52_method_14_code 17 = .ok (.aload_n 0, 1) := by decide +kernel
theorem own_d16_18 : decode jdk_52_method_14_code 18 = .ok (.iload_n 1, 1) := by decide +kernel
theorem own_d16_19 : decode jdk_52_method_14_code 19 = .ok (.caload, 1) := by decide +kernel
theorem own_d16_20 : decode jdk_52_method_14_code 20 = .ok (.invokestatic 111, 3) := by decide +kernel
theorem own_pd9 : parseMethodDescriptor "([BII)V" = some ⟨[(.array .byte), .int, .int], none⟩ := by decide +kernel
theorem own_d16_23 : decode jdk_52_method_14_code 23 = .ok (.iinc 1 1, 3) := by decide +kernel
theorem own_d16_26 : decode jdk_52_method_14_code 26 = .ok (.iinc 4 1, 3) := by decide +kernel
theorem own_d16_29 : decode jdk_52_method_14_code 29 = .ok (.goto (-21), 3) := by decide +kernel
theorem own_d16_32 : decode jdk_52_method_14_code 32 = .ok (.aload_n 3, 1) := by decide +kernel
theorem own_d16_33 : decode jdk_52_method_14_code 33 = .ok (.areturn, 1) := by decide +kernel
def Q_own_tob1 (Z : State) (r1 : Addr) (k1 : ClassId) (x0 : Int32) (h0 : Heap) (n0 : Nat) (v : Option Value) (h : Heap) (L : List Loc) : Prop := ∃ (bo : Addr), ∃ (kb : ClassId), v = some (.ref bo) ∧ Fr n0 L ∧ Keep h0 h [] ∧ h0.size ≤ bo ∧ Exa Z h bo "[B" ∧ Arv Z h bo kb .byte (2 : Int32) [(.int ((x0 >>> ((0 : Int32) &&& 31))).toInt8.toInt32), (.int ((x0 >>> ((8 : Int32) &&& 31))).toInt8.toInt32)] (.int (0 : Int32))
theorem own_ef_own_tob1 (m : MethodId) (r1 : Addr) : entryFrame m #[(.ref r1), (.int (0 : Int32)), (.int (1 : Int32))] 5 = mkF m 0 #[rv r1, iv (0 : Int32), iv (1 : Int32), .unset, .unset] [] := by first | (simp [entryFrame, mkF, argsToLocals, Value.category]; done) | rfl
set_option maxRecDepth 65536 in
set_option maxHeartbeats 40000000 in
theorem own_tob1 (l : Launch) (Z : State) (a0 : Array Value) (hw : ∀ d ∈ tables_1, d.before a0 Z = true) (ws : List Jvm.Cond) (r1 : Addr) (k1 : ClassId) (x0 : Int32) (h0 : Heap) (n0 : Nat) (Z0 : n0 ≤ h0.size) (O0 : Old Z n0 h0) (S_ad : Sta Z Z.heap "java/lang/StringUTF16" "$assertionsDisabled" "Z" (.int (1 : Int32))) (S_hi : Sta Z Z.heap "java/lang/StringUTF16" "HI_BYTE_SHIFT" "I" (.int (0 : Int32))) (S_lo : Sta Z Z.heap "java/lang/StringUTF16" "LO_BYTE_SHIFT" "I" (.int (8 : Int32))) (V1 : Arv Z h0 r1 k1 .char (1 : Int32) [(.int x0)] (.int (0 : Int32))) :
    own_Ctr l Z (⟨"java/lang/StringUTF16", "toBytes", "([CII)[B"⟩ : MethodName) jdk_52_method_14_code 5 (some (.array .byte)) ws ({ frames := 2, cells := 1, slots := 2, locals := 24 } : Room) (({ frames := 2, cells := 1, slots := 2, locals := 24 } : Room)).cells (({ frames := 2, cells := 1, slots := 2, locals := 24 } : Room)).slots #[(.ref r1), (.int (0 : Int32)), (.int (1 : Int32))] h0 (Q_own_tob1 Z r1 k1 x0 h0 n0) := by
  refine own_enter (plainFor_of_name own_pn2) ?_
  intro p e s m below meth c s₁ X0 hx hZ hby hml hown hnm hlk hret e0
  have N0 := Fr.nil n0
  refine own_cast (own_ef_own_tob1 m r1) ?_
  refine own_by (g' := (mkF m 1 #[rv r1, iv (0 : Int32), iv (1 : Int32), .unset, .unset] [(.int (1 : Int32))])) (fun t k => XS.iloadN X0.here hx rfl (hb hby own_d16_0) rfl k) ?_
  refine own_callS X0 hx hZ hown (hw _ (List.mem_of_getElem? (i := 79) rfl)) (hw _ (List.mem_of_getElem? (i := 80) rfl)) (hw _ (List.mem_of_getElem? (i := 22) rfl)) (hw _ (List.mem_of_getElem? (i := 81) rfl)) (by decide) (own_nbf1 l Z a0 hw []  h0 n0 Z0 ) 0 (by decide) (by decide) (by decide) (by decide) e0 (g := (mkF m 1 #[rv r1, iv (0 : Int32), iv (1 : Int32), .unset, .unset] [(.int (1 : Int32))])) rfl (by rw [hml]; rfl) (argsL := [(.int (1 : Int32))]) (rest := []) (lenOf own_pd8 rfl) rfl (by show 2 * 0 + _ ≤ _; exact Nat.le_of_eq rfl) (hb hby own_d16_1) ?_
  intro v101 T101 L101 X101 q101
  obtain ⟨bo101, kb101, rfl, N101q, K101, f102, f103, f104⟩ := q101
  have N101 := Fr.app N0 N101q
  show own_Goes p e below s _ _ _ T101 (mkF m 4 #[rv r1, iv (0 : Int32), iv (1 : Int32), .unset, .unset] [(.ref bo101)])
  refine own_by (g' := (mkF m 17 #[rv r1, iv (0 : Int32), iv (1 : Int32), rv bo101, iv (0 : Int32)] [(.int (0 : Int32)), (.ref bo101)])) (fun t k => XS.astoreN X101.here hx rfl (hb hby own_d16_4) rfl rfl (l' := #[rv r1, iv (0 : Int32), iv (1 : Int32), rv bo101, .unset]) rfl (XS.iconst X101.here hx rfl (hb hby own_d16_5) (XS.istore X101.here hx rfl (hb hby own_d16_6) rfl (l' := #[rv r1, iv (0 : Int32), iv (1 : Int32), rv bo101, iv (0 : Int32)]) rfl (XS.iload X101.here hx rfl (hb hby own_d16_8) rfl (XS.iloadN X101.here hx rfl (hb hby own_d16_10) rfl (XS.icmpNo X101.here hx rfl (hb hby own_d16_11) rfl (tlt (by decide : (0 : Int32) < (1 : Int32))).2.1 (XS.aloadN X101.here hx rfl (hb hby own_d16_14) rfl rfl (XS.iload X101.here hx rfl (hb hby own_d16_15) rfl k)))))))) ?_
  refine own_by (g' := (mkF m 19 #[rv r1, iv (0 : Int32), iv (1 : Int32), rv bo101, iv (0 : Int32)] [(.int (0 : Int32)), (.ref r1), (.int (0 : Int32)), (.ref bo101)])) (fun t k => XS.aloadN X101.here hx rfl (hb hby own_d16_17) rfl rfl (XS.iloadN X101.here hx rfl (hb hby own_d16_18) rfl k)) ?_
  have f105 := (V1.keep K101 nin0)
  obtain ⟨c106, Ar106, q106, S106, G106, H106, F106⟩ := id f105
  have hin106 : ¬ ((0 : Int32) < 0 ∨ c106.slots.size ≤ ((0 : Int32)).toNatClampNeg) := inb_of S106 ⟨by decide, by decide⟩
  have hat106 : c106.slots[((0 : Int32)).toNatClampNeg]? = some (.int x0) := H106.at hin106 rfl
  refine own_by (g' := (mkF m 20 #[rv r1, iv (0 : Int32), iv (1 : Int32), rv bo101, iv (0 : Int32)] [(.int x0), (.int (0 : Int32)), (.ref bo101)])) (fun t k => X101.caload hx (j := (0 : Int32)) (v := (.int x0)) (own_at_ rfl Ar106.1) (State.isArrayOf_alike hZ.alike Ar106.2.1) Ar106.2.2 hin106 hat106 (g := (mkF m 19 #[rv r1, iv (0 : Int32), iv (1 : Int32), rv bo101, iv (0 : Int32)] [(.int (0 : Int32)), (.ref r1), (.int (0 : Int32)), (.ref bo101)])) rfl rfl (hb hby own_d16_19) t k) ?_
  have f107 := (O0.keep K101 all0)
  refine own_callS X101 hx hZ hown (hw _ (List.mem_of_getElem? (i := 86) rfl)) (hw _ (List.mem_of_getElem? (i := 87) rfl)) (hw _ (List.mem_of_getElem? (i := 22) rfl)) (hw _ (List.mem_of_getElem? (i := 88) rfl)) (by decide) (own_putc1_0 l Z a0 hw [] (bo101) (kb101) (x0) ((.int (0 : Int32))) ((.int (0 : Int32))) T101.heap n0 (Nat.le_trans Z0 K101.1) f107 S_ad S_hi S_lo f104 (Nat.le_trans Z0 f102)) 0 (by decide) (by decide) (by decide) (by decide) rfl (g := (mkF m 20 #[rv r1, iv (0 : Int32), iv (1 : Int32), rv bo101, iv (0 : Int32)] [(.int x0), (.int (0 : Int32)), (.ref bo101)])) rfl (by rw [hml]; rfl) (argsL := [(.ref bo101), (.int (0 : Int32)), (.int x0)]) (rest := []) (lenOf own_pd9 rfl) rfl (by show 2 * 0 + _ ≤ _; exact Nat.le_of_eq rfl) (hb hby own_d16_20) ?_
  intro v108 T108 L108 X108 q108
  obtain ⟨rfl, N108q, K108, f109⟩ := q108
  have N108 := Fr.app N101 N108q
  show own_Goes p e below s _ _ _ T108 (mkF m 23 #[rv r1, iv (0 : Int32), iv (1 : Int32), rv bo101, iv (0 : Int32)] [])
  refine own_by (g' := (mkF m 33 #[rv r1, iv (1 : Int32), iv (1 : Int32), rv bo101, iv (1 : Int32)] [(.ref bo101)])) (fun t k => XS.iinc X108.here hx rfl (hb hby own_d16_23) rfl (l' := #[rv r1, iv (1 : Int32), iv (1 : Int32), rv bo101, iv (0 : Int32)]) rfl (XS.iinc X108.here hx rfl (hb hby own_d16_26) rfl (l' := #[rv r1, iv (1 : Int32), iv (1 : Int32), rv bo101, iv (1 : Int32)]) rfl (XS.goto X108.here hx rfl (pc0 := 29) (pc' := 8) rfl (hb hby own_d16_29) (by decide) (by decide) (XS.iload X108.here hx rfl (hb hby own_d16_8) rfl (XS.iloadN X108.here hx rfl (hb hby own_d16_10) rfl (XS.icmpYes X108.here hx rfl (pc0 := 11) (pc' := 32) rfl (hb hby own_d16_11) rfl (flt (by decide : ¬ ((1 : Int32) < (1 : Int32)))).2.1 (by decide) (by decide) (XS.aloadN X108.here hx rfl (hb hby own_d16_32) rfl rfl k))))))) ?_
  have f110 := (f103.keep K108)
  refine own_retA X108 hx hlk hret rfl rfl (hb hby own_d16_33) (by decide) (by decide) ?_
  exact ⟨bo101, kb101, rfl, N108, (((Keep.refl h0 []).trans K101 all0).trans K108 (allS (Or.inr (Nat.le_trans (Nat.le_refl _) f102)) all0)), (Nat.le_trans (Nat.le_refl _) f102), f110, f109⟩
theorem own_d6_0 : decode jdk_52_method_21_code 0 = .ok (.iconst 0, 1) := by decide +kernel
theorem own_d6_1 : decode jdk_52_method_21_code 1 = .ok (.istore 5, 2) := by decide +kernel
theorem own_d6_3 : decode jdk_52_method_21_code 3 = .ok (.iload 5, 2) := by decide +kernel
theorem own_d6_5 : decode jdk_52_method_21_code 5 = .ok (.iload 4, 2) := by decide +kernel
theorem own_d6_7 : decode jdk_52_method_21_code 7 = .ok (.if_icmp .ge 37, 3) := by decide +kernel
theorem own_d6_10 : decode jdk_52_method_21_code 10 = .ok (.aload_n 0, 1) := by decide +kernel
theorem own_d6_11 : decode jdk_52_method_21_code 11 = .ok (.iload_n 1, 1) := by decide +kernel
theorem own_d6_12 : decode jdk_52_method_21_code 12 = .ok (.caload, 1) := by decide +kernel
theorem own_d6_13 : decode jdk_52_method_21_code 13 = .ok (.istore 6, 2) := by decide +kernel
theorem own_d6_15 : decode jdk_52_method_21_code 15 = .ok (.iload 6, 2) := by decide +kernel
theorem own_d6_17 : decode jdk_52_method_21_code 17 = .ok (.sipush 255, 3) := by decide +kernel
theorem own_d6_20 : decode jdk_52_method_21_code 20 = .ok (.if_icmp .le 6, 3) := by decide +kernel
theorem own_d6_23 : decode jdk_52_method_21_code 23 = .ok (.iload 5, 2) := by decide +kernel
theorem own_d6_25 : decode jdk_52_method_21_code 25 = .ok (.ireturn, 1) := by decide +kernel
theorem own_d6_26 : decode jdk_52_method_21_code 26 = .ok (.aload_n 2, 1) := by decide +kernel
theorem own_d6_27 : decode jdk_52_method_21_code 27 = .ok (.iload_n 3, 1) := by decide +kernel
theorem own_d6_28 : decode jdk_52_method_21_code 28 = .ok (.iload 6, 2) := by decide +kernel
theorem own_d6_30 : decode jdk_52_method_21_code 30 = .ok (.i2b, 1) := by decide +kernel
theorem own_d6_31 : decode jdk_52_method_21_code 31 = .ok (.bastore, 1) := by decide +kernel
theorem own_d6_32 : decode jdk_52_method_21_code 32 = .ok (.iinc 1 1, 3) := by decide +kernel
theorem own_d6_35 : decode jdk_52_method_21_code 35 = .ok (.iinc 3 1, 3) := by decide +kernel
theorem own_d6_38 : decode jdk_52_method_21_code 38 = .ok (.iinc 5 1, 3) := by decide +kernel
theorem own_d6_41 : decode jdk_52_method_21_code 41 = .ok (.goto (-38), 3) := by decide +kernel
theorem own_d6_44 : decode jdk_52_method_21_code 44 = .ok (.iload 4, 2) := by decide +kernel
theorem own_d6_46 : decode jdk_52_method_21_code 46 = .ok (.ireturn, 1) := by decide +kernel
def Q_own_com5_1 (Z : State) (r1 : Addr) (r2 : Addr) (k1 : ClassId) (k2 : ClassId) (x0 : Int32) (h0 : Heap) (n0 : Nat) (v : Option Value) (h : Heap) (L : List Loc) : Prop := ∃ (cnt : Int32), ∃ (vs : List Value), v = some (.int cnt) ∧ Fr n0 L ∧ Keep h0 h [r2] ∧ Arv Z h r2 k2 .byte (1 : Int32) vs (.int (0 : Int32)) ∧ ((cnt = (1 : Int32) ∧ vs = [(.int (x0).toInt8.toInt32)] ∧ ¬ ((255 : Int32) < x0)) ∨ (cnt = (0 : Int32) ∧ (255 : Int32) < x0))
theorem own_ef_own_com5_1 (m : MethodId) (r1 : Addr) (r2 : Addr) : entryFrame m #[(.ref r1), (.int (0 : Int32)), (.ref r2), (.int (0 : Int32)), (.int (1 : Int32))] 7 = mkF m 0 #[rv r1, iv (0 : Int32), rv r2, iv (0 : Int32), iv (1 : Int32), .unset, .unset] [] := by first | (simp [entryFrame, mkF, argsToLocals, Value.category]; done) | rfl
set_option maxRecDepth 65536 in
set_option maxHeartbeats 40000000 in
theorem own_com5_1 (l : Launch) (Z : State) (a0 : Array Value) (hw : ∀ d ∈ tables_1, d.before a0 Z = true) (ws : List Jvm.Cond) (r1 : Addr) (r2 : Addr) (k1 : ClassId) (k2 : ClassId) (x0 : Int32) (h0 : Heap) (n0 : Nat) (Z0 : n0 ≤ h0.size) (V1 : Arv Z h0 r1 k1 .char (1 : Int32) [(.int x0)] (.int (0 : Int32))) (V2 : Arv Z h0 r2 k2 .byte (1 : Int32) [(.int (0 : Int32))] (.int (0 : Int32))) (g2 : n0 ≤ r2) (n12 : r1 ≠ r2) :
    own_Ctr l Z (⟨"java/lang/StringUTF16", "compress", "([CI[BII)I"⟩ : MethodName) jdk_52_method_21_code 7 (some .int) ws ({ frames := 0, cells := 0, slots := 0, locals := 0 } : Room) (({ frames := 0, cells := 0, slots := 0, locals := 0 } : Room)).cells (({ frames := 0, cells := 0, slots := 0, locals := 0 } : Room)).slots #[(.ref r1), (.int (0 : Int32)), (.ref r2), (.int (0 : Int32)), (.int (1 : Int32))] h0 (Q_own_com5_1 Z r1 r2 k1 k2 x0 h0 n0) := by
  refine own_enter (plainFor_of_name own_pn2) ?_
  intro p e s m below meth c s₁ X0 hx hZ hby hml hown hnm hlk hret e0
  have N0 := Fr.nil n0
  refine own_cast (own_ef_own_com5_1 m r1 r2) ?_
  refine own_by (g' := (mkF m 12 #[rv r1, iv (0 : Int32), rv r2, iv (0 : Int32), iv (1 : Int32), iv (0 : Int32), .unset] [(.int (0 : Int32)), (.ref r1)])) (fun t k => XS.iconst X0.here hx rfl (hb hby own_d6_0) (XS.istore X0.here hx rfl (hb hby own_d6_1) rfl (l' := #[rv r1, iv (0 : Int32), rv r2, iv (0 : Int32), iv (1 : Int32), iv (0 : Int32), .unset]) rfl (XS.iload X0.here hx rfl (hb hby own_d6_3) rfl (XS.iload X0.here hx rfl (hb hby own_d6_5) rfl (XS.icmpNo X0.here hx rfl (hb hby own_d6_7) rfl (tlt (by decide : (0 : Int32) < (1 : Int32))).2.1 (XS.aloadN X0.here hx rfl (hb hby own_d6_10) rfl rfl (XS.iloadN X0.here hx rfl (hb hby own_d6_11) rfl k))))))) ?_
  obtain ⟨c101, Ar101, q101, S101, G101, H101, F101⟩ := id V1
  have hin101 : ¬ ((0 : Int32) < 0 ∨ c101.slots.size ≤ ((0 : Int32)).toNatClampNeg) := inb_of S101 ⟨by decide, by decide⟩
  have hat101 : c101.slots[((0 : Int32)).toNatClampNeg]? = some (.int x0) := H101.at hin101 rfl
  refine own_by (g' := (mkF m 20 #[rv r1, iv (0 : Int32), rv r2, iv (0 : Int32), iv (1 : Int32), iv (0 : Int32), iv x0] [(.int (255 : Int32)), (.int x0)])) (fun t k => X0.caload hx (j := (0 : Int32)) (v := (.int x0)) (own_at_ e0 Ar101.1) (State.isArrayOf_alike hZ.alike Ar101.2.1) Ar101.2.2 hin101 hat101 (g := (mkF m 12 #[rv r1, iv (0 : Int32), rv r2, iv (0 : Int32), iv (1 : Int32), iv (0 : Int32), .unset] [(.int (0 : Int32)), (.ref r1)])) rfl rfl (hb hby own_d6_12) t (XS.istore X0.here hx rfl (hb hby own_d6_13) rfl (l' := #[rv r1, iv (0 : Int32), rv r2, iv (0 : Int32), iv (1 : Int32), iv (0 : Int32), iv x0]) rfl (XS.iload X0.here hx rfl (hb hby own_d6_15) rfl (XS.sipush X0.here hx rfl (hb hby own_d6_17) k)))) ?_
  by_cases hc102 : (255 : Int32) < x0
  ·
    refine own_by (g' := (mkF m 25 #[rv r1, iv (0 : Int32), rv r2, iv (0 : Int32), iv (1 : Int32), iv (0 : Int32), iv x0] [(.int (0 : Int32))])) (fun t k => XS.icmpNo X0.here hx rfl (hb hby own_d6_20) rfl (tlt hc102).2.2.2 (XS.iload X0.here hx rfl (hb hby own_d6_23) rfl k)) ?_
    refine own_retI X0 hx hlk hret (hb hby own_d6_25) (by decide) (by decide) ?_
    rw [e0]
    exact ⟨(0 : Int32), [(.int (0 : Int32))], rfl, N0, (Keep.refl h0 [r2]), V2, (Or.inr (⟨rfl, hc102⟩))⟩
  ·
    refine own_by (g' := (mkF m 31 #[rv r1, iv (0 : Int32), rv r2, iv (0 : Int32), iv (1 : Int32), iv (0 : Int32), iv x0] [(.int (x0).toInt8.toInt32), (.int (0 : Int32)), (.ref r2)])) (fun t k => XS.icmpYes X0.here hx rfl (pc0 := 20) (pc' := 26) rfl (hb hby own_d6_20) rfl (flt hc102).2.2.2 (by decide) (by decide) (XS.aloadN X0.here hx rfl (hb hby own_d6_26) rfl rfl (XS.iloadN X0.here hx rfl (hb hby own_d6_27) rfl (XS.iload X0.here hx rfl (hb hby own_d6_28) rfl (XS.i2b X0.here hx rfl (hb hby own_d6_30) rfl k))))) ?_
    obtain ⟨c103, Ar103, q103, S103, G103, H103, F103⟩ := id V2
    have hin103 : ¬ ((0 : Int32) < 0 ∨ c103.slots.size ≤ ((0 : Int32)).toNatClampNeg) := inb_of S103 ⟨by decide, by decide⟩
    obtain ⟨T103, h103, X103, e103, W103, st103⟩ := stB X0 hx hZ e0 Ar103 (j := (0 : Int32)) hin103 (g := (mkF m 31 #[rv r1, iv (0 : Int32), rv r2, iv (0 : Int32), iv (1 : Int32), iv (0 : Int32), iv x0] [(.int (x0).toInt8.toInt32), (.int (0 : Int32)), (.ref r2)])) rfl rfl (hb hby own_d6_31)
    have V104 : Arv Z h103 r2 k2 .byte (1 : Int32) [(.int (x0).toInt8.toInt32)] (.int (0 : Int32)) := Arv.set Ar103 q103 S103 G103 H103 F103 (fits_nar_byte _) (own_wr W103 (congrArg Value.int (own_b8 _))) 0 rfl (Nat.le_of_ble_eq_true rfl)
    have N103 := Fr.snoc X103 N0 g2
    refine own_by (g' := (mkF m 32 #[rv r1, iv (0 : Int32), rv r2, iv (0 : Int32), iv (1 : Int32), iv (0 : Int32), iv x0] [])) st103 ?_
    refine own_by (g' := (mkF m 46 #[rv r1, iv (1 : Int32), rv r2, iv (1 : Int32), iv (1 : Int32), iv (1 : Int32), iv x0] [(.int (1 : Int32))])) (fun t k => XS.iinc X103.here hx rfl (hb hby own_d6_32) rfl (l' := #[rv r1, iv (1 : Int32), rv r2, iv (0 : Int32), iv (1 : Int32), iv (0 : Int32), iv x0]) rfl (XS.iinc X103.here hx rfl (hb hby own_d6_35) rfl (l' := #[rv r1, iv (1 : Int32), rv r2, iv (1 : Int32), iv (1 : Int32), iv (0 : Int32), iv x0]) rfl (XS.iinc X103.here hx rfl (hb hby own_d6_38) rfl (l' := #[rv r1, iv (1 : Int32), rv r2, iv (1 : Int32), iv (1 : Int32), iv (1 : Int32), iv x0]) rfl (XS.goto X103.here hx rfl (pc0 := 41) (pc' := 3) rfl (hb hby own_d6_41) (by decide) (by decide) (XS.iload X103.here hx rfl (hb hby own_d6_3) rfl (XS.iload X103.here hx rfl (hb hby own_d6_5) rfl (XS.icmpYes X103.here hx rfl (pc0 := 7) (pc' := 44) rfl (hb hby own_d6_7) rfl (flt (by decide : ¬ ((1 : Int32) < (1 : Int32)))).2.1 (by decide) (by decide) (XS.iload X103.here hx rfl (hb hby own_d6_44) rfl k)))))))) ?_
    refine own_retI X103 hx hlk hret (hb hby own_d6_46) (by decide) (by decide) ?_
    rw [e103]
    exact ⟨(1 : Int32), [(.int (x0).toInt8.toInt32)], rfl, N103, ((Keep.refl h0 [r2]).wr W103 (Or.inl (List.mem_of_getElem? (i := 0) rfl))), V104, (Or.inl ⟨rfl, rfl, hc102⟩)⟩
theorem own_d5_0 : decode jdk_52_method_16_code 0 = .ok (.iload_n 2, 1) := by decide +kernel
theorem own_d5_1 : decode jdk_52_method_16_code 1 = .ok (.newarray .byte, 2) := by decide +kernel
theorem own_d5_3 : decode jdk_52_method_16_code 3 = .ok (.astore_n 3, 1) := by decide +kernel
theorem own_d5_4 : decode jdk_52_method_16_code 4 = .ok (.aload_n 0, 1) := by decide +kernel
theorem own_d5_5 : decode jdk_52_method_16_code 5 = .ok (.iload_n 1, 1) := by decide +kernel
theorem own_d5_6 : decode jdk_52_method_16_code 6 = .ok (.aload_n 3, 1) := by decide +kernel
theorem own_d5_7 : decode jdk_52_method_16_code 7 = .ok (.iconst 0, 1) := by decide +kernel
theorem own_d5_8 : decode jdk_52_method_16_code 8 = .ok (.iload_n 2, 1) := by decide +kernel
theorem own_d5_9 : decode jdk_52_method_16_code 9 = .ok (.invokestatic 115, 3) := by decide +kernel
theorem own_pd10 : parseMethodDescriptor "([CI[BII)I" = some ⟨[(.array .char), .int, (.array .byte), .int, .int], some .int⟩ := by decide +kernel
theorem own_d5_12 : decode jdk_52_method_16_code 12 = .ok (.istore 4, 2) := by decide +kernel
theorem own_d5_14 : decode jdk_52_method_16_code 14 = .ok (.iload 4, 2) := by decide +kernel
theorem own_d5_16 : decode jdk_52_method_16_code 16 = .ok (.iload_n 2, 1) := by decide +kernel
theorem own_d5_17 : decode jdk_52_method_16_code 17 = .ok (.if_icmp .eq 40, 3) := by decide +kernel
theorem own_d5_57 : decode jdk_52_method_16_code 57 = .ok (.aload_n 3, 1) := by decide +kernel
theorem own_d5_58 : decode jdk_52_method_16_code 58 = .ok (.areturn, 1) := by decide +kernel
theorem own_d5_20 : decode jdk_52_method_16_code 20 = .ok (.aload_n 0, 1) := by decide +kernel
theorem own_d5_21 : decode jdk_52_method_16_code 21 = .ok (.iload_n 1, 1) := by decide +kernel
theorem own_d5_22 : decode jdk_52_method_16_code 22 = .ok (.iload_n 2, 1) := by decide +kernel
theorem own_d5_23 : decode jdk_52_method_16_code 23 = .ok (.invokestatic 119, 3) := by decide +kernel
theorem own_pd11 : parseMethodDescriptor "([CII)[B" = some ⟨[(.array .char), .int, .int], some (.array .byte)⟩ := by decide +kernel
theorem own_d5_26 : decode jdk_52_method_16_code 26 = .ok (.astore 5, 2) := by decide +kernel
theorem own_d5_28 : decode jdk_52_method_16_code 28 = .ok (.aload 5, 2) := by decide +kernel
theorem own_d5_30 : decode jdk_52_method_16_code 30 = .ok (.iload 4, 2) := by decide +kernel
theorem own_d5_32 : decode jdk_52_method_16_code 32 = .ok (.invokestatic 71, 3) := by decide +kernel
theorem own_d5_35 : decode jdk_52_method_16_code 35 = .ok (.sipush 255, 3) := by decide +kernel
theorem own_d5_38 : decode jdk_52_method_16_code 38 = .ok (.if_icmp .gt 16, 3) := by decide +kernel
theorem own_d5_54 : decode jdk_52_method_16_code 54 = .ok (.aload 5, 2) := by decide +kernel
theorem own_d5_56 : decode jdk_52_method_16_code 56 = .ok (.areturn, 1) := by decide +kernel
def Q_own_com3_1 (Z : State) (r1 : Addr) (k1 : ClassId) (x0 : Int32) (h0 : Heap) (n0 : Nat) (v : Option Value) (h : Heap) (L : List Loc) : Prop := ∃ (bo : Addr), ∃ (kb : ClassId), ∃ (ln : Int32), ∃ (vs : List Value), v = some (.ref bo) ∧ Fr n0 L ∧ Keep h0 h [] ∧ h0.size ≤ bo ∧ Exa Z h bo "[B" ∧ Arv Z h bo kb .byte ln vs (.int (0 : Int32)) ∧ ((ln = (1 : Int32) ∧ vs = [(.int (x0).toInt8.toInt32)] ∧ ¬ ((255 : Int32) < x0)) ∨ (ln = (2 : Int32) ∧ vs = [(.int ((x0 >>> ((0 : Int32) &&& 31))).toInt8.toInt32), (.int ((x0 >>> ((8 : Int32) &&& 31))).toInt8.toInt32)]))
theorem own_ef_own_com3_1 (m : MethodId) (r1 : Addr) : entryFrame m #[(.ref r1), (.int (0 : Int32)), (.int (1 : Int32))] 6 = mkF m 0 #[rv r1, iv (0 : Int32), iv (1 : Int32), .unset, .unset, .unset] [] := by first | (simp [entryFrame, mkF, argsToLocals, Value.category]; done) | rfl
set_option maxRecDepth 65536 in
set_option maxHeartbeats 40000000 in
theorem own_com3_1 (l : Launch) (Z : State) (a0 : Array Value) (hw : ∀ d ∈ tables_1, d.before a0 Z = true) (ws : List Jvm.Cond) (r1 : Addr) (k1 : ClassId) (x0 : Int32) (h0 : Heap) (n0 : Nat) (Z0 : n0 ≤ h0.size) (O0 : Old Z n0 h0) (S_ad : Sta Z Z.heap "java/lang/StringUTF16" "$assertionsDisabled" "Z" (.int (1 : Int32))) (S_hi : Sta Z Z.heap "java/lang/StringUTF16" "HI_BYTE_SHIFT" "I" (.int (0 : Int32))) (S_lo : Sta Z Z.heap "java/lang/StringUTF16" "LO_BYTE_SHIFT" "I" (.int (8 : Int32))) (hk0 : own_ch x0) (V1 : Arv Z h0 r1 k1 .char (1 : Int32) [(.int x0)] (.int (0 : Int32))) :
    own_Ctr l Z (⟨"java/lang/StringUTF16", "compress", "([CII)[B"⟩ : MethodName) jdk_52_method_16_code 6 (some (.array .byte)) ws ({ frames := 3, cells := 2, slots := 3, locals := 40 } : Room) (({ frames := 3, cells := 2, slots := 3, locals := 40 } : Room)).cells (({ frames := 3, cells := 2, slots := 3, locals := 40 } : Room)).slots #[(.ref r1), (.int (0 : Int32)), (.int (1 : Int32))] h0 (Q_own_com3_1 Z r1 k1 x0 h0 n0) := by
  refine own_enter (plainFor_of_name own_pn2) ?_
  intro p e s m below meth c s₁ X0 hx hZ hby hml hown hnm hlk hret e0
  have N0 := Fr.nil n0
  refine own_cast (own_ef_own_com3_1 m r1) ?_
  refine own_by (g' := (mkF m 1 #[rv r1, iv (0 : Int32), iv (1 : Int32), .unset, .unset, .unset] [(.int (1 : Int32))])) (fun t k => XS.iloadN X0.here hx rfl (hb hby own_d5_0) rfl k) ?_
  obtain ⟨T101, h101, k101, X101, e101, E101, A101, Y101, st101⟩ := newPE X0 hx hZ (hw _ (List.mem_of_getElem? (i := 24) rfl)) e0 (g := (mkF m 1 #[rv r1, iv (0 : Int32), iv (1 : Int32), .unset, .unset, .unset] [(.int (1 : Int32))])) rfl (hb hby own_d5_1) rfl (by decide) (cap := 1) (by decide) (by decide) (by decide) (by decide) (ad := "[B") own_ad_byte
  obtain ⟨b101, g101⟩ : ∃ z, z = h0.size := ⟨_, rfl⟩
  rw [← g101] at A101 Y101 st101
  have sz_b101 : h0.size ≤ b101 := Nat.le_trans (Nat.le_refl _) (Nat.le_of_eq g101.symm)
  have g_b101 : n0 ≤ b101 := Nat.le_trans Z0 sz_b101
  have V101 : Arv Z h101 b101 k101 .byte (1 : Int32) [(.int (0 : Int32))] (.int (0 : Int32)) := (Arv.new A101 (by decide)).pad (pad_rep [] (.int (0 : Int32)) 1)
  refine own_by (g' := (mkF m 3 #[rv r1, iv (0 : Int32), iv (1 : Int32), .unset, .unset, .unset] [(.ref b101)])) st101 ?_
  refine own_by (g' := (mkF m 9 #[rv r1, iv (0 : Int32), iv (1 : Int32), rv b101, .unset, .unset] [(.int (1 : Int32)), (.int (0 : Int32)), (.ref b101), (.int (0 : Int32)), (.ref r1)])) (fun t k => XS.astoreN X101.here hx rfl (hb hby own_d5_3) rfl rfl (l' := #[rv r1, iv (0 : Int32), iv (1 : Int32), rv b101, .unset, .unset]) rfl (XS.aloadN X101.here hx rfl (hb hby own_d5_4) rfl rfl (XS.iloadN X101.here hx rfl (hb hby own_d5_5) rfl (XS.aloadN X101.here hx rfl (hb hby own_d5_6) rfl rfl (XS.iconst X101.here hx rfl (hb hby own_d5_7) (XS.iloadN X101.here hx rfl (hb hby own_d5_8) rfl k)))))) ?_
  have f102 := (V1.ext E101)
  refine own_callS X101 hx hZ hown (hw _ (List.mem_of_getElem? (i := 25) rfl)) (hw _ (List.mem_of_getElem? (i := 26) rfl)) (hw _ (List.mem_of_getElem? (i := 22) rfl)) (hw _ (List.mem_of_getElem? (i := 27) rfl)) (by decide) (own_com5_1 l Z a0 hw [] (r1) (b101) (k1) (k101) (x0) h101 n0 (Nat.le_trans Z0 E101.1) f102 V101 g_b101 (Nat.ne_of_lt (Nat.lt_of_lt_of_le (Nat.lt_of_lt_of_le V1.lt (Nat.le_refl _)) (Nat.le_of_eq g101.symm)))) 0 (by decide) (by decide) (by decide) (by decide) e101 (g := (mkF m 9 #[rv r1, iv (0 : Int32), iv (1 : Int32), rv b101, .unset, .unset] [(.int (1 : Int32)), (.int (0 : Int32)), (.ref b101), (.int (0 : Int32)), (.ref r1)])) rfl (by rw [hml]; rfl) (argsL := [(.ref r1), (.int (0 : Int32)), (.ref b101), (.int (0 : Int32)), (.int (1 : Int32))]) (rest := []) (lenOf own_pd10 rfl) rfl (by show 2 * 0 + _ ≤ _; exact Nat.le_of_eq rfl) (hb hby own_d5_9) ?_
  intro v103 T103 L103 X103 q103
  obtain ⟨cnt103, vs103, rfl, N103q, K103, f104, f105⟩ := q103
  have N103 := Fr.app N0 N103q
  show own_Goes p e below s _ _ _ T103 (mkF m 12 #[rv r1, iv (0 : Int32), iv (1 : Int32), rv b101, .unset, .unset] [(.int cnt103)])
  rcases f105 with ⟨rfl, rfl, hq0⟩ | ⟨rfl, hq0⟩
  ·
    refine own_by (g' := (mkF m 58 #[rv r1, iv (0 : Int32), iv (1 : Int32), rv b101, iv (1 : Int32), .unset] [(.ref b101)])) (fun t k => XS.istore X103.here hx rfl (hb hby own_d5_12) rfl (l' := #[rv r1, iv (0 : Int32), iv (1 : Int32), rv b101, iv (1 : Int32), .unset]) rfl (XS.iload X103.here hx rfl (hb hby own_d5_14) rfl (XS.iloadN X103.here hx rfl (hb hby own_d5_16) rfl (XS.icmpYes X103.here hx rfl (pc0 := 17) (pc' := 57) rfl (hb hby own_d5_17) rfl (teq (by decide : (1 : Int32) = (1 : Int32))).1 (by decide) (by decide) (XS.aloadN X103.here hx rfl (hb hby own_d5_57) rfl rfl k))))) ?_
    have f106 := (Y101.keep K103)
    refine own_retA X103 hx hlk hret rfl rfl (hb hby own_d5_58) (by decide) (by decide) ?_
    exact ⟨b101, k101, (1 : Int32), [(.int (x0).toInt8.toInt32)], rfl, N103, (((Keep.refl h0 []).ext E101).trans K103 (allS (Or.inr sz_b101) all0)), sz_b101, f106, f104, (Or.inl ⟨rfl, rfl, hq0⟩)⟩
  ·
    refine own_by (g' := (mkF m 23 #[rv r1, iv (0 : Int32), iv (1 : Int32), rv b101, iv (0 : Int32), .unset] [(.int (1 : Int32)), (.int (0 : Int32)), (.ref r1)])) (fun t k => XS.istore X103.here hx rfl (hb hby own_d5_12) rfl (l' := #[rv r1, iv (0 : Int32), iv (1 : Int32), rv b101, iv (0 : Int32), .unset]) rfl (XS.iload X103.here hx rfl (hb hby own_d5_14) rfl (XS.iloadN X103.here hx rfl (hb hby own_d5_16) rfl (XS.icmpNo X103.here hx rfl (hb hby own_d5_17) rfl (feq (by decide : ¬ ((0 : Int32) = (1 : Int32)))).1 (XS.aloadN X103.here hx rfl (hb hby own_d5_20) rfl rfl (XS.iloadN X103.here hx rfl (hb hby own_d5_21) rfl (XS.iloadN X103.here hx rfl (hb hby own_d5_22) rfl k))))))) ?_
    have f107 := ((O0.ext E101).keep K103 (allS g_b101 all0))
    have f108 := (f102.keep K103 (ninS (Nat.ne_of_lt (Nat.lt_of_lt_of_le (Nat.lt_of_lt_of_le V1.lt (Nat.le_refl _)) (Nat.le_of_eq g101.symm))) nin0))
    refine own_callS X103 hx hZ hown (hw _ (List.mem_of_getElem? (i := 76) rfl)) (hw _ (List.mem_of_getElem? (i := 77) rfl)) (hw _ (List.mem_of_getElem? (i := 22) rfl)) (hw _ (List.mem_of_getElem? (i := 78) rfl)) (by decide) (own_tob1 l Z a0 hw [] (r1) (k1) (x0) T103.heap n0 (Nat.le_trans Z0 (Nat.le_trans E101.1 K103.1)) f107 S_ad S_hi S_lo f108) 0 (by decide) (by decide) (by decide) (by decide) rfl (g := (mkF m 23 #[rv r1, iv (0 : Int32), iv (1 : Int32), rv b101, iv (0 : Int32), .unset] [(.int (1 : Int32)), (.int (0 : Int32)), (.ref r1)])) rfl (by rw [hml]; rfl) (argsL := [(.ref r1), (.int (0 : Int32)), (.int (1 : Int32))]) (rest := []) (lenOf own_pd11 rfl) rfl (by show 2 * 0 + _ ≤ _; exact Nat.le_of_eq rfl) (hb hby own_d5_23) ?_
    intro v109 T109 L109 X109 q109
    obtain ⟨bo109, kb109, rfl, N109q, K109, f110, f111, f112⟩ := q109
    have N109 := Fr.app N103 N109q
    show own_Goes p e below s _ _ _ T109 (mkF m 26 #[rv r1, iv (0 : Int32), iv (1 : Int32), rv b101, iv (0 : Int32), .unset] [(.ref bo109)])
    refine own_by (g' := (mkF m 32 #[rv r1, iv (0 : Int32), iv (1 : Int32), rv b101, iv (0 : Int32), rv bo109] [(.int (0 : Int32)), (.ref bo109)])) (fun t k => XS.astore X109.here hx rfl (hb hby own_d5_26) rfl rfl (l' := #[rv r1, iv (0 : Int32), iv (1 : Int32), rv b101, iv (0 : Int32), rv bo109]) rfl (XS.aload X109.here hx rfl (hb hby own_d5_28) rfl rfl (XS.iload X109.here hx rfl (hb hby own_d5_30) rfl k))) ?_
    have f113 := (f107.keep K109 all0)
    refine own_callS X109 hx hZ hown (hw _ (List.mem_of_getElem? (i := 92) rfl)) (hw _ (List.mem_of_getElem? (i := 93) rfl)) (hw _ (List.mem_of_getElem? (i := 22) rfl)) (hw _ (List.mem_of_getElem? (i := 94) rfl)) (by decide) (own_getc0 l Z a0 hw [] (bo109) (kb109) ((2 : Int32)) ([(.int ((x0 >>> ((0 : Int32) &&& 31))).toInt8.toInt32), (.int ((x0 >>> ((8 : Int32) &&& 31))).toInt8.toInt32)]) (((x0 >>> ((0 : Int32) &&& 31))).toInt8.toInt32) (((x0 >>> ((8 : Int32) &&& 31))).toInt8.toInt32) (x0) T109.heap n0 (Nat.le_trans Z0 (Nat.le_trans (Nat.le_trans E101.1 K103.1) K109.1)) f113 S_ad S_hi S_lo f112 (by first | assumption | decide) (by first | assumption | decide) rfl rfl (own_utf x0 hk0)) 0 (by decide) (by decide) (by decide) (by decide) rfl (g := (mkF m 32 #[rv r1, iv (0 : Int32), iv (1 : Int32), rv b101, iv (0 : Int32), rv bo109] [(.int (0 : Int32)), (.ref bo109)])) rfl (by rw [hml]; rfl) (argsL := [(.ref bo109), (.int (0 : Int32))]) (rest := []) (lenOf own_pd4 rfl) rfl (by show 2 * 0 + _ ≤ _; exact Nat.le_of_eq rfl) (hb hby own_d5_32) ?_
    intro v114 T114 L114 X114 q114
    obtain ⟨rfl, N114q, e114⟩ := q114
    have N114 := Fr.app N109 N114q
    show own_Goes p e below s _ _ _ T114 (mkF m 35 #[rv r1, iv (0 : Int32), iv (1 : Int32), rv b101, iv (0 : Int32), rv bo109] [(.int x0)])
    refine own_by (g' := (mkF m 56 #[rv r1, iv (0 : Int32), iv (1 : Int32), rv b101, iv (0 : Int32), rv bo109] [(.ref bo109)])) (fun t k => XS.sipush X114.here hx rfl (hb hby own_d5_35) (XS.icmpYes X114.here hx rfl (pc0 := 38) (pc' := 54) rfl (hb hby own_d5_38) rfl (tlt hq0).2.2.1 (by decide) (by decide) (XS.aload X114.here hx rfl (hb hby own_d5_54) rfl rfl k))) ?_
    refine own_retA X114 hx hlk hret rfl rfl (hb hby own_d5_56) (by decide) (by decide) ?_
    rw [e114]
    exact ⟨bo109, kb109, (2 : Int32), [(.int ((x0 >>> ((0 : Int32) &&& 31))).toInt8.toInt32), (.int ((x0 >>> ((8 : Int32) &&& 31))).toInt8.toInt32)], rfl, N114, ((((Keep.refl h0 []).ext E101).trans K103 (allS (Or.inr sz_b101) all0)).trans K109 all0), (Nat.le_trans (Nat.le_trans E101.1 K103.1) f110), f111, f112, (Or.inr ⟨rfl, rfl⟩)⟩
theorem own_d7_0 : decode jdk_52_method_15_code 0 = .ok (.iload_n 1, 1) := by decide +kernel
theorem own_d7_1 : decode jdk_52_method_15_code 1 = .ok (.aload_n 0, 1) := by decide +kernel
theorem own_d7_2 : decode jdk_52_method_15_code 2 = .ok (.arraylength, 1) := by decide +kernel
theorem own_d7_3 : decode jdk_52_method_15_code 3 = .ok (.isub, 1) := by decide +kernel
theorem own_d7_4 : decode jdk_52_method_15_code 4 = .ok (.bipush 31, 2) := by decide +kernel
theorem own_d7_6 : decode jdk_52_method_15_code 6 = .ok (.iushr, 1) := by decide +kernel
theorem own_d7_7 : decode jdk_52_method_15_code 7 = .ok (.i2b, 1) := by decide +kernel
theorem own_d7_8 : decode jdk_52_method_15_code 8 = .ok (.ireturn, 1) := by decide +kernel
def Q_own_cfa1_0 (Z : State) (r1 : Addr) (k1 : ClassId) (vs : List Value) (h0 : Heap) (n0 : Nat) (v : Option Value) (h : Heap) (L : List Loc) : Prop := v = some (.int (0 : Int32)) ∧ Fr n0 L ∧ h = h0
theorem own_ef_own_cfa1_0 (m : MethodId) (r1 : Addr) : entryFrame m #[(.ref r1), (.int (1 : Int32))] 2 = mkF m 0 #[rv r1, iv (1 : Int32)] [] := by first | (simp [entryFrame, mkF, argsToLocals, Value.category]; done) | rfl
set_option maxRecDepth 65536 in
set_option maxHeartbeats 40000000 in
theorem own_cfa1_0 (l : Launch) (Z : State) (a0 : Array Value) (hw : ∀ d ∈ tables_1, d.before a0 Z = true) (ws : List Jvm.Cond) (r1 : Addr) (k1 : ClassId) (vs : List Value) (h0 : Heap) (n0 : Nat) (Z0 : n0 ≤ h0.size) (V1 : Arv Z h0 r1 k1 .byte (1 : Int32) vs (.int (0 : Int32))) :
    own_Ctr l Z (⟨"java/lang/StringUTF16", "coderFromArrayLen", "([BI)B"⟩ : MethodName) jdk_52_method_15_code 2 (some .byte) ws ({ frames := 0, cells := 0, slots := 0, locals := 0 } : Room) (({ frames := 0, cells := 0, slots := 0, locals := 0 } : Room)).cells (({ frames := 0, cells := 0, slots := 0, locals := 0 } : Room)).slots #[(.ref r1), (.int (1 : Int32))] h0 (Q_own_cfa1_0 Z r1 k1 vs h0 n0) := by
  refine own_enter (plainFor_of_name own_pn2) ?_
  intro p e s m below meth c s₁ X0 hx hZ hby hml hown hnm hlk hret e0
  have N0 := Fr.nil n0
  refine own_cast (own_ef_own_cfa1_0 m r1) ?_
  refine own_by (g' := (mkF m 2 #[rv r1, iv (1 : Int32)] [(.ref r1), (.int (1 : Int32))])) (fun t k => XS.iloadN X0.here hx rfl (hb hby own_d7_0) rfl (XS.aloadN X0.here hx rfl (hb hby own_d7_1) rfl rfl k)) ?_
  obtain ⟨c101, Ar101, -, S101, G101, -, -⟩ := id V1
  refine own_by (g' := (mkF m 3 #[rv r1, iv (1 : Int32)] [(.int (1 : Int32)), (.int (1 : Int32))])) (fun t k => X0.arraylength hx (own_at_ e0 Ar101.1) (State.isArrayOf_alike hZ.alike Ar101.2.1) (g := (mkF m 2 #[rv r1, iv (1 : Int32)] [(.ref r1), (.int (1 : Int32))])) rfl rfl (hb hby own_d7_2) t (by rw [len_of S101 G101]; exact k)) ?_
  refine own_by (g' := (mkF m 8 #[rv r1, iv (1 : Int32)] [(.int ((((0 : Int32)).toUInt32 >>> ((31 : Int32) &&& 31).toUInt32).toInt32).toInt8.toInt32)])) (fun t k => XS.isub X0.here hx rfl (hb hby own_d7_3) rfl (XS.bipush X0.here hx rfl (hb hby own_d7_4) (XS.iushr X0.here hx rfl (hb hby own_d7_6) rfl (XS.i2b X0.here hx rfl (hb hby own_d7_7) rfl k)))) ?_
  refine own_retN X0 hx hlk hret (t := .byte) (by simp) (hb hby own_d7_8) (by decide) (by decide) ?_
  exact ⟨(by decide), N0, e0⟩
def Q_own_cfa1_1 (Z : State) (r1 : Addr) (k1 : ClassId) (vs : List Value) (h0 : Heap) (n0 : Nat) (v : Option Value) (h : Heap) (L : List Loc) : Prop := v = some (.int (1 : Int32)) ∧ Fr n0 L ∧ h = h0
theorem own_ef_own_cfa1_1 (m : MethodId) (r1 : Addr) : entryFrame m #[(.ref r1), (.int (1 : Int32))] 2 = mkF m 0 #[rv r1, iv (1 : Int32)] [] := by first | (simp [entryFrame, mkF, argsToLocals, Value.category]; done) | rfl
set_option maxRecDepth 65536 in
set_option maxHeartbeats 40000000 in
theorem own_cfa1_1 (l : Launch) (Z : State) (a0 : Array Value) (hw : ∀ d ∈ tables_1, d.before a0 Z = true) (ws : List Jvm.Cond) (r1 : Addr) (k1 : ClassId) (vs : List Value) (h0 : Heap) (n0 : Nat) (Z0 : n0 ≤ h0.size) (V1 : Arv Z h0 r1 k1 .byte (2 : Int32) vs (.int (0 : Int32))) :
    own_Ctr l Z (⟨"java/lang/StringUTF16", "coderFromArrayLen", "([BI)B"⟩ : MethodName) jdk_52_method_15_code 2 (some .byte) ws ({ frames := 0, cells := 0, slots := 0, locals := 0 } : Room) (({ frames := 0, cells := 0, slots := 0, locals := 0 } : Room)).cells (({ frames := 0, cells := 0, slots := 0, locals := 0 } : Room)).slots #[(.ref r1), (.int (1 : Int32))] h0 (Q_own_cfa1_1 Z r1 k1 vs h0 n0) := by
  refine own_enter (plainFor_of_name own_pn2) ?_
  intro p e s m below meth c s₁ X0 hx hZ hby hml hown hnm hlk hret e0
  have N0 := Fr.nil n0
  refine own_cast (own_ef_own_cfa1_1 m r1) ?_
  refine own_by (g' := (mkF m 2 #[rv r1, iv (1 : Int32)] [(.ref r1), (.int (1 : Int32))])) (fun t k => XS.iloadN X0.here hx rfl (hb hby own_d7_0) rfl (XS.aloadN X0.here hx rfl (hb hby own_d7_1) rfl rfl k)) ?_
  obtain ⟨c101, Ar101, -, S101, G101, -, -⟩ := id V1
  refine own_by (g' := (mkF m 3 #[rv r1, iv (1 : Int32)] [(.int (2 : Int32)), (.int (1 : Int32))])) (fun t k => X0.arraylength hx (own_at_ e0 Ar101.1) (State.isArrayOf_alike hZ.alike Ar101.2.1) (g := (mkF m 2 #[rv r1, iv (1 : Int32)] [(.ref r1), (.int (1 : Int32))])) rfl rfl (hb hby own_d7_2) t (by rw [len_of S101 G101]; exact k)) ?_
  refine own_by (g' := (mkF m 8 #[rv r1, iv (1 : Int32)] [(.int ((((-1 : Int32)).toUInt32 >>> ((31 : Int32) &&& 31).toUInt32).toInt32).toInt8.toInt32)])) (fun t k => XS.isub X0.here hx rfl (hb hby own_d7_3) rfl (XS.bipush X0.here hx rfl (hb hby own_d7_4) (XS.iushr X0.here hx rfl (hb hby own_d7_6) rfl (XS.i2b X0.here hx rfl (hb hby own_d7_7) rfl k)))) ?_
  refine own_retN X0 hx hlk hret (t := .byte) (by simp) (hb hby own_d7_8) (by decide) (by decide) ?_
  exact ⟨(by decide), N0, e0⟩
theorem own_d3_0 : decode jdk_42_method_149_code 0 = .ok (.aload_n 0, 1) := by decide +kernel
theorem own_d3_1 : decode jdk_42_method_149_code 1 = .ok (.invokespecial 1, 3) := by decide +kernel
theorem own_d3_4 : decode jdk_42_method_149_code 4 = .ok (.iload_n 3, 1) := by decide +kernel
theorem own_d3_5 : decode jdk_42_method_149_code 5 = .ok (.ifCond .ne 22, 3) := by decide +kernel
theorem own_d3_27 : decode jdk_42_method_149_code 27 = .ok (.getstatic 38, 3) := by decide +kernel
theorem own_d3_30 : decode jdk_42_method_149_code 30 = .ok (.ifCond .eq 28, 3) := by decide +kernel
theorem own_d3_33 : decode jdk_42_method_149_code 33 = .ok (.aload_n 1, 1) := by decide +kernel
theorem own_d3_34 : decode jdk_42_method_149_code 34 = .ok (.iload_n 2, 1) := by decide +kernel
theorem own_d3_35 : decode jdk_42_method_149_code 35 = .ok (.iload_n 3, 1) := by decide +kernel
theorem own_d3_36 : decode jdk_42_method_149_code 36 = .ok (.invokestatic 177, 3) := by decide +kernel
theorem own_d3_39 : decode jdk_42_method_149_code 39 = .ok (.astore 5, 2) := by decide +kernel
theorem own_d3_41 : decode jdk_42_method_149_code 41 = .ok (.aload_n 0, 1) := by decide +kernel
theorem own_d3_42 : decode jdk_42_method_149_code 42 = .ok (.aload 5, 2) := by decide +kernel
theorem own_d3_44 : decode jdk_42_method_149_code 44 = .ok (.iload_n 3, 1) := by decide +kernel
theorem own_d3_45 : decode jdk_42_method_149_code 45 = .ok (.invokestatic 47, 3) := by decide +kernel
theorem own_pd12 : parseMethodDescriptor "([BI)B" = some ⟨[(.array .byte), .int], some .byte⟩ := by decide +kernel
theorem own_d3_48 : decode jdk_42_method_149_code 48 = .ok (.putfield 15, 3) := by decide +kernel
theorem own_d3_51 : decode jdk_42_method_149_code 51 = .ok (.aload_n 0, 1) := by decide +kernel
theorem own_d3_52 : decode jdk_42_method_149_code 52 = .ok (.aload 5, 2) := by decide +kernel
theorem own_d3_54 : decode jdk_42_method_149_code 54 = .ok (.putfield 9, 3) := by decide +kernel
theorem own_d3_57 : decode jdk_42_method_149_code 57 = .ok (.return_, 1) := by decide +kernel
def Q_own_ini4_1 (Z : State) (r1 : Addr) (r2 : Addr) (k1 : ClassId) (x0 : Int32) (zcs : Int32) (h0 : Heap) (n0 : Nat) (v : Option Value) (h : Heap) (L : List Loc) : Prop := ∃ (ba : Addr), ∃ (kb : ClassId), ∃ (cd : Int32), ∃ (ln : Int32), ∃ (vs : List Value), v = none ∧ Fr n0 L ∧ Keep h0 h [r1] ∧ h0.size ≤ ba ∧ Exa Z h r1 "java/lang/String" ∧ Fld Z h r1 "java/lang/String" "value" "[B" (.ref ba) ∧ Fld Z h r1 "java/lang/String" "coder" "B" (.int cd) ∧ Arv Z h ba kb .byte ln vs (.int (0 : Int32)) ∧ Exa Z h ba "[B" ∧ own_s1 x0 cd ln vs
theorem own_ef_own_ini4_1 (m : MethodId) (r1 : Addr) (r2 : Addr) : entryFrame m #[(.ref r1), (.ref r2), (.int (0 : Int32)), (.int (1 : Int32)), .null] 6 = mkF m 0 #[rv r1, rv r2, iv (0 : Int32), iv (1 : Int32), .val .null, .unset] [] := by first | (simp [entryFrame, mkF, argsToLocals, Value.category]; done) | rfl
set_option maxRecDepth 65536 in
set_option maxHeartbeats 40000000 in
theorem own_ini4_1 (l : Launch) (Z : State) (a0 : Array Value) (hw : ∀ d ∈ tables_1, d.before a0 Z = true) (ws : List Jvm.Cond) (r1 : Addr) (r2 : Addr) (k1 : ClassId) (x0 : Int32) (zcs : Int32) (h0 : Heap) (n0 : Nat) (Z0 : n0 ≤ h0.size) (O0 : Old Z n0 h0) (S_cs : Sta Z Z.heap "java/lang/String" "COMPACT_STRINGS" "Z" (.int zcs)) (hcs : ¬ zcs = (0 : Int32)) (S_ad : Sta Z Z.heap "java/lang/StringUTF16" "$assertionsDisabled" "Z" (.int (1 : Int32))) (S_hi : Sta Z Z.heap "java/lang/StringUTF16" "HI_BYTE_SHIFT" "I" (.int (0 : Int32))) (S_lo : Sta Z Z.heap "java/lang/StringUTF16" "LO_BYTE_SHIFT" "I" (.int (8 : Int32))) (hk0 : own_ch x0) (E1 : Exa Z h0 r1 "java/lang/String") (F1 : Fld Z h0 r1 "java/lang/String" "value" "[B" .null) (F2 : Fld Z h0 r1 "java/lang/String" "coder" "B" (.int (0 : Int32))) (g1 : n0 ≤ r1) (V1 : Arv Z h0 r2 k1 .char (1 : Int32) [(.int x0)] (.int (0 : Int32))) :
    own_Ctr l Z (⟨"java/lang/String", "<init>", "([CIILjava/lang/Void;)V"⟩ : MethodName) jdk_42_method_149_code 6 none ws ({ frames := 4, cells := 2, slots := 3, locals := 57 } : Room) (({ frames := 4, cells := 2, slots := 3, locals := 57 } : Room)).cells (({ frames := 4, cells := 2, slots := 3, locals := 57 } : Room)).slots #[(.ref r1), (.ref r2), (.int (0 : Int32)), (.int (1 : Int32)), .null] h0 (Q_own_ini4_1 Z r1 r2 k1 x0 zcs h0 n0) := by
  refine own_enter (plainFor_of_name own_pn1) ?_
  intro p e s m below meth c s₁ X0 hx hZ hby hml hown hnm hlk hret e0
  have N0 := Fr.nil n0
  refine own_cast (own_ef_own_ini4_1 m r1 r2) ?_
  refine own_by (g' := (mkF m 1 #[rv r1, rv r2, iv (0 : Int32), iv (1 : Int32), .val .null, .unset] [(.ref r1)])) (fun t k => XS.aloadN X0.here hx rfl (hb hby own_d3_0) rfl rfl k) ?_
  obtain ⟨T101, X101, e101, st101⟩ := initO X0 hx hZ hown (hw _ (List.mem_of_getElem? (i := 16) rfl)) (hw _ (List.mem_of_getElem? (i := 17) rfl)) (hw _ (List.mem_of_getElem? (i := 18) rfl)) e0 (g := (mkF m 1 #[rv r1, rv r2, iv (0 : Int32), iv (1 : Int32), .val .null, .unset] [(.ref r1)])) rfl (by rw [hml]; rfl) rfl (hb hby own_d3_1) (by decide) (W := 0) (by show 2 * 0 + _ ≤ _; exact Nat.le_of_eq rfl) (by decide)
  refine own_by (g' := (mkF m 4 #[rv r1, rv r2, iv (0 : Int32), iv (1 : Int32), .val .null, .unset] [])) st101 ?_
  refine own_by (g' := (mkF m 27 #[rv r1, rv r2, iv (0 : Int32), iv (1 : Int32), .val .null, .unset] [])) (fun t k => XS.iloadN X101.here hx rfl (hb hby own_d3_4) rfl (XS.ifYes X101.here hx rfl (pc0 := 5) (pc' := 27) rfl (hb hby own_d3_5) rfl ((if0 _ _).trans (feq (by decide : ¬ ((1 : Int32) = (0 : Int32)))).2) (by decide) (by decide) k)) ?_
  obtain ⟨T102, X102, e102, st102⟩ := getS2 X101 hx hZ hown (host := "") (Or.inl (hw _ (List.mem_of_getElem? (i := 19) rfl))) Via.refl e101 (S_cs.ext O0.2) (g := (mkF m 27 #[rv r1, rv r2, iv (0 : Int32), iv (1 : Int32), .val .null, .unset] [])) rfl (hb hby own_d3_27)
  refine own_by (g' := (mkF m 30 #[rv r1, rv r2, iv (0 : Int32), iv (1 : Int32), .val .null, .unset] [(.int zcs)])) st102 ?_
  refine own_by (g' := (mkF m 36 #[rv r1, rv r2, iv (0 : Int32), iv (1 : Int32), .val .null, .unset] [(.int (1 : Int32)), (.int (0 : Int32)), (.ref r2)])) (fun t k => XS.ifNo X102.here hx rfl (hb hby own_d3_30) rfl ((if0 _ _).trans (feq hcs).1) (XS.aloadN X102.here hx rfl (hb hby own_d3_33) rfl rfl (XS.iloadN X102.here hx rfl (hb hby own_d3_34) rfl (XS.iloadN X102.here hx rfl (hb hby own_d3_35) rfl k)))) ?_
  refine own_callS X102 hx hZ hown (hw _ (List.mem_of_getElem? (i := 20) rfl)) (hw _ (List.mem_of_getElem? (i := 21) rfl)) (hw _ (List.mem_of_getElem? (i := 22) rfl)) (hw _ (List.mem_of_getElem? (i := 23) rfl)) (by decide) (own_com3_1 l Z a0 hw [] (r2) (k1) (x0) h0 n0 Z0 O0 S_ad S_hi S_lo (by first | assumption | decide) V1) 0 (by decide) (by decide) (by decide) (by decide) e102 (g := (mkF m 36 #[rv r1, rv r2, iv (0 : Int32), iv (1 : Int32), .val .null, .unset] [(.int (1 : Int32)), (.int (0 : Int32)), (.ref r2)])) rfl (by rw [hml]; rfl) (argsL := [(.ref r2), (.int (0 : Int32)), (.int (1 : Int32))]) (rest := []) (lenOf own_pd11 rfl) rfl (by show 2 * 0 + _ ≤ _; exact Nat.le_of_eq rfl) (hb hby own_d3_36) ?_
  intro v103 T103 L103 X103 q103
  obtain ⟨bo103, kb103, ln103, vs103, rfl, N103q, K103, f104, f105, f106, f107⟩ := q103
  have N103 := Fr.app N0 N103q
  show own_Goes p e below s _ _ _ T103 (mkF m 39 #[rv r1, rv r2, iv (0 : Int32), iv (1 : Int32), .val .null, .unset] [(.ref bo103)])
  rcases f107 with ⟨rfl, rfl, hq0⟩ | ⟨rfl, rfl⟩
  ·
    refine own_by (g' := (mkF m 45 #[rv r1, rv r2, iv (0 : Int32), iv (1 : Int32), .val .null, rv bo103] [(.int (1 : Int32)), (.ref bo103), (.ref r1)])) (fun t k => XS.astore X103.here hx rfl (hb hby own_d3_39) rfl rfl (l' := #[rv r1, rv r2, iv (0 : Int32), iv (1 : Int32), .val .null, rv bo103]) rfl (XS.aloadN X103.here hx rfl (hb hby own_d3_41) rfl rfl (XS.aload X103.here hx rfl (hb hby own_d3_42) rfl rfl (XS.iloadN X103.here hx rfl (hb hby own_d3_44) rfl k)))) ?_
    refine own_callS X103 hx hZ hown (hw _ (List.mem_of_getElem? (i := 28) rfl)) (hw _ (List.mem_of_getElem? (i := 29) rfl)) (hw _ (List.mem_of_getElem? (i := 22) rfl)) (hw _ (List.mem_of_getElem? (i := 30) rfl)) (by decide) (own_cfa1_0 l Z a0 hw [] (bo103) (kb103) ([(.int (x0).toInt8.toInt32)]) T103.heap n0 (Nat.le_trans Z0 K103.1) f106) 1 (by decide) (by decide) (by decide) (by decide) rfl (g := (mkF m 45 #[rv r1, rv r2, iv (0 : Int32), iv (1 : Int32), .val .null, rv bo103] [(.int (1 : Int32)), (.ref bo103), (.ref r1)])) rfl (by rw [hml]; rfl) (argsL := [(.ref bo103), (.int (1 : Int32))]) (rest := [(.ref r1)]) (lenOf own_pd12 rfl) rfl (by show 2 * 0 + _ ≤ _; exact Nat.le_of_eq rfl) (hb hby own_d3_45) ?_
    intro v108 T108 L108 X108 q108
    obtain ⟨rfl, N108q, e108⟩ := q108
    have N108 := Fr.app N103 N108q
    show own_Goes p e below s _ _ _ T108 (mkF m 48 #[rv r1, rv r2, iv (0 : Int32), iv (1 : Int32), .val .null, rv bo103] [(.int (0 : Int32)), (.ref r1)])
    have f109 := (F2.keep K103 nin0)
    have f110 := (E1.keep K103)
    obtain ⟨T111, h111, X111, e111, W111, st111⟩ := putFN X108 hx hZ hown (hw _ (List.mem_of_getElem? (i := 31) rfl)) Via.refl e108 f109 f110 (Or.inr ⟨(hw _ (List.mem_of_getElem? (i := 32) rfl)), rfl, hnm⟩) (hw _ (List.mem_of_getElem? (i := 6) rfl)) (ty := .byte) (v' := (.int (0 : Int32))) (by decide) rfl (by decide) (g := (mkF m 48 #[rv r1, rv r2, iv (0 : Int32), iv (1 : Int32), .val .null, rv bo103] [(.int (0 : Int32)), (.ref r1)])) rfl rfl (hb hby own_d3_48)
    have f112 := f109.same W111
    have N111 := Fr.snoc X111 N108 g1
    refine own_by (g' := (mkF m 51 #[rv r1, rv r2, iv (0 : Int32), iv (1 : Int32), .val .null, rv bo103] [])) st111 ?_
    refine own_by (g' := (mkF m 54 #[rv r1, rv r2, iv (0 : Int32), iv (1 : Int32), .val .null, rv bo103] [(.ref bo103), (.ref r1)])) (fun t k => XS.aloadN X111.here hx rfl (hb hby own_d3_51) rfl rfl (XS.aload X111.here hx rfl (hb hby own_d3_52) rfl rfl k)) ?_
    have f113 := ((F1.keep K103 nin0).other W111 (Or.inr (slot_ne (Or.inr (hw _ (List.mem_of_getElem? (i := 34) rfl))) (Or.inr (hw _ (List.mem_of_getElem? (i := 32) rfl))) (by decide) (t := (.array .byte)) (t' := .byte) (by decide) (by decide))))
    have f114 := (f110.wr W111)
    obtain ⟨T115, h115, X115, e115, W115, st115⟩ := putF X111 hx hZ hown (host := "") (Or.inl (hw _ (List.mem_of_getElem? (i := 33) rfl))) Via.refl e111 f113 f114 (Or.inr ⟨(hw _ (List.mem_of_getElem? (i := 34) rfl)), rfl, hnm⟩) (hw _ (List.mem_of_getElem? (i := 6) rfl)) (ty := (.array .byte)) (by decide) rfl rfl (g := (mkF m 54 #[rv r1, rv r2, iv (0 : Int32), iv (1 : Int32), .val .null, rv bo103] [(.ref bo103), (.ref r1)])) rfl rfl (hb hby own_d3_54)
    have f116 := f113.same W115
    have N115 := Fr.snoc X115 N111 g1
    refine own_by (g' := (mkF m 57 #[rv r1, rv r2, iv (0 : Int32), iv (1 : Int32), .val .null, rv bo103] [])) st115 ?_
    have f117 := (f114.wr W115)
    have f118 := (f112.other W115 (Or.inr (slot_ne (Or.inr (hw _ (List.mem_of_getElem? (i := 32) rfl))) (Or.inr (hw _ (List.mem_of_getElem? (i := 34) rfl))) (by decide) (t := .byte) (t' := (.array .byte)) (by decide) (by decide))))
    have f119 := ((f106.other W111 (Ne.symm (Nat.ne_of_lt (Nat.lt_of_lt_of_le (Nat.lt_of_lt_of_le E1.lt (Nat.le_refl _)) f104)))).other W115 (Ne.symm (Nat.ne_of_lt (Nat.lt_of_lt_of_le (Nat.lt_of_lt_of_le E1.lt (Nat.le_refl _)) f104))))
    have f120 := ((f105.wr W111).wr W115)
    refine own_retV X115 hx hlk hret (hb hby own_d3_57) (by decide) (by decide) ?_
    rw [e115]
    exact ⟨bo103, kb103, (0 : Int32), (1 : Int32), [(.int (x0).toInt8.toInt32)], rfl, N115, ((((Keep.refl h0 [r1]).trans K103 all0).wr W111 (Or.inl (List.mem_of_getElem? (i := 0) rfl))).wr W115 (Or.inl (List.mem_of_getElem? (i := 0) rfl))), (Nat.le_trans (Nat.le_refl _) f104), f117, f116, f118, f119, f120, (Or.inl ⟨rfl, rfl, rfl, hq0⟩)⟩
  ·
    refine own_by (g' := (mkF m 45 #[rv r1, rv r2, iv (0 : Int32), iv (1 : Int32), .val .null, rv bo103] [(.int (1 : Int32)), (.ref bo103), (.ref r1)])) (fun t k => XS.astore X103.here hx rfl (hb hby own_d3_39) rfl rfl (l' := #[rv r1, rv r2, iv (0 : Int32), iv (1 : Int32), .val .null, rv bo103]) rfl (XS.aloadN X103.here hx rfl (hb hby own_d3_41) rfl rfl (XS.aload X103.here hx rfl (hb hby own_d3_42) rfl rfl (XS.iloadN X103.here hx rfl (hb hby own_d3_44) rfl k)))) ?_
    refine own_callS X103 hx hZ hown (hw _ (List.mem_of_getElem? (i := 28) rfl)) (hw _ (List.mem_of_getElem? (i := 29) rfl)) (hw _ (List.mem_of_getElem? (i := 22) rfl)) (hw _ (List.mem_of_getElem? (i := 30) rfl)) (by decide) (own_cfa1_1 l Z a0 hw [] (bo103) (kb103) ([(.int ((x0 >>> ((0 : Int32) &&& 31))).toInt8.toInt32), (.int ((x0 >>> ((8 : Int32) &&& 31))).toInt8.toInt32)]) T103.heap n0 (Nat.le_trans Z0 K103.1) f106) 1 (by decide) (by decide) (by decide) (by decide) rfl (g := (mkF m 45 #[rv r1, rv r2, iv (0 : Int32), iv (1 : Int32), .val .null, rv bo103] [(.int (1 : Int32)), (.ref bo103), (.ref r1)])) rfl (by rw [hml]; rfl) (argsL := [(.ref bo103), (.int (1 : Int32))]) (rest := [(.ref r1)]) (lenOf own_pd12 rfl) rfl (by show 2 * 0 + _ ≤ _; exact Nat.le_of_eq rfl) (hb hby own_d3_45) ?_
    intro v121 T121 L121 X121 q121
    obtain ⟨rfl, N121q, e121⟩ := q121
    have N121 := Fr.app N103 N121q
    show own_Goes p e below s _ _ _ T121 (mkF m 48 #[rv r1, rv r2, iv (0 : Int32), iv (1 : Int32), .val .null, rv bo103] [(.int (1 : Int32)), (.ref r1)])
    have f122 := (F2.keep K103 nin0)
    have f123 := (E1.keep K103)
    obtain ⟨T124, h124, X124, e124, W124, st124⟩ := putFN X121 hx hZ hown (hw _ (List.mem_of_getElem? (i := 31) rfl)) Via.refl e121 f122 f123 (Or.inr ⟨(hw _ (List.mem_of_getElem? (i := 32) rfl)), rfl, hnm⟩) (hw _ (List.mem_of_getElem? (i := 6) rfl)) (ty := .byte) (v' := (.int (1 : Int32))) (by decide) rfl (by decide) (g := (mkF m 48 #[rv r1, rv r2, iv (0 : Int32), iv (1 : Int32), .val .null, rv bo103] [(.int (1 : Int32)), (.ref r1)])) rfl rfl (hb hby own_d3_48)
    have f125 := f122.same W124
    have N124 := Fr.snoc X124 N121 g1
    refine own_by (g' := (mkF m 51 #[rv r1, rv r2, iv (0 : Int32), iv (1 : Int32), .val .null, rv bo103] [])) st124 ?_
    refine own_by (g' := (mkF m 54 #[rv r1, rv r2, iv (0 : Int32), iv (1 : Int32), .val .null, rv bo103] [(.ref bo103), (.ref r1)])) (fun t k => XS.aloadN X124.here hx rfl (hb hby own_d3_51) rfl rfl (XS.aload X124.here hx rfl (hb hby own_d3_52) rfl rfl k)) ?_
    have f126 := ((F1.keep K103 nin0).other W124 (Or.inr (slot_ne (Or.inr (hw _ (List.mem_of_getElem? (i := 34) rfl))) (Or.inr (hw _ (List.mem_of_getElem? (i := 32) rfl))) (by decide) (t := (.array .byte)) (t' := .byte) (by decide) (by decide))))
    have f127 := (f123.wr W124)
    obtain ⟨T128, h128, X128, e128, W128, st128⟩ := putF X124 hx hZ hown (host := "") (Or.inl (hw _ (List.mem_of_getElem? (i := 33) rfl))) Via.refl e124 f126 f127 (Or.inr ⟨(hw _ (List.mem_of_getElem? (i := 34) rfl)), rfl, hnm⟩) (hw _ (List.mem_of_getElem? (i := 6) rfl)) (ty := (.array .byte)) (by decide) rfl rfl (g := (mkF m 54 #[rv r1, rv r2, iv (0 : Int32), iv (1 : Int32), .val .null, rv bo103] [(.ref bo103), (.ref r1)])) rfl rfl (hb hby own_d3_54)
    have f129 := f126.same W128
    have N128 := Fr.snoc X128 N124 g1
    refine own_by (g' := (mkF m 57 #[rv r1, rv r2, iv (0 : Int32), iv (1 : Int32), .val .null, rv bo103] [])) st128 ?_
    have f130 := (f127.wr W128)
    have f131 := (f125.other W128 (Or.inr (slot_ne (Or.inr (hw _ (List.mem_of_getElem? (i := 32) rfl))) (Or.inr (hw _ (List.mem_of_getElem? (i := 34) rfl))) (by decide) (t := .byte) (t' := (.array .byte)) (by decide) (by decide))))
    have f132 := ((f106.other W124 (Ne.symm (Nat.ne_of_lt (Nat.lt_of_lt_of_le (Nat.lt_of_lt_of_le E1.lt (Nat.le_refl _)) f104)))).other W128 (Ne.symm (Nat.ne_of_lt (Nat.lt_of_lt_of_le (Nat.lt_of_lt_of_le E1.lt (Nat.le_refl _)) f104))))
    have f133 := ((f105.wr W124).wr W128)
    refine own_retV X128 hx hlk hret (hb hby own_d3_57) (by decide) (by decide) ?_
    rw [e128]
    exact ⟨bo103, kb103, (1 : Int32), (2 : Int32), [(.int ((x0 >>> ((0 : Int32) &&& 31))).toInt8.toInt32), (.int ((x0 >>> ((8 : Int32) &&& 31))).toInt8.toInt32)], rfl, N128, ((((Keep.refl h0 [r1]).trans K103 all0).wr W124 (Or.inl (List.mem_of_getElem? (i := 0) rfl))).wr W128 (Or.inl (List.mem_of_getElem? (i := 0) rfl))), (Nat.le_trans (Nat.le_refl _) f104), f130, f129, f131, f132, f133, (Or.inr ⟨rfl, rfl, rfl⟩)⟩
theorem own_d2_0 : decode jdk_42_method_3_code 0 = .ok (.aload_n 0, 1) := by decide +kernel
theorem own_d2_1 : decode jdk_42_method_3_code 1 = .ok (.aload_n 1, 1) := by decide +kernel
theorem own_d2_2 : decode jdk_42_method_3_code 2 = .ok (.iconst 0, 1) := by decide +kernel
theorem own_d2_3 : decode jdk_42_method_3_code 3 = .ok (.aload_n 1, 1) := by decide +kernel
theorem own_d2_4 : decode jdk_42_method_3_code 4 = .ok (.arraylength, 1) := by decide +kernel
theorem own_d2_5 : decode jdk_42_method_3_code 5 = .ok (.aconst_null, 1) := by decide +kernel
theorem own_d2_6 : decode jdk_42_method_3_code 6 = .ok (.invokespecial 27, 3) := by decide +kernel
theorem own_pd13 : parseMethodDescriptor "([CIILjava/lang/Void;)V" = some ⟨[(.array .char), .int, .int, (.object "java/lang/Void")], none⟩ := by decide +kernel
theorem own_d2_9 : decode jdk_42_method_3_code 9 = .ok (.return_, 1) := by decide +kernel
def Q_own_ini1_1 (Z : State) (r1 : Addr) (r2 : Addr) (k1 : ClassId) (x0 : Int32) (zcs : Int32) (h0 : Heap) (n0 : Nat) (v : Option Value) (h : Heap) (L : List Loc) : Prop := ∃ (ba : Addr), ∃ (kb : ClassId), ∃ (cd : Int32), ∃ (ln : Int32), ∃ (vs : List Value), v = none ∧ Fr n0 L ∧ Keep h0 h [r1] ∧ h0.size ≤ ba ∧ Exa Z h r1 "java/lang/String" ∧ Fld Z h r1 "java/lang/String" "value" "[B" (.ref ba) ∧ Fld Z h r1 "java/lang/String" "coder" "B" (.int cd) ∧ Arv Z h ba kb .byte ln vs (.int (0 : Int32)) ∧ Exa Z h ba "[B" ∧ own_s1 x0 cd ln vs
theorem own_ef_own_ini1_1 (m : MethodId) (r1 : Addr) (r2 : Addr) : entryFrame m #[(.ref r1), (.ref r2)] 2 = mkF m 0 #[rv r1, rv r2] [] := by first | (simp [entryFrame, mkF, argsToLocals, Value.category]; done) | rfl
set_option maxRecDepth 65536 in
set_option maxHeartbeats 40000000 in
theorem own_ini1_1 (l : Launch) (Z : State) (a0 : Array Value) (hw : ∀ d ∈ tables_1, d.before a0 Z = true) (ws : List Jvm.Cond) (r1 : Addr) (r2 : Addr) (k1 : ClassId) (x0 : Int32) (zcs : Int32) (h0 : Heap) (n0 : Nat) (Z0 : n0 ≤ h0.size) (O0 : Old Z n0 h0) (S_cs : Sta Z Z.heap "java/lang/String" "COMPACT_STRINGS" "Z" (.int zcs)) (hcs : ¬ zcs = (0 : Int32)) (S_ad : Sta Z Z.heap "java/lang/StringUTF16" "$assertionsDisabled" "Z" (.int (1 : Int32))) (S_hi : Sta Z Z.heap "java/lang/StringUTF16" "HI_BYTE_SHIFT" "I" (.int (0 : Int32))) (S_lo : Sta Z Z.heap "java/lang/StringUTF16" "LO_BYTE_SHIFT" "I" (.int (8 : Int32))) (hk0 : own_ch x0) (E1 : Exa Z h0 r1 "java/lang/String") (F1 : Fld Z h0 r1 "java/lang/String" "value" "[B" .null) (F2 : Fld Z h0 r1 "java/lang/String" "coder" "B" (.int (0 : Int32))) (g1 : n0 ≤ r1) (V1 : Arv Z h0 r2 k1 .char (1 : Int32) [(.int x0)] (.int (0 : Int32))) :
    own_Ctr l Z (⟨"java/lang/String", "<init>", "([C)V"⟩ : MethodName) jdk_42_method_3_code 2 none ws ({ frames := 5, cells := 2, slots := 3, locals := 74 } : Room) (({ frames := 5, cells := 2, slots := 3, locals := 74 } : Room)).cells (({ frames := 5, cells := 2, slots := 3, locals := 74 } : Room)).slots #[(.ref r1), (.ref r2)] h0 (Q_own_ini1_1 Z r1 r2 k1 x0 zcs h0 n0) := by
  refine own_enter (plainFor_of_name own_pn1) ?_
  intro p e s m below meth c s₁ X0 hx hZ hby hml hown hnm hlk hret e0
  have N0 := Fr.nil n0
  refine own_cast (own_ef_own_ini1_1 m r1 r2) ?_
  refine own_by (g' := (mkF m 4 #[rv r1, rv r2] [(.ref r2), (.int (0 : Int32)), (.ref r2), (.ref r1)])) (fun t k => XS.aloadN X0.here hx rfl (hb hby own_d2_0) rfl rfl (XS.aloadN X0.here hx rfl (hb hby own_d2_1) rfl rfl (XS.iconst X0.here hx rfl (hb hby own_d2_2) (XS.aloadN X0.here hx rfl (hb hby own_d2_3) rfl rfl k)))) ?_
  obtain ⟨c101, Ar101, -, S101, G101, -, -⟩ := id V1
  refine own_by (g' := (mkF m 5 #[rv r1, rv r2] [(.int (1 : Int32)), (.int (0 : Int32)), (.ref r2), (.ref r1)])) (fun t k => X0.arraylength hx (own_at_ e0 Ar101.1) (State.isArrayOf_alike hZ.alike Ar101.2.1) (g := (mkF m 4 #[rv r1, rv r2] [(.ref r2), (.int (0 : Int32)), (.ref r2), (.ref r1)])) rfl rfl (hb hby own_d2_4) t (by rw [len_of S101 G101]; exact k)) ?_
  refine own_by (g' := (mkF m 6 #[rv r1, rv r2] [.null, (.int (1 : Int32)), (.int (0 : Int32)), (.ref r2), (.ref r1)])) (fun t k => XS.aconstNull X0.here hx rfl (hb hby own_d2_5) k) ?_
  refine own_callI X0 hx hZ hown rfl (hw _ (List.mem_of_getElem? (i := 12) rfl)) (hw _ (List.mem_of_getElem? (i := 13) rfl)) (hw _ (List.mem_of_getElem? (i := 7) rfl)) (hw _ (List.mem_of_getElem? (i := 15) rfl)) (by decide) (a := r1) (own_ini4_1 l Z a0 hw [] (r1) (r2) (k1) (x0) (zcs) h0 n0 Z0 O0 S_cs (by first | assumption | decide) S_ad S_hi S_lo (by first | assumption | decide) E1 F1 F2 g1 V1) 0 (by decide) (by decide) (by decide) (by decide) e0 (g := (mkF m 6 #[rv r1, rv r2] [.null, (.int (1 : Int32)), (.int (0 : Int32)), (.ref r2), (.ref r1)])) rfl (by rw [hml]; rfl) (argsL := [(.ref r2), (.int (0 : Int32)), (.int (1 : Int32)), .null]) (rest := []) (lenOf own_pd13 rfl) rfl (by show 2 * 0 + _ ≤ _; exact Nat.le_of_eq rfl) (hb hby own_d2_6) ?_
  intro v102 T102 L102 X102 q102
  obtain ⟨ba102, kb102, cd102, ln102, vs102, rfl, N102q, K102, f103, f104, f105, f106, f107, f108, f109⟩ := q102
  have N102 := Fr.app N0 N102q
  show own_Goes p e below s _ _ _ T102 (mkF m 9 #[rv r1, rv r2] [])
  refine own_retV X102 hx hlk hret (hb hby own_d2_9) (by decide) (by decide) ?_
  exact ⟨ba102, kb102, cd102, ln102, vs102, rfl, N102, ((Keep.refl h0 [r1]).trans K102 (allS (Or.inl (List.mem_of_getElem? (i := 0) rfl)) all0)), (Nat.le_trans (Nat.le_refl _) f103), f104, f105, f106, f107, f108, f109⟩
def Q_own_nbl2 (Z : State)  (h0 : Heap) (n0 : Nat) (v : Option Value) (h : Heap) (L : List Loc) : Prop := v = some (.int (4 : Int32)) ∧ Fr n0 L ∧ h = h0
theorem own_ef_own_nbl2 (m : MethodId)  : entryFrame m #[(.int (2 : Int32))] 1 = mkF m 0 #[iv (2 : Int32)] [] := by first | (simp [entryFrame, mkF, argsToLocals, Value.category]; done) | rfl
set_option maxRecDepth 65536 in
set_option maxHeartbeats 40000000 in
theorem own_nbl2 (l : Launch) (Z : State) (a0 : Array Value) (hw : ∀ d ∈ tables_1, d.before a0 Z = true) (ws : List Jvm.Cond)  (h0 : Heap) (n0 : Nat) (Z0 : n0 ≤ h0.size)  :
    own_Ctr l Z (⟨"java/lang/StringUTF16", "newBytesLength", "(I)I"⟩ : MethodName) jdk_52_method_3_code 1 (some .int) ws ({ frames := 0, cells := 0, slots := 0, locals := 0 } : Room) (({ frames := 0, cells := 0, slots := 0, locals := 0 } : Room)).cells (({ frames := 0, cells := 0, slots := 0, locals := 0 } : Room)).slots #[(.int (2 : Int32))] h0 (Q_own_nbl2 Z  h0 n0) := by
  refine own_enter (plainFor_of_name own_pn2) ?_
  intro p e s m below meth c s₁ X0 hx hZ hby hml hown hnm hlk hret e0
  have N0 := Fr.nil n0
  refine own_cast (own_ef_own_nbl2 m ) ?_
  refine own_by (g' := (mkF m 58 #[iv (2 : Int32)] [(.int ((2 : Int32) <<< ((1 : Int32) &&& 31)))])) (fun t k => XS.iloadN X0.here hx rfl (hb hby own_d18_0) rfl (XS.ifYes X0.here hx rfl (pc0 := 1) (pc' := 12) rfl (hb hby own_d18_1) rfl ((if0 _ _).trans (flt (by decide : ¬ ((2 : Int32) < (0 : Int32)))).2.1) (by decide) (by decide) (XS.iloadN X0.here hx rfl (hb hby own_d18_12) rfl (X0.ldcInt hx hown (mvT hZ (hw _ (List.mem_of_getElem? (i := 85) rfl))) (g := (mkF m 13 #[iv (2 : Int32)] [(.int (2 : Int32))])) rfl (hb hby own_d18_13) t (XS.icmpYes X0.here hx rfl (pc0 := 15) (pc' := 55) rfl (hb hby own_d18_15) rfl (tlt (by decide : (2 : Int32) < (1073741823 : Int32))).1 (by decide) (by decide) (XS.iloadN X0.here hx rfl (hb hby own_d18_55) rfl (XS.iconst X0.here hx rfl (hb hby own_d18_56) (XS.ishl X0.here hx rfl (hb hby own_d18_57) rfl k)))))))) ?_
  refine own_retI X0 hx hlk hret (hb hby own_d18_58) (by decide) (by decide) ?_
  exact ⟨(by decide), N0, e0⟩
def Q_own_nbf2 (Z : State)  (h0 : Heap) (n0 : Nat) (v : Option Value) (h : Heap) (L : List Loc) : Prop := ∃ (bo : Addr), ∃ (kb : ClassId), v = some (.ref bo) ∧ Fr n0 L ∧ Keep h0 h [] ∧ h0.size ≤ bo ∧ Exa Z h bo "[B" ∧ Arv Z h bo kb .byte (4 : Int32) [(.int (0 : Int32)), (.int (0 : Int32)), (.int (0 : Int32)), (.int (0 : Int32))] (.int (0 : Int32))
theorem own_ef_own_nbf2 (m : MethodId)  : entryFrame m #[(.int (2 : Int32))] 1 = mkF m 0 #[iv (2 : Int32)] [] := by first | (simp [entryFrame, mkF, argsToLocals, Value.category]; done) | rfl
set_option maxRecDepth 65536 in
set_option maxHeartbeats 40000000 in
theorem own_nbf2 (l : Launch) (Z : State) (a0 : Array Value) (hw : ∀ d ∈ tables_1, d.before a0 Z = true) (ws : List Jvm.Cond)  (h0 : Heap) (n0 : Nat) (Z0 : n0 ≤ h0.size)  :
    own_Ctr l Z (⟨"java/lang/StringUTF16", "newBytesFor", "(I)[B"⟩ : MethodName) jdk_52_method_2_code 1 (some (.array .byte)) ws ({ frames := 1, cells := 1, slots := 4, locals := 12 } : Room) (({ frames := 1, cells := 1, slots := 4, locals := 12 } : Room)).cells (({ frames := 1, cells := 1, slots := 4, locals := 12 } : Room)).slots #[(.int (2 : Int32))] h0 (Q_own_nbf2 Z  h0 n0) := by
  refine own_enter (plainFor_of_name own_pn2) ?_
  intro p e s m below meth c s₁ X0 hx hZ hby hml hown hnm hlk hret e0
  have N0 := Fr.nil n0
  refine own_cast (own_ef_own_nbf2 m ) ?_
  refine own_by (g' := (mkF m 1 #[iv (2 : Int32)] [(.int (2 : Int32))])) (fun t k => XS.iloadN X0.here hx rfl (hb hby own_d17_0) rfl k) ?_
  refine own_callS X0 hx hZ hown (hw _ (List.mem_of_getElem? (i := 82) rfl)) (hw _ (List.mem_of_getElem? (i := 83) rfl)) (hw _ (List.mem_of_getElem? (i := 22) rfl)) (hw _ (List.mem_of_getElem? (i := 84) rfl)) (by decide) (own_nbl2 l Z a0 hw []  h0 n0 Z0 ) 0 (by decide) (by decide) (by decide) (by decide) e0 (g := (mkF m 1 #[iv (2 : Int32)] [(.int (2 : Int32))])) rfl (by rw [hml]; rfl) (argsL := [(.int (2 : Int32))]) (rest := []) (lenOf own_pd7 rfl) rfl (by show 2 * 0 + _ ≤ _; exact Nat.le_of_eq rfl) (hb hby own_d17_1) ?_
  intro v101 T101 L101 X101 q101
  obtain ⟨rfl, N101q, e101⟩ := q101
  have N101 := Fr.app N0 N101q
  show own_Goes p e below s _ _ _ T101 (mkF m 4 #[iv (2 : Int32)] [(.int (4 : Int32))])
  obtain ⟨T102, h102, k102, X102, e102, E102, A102, Y102, st102⟩ := newPE X101 hx hZ (hw _ (List.mem_of_getElem? (i := 24) rfl)) e101 (g := (mkF m 4 #[iv (2 : Int32)] [(.int (4 : Int32))])) rfl (hb hby own_d17_4) rfl (by decide) (cap := 4) (by decide) (by decide) (by decide) (by decide) (ad := "[B") own_ad_byte
  obtain ⟨b102, g102⟩ : ∃ z, z = h0.size := ⟨_, rfl⟩
  rw [← g102] at A102 Y102 st102
  have sz_b102 : h0.size ≤ b102 := Nat.le_trans (Nat.le_refl _) (Nat.le_of_eq g102.symm)
  have g_b102 : n0 ≤ b102 := Nat.le_trans Z0 sz_b102
  have V102 : Arv Z h102 b102 k102 .byte (4 : Int32) [(.int (0 : Int32)), (.int (0 : Int32)), (.int (0 : Int32)), (.int (0 : Int32))] (.int (0 : Int32)) := (Arv.new A102 (by decide)).pad (pad_rep [] (.int (0 : Int32)) 4)
  refine own_by (g' := (mkF m 6 #[iv (2 : Int32)] [(.ref b102)])) st102 ?_
  refine own_retA X102 hx hlk hret rfl rfl (hb hby own_d17_6) (by decide) (by decide) ?_
  rw [e102]
  exact ⟨b102, k102, rfl, N101, ((Keep.refl h0 []).ext E102), sz_b102, Y102, V102⟩
def Q_own_putc2_0 (Z : State) (r1 : Addr) (k1 : ClassId) (xc : Int32) (ye0 : Value) (ye1 : Value) (ye2 : Value) (ye3 : Value) (h0 : Heap) (n0 : Nat) (v : Option Value) (h : Heap) (L : List Loc) : Prop := v = none ∧ Fr n0 L ∧ Keep h0 h [r1] ∧ Arv Z h r1 k1 .byte (4 : Int32) [(.int ((xc >>> ((0 : Int32) &&& 31))).toInt8.toInt32), (.int ((xc >>> ((8 : Int32) &&& 31))).toInt8.toInt32), ye2, ye3] (.int (0 : Int32))
theorem own_ef_own_putc2_0 (m : MethodId) (r1 : Addr) (xc : Int32) : entryFrame m #[(.ref r1), (.int (0 : Int32)), (.int xc)] 3 = mkF m 0 #[rv r1, iv (0 : Int32), iv xc] [] := by first | (simp [entryFrame, mkF, argsToLocals, Value.category]; done) | rfl
set_option maxRecDepth 65536 in
set_option maxHeartbeats 40000000 in
theorem own_putc2_0 (l : Launch) (Z : State) (a0 : Array Value) (hw : ∀ d ∈ tables_1, d.before a0 Z = true) (ws : List Jvm.Cond) (r1 : Addr) (k1 : ClassId) (xc : Int32) (ye0 : Value) (ye1 : Value) (ye2 : Value) (ye3 : Value) (h0 : Heap) (n0 : Nat) (Z0 : n0 ≤ h0.size) (O0 : Old Z n0 h0) (S_ad : Sta Z Z.heap "java/lang/StringUTF16" "$assertionsDisabled" "Z" (.int (1 : Int32))) (S_hi : Sta Z Z.heap "java/lang/StringUTF16" "HI_BYTE_SHIFT" "I" (.int (0 : Int32))) (S_lo : Sta Z Z.heap "java/lang/StringUTF16" "LO_BYTE_SHIFT" "I" (.int (8 : Int32))) (V1 : Arv Z h0 r1 k1 .byte (4 : Int32) [ye0, ye1, ye2, ye3] (.int (0 : Int32))) (g1 : n0 ≤ r1) :
    own_Ctr l Z (⟨"java/lang/StringUTF16", "putChar", "([BII)V"⟩ : MethodName) jdk_52_method_4_code 3 none ws ({ frames := 0, cells := 0, slots := 0, locals := 0 } : Room) (({ frames := 0, cells := 0, slots := 0, locals := 0 } : Room)).cells (({ frames := 0, cells := 0, slots := 0, locals := 0 } : Room)).slots #[(.ref r1), (.int (0 : Int32)), (.int xc)] h0 (Q_own_putc2_0 Z r1 k1 xc ye0 ye1 ye2 ye3 h0 n0) := by
  refine own_enter (plainFor_of_name own_pn2) ?_
  intro p e s m below meth c s₁ X0 hx hZ hby hml hown hnm hlk hret e0
  have N0 := Fr.nil n0
  refine own_cast (own_ef_own_putc2_0 m r1 xc) ?_
  obtain ⟨T101, X101, e101, st101⟩ := getS2 X0 hx hZ hown (host := "") (Or.inl (hw _ (List.mem_of_getElem? (i := 89) rfl))) Via.refl e0 (S_ad.ext O0.2) (g := (mkF m 0 #[rv r1, iv (0 : Int32), iv xc] [])) rfl (hb hby own_d19_0)
  refine own_by (g' := (mkF m 3 #[rv r1, iv (0 : Int32), iv xc] [(.int (1 : Int32))])) st101 ?_
  refine own_by (g' := (mkF m 31 #[rv r1, iv (0 : Int32), iv xc] [(.int ((0 : Int32) <<< ((1 : Int32) &&& 31)))])) (fun t k => XS.ifYes X101.here hx rfl (pc0 := 3) (pc' := 28) rfl (hb hby own_d19_3) rfl ((if0 _ _).trans (feq (by decide : ¬ ((1 : Int32) = (0 : Int32)))).2) (by decide) (by decide) (XS.iloadN X101.here hx rfl (hb hby own_d19_28) rfl (XS.iconst X101.here hx rfl (hb hby own_d19_29) (XS.ishl X101.here hx rfl (hb hby own_d19_30) rfl k)))) ?_
  have hz : ((0 : Int32) <<< ((1 : Int32) &&& 31)) = (0 : Int32) := by decide
  rw [hz]
  refine own_by (g' := (mkF m 38 #[rv r1, iv (1 : Int32), iv xc] [(.int xc), (.int (0 : Int32)), (.ref r1)])) (fun t k => XS.istoreN X101.here hx rfl (hb hby own_d19_31) rfl (l' := #[rv r1, iv (0 : Int32), iv xc]) rfl (XS.aloadN X101.here hx rfl (hb hby own_d19_32) rfl rfl (XS.iloadN X101.here hx rfl (hb hby own_d19_33) rfl (XS.iinc X101.here hx rfl (hb hby own_d19_34) rfl (l' := #[rv r1, iv (1 : Int32), iv xc]) rfl (XS.iloadN X101.here hx rfl (hb hby own_d19_37) rfl k))))) ?_
  obtain ⟨T102, X102, e102, st102⟩ := getS2 X101 hx hZ hown (host := "") (Or.inl (hw _ (List.mem_of_getElem? (i := 90) rfl))) Via.refl e101 (S_hi.ext O0.2) (g := (mkF m 38 #[rv r1, iv (1 : Int32), iv xc] [(.int xc), (.int (0 : Int32)), (.ref r1)])) rfl (hb hby own_d19_38)
  refine own_by (g' := (mkF m 41 #[rv r1, iv (1 : Int32), iv xc] [(.int (0 : Int32)), (.int xc), (.int (0 : Int32)), (.ref r1)])) st102 ?_
  refine own_by (g' := (mkF m 43 #[rv r1, iv (1 : Int32), iv xc] [(.int ((xc >>> ((0 : Int32) &&& 31))).toInt8.toInt32), (.int (0 : Int32)), (.ref r1)])) (fun t k => XS.ishr X102.here hx rfl (hb hby own_d19_41) rfl (XS.i2b X102.here hx rfl (hb hby own_d19_42) rfl k)) ?_
  obtain ⟨c103, Ar103, q103, S103, G103, H103, F103⟩ := id V1
  have hin103 : ¬ ((0 : Int32) < 0 ∨ c103.slots.size ≤ ((0 : Int32)).toNatClampNeg) := inb_of S103 ⟨by decide, by decide⟩
  obtain ⟨T103, h103, X103, e103, W103, st103⟩ := stB X102 hx hZ e102 Ar103 (j := (0 : Int32)) hin103 (g := (mkF m 43 #[rv r1, iv (1 : Int32), iv xc] [(.int ((xc >>> ((0 : Int32) &&& 31))).toInt8.toInt32), (.int (0 : Int32)), (.ref r1)])) rfl rfl (hb hby own_d19_43)
  have V104 : Arv Z h103 r1 k1 .byte (4 : Int32) [(.int ((xc >>> ((0 : Int32) &&& 31))).toInt8.toInt32), ye1, ye2, ye3] (.int (0 : Int32)) := Arv.set Ar103 q103 S103 G103 H103 F103 (fits_nar_byte _) (own_wr W103 (congrArg Value.int (own_b8 _))) 0 rfl (Nat.le_of_ble_eq_true rfl)
  have N103 := Fr.snoc X103 N0 g1
  refine own_by (g' := (mkF m 44 #[rv r1, iv (1 : Int32), iv xc] [])) st103 ?_
  refine own_by (g' := (mkF m 47 #[rv r1, iv (1 : Int32), iv xc] [(.int xc), (.int (1 : Int32)), (.ref r1)])) (fun t k => XS.aloadN X103.here hx rfl (hb hby own_d19_44) rfl rfl (XS.iloadN X103.here hx rfl (hb hby own_d19_45) rfl (XS.iloadN X103.here hx rfl (hb hby own_d19_46) rfl k))) ?_
  have f105 := (O0.wr W103 g1)
  obtain ⟨T106, X106, e106, st106⟩ := getS2 X103 hx hZ hown (host := "") (Or.inl (hw _ (List.mem_of_getElem? (i := 91) rfl))) Via.refl e103 (S_lo.ext f105.2) (g := (mkF m 47 #[rv r1, iv (1 : Int32), iv xc] [(.int xc), (.int (1 : Int32)), (.ref r1)])) rfl (hb hby own_d19_47)
  refine own_by (g' := (mkF m 50 #[rv r1, iv (1 : Int32), iv xc] [(.int (8 : Int32)), (.int xc), (.int (1 : Int32)), (.ref r1)])) st106 ?_
  refine own_by (g' := (mkF m 52 #[rv r1, iv (1 : Int32), iv xc] [(.int ((xc >>> ((8 : Int32) &&& 31))).toInt8.toInt32), (.int (1 : Int32)), (.ref r1)])) (fun t k => XS.ishr X106.here hx rfl (hb hby own_d19_50) rfl (XS.i2b X106.here hx rfl (hb hby own_d19_51) rfl k)) ?_
  obtain ⟨c107, Ar107, q107, S107, G107, H107, F107⟩ := id V104
  have hin107 : ¬ ((1 : Int32) < 0 ∨ c107.slots.size ≤ ((1 : Int32)).toNatClampNeg) := inb_of S107 ⟨by decide, by decide⟩
  obtain ⟨T107, h107, X107, e107, W107, st107⟩ := stB X106 hx hZ e106 Ar107 (j := (1 : Int32)) hin107 (g := (mkF m 52 #[rv r1, iv (1 : Int32), iv xc] [(.int ((xc >>> ((8 : Int32) &&& 31))).toInt8.toInt32), (.int (1 : Int32)), (.ref r1)])) rfl rfl (hb hby own_d19_52)
  have V108 : Arv Z h107 r1 k1 .byte (4 : Int32) [(.int ((xc >>> ((0 : Int32) &&& 31))).toInt8.toInt32), (.int ((xc >>> ((8 : Int32) &&& 31))).toInt8.toInt32), ye2, ye3] (.int (0 : Int32)) := Arv.set Ar107 q107 S107 G107 H107 F107 (fits_nar_byte _) (own_wr W107 (congrArg Value.int (own_b8 _))) 1 rfl (Nat.le_of_ble_eq_true rfl)
  have N107 := Fr.snoc X107 N103 g1
  refine own_by (g' := (mkF m 53 #[rv r1, iv (1 : Int32), iv xc] [])) st107 ?_
  refine own_retV X107 hx hlk hret (hb hby own_d19_53) (by decide) (by decide) ?_
  rw [e107]
  exact ⟨rfl, N107, (((Keep.refl h0 [r1]).wr W103 (Or.inl (List.mem_of_getElem? (i := 0) rfl))).wr W107 (Or.inl (List.mem_of_getElem? (i := 0) rfl))), V108⟩
def Q_own_putc2_1 (Z : State) (r1 : Addr) (k1 : ClassId) (xc : Int32) (ye0 : Value) (ye1 : Value) (ye2 : Value) (ye3 : Value) (h0 : Heap) (n0 : Nat) (v : Option Value) (h : Heap) (L : List Loc) : Prop := v = none ∧ Fr n0 L ∧ Keep h0 h [r1] ∧ Arv Z h r1 k1 .byte (4 : Int32) [ye0, ye1, (.int ((xc >>> ((0 : Int32) &&& 31))).toInt8.toInt32), (.int ((xc >>> ((8 : Int32) &&& 31))).toInt8.toInt32)] (.int (0 : Int32))
theorem own_ef_own_putc2_1 (m : MethodId) (r1 : Addr) (xc : Int32) : entryFrame m #[(.ref r1), (.int (1 : Int32)), (.int xc)] 3 = mkF m 0 #[rv r1, iv (1 : Int32), iv xc] [] := by first | (simp [entryFrame, mkF, argsToLocals, Value.category]; done) | rfl
set_option maxRecDepth 65536 in
set_option maxHeartbeats 40000000 in
theorem own_putc2_1 (l : Launch) (Z : State) (a0 : Array Value) (hw : ∀ d ∈ tables_1, d.before a0 Z = true) (ws : List Jvm.Cond) (r1 : Addr) (k1 : ClassId) (xc : Int32) (ye0 : Value) (ye1 : Value) (ye2 : Value) (ye3 : Value) (h0 : Heap) (n0 : Nat) (Z0 : n0 ≤ h0.size) (O0 : Old Z n0 h0) (S_ad : Sta Z Z.heap "java/lang/StringUTF16" "$assertionsDisabled" "Z" (.int (1 : Int32))) (S_hi : Sta Z Z.heap "java/lang/StringUTF16" "HI_BYTE_SHIFT" "I" (.int (0 : Int32))) (S_lo : Sta Z Z.heap "java/lang/StringUTF16" "LO_BYTE_SHIFT" "I" (.int (8 : Int32))) (V1 : Arv Z h0 r1 k1 .byte (4 : Int32) [ye0, ye1, ye2, ye3] (.int (0 : Int32))) (g1 : n0 ≤ r1) :
    own_Ctr l Z (⟨"java/lang/StringUTF16", "putChar", "([BII)V"⟩ : MethodName) jdk_52_method_4_code 3 none ws ({ frames := 0, cells := 0, slots := 0, locals := 0 } : Room) (({ frames := 0, cells := 0, slots := 0, locals := 0 } : Room)).cells (({ frames := 0, cells := 0, slots := 0, locals := 0 } : Room)).slots #[(.ref r1), (.int (1 : Int32)), (.int xc)] h0 (Q_own_putc2_1 Z r1 k1 xc ye0 ye1 ye2 ye3 h0 n0) := by
  refine own_enter (plainFor_of_name own_pn2) ?_
  intro p e s m below meth c s₁ X0 hx hZ hby hml hown hnm hlk hret e0
  have N0 := Fr.nil n0
  refine own_cast (own_ef_own_putc2_1 m r1 xc) ?_
  obtain ⟨T101, X101, e101, st101⟩ := getS2 X0 hx hZ hown (host := "") (Or.inl (hw _ (List.mem_of_getElem? (i := 89) rfl))) Via.refl e0 (S_ad.ext O0.2) (g := (mkF m 0 #[rv r1, iv (1 : Int32), iv xc] [])) rfl (hb hby own_d19_0)
  refine own_by (g' := (mkF m 3 #[rv r1, iv (1 : Int32), iv xc] [(.int (1 : Int32))])) st101 ?_
  refine own_by (g' := (mkF m 31 #[rv r1, iv (1 : Int32), iv xc] [(.int ((1 : Int32) <<< ((1 : Int32) &&& 31)))])) (fun t k => XS.ifYes X101.here hx rfl (pc0 := 3) (pc' := 28) rfl (hb hby own_d19_3) rfl ((if0 _ _).trans (feq (by decide : ¬ ((1 : Int32) = (0 : Int32)))).2) (by decide) (by decide) (XS.iloadN X101.here hx rfl (hb hby own_d19_28) rfl (XS.iconst X101.here hx rfl (hb hby own_d19_29) (XS.ishl X101.here hx rfl (hb hby own_d19_30) rfl k)))) ?_
  have hz : ((1 : Int32) <<< ((1 : Int32) &&& 31)) = (2 : Int32) := by decide
  rw [hz]
  refine own_by (g' := (mkF m 38 #[rv r1, iv (3 : Int32), iv xc] [(.int xc), (.int (2 : Int32)), (.ref r1)])) (fun t k => XS.istoreN X101.here hx rfl (hb hby own_d19_31) rfl (l' := #[rv r1, iv (2 : Int32), iv xc]) rfl (XS.aloadN X101.here hx rfl (hb hby own_d19_32) rfl rfl (XS.iloadN X101.here hx rfl (hb hby own_d19_33) rfl (XS.iinc X101.here hx rfl (hb hby own_d19_34) rfl (l' := #[rv r1, iv (3 : Int32), iv xc]) rfl (XS.iloadN X101.here hx rfl (hb hby own_d19_37) rfl k))))) ?_
  obtain ⟨T102, X102, e102, st102⟩ := getS2 X101 hx hZ hown (host := "") (Or.inl (hw _ (List.mem_of_getElem? (i := 90) rfl))) Via.refl e101 (S_hi.ext O0.2) (g := (mkF m 38 #[rv r1, iv (3 : Int32), iv xc] [(.int xc), (.int (2 : Int32)), (.ref r1)])) rfl (hb hby own_d19_38)
  refine own_by (g' := (mkF m 41 #[rv r1, iv (3 : Int32), iv xc] [(.int (0 : Int32)), (.int xc), (.int (2 : Int32)), (.ref r1)])) st102 ?_
  refine own_by (g' := (mkF m 43 #[rv r1, iv (3 : Int32), iv xc] [(.int ((xc >>> ((0 : Int32) &&& 31))).toInt8.toInt32), (.int (2 : Int32)), (.ref r1)])) (fun t k => XS.ishr X102.here hx rfl (hb hby own_d19_41) rfl (XS.i2b X102.here hx rfl (hb hby own_d19_42) rfl k)) ?_
  obtain ⟨c103, Ar103, q103, S103, G103, H103, F103⟩ := id V1
  have hin103 : ¬ ((2 : Int32) < 0 ∨ c103.slots.size ≤ ((2 : Int32)).toNatClampNeg) := inb_of S103 ⟨by decide, by decide⟩
  obtain ⟨T103, h103, X103, e103, W103, st103⟩ := stB X102 hx hZ e102 Ar103 (j := (2 : Int32)) hin103 (g := (mkF m 43 #[rv r1, iv (3 : Int32), iv xc] [(.int ((xc >>> ((0 : Int32) &&& 31))).toInt8.toInt32), (.int (2 : Int32)), (.ref r1)])) rfl rfl (hb hby own_d19_43)
  have V104 : Arv Z h103 r1 k1 .byte (4 : Int32) [ye0, ye1, (.int ((xc >>> ((0 : Int32) &&& 31))).toInt8.toInt32), ye3] (.int (0 : Int32)) := Arv.set Ar103 q103 S103 G103 H103 F103 (fits_nar_byte _) (own_wr W103 (congrArg Value.int (own_b8 _))) 2 rfl (Nat.le_of_ble_eq_true rfl)
  have N103 := Fr.snoc X103 N0 g1
  refine own_by (g' := (mkF m 44 #[rv r1, iv (3 : Int32), iv xc] [])) st103 ?_
  refine own_by (g' := (mkF m 47 #[rv r1, iv (3 : Int32), iv xc] [(.int xc), (.int (3 : Int32)), (.ref r1)])) (fun t k => XS.aloadN X103.here hx rfl (hb hby own_d19_44) rfl rfl (XS.iloadN X103.here hx rfl (hb hby own_d19_45) rfl (XS.iloadN X103.here hx rfl (hb hby own_d19_46) rfl k))) ?_
  have f105 := (O0.wr W103 g1)
  obtain ⟨T106, X106, e106, st106⟩ := getS2 X103 hx hZ hown (host := "") (Or.inl (hw _ (List.mem_of_getElem? (i := 91) rfl))) Via.refl e103 (S_lo.ext f105.2) (g := (mkF m 47 #[rv r1, iv (3 : Int32), iv xc] [(.int xc), (.int (3 : Int32)), (.ref r1)])) rfl (hb hby own_d19_47)
  refine own_by (g' := (mkF m 50 #[rv r1, iv (3 : Int32), iv xc] [(.int (8 : Int32)), (.int xc), (.int (3 : Int32)), (.ref r1)])) st106 ?_
  refine own_by (g' := (mkF m 52 #[rv r1, iv (3 : Int32), iv xc] [(.int ((xc >>> ((8 : Int32) &&& 31))).toInt8.toInt32), (.int (3 : Int32)), (.ref r1)])) (fun t k => XS.ishr X106.here hx rfl (hb hby own_d19_50) rfl (XS.i2b X106.here hx rfl (hb hby own_d19_51) rfl k)) ?_
  obtain ⟨c107, Ar107, q107, S107, G107, H107, F107⟩ := id V104
  have hin107 : ¬ ((3 : Int32) < 0 ∨ c107.slots.size ≤ ((3 : Int32)).toNatClampNeg) := inb_of S107 ⟨by decide, by decide⟩
  obtain ⟨T107, h107, X107, e107, W107, st107⟩ := stB X106 hx hZ e106 Ar107 (j := (3 : Int32)) hin107 (g := (mkF m 52 #[rv r1, iv (3 : Int32), iv xc] [(.int ((xc >>> ((8 : Int32) &&& 31))).toInt8.toInt32), (.int (3 : Int32)), (.ref r1)])) rfl rfl (hb hby own_d19_52)
  have V108 : Arv Z h107 r1 k1 .byte (4 : Int32) [ye0, ye1, (.int ((xc >>> ((0 : Int32) &&& 31))).toInt8.toInt32), (.int ((xc >>> ((8 : Int32) &&& 31))).toInt8.toInt32)] (.int (0 : Int32)) := Arv.set Ar107 q107 S107 G107 H107 F107 (fits_nar_byte _) (own_wr W107 (congrArg Value.int (own_b8 _))) 3 rfl (Nat.le_of_ble_eq_true rfl)
  have N107 := Fr.snoc X107 N103 g1
  refine own_by (g' := (mkF m 53 #[rv r1, iv (3 : Int32), iv xc] [])) st107 ?_
  refine own_retV X107 hx hlk hret (hb hby own_d19_53) (by decide) (by decide) ?_
  rw [e107]
  exact ⟨rfl, N107, (((Keep.refl h0 [r1]).wr W103 (Or.inl (List.mem_of_getElem? (i := 0) rfl))).wr W107 (Or.inl (List.mem_of_getElem? (i := 0) rfl))), V108⟩
def Q_own_tob2 (Z : State) (r1 : Addr) (k1 : ClassId) (x0 : Int32) (x1 : Int32) (h0 : Heap) (n0 : Nat) (v : Option Value) (h : Heap) (L : List Loc) : Prop := ∃ (bo : Addr), ∃ (kb : ClassId), v = some (.ref bo) ∧ Fr n0 L ∧ Keep h0 h [] ∧ h0.size ≤ bo ∧ Exa Z h bo "[B" ∧ Arv Z h bo kb .byte (4 : Int32) [(.int ((x0 >>> ((0 : Int32) &&& 31))).toInt8.toInt32), (.int ((x0 >>> ((8 : Int32) &&& 31))).toInt8.toInt32), (.int ((x1 >>> ((0 : Int32) &&& 31))).toInt8.toInt32), (.int ((x1 >>> ((8 : Int32) &&& 31))).toInt8.toInt32)] (.int (0 : Int32))
theorem own_ef_own_tob2 (m : MethodId) (r1 : Addr) : entryFrame m #[(.ref r1), (.int (0 : Int32)), (.int (2 : Int32))] 5 = mkF m 0 #[rv r1, iv (0 : Int32), iv (2 : Int32), .unset, .unset] [] := by first | (simp [entryFrame, mkF, argsToLocals, Value.category]; done) | rfl
set_option maxRecDepth 65536 in
set_option maxHeartbeats 40000000 in
theorem own_tob2 (l : Launch) (Z : State) (a0 : Array Value) (hw : ∀ d ∈ tables_1, d.before a0 Z = true) (ws : List Jvm.Cond) (r1 : Addr) (k1 : ClassId) (x0 : Int32) (x1 : Int32) (h0 : Heap) (n0 : Nat) (Z0 : n0 ≤ h0.size) (O0 : Old Z n0 h0) (S_ad : Sta Z Z.heap "java/lang/StringUTF16" "$assertionsDisabled" "Z" (.int (1 : Int32))) (S_hi : Sta Z Z.heap "java/lang/StringUTF16" "HI_BYTE_SHIFT" "I" (.int (0 : Int32))) (S_lo : Sta Z Z.heap "java/lang/StringUTF16" "LO_BYTE_SHIFT" "I" (.int (8 : Int32))) (V1 : Arv Z h0 r1 k1 .char (2 : Int32) [(.int x0), (.int x1)] (.int (0 : Int32))) :
    own_Ctr l Z (⟨"java/lang/StringUTF16", "toBytes", "([CII)[B"⟩ : MethodName) jdk_52_method_14_code 5 (some (.array .byte)) ws ({ frames := 2, cells := 1, slots := 4, locals := 24 } : Room) (({ frames := 2, cells := 1, slots := 4, locals := 24 } : Room)).cells (({ frames := 2, cells := 1, slots := 4, locals := 24 } : Room)).slots #[(.ref r1), (.int (0 : Int32)), (.int (2 : Int32))] h0 (Q_own_tob2 Z r1 k1 x0 x1 h0 n0) := by
  refine own_enter (plainFor_of_name own_pn2) ?_
  intro p e s m below meth c s₁ X0 hx hZ hby hml hown hnm hlk hret e0
  have N0 := Fr.nil n0
  refine own_cast (own_ef_own_tob2 m r1) ?_
  refine own_by (g' := (mkF m 1 #[rv r1, iv (0 : Int32), iv (2 : Int32), .unset, .unset] [(.int (2 : Int32))])) (fun t k => XS.iloadN X0.here hx rfl (hb hby own_d16_0) rfl k) ?_
  refine own_callS X0 hx hZ hown (hw _ (List.mem_of_getElem? (i := 79) rfl)) (hw _ (List.mem_of_getElem? (i := 80) rfl)) (hw _ (List.mem_of_getElem? (i := 22) rfl)) (hw _ (List.mem_of_getElem? (i := 81) rfl)) (by decide) (own_nbf2 l Z a0 hw []  h0 n0 Z0 ) 0 (by decide) (by decide) (by decide) (by decide) e0 (g := (mkF m 1 #[rv r1, iv (0 : Int32), iv (2 : Int32), .unset, .unset] [(.int (2 : Int32))])) rfl (by rw [hml]; rfl) (argsL := [(.int (2 : Int32))]) (rest := []) (lenOf own_pd8 rfl) rfl (by show 2 * 0 + _ ≤ _; exact Nat.le_of_eq rfl) (hb hby own_d16_1) ?_
  intro v101 T101 L101 X101 q101
  obtain ⟨bo101, kb101, rfl, N101q, K101, f102, f103, f104⟩ := q101
  have N101 := Fr.app N0 N101q
  show own_Goes p e below s _ _ _ T101 (mkF m 4 #[rv r1, iv (0 : Int32), iv (2 : Int32), .unset, .unset] [(.ref bo101)])
  refine own_by (g' := (mkF m 17 #[rv r1, iv (0 : Int32), iv (2 : Int32), rv bo101, iv (0 : Int32)] [(.int (0 : Int32)), (.ref bo101)])) (fun t k => XS.astoreN X101.here hx rfl (hb hby own_d16_4) rfl rfl (l' := #[rv r1, iv (0 : Int32), iv (2 : Int32), rv bo101, .unset]) rfl (XS.iconst X101.here hx rfl (hb hby own_d16_5) (XS.istore X101.here hx rfl (hb hby own_d16_6) rfl (l' := #[rv r1, iv (0 : Int32), iv (2 : Int32), rv bo101, iv (0 : Int32)]) rfl (XS.iload X101.here hx rfl (hb hby own_d16_8) rfl (XS.iloadN X101.here hx rfl (hb hby own_d16_10) rfl (XS.icmpNo X101.here hx rfl (hb hby own_d16_11) rfl (tlt (by decide : (0 : Int32) < (2 : Int32))).2.1 (XS.aloadN X101.here hx rfl (hb hby own_d16_14) rfl rfl (XS.iload X101.here hx rfl (hb hby own_d16_15) rfl k)))))))) ?_
  refine own_by (g' := (mkF m 19 #[rv r1, iv (0 : Int32), iv (2 : Int32), rv bo101, iv (0 : Int32)] [(.int (0 : Int32)), (.ref r1), (.int (0 : Int32)), (.ref bo101)])) (fun t k => XS.aloadN X101.here hx rfl (hb hby own_d16_17) rfl rfl (XS.iloadN X101.here hx rfl (hb hby own_d16_18) rfl k)) ?_
  have f105 := (V1.keep K101 nin0)
  obtain ⟨c106, Ar106, q106, S106, G106, H106, F106⟩ := id f105
  have hin106 : ¬ ((0 : Int32) < 0 ∨ c106.slots.size ≤ ((0 : Int32)).toNatClampNeg) := inb_of S106 ⟨by decide, by decide⟩
  have hat106 : c106.slots[((0 : Int32)).toNatClampNeg]? = some (.int x0) := H106.at hin106 rfl
  refine own_by (g' := (mkF m 20 #[rv r1, iv (0 : Int32), iv (2 : Int32), rv bo101, iv (0 : Int32)] [(.int x0), (.int (0 : Int32)), (.ref bo101)])) (fun t k => X101.caload hx (j := (0 : Int32)) (v := (.int x0)) (own_at_ rfl Ar106.1) (State.isArrayOf_alike hZ.alike Ar106.2.1) Ar106.2.2 hin106 hat106 (g := (mkF m 19 #[rv r1, iv (0 : Int32), iv (2 : Int32), rv bo101, iv (0 : Int32)] [(.int (0 : Int32)), (.ref r1), (.int (0 : Int32)), (.ref bo101)])) rfl rfl (hb hby own_d16_19) t k) ?_
  have f107 := (O0.keep K101 all0)
  refine own_callS X101 hx hZ hown (hw _ (List.mem_of_getElem? (i := 86) rfl)) (hw _ (List.mem_of_getElem? (i := 87) rfl)) (hw _ (List.mem_of_getElem? (i := 22) rfl)) (hw _ (List.mem_of_getElem? (i := 88) rfl)) (by decide) (own_putc2_0 l Z a0 hw [] (bo101) (kb101) (x0) ((.int (0 : Int32))) ((.int (0 : Int32))) ((.int (0 : Int32))) ((.int (0 : Int32))) T101.heap n0 (Nat.le_trans Z0 K101.1) f107 S_ad S_hi S_lo f104 (Nat.le_trans Z0 f102)) 0 (by decide) (by decide) (by decide) (by decide) rfl (g := (mkF m 20 #[rv r1, iv (0 : Int32), iv (2 : Int32), rv bo101, iv (0 : Int32)] [(.int x0), (.int (0 : Int32)), (.ref bo101)])) rfl (by rw [hml]; rfl) (argsL := [(.ref bo101), (.int (0 : Int32)), (.int x0)]) (rest := []) (lenOf own_pd9 rfl) rfl (by show 2 * 0 + _ ≤ _; exact Nat.le_of_eq rfl) (hb hby own_d16_20) ?_
  intro v108 T108 L108 X108 q108
  obtain ⟨rfl, N108q, K108, f109⟩ := q108
  have N108 := Fr.app N101 N108q
  show own_Goes p e below s _ _ _ T108 (mkF m 23 #[rv r1, iv (0 : Int32), iv (2 : Int32), rv bo101, iv (0 : Int32)] [])
  refine own_by (g' := (mkF m 17 #[rv r1, iv (1 : Int32), iv (2 : Int32), rv bo101, iv (1 : Int32)] [(.int (1 : Int32)), (.ref bo101)])) (fun t k => XS.iinc X108.here hx rfl (hb hby own_d16_23) rfl (l' := #[rv r1, iv (1 : Int32), iv (2 : Int32), rv bo101, iv (0 : Int32)]) rfl (XS.iinc X108.here hx rfl (hb hby own_d16_26) rfl (l' := #[rv r1, iv (1 : Int32), iv (2 : Int32), rv bo101, iv (1 : Int32)]) rfl (XS.goto X108.here hx rfl (pc0 := 29) (pc' := 8) rfl (hb hby own_d16_29) (by decide) (by decide) (XS.iload X108.here hx rfl (hb hby own_d16_8) rfl (XS.iloadN X108.here hx rfl (hb hby own_d16_10) rfl (XS.icmpNo X108.here hx rfl (hb hby own_d16_11) rfl (tlt (by decide : (1 : Int32) < (2 : Int32))).2.1 (XS.aloadN X108.here hx rfl (hb hby own_d16_14) rfl rfl (XS.iload X108.here hx rfl (hb hby own_d16_15) rfl k)))))))) ?_
  refine own_by (g' := (mkF m 19 #[rv r1, iv (1 : Int32), iv (2 : Int32), rv bo101, iv (1 : Int32)] [(.int (1 : Int32)), (.ref r1), (.int (1 : Int32)), (.ref bo101)])) (fun t k => XS.aloadN X108.here hx rfl (hb hby own_d16_17) rfl rfl (XS.iloadN X108.here hx rfl (hb hby own_d16_18) rfl k)) ?_
  have f110 := (f105.keep K108 (ninS (Nat.ne_of_lt (Nat.lt_of_lt_of_le (Nat.lt_of_lt_of_le V1.lt (Nat.le_refl _)) f102)) nin0))
  obtain ⟨c111, Ar111, q111, S111, G111, H111, F111⟩ := id f110
  have hin111 : ¬ ((1 : Int32) < 0 ∨ c111.slots.size ≤ ((1 : Int32)).toNatClampNeg) := inb_of S111 ⟨by decide, by decide⟩
  have hat111 : c111.slots[((1 : Int32)).toNatClampNeg]? = some (.int x1) := H111.at hin111 rfl
  refine own_by (g' := (mkF m 20 #[rv r1, iv (1 : Int32), iv (2 : Int32), rv bo101, iv (1 : Int32)] [(.int x1), (.int (1 : Int32)), (.ref bo101)])) (fun t k => X108.caload hx (j := (1 : Int32)) (v := (.int x1)) (own_at_ rfl Ar111.1) (State.isArrayOf_alike hZ.alike Ar111.2.1) Ar111.2.2 hin111 hat111 (g := (mkF m 19 #[rv r1, iv (1 : Int32), iv (2 : Int32), rv bo101, iv (1 : Int32)] [(.int (1 : Int32)), (.ref r1), (.int (1 : Int32)), (.ref bo101)])) rfl rfl (hb hby own_d16_19) t k) ?_
  have f112 := (f107.keep K108 (allS (Nat.le_trans Z0 f102) all0))
  refine own_callS X108 hx hZ hown (hw _ (List.mem_of_getElem? (i := 86) rfl)) (hw _ (List.mem_of_getElem? (i := 87) rfl)) (hw _ (List.mem_of_getElem? (i := 22) rfl)) (hw _ (List.mem_of_getElem? (i := 88) rfl)) (by decide) (own_putc2_1 l Z a0 hw [] (bo101) (kb101) (x1) ((.int ((x0 >>> ((0 : Int32) &&& 31))).toInt8.toInt32)) ((.int ((x0 >>> ((8 : Int32) &&& 31))).toInt8.toInt32)) ((.int (0 : Int32))) ((.int (0 : Int32))) T108.heap n0 (Nat.le_trans Z0 (Nat.le_trans K101.1 K108.1)) f112 S_ad S_hi S_lo f109 (Nat.le_trans Z0 f102)) 0 (by decide) (by decide) (by decide) (by decide) rfl (g := (mkF m 20 #[rv r1, iv (1 : Int32), iv (2 : Int32), rv bo101, iv (1 : Int32)] [(.int x1), (.int (1 : Int32)), (.ref bo101)])) rfl (by rw [hml]; rfl) (argsL := [(.ref bo101), (.int (1 : Int32)), (.int x1)]) (rest := []) (lenOf own_pd9 rfl) rfl (by show 2 * 0 + _ ≤ _; exact Nat.le_of_eq rfl) (hb hby own_d16_20) ?_
  intro v113 T113 L113 X113 q113
  obtain ⟨rfl, N113q, K113, f114⟩ := q113
  have N113 := Fr.app N108 N113q
  show own_Goes p e below s _ _ _ T113 (mkF m 23 #[rv r1, iv (1 : Int32), iv (2 : Int32), rv bo101, iv (1 : Int32)] [])
  refine own_by (g' := (mkF m 33 #[rv r1, iv (2 : Int32), iv (2 : Int32), rv bo101, iv (2 : Int32)] [(.ref bo101)])) (fun t k => XS.iinc X113.here hx rfl (hb hby own_d16_23) rfl (l' := #[rv r1, iv (2 : Int32), iv (2 : Int32), rv bo101, iv (1 : Int32)]) rfl (XS.iinc X113.here hx rfl (hb hby own_d16_26) rfl (l' := #[rv r1, iv (2 : Int32), iv (2 : Int32), rv bo101, iv (2 : Int32)]) rfl (XS.goto X113.here hx rfl (pc0 := 29) (pc' := 8) rfl (hb hby own_d16_29) (by decide) (by decide) (XS.iload X113.here hx rfl (hb hby own_d16_8) rfl (XS.iloadN X113.here hx rfl (hb hby own_d16_10) rfl (XS.icmpYes X113.here hx rfl (pc0 := 11) (pc' := 32) rfl (hb hby own_d16_11) rfl (flt (by decide : ¬ ((2 : Int32) < (2 : Int32)))).2.1 (by decide) (by decide) (XS.aloadN X113.here hx rfl (hb hby own_d16_32) rfl rfl k))))))) ?_
  have f115 := ((f103.keep K108).keep K113)
  refine own_retA X113 hx hlk hret rfl rfl (hb hby own_d16_33) (by decide) (by decide) ?_
  exact ⟨bo101, kb101, rfl, N113, ((((Keep.refl h0 []).trans K101 all0).trans K108 (allS (Or.inr (Nat.le_trans (Nat.le_refl _) f102)) all0)).trans K113 (allS (Or.inr (Nat.le_trans (Nat.le_refl _) f102)) all0)), (Nat.le_trans (Nat.le_refl _) f102), f115, f114⟩
def Q_own_com5_2 (Z : State) (r1 : Addr) (r2 : Addr) (k1 : ClassId) (k2 : ClassId) (x0 : Int32) (x1 : Int32) (h0 : Heap) (n0 : Nat) (v : Option Value) (h : Heap) (L : List Loc) : Prop := ∃ (cnt : Int32), ∃ (vs : List Value), v = some (.int cnt) ∧ Fr n0 L ∧ Keep h0 h [r2] ∧ Arv Z h r2 k2 .byte (2 : Int32) vs (.int (0 : Int32)) ∧ ((cnt = (2 : Int32) ∧ vs = [(.int (x0).toInt8.toInt32), (.int (x1).toInt8.toInt32)] ∧ ¬ ((255 : Int32) < x0) ∧ ¬ ((255 : Int32) < x1)) ∨ (cnt = (0 : Int32) ∧ (255 : Int32) < x0) ∨ (cnt = (1 : Int32) ∧ (255 : Int32) < x1))
theorem own_ef_own_com5_2 (m : MethodId) (r1 : Addr) (r2 : Addr) : entryFrame m #[(.ref r1), (.int (0 : Int32)), (.ref r2), (.int (0 : Int32)), (.int (2 : Int32))] 7 = mkF m 0 #[rv r1, iv (0 : Int32), rv r2, iv (0 : Int32), iv (2 : Int32), .unset, .unset] [] := by first | (simp [entryFrame, mkF, argsToLocals, Value.category]; done) | rfl
set_option maxRecDepth 65536 in
set_option maxHeartbeats 40000000 in
theorem own_com5_2 (l : Launch) (Z : State) (a0 : Array Value) (hw : ∀ d ∈ tables_1, d.before a0 Z = true) (ws : List Jvm.Cond) (r1 : Addr) (r2 : Addr) (k1 : ClassId) (k2 : ClassId) (x0 : Int32) (x1 : Int32) (h0 : Heap) (n0 : Nat) (Z0 : n0 ≤ h0.size) (V1 : Arv Z h0 r1 k1 .char (2 : Int32) [(.int x0), (.int x1)] (.int (0 : Int32))) (V2 : Arv Z h0 r2 k2 .byte (2 : Int32) [(.int (0 : Int32)), (.int (0 : Int32))] (.int (0 : Int32))) (g2 : n0 ≤ r2) (n12 : r1 ≠ r2) :
    own_Ctr l Z (⟨"java/lang/StringUTF16", "compress", "([CI[BII)I"⟩ : MethodName) jdk_52_method_21_code 7 (some .int) ws ({ frames := 0, cells := 0, slots := 0, locals := 0 } : Room) (({ frames := 0, cells := 0, slots := 0, locals := 0 } : Room)).cells (({ frames := 0, cells := 0, slots := 0, locals := 0 } : Room)).slots #[(.ref r1), (.int (0 : Int32)), (.ref r2), (.int (0 : Int32)), (.int (2 : Int32))] h0 (Q_own_com5_2 Z r1 r2 k1 k2 x0 x1 h0 n0) := by
  refine own_enter (plainFor_of_name own_pn2) ?_
  intro p e s m below meth c s₁ X0 hx hZ hby hml hown hnm hlk hret e0
  have N0 := Fr.nil n0
  refine own_cast (own_ef_own_com5_2 m r1 r2) ?_
  refine own_by (g' := (mkF m 12 #[rv r1, iv (0 : Int32), rv r2, iv (0 : Int32), iv (2 : Int32), iv (0 : Int32), .unset] [(.int (0 : Int32)), (.ref r1)])) (fun t k => XS.iconst X0.here hx rfl (hb hby own_d6_0) (XS.istore X0.here hx rfl (hb hby own_d6_1) rfl (l' := #[rv r1, iv (0 : Int32), rv r2, iv (0 : Int32), iv (2 : Int32), iv (0 : Int32), .unset]) rfl (XS.iload X0.here hx rfl (hb hby own_d6_3) rfl (XS.iload X0.here hx rfl (hb hby own_d6_5) rfl (XS.icmpNo X0.here hx rfl (hb hby own_d6_7) rfl (tlt (by decide : (0 : Int32) < (2 : Int32))).2.1 (XS.aloadN X0.here hx rfl (hb hby own_d6_10) rfl rfl (XS.iloadN X0.here hx rfl (hb hby own_d6_11) rfl k))))))) ?_
  obtain ⟨c101, Ar101, q101, S101, G101, H101, F101⟩ := id V1
  have hin101 : ¬ ((0 : Int32) < 0 ∨ c101.slots.size ≤ ((0 : Int32)).toNatClampNeg) := inb_of S101 ⟨by decide, by decide⟩
  have hat101 : c101.slots[((0 : Int32)).toNatClampNeg]? = some (.int x0) := H101.at hin101 rfl
  refine own_by (g' := (mkF m 20 #[rv r1, iv (0 : Int32), rv r2, iv (0 : Int32), iv (2 : Int32), iv (0 : Int32), iv x0] [(.int (255 : Int32)), (.int x0)])) (fun t k => X0.caload hx (j := (0 : Int32)) (v := (.int x0)) (own_at_ e0 Ar101.1) (State.isArrayOf_alike hZ.alike Ar101.2.1) Ar101.2.2 hin101 hat101 (g := (mkF m 12 #[rv r1, iv (0 : Int32), rv r2, iv (0 : Int32), iv (2 : Int32), iv (0 : Int32), .unset] [(.int (0 : Int32)), (.ref r1)])) rfl rfl (hb hby own_d6_12) t (XS.istore X0.here hx rfl (hb hby own_d6_13) rfl (l' := #[rv r1, iv (0 : Int32), rv r2, iv (0 : Int32), iv (2 : Int32), iv (0 : Int32), iv x0]) rfl (XS.iload X0.here hx rfl (hb hby own_d6_15) rfl (XS.sipush X0.here hx rfl (hb hby own_d6_17) k)))) ?_
  by_cases hc102 : (255 : Int32) < x0
  ·
    refine own_by (g' := (mkF m 25 #[rv r1, iv (0 : Int32), rv r2, iv (0 : Int32), iv (2 : Int32), iv (0 : Int32), iv x0] [(.int (0 : Int32))])) (fun t k => XS.icmpNo X0.here hx rfl (hb hby own_d6_20) rfl (tlt hc102).2.2.2 (XS.iload X0.here hx rfl (hb hby own_d6_23) rfl k)) ?_
    refine own_retI X0 hx hlk hret (hb hby own_d6_25) (by decide) (by decide) ?_
    rw [e0]
    exact ⟨(0 : Int32), [(.int (0 : Int32)), (.int (0 : Int32))], rfl, N0, (Keep.refl h0 [r2]), V2, (Or.inr (Or.inl ⟨rfl, hc102⟩))⟩
  ·
    refine own_by (g' := (mkF m 31 #[rv r1, iv (0 : Int32), rv r2, iv (0 : Int32), iv (2 : Int32), iv (0 : Int32), iv x0] [(.int (x0).toInt8.toInt32), (.int (0 : Int32)), (.ref r2)])) (fun t k => XS.icmpYes X0.here hx rfl (pc0 := 20) (pc' := 26) rfl (hb hby own_d6_20) rfl (flt hc102).2.2.2 (by decide) (by decide) (XS.aloadN X0.here hx rfl (hb hby own_d6_26) rfl rfl (XS.iloadN X0.here hx rfl (hb hby own_d6_27) rfl (XS.iload X0.here hx rfl (hb hby own_d6_28) rfl (XS.i2b X0.here hx rfl (hb hby own_d6_30) rfl k))))) ?_
    obtain ⟨c103, Ar103, q103, S103, G103, H103, F103⟩ := id V2
    have hin103 : ¬ ((0 : Int32) < 0 ∨ c103.slots.size ≤ ((0 : Int32)).toNatClampNeg) := inb_of S103 ⟨by decide, by decide⟩
    obtain ⟨T103, h103, X103, e103, W103, st103⟩ := stB X0 hx hZ e0 Ar103 (j := (0 : Int32)) hin103 (g := (mkF m 31 #[rv r1, iv (0 : Int32), rv r2, iv (0 : Int32), iv (2 : Int32), iv (0 : Int32), iv x0] [(.int (x0).toInt8.toInt32), (.int (0 : Int32)), (.ref r2)])) rfl rfl (hb hby own_d6_31)
    have V104 : Arv Z h103 r2 k2 .byte (2 : Int32) [(.int (x0).toInt8.toInt32), (.int (0 : Int32))] (.int (0 : Int32)) := Arv.set Ar103 q103 S103 G103 H103 F103 (fits_nar_byte _) (own_wr W103 (congrArg Value.int (own_b8 _))) 0 rfl (Nat.le_of_ble_eq_true rfl)
    have N103 := Fr.snoc X103 N0 g2
    refine own_by (g' := (mkF m 32 #[rv r1, iv (0 : Int32), rv r2, iv (0 : Int32), iv (2 : Int32), iv (0 : Int32), iv x0] [])) st103 ?_
    refine own_by (g' := (mkF m 11 #[rv r1, iv (1 : Int32), rv r2, iv (1 : Int32), iv (2 : Int32), iv (1 : Int32), iv x0] [(.ref r1)])) (fun t k => XS.iinc X103.here hx rfl (hb hby own_d6_32) rfl (l' := #[rv r1, iv (1 : Int32), rv r2, iv (0 : Int32), iv (2 : Int32), iv (0 : Int32), iv x0]) rfl (XS.iinc X103.here hx rfl (hb hby own_d6_35) rfl (l' := #[rv r1, iv (1 : Int32), rv r2, iv (1 : Int32), iv (2 : Int32), iv (0 : Int32), iv x0]) rfl (XS.iinc X103.here hx rfl (hb hby own_d6_38) rfl (l' := #[rv r1, iv (1 : Int32), rv r2, iv (1 : Int32), iv (2 : Int32), iv (1 : Int32), iv x0]) rfl (XS.goto X103.here hx rfl (pc0 := 41) (pc' := 3) rfl (hb hby own_d6_41) (by decide) (by decide) (XS.iload X103.here hx rfl (hb hby own_d6_3) rfl (XS.iload X103.here hx rfl (hb hby own_d6_5) rfl (XS.icmpNo X103.here hx rfl (hb hby own_d6_7) rfl (tlt (by decide : (1 : Int32) < (2 : Int32))).2.1 (XS.aloadN X103.here hx rfl (hb hby own_d6_10) rfl rfl k)))))))) ?_
    refine own_by (g' := (mkF m 12 #[rv r1, iv (1 : Int32), rv r2, iv (1 : Int32), iv (2 : Int32), iv (1 : Int32), iv x0] [(.int (1 : Int32)), (.ref r1)])) (fun t k => XS.iloadN X103.here hx rfl (hb hby own_d6_11) rfl k) ?_
    have f105 := (V1.other W103 n12)
    obtain ⟨c106, Ar106, q106, S106, G106, H106, F106⟩ := id f105
    have hin106 : ¬ ((1 : Int32) < 0 ∨ c106.slots.size ≤ ((1 : Int32)).toNatClampNeg) := inb_of S106 ⟨by decide, by decide⟩
    have hat106 : c106.slots[((1 : Int32)).toNatClampNeg]? = some (.int x1) := H106.at hin106 rfl
    refine own_by (g' := (mkF m 20 #[rv r1, iv (1 : Int32), rv r2, iv (1 : Int32), iv (2 : Int32), iv (1 : Int32), iv x1] [(.int (255 : Int32)), (.int x1)])) (fun t k => X103.caload hx (j := (1 : Int32)) (v := (.int x1)) (own_at_ e103 Ar106.1) (State.isArrayOf_alike hZ.alike Ar106.2.1) Ar106.2.2 hin106 hat106 (g := (mkF m 12 #[rv r1, iv (1 : Int32), rv r2, iv (1 : Int32), iv (2 : Int32), iv (1 : Int32), iv x0] [(.int (1 : Int32)), (.ref r1)])) rfl rfl (hb hby own_d6_12) t (XS.istore X103.here hx rfl (hb hby own_d6_13) rfl (l' := #[rv r1, iv (1 : Int32), rv r2, iv (1 : Int32), iv (2 : Int32), iv (1 : Int32), iv x1]) rfl (XS.iload X103.here hx rfl (hb hby own_d6_15) rfl (XS.sipush X103.here hx rfl (hb hby own_d6_17) k)))) ?_
    by_cases hc107 : (255 : Int32) < x1
    ·
      refine own_by (g' := (mkF m 25 #[rv r1, iv (1 : Int32), rv r2, iv (1 : Int32), iv (2 : Int32), iv (1 : Int32), iv x1] [(.int (1 : Int32))])) (fun t k => XS.icmpNo X103.here hx rfl (hb hby own_d6_20) rfl (tlt hc107).2.2.2 (XS.iload X103.here hx rfl (hb hby own_d6_23) rfl k)) ?_
      refine own_retI X103 hx hlk hret (hb hby own_d6_25) (by decide) (by decide) ?_
      rw [e103]
      exact ⟨(1 : Int32), [(.int (x0).toInt8.toInt32), (.int (0 : Int32))], rfl, N103, ((Keep.refl h0 [r2]).wr W103 (Or.inl (List.mem_of_getElem? (i := 0) rfl))), V104, (Or.inr (Or.inr (⟨rfl, hc107⟩)))⟩
    ·
      refine own_by (g' := (mkF m 31 #[rv r1, iv (1 : Int32), rv r2, iv (1 : Int32), iv (2 : Int32), iv (1 : Int32), iv x1] [(.int (x1).toInt8.toInt32), (.int (1 : Int32)), (.ref r2)])) (fun t k => XS.icmpYes X103.here hx rfl (pc0 := 20) (pc' := 26) rfl (hb hby own_d6_20) rfl (flt hc107).2.2.2 (by decide) (by decide) (XS.aloadN X103.here hx rfl (hb hby own_d6_26) rfl rfl (XS.iloadN X103.here hx rfl (hb hby own_d6_27) rfl (XS.iload X103.here hx rfl (hb hby own_d6_28) rfl (XS.i2b X103.here hx rfl (hb hby own_d6_30) rfl k))))) ?_
      obtain ⟨c108, Ar108, q108, S108, G108, H108, F108⟩ := id V104
      have hin108 : ¬ ((1 : Int32) < 0 ∨ c108.slots.size ≤ ((1 : Int32)).toNatClampNeg) := inb_of S108 ⟨by decide, by decide⟩
      obtain ⟨T108, h108, X108, e108, W108, st108⟩ := stB X103 hx hZ e103 Ar108 (j := (1 : Int32)) hin108 (g := (mkF m 31 #[rv r1, iv (1 : Int32), rv r2, iv (1 : Int32), iv (2 : Int32), iv (1 : Int32), iv x1] [(.int (x1).toInt8.toInt32), (.int (1 : Int32)), (.ref r2)])) rfl rfl (hb hby own_d6_31)
      have V109 : Arv Z h108 r2 k2 .byte (2 : Int32) [(.int (x0).toInt8.toInt32), (.int (x1).toInt8.toInt32)] (.int (0 : Int32)) := Arv.set Ar108 q108 S108 G108 H108 F108 (fits_nar_byte _) (own_wr W108 (congrArg Value.int (own_b8 _))) 1 rfl (Nat.le_of_ble_eq_true rfl)
      have N108 := Fr.snoc X108 N103 g2
      refine own_by (g' := (mkF m 32 #[rv r1, iv (1 : Int32), rv r2, iv (1 : Int32), iv (2 : Int32), iv (1 : Int32), iv x1] [])) st108 ?_
      refine own_by (g' := (mkF m 46 #[rv r1, iv (2 : Int32), rv r2, iv (2 : Int32), iv (2 : Int32), iv (2 : Int32), iv x1] [(.int (2 : Int32))])) (fun t k => XS.iinc X108.here hx rfl (hb hby own_d6_32) rfl (l' := #[rv r1, iv (2 : Int32), rv r2, iv (1 : Int32), iv (2 : Int32), iv (1 : Int32), iv x1]) rfl (XS.iinc X108.here hx rfl (hb hby own_d6_35) rfl (l' := #[rv r1, iv (2 : Int32), rv r2, iv (2 : Int32), iv (2 : Int32), iv (1 : Int32), iv x1]) rfl (XS.iinc X108.here hx rfl (hb hby own_d6_38) rfl (l' := #[rv r1, iv (2 : Int32), rv r2, iv (2 : Int32), iv (2 : Int32), iv (2 : Int32), iv x1]) rfl (XS.goto X108.here hx rfl (pc0 := 41) (pc' := 3) rfl (hb hby own_d6_41) (by decide) (by decide) (XS.iload X108.here hx rfl (hb hby own_d6_3) rfl (XS.iload X108.here hx rfl (hb hby own_d6_5) rfl (XS.icmpYes X108.here hx rfl (pc0 := 7) (pc' := 44) rfl (hb hby own_d6_7) rfl (flt (by decide : ¬ ((2 : Int32) < (2 : Int32)))).2.1 (by decide) (by decide) (XS.iload X108.here hx rfl (hb hby own_d6_44) rfl k)))))))) ?_
      refine own_retI X108 hx hlk hret (hb hby own_d6_46) (by decide) (by decide) ?_
      rw [e108]
      exact ⟨(2 : Int32), [(.int (x0).toInt8.toInt32), (.int (x1).toInt8.toInt32)], rfl, N108, (((Keep.refl h0 [r2]).wr W103 (Or.inl (List.mem_of_getElem? (i := 0) rfl))).wr W108 (Or.inl (List.mem_of_getElem? (i := 0) rfl))), V109, (Or.inl ⟨rfl, rfl, hc102, hc107⟩)⟩
def Q_own_com3_2 (Z : State) (r1 : Addr) (k1 : ClassId) (x0 : Int32) (x1 : Int32) (h0 : Heap) (n0 : Nat) (v : Option Value) (h : Heap) (L : List Loc) : Prop := ∃ (bo : Addr), ∃ (kb : ClassId), ∃ (ln : Int32), ∃ (vs : List Value), v = some (.ref bo) ∧ Fr n0 L ∧ Keep h0 h [] ∧ h0.size ≤ bo ∧ Exa Z h bo "[B" ∧ Arv Z h bo kb .byte ln vs (.int (0 : Int32)) ∧ ((ln = (2 : Int32) ∧ vs = [(.int (x0).toInt8.toInt32), (.int (x1).toInt8.toInt32)] ∧ ¬ ((255 : Int32) < x0) ∧ ¬ ((255 : Int32) < x1)) ∨ (ln = (4 : Int32) ∧ vs = [(.int ((x0 >>> ((0 : Int32) &&& 31))).toInt8.toInt32), (.int ((x0 >>> ((8 : Int32) &&& 31))).toInt8.toInt32), (.int ((x1 >>> ((0 : Int32) &&& 31))).toInt8.toInt32), (.int ((x1 >>> ((8 : Int32) &&& 31))).toInt8.toInt32)]))
theorem own_ef_own_com3_2 (m : MethodId) (r1 : Addr) : entryFrame m #[(.ref r1), (.int (0 : Int32)), (.int (2 : Int32))] 6 = mkF m 0 #[rv r1, iv (0 : Int32), iv (2 : Int32), .unset, .unset, .unset] [] := by first | (simp [entryFrame, mkF, argsToLocals, Value.category]; done) | rfl
set_option maxRecDepth 65536 in
set_option maxHeartbeats 40000000 in
theorem own_com3_2 (l : Launch) (Z : State) (a0 : Array Value) (hw : ∀ d ∈ tables_1, d.before a0 Z = true) (ws : List Jvm.Cond) (r1 : Addr) (k1 : ClassId) (x0 : Int32) (x1 : Int32) (h0 : Heap) (n0 : Nat) (Z0 : n0 ≤ h0.size) (O0 : Old Z n0 h0) (S_ad : Sta Z Z.heap "java/lang/StringUTF16" "$assertionsDisabled" "Z" (.int (1 : Int32))) (S_hi : Sta Z Z.heap "java/lang/StringUTF16" "HI_BYTE_SHIFT" "I" (.int (0 : Int32))) (S_lo : Sta Z Z.heap "java/lang/StringUTF16" "LO_BYTE_SHIFT" "I" (.int (8 : Int32))) (hk0 : own_ch x0) (hk1 : own_ch x1) (V1 : Arv Z h0 r1 k1 .char (2 : Int32) [(.int x0), (.int x1)] (.int (0 : Int32))) :
    own_Ctr l Z (⟨"java/lang/StringUTF16", "compress", "([CII)[B"⟩ : MethodName) jdk_52_method_16_code 6 (some (.array .byte)) ws ({ frames := 3, cells := 2, slots := 6, locals := 40 } : Room) (({ frames := 3, cells := 2, slots := 6, locals := 40 } : Room)).cells (({ frames := 3, cells := 2, slots := 6, locals := 40 } : Room)).slots #[(.ref r1), (.int (0 : Int32)), (.int (2 : Int32))] h0 (Q_own_com3_2 Z r1 k1 x0 x1 h0 n0) := by
  refine own_enter (plainFor_of_name own_pn2) ?_
  intro p e s m below meth c s₁ X0 hx hZ hby hml hown hnm hlk hret e0
  have N0 := Fr.nil n0
  refine own_cast (own_ef_own_com3_2 m r1) ?_
  refine own_by (g' := (mkF m 1 #[rv r1, iv (0 : Int32), iv (2 : Int32), .unset, .unset, .unset] [(.int (2 : Int32))])) (fun t k => XS.iloadN X0.here hx rfl (hb hby own_d5_0) rfl k) ?_
  obtain ⟨T101, h101, k101, X101, e101, E101, A101, Y101, st101⟩ := newPE X0 hx hZ (hw _ (List.mem_of_getElem? (i := 24) rfl)) e0 (g := (mkF m 1 #[rv r1, iv (0 : Int32), iv (2 : Int32), .unset, .unset, .unset] [(.int (2 : Int32))])) rfl (hb hby own_d5_1) rfl (by decide) (cap := 2) (by decide) (by decide) (by decide) (by decide) (ad := "[B") own_ad_byte
  obtain ⟨b101, g101⟩ : ∃ z, z = h0.size := ⟨_, rfl⟩
  rw [← g101] at A101 Y101 st101
  have sz_b101 : h0.size ≤ b101 := Nat.le_trans (Nat.le_refl _) (Nat.le_of_eq g101.symm)
  have g_b101 : n0 ≤ b101 := Nat.le_trans Z0 sz_b101
  have V101 : Arv Z h101 b101 k101 .byte (2 : Int32) [(.int (0 : Int32)), (.int (0 : Int32))] (.int (0 : Int32)) := (Arv.new A101 (by decide)).pad (pad_rep [] (.int (0 : Int32)) 2)
  refine own_by (g' := (mkF m 3 #[rv r1, iv (0 : Int32), iv (2 : Int32), .unset, .unset, .unset] [(.ref b101)])) st101 ?_
  refine own_by (g' := (mkF m 9 #[rv r1, iv (0 : Int32), iv (2 : Int32), rv b101, .unset, .unset] [(.int (2 : Int32)), (.int (0 : Int32)), (.ref b101), (.int (0 : Int32)), (.ref r1)])) (fun t k => XS.astoreN X101.here hx rfl (hb hby own_d5_3) rfl rfl (l' := #[rv r1, iv (0 : Int32), iv (2 : Int32), rv b101, .unset, .unset]) rfl (XS.aloadN X101.here hx rfl (hb hby own_d5_4) rfl rfl (XS.iloadN X101.here hx rfl (hb hby own_d5_5) rfl (XS.aloadN X101.here hx rfl (hb hby own_d5_6) rfl rfl (XS.iconst X101.here hx rfl (hb hby own_d5_7) (XS.iloadN X101.here hx rfl (hb hby own_d5_8) rfl k)))))) ?_
  have f102 := (V1.ext E101)
  refine own_callS X101 hx hZ hown (hw _ (List.mem_of_getElem? (i := 25) rfl)) (hw _ (List.mem_of_getElem? (i := 26) rfl)) (hw _ (List.mem_of_getElem? (i := 22) rfl)) (hw _ (List.mem_of_getElem? (i := 27) rfl)) (by decide) (own_com5_2 l Z a0 hw [] (r1) (b101) (k1) (k101) (x0) (x1) h101 n0 (Nat.le_trans Z0 E101.1) f102 V101 g_b101 (Nat.ne_of_lt (Nat.lt_of_lt_of_le (Nat.lt_of_lt_of_le V1.lt (Nat.le_refl _)) (Nat.le_of_eq g101.symm)))) 0 (by decide) (by decide) (by decide) (by decide) e101 (g := (mkF m 9 #[rv r1, iv (0 : Int32), iv (2 : Int32), rv b101, .unset, .unset] [(.int (2 : Int32)), (.int (0 : Int32)), (.ref b101), (.int (0 : Int32)), (.ref r1)])) rfl (by rw [hml]; rfl) (argsL := [(.ref r1), (.int (0 : Int32)), (.ref b101), (.int (0 : Int32)), (.int (2 : Int32))]) (rest := []) (lenOf own_pd10 rfl) rfl (by show 2 * 0 + _ ≤ _; exact Nat.le_of_eq rfl) (hb hby own_d5_9) ?_
  intro v103 T103 L103 X103 q103
  obtain ⟨cnt103, vs103, rfl, N103q, K103, f104, f105⟩ := q103
  have N103 := Fr.app N0 N103q
  show own_Goes p e below s _ _ _ T103 (mkF m 12 #[rv r1, iv (0 : Int32), iv (2 : Int32), rv b101, .unset, .unset] [(.int cnt103)])
  rcases f105 with ⟨rfl, rfl, hq0, hq1⟩ | ⟨rfl, hq0⟩ | ⟨rfl, hq1⟩
  ·
    refine own_by (g' := (mkF m 58 #[rv r1, iv (0 : Int32), iv (2 : Int32), rv b101, iv (2 : Int32), .unset] [(.ref b101)])) (fun t k => XS.istore X103.here hx rfl (hb hby own_d5_12) rfl (l' := #[rv r1, iv (0 : Int32), iv (2 : Int32), rv b101, iv (2 : Int32), .unset]) rfl (XS.iload X103.here hx rfl (hb hby own_d5_14) rfl (XS.iloadN X103.here hx rfl (hb hby own_d5_16) rfl (XS.icmpYes X103.here hx rfl (pc0 := 17) (pc' := 57) rfl (hb hby own_d5_17) rfl (teq (by decide : (2 : Int32) = (2 : Int32))).1 (by decide) (by decide) (XS.aloadN X103.here hx rfl (hb hby own_d5_57) rfl rfl k))))) ?_
    have f106 := (Y101.keep K103)
    refine own_retA X103 hx hlk hret rfl rfl (hb hby own_d5_58) (by decide) (by decide) ?_
    exact ⟨b101, k101, (2 : Int32), [(.int (x0).toInt8.toInt32), (.int (x1).toInt8.toInt32)], rfl, N103, (((Keep.refl h0 []).ext E101).trans K103 (allS (Or.inr sz_b101) all0)), sz_b101, f106, f104, (Or.inl ⟨rfl, rfl, hq0, hq1⟩)⟩
  ·
    refine own_by (g' := (mkF m 23 #[rv r1, iv (0 : Int32), iv (2 : Int32), rv b101, iv (0 : Int32), .unset] [(.int (2 : Int32)), (.int (0 : Int32)), (.ref r1)])) (fun t k => XS.istore X103.here hx rfl (hb hby own_d5_12) rfl (l' := #[rv r1, iv (0 : Int32), iv (2 : Int32), rv b101, iv (0 : Int32), .unset]) rfl (XS.iload X103.here hx rfl (hb hby own_d5_14) rfl (XS.iloadN X103.here hx rfl (hb hby own_d5_16) rfl (XS.icmpNo X103.here hx rfl (hb hby own_d5_17) rfl (feq (by decide : ¬ ((0 : Int32) = (2 : Int32)))).1 (XS.aloadN X103.here hx rfl (hb hby own_d5_20) rfl rfl (XS.iloadN X103.here hx rfl (hb hby own_d5_21) rfl (XS.iloadN X103.here hx rfl (hb hby own_d5_22) rfl k))))))) ?_
    have f107 := ((O0.ext E101).keep K103 (allS g_b101 all0))
    have f108 := (f102.keep K103 (ninS (Nat.ne_of_lt (Nat.lt_of_lt_of_le (Nat.lt_of_lt_of_le V1.lt (Nat.le_refl _)) (Nat.le_of_eq g101.symm))) nin0))
    refine own_callS X103 hx hZ hown (hw _ (List.mem_of_getElem? (i := 76) rfl)) (hw _ (List.mem_of_getElem? (i := 77) rfl)) (hw _ (List.mem_of_getElem? (i := 22) rfl)) (hw _ (List.mem_of_getElem? (i := 78) rfl)) (by decide) (own_tob2 l Z a0 hw [] (r1) (k1) (x0) (x1) T103.heap n0 (Nat.le_trans Z0 (Nat.le_trans E101.1 K103.1)) f107 S_ad S_hi S_lo f108) 0 (by decide) (by decide) (by decide) (by decide) rfl (g := (mkF m 23 #[rv r1, iv (0 : Int32), iv (2 : Int32), rv b101, iv (0 : Int32), .unset] [(.int (2 : Int32)), (.int (0 : Int32)), (.ref r1)])) rfl (by rw [hml]; rfl) (argsL := [(.ref r1), (.int (0 : Int32)), (.int (2 : Int32))]) (rest := []) (lenOf own_pd11 rfl) rfl (by show 2 * 0 + _ ≤ _; exact Nat.le_of_eq rfl) (hb hby own_d5_23) ?_
    intro v109 T109 L109 X109 q109
    obtain ⟨bo109, kb109, rfl, N109q, K109, f110, f111, f112⟩ := q109
    have N109 := Fr.app N103 N109q
    show own_Goes p e below s _ _ _ T109 (mkF m 26 #[rv r1, iv (0 : Int32), iv (2 : Int32), rv b101, iv (0 : Int32), .unset] [(.ref bo109)])
    refine own_by (g' := (mkF m 32 #[rv r1, iv (0 : Int32), iv (2 : Int32), rv b101, iv (0 : Int32), rv bo109] [(.int (0 : Int32)), (.ref bo109)])) (fun t k => XS.astore X109.here hx rfl (hb hby own_d5_26) rfl rfl (l' := #[rv r1, iv (0 : Int32), iv (2 : Int32), rv b101, iv (0 : Int32), rv bo109]) rfl (XS.aload X109.here hx rfl (hb hby own_d5_28) rfl rfl (XS.iload X109.here hx rfl (hb hby own_d5_30) rfl k))) ?_
    have f113 := (f107.keep K109 all0)
    refine own_callS X109 hx hZ hown (hw _ (List.mem_of_getElem? (i := 92) rfl)) (hw _ (List.mem_of_getElem? (i := 93) rfl)) (hw _ (List.mem_of_getElem? (i := 22) rfl)) (hw _ (List.mem_of_getElem? (i := 94) rfl)) (by decide) (own_getc0 l Z a0 hw [] (bo109) (kb109) ((4 : Int32)) ([(.int ((x0 >>> ((0 : Int32) &&& 31))).toInt8.toInt32), (.int ((x0 >>> ((8 : Int32) &&& 31))).toInt8.toInt32), (.int ((x1 >>> ((0 : Int32) &&& 31))).toInt8.toInt32), (.int ((x1 >>> ((8 : Int32) &&& 31))).toInt8.toInt32)]) (((x0 >>> ((0 : Int32) &&& 31))).toInt8.toInt32) (((x0 >>> ((8 : Int32) &&& 31))).toInt8.toInt32) (x0) T109.heap n0 (Nat.le_trans Z0 (Nat.le_trans (Nat.le_trans E101.1 K103.1) K109.1)) f113 S_ad S_hi S_lo f112 (by first | assumption | decide) (by first | assumption | decide) rfl rfl (own_utf x0 hk0)) 0 (by decide) (by decide) (by decide) (by decide) rfl (g := (mkF m 32 #[rv r1, iv (0 : Int32), iv (2 : Int32), rv b101, iv (0 : Int32), rv bo109] [(.int (0 : Int32)), (.ref bo109)])) rfl (by rw [hml]; rfl) (argsL := [(.ref bo109), (.int (0 : Int32))]) (rest := []) (lenOf own_pd4 rfl) rfl (by show 2 * 0 + _ ≤ _; exact Nat.le_of_eq rfl) (hb hby own_d5_32) ?_
    intro v114 T114 L114 X114 q114
    obtain ⟨rfl, N114q, e114⟩ := q114
    have N114 := Fr.app N109 N114q
    show own_Goes p e below s _ _ _ T114 (mkF m 35 #[rv r1, iv (0 : Int32), iv (2 : Int32), rv b101, iv (0 : Int32), rv bo109] [(.int x0)])
    refine own_by (g' := (mkF m 56 #[rv r1, iv (0 : Int32), iv (2 : Int32), rv b101, iv (0 : Int32), rv bo109] [(.ref bo109)])) (fun t k => XS.sipush X114.here hx rfl (hb hby own_d5_35) (XS.icmpYes X114.here hx rfl (pc0 := 38) (pc' := 54) rfl (hb hby own_d5_38) rfl (tlt hq0).2.2.1 (by decide) (by decide) (XS.aload X114.here hx rfl (hb hby own_d5_54) rfl rfl k))) ?_
    refine own_retA X114 hx hlk hret rfl rfl (hb hby own_d5_56) (by decide) (by decide) ?_
    rw [e114]
    exact ⟨bo109, kb109, (4 : Int32), [(.int ((x0 >>> ((0 : Int32) &&& 31))).toInt8.toInt32), (.int ((x0 >>> ((8 : Int32) &&& 31))).toInt8.toInt32), (.int ((x1 >>> ((0 : Int32) &&& 31))).toInt8.toInt32), (.int ((x1 >>> ((8 : Int32) &&& 31))).toInt8.toInt32)], rfl, N114, ((((Keep.refl h0 []).ext E101).trans K103 (allS (Or.inr sz_b101) all0)).trans K109 all0), (Nat.le_trans (Nat.le_trans E101.1 K103.1) f110), f111, f112, (Or.inr ⟨rfl, rfl⟩)⟩
  ·
    refine own_by (g' := (mkF m 23 #[rv r1, iv (0 : Int32), iv (2 : Int32), rv b101, iv (1 : Int32), .unset] [(.int (2 : Int32)), (.int (0 : Int32)), (.ref r1)])) (fun t k => XS.istore X103.here hx rfl (hb hby own_d5_12) rfl (l' := #[rv r1, iv (0 : Int32), iv (2 : Int32), rv b101, iv (1 : Int32), .unset]) rfl (XS.iload X103.here hx rfl (hb hby own_d5_14) rfl (XS.iloadN X103.here hx rfl (hb hby own_d5_16) rfl (XS.icmpNo X103.here hx rfl (hb hby own_d5_17) rfl (feq (by decide : ¬ ((1 : Int32) = (2 : Int32)))).1 (XS.aloadN X103.here hx rfl (hb hby own_d5_20) rfl rfl (XS.iloadN X103.here hx rfl (hb hby own_d5_21) rfl (XS.iloadN X103.here hx rfl (hb hby own_d5_22) rfl k))))))) ?_
    have f115 := ((O0.ext E101).keep K103 (allS g_b101 all0))
    have f116 := (f102.keep K103 (ninS (Nat.ne_of_lt (Nat.lt_of_lt_of_le (Nat.lt_of_lt_of_le V1.lt (Nat.le_refl _)) (Nat.le_of_eq g101.symm))) nin0))
    refine own_callS X103 hx hZ hown (hw _ (List.mem_of_getElem? (i := 76) rfl)) (hw _ (List.mem_of_getElem? (i := 77) rfl)) (hw _ (List.mem_of_getElem? (i := 22) rfl)) (hw _ (List.mem_of_getElem? (i := 78) rfl)) (by decide) (own_tob2 l Z a0 hw [] (r1) (k1) (x0) (x1) T103.heap n0 (Nat.le_trans Z0 (Nat.le_trans E101.1 K103.1)) f115 S_ad S_hi S_lo f116) 0 (by decide) (by decide) (by decide) (by decide) rfl (g := (mkF m 23 #[rv r1, iv (0 : Int32), iv (2 : Int32), rv b101, iv (1 : Int32), .unset] [(.int (2 : Int32)), (.int (0 : Int32)), (.ref r1)])) rfl (by rw [hml]; rfl) (argsL := [(.ref r1), (.int (0 : Int32)), (.int (2 : Int32))]) (rest := []) (lenOf own_pd11 rfl) rfl (by show 2 * 0 + _ ≤ _; exact Nat.le_of_eq rfl) (hb hby own_d5_23) ?_
    intro v117 T117 L117 X117 q117
    obtain ⟨bo117, kb117, rfl, N117q, K117, f118, f119, f120⟩ := q117
    have N117 := Fr.app N103 N117q
    show own_Goes p e below s _ _ _ T117 (mkF m 26 #[rv r1, iv (0 : Int32), iv (2 : Int32), rv b101, iv (1 : Int32), .unset] [(.ref bo117)])
    refine own_by (g' := (mkF m 32 #[rv r1, iv (0 : Int32), iv (2 : Int32), rv b101, iv (1 : Int32), rv bo117] [(.int (1 : Int32)), (.ref bo117)])) (fun t k => XS.astore X117.here hx rfl (hb hby own_d5_26) rfl rfl (l' := #[rv r1, iv (0 : Int32), iv (2 : Int32), rv b101, iv (1 : Int32), rv bo117]) rfl (XS.aload X117.here hx rfl (hb hby own_d5_28) rfl rfl (XS.iload X117.here hx rfl (hb hby own_d5_30) rfl k))) ?_
    have f121 := (f115.keep K117 all0)
    refine own_callS X117 hx hZ hown (hw _ (List.mem_of_getElem? (i := 92) rfl)) (hw _ (List.mem_of_getElem? (i := 93) rfl)) (hw _ (List.mem_of_getElem? (i := 22) rfl)) (hw _ (List.mem_of_getElem? (i := 94) rfl)) (by decide) (own_getc1 l Z a0 hw [] (bo117) (kb117) ((4 : Int32)) ([(.int ((x0 >>> ((0 : Int32) &&& 31))).toInt8.toInt32), (.int ((x0 >>> ((8 : Int32) &&& 31))).toInt8.toInt32), (.int ((x1 >>> ((0 : Int32) &&& 31))).toInt8.toInt32), (.int ((x1 >>> ((8 : Int32) &&& 31))).toInt8.toInt32)]) (((x1 >>> ((0 : Int32) &&& 31))).toInt8.toInt32) (((x1 >>> ((8 : Int32) &&& 31))).toInt8.toInt32) (x1) T117.heap n0 (Nat.le_trans Z0 (Nat.le_trans (Nat.le_trans E101.1 K103.1) K117.1)) f121 S_ad S_hi S_lo f120 (by first | assumption | decide) (by first | assumption | decide) rfl rfl (own_utf x1 hk1)) 0 (by decide) (by decide) (by decide) (by decide) rfl (g := (mkF m 32 #[rv r1, iv (0 : Int32), iv (2 : Int32), rv b101, iv (1 : Int32), rv bo117] [(.int (1 : Int32)), (.ref bo117)])) rfl (by rw [hml]; rfl) (argsL := [(.ref bo117), (.int (1 : Int32))]) (rest := []) (lenOf own_pd4 rfl) rfl (by show 2 * 0 + _ ≤ _; exact Nat.le_of_eq rfl) (hb hby own_d5_32) ?_
    intro v122 T122 L122 X122 q122
    obtain ⟨rfl, N122q, e122⟩ := q122
    have N122 := Fr.app N117 N122q
    show own_Goes p e below s _ _ _ T122 (mkF m 35 #[rv r1, iv (0 : Int32), iv (2 : Int32), rv b101, iv (1 : Int32), rv bo117] [(.int x1)])
    refine own_by (g' := (mkF m 56 #[rv r1, iv (0 : Int32), iv (2 : Int32), rv b101, iv (1 : Int32), rv bo117] [(.ref bo117)])) (fun t k => XS.sipush X122.here hx rfl (hb hby own_d5_35) (XS.icmpYes X122.here hx rfl (pc0 := 38) (pc' := 54) rfl (hb hby own_d5_38) rfl (tlt hq1).2.2.1 (by decide) (by decide) (XS.aload X122.here hx rfl (hb hby own_d5_54) rfl rfl k))) ?_
    refine own_retA X122 hx hlk hret rfl rfl (hb hby own_d5_56) (by decide) (by decide) ?_
    rw [e122]
    exact ⟨bo117, kb117, (4 : Int32), [(.int ((x0 >>> ((0 : Int32) &&& 31))).toInt8.toInt32), (.int ((x0 >>> ((8 : Int32) &&& 31))).toInt8.toInt32), (.int ((x1 >>> ((0 : Int32) &&& 31))).toInt8.toInt32), (.int ((x1 >>> ((8 : Int32) &&& 31))).toInt8.toInt32)], rfl, N122, ((((Keep.refl h0 []).ext E101).trans K103 (allS (Or.inr sz_b101) all0)).trans K117 all0), (Nat.le_trans (Nat.le_trans E101.1 K103.1) f118), f119, f120, (Or.inr ⟨rfl, rfl⟩)⟩
def Q_own_cfa2_0 (Z : State) (r1 : Addr) (k1 : ClassId) (vs : List Value) (h0 : Heap) (n0 : Nat) (v : Option Value) (h : Heap) (L : List Loc) : Prop := v = some (.int (0 : Int32)) ∧ Fr n0 L ∧ h = h0
theorem own_ef_own_cfa2_0 (m : MethodId) (r1 : Addr) : entryFrame m #[(.ref r1), (.int (2 : Int32))] 2 = mkF m 0 #[rv r1, iv (2 : Int32)] [] := by first | (simp [entryFrame, mkF, argsToLocals, Value.category]; done) | rfl
set_option maxRecDepth 65536 in
set_option maxHeartbeats 40000000 in
theorem own_cfa2_0 (l : Launch) (Z : State) (a0 : Array Value) (hw : ∀ d ∈ tables_1, d.before a0 Z = true) (ws : List Jvm.Cond) (r1 : Addr) (k1 : ClassId) (vs : List Value) (h0 : Heap) (n0 : Nat) (Z0 : n0 ≤ h0.size) (V1 : Arv Z h0 r1 k1 .byte (2 : Int32) vs (.int (0 : Int32))) :
    own_Ctr l Z (⟨"java/lang/StringUTF16", "coderFromArrayLen", "([BI)B"⟩ : MethodName) jdk_52_method_15_code 2 (some .byte) ws ({ frames := 0, cells := 0, slots := 0, locals := 0 } : Room) (({ frames := 0, cells := 0, slots := 0, locals := 0 } : Room)).cells (({ frames := 0, cells := 0, slots := 0, locals := 0 } : Room)).slots #[(.ref r1), (.int (2 : Int32))] h0 (Q_own_cfa2_0 Z r1 k1 vs h0 n0) := by
  refine own_enter (plainFor_of_name own_pn2) ?_
  intro p e s m below meth c s₁ X0 hx hZ hby hml hown hnm hlk hret e0
  have N0 := Fr.nil n0
  refine own_cast (own_ef_own_cfa2_0 m r1) ?_
  refine own_by (g' := (mkF m 2 #[rv r1, iv (2 : Int32)] [(.ref r1), (.int (2 : Int32))])) (fun t k => XS.iloadN X0.here hx rfl (hb hby own_d7_0) rfl (XS.aloadN X0.here hx rfl (hb hby own_d7_1) rfl rfl k)) ?_
  obtain ⟨c101, Ar101, -, S101, G101, -, -⟩ := id V1
  refine own_by (g' := (mkF m 3 #[rv r1, iv (2 : Int32)] [(.int (2 : Int32)), (.int (2 : Int32))])) (fun t k => X0.arraylength hx (own_at_ e0 Ar101.1) (State.isArrayOf_alike hZ.alike Ar101.2.1) (g := (mkF m 2 #[rv r1, iv (2 : Int32)] [(.ref r1), (.int (2 : Int32))])) rfl rfl (hb hby own_d7_2) t (by rw [len_of S101 G101]; exact k)) ?_
  refine own_by (g' := (mkF m 8 #[rv r1, iv (2 : Int32)] [(.int ((((0 : Int32)).toUInt32 >>> ((31 : Int32) &&& 31).toUInt32).toInt32).toInt8.toInt32)])) (fun t k => XS.isub X0.here hx rfl (hb hby own_d7_3) rfl (XS.bipush X0.here hx rfl (hb hby own_d7_4) (XS.iushr X0.here hx rfl (hb hby own_d7_6) rfl (XS.i2b X0.here hx rfl (hb hby own_d7_7) rfl k)))) ?_
  refine own_retN X0 hx hlk hret (t := .byte) (by simp) (hb hby own_d7_8) (by decide) (by decide) ?_
  exact ⟨(by decide), N0, e0⟩
def Q_own_cfa2_1 (Z : State) (r1 : Addr) (k1 : ClassId) (vs : List Value) (h0 : Heap) (n0 : Nat) (v : Option Value) (h : Heap) (L : List Loc) : Prop := v = some (.int (1 : Int32)) ∧ Fr n0 L ∧ h = h0
theorem own_ef_own_cfa2_1 (m : MethodId) (r1 : Addr) : entryFrame m #[(.ref r1), (.int (2 : Int32))] 2 = mkF m 0 #[rv r1, iv (2 : Int32)] [] := by first | (simp [entryFrame, mkF, argsToLocals, Value.category]; done) | rfl
set_option maxRecDepth 65536 in
set_option maxHeartbeats 40000000 in
theorem own_cfa2_1 (l : Launch) (Z : State) (a0 : Array Value) (hw : ∀ d ∈ tables_1, d.before a0 Z = true) (ws : List Jvm.Cond) (r1 : Addr) (k1 : ClassId) (vs : List Value) (h0 : Heap) (n0 : Nat) (Z0 : n0 ≤ h0.size) (V1 : Arv Z h0 r1 k1 .byte (4 : Int32) vs (.int (0 : Int32))) :
    own_Ctr l Z (⟨"java/lang/StringUTF16", "coderFromArrayLen", "([BI)B"⟩ : MethodName) jdk_52_method_15_code 2 (some .byte) ws ({ frames := 0, cells := 0, slots := 0, locals := 0 } : Room) (({ frames := 0, cells := 0, slots := 0, locals := 0 } : Room)).cells (({ frames := 0, cells := 0, slots := 0, locals := 0 } : Room)).slots #[(.ref r1), (.int (2 : Int32))] h0 (Q_own_cfa2_1 Z r1 k1 vs h0 n0) := by
  refine own_enter (plainFor_of_name own_pn2) ?_
  intro p e s m below meth c s₁ X0 hx hZ hby hml hown hnm hlk hret e0
  have N0 := Fr.nil n0
  refine own_cast (own_ef_own_cfa2_1 m r1) ?_
  refine own_by (g' := (mkF m 2 #[rv r1, iv (2 : Int32)] [(.ref r1), (.int (2 : Int32))])) (fun t k => XS.iloadN X0.here hx rfl (hb hby own_d7_0) rfl (XS.aloadN X0.here hx rfl (hb hby own_d7_1) rfl rfl k)) ?_
  obtain ⟨c101, Ar101, -, S101, G101, -, -⟩ := id V1
  refine own_by (g' := (mkF m 3 #[rv r1, iv (2 : Int32)] [(.int (4 : Int32)), (.int (2 : Int32))])) (fun t k => X0.arraylength hx (own_at_ e0 Ar101.1) (State.isArrayOf_alike hZ.alike Ar101.2.1) (g := (mkF m 2 #[rv r1, iv (2 : Int32)] [(.ref r1), (.int (2 : Int32))])) rfl rfl (hb hby own_d7_2) t (by rw [len_of S101 G101]; exact k)) ?_
  refine own_by (g' := (mkF m 8 #[rv r1, iv (2 : Int32)] [(.int ((((-2 : Int32)).toUInt32 >>> ((31 : Int32) &&& 31).toUInt32).toInt32).toInt8.toInt32)])) (fun t k => XS.isub X0.here hx rfl (hb hby own_d7_3) rfl (XS.bipush X0.here hx rfl (hb hby own_d7_4) (XS.iushr X0.here hx rfl (hb hby own_d7_6) rfl (XS.i2b X0.here hx rfl (hb hby own_d7_7) rfl k)))) ?_
  refine own_retN X0 hx hlk hret (t := .byte) (by simp) (hb hby own_d7_8) (by decide) (by decide) ?_
  exact ⟨(by decide), N0, e0⟩
def Q_own_ini4_2 (Z : State) (r1 : Addr) (r2 : Addr) (k1 : ClassId) (x0 : Int32) (x1 : Int32) (zcs : Int32) (h0 : Heap) (n0 : Nat) (v : Option Value) (h : Heap) (L : List Loc) : Prop := ∃ (ba : Addr), ∃ (kb : ClassId), ∃ (cd : Int32), ∃ (ln : Int32), ∃ (vs : List Value), v = none ∧ Fr n0 L ∧ Keep h0 h [r1] ∧ h0.size ≤ ba ∧ Exa Z h r1 "java/lang/String" ∧ Fld Z h r1 "java/lang/String" "value" "[B" (.ref ba) ∧ Fld Z h r1 "java/lang/String" "coder" "B" (.int cd) ∧ Arv Z h ba kb .byte ln vs (.int (0 : Int32)) ∧ Exa Z h ba "[B" ∧ own_s2 x0 x1 cd ln vs
theorem own_ef_own_ini4_2 (m : MethodId) (r1 : Addr) (r2 : Addr) : entryFrame m #[(.ref r1), (.ref r2), (.int (0 : Int32)), (.int (2 : Int32)), .null] 6 = mkF m 0 #[rv r1, rv r2, iv (0 : Int32), iv (2 : Int32), .val .null, .unset] [] := by first | (simp [entryFrame, mkF, argsToLocals, Value.category]; done) | rfl
set_option maxRecDepth 65536 in
set_option maxHeartbeats 40000000 in
theorem own_ini4_2 (l : Launch) (Z : State) (a0 : Array Value) (hw : ∀ d ∈ tables_1, d.before a0 Z = true) (ws : List Jvm.Cond) (r1 : Addr) (r2 : Addr) (k1 : ClassId) (x0 : Int32) (x1 : Int32) (zcs : Int32) (h0 : Heap) (n0 : Nat) (Z0 : n0 ≤ h0.size) (O0 : Old Z n0 h0) (S_cs : Sta Z Z.heap "java/lang/String" "COMPACT_STRINGS" "Z" (.int zcs)) (hcs : ¬ zcs = (0 : Int32)) (S_ad : Sta Z Z.heap "java/lang/StringUTF16" "$assertionsDisabled" "Z" (.int (1 : Int32))) (S_hi : Sta Z Z.heap "java/lang/StringUTF16" "HI_BYTE_SHIFT" "I" (.int (0 : Int32))) (S_lo : Sta Z Z.heap "java/lang/StringUTF16" "LO_BYTE_SHIFT" "I" (.int (8 : Int32))) (hk0 : own_ch x0) (hk1 : own_ch x1) (E1 : Exa Z h0 r1 "java/lang/String") (F1 : Fld Z h0 r1 "java/lang/String" "value" "[B" .null) (F2 : Fld Z h0 r1 "java/lang/String" "coder" "B" (.int (0 : Int32))) (g1 : n0 ≤ r1) (V1 : Arv Z h0 r2 k1 .char (2 : Int32) [(.int x0), (.int x1)] (.int (0 : Int32))) :
    own_Ctr l Z (⟨"java/lang/String", "<init>", "([CIILjava/lang/Void;)V"⟩ : MethodName) jdk_42_method_149_code 6 none ws ({ frames := 4, cells := 2, slots := 6, locals := 57 } : Room) (({ frames := 4, cells := 2, slots := 6, locals := 57 } : Room)).cells (({ frames := 4, cells := 2, slots := 6, locals := 57 } : Room)).slots #[(.ref r1), (.ref r2), (.int (0 : Int32)), (.int (2 : Int32)), .null] h0 (Q_own_ini4_2 Z r1 r2 k1 x0 x1 zcs h0 n0) := by
  refine own_enter (plainFor_of_name own_pn1) ?_
  intro p e s m below meth c s₁ X0 hx hZ hby hml hown hnm hlk hret e0
  have N0 := Fr.nil n0
  refine own_cast (own_ef_own_ini4_2 m r1 r2) ?_
  refine own_by (g' := (mkF m 1 #[rv r1, rv r2, iv (0 : Int32), iv (2 : Int32), .val .null, .unset] [(.ref r1)])) (fun t k => XS.aloadN X0.here hx rfl (hb hby own_d3_0) rfl rfl k) ?_
  obtain ⟨T101, X101, e101, st101⟩ := initO X0 hx hZ hown (hw _ (List.mem_of_getElem? (i := 16) rfl)) (hw _ (List.mem_of_getElem? (i := 17) rfl)) (hw _ (List.mem_of_getElem? (i := 18) rfl)) e0 (g := (mkF m 1 #[rv r1, rv r2, iv (0 : Int32), iv (2 : Int32), .val .null, .unset] [(.ref r1)])) rfl (by rw [hml]; rfl) rfl (hb hby own_d3_1) (by decide) (W := 0) (by show 2 * 0 + _ ≤ _; exact Nat.le_of_eq rfl) (by decide)
  refine own_by (g' := (mkF m 4 #[rv r1, rv r2, iv (0 : Int32), iv (2 : Int32), .val .null, .unset] [])) st101 ?_
  refine own_by (g' := (mkF m 27 #[rv r1, rv r2, iv (0 : Int32), iv (2 : Int32), .val .null, .unset] [])) (fun t k => XS.iloadN X101.here hx rfl (hb hby own_d3_4) rfl (XS.ifYes X101.here hx rfl (pc0 := 5) (pc' := 27) rfl (hb hby own_d3_5) rfl ((if0 _ _).trans (feq (by decide : ¬ ((2 : Int32) = (0 : Int32)))).2) (by decide) (by decide) k)) ?_
  obtain ⟨T102, X102, e102, st102⟩ := getS2 X101 hx hZ hown (host := "") (Or.inl (hw _ (List.mem_of_getElem? (i := 19) rfl))) Via.refl e101 (S_cs.ext O0.2) (g := (mkF m 27 #[rv r1, rv r2, iv (0 : Int32), iv (2 : Int32), .val .null, .unset] [])) rfl (hb hby own_d3_27)
  refine own_by (g' := (mkF m 30 #[rv r1, rv r2, iv (0 : Int32), iv (2 : Int32), .val .null, .unset] [(.int zcs)])) st102 ?_
  refine own_by (g' := (mkF m 36 #[rv r1, rv r2, iv (0 : Int32), iv (2 : Int32), .val .null, .unset] [(.int (2 : Int32)), (.int (0 : Int32)), (.ref r2)])) (fun t k => XS.ifNo X102.here hx rfl (hb hby own_d3_30) rfl ((if0 _ _).trans (feq hcs).1) (XS.aloadN X102.here hx rfl (hb hby own_d3_33) rfl rfl (XS.iloadN X102.here hx rfl (hb hby own_d3_34) rfl (XS.iloadN X102.here hx rfl (hb hby own_d3_35) rfl k)))) ?_
  refine own_callS X102 hx hZ hown (hw _ (List.mem_of_getElem? (i := 20) rfl)) (hw _ (List.mem_of_getElem? (i := 21) rfl)) (hw _ (List.mem_of_getElem? (i := 22) rfl)) (hw _ (List.mem_of_getElem? (i := 23) rfl)) (by decide) (own_com3_2 l Z a0 hw [] (r2) (k1) (x0) (x1) h0 n0 Z0 O0 S_ad S_hi S_lo (by first | assumption | decide) (by first | assumption | decide) V1) 0 (by decide) (by decide) (by decide) (by decide) e102 (g := (mkF m 36 #[rv r1, rv r2, iv (0 : Int32), iv (2 : Int32), .val .null, .unset] [(.int (2 : Int32)), (.int (0 : Int32)), (.ref r2)])) rfl (by rw [hml]; rfl) (argsL := [(.ref r2), (.int (0 : Int32)), (.int (2 : Int32))]) (rest := []) (lenOf own_pd11 rfl) rfl (by show 2 * 0 + _ ≤ _; exact Nat.le_of_eq rfl) (hb hby own_d3_36) ?_
  intro v103 T103 L103 X103 q103
  obtain ⟨bo103, kb103, ln103, vs103, rfl, N103q, K103, f104, f105, f106, f107⟩ := q103
  have N103 := Fr.app N0 N103q
  show own_Goes p e below s _ _ _ T103 (mkF m 39 #[rv r1, rv r2, iv (0 : Int32), iv (2 : Int32), .val .null, .unset] [(.ref bo103)])
  rcases f107 with ⟨rfl, rfl, hq0, hq1⟩ | ⟨rfl, rfl⟩
  ·
    refine own_by (g' := (mkF m 45 #[rv r1, rv r2, iv (0 : Int32), iv (2 : Int32), .val .null, rv bo103] [(.int (2 : Int32)), (.ref bo103), (.ref r1)])) (fun t k => XS.astore X103.here hx rfl (hb hby own_d3_39) rfl rfl (l' := #[rv r1, rv r2, iv (0 : Int32), iv (2 : Int32), .val .null, rv bo103]) rfl (XS.aloadN X103.here hx rfl (hb hby own_d3_41) rfl rfl (XS.aload X103.here hx rfl (hb hby own_d3_42) rfl rfl (XS.iloadN X103.here hx rfl (hb hby own_d3_44) rfl k)))) ?_
    refine own_callS X103 hx hZ hown (hw _ (List.mem_of_getElem? (i := 28) rfl)) (hw _ (List.mem_of_getElem? (i := 29) rfl)) (hw _ (List.mem_of_getElem? (i := 22) rfl)) (hw _ (List.mem_of_getElem? (i := 30) rfl)) (by decide) (own_cfa2_0 l Z a0 hw [] (bo103) (kb103) ([(.int (x0).toInt8.toInt32), (.int (x1).toInt8.toInt32)]) T103.heap n0 (Nat.le_trans Z0 K103.1) f106) 1 (by decide) (by decide) (by decide) (by decide) rfl (g := (mkF m 45 #[rv r1, rv r2, iv (0 : Int32), iv (2 : Int32), .val .null, rv bo103] [(.int (2 : Int32)), (.ref bo103), (.ref r1)])) rfl (by rw [hml]; rfl) (argsL := [(.ref bo103), (.int (2 : Int32))]) (rest := [(.ref r1)]) (lenOf own_pd12 rfl) rfl (by show 2 * 0 + _ ≤ _; exact Nat.le_of_eq rfl) (hb hby own_d3_45) ?_
    intro v108 T108 L108 X108 q108
    obtain ⟨rfl, N108q, e108⟩ := q108
    have N108 := Fr.app N103 N108q
    show own_Goes p e below s _ _ _ T108 (mkF m 48 #[rv r1, rv r2, iv (0 : Int32), iv (2 : Int32), .val .null, rv bo103] [(.int (0 : Int32)), (.ref r1)])
    have f109 := (F2.keep K103 nin0)
    have f110 := (E1.keep K103)
    obtain ⟨T111, h111, X111, e111, W111, st111⟩ := putFN X108 hx hZ hown (hw _ (List.mem_of_getElem? (i := 31) rfl)) Via.refl e108 f109 f110 (Or.inr ⟨(hw _ (List.mem_of_getElem? (i := 32) rfl)), rfl, hnm⟩) (hw _ (List.mem_of_getElem? (i := 6) rfl)) (ty := .byte) (v' := (.int (0 : Int32))) (by decide) rfl (by decide) (g := (mkF m 48 #[rv r1, rv r2, iv (0 : Int32), iv (2 : Int32), .val .null, rv bo103] [(.int (0 : Int32)), (.ref r1)])) rfl rfl (hb hby own_d3_48)
    have f112 := f109.same W111
    have N111 := Fr.snoc X111 N108 g1
    refine own_by (g' := (mkF m 51 #[rv r1, rv r2, iv (0 : Int32), iv (2 : Int32), .val .null, rv bo103] [])) st111 ?_
    refine own_by (g' := (mkF m 54 #[rv r1, rv r2, iv (0 : Int32), iv (2 : Int32), .val .null, rv bo103] [(.ref bo103), (.ref r1)])) (fun t k => XS.aloadN X111.here hx rfl (hb hby own_d3_51) rfl rfl (XS.aload X111.here hx rfl (hb hby own_d3_52) rfl rfl k)) ?_
    have f113 := ((F1.keep K103 nin0).other W111 (Or.inr (slot_ne (Or.inr (hw _ (List.mem_of_getElem? (i := 34) rfl))) (Or.inr (hw _ (List.mem_of_getElem? (i := 32) rfl))) (by decide) (t := (.array .byte)) (t' := .byte) (by decide) (by decide))))
    have f114 := (f110.wr W111)
    obtain ⟨T115, h115, X115, e115, W115, st115⟩ := putF X111 hx hZ hown (host := "") (Or.inl (hw _ (List.mem_of_getElem? (i := 33) rfl))) Via.refl e111 f113 f114 (Or.inr ⟨(hw _ (List.mem_of_getElem? (i := 34) rfl)), rfl, hnm⟩) (hw _ (List.mem_of_getElem? (i := 6) rfl)) (ty := (.array .byte)) (by decide) rfl rfl (g := (mkF m 54 #[rv r1, rv r2, iv (0 : Int32), iv (2 : Int32), .val .null, rv bo103] [(.ref bo103), (.ref r1)])) rfl rfl (hb hby own_d3_54)
    have f116 := f113.same W115
    have N115 := Fr.snoc X115 N111 g1
    refine own_by (g' := (mkF m 57 #[rv r1, rv r2, iv (0 : Int32), iv (2 : Int32), .val .null, rv bo103] [])) st115 ?_
    have f117 := (f114.wr W115)
    have f118 := (f112.other W115 (Or.inr (slot_ne (Or.inr (hw _ (List.mem_of_getElem? (i := 32) rfl))) (Or.inr (hw _ (List.mem_of_getElem? (i := 34) rfl))) (by decide) (t := .byte) (t' := (.array .byte)) (by decide) (by decide))))
    have f119 := ((f106.other W111 (Ne.symm (Nat.ne_of_lt (Nat.lt_of_lt_of_le (Nat.lt_of_lt_of_le E1.lt (Nat.le_refl _)) f104)))).other W115 (Ne.symm (Nat.ne_of_lt (Nat.lt_of_lt_of_le (Nat.lt_of_lt_of_le E1.lt (Nat.le_refl _)) f104))))
    have f120 := ((f105.wr W111).wr W115)
    refine own_retV X115 hx hlk hret (hb hby own_d3_57) (by decide) (by decide) ?_
    rw [e115]
    exact ⟨bo103, kb103, (0 : Int32), (2 : Int32), [(.int (x0).toInt8.toInt32), (.int (x1).toInt8.toInt32)], rfl, N115, ((((Keep.refl h0 [r1]).trans K103 all0).wr W111 (Or.inl (List.mem_of_getElem? (i := 0) rfl))).wr W115 (Or.inl (List.mem_of_getElem? (i := 0) rfl))), (Nat.le_trans (Nat.le_refl _) f104), f117, f116, f118, f119, f120, (Or.inl ⟨rfl, rfl, rfl, hq0, hq1⟩)⟩
  ·
    refine own_by (g' := (mkF m 45 #[rv r1, rv r2, iv (0 : Int32), iv (2 : Int32), .val .null, rv bo103] [(.int (2 : Int32)), (.ref bo103), (.ref r1)])) (fun t k => XS.astore X103.here hx rfl (hb hby own_d3_39) rfl rfl (l' := #[rv r1, rv r2, iv (0 : Int32), iv (2 : Int32), .val .null, rv bo103]) rfl (XS.aloadN X103.here hx rfl (hb hby own_d3_41) rfl rfl (XS.aload X103.here hx rfl (hb hby own_d3_42) rfl rfl (XS.iloadN X103.here hx rfl (hb hby own_d3_44) rfl k)))) ?_
    refine own_callS X103 hx hZ hown (hw _ (List.mem_of_getElem? (i := 28) rfl)) (hw _ (List.mem_of_getElem? (i := 29) rfl)) (hw _ (List.mem_of_getElem? (i := 22) rfl)) (hw _ (List.mem_of_getElem? (i := 30) rfl)) (by decide) (own_cfa2_1 l Z a0 hw [] (bo103) (kb103) ([(.int ((x0 >>> ((0 : Int32) &&& 31))).toInt8.toInt32), (.int ((x0 >>> ((8 : Int32) &&& 31))).toInt8.toInt32), (.int ((x1 >>> ((0 : Int32) &&& 31))).toInt8.toInt32), (.int ((x1 >>> ((8 : Int32) &&& 31))).toInt8.toInt32)]) T103.heap n0 (Nat.le_trans Z0 K103.1) f106) 1 (by decide) (by decide) (by decide) (by decide) rfl (g := (mkF m 45 #[rv r1, rv r2, iv (0 : Int32), iv (2 : Int32), .val .null, rv bo103] [(.int (2 : Int32)), (.ref bo103), (.ref r1)])) rfl (by rw [hml]; rfl) (argsL := [(.ref bo103), (.int (2 : Int32))]) (rest := [(.ref r1)]) (lenOf own_pd12 rfl) rfl (by show 2 * 0 + _ ≤ _; exact Nat.le_of_eq rfl) (hb hby own_d3_45) ?_
    intro v121 T121 L121 X121 q121
    obtain ⟨rfl, N121q, e121⟩ := q121
    have N121 := Fr.app N103 N121q
    show own_Goes p e below s _ _ _ T121 (mkF m 48 #[rv r1, rv r2, iv (0 : Int32), iv (2 : Int32), .val .null, rv bo103] [(.int (1 : Int32)), (.ref r1)])
    have f122 := (F2.keep K103 nin0)
    have f123 := (E1.keep K103)
    obtain ⟨T124, h124, X124, e124, W124, st124⟩ := putFN X121 hx hZ hown (hw _ (List.mem_of_getElem? (i := 31) rfl)) Via.refl e121 f122 f123 (Or.inr ⟨(hw _ (List.mem_of_getElem? (i := 32) rfl)), rfl, hnm⟩) (hw _ (List.mem_of_getElem? (i := 6) rfl)) (ty := .byte) (v' := (.int (1 : Int32))) (by decide) rfl (by decide) (g := (mkF m 48 #[rv r1, rv r2, iv (0 : Int32), iv (2 : Int32), .val .null, rv bo103] [(.int (1 : Int32)), (.ref r1)])) rfl rfl (hb hby own_d3_48)
    have f125 := f122.same W124
    have N124 := Fr.snoc X124 N121 g1
    refine own_by (g' := (mkF m 51 #[rv r1, rv r2, iv (0 : Int32), iv (2 : Int32), .val .null, rv bo103] [])) st124 ?_
    refine own_by (g' := (mkF m 54 #[rv r1, rv r2, iv (0 : Int32), iv (2 : Int32), .val .null, rv bo103] [(.ref bo103), (.ref r1)])) (fun t k => XS.aloadN X124.here hx rfl (hb hby own_d3_51) rfl rfl (XS.aload X124.here hx rfl (hb hby own_d3_52) rfl rfl k)) ?_
    have f126 := ((F1.keep K103 nin0).other W124 (Or.inr (slot_ne (Or.inr (hw _ (List.mem_of_getElem? (i := 34) rfl))) (Or.inr (hw _ (List.mem_of_getElem? (i := 32) rfl))) (by decide) (t := (.array .byte)) (t' := .byte) (by decide) (by decide))))
    have f127 := (f123.wr W124)
    obtain ⟨T128, h128, X128, e128, W128, st128⟩ := putF X124 hx hZ hown (host := "") (Or.inl (hw _ (List.mem_of_getElem? (i := 33) rfl))) Via.refl e124 f126 f127 (Or.inr ⟨(hw _ (List.mem_of_getElem? (i := 34) rfl)), rfl, hnm⟩) (hw _ (List.mem_of_getElem? (i := 6) rfl)) (ty := (.array .byte)) (by decide) rfl rfl (g := (mkF m 54 #[rv r1, rv r2, iv (0 : Int32), iv (2 : Int32), .val .null, rv bo103] [(.ref bo103), (.ref r1)])) rfl rfl (hb hby own_d3_54)
    have f129 := f126.same W128
    have N128 := Fr.snoc X128 N124 g1
    refine own_by (g' := (mkF m 57 #[rv r1, rv r2, iv (0 : Int32), iv (2 : Int32), .val .null, rv bo103] [])) st128 ?_
    have f130 := (f127.wr W128)
    have f131 := (f125.other W128 (Or.inr (slot_ne (Or.inr (hw _ (List.mem_of_getElem? (i := 32) rfl))) (Or.inr (hw _ (List.mem_of_getElem? (i := 34) rfl))) (by decide) (t := .byte) (t' := (.array .byte)) (by decide) (by decide))))
    have f132 := ((f106.other W124 (Ne.symm (Nat.ne_of_lt (Nat.lt_of_lt_of_le (Nat.lt_of_lt_of_le E1.lt (Nat.le_refl _)) f104)))).other W128 (Ne.symm (Nat.ne_of_lt (Nat.lt_of_lt_of_le (Nat.lt_of_lt_of_le E1.lt (Nat.le_refl _)) f104))))
    have f133 := ((f105.wr W124).wr W128)
    refine own_retV X128 hx hlk hret (hb hby own_d3_57) (by decide) (by decide) ?_
    rw [e128]
    exact ⟨bo103, kb103, (1 : Int32), (4 : Int32), [(.int ((x0 >>> ((0 : Int32) &&& 31))).toInt8.toInt32), (.int ((x0 >>> ((8 : Int32) &&& 31))).toInt8.toInt32), (.int ((x1 >>> ((0 : Int32) &&& 31))).toInt8.toInt32), (.int ((x1 >>> ((8 : Int32) &&& 31))).toInt8.toInt32)], rfl, N128, ((((Keep.refl h0 [r1]).trans K103 all0).wr W124 (Or.inl (List.mem_of_getElem? (i := 0) rfl))).wr W128 (Or.inl (List.mem_of_getElem? (i := 0) rfl))), (Nat.le_trans (Nat.le_refl _) f104), f130, f129, f131, f132, f133, (Or.inr ⟨rfl, rfl, rfl⟩)⟩
def Q_own_ini1_2 (Z : State) (r1 : Addr) (r2 : Addr) (k1 : ClassId) (x0 : Int32) (x1 : Int32) (zcs : Int32) (h0 : Heap) (n0 : Nat) (v : Option Value) (h : Heap) (L : List Loc) : Prop := ∃ (ba : Addr), ∃ (kb : ClassId), ∃ (cd : Int32), ∃ (ln : Int32), ∃ (vs : List Value), v = none ∧ Fr n0 L ∧ Keep h0 h [r1] ∧ h0.size ≤ ba ∧ Exa Z h r1 "java/lang/String" ∧ Fld Z h r1 "java/lang/String" "value" "[B" (.ref ba) ∧ Fld Z h r1 "java/lang/String" "coder" "B" (.int cd) ∧ Arv Z h ba kb .byte ln vs (.int (0 : Int32)) ∧ Exa Z h ba "[B" ∧ own_s2 x0 x1 cd ln vs
theorem own_ef_own_ini1_2 (m : MethodId) (r1 : Addr) (r2 : Addr) : entryFrame m #[(.ref r1), (.ref r2)] 2 = mkF m 0 #[rv r1, rv r2] [] := by first | (simp [entryFrame, mkF, argsToLocals, Value.category]; done) | rfl
set_option maxRecDepth 65536 in
set_option maxHeartbeats 40000000 in
theorem own_ini1_2 (l : Launch) (Z : State) (a0 : Array Value) (hw : ∀ d ∈ tables_1, d.before a0 Z = true) (ws : List Jvm.Cond) (r1 : Addr) (r2 : Addr) (k1 : ClassId) (x0 : Int32) (x1 : Int32) (zcs : Int32) (h0 : Heap) (n0 : Nat) (Z0 : n0 ≤ h0.size) (O0 : Old Z n0 h0) (S_cs : Sta Z Z.heap "java/lang/String" "COMPACT_STRINGS" "Z" (.int zcs)) (hcs : ¬ zcs = (0 : Int32)) (S_ad : Sta Z Z.heap "java/lang/StringUTF16" "$assertionsDisabled" "Z" (.int (1 : Int32))) (S_hi : Sta Z Z.heap "java/lang/StringUTF16" "HI_BYTE_SHIFT" "I" (.int (0 : Int32))) (S_lo : Sta Z Z.heap "java/lang/StringUTF16" "LO_BYTE_SHIFT" "I" (.int (8 : Int32))) (hk0 : own_ch x0) (hk1 : own_ch x1) (E1 : Exa Z h0 r1 "java/lang/String") (F1 : Fld Z h0 r1 "java/lang/String" "value" "[B" .null) (F2 : Fld Z h0 r1 "java/lang/String" "coder" "B" (.int (0 : Int32))) (g1 : n0 ≤ r1) (V1 : Arv Z h0 r2 k1 .char (2 : Int32) [(.int x0), (.int x1)] (.int (0 : Int32))) :
    own_Ctr l Z (⟨"java/lang/String", "<init>", "([C)V"⟩ : MethodName) jdk_42_method_3_code 2 none ws ({ frames := 5, cells := 2, slots := 6, locals := 74 } : Room) (({ frames := 5, cells := 2, slots := 6, locals := 74 } : Room)).cells (({ frames := 5, cells := 2, slots := 6, locals := 74 } : Room)).slots #[(.ref r1), (.ref r2)] h0 (Q_own_ini1_2 Z r1 r2 k1 x0 x1 zcs h0 n0) := by
  refine own_enter (plainFor_of_name own_pn1) ?_
  intro p e s m below meth c s₁ X0 hx hZ hby hml hown hnm hlk hret e0
  have N0 := Fr.nil n0
  refine own_cast (own_ef_own_ini1_2 m r1 r2) ?_
  refine own_by (g' := (mkF m 4 #[rv r1, rv r2] [(.ref r2), (.int (0 : Int32)), (.ref r2), (.ref r1)])) (fun t k => XS.aloadN X0.here hx rfl (hb hby own_d2_0) rfl rfl (XS.aloadN X0.here hx rfl (hb hby own_d2_1) rfl rfl (XS.iconst X0.here hx rfl (hb hby own_d2_2) (XS.aloadN X0.here hx rfl (hb hby own_d2_3) rfl rfl k)))) ?_
  obtain ⟨c101, Ar101, -, S101, G101, -, -⟩ := id V1
  refine own_by (g' := (mkF m 5 #[rv r1, rv r2] [(.int (2 : Int32)), (.int (0 : Int32)), (.ref r2), (.ref r1)])) (fun t k => X0.arraylength hx (own_at_ e0 Ar101.1) (State.isArrayOf_alike hZ.alike Ar101.2.1) (g := (mkF m 4 #[rv r1, rv r2] [(.ref r2), (.int (0 : Int32)), (.ref r2), (.ref r1)])) rfl rfl (hb hby own_d2_4) t (by rw [len_of S101 G101]; exact k)) ?_
  refine own_by (g' := (mkF m 6 #[rv r1, rv r2] [.null, (.int (2 : Int32)), (.int (0 : Int32)), (.ref r2), (.ref r1)])) (fun t k => XS.aconstNull X0.here hx rfl (hb hby own_d2_5) k) ?_
  refine own_callI X0 hx hZ hown rfl (hw _ (List.mem_of_getElem? (i := 12) rfl)) (hw _ (List.mem_of_getElem? (i := 13) rfl)) (hw _ (List.mem_of_getElem? (i := 7) rfl)) (hw _ (List.mem_of_getElem? (i := 15) rfl)) (by decide) (a := r1) (own_ini4_2 l Z a0 hw [] (r1) (r2) (k1) (x0) (x1) (zcs) h0 n0 Z0 O0 S_cs (by first | assumption | decide) S_ad S_hi S_lo (by first | assumption | decide) (by first | assumption | decide) E1 F1 F2 g1 V1) 0 (by decide) (by decide) (by decide) (by decide) e0 (g := (mkF m 6 #[rv r1, rv r2] [.null, (.int (2 : Int32)), (.int (0 : Int32)), (.ref r2), (.ref r1)])) rfl (by rw [hml]; rfl) (argsL := [(.ref r2), (.int (0 : Int32)), (.int (2 : Int32)), .null]) (rest := []) (lenOf own_pd13 rfl) rfl (by show 2 * 0 + _ ≤ _; exact Nat.le_of_eq rfl) (hb hby own_d2_6) ?_
  intro v102 T102 L102 X102 q102
  obtain ⟨ba102, kb102, cd102, ln102, vs102, rfl, N102q, K102, f103, f104, f105, f106, f107, f108, f109⟩ := q102
  have N102 := Fr.app N0 N102q
  show own_Goes p e below s _ _ _ T102 (mkF m 9 #[rv r1, rv r2] [])
  refine own_retV X102 hx hlk hret (hb hby own_d2_9) (by decide) (by decide) ?_
  exact ⟨ba102, kb102, cd102, ln102, vs102, rfl, N102, ((Keep.refl h0 [r1]).trans K102 (allS (Or.inl (List.mem_of_getElem? (i := 0) rfl)) all0)), (Nat.le_trans (Nat.le_refl _) f103), f104, f105, f106, f107, f108, f109⟩
def Q_own_nbl3 (Z : State)  (h0 : Heap) (n0 : Nat) (v : Option Value) (h : Heap) (L : List Loc) : Prop := v = some (.int (6 : Int32)) ∧ Fr n0 L ∧ h = h0
theorem own_ef_own_nbl3 (m : MethodId)  : entryFrame m #[(.int (3 : Int32))] 1 = mkF m 0 #[iv (3 : Int32)] [] := by first | (simp [entryFrame, mkF, argsToLocals, Value.category]; done) | rfl
set_option maxRecDepth 65536 in
set_option maxHeartbeats 40000000 in
theorem own_nbl3 (l : Launch) (Z : State) (a0 : Array Value) (hw : ∀ d ∈ tables_1, d.before a0 Z = true) (ws : List Jvm.Cond)  (h0 : Heap) (n0 : Nat) (Z0 : n0 ≤ h0.size)  :
    own_Ctr l Z (⟨"java/lang/StringUTF16", "newBytesLength", "(I)I"⟩ : MethodName) jdk_52_method_3_code 1 (some .int) ws ({ frames := 0, cells := 0, slots := 0, locals := 0 } : Room) (({ frames := 0, cells := 0, slots := 0, locals := 0 } : Room)).cells (({ frames := 0, cells := 0, slots := 0, locals := 0 } : Room)).slots #[(.int (3 : Int32))] h0 (Q_own_nbl3 Z  h0 n0) := by
  refine own_enter (plainFor_of_name own_pn2) ?_
  intro p e s m below meth c s₁ X0 hx hZ hby hml hown hnm hlk hret e0
  have N0 := Fr.nil n0
  refine own_cast (own_ef_own_nbl3 m ) ?_
  refine own_by (g' := (mkF m 58 #[iv (3 : Int32)] [(.int ((3 : Int32) <<< ((1 : Int32) &&& 31)))])) (fun t k => XS.iloadN X0.here hx rfl (hb hby own_d18_0) rfl (XS.ifYes X0.here hx rfl (pc0 := 1) (pc' := 12) rfl (hb hby own_d18_1) rfl ((if0 _ _).trans (flt (by decide : ¬ ((3 : Int32) < (0 : Int32)))).2.1) (by decide) (by decide) (XS.iloadN X0.here hx rfl (hb hby own_d18_12) rfl (X0.ldcInt hx hown (mvT hZ (hw _ (List.mem_of_getElem? (i := 85) rfl))) (g := (mkF m 13 #[iv (3 : Int32)] [(.int (3 : Int32))])) rfl (hb hby own_d18_13) t (XS.icmpYes X0.here hx rfl (pc0 := 15) (pc' := 55) rfl (hb hby own_d18_15) rfl (tlt (by decide : (3 : Int32) < (1073741823 : Int32))).1 (by decide) (by decide) (XS.iloadN X0.here hx rfl (hb hby own_d18_55) rfl (XS.iconst X0.here hx rfl (hb hby own_d18_56) (XS.ishl X0.here hx rfl (hb hby own_d18_57) rfl k)))))))) ?_
  refine own_retI X0 hx hlk hret (hb hby own_d18_58) (by decide) (by decide) ?_
  exact ⟨(by decide), N0, e0⟩
def Q_own_nbf3 (Z : State)  (h0 : Heap) (n0 : Nat) (v : Option Value) (h : Heap) (L : List Loc) : Prop := ∃ (bo : Addr), ∃ (kb : ClassId), v = some (.ref bo) ∧ Fr n0 L ∧ Keep h0 h [] ∧ h0.size ≤ bo ∧ Exa Z h bo "[B" ∧ Arv Z h bo kb .byte (6 : Int32) [(.int (0 : Int32)), (.int (0 : Int32)), (.int (0 : Int32)), (.int (0 : Int32)), (.int (0 : Int32)), (.int (0 : Int32))] (.int (0 : Int32))
theorem own_ef_own_nbf3 (m : MethodId)  : entryFrame m #[(.int (3 : Int32))] 1 = mkF m 0 #[iv (3 : Int32)] [] := by first | (simp [entryFrame, mkF, argsToLocals, Value.category]; done) | rfl
set_option maxRecDepth 65536 in
set_option maxHeartbeats 40000000 in
theorem own_nbf3 (l : Launch) (Z : State) (a0 : Array Value) (hw : ∀ d ∈ tables_1, d.before a0 Z = true) (ws : List Jvm.Cond)  (h0 : Heap) (n0 : Nat) (Z0 : n0 ≤ h0.size)  :
    own_Ctr l Z (⟨"java/lang/StringUTF16", "newBytesFor", "(I)[B"⟩ : MethodName) jdk_52_method_2_code 1 (some (.array .byte)) ws ({ frames := 1, cells := 1, slots := 6, locals := 12 } : Room) (({ frames := 1, cells := 1, slots := 6, locals := 12 } : Room)).cells (({ frames := 1, cells := 1, slots := 6, locals := 12 } : Room)).slots #[(.int (3 : Int32))] h0 (Q_own_nbf3 Z  h0 n0) := by
  refine own_enter (plainFor_of_name own_pn2) ?_
  intro p e s m below meth c s₁ X0 hx hZ hby hml hown hnm hlk hret e0
  have N0 := Fr.nil n0
  refine own_cast (own_ef_own_nbf3 m ) ?_
  refine own_by (g' := (mkF m 1 #[iv (3 : Int32)] [(.int (3 : Int32))])) (fun t k => XS.iloadN X0.here hx rfl (hb hby own_d17_0) rfl k) ?_
  refine own_callS X0 hx hZ hown (hw _ (List.mem_of_getElem? (i := 82) rfl)) (hw _ (List.mem_of_getElem? (i := 83) rfl)) (hw _ (List.mem_of_getElem? (i := 22) rfl)) (hw _ (List.mem_of_getElem? (i := 84) rfl)) (by decide) (own_nbl3 l Z a0 hw []  h0 n0 Z0 ) 0 (by decide) (by decide) (by decide) (by decide) e0 (g := (mkF m 1 #[iv (3 : Int32)] [(.int (3 : Int32))])) rfl (by rw [hml]; rfl) (argsL := [(.int (3 : Int32))]) (rest := []) (lenOf own_pd7 rfl) rfl (by show 2 * 0 + _ ≤ _; exact Nat.le_of_eq rfl) (hb hby own_d17_1) ?_
  intro v101 T101 L101 X101 q101
  obtain ⟨rfl, N101q, e101⟩ := q101
  have N101 := Fr.app N0 N101q
  show own_Goes p e below s _ _ _ T101 (mkF m 4 #[iv (3 : Int32)] [(.int (6 : Int32))])
  obtain ⟨T102, h102, k102, X102, e102, E102, A102, Y102, st102⟩ := newPE X101 hx hZ (hw _ (List.mem_of_getElem? (i := 24) rfl)) e101 (g := (mkF m 4 #[iv (3 : Int32)] [(.int (6 : Int32))])) rfl (hb hby own_d17_4) rfl (by decide) (cap := 6) (by decide) (by decide) (by decide) (by decide) (ad := "[B") own_ad_byte
  obtain ⟨b102, g102⟩ : ∃ z, z = h0.size := ⟨_, rfl⟩
  rw [← g102] at A102 Y102 st102
  have sz_b102 : h0.size ≤ b102 := Nat.le_trans (Nat.le_refl _) (Nat.le_of_eq g102.symm)
  have g_b102 : n0 ≤ b102 := Nat.le_trans Z0 sz_b102
  have V102 : Arv Z h102 b102 k102 .byte (6 : Int32) [(.int (0 : Int32)), (.int (0 : Int32)), (.int (0 : Int32)), (.int (0 : Int32)), (.int (0 : Int32)), (.int (0 : Int32))] (.int (0 : Int32)) := (Arv.new A102 (by decide)).pad (pad_rep [] (.int (0 : Int32)) 6)
  refine own_by (g' := (mkF m 6 #[iv (3 : Int32)] [(.ref b102)])) st102 ?_
  refine own_retA X102 hx hlk hret rfl rfl (hb hby own_d17_6) (by decide) (by decide) ?_
  rw [e102]
  exact ⟨b102, k102, rfl, N101, ((Keep.refl h0 []).ext E102), sz_b102, Y102, V102⟩
def Q_own_putc3_0 (Z : State) (r1 : Addr) (k1 : ClassId) (xc : Int32) (ye0 : Value) (ye1 : Value) (ye2 : Value) (ye3 : Value) (ye4 : Value) (ye5 : Value) (h0 : Heap) (n0 : Nat) (v : Option Value) (h : Heap) (L : List Loc) : Prop := v = none ∧ Fr n0 L ∧ Keep h0 h [r1] ∧ Arv Z h r1 k1 .byte (6 : Int32) [(.int ((xc >>> ((0 : Int32) &&& 31))).toInt8.toInt32), (.int ((xc >>> ((8 : Int32) &&& 31))).toInt8.toInt32), ye2, ye3, ye4, ye5] (.int (0 : Int32))
theorem own_ef_own_putc3_0 (m : MethodId) (r1 : Addr) (xc : Int32) : entryFrame m #[(.ref r1), (.int (0 : Int32)), (.int xc)] 3 = mkF m 0 #[rv r1, iv (0 : Int32), iv xc] [] := by first | (simp [entryFrame, mkF, argsToLocals, Value.category]; done) | rfl
set_option maxRecDepth 65536 in
set_option maxHeartbeats 40000000 in
theorem own_putc3_0 (l : Launch) (Z : State) (a0 : Array Value) (hw : ∀ d ∈ tables_1, d.before a0 Z = true) (ws : List Jvm.Cond) (r1 : Addr) (k1 : ClassId) (xc : Int32) (ye0 : Value) (ye1 : Value) (ye2 : Value) (ye3 : Value) (ye4 : Value) (ye5 : Value) (h0 : Heap) (n0 : Nat) (Z0 : n0 ≤ h0.size) (O0 : Old Z n0 h0) (S_ad : Sta Z Z.heap "java/lang/StringUTF16" "$assertionsDisabled" "Z" (.int (1 : Int32))) (S_hi : Sta Z Z.heap "java/lang/StringUTF16" "HI_BYTE_SHIFT" "I" (.int (0 : Int32))) (S_lo : Sta Z Z.heap "java/lang/StringUTF16" "LO_BYTE_SHIFT" "I" (.int (8 : Int32))) (V1 : Arv Z h0 r1 k1 .byte (6 : Int32) [ye0, ye1, ye2, ye3, ye4, ye5] (.int (0 : Int32))) (g1 : n0 ≤ r1) :
    own_Ctr l Z (⟨"java/lang/StringUTF16", "putChar", "([BII)V"⟩ : MethodName) jdk_52_method_4_code 3 none ws ({ frames := 0, cells := 0, slots := 0, locals := 0 } : Room) (({ frames := 0, cells := 0, slots := 0, locals := 0 } : Room)).cells (({ frames := 0, cells := 0, slots := 0, locals := 0 } : Room)).slots #[(.ref r1), (.int (0 : Int32)), (.int xc)] h0 (Q_own_putc3_0 Z r1 k1 xc ye0 ye1 ye2 ye3 ye4 ye5 h0 n0) := by
  refine own_enter (plainFor_of_name own_pn2) ?_
  intro p e s m below meth c s₁ X0 hx hZ hby hml hown hnm hlk hret e0
  have N0 := Fr.nil n0
  refine own_cast (own_ef_own_putc3_0 m r1 xc) ?_
  obtain ⟨T101, X101, e101, st101⟩ := getS2 X0 hx hZ hown (host := "") (Or.inl (hw _ (List.mem_of_getElem? (i := 89) rfl))) Via.refl e0 (S_ad.ext O0.2) (g := (mkF m 0 #[rv r1, iv (0 : Int32), iv xc] [])) rfl (hb hby own_d19_0)
  refine own_by (g' := (mkF m 3 #[rv r1, iv (0 : Int32), iv xc] [(.int (1 : Int32))])) st101 ?_
  refine own_by (g' := (mkF m 31 #[rv r1, iv (0 : Int32), iv xc] [(.int ((0 : Int32) <<< ((1 : Int32) &&& 31)))])) (fun t k => XS.ifYes X101.here hx rfl (pc0 := 3) (pc' := 28) rfl (hb hby own_d19_3) rfl ((if0 _ _).trans (feq (by decide : ¬ ((1 : Int32) = (0 : Int32)))).2) (by decide) (by decide) (XS.iloadN X101.here hx rfl (hb hby own_d19_28) rfl (XS.iconst X101.here hx rfl (hb hby own_d19_29) (XS.ishl X101.here hx rfl (hb hby own_d19_30) rfl k)))) ?_
  have hz : ((0 : Int32) <<< ((1 : Int32) &&& 31)) = (0 : Int32) := by decide
  rw [hz]
  refine own_by (g' := (mkF m 38 #[rv r1, iv (1 : Int32), iv xc] [(.int xc), (.int (0 : Int32)), (.ref r1)])) (fun t k => XS.istoreN X101.here hx rfl (hb hby own_d19_31) rfl (l' := #[rv r1, iv (0 : Int32), iv xc]) rfl (XS.aloadN X101.here hx rfl (hb hby own_d19_32) rfl rfl (XS.iloadN X101.here hx rfl (hb hby own_d19_33) rfl (XS.iinc X101.here hx rfl (hb hby own_d19_34) rfl (l' := #[rv r1, iv (1 : Int32), iv xc]) rfl (XS.iloadN X101.here hx rfl (hb hby own_d19_37) rfl k))))) ?_
  obtain ⟨T102, X102, e102, st102⟩ := getS2 X101 hx hZ hown (host := "") (Or.inl (hw _ (List.mem_of_getElem? (i := 90) rfl))) Via.refl e101 (S_hi.ext O0.2) (g := (mkF m 38 #[rv r1, iv (1 : Int32), iv xc] [(.int xc), (.int (0 : Int32)), (.ref r1)])) rfl (hb hby own_d19_38)
  refine own_by (g' := (mkF m 41 #[rv r1, iv (1 : Int32), iv xc] [(.int (0 : Int32)), (.int xc), (.int (0 : Int32)), (.ref r1)])) st102 ?_
  refine own_by (g' := (mkF m 43 #[rv r1, iv (1 : Int32), iv xc] [(.int ((xc >>> ((0 : Int32) &&& 31))).toInt8.toInt32), (.int (0 : Int32)), (.ref r1)])) (fun t k => XS.ishr X102.here hx rfl (hb hby own_d19_41) rfl (XS.i2b X102.here hx rfl (hb hby own_d19_42) rfl k)) ?_
  obtain ⟨c103, Ar103, q103, S103, G103, H103, F103⟩ := id V1
  have hin103 : ¬ ((0 : Int32) < 0 ∨ c103.slots.size ≤ ((0 : Int32)).toNatClampNeg) := inb_of S103 ⟨by decide, by decide⟩
  obtain ⟨T103, h103, X103, e103, W103, st103⟩ := stB X102 hx hZ e102 Ar103 (j := (0 : Int32)) hin103 (g := (mkF m 43 #[rv r1, iv (1 : Int32), iv xc] [(.int ((xc >>> ((0 : Int32) &&& 31))).toInt8.toInt32), (.int (0 : Int32)), (.ref r1)])) rfl rfl (hb hby own_d19_43)
  have V104 : Arv Z h103 r1 k1 .byte (6 : Int32) [(.int ((xc >>> ((0 : Int32) &&& 31))).toInt8.toInt32), ye1, ye2, ye3, ye4, ye5] (.int (0 : Int32)) := Arv.set Ar103 q103 S103 G103 H103 F103 (fits_nar_byte _) (own_wr W103 (congrArg Value.int (own_b8 _))) 0 rfl (Nat.le_of_ble_eq_true rfl)
  have N103 := Fr.snoc X103 N0 g1
  refine own_by (g' := (mkF m 44 #[rv r1, iv (1 : Int32), iv xc] [])) st103 ?_
  refine own_by (g' := (mkF m 47 #[rv r1, iv (1 : Int32), iv xc] [(.int xc), (.int (1 : Int32)), (.ref r1)])) (fun t k => XS.aloadN X103.here hx rfl (hb hby own_d19_44) rfl rfl (XS.iloadN X103.here hx rfl (hb hby own_d19_45) rfl (XS.iloadN X103.here hx rfl (hb hby own_d19_46) rfl k))) ?_
  have f105 := (O0.wr W103 g1)
  obtain ⟨T106, X106, e106, st106⟩ := getS2 X103 hx hZ hown (host := "") (Or.inl (hw _ (List.mem_of_getElem? (i := 91) rfl))) Via.refl e103 (S_lo.ext f105.2) (g := (mkF m 47 #[rv r1, iv (1 : Int32), iv xc] [(.int xc), (.int (1 : Int32)), (.ref r1)])) rfl (hb hby own_d19_47)
  refine own_by (g' := (mkF m 50 #[rv r1, iv (1 : Int32), iv xc] [(.int (8 : Int32)), (.int xc), (.int (1 : Int32)), (.ref r1)])) st106 ?_
  refine own_by (g' := (mkF m 52 #[rv r1, iv (1 : Int32), iv xc] [(.int ((xc >>> ((8 : Int32) &&& 31))).toInt8.toInt32), (.int (1 : Int32)), (.ref r1)])) (fun t k => XS.ishr X106.here hx rfl (hb hby own_d19_50) rfl (XS.i2b X106.here hx rfl (hb hby own_d19_51) rfl k)) ?_
  obtain ⟨c107, Ar107, q107, S107, G107, H107, F107⟩ := id V104
  have hin107 : ¬ ((1 : Int32) < 0 ∨ c107.slots.size ≤ ((1 : Int32)).toNatClampNeg) := inb_of S107 ⟨by decide, by decide⟩
  obtain ⟨T107, h107, X107, e107, W107, st107⟩ := stB X106 hx hZ e106 Ar107 (j := (1 : Int32)) hin107 (g := (mkF m 52 #[rv r1, iv (1 : Int32), iv xc] [(.int ((xc >>> ((8 : Int32) &&& 31))).toInt8.toInt32), (.int (1 : Int32)), (.ref r1)])) rfl rfl (hb hby own_d19_52)
  have V108 : Arv Z h107 r1 k1 .byte (6 : Int32) [(.int ((xc >>> ((0 : Int32) &&& 31))).toInt8.toInt32), (.int ((xc >>> ((8 : Int32) &&& 31))).toInt8.toInt32), ye2, ye3, ye4, ye5] (.int (0 : Int32)) := Arv.set Ar107 q107 S107 G107 H107 F107 (fits_nar_byte _) (own_wr W107 (congrArg Value.int (own_b8 _))) 1 rfl (Nat.le_of_ble_eq_true rfl)
  have N107 := Fr.snoc X107 N103 g1
  refine own_by (g' := (mkF m 53 #[rv r1, iv (1 : Int32), iv xc] [])) st107 ?_
  refine own_retV X107 hx hlk hret (hb hby own_d19_53) (by decide) (by decide) ?_
  rw [e107]
  exact ⟨rfl, N107, (((Keep.refl h0 [r1]).wr W103 (Or.inl (List.mem_of_getElem? (i := 0) rfl))).wr W107 (Or.inl (List.mem_of_getElem? (i := 0) rfl))), V108⟩
def Q_own_putc3_1 (Z : State) (r1 : Addr) (k1 : ClassId) (xc : Int32) (ye0 : Value) (ye1 : Value) (ye2 : Value) (ye3 : Value) (ye4 : Value) (ye5 : Value) (h0 : Heap) (n0 : Nat) (v : Option Value) (h : Heap) (L : List Loc) : Prop := v = none ∧ Fr n0 L ∧ Keep h0 h [r1] ∧ Arv Z h r1 k1 .byte (6 : Int32) [ye0, ye1, (.int ((xc >>> ((0 : Int32) &&& 31))).toInt8.toInt32), (.int ((xc >>> ((8 : Int32) &&& 31))).toInt8.toInt32), ye4, ye5] (.int (0 : Int32))
theorem own_ef_own_putc3_1 (m : MethodId) (r1 : Addr) (xc : Int32) : entryFrame m #[(.ref r1), (.int (1 : Int32)), (.int xc)] 3 = mkF m 0 #[rv r1, iv (1 : Int32), iv xc] [] := by first | (simp [entryFrame, mkF, argsToLocals, Value.category]; done) | rfl
set_option maxRecDepth 65536 in
set_option maxHeartbeats 40000000 in
theorem own_putc3_1 (l : Launch) (Z : State) (a0 : Array Value) (hw : ∀ d ∈ tables_1, d.before a0 Z = true) (ws : List Jvm.Cond) (r1 : Addr) (k1 : ClassId) (xc : Int32) (ye0 : Value) (ye1 : Value) (ye2 : Value) (ye3 : Value) (ye4 : Value) (ye5 : Value) (h0 : Heap) (n0 : Nat) (Z0 : n0 ≤ h0.size) (O0 : Old Z n0 h0) (S_ad : Sta Z Z.heap "java/lang/StringUTF16" "$assertionsDisabled" "Z" (.int (1 : Int32))) (S_hi : Sta Z Z.heap "java/lang/StringUTF16" "HI_BYTE_SHIFT" "I" (.int (0 : Int32))) (S_lo : Sta Z Z.heap "java/lang/StringUTF16" "LO_BYTE_SHIFT" "I" (.int (8 : Int32))) (V1 : Arv Z h0 r1 k1 .byte (6 : Int32) [ye0, ye1, ye2, ye3, ye4, ye5] (.int (0 : Int32))) (g1 : n0 ≤ r1) :
    own_Ctr l Z (⟨"java/lang/StringUTF16", "putChar", "([BII)V"⟩ : MethodName) jdk_52_method_4_code 3 none ws ({ frames := 0, cells := 0, slots := 0, locals := 0 } : Room) (({ frames := 0, cells := 0, slots := 0, locals := 0 } : Room)).cells (({ frames := 0, cells := 0, slots := 0, locals := 0 } : Room)).slots #[(.ref r1), (.int (1 : Int32)), (.int xc)] h0 (Q_own_putc3_1 Z r1 k1 xc ye0 ye1 ye2 ye3 ye4 ye5 h0 n0) := by
  refine own_enter (plainFor_of_name own_pn2) ?_
  intro p e s m below meth c s₁ X0 hx hZ hby hml hown hnm hlk hret e0
  have N0 := Fr.nil n0
  refine own_cast (own_ef_own_putc3_1 m r1 xc) ?_
  obtain ⟨T101, X101, e101, st101⟩ := getS2 X0 hx hZ hown (host := "") (Or.inl (hw _ (List.mem_of_getElem? (i := 89) rfl))) Via.refl e0 (S_ad.ext O0.2) (g := (mkF m 0 #[rv r1, iv (1 : Int32), iv xc] [])) rfl (hb hby own_d19_0)
  refine own_by (g' := (mkF m 3 #[rv r1, iv (1 : Int32), iv xc] [(.int (1 : Int32))])) st101 ?_
  refine own_by (g' := (mkF m 31 #[rv r1, iv (1 : Int32), iv xc] [(.int ((1 : Int32) <<< ((1 : Int32) &&& 31)))])) (fun t k => XS.ifYes X101.here hx rfl (pc0 := 3) (pc' := 28) rfl (hb hby own_d19_3) rfl ((if0 _ _).trans (feq (by decide : ¬ ((1 : Int32) = (0 : Int32)))).2) (by decide) (by decide) (XS.iloadN X101.here hx rfl (hb hby own_d19_28) rfl (XS.iconst X101.here hx rfl (hb hby own_d19_29) (XS.ishl X101.here hx rfl (hb hby own_d19_30) rfl k)))) ?_
  have hz : ((1 : Int32) <<< ((1 : Int32) &&& 31)) = (2 : Int32) := by decide
  rw [hz]
  refine own_by (g' := (mkF m 38 #[rv r1, iv (3 : Int32), iv xc] [(.int xc), (.int (2 : Int32)), (.ref r1)])) (fun t k => XS.istoreN X101.here hx rfl (hb hby own_d19_31) rfl (l' := #[rv r1, iv (2 : Int32), iv xc]) rfl (XS.aloadN X101.here hx rfl (hb hby own_d19_32) rfl rfl (XS.iloadN X101.here hx rfl (hb hby own_d19_33) rfl (XS.iinc X101.here hx rfl (hb hby own_d19_34) rfl (l' := #[rv r1, iv (3 : Int32), iv xc]) rfl (XS.iloadN X101.here hx rfl (hb hby own_d19_37) rfl k))))) ?_
  obtain ⟨T102, X102, e102, st102⟩ := getS2 X101 hx hZ hown (host := "") (Or.inl (hw _ (List.mem_of_getElem? (i := 90) rfl))) Via.refl e101 (S_hi.ext O0.2) (g := (mkF m 38 #[rv r1, iv (3 : Int32), iv xc] [(.int xc), (.int (2 : Int32)), (.ref r1)])) rfl (hb hby own_d19_38)
  refine own_by (g' := (mkF m 41 #[rv r1, iv (3 : Int32), iv xc] [(.int (0 : Int32)), (.int xc), (.int (2 : Int32)), (.ref r1)])) st102 ?_
  refine own_by (g' := (mkF m 43 #[rv r1, iv (3 : Int32), iv xc] [(.int ((xc >>> ((0 : Int32) &&& 31))).toInt8.toInt32), (.int (2 : Int32)), (.ref r1)])) (fun t k => XS.ishr X102.here hx rfl (hb hby own_d19_41) rfl (XS.i2b X102.here hx rfl (hb hby own_d19_42) rfl k)) ?_
  obtain ⟨c103, Ar103, q103, S103, G103, H103, F103⟩ := id V1
  have hin103 : ¬ ((2 : Int32) < 0 ∨ c103.slots.size ≤ ((2 : Int32)).toNatClampNeg) := inb_of S103 ⟨by decide, by decide⟩
  obtain ⟨T103, h103, X103, e103, W103, st103⟩ := stB X102 hx hZ e102 Ar103 (j := (2 : Int32)) hin103 (g := (mkF m 43 #[rv r1, iv (3 : Int32), iv xc] [(.int ((xc >>> ((0 : Int32) &&& 31))).toInt8.toInt32), (.int (2 : Int32)), (.ref r1)])) rfl rfl (hb hby own_d19_43)
  have V104 : Arv Z h103 r1 k1 .byte (6 : Int32) [ye0, ye1, (.int ((xc >>> ((0 : Int32) &&& 31))).toInt8.toInt32), ye3, ye4, ye5] (.int (0 : Int32)) := Arv.set Ar103 q103 S103 G103 H103 F103 (fits_nar_byte _) (own_wr W103 (congrArg Value.int (own_b8 _))) 2 rfl (Nat.le_of_ble_eq_true rfl)
  have N103 := Fr.snoc X103 N0 g1
  refine own_by (g' := (mkF m 44 #[rv r1, iv (3 : Int32), iv xc] [])) st103 ?_
  refine own_by (g' := (mkF m 47 #[rv r1, iv (3 : Int32), iv xc] [(.int xc), (.int (3 : Int32)), (.ref r1)])) (fun t k => XS.aloadN X103.here hx rfl (hb hby own_d19_44) rfl rfl (XS.iloadN X103.here hx rfl (hb hby own_d19_45) rfl (XS.iloadN X103.here hx rfl (hb hby own_d19_46) rfl k))) ?_
  have f105 := (O0.wr W103 g1)
  obtain ⟨T106, X106, e106, st106⟩ := getS2 X103 hx hZ hown (host := "") (Or.inl (hw _ (List.mem_of_getElem? (i := 91) rfl))) Via.refl e103 (S_lo.ext f105.2) (g := (mkF m 47 #[rv r1, iv (3 : Int32), iv xc] [(.int xc), (.int (3 : Int32)), (.ref r1)])) rfl (hb hby own_d19_47)
  refine own_by (g' := (mkF m 50 #[rv r1, iv (3 : Int32), iv xc] [(.int (8 : Int32)), (.int xc), (.int (3 : Int32)), (.ref r1)])) st106 ?_
  refine own_by (g' := (mkF m 52 #[rv r1, iv (3 : Int32), iv xc] [(.int ((xc >>> ((8 : Int32) &&& 31))).toInt8.toInt32), (.int (3 : Int32)), (.ref r1)])) (fun t k => XS.ishr X106.here hx rfl (hb hby own_d19_50) rfl (XS.i2b X106.here hx rfl (hb hby own_d19_51) rfl k)) ?_
  obtain ⟨c107, Ar107, q107, S107, G107, H107, F107⟩ := id V104
  have hin107 : ¬ ((3 : Int32) < 0 ∨ c107.slots.size ≤ ((3 : Int32)).toNatClampNeg) := inb_of S107 ⟨by decide, by decide⟩
  obtain ⟨T107, h107, X107, e107, W107, st107⟩ := stB X106 hx hZ e106 Ar107 (j := (3 : Int32)) hin107 (g := (mkF m 52 #[rv r1, iv (3 : Int32), iv xc] [(.int ((xc >>> ((8 : Int32) &&& 31))).toInt8.toInt32), (.int (3 : Int32)), (.ref r1)])) rfl rfl (hb hby own_d19_52)
  have V108 : Arv Z h107 r1 k1 .byte (6 : Int32) [ye0, ye1, (.int ((xc >>> ((0 : Int32) &&& 31))).toInt8.toInt32), (.int ((xc >>> ((8 : Int32) &&& 31))).toInt8.toInt32), ye4, ye5] (.int (0 : Int32)) := Arv.set Ar107 q107 S107 G107 H107 F107 (fits_nar_byte _) (own_wr W107 (congrArg Value.int (own_b8 _))) 3 rfl (Nat.le_of_ble_eq_true rfl)
  have N107 := Fr.snoc X107 N103 g1
  refine own_by (g' := (mkF m 53 #[rv r1, iv (3 : Int32), iv xc] [])) st107 ?_
  refine own_retV X107 hx hlk hret (hb hby own_d19_53) (by decide) (by decide) ?_
  rw [e107]
  exact ⟨rfl, N107, (((Keep.refl h0 [r1]).wr W103 (Or.inl (List.mem_of_getElem? (i := 0) rfl))).wr W107 (Or.inl (List.mem_of_getElem? (i := 0) rfl))), V108⟩
def Q_own_putc3_2 (Z : State) (r1 : Addr) (k1 : ClassId) (xc : Int32) (ye0 : Value) (ye1 : Value) (ye2 : Value) (ye3 : Value) (ye4 : Value) (ye5 : Value) (h0 : Heap) (n0 : Nat) (v : Option Value) (h : Heap) (L : List Loc) : Prop := v = none ∧ Fr n0 L ∧ Keep h0 h [r1] ∧ Arv Z h r1 k1 .byte (6 : Int32) [ye0, ye1, ye2, ye3, (.int ((xc >>> ((0 : Int32) &&& 31))).toInt8.toInt32), (.int ((xc >>> ((8 : Int32) &&& 31))).toInt8.toInt32)] (.int (0 : Int32))
theorem own_ef_own_putc3_2 (m : MethodId) (r1 : Addr) (xc : Int32) : entryFrame m #[(.ref r1), (.int (2 : Int32)), (.int xc)] 3 = mkF m 0 #[rv r1, iv (2 : Int32), iv xc] [] := by first | (simp [entryFrame, mkF, argsToLocals, Value.category]; done) | rfl
set_option maxRecDepth 65536 in
set_option maxHeartbeats 40000000 in
theorem own_putc3_2 (l : Launch) (Z : State) (a0 : Array Value) (hw : ∀ d ∈ tables_1, d.before a0 Z = true) (ws : List Jvm.Cond) (r1 : Addr) (k1 : ClassId) (xc : Int32) (ye0 : Value) (ye1 : Value) (ye2 : Value) (ye3 : Value) (ye4 : Value) (ye5 : Value) (h0 : Heap) (n0 : Nat) (Z0 : n0 ≤ h0.size) (O0 : Old Z n0 h0) (S_ad : Sta Z Z.heap "java/lang/StringUTF16" "$assertionsDisabled" "Z" (.int (1 : Int32))) (S_hi : Sta Z Z.heap "java/lang/StringUTF16" "HI_BYTE_SHIFT" "I" (.int (0 : Int32))) (S_lo : Sta Z Z.heap "java/lang/StringUTF16" "LO_BYTE_SHIFT" "I" (.int (8 : Int32))) (V1 : Arv Z h0 r1 k1 .byte (6 : Int32) [ye0, ye1, ye2, ye3, ye4, ye5] (.int (0 : Int32))) (g1 : n0 ≤ r1) :
    own_Ctr l Z (⟨"java/lang/StringUTF16", "putChar", "([BII)V"⟩ : MethodName) jdk_52_method_4_code 3 none ws ({ frames := 0, cells := 0, slots := 0, locals := 0 } : Room) (({ frames := 0, cells := 0, slots := 0, locals := 0 } : Room)).cells (({ frames := 0, cells := 0, slots := 0, locals := 0 } : Room)).slots #[(.ref r1), (.int (2 : Int32)), (.int xc)] h0 (Q_own_putc3_2 Z r1 k1 xc ye0 ye1 ye2 ye3 ye4 ye5 h0 n0) := by
  refine own_enter (plainFor_of_name own_pn2) ?_
  intro p e s m below meth c s₁ X0 hx hZ hby hml hown hnm hlk hret e0
  have N0 := Fr.nil n0
  refine own_cast (own_ef_own_putc3_2 m r1 xc) ?_
  obtain ⟨T101, X101, e101, st101⟩ := getS2 X0 hx hZ hown (host := "") (Or.inl (hw _ (List.mem_of_getElem? (i := 89) rfl))) Via.refl e0 (S_ad.ext O0.2) (g := (mkF m 0 #[rv r1, iv (2 : Int32), iv xc] [])) rfl (hb hby own_d19_0)
  refine own_by (g' := (mkF m 3 #[rv r1, iv (2 : Int32), iv xc] [(.int (1 : Int32))])) st101 ?_
  refine own_by (g' := (mkF m 31 #[rv r1, iv (2 : Int32), iv xc] [(.int ((2 : Int32) <<< ((1 : Int32) &&& 31)))])) (fun t k => XS.ifYes X101.here hx rfl (pc0 := 3) (pc' := 28) rfl (hb hby own_d19_3) rfl ((if0 _ _).trans (feq (by decide : ¬ ((1 : Int32) = (0 : Int32)))).2) (by decide) (by decide) (XS.iloadN X101.here hx rfl (hb hby own_d19_28) rfl (XS.iconst X101.here hx rfl (hb hby own_d19_29) (XS.ishl X101.here hx rfl (hb hby own_d19_30) rfl k)))) ?_
  have hz : ((2 : Int32) <<< ((1 : Int32) &&& 31)) = (4 : Int32) := by decide
  rw [hz]
  refine own_by (g' := (mkF m 38 #[rv r1, iv (5 : Int32), iv xc] [(.int xc), (.int (4 : Int32)), (.ref r1)])) (fun t k => XS.istoreN X101.here hx rfl (hb hby own_d19_31) rfl (l' := #[rv r1, iv (4 : Int32), iv xc]) rfl (XS.aloadN X101.here hx rfl (hb hby own_d19_32) rfl rfl (XS.iloadN X101.here hx rfl (hb hby own_d19_33) rfl (XS.iinc X101.here hx rfl (hb hby own_d19_34) rfl (l' := #[rv r1, iv (5 : Int32), iv xc]) rfl (XS.iloadN X101.here hx rfl (hb hby own_d19_37) rfl k))))) ?_
  obtain ⟨T102, X102, e102, st102⟩ := getS2 X101 hx hZ hown (host := "") (Or.inl (hw _ (List.mem_of_getElem? (i := 90) rfl))) Via.refl e101 (S_hi.ext O0.2) (g := (mkF m 38 #[rv r1, iv (5 : Int32), iv xc] [(.int xc), (.int (4 : Int32)), (.ref r1)])) rfl (hb hby own_d19_38)
  refine own_by (g' := (mkF m 41 #[rv r1, iv (5 : Int32), iv xc] [(.int (0 : Int32)), (.int xc), (.int (4 : Int32)), (.ref r1)])) st102 ?_
  refine own_by (g' := (mkF m 43 #[rv r1, iv (5 : Int32), iv xc] [(.int ((xc >>> ((0 : Int32) &&& 31))).toInt8.toInt32), (.int (4 : Int32)), (.ref r1)])) (fun t k => XS.ishr X102.here hx rfl (hb hby own_d19_41) rfl (XS.i2b X102.here hx rfl (hb hby own_d19_42) rfl k)) ?_
  obtain ⟨c103, Ar103, q103, S103, G103, H103, F103⟩ := id V1
  have hin103 : ¬ ((4 : Int32) < 0 ∨ c103.slots.size ≤ ((4 : Int32)).toNatClampNeg) := inb_of S103 ⟨by decide, by decide⟩
  obtain ⟨T103, h103, X103, e103, W103, st103⟩ := stB X102 hx hZ e102 Ar103 (j := (4 : Int32)) hin103 (g := (mkF m 43 #[rv r1, iv (5 : Int32), iv xc] [(.int ((xc >>> ((0 : Int32) &&& 31))).toInt8.toInt32), (.int (4 : Int32)), (.ref r1)])) rfl rfl (hb hby own_d19_43)
  have V104 : Arv Z h103 r1 k1 .byte (6 : Int32) [ye0, ye1, ye2, ye3, (.int ((xc >>> ((0 : Int32) &&& 31))).toInt8.toInt32), ye5] (.int (0 : Int32)) := Arv.set Ar103 q103 S103 G103 H103 F103 (fits_nar_byte _) (own_wr W103 (congrArg Value.int (own_b8 _))) 4 rfl (Nat.le_of_ble_eq_true rfl)
  have N103 := Fr.snoc X103 N0 g1
  refine own_by (g' := (mkF m 44 #[rv r1, iv (5 : Int32), iv xc] [])) st103 ?_
  refine own_by (g' := (mkF m 47 #[rv r1, iv (5 : Int32), iv xc] [(.int xc), (.int (5 : Int32)), (.ref r1)])) (fun t k => XS.aloadN X103.here hx rfl (hb hby own_d19_44) rfl rfl (XS.iloadN X103.here hx rfl (hb hby own_d19_45) rfl (XS.iloadN X103.here hx rfl (hb hby own_d19_46) rfl k))) ?_
  have f105 := (O0.wr W103 g1)
  obtain ⟨T106, X106, e106, st106⟩ := getS2 X103 hx hZ hown (host := "") (Or.inl (hw _ (List.mem_of_getElem? (i := 91) rfl))) Via.refl e103 (S_lo.ext f105.2) (g := (mkF m 47 #[rv r1, iv (5 : Int32), iv xc] [(.int xc), (.int (5 : Int32)), (.ref r1)])) rfl (hb hby own_d19_47)
  refine own_by (g' := (mkF m 50 #[rv r1, iv (5 : Int32), iv xc] [(.int (8 : Int32)), (.int xc), (.int (5 : Int32)), (.ref r1)])) st106 ?_
  refine own_by (g' := (mkF m 52 #[rv r1, iv (5 : Int32), iv xc] [(.int ((xc >>> ((8 : Int32) &&& 31))).toInt8.toInt32), (.int (5 : Int32)), (.ref r1)])) (fun t k => XS.ishr X106.here hx rfl (hb hby own_d19_50) rfl (XS.i2b X106.here hx rfl (hb hby own_d19_51) rfl k)) ?_
  obtain ⟨c107, Ar107, q107, S107, G107, H107, F107⟩ := id V104
  have hin107 : ¬ ((5 : Int32) < 0 ∨ c107.slots.size ≤ ((5 : Int32)).toNatClampNeg) := inb_of S107 ⟨by decide, by decide⟩
  obtain ⟨T107, h107, X107, e107, W107, st107⟩ := stB X106 hx hZ e106 Ar107 (j := (5 : Int32)) hin107 (g := (mkF m 52 #[rv r1, iv (5 : Int32), iv xc] [(.int ((xc >>> ((8 : Int32) &&& 31))).toInt8.toInt32), (.int (5 : Int32)), (.ref r1)])) rfl rfl (hb hby own_d19_52)
  have V108 : Arv Z h107 r1 k1 .byte (6 : Int32) [ye0, ye1, ye2, ye3, (.int ((xc >>> ((0 : Int32) &&& 31))).toInt8.toInt32), (.int ((xc >>> ((8 : Int32) &&& 31))).toInt8.toInt32)] (.int (0 : Int32)) := Arv.set Ar107 q107 S107 G107 H107 F107 (fits_nar_byte _) (own_wr W107 (congrArg Value.int (own_b8 _))) 5 rfl (Nat.le_of_ble_eq_true rfl)
  have N107 := Fr.snoc X107 N103 g1
  refine own_by (g' := (mkF m 53 #[rv r1, iv (5 : Int32), iv xc] [])) st107 ?_
  refine own_retV X107 hx hlk hret (hb hby own_d19_53) (by decide) (by decide) ?_
  rw [e107]
  exact ⟨rfl, N107, (((Keep.refl h0 [r1]).wr W103 (Or.inl (List.mem_of_getElem? (i := 0) rfl))).wr W107 (Or.inl (List.mem_of_getElem? (i := 0) rfl))), V108⟩
def Q_own_tob3 (Z : State) (r1 : Addr) (k1 : ClassId) (x0 : Int32) (x1 : Int32) (x2 : Int32) (h0 : Heap) (n0 : Nat) (v : Option Value) (h : Heap) (L : List Loc) : Prop := ∃ (bo : Addr), ∃ (kb : ClassId), v = some (.ref bo) ∧ Fr n0 L ∧ Keep h0 h [] ∧ h0.size ≤ bo ∧ Exa Z h bo "[B" ∧ Arv Z h bo kb .byte (6 : Int32) [(.int ((x0 >>> ((0 : Int32) &&& 31))).toInt8.toInt32), (.int ((x0 >>> ((8 : Int32) &&& 31))).toInt8.toInt32), (.int ((x1 >>> ((0 : Int32) &&& 31))).toInt8.toInt32), (.int ((x1 >>> ((8 : Int32) &&& 31))).toInt8.toInt32), (.int ((x2 >>> ((0 : Int32) &&& 31))).toInt8.toInt32), (.int ((x2 >>> ((8 : Int32) &&& 31))).toInt8.toInt32)] (.int (0 : Int32))
theorem own_ef_own_tob3 (m : MethodId) (r1 : Addr) : entryFrame m #[(.ref r1), (.int (0 : Int32)), (.int (3 : Int32))] 5 = mkF m 0 #[rv r1, iv (0 : Int32), iv (3 : Int32), .unset, .unset] [] := by first | (simp [entryFrame, mkF, argsToLocals, Value.category]; done) | rfl
set_option maxRecDepth 65536 in
set_option maxHeartbeats 40000000 in
theorem own_tob3 (l : Launch) (Z : State) (a0 : Array Value) (hw : ∀ d ∈ tables_1, d.before a0 Z = true) (ws : List Jvm.Cond) (r1 : Addr) (k1 : ClassId) (x0 : Int32) (x1 : Int32) (x2 : Int32) (h0 : Heap) (n0 : Nat) (Z0 : n0 ≤ h0.size) (O0 : Old Z n0 h0) (S_ad : Sta Z Z.heap "java/lang/StringUTF16" "$assertionsDisabled" "Z" (.int (1 : Int32))) (S_hi : Sta Z Z.heap "java/lang/StringUTF16" "HI_BYTE_SHIFT" "I" (.int (0 : Int32))) (S_lo : Sta Z Z.heap "java/lang/StringUTF16" "LO_BYTE_SHIFT" "I" (.int (8 : Int32))) (V1 : Arv Z h0 r1 k1 .char (3 : Int32) [(.int x0), (.int x1), (.int x2)] (.int (0 : Int32))) :
    own_Ctr l Z (⟨"java/lang/StringUTF16", "toBytes", "([CII)[B"⟩ : MethodName) jdk_52_method_14_code 5 (some (.array .byte)) ws ({ frames := 2, cells := 1, slots := 6, locals := 24 } : Room) (({ frames := 2, cells := 1, slots := 6, locals := 24 } : Room)).cells (({ frames := 2, cells := 1, slots := 6, locals := 24 } : Room)).slots #[(.ref r1), (.int (0 : Int32)), (.int (3 : Int32))] h0 (Q_own_tob3 Z r1 k1 x0 x1 x2 h0 n0) := by
  refine own_enter (plainFor_of_name own_pn2) ?_
  intro p e s m below meth c s₁ X0 hx hZ hby hml hown hnm hlk hret e0
  have N0 := Fr.nil n0
  refine own_cast (own_ef_own_tob3 m r1) ?_
  refine own_by (g' := (mkF m 1 #[rv r1, iv (0 : Int32), iv (3 : Int32), .unset, .unset] [(.int (3 : Int32))])) (fun t k => XS.iloadN X0.here hx rfl (hb hby own_d16_0) rfl k) ?_
  refine own_callS X0 hx hZ hown (hw _ (List.mem_of_getElem? (i := 79) rfl)) (hw _ (List.mem_of_getElem? (i := 80) rfl)) (hw _ (List.mem_of_getElem? (i := 22) rfl)) (hw _ (List.mem_of_getElem? (i := 81) rfl)) (by decide) (own_nbf3 l Z a0 hw []  h0 n0 Z0 ) 0 (by decide) (by decide) (by decide) (by decide) e0 (g := (mkF m 1 #[rv r1, iv (0 : Int32), iv (3 : Int32), .unset, .unset] [(.int (3 : Int32))])) rfl (by rw [hml]; rfl) (argsL := [(.int (3 : Int32))]) (rest := []) (lenOf own_pd8 rfl) rfl (by show 2 * 0 + _ ≤ _; exact Nat.le_of_eq rfl) (hb hby own_d16_1) ?_
  intro v101 T101 L101 X101 q101
  obtain ⟨bo101, kb101, rfl, N101q, K101, f102, f103, f104⟩ := q101
  have N101 := Fr.app N0 N101q
  show own_Goes p e below s _ _ _ T101 (mkF m 4 #[rv r1, iv (0 : Int32), iv (3 : Int32), .unset, .unset] [(.ref bo101)])
  refine own_by (g' := (mkF m 17 #[rv r1, iv (0 : Int32), iv (3 : Int32), rv bo101, iv (0 : Int32)] [(.int (0 : Int32)), (.ref bo101)])) (fun t k => XS.astoreN X101.here hx rfl (hb hby own_d16_4) rfl rfl (l' := #[rv r1, iv (0 : Int32), iv (3 : Int32), rv bo101, .unset]) rfl (XS.iconst X101.here hx rfl (hb hby own_d16_5) (XS.istore X101.here hx rfl (hb hby own_d16_6) rfl (l' := #[rv r1, iv (0 : Int32), iv (3 : Int32), rv bo101, iv (0 : Int32)]) rfl (XS.iload X101.here hx rfl (hb hby own_d16_8) rfl (XS.iloadN X101.here hx rfl (hb hby own_d16_10) rfl (XS.icmpNo X101.here hx rfl (hb hby own_d16_11) rfl (tlt (by decide : (0 : Int32) < (3 : Int32))).2.1 (XS.aloadN X101.here hx rfl (hb hby own_d16_14) rfl rfl (XS.iload X101.here hx rfl (hb hby own_d16_15) rfl k)))))))) ?_
  refine own_by (g' := (mkF m 19 #[rv r1, iv (0 : Int32), iv (3 : Int32), rv bo101, iv (0 : Int32)] [(.int (0 : Int32)), (.ref r1), (.int (0 : Int32)), (.ref bo101)])) (fun t k => XS.aloadN X101.here hx rfl (hb hby own_d16_17) rfl rfl (XS.iloadN X101.here hx rfl (hb hby own_d16_18) rfl k)) ?_
  have f105 := (V1.keep K101 nin0)
  obtain ⟨c106, Ar106, q106, S106, G106, H106, F106⟩ := id f105
  have hin106 : ¬ ((0 : Int32) < 0 ∨ c106.slots.size ≤ ((0 : Int32)).toNatClampNeg) := inb_of S106 ⟨by decide, by decide⟩
  have hat106 : c106.slots[((0 : Int32)).toNatClampNeg]? = some (.int x0) := H106.at hin106 rfl
  refine own_by (g' := (mkF m 20 #[rv r1, iv (0 : Int32), iv (3 : Int32), rv bo101, iv (0 : Int32)] [(.int x0), (.int (0 : Int32)), (.ref bo101)])) (fun t k => X101.caload hx (j := (0 : Int32)) (v := (.int x0)) (own_at_ rfl Ar106.1) (State.isArrayOf_alike hZ.alike Ar106.2.1) Ar106.2.2 hin106 hat106 (g := (mkF m 19 #[rv r1, iv (0 : Int32), iv (3 : Int32), rv bo101, iv (0 : Int32)] [(.int (0 : Int32)), (.ref r1), (.int (0 : Int32)), (.ref bo101)])) rfl rfl (hb hby own_d16_19) t k) ?_
  have f107 := (O0.keep K101 all0)
  refine own_callS X101 hx hZ hown (hw _ (List.mem_of_getElem? (i := 86) rfl)) (hw _ (List.mem_of_getElem? (i := 87) rfl)) (hw _ (List.mem_of_getElem? (i := 22) rfl)) (hw _ (List.mem_of_getElem? (i := 88) rfl)) (by decide) (own_putc3_0 l Z a0 hw [] (bo101) (kb101) (x0) ((.int (0 : Int32))) ((.int (0 : Int32))) ((.int (0 : Int32))) ((.int (0 : Int32))) ((.int (0 : Int32))) ((.int (0 : Int32))) T101.heap n0 (Nat.le_trans Z0 K101.1) f107 S_ad S_hi S_lo f104 (Nat.le_trans Z0 f102)) 0 (by decide) (by decide) (by decide) (by decide) rfl (g := (mkF m 20 #[rv r1, iv (0 : Int32), iv (3 : Int32), rv bo101, iv (0 : Int32)] [(.int x0), (.int (0 : Int32)), (.ref bo101)])) rfl (by rw [hml]; rfl) (argsL := [(.ref bo101), (.int (0 : Int32)), (.int x0)]) (rest := []) (lenOf own_pd9 rfl) rfl (by show 2 * 0 + _ ≤ _; exact Nat.le_of_eq rfl) (hb hby own_d16_20) ?_
  intro v108 T108 L108 X108 q108
  obtain ⟨rfl, N108q, K108, f109⟩ := q108
  have N108 := Fr.app N101 N108q
  show own_Goes p e below s _ _ _ T108 (mkF m 23 #[rv r1, iv (0 : Int32), iv (3 : Int32), rv bo101, iv (0 : Int32)] [])
  refine own_by (g' := (mkF m 17 #[rv r1, iv (1 : Int32), iv (3 : Int32), rv bo101, iv (1 : Int32)] [(.int (1 : Int32)), (.ref bo101)])) (fun t k => XS.iinc X108.here hx rfl (hb hby own_d16_23) rfl (l' := #[rv r1, iv (1 : Int32), iv (3 : Int32), rv bo101, iv (0 : Int32)]) rfl (XS.iinc X108.here hx rfl (hb hby own_d16_26) rfl (l' := #[rv r1, iv (1 : Int32), iv (3 : Int32), rv bo101, iv (1 : Int32)]) rfl (XS.goto X108.here hx rfl (pc0 := 29) (pc' := 8) rfl (hb hby own_d16_29) (by decide) (by decide) (XS.iload X108.here hx rfl (hb hby own_d16_8) rfl (XS.iloadN X108.here hx rfl (hb hby own_d16_10) rfl (XS.icmpNo X108.here hx rfl (hb hby own_d16_11) rfl (tlt (by decide : (1 : Int32) < (3 : Int32))).2.1 (XS.aloadN X108.here hx rfl (hb hby own_d16_14) rfl rfl (XS.iload X108.here hx rfl (hb hby own_d16_15) rfl k)))))))) ?_
  refine own_by (g' := (mkF m 19 #[rv r1, iv (1 : Int32), iv (3 : Int32), rv bo101, iv (1 : Int32)] [(.int (1 : Int32)), (.ref r1), (.int (1 : Int32)), (.ref bo101)])) (fun t k => XS.aloadN X108.here hx rfl (hb hby own_d16_17) rfl rfl (XS.iloadN X108.here hx rfl (hb hby own_d16_18) rfl k)) ?_
  have f110 := (f105.keep K108 (ninS (Nat.ne_of_lt (Nat.lt_of_lt_of_le (Nat.lt_of_lt_of_le V1.lt (Nat.le_refl _)) f102)) nin0))
  obtain ⟨c111, Ar111, q111, S111, G111, H111, F111⟩ := id f110
  have hin111 : ¬ ((1 : Int32) < 0 ∨ c111.slots.size ≤ ((1 : Int32)).toNatClampNeg) := inb_of S111 ⟨by decide, by decide⟩
  have hat111 : c111.slots[((1 : Int32)).toNatClampNeg]? = some (.int x1) := H111.at hin111 rfl
  refine own_by (g' := (mkF m 20 #[rv r1, iv (1 : Int32), iv (3 : Int32), rv bo101, iv (1 : Int32)] [(.int x1), (.int (1 : Int32)), (.ref bo101)])) (fun t k => X108.caload hx (j := (1 : Int32)) (v := (.int x1)) (own_at_ rfl Ar111.1) (State.isArrayOf_alike hZ.alike Ar111.2.1) Ar111.2.2 hin111 hat111 (g := (mkF m 19 #[rv r1, iv (1 : Int32), iv (3 : Int32), rv bo101, iv (1 : Int32)] [(.int (1 : Int32)), (.ref r1), (.int (1 : Int32)), (.ref bo101)])) rfl rfl (hb hby own_d16_19) t k) ?_
  have f112 := (f107.keep K108 (allS (Nat.le_trans Z0 f102) all0))
  refine own_callS X108 hx hZ hown (hw _ (List.mem_of_getElem? (i := 86) rfl)) (hw _ (List.mem_of_getElem? (i := 87) rfl)) (hw _ (List.mem_of_getElem? (i := 22) rfl)) (hw _ (List.mem_of_getElem? (i := 88) rfl)) (by decide) (own_putc3_1 l Z a0 hw [] (bo101) (kb101) (x1) ((.int ((x0 >>> ((0 : Int32) &&& 31))).toInt8.toInt32)) ((.int ((x0 >>> ((8 : Int32) &&& 31))).toInt8.toInt32)) ((.int (0 : Int32))) ((.int (0 : Int32))) ((.int (0 : Int32))) ((.int (0 : Int32))) T108.heap n0 (Nat.le_trans Z0 (Nat.le_trans K101.1 K108.1)) f112 S_ad S_hi S_lo f109 (Nat.le_trans Z0 f102)) 0 (by decide) (by decide) (by decide) (by decide) rfl (g := (mkF m 20 #[rv r1, iv (1 : Int32), iv (3 : Int32), rv bo101, iv (1 : Int32)] [(.int x1), (.int (1 : Int32)), (.ref bo101)])) rfl (by rw [hml]; rfl) (argsL := [(.ref bo101), (.int (1 : Int32)), (.int x1)]) (rest := []) (lenOf own_pd9 rfl) rfl (by show 2 * 0 + _ ≤ _; exact Nat.le_of_eq rfl) (hb hby own_d16_20) ?_
  intro v113 T113 L113 X113 q113
  obtain ⟨rfl, N113q, K113, f114⟩ := q113
  have N113 := Fr.app N108 N113q
  show own_Goes p e below s _ _ _ T113 (mkF m 23 #[rv r1, iv (1 : Int32), iv (3 : Int32), rv bo101, iv (1 : Int32)] [])
  refine own_by (g' := (mkF m 17 #[rv r1, iv (2 : Int32), iv (3 : Int32), rv bo101, iv (2 : Int32)] [(.int (2 : Int32)), (.ref bo101)])) (fun t k => XS.iinc X113.here hx rfl (hb hby own_d16_23) rfl (l' := #[rv r1, iv (2 : Int32), iv (3 : Int32), rv bo101, iv (1 : Int32)]) rfl (XS.iinc X113.here hx rfl (hb hby own_d16_26) rfl (l' := #[rv r1, iv (2 : Int32), iv (3 : Int32), rv bo101, iv (2 : Int32)]) rfl (XS.goto X113.here hx rfl (pc0 := 29) (pc' := 8) rfl (hb hby own_d16_29) (by decide) (by decide) (XS.iload X113.here hx rfl (hb hby own_d16_8) rfl (XS.iloadN X113.here hx rfl (hb hby own_d16_10) rfl (XS.icmpNo X113.here hx rfl (hb hby own_d16_11) rfl (tlt (by decide : (2 : Int32) < (3 : Int32))).2.1 (XS.aloadN X113.here hx rfl (hb hby own_d16_14) rfl rfl (XS.iload X113.here hx rfl (hb hby own_d16_15) rfl k)))))))) ?_
  refine own_by (g' := (mkF m 19 #[rv r1, iv (2 : Int32), iv (3 : Int32), rv bo101, iv (2 : Int32)] [(.int (2 : Int32)), (.ref r1), (.int (2 : Int32)), (.ref bo101)])) (fun t k => XS.aloadN X113.here hx rfl (hb hby own_d16_17) rfl rfl (XS.iloadN X113.here hx rfl (hb hby own_d16_18) rfl k)) ?_
  have f115 := (f110.keep K113 (ninS (Nat.ne_of_lt (Nat.lt_of_lt_of_le (Nat.lt_of_lt_of_le V1.lt (Nat.le_refl _)) f102)) nin0))
  obtain ⟨c116, Ar116, q116, S116, G116, H116, F116⟩ := id f115
  have hin116 : ¬ ((2 : Int32) < 0 ∨ c116.slots.size ≤ ((2 : Int32)).toNatClampNeg) := inb_of S116 ⟨by decide, by decide⟩
  have hat116 : c116.slots[((2 : Int32)).toNatClampNeg]? = some (.int x2) := H116.at hin116 rfl
  refine own_by (g' := (mkF m 20 #[rv r1, iv (2 : Int32), iv (3 : Int32), rv bo101, iv (2 : Int32)] [(.int x2), (.int (2 : Int32)), (.ref bo101)])) (fun t k => X113.caload hx (j := (2 : Int32)) (v := (.int x2)) (own_at_ rfl Ar116.1) (State.isArrayOf_alike hZ.alike Ar116.2.1) Ar116.2.2 hin116 hat116 (g := (mkF m 19 #[rv r1, iv (2 : Int32), iv (3 : Int32), rv bo101, iv (2 : Int32)] [(.int (2 : Int32)), (.ref r1), (.int (2 : Int32)), (.ref bo101)])) rfl rfl (hb hby own_d16_19) t k) ?_
  have f117 := (f112.keep K113 (allS (Nat.le_trans Z0 f102) all0))
  refine own_callS X113 hx hZ hown (hw _ (List.mem_of_getElem? (i := 86) rfl)) (hw _ (List.mem_of_getElem? (i := 87) rfl)) (hw _ (List.mem_of_getElem? (i := 22) rfl)) (hw _ (List.mem_of_getElem? (i := 88) rfl)) (by decide) (own_putc3_2 l Z a0 hw [] (bo101) (kb101) (x2) ((.int ((x0 >>> ((0 : Int32) &&& 31))).toInt8.toInt32)) ((.int ((x0 >>> ((8 : Int32) &&& 31))).toInt8.toInt32)) ((.int ((x1 >>> ((0 : Int32) &&& 31))).toInt8.toInt32)) ((.int ((x1 >>> ((8 : Int32) &&& 31))).toInt8.toInt32)) ((.int (0 : Int32))) ((.int (0 : Int32))) T113.heap n0 (Nat.le_trans Z0 (Nat.le_trans (Nat.le_trans K101.1 K108.1) K113.1)) f117 S_ad S_hi S_lo f114 (Nat.le_trans Z0 f102)) 0 (by decide) (by decide) (by decide) (by decide) rfl (g := (mkF m 20 #[rv r1, iv (2 : Int32), iv (3 : Int32), rv bo101, iv (2 : Int32)] [(.int x2), (.int (2 : Int32)), (.ref bo101)])) rfl (by rw [hml]; rfl) (argsL := [(.ref bo101), (.int (2 : Int32)), (.int x2)]) (rest := []) (lenOf own_pd9 rfl) rfl (by show 2 * 0 + _ ≤ _; exact Nat.le_of_eq rfl) (hb hby own_d16_20) ?_
  intro v118 T118 L118 X118 q118
  obtain ⟨rfl, N118q, K118, f119⟩ := q118
  have N118 := Fr.app N113 N118q
  show own_Goes p e below s _ _ _ T118 (mkF m 23 #[rv r1, iv (2 : Int32), iv (3 : Int32), rv bo101, iv (2 : Int32)] [])
  refine own_by (g' := (mkF m 33 #[rv r1, iv (3 : Int32), iv (3 : Int32), rv bo101, iv (3 : Int32)] [(.ref bo101)])) (fun t k => XS.iinc X118.here hx rfl (hb hby own_d16_23) rfl (l' := #[rv r1, iv (3 : Int32), iv (3 : Int32), rv bo101, iv (2 : Int32)]) rfl (XS.iinc X118.here hx rfl (hb hby own_d16_26) rfl (l' := #[rv r1, iv (3 : Int32), iv (3 : Int32), rv bo101, iv (3 : Int32)]) rfl (XS.goto X118.here hx rfl (pc0 := 29) (pc' := 8) rfl (hb hby own_d16_29) (by decide) (by decide) (XS.iload X118.here hx rfl (hb hby own_d16_8) rfl (XS.iloadN X118.here hx rfl (hb hby own_d16_10) rfl (XS.icmpYes X118.here hx rfl (pc0 := 11) (pc' := 32) rfl (hb hby own_d16_11) rfl (flt (by decide : ¬ ((3 : Int32) < (3 : Int32)))).2.1 (by decide) (by decide) (XS.aloadN X118.here hx rfl (hb hby own_d16_32) rfl rfl k))))))) ?_
  have f120 := (((f103.keep K108).keep K113).keep K118)
  refine own_retA X118 hx hlk hret rfl rfl (hb hby own_d16_33) (by decide) (by decide) ?_
  exact ⟨bo101, kb101, rfl, N118, (((((Keep.refl h0 []).trans K101 all0).trans K108 (allS (Or.inr (Nat.le_trans (Nat.le_refl _) f102)) all0)).trans K113 (allS (Or.inr (Nat.le_trans (Nat.le_refl _) f102)) all0)).trans K118 (allS (Or.inr (Nat.le_trans (Nat.le_refl _) f102)) all0)), (Nat.le_trans (Nat.le_refl _) f102), f120, f119⟩
def Q_own_com5_3 (Z : State) (r1 : Addr) (r2 : Addr) (k1 : ClassId) (k2 : ClassId) (x0 : Int32) (x1 : Int32) (x2 : Int32) (h0 : Heap) (n0 : Nat) (v : Option Value) (h : Heap) (L : List Loc) : Prop := ∃ (cnt : Int32), ∃ (vs : List Value), v = some (.int cnt) ∧ Fr n0 L ∧ Keep h0 h [r2] ∧ Arv Z h r2 k2 .byte (3 : Int32) vs (.int (0 : Int32)) ∧ ((cnt = (3 : Int32) ∧ vs = [(.int (x0).toInt8.toInt32), (.int (x1).toInt8.toInt32), (.int (x2).toInt8.toInt32)] ∧ ¬ ((255 : Int32) < x0) ∧ ¬ ((255 : Int32) < x1) ∧ ¬ ((255 : Int32) < x2)) ∨ (cnt = (0 : Int32) ∧ (255 : Int32) < x0) ∨ (cnt = (1 : Int32) ∧ (255 : Int32) < x1) ∨ (cnt = (2 : Int32) ∧ (255 : Int32) < x2))
theorem own_ef_own_com5_3 (m : MethodId) (r1 : Addr) (r2 : Addr) : entryFrame m #[(.ref r1), (.int (0 : Int32)), (.ref r2), (.int (0 : Int32)), (.int (3 : Int32))] 7 = mkF m 0 #[rv r1, iv (0 : Int32), rv r2, iv (0 : Int32), iv (3 : Int32), .unset, .unset] [] := by first | (simp [entryFrame, mkF, argsToLocals, Value.category]; done) | rfl
set_option maxRecDepth 65536 in
set_option maxHeartbeats 40000000 in
theorem own_com5_3 (l : Launch) (Z : State) (a0 : Array Value) (hw : ∀ d ∈ tables_1, d.before a0 Z = true) (ws : List Jvm.Cond) (r1 : Addr) (r2 : Addr) (k1 : ClassId) (k2 : ClassId) (x0 : Int32) (x1 : Int32) (x2 : Int32) (h0 : Heap) (n0 : Nat) (Z0 : n0 ≤ h0.size) (V1 : Arv Z h0 r1 k1 .char (3 : Int32) [(.int x0), (.int x1), (.int x2)] (.int (0 : Int32))) (V2 : Arv Z h0 r2 k2 .byte (3 : Int32) [(.int (0 : Int32)), (.int (0 : Int32)), (.int (0 : Int32))] (.int (0 : Int32))) (g2 : n0 ≤ r2) (n12 : r1 ≠ r2) :
    own_Ctr l Z (⟨"java/lang/StringUTF16", "compress", "([CI[BII)I"⟩ : MethodName) jdk_52_method_21_code 7 (some .int) ws ({ frames := 0, cells := 0, slots := 0, locals := 0 } : Room) (({ frames := 0, cells := 0, slots := 0, locals := 0 } : Room)).cells (({ frames := 0, cells := 0, slots := 0, locals := 0 } : Room)).slots #[(.ref r1), (.int (0 : Int32)), (.ref r2), (.int (0 : Int32)), (.int (3 : Int32))] h0 (Q_own_com5_3 Z r1 r2 k1 k2 x0 x1 x2 h0 n0) := by
  refine own_enter (plainFor_of_name own_pn2) ?_
  intro p e s m below meth c s₁ X0 hx hZ hby hml hown hnm hlk hret e0
  have N0 := Fr.nil n0
  refine own_cast (own_ef_own_com5_3 m r1 r2) ?_
  refine own_by (g' := (mkF m 12 #[rv r1, iv (0 : Int32), rv r2, iv (0 : Int32), iv (3 : Int32), iv (0 : Int32), .unset] [(.int (0 : Int32)), (.ref r1)])) (fun t k => XS.iconst X0.here hx rfl (hb hby own_d6_0) (XS.istore X0.here hx rfl (hb hby own_d6_1) rfl (l' := #[rv r1, iv (0 : Int32), rv r2, iv (0 : Int32), iv (3 : Int32), iv (0 : Int32), .unset]) rfl (XS.iload X0.here hx rfl (hb hby own_d6_3) rfl (XS.iload X0.here hx rfl (hb hby own_d6_5) rfl (XS.icmpNo X0.here hx rfl (hb hby own_d6_7) rfl (tlt (by decide : (0 : Int32) < (3 : Int32))).2.1 (XS.aloadN X0.here hx rfl (hb hby own_d6_10) rfl rfl (XS.iloadN X0.here hx rfl (hb hby own_d6_11) rfl k))))))) ?_
  obtain ⟨c101, Ar101, q101, S101, G101, H101, F101⟩ := id V1
  have hin101 : ¬ ((0 : Int32) < 0 ∨ c101.slots.size ≤ ((0 : Int32)).toNatClampNeg) := inb_of S101 ⟨by decide, by decide⟩
  have hat101 : c101.slots[((0 : Int32)).toNatClampNeg]? = some (.int x0) := H101.at hin101 rfl
  refine own_by (g' := (mkF m 20 #[rv r1, iv (0 : Int32), rv r2, iv (0 : Int32), iv (3 : Int32), iv (0 : Int32), iv x0] [(.int (255 : Int32)), (.int x0)])) (fun t k => X0.caload hx (j := (0 : Int32)) (v := (.int x0)) (own_at_ e0 Ar101.1) (State.isArrayOf_alike hZ.alike Ar101.2.1) Ar101.2.2 hin101 hat101 (g := (mkF m 12 #[rv r1, iv (0 : Int32), rv r2, iv (0 : Int32), iv (3 : Int32), iv (0 : Int32), .unset] [(.int (0 : Int32)), (.ref r1)])) rfl rfl (hb hby own_d6_12) t (XS.istore X0.here hx rfl (hb hby own_d6_13) rfl (l' := #[rv r1, iv (0 : Int32), rv r2, iv (0 : Int32), iv (3 : Int32), iv (0 : Int32), iv x0]) rfl (XS.iload X0.here hx rfl (hb hby own_d6_15) rfl (XS.sipush X0.here hx rfl (hb hby own_d6_17) k)))) ?_
  by_cases hc102 : (255 : Int32) < x0
  ·
    refine own_by (g' := (mkF m 25 #[rv r1, iv (0 : Int32), rv r2, iv (0 : Int32), iv (3 : Int32), iv (0 : Int32), iv x0] [(.int (0 : Int32))])) (fun t k => XS.icmpNo X0.here hx rfl (hb hby own_d6_20) rfl (tlt hc102).2.2.2 (XS.iload X0.here hx rfl (hb hby own_d6_23) rfl k)) ?_
    refine own_retI X0 hx hlk hret (hb hby own_d6_25) (by decide) (by decide) ?_
    rw [e0]
    exact ⟨(0 : Int32), [(.int (0 : Int32)), (.int (0 : Int32)), (.int (0 : Int32))], rfl, N0, (Keep.refl h0 [r2]), V2, (Or.inr (Or.inl ⟨rfl, hc102⟩))⟩
  ·
    refine own_by (g' := (mkF m 31 #[rv r1, iv (0 : Int32), rv r2, iv (0 : Int32), iv (3 : Int32), iv (0 : Int32), iv x0] [(.int (x0).toInt8.toInt32), (.int (0 : Int32)), (.ref r2)])) (fun t k => XS.icmpYes X0.here hx rfl (pc0 := 20) (pc' := 26) rfl (hb hby own_d6_20) rfl (flt hc102).2.2.2 (by decide) (by decide) (XS.aloadN X0.here hx rfl (hb hby own_d6_26) rfl rfl (XS.iloadN X0.here hx rfl (hb hby own_d6_27) rfl (XS.iload X0.here hx rfl (hb hby own_d6_28) rfl (XS.i2b X0.here hx rfl (hb hby own_d6_30) rfl k))))) ?_
    obtain ⟨c103, Ar103, q103, S103, G103, H103, F103⟩ := id V2
    have hin103 : ¬ ((0 : Int32) < 0 ∨ c103.slots.size ≤ ((0 : Int32)).toNatClampNeg) := inb_of S103 ⟨by decide, by decide⟩
    obtain ⟨T103, h103, X103, e103, W103, st103⟩ := stB X0 hx hZ e0 Ar103 (j := (0 : Int32)) hin103 (g := (mkF m 31 #[rv r1, iv (0 : Int32), rv r2, iv (0 : Int32), iv (3 : Int32), iv (0 : Int32), iv x0] [(.int (x0).toInt8.toInt32), (.int (0 : Int32)), (.ref r2)])) rfl rfl (hb hby own_d6_31)
    have V104 : Arv Z h103 r2 k2 .byte (3 : Int32) [(.int (x0).toInt8.toInt32), (.int (0 : Int32)), (.int (0 : Int32))] (.int (0 : Int32)) := Arv.set Ar103 q103 S103 G103 H103 F103 (fits_nar_byte _) (own_wr W103 (congrArg Value.int (own_b8 _))) 0 rfl (Nat.le_of_ble_eq_true rfl)
    have N103 := Fr.snoc X103 N0 g2
    refine own_by (g' := (mkF m 32 #[rv r1, iv (0 : Int32), rv r2, iv (0 : Int32), iv (3 : Int32), iv (0 : Int32), iv x0] [])) st103 ?_
    refine own_by (g' := (mkF m 11 #[rv r1, iv (1 : Int32), rv r2, iv (1 : Int32), iv (3 : Int32), iv (1 : Int32), iv x0] [(.ref r1)])) (fun t k => XS.iinc X103.here hx rfl (hb hby own_d6_32) rfl (l' := #[rv r1, iv (1 : Int32), rv r2, iv (0 : Int32), iv (3 : Int32), iv (0 : Int32), iv x0]) rfl (XS.iinc X103.here hx rfl (hb hby own_d6_35) rfl (l' := #[rv r1, iv (1 : Int32), rv r2, iv (1 : Int32), iv (3 : Int32), iv (0 : Int32), iv x0]) rfl (XS.iinc X103.here hx rfl (hb hby own_d6_38) rfl (l' := #[rv r1, iv (1 : Int32), rv r2, iv (1 : Int32), iv (3 : Int32), iv (1 : Int32), iv x0]) rfl (XS.goto X103.here hx rfl (pc0 := 41) (pc' := 3) rfl (hb hby own_d6_41) (by decide) (by decide) (XS.iload X103.here hx rfl (hb hby own_d6_3) rfl (XS.iload X103.here hx rfl (hb hby own_d6_5) rfl (XS.icmpNo X103.here hx rfl (hb hby own_d6_7) rfl (tlt (by decide : (1 : Int32) < (3 : Int32))).2.1 (XS.aloadN X103.here hx rfl (hb hby own_d6_10) rfl rfl k)))))))) ?_
    refine own_by (g' := (mkF m 12 #[rv r1, iv (1 : Int32), rv r2, iv (1 : Int32), iv (3 : Int32), iv (1 : Int32), iv x0] [(.int (1 : Int32)), (.ref r1)])) (fun t k => XS.iloadN X103.here hx rfl (hb hby own_d6_11) rfl k) ?_
    have f105 := (V1.other W103 n12)
    obtain ⟨c106, Ar106, q106, S106, G106, H106, F106⟩ := id f105
    have hin106 : ¬ ((1 : Int32) < 0 ∨ c106.slots.size ≤ ((1 : Int32)).toNatClampNeg) := inb_of S106 ⟨by decide, by decide⟩
    have hat106 : c106.slots[((1 : Int32)).toNatClampNeg]? = some (.int x1) := H106.at hin106 rfl
    refine own_by (g' := (mkF m 20 #[rv r1, iv (1 : Int32), rv r2, iv (1 : Int32), iv (3 : Int32), iv (1 : Int32), iv x1] [(.int (255 : Int32)), (.int x1)])) (fun t k => X103.caload hx (j := (1 : Int32)) (v := (.int x1)) (own_at_ e103 Ar106.1) (State.isArrayOf_alike hZ.alike Ar106.2.1) Ar106.2.2 hin106 hat106 (g := (mkF m 12 #[rv r1, iv (1 : Int32), rv r2, iv (1 : Int32), iv (3 : Int32), iv (1 : Int32), iv x0] [(.int (1 : Int32)), (.ref r1)])) rfl rfl (hb hby own_d6_12) t (XS.istore X103.here hx rfl (hb hby own_d6_13) rfl (l' := #[rv r1, iv (1 : Int32), rv r2, iv (1 : Int32), iv (3 : Int32), iv (1 : Int32), iv x1]) rfl (XS.iload X103.here hx rfl (hb hby own_d6_15) rfl (XS.sipush X103.here hx rfl (hb hby own_d6_17) k)))) ?_
    by_cases hc107 : (255 : Int32) < x1
    ·
      refine own_by (g' := (mkF m 25 #[rv r1, iv (1 : Int32), rv r2, iv (1 : Int32), iv (3 : Int32), iv (1 : Int32), iv x1] [(.int (1 : Int32))])) (fun t k => XS.icmpNo X103.here hx rfl (hb hby own_d6_20) rfl (tlt hc107).2.2.2 (XS.iload X103.here hx rfl (hb hby own_d6_23) rfl k)) ?_
      refine own_retI X103 hx hlk hret (hb hby own_d6_25) (by decide) (by decide) ?_
      rw [e103]
      exact ⟨(1 : Int32), [(.int (x0).toInt8.toInt32), (.int (0 : Int32)), (.int (0 : Int32))], rfl, N103, ((Keep.refl h0 [r2]).wr W103 (Or.inl (List.mem_of_getElem? (i := 0) rfl))), V104, (Or.inr (Or.inr (Or.inl ⟨rfl, hc107⟩)))⟩
    ·
      refine own_by (g' := (mkF m 31 #[rv r1, iv (1 : Int32), rv r2, iv (1 : Int32), iv (3 : Int32), iv (1 : Int32), iv x1] [(.int (x1).toInt8.toInt32), (.int (1 : Int32)), (.ref r2)])) (fun t k => XS.icmpYes X103.here hx rfl (pc0 := 20) (pc' := 26) rfl (hb hby own_d6_20) rfl (flt hc107).2.2.2 (by decide) (by decide) (XS.aloadN X103.here hx rfl (hb hby own_d6_26) rfl rfl (XS.iloadN X103.here hx rfl (hb hby own_d6_27) rfl (XS.iload X103.here hx rfl (hb hby own_d6_28) rfl (XS.i2b X103.here hx rfl (hb hby own_d6_30) rfl k))))) ?_
      obtain ⟨c108, Ar108, q108, S108, G108, H108, F108⟩ := id V104
      have hin108 : ¬ ((1 : Int32) < 0 ∨ c108.slots.size ≤ ((1 : Int32)).toNatClampNeg) := inb_of S108 ⟨by decide, by decide⟩
      obtain ⟨T108, h108, X108, e108, W108, st108⟩ := stB X103 hx hZ e103 Ar108 (j := (1 : Int32)) hin108 (g := (mkF m 31 #[rv r1, iv (1 : Int32), rv r2, iv (1 : Int32), iv (3 : Int32), iv (1 : Int32), iv x1] [(.int (x1).toInt8.toInt32), (.int (1 : Int32)), (.ref r2)])) rfl rfl (hb hby own_d6_31)
      have V109 : Arv Z h108 r2 k2 .byte (3 : Int32) [(.int (x0).toInt8.toInt32), (.int (x1).toInt8.toInt32), (.int (0 : Int32))] (.int (0 : Int32)) := Arv.set Ar108 q108 S108 G108 H108 F108 (fits_nar_byte _) (own_wr W108 (congrArg Value.int (own_b8 _))) 1 rfl (Nat.le_of_ble_eq_true rfl)
      have N108 := Fr.snoc X108 N103 g2
      refine own_by (g' := (mkF m 32 #[rv r1, iv (1 : Int32), rv r2, iv (1 : Int32), iv (3 : Int32), iv (1 : Int32), iv x1] [])) st108 ?_
      refine own_by (g' := (mkF m 11 #[rv r1, iv (2 : Int32), rv r2, iv (2 : Int32), iv (3 : Int32), iv (2 : Int32), iv x1] [(.ref r1)])) (fun t k => XS.iinc X108.here hx rfl (hb hby own_d6_32) rfl (l' := #[rv r1, iv (2 : Int32), rv r2, iv (1 : Int32), iv (3 : Int32), iv (1 : Int32), iv x1]) rfl (XS.iinc X108.here hx rfl (hb hby own_d6_35) rfl (l' := #[rv r1, iv (2 : Int32), rv r2, iv (2 : Int32), iv (3 : Int32), iv (1 : Int32), iv x1]) rfl (XS.iinc X108.here hx rfl (hb hby own_d6_38) rfl (l' := #[rv r1, iv (2 : Int32), rv r2, iv (2 : Int32), iv (3 : Int32), iv (2 : Int32), iv x1]) rfl (XS.goto X108.here hx rfl (pc0 := 41) (pc' := 3) rfl (hb hby own_d6_41) (by decide) (by decide) (XS.iload X108.here hx rfl (hb hby own_d6_3) rfl (XS.iload X108.here hx rfl (hb hby own_d6_5) rfl (XS.icmpNo X108.here hx rfl (hb hby own_d6_7) rfl (tlt (by decide : (2 : Int32) < (3 : Int32))).2.1 (XS.aloadN X108.here hx rfl (hb hby own_d6_10) rfl rfl k)))))))) ?_
      refine own_by (g' := (mkF m 12 #[rv r1, iv (2 : Int32), rv r2, iv (2 : Int32), iv (3 : Int32), iv (2 : Int32), iv x1] [(.int (2 : Int32)), (.ref r1)])) (fun t k => XS.iloadN X108.here hx rfl (hb hby own_d6_11) rfl k) ?_
      have f110 := (f105.other W108 n12)
      obtain ⟨c111, Ar111, q111, S111, G111, H111, F111⟩ := id f110
      have hin111 : ¬ ((2 : Int32) < 0 ∨ c111.slots.size ≤ ((2 : Int32)).toNatClampNeg) := inb_of S111 ⟨by decide, by decide⟩
      have hat111 : c111.slots[((2 : Int32)).toNatClampNeg]? = some (.int x2) := H111.at hin111 rfl
      refine own_by (g' := (mkF m 20 #[rv r1, iv (2 : Int32), rv r2, iv (2 : Int32), iv (3 : Int32), iv (2 : Int32), iv x2] [(.int (255 : Int32)), (.int x2)])) (fun t k => X108.caload hx (j := (2 : Int32)) (v := (.int x2)) (own_at_ e108 Ar111.1) (State.isArrayOf_alike hZ.alike Ar111.2.1) Ar111.2.2 hin111 hat111 (g := (mkF m 12 #[rv r1, iv (2 : Int32), rv r2, iv (2 : Int32), iv (3 : Int32), iv (2 : Int32), iv x1] [(.int (2 : Int32)), (.ref r1)])) rfl rfl (hb hby own_d6_12) t (XS.istore X108.here hx rfl (hb hby own_d6_13) rfl (l' := #[rv r1, iv (2 : Int32), rv r2, iv (2 : Int32), iv (3 : Int32), iv (2 : Int32), iv x2]) rfl (XS.iload X108.here hx rfl (hb hby own_d6_15) rfl (XS.sipush X108.here hx rfl (hb hby own_d6_17) k)))) ?_
      by_cases hc112 : (255 : Int32) < x2
      ·
        refine own_by (g' := (mkF m 25 #[rv r1, iv (2 : Int32), rv r2, iv (2 : Int32), iv (3 : Int32), iv (2 : Int32), iv x2] [(.int (2 : Int32))])) (fun t k => XS.icmpNo X108.here hx rfl (hb hby own_d6_20) rfl (tlt hc112).2.2.2 (XS.iload X108.here hx rfl (hb hby own_d6_23) rfl k)) ?_
        refine own_retI X108 hx hlk hret (hb hby own_d6_25) (by decide) (by decide) ?_
        rw [e108]
        exact ⟨(2 : Int32), [(.int (x0).toInt8.toInt32), (.int (x1).toInt8.toInt32), (.int (0 : Int32))], rfl, N108, (((Keep.refl h0 [r2]).wr W103 (Or.inl (List.mem_of_getElem? (i := 0) rfl))).wr W108 (Or.inl (List.mem_of_getElem? (i := 0) rfl))), V109, (Or.inr (Or.inr (Or.inr (⟨rfl, hc112⟩))))⟩
      ·
        refine own_by (g' := (mkF m 31 #[rv r1, iv (2 : Int32), rv r2, iv (2 : Int32), iv (3 : Int32), iv (2 : Int32), iv x2] [(.int (x2).toInt8.toInt32), (.int (2 : Int32)), (.ref r2)])) (fun t k => XS.icmpYes X108.here hx rfl (pc0 := 20) (pc' := 26) rfl (hb hby own_d6_20) rfl (flt hc112).2.2.2 (by decide) (by decide) (XS.aloadN X108.here hx rfl (hb hby own_d6_26) rfl rfl (XS.iloadN X108.here hx rfl (hb hby own_d6_27) rfl (XS.iload X108.here hx rfl (hb hby own_d6_28) rfl (XS.i2b X108.here hx rfl (hb hby own_d6_30) rfl k))))) ?_
        obtain ⟨c113, Ar113, q113, S113, G113, H113, F113⟩ := id V109
        have hin113 : ¬ ((2 : Int32) < 0 ∨ c113.slots.size ≤ ((2 : Int32)).toNatClampNeg) := inb_of S113 ⟨by decide, by decide⟩
        obtain ⟨T113, h113, X113, e113, W113, st113⟩ := stB X108 hx hZ e108 Ar113 (j := (2 : Int32)) hin113 (g := (mkF m 31 #[rv r1, iv (2 : Int32), rv r2, iv (2 : Int32), iv (3 : Int32), iv (2 : Int32), iv x2] [(.int (x2).toInt8.toInt32), (.int (2 : Int32)), (.ref r2)])) rfl rfl (hb hby own_d6_31)
        have V114 : Arv Z h113 r2 k2 .byte (3 : Int32) [(.int (x0).toInt8.toInt32), (.int (x1).toInt8.toInt32), (.int (x2).toInt8.toInt32)] (.int (0 : Int32)) := Arv.set Ar113 q113 S113 G113 H113 F113 (fits_nar_byte _) (own_wr W113 (congrArg Value.int (own_b8 _))) 2 rfl (Nat.le_of_ble_eq_true rfl)
        have N113 := Fr.snoc X113 N108 g2
        refine own_by (g' := (mkF m 32 #[rv r1, iv (2 : Int32), rv r2, iv (2 : Int32), iv (3 : Int32), iv (2 : Int32), iv x2] [])) st113 ?_
        refine own_by (g' := (mkF m 46 #[rv r1, iv (3 : Int32), rv r2, iv (3 : Int32), iv (3 : Int32), iv (3 : Int32), iv x2] [(.int (3 : Int32))])) (fun t k => XS.iinc X113.here hx rfl (hb hby own_d6_32) rfl (l' := #[rv r1, iv (3 : Int32), rv r2, iv (2 : Int32), iv (3 : Int32), iv (2 : Int32), iv x2]) rfl (XS.iinc X113.here hx rfl (hb hby own_d6_35) rfl (l' := #[rv r1, iv (3 : Int32), rv r2, iv (3 : Int32), iv (3 : Int32), iv (2 : Int32), iv x2]) rfl (XS.iinc X113.here hx rfl (hb hby own_d6_38) rfl (l' := #[rv r1, iv (3 : Int32), rv r2, iv (3 : Int32), iv (3 : Int32), iv (3 : Int32), iv x2]) rfl (XS.goto X113.here hx rfl (pc0 := 41) (pc' := 3) rfl (hb hby own_d6_41) (by decide) (by decide) (XS.iload X113.here hx rfl (hb hby own_d6_3) rfl (XS.iload X113.here hx rfl (hb hby own_d6_5) rfl (XS.icmpYes X113.here hx rfl (pc0 := 7) (pc' := 44) rfl (hb hby own_d6_7) rfl (flt (by decide : ¬ ((3 : Int32) < (3 : Int32)))).2.1 (by decide) (by decide) (XS.iload X113.here hx rfl (hb hby own_d6_44) rfl k)))))))) ?_
        refine own_retI X113 hx hlk hret (hb hby own_d6_46) (by decide) (by decide) ?_
        rw [e113]
        exact ⟨(3 : Int32), [(.int (x0).toInt8.toInt32), (.int (x1).toInt8.toInt32), (.int (x2).toInt8.toInt32)], rfl, N113, ((((Keep.refl h0 [r2]).wr W103 (Or.inl (List.mem_of_getElem? (i := 0) rfl))).wr W108 (Or.inl (List.mem_of_getElem? (i := 0) rfl))).wr W113 (Or.inl (List.mem_of_getElem? (i := 0) rfl))), V114, (Or.inl ⟨rfl, rfl, hc102, hc107, hc112⟩)⟩
def Q_own_com3_3 (Z : State) (r1 : Addr) (k1 : ClassId) (x0 : Int32) (x1 : Int32) (x2 : Int32) (h0 : Heap) (n0 : Nat) (v : Option Value) (h : Heap) (L : List Loc) : Prop := ∃ (bo : Addr), ∃ (kb : ClassId), ∃ (ln : Int32), ∃ (vs : List Value), v = some (.ref bo) ∧ Fr n0 L ∧ Keep h0 h [] ∧ h0.size ≤ bo ∧ Exa Z h bo "[B" ∧ Arv Z h bo kb .byte ln vs (.int (0 : Int32)) ∧ ((ln = (3 : Int32) ∧ vs = [(.int (x0).toInt8.toInt32), (.int (x1).toInt8.toInt32), (.int (x2).toInt8.toInt32)] ∧ ¬ ((255 : Int32) < x0) ∧ ¬ ((255 : Int32) < x1) ∧ ¬ ((255 : Int32) < x2)) ∨ (ln = (6 : Int32) ∧ vs = [(.int ((x0 >>> ((0 : Int32) &&& 31))).toInt8.toInt32), (.int ((x0 >>> ((8 : Int32) &&& 31))).toInt8.toInt32), (.int ((x1 >>> ((0 : Int32) &&& 31))).toInt8.toInt32), (.int ((x1 >>> ((8 : Int32) &&& 31))).toInt8.toInt32), (.int ((x2 >>> ((0 : Int32) &&& 31))).toInt8.toInt32), (.int ((x2 >>> ((8 : Int32) &&& 31))).toInt8.toInt32)]))
theorem own_ef_own_com3_3 (m : MethodId) (r1 : Addr) : entryFrame m #[(.ref r1), (.int (0 : Int32)), (.int (3 : Int32))] 6 = mkF m 0 #[rv r1, iv (0 : Int32), iv (3 : Int32), .unset, .unset, .unset] [] := by first | (simp [entryFrame, mkF, argsToLocals, Value.category]; done) | rfl
set_option maxRecDepth 65536 in
set_option maxHeartbeats 40000000 in
theorem own_com3_3 (l : Launch) (Z : State) (a0 : Array Value) (hw : ∀ d ∈ tables_1, d.before a0 Z = true) (ws : List Jvm.Cond) (r1 : Addr) (k1 : ClassId) (x0 : Int32) (x1 : Int32) (x2 : Int32) (h0 : Heap) (n0 : Nat) (Z0 : n0 ≤ h0.size) (O0 : Old Z n0 h0) (S_ad : Sta Z Z.heap "java/lang/StringUTF16" "$assertionsDisabled" "Z" (.int (1 : Int32))) (S_hi : Sta Z Z.heap "java/lang/StringUTF16" "HI_BYTE_SHIFT" "I" (.int (0 : Int32))) (S_lo : Sta Z Z.heap "java/lang/StringUTF16" "LO_BYTE_SHIFT" "I" (.int (8 : Int32))) (hk0 : own_ch x0) (hk1 : own_ch x1) (hk2 : own_ch x2) (V1 : Arv Z h0 r1 k1 .char (3 : Int32) [(.int x0), (.int x1), (.int x2)] (.int (0 : Int32))) :
    own_Ctr l Z (⟨"java/lang/StringUTF16", "compress", "([CII)[B"⟩ : MethodName) jdk_52_method_16_code 6 (some (.array .byte)) ws ({ frames := 3, cells := 2, slots := 9, locals := 40 } : Room) (({ frames := 3, cells := 2, slots := 9, locals := 40 } : Room)).cells (({ frames := 3, cells := 2, slots := 9, locals := 40 } : Room)).slots #[(.ref r1), (.int (0 : Int32)), (.int (3 : Int32))] h0 (Q_own_com3_3 Z r1 k1 x0 x1 x2 h0 n0) := by
  refine own_enter (plainFor_of_name own_pn2) ?_
  intro p e s m below meth c s₁ X0 hx hZ hby hml hown hnm hlk hret e0
  have N0 := Fr.nil n0
  refine own_cast (own_ef_own_com3_3 m r1) ?_
  refine own_by (g' := (mkF m 1 #[rv r1, iv (0 : Int32), iv (3 : Int32), .unset, .unset, .unset] [(.int (3 : Int32))])) (fun t k => XS.iloadN X0.here hx rfl (hb hby own_d5_0) rfl k) ?_
  obtain ⟨T101, h101, k101, X101, e101, E101, A101, Y101, st101⟩ := newPE X0 hx hZ (hw _ (List.mem_of_getElem? (i := 24) rfl)) e0 (g := (mkF m 1 #[rv r1, iv (0 : Int32), iv (3 : Int32), .unset, .unset, .unset] [(.int (3 : Int32))])) rfl (hb hby own_d5_1) rfl (by decide) (cap := 3) (by decide) (by decide) (by decide) (by decide) (ad := "[B") own_ad_byte
  obtain ⟨b101, g101⟩ : ∃ z, z = h0.size := ⟨_, rfl⟩
  rw [← g101] at A101 Y101 st101
  have sz_b101 : h0.size ≤ b101 := Nat.le_trans (Nat.le_refl _) (Nat.le_of_eq g101.symm)
  have g_b101 : n0 ≤ b101 := Nat.le_trans Z0 sz_b101
  have V101 : Arv Z h101 b101 k101 .byte (3 : Int32) [(.int (0 : Int32)), (.int (0 : Int32)), (.int (0 : Int32))] (.int (0 : Int32)) := (Arv.new A101 (by decide)).pad (pad_rep [] (.int (0 : Int32)) 3)
  refine own_by (g' := (mkF m 3 #[rv r1, iv (0 : Int32), iv (3 : Int32), .unset, .unset, .unset] [(.ref b101)])) st101 ?_
  refine own_by (g' := (mkF m 9 #[rv r1, iv (0 : Int32), iv (3 : Int32), rv b101, .unset, .unset] [(.int (3 : Int32)), (.int (0 : Int32)), (.ref b101), (.int (0 : Int32)), (.ref r1)])) (fun t k => XS.astoreN X101.here hx rfl (hb hby own_d5_3) rfl rfl (l' := #[rv r1, iv (0 : Int32), iv (3 : Int32), rv b101, .unset, .unset]) rfl (XS.aloadN X101.here hx rfl (hb hby own_d5_4) rfl rfl (XS.iloadN X101.here hx rfl (hb hby own_d5_5) rfl (XS.aloadN X101.here hx rfl (hb hby own_d5_6) rfl rfl (XS.iconst X101.here hx rfl (hb hby own_d5_7) (XS.iloadN X101.here hx rfl (hb hby own_d5_8) rfl k)))))) ?_
  have f102 := (V1.ext E101)
  refine own_callS X101 hx hZ hown (hw _ (List.mem_of_getElem? (i := 25) rfl)) (hw _ (List.mem_of_getElem? (i := 26) rfl)) (hw _ (List.mem_of_getElem? (i := 22) rfl)) (hw _ (List.mem_of_getElem? (i := 27) rfl)) (by decide) (own_com5_3 l Z a0 hw [] (r1) (b101) (k1) (k101) (x0) (x1) (x2) h101 n0 (Nat.le_trans Z0 E101.1) f102 V101 g_b101 (Nat.ne_of_lt (Nat.lt_of_lt_of_le (Nat.lt_of_lt_of_le V1.lt (Nat.le_refl _)) (Nat.le_of_eq g101.symm)))) 0 (by decide) (by decide) (by decide) (by decide) e101 (g := (mkF m 9 #[rv r1, iv (0 : Int32), iv (3 : Int32), rv b101, .unset, .unset] [(.int (3 : Int32)), (.int (0 : Int32)), (.ref b101), (.int (0 : Int32)), (.ref r1)])) rfl (by rw [hml]; rfl) (argsL := [(.ref r1), (.int (0 : Int32)), (.ref b101), (.int (0 : Int32)), (.int (3 : Int32))]) (rest := []) (lenOf own_pd10 rfl) rfl (by show 2 * 0 + _ ≤ _; exact Nat.le_of_eq rfl) (hb hby own_d5_9) ?_
  intro v103 T103 L103 X103 q103
  obtain ⟨cnt103, vs103, rfl, N103q, K103, f104, f105⟩ := q103
  have N103 := Fr.app N0 N103q
  show own_Goes p e below s _ _ _ T103 (mkF m 12 #[rv r1, iv (0 : Int32), iv (3 : Int32), rv b101, .unset, .unset] [(.int cnt103)])
  rcases f105 with ⟨rfl, rfl, hq0, hq1, hq2⟩ | ⟨rfl, hq0⟩ | ⟨rfl, hq1⟩ | ⟨rfl, hq2⟩
  ·
    refine own_by (g' := (mkF m 58 #[rv r1, iv (0 : Int32), iv (3 : Int32), rv b101, iv (3 : Int32), .unset] [(.ref b101)])) (fun t k => XS.istore X103.here hx rfl (hb hby own_d5_12) rfl (l' := #[rv r1, iv (0 : Int32), iv (3 : Int32), rv b101, iv (3 : Int32), .unset]) rfl (XS.iload X103.here hx rfl (hb hby own_d5_14) rfl (XS.iloadN X103.here hx rfl (hb hby own_d5_16) rfl (XS.icmpYes X103.here hx rfl (pc0 := 17) (pc' := 57) rfl (hb hby own_d5_17) rfl (teq (by decide : (3 : Int32) = (3 : Int32))).1 (by decide) (by decide) (XS.aloadN X103.here hx rfl (hb hby own_d5_57) rfl rfl k))))) ?_
    have f106 := (Y101.keep K103)
    refine own_retA X103 hx hlk hret rfl rfl (hb hby own_d5_58) (by decide) (by decide) ?_
    exact ⟨b101, k101, (3 : Int32), [(.int (x0).toInt8.toInt32), (.int (x1).toInt8.toInt32), (.int (x2).toInt8.toInt32)], rfl, N103, (((Keep.refl h0 []).ext E101).trans K103 (allS (Or.inr sz_b101) all0)), sz_b101, f106, f104, (Or.inl ⟨rfl, rfl, hq0, hq1, hq2⟩)⟩
  ·
    refine own_by (g' := (mkF m 23 #[rv r1, iv (0 : Int32), iv (3 : Int32), rv b101, iv (0 : Int32), .unset] [(.int (3 : Int32)), (.int (0 : Int32)), (.ref r1)])) (fun t k => XS.istore X103.here hx rfl (hb hby own_d5_12) rfl (l' := #[rv r1, iv (0 : Int32), iv (3 : Int32), rv b101, iv (0 : Int32), .unset]) rfl (XS.iload X103.here hx rfl (hb hby own_d5_14) rfl (XS.iloadN X103.here hx rfl (hb hby own_d5_16) rfl (XS.icmpNo X103.here hx rfl (hb hby own_d5_17) rfl (feq (by decide : ¬ ((0 : Int32) = (3 : Int32)))).1 (XS.aloadN X103.here hx rfl (hb hby own_d5_20) rfl rfl (XS.iloadN X103.here hx rfl (hb hby own_d5_21) rfl (XS.iloadN X103.here hx rfl (hb hby own_d5_22) rfl k))))))) ?_
    have f107 := ((O0.ext E101).keep K103 (allS g_b101 all0))
    have f108 := (f102.keep K103 (ninS (Nat.ne_of_lt (Nat.lt_of_lt_of_le (Nat.lt_of_lt_of_le V1.lt (Nat.le_refl _)) (Nat.le_of_eq g101.symm))) nin0))
    refine own_callS X103 hx hZ hown (hw _ (List.mem_of_getElem? (i := 76) rfl)) (hw _ (List.mem_of_getElem? (i := 77) rfl)) (hw _ (List.mem_of_getElem? (i := 22) rfl)) (hw _ (List.mem_of_getElem? (i := 78) rfl)) (by decide) (own_tob3 l Z a0 hw [] (r1) (k1) (x0) (x1) (x2) T103.heap n0 (Nat.le_trans Z0 (Nat.le_trans E101.1 K103.1)) f107 S_ad S_hi S_lo f108) 0 (by decide) (by decide) (by decide) (by decide) rfl (g := (mkF m 23 #[rv r1, iv (0 : Int32), iv (3 : Int32), rv b101, iv (0 : Int32), .unset] [(.int (3 : Int32)), (.int (0 : Int32)), (.ref r1)])) rfl (by rw [hml]; rfl) (argsL := [(.ref r1), (.int (0 : Int32)), (.int (3 : Int32))]) (rest := []) (lenOf own_pd11 rfl) rfl (by show 2 * 0 + _ ≤ _; exact Nat.le_of_eq rfl) (hb hby own_d5_23) ?_
    intro v109 T109 L109 X109 q109
    obtain ⟨bo109, kb109, rfl, N109q, K109, f110, f111, f112⟩ := q109
    have N109 := Fr.app N103 N109q
    show own_Goes p e below s _ _ _ T109 (mkF m 26 #[rv r1, iv (0 : Int32), iv (3 : Int32), rv b101, iv (0 : Int32), .unset] [(.ref bo109)])
    refine own_by (g' := (mkF m 32 #[rv r1, iv (0 : Int32), iv (3 : Int32), rv b101, iv (0 : Int32), rv bo109] [(.int (0 : Int32)), (.ref bo109)])) (fun t k => XS.astore X109.here hx rfl (hb hby own_d5_26) rfl rfl (l' := #[rv r1, iv (0 : Int32), iv (3 : Int32), rv b101, iv (0 : Int32), rv bo109]) rfl (XS.aload X109.here hx rfl (hb hby own_d5_28) rfl rfl (XS.iload X109.here hx rfl (hb hby own_d5_30) rfl k))) ?_
    have f113 := (f107.keep K109 all0)
    refine own_callS X109 hx hZ hown (hw _ (List.mem_of_getElem? (i := 92) rfl)) (hw _ (List.mem_of_getElem? (i := 93) rfl)) (hw _ (List.mem_of_getElem? (i := 22) rfl)) (hw _ (List.mem_of_getElem? (i := 94) rfl)) (by decide) (own_getc0 l Z a0 hw [] (bo109) (kb109) ((6 : Int32)) ([(.int ((x0 >>> ((0 : Int32) &&& 31))).toInt8.toInt32), (.int ((x0 >>> ((8 : Int32) &&& 31))).toInt8.toInt32), (.int ((x1 >>> ((0 : Int32) &&& 31))).toInt8.toInt32), (.int ((x1 >>> ((8 : Int32) &&& 31))).toInt8.toInt32), (.int ((x2 >>> ((0 : Int32) &&& 31))).toInt8.toInt32), (.int ((x2 >>> ((8 : Int32) &&& 31))).toInt8.toInt32)]) (((x0 >>> ((0 : Int32) &&& 31))).toInt8.toInt32) (((x0 >>> ((8 : Int32) &&& 31))).toInt8.toInt32) (x0) T109.heap n0 (Nat.le_trans Z0 (Nat.le_trans (Nat.le_trans E101.1 K103.1) K109.1)) f113 S_ad S_hi S_lo f112 (by first | assumption | decide) (by first | assumption | decide) rfl rfl (own_utf x0 hk0)) 0 (by decide) (by decide) (by decide) (by decide) rfl (g := (mkF m 32 #[rv r1, iv (0 : Int32), iv (3 : Int32), rv b101, iv (0 : Int32), rv bo109] [(.int (0 : Int32)), (.ref bo109)])) rfl (by rw [hml]; rfl) (argsL := [(.ref bo109), (.int (0 : Int32))]) (rest := []) (lenOf own_pd4 rfl) rfl (by show 2 * 0 + _ ≤ _; exact Nat.le_of_eq rfl) (hb hby own_d5_32) ?_
    intro v114 T114 L114 X114 q114
    obtain ⟨rfl, N114q, e114⟩ := q114
    have N114 := Fr.app N109 N114q
    show own_Goes p e below s _ _ _ T114 (mkF m 35 #[rv r1, iv (0 : Int32), iv (3 : Int32), rv b101, iv (0 : Int32), rv bo109] [(.int x0)])
    refine own_by (g' := (mkF m 56 #[rv r1, iv (0 : Int32), iv (3 : Int32), rv b101, iv (0 : Int32), rv bo109] [(.ref bo109)])) (fun t k => XS.sipush X114.here hx rfl (hb hby own_d5_35) (XS.icmpYes X114.here hx rfl (pc0 := 38) (pc' := 54) rfl (hb hby own_d5_38) rfl (tlt hq0).2.2.1 (by decide) (by decide) (XS.aload X114.here hx rfl (hb hby own_d5_54) rfl rfl k))) ?_
    refine own_retA X114 hx hlk hret rfl rfl (hb hby own_d5_56) (by decide) (by decide) ?_
    rw [e114]
    exact ⟨bo109, kb109, (6 : Int32), [(.int ((x0 >>> ((0 : Int32) &&& 31))).toInt8.toInt32), (.int ((x0 >>> ((8 : Int32) &&& 31))).toInt8.toInt32), (.int ((x1 >>> ((0 : Int32) &&& 31))).toInt8.toInt32), (.int ((x1 >>> ((8 : Int32) &&& 31))).toInt8.toInt32), (.int ((x2 >>> ((0 : Int32) &&& 31))).toInt8.toInt32), (.int ((x2 >>> ((8 : Int32) &&& 31))).toInt8.toInt32)], rfl, N114, ((((Keep.refl h0 []).ext E101).trans K103 (allS (Or.inr sz_b101) all0)).trans K109 all0), (Nat.le_trans (Nat.le_trans E101.1 K103.1) f110), f111, f112, (Or.inr ⟨rfl, rfl⟩)⟩
  ·
    refine own_by (g' := (mkF m 23 #[rv r1, iv (0 : Int32), iv (3 : Int32), rv b101, iv (1 : Int32), .unset] [(.int (3 : Int32)), (.int (0 : Int32)), (.ref r1)])) (fun t k => XS.istore X103.here hx rfl (hb hby own_d5_12) rfl (l' := #[rv r1, iv (0 : Int32), iv (3 : Int32), rv b101, iv (1 : Int32), .unset]) rfl (XS.iload X103.here hx rfl (hb hby own_d5_14) rfl (XS.iloadN X103.here hx rfl (hb hby own_d5_16) rfl (XS.icmpNo X103.here hx rfl (hb hby own_d5_17) rfl (feq (by decide : ¬ ((1 : Int32) = (3 : Int32)))).1 (XS.aloadN X103.here hx rfl (hb hby own_d5_20) rfl rfl (XS.iloadN X103.here hx rfl (hb hby own_d5_21) rfl (XS.iloadN X103.here hx rfl (hb hby own_d5_22) rfl k))))))) ?_
    have f115 := ((O0.ext E101).keep K103 (allS g_b101 all0))
    have f116 := (f102.keep K103 (ninS (Nat.ne_of_lt (Nat.lt_of_lt_of_le (Nat.lt_of_lt_of_le V1.lt (Nat.le_refl _)) (Nat.le_of_eq g101.symm))) nin0))
    refine own_callS X103 hx hZ hown (hw _ (List.mem_of_getElem? (i := 76) rfl)) (hw _ (List.mem_of_getElem? (i := 77) rfl)) (hw _ (List.mem_of_getElem? (i := 22) rfl)) (hw _ (List.mem_of_getElem? (i := 78) rfl)) (by decide) (own_tob3 l Z a0 hw [] (r1) (k1) (x0) (x1) (x2) T103.heap n0 (Nat.le_trans Z0 (Nat.le_trans E101.1 K103.1)) f115 S_ad S_hi S_lo f116) 0 (by decide) (by decide) (by decide) (by decide) rfl (g := (mkF m 23 #[rv r1, iv (0 : Int32), iv (3 : Int32), rv b101, iv (1 : Int32), .unset] [(.int (3 : Int32)), (.int (0 : Int32)), (.ref r1)])) rfl (by rw [hml]; rfl) (argsL := [(.ref r1), (.int (0 : Int32)), (.int (3 : Int32))]) (rest := []) (lenOf own_pd11 rfl) rfl (by show 2 * 0 + _ ≤ _; exact Nat.le_of_eq rfl) (hb hby own_d5_23) ?_
    intro v117 T117 L117 X117 q117
    obtain ⟨bo117, kb117, rfl, N117q, K117, f118, f119, f120⟩ := q117
    have N117 := Fr.app N103 N117q
    show own_Goes p e below s _ _ _ T117 (mkF m 26 #[rv r1, iv (0 : Int32), iv (3 : Int32), rv b101, iv (1 : Int32), .unset] [(.ref bo117)])
    refine own_by (g' := (mkF m 32 #[rv r1, iv (0 : Int32), iv (3 : Int32), rv b101, iv (1 : Int32), rv bo117] [(.int (1 : Int32)), (.ref bo117)])) (fun t k => XS.astore X117.here hx rfl (hb hby own_d5_26) rfl rfl (l' := #[rv r1, iv (0 : Int32), iv (3 : Int32), rv b101, iv (1 : Int32), rv bo117]) rfl (XS.aload X117.here hx rfl (hb hby own_d5_28) rfl rfl (XS.iload X117.here hx rfl (hb hby own_d5_30) rfl k))) ?_
    have f121 := (f115.keep K117 all0)
    refine own_callS X117 hx hZ hown (hw _ (List.mem_of_getElem? (i := 92) rfl)) (hw _ (List.mem_of_getElem? (i := 93) rfl)) (hw _ (List.mem_of_getElem? (i := 22) rfl)) (hw _ (List.mem_of_getElem? (i := 94) rfl)) (by decide) (own_getc1 l Z a0 hw [] (bo117) (kb117) ((6 : Int32)) ([(.int ((x0 >>> ((0 : Int32) &&& 31))).toInt8.toInt32), (.int ((x0 >>> ((8 : Int32) &&& 31))).toInt8.toInt32), (.int ((x1 >>> ((0 : Int32) &&& 31))).toInt8.toInt32), (.int ((x1 >>> ((8 : Int32) &&& 31))).toInt8.toInt32), (.int ((x2 >>> ((0 : Int32) &&& 31))).toInt8.toInt32), (.int ((x2 >>> ((8 : Int32) &&& 31))).toInt8.toInt32)]) (((x1 >>> ((0 : Int32) &&& 31))).toInt8.toInt32) (((x1 >>> ((8 : Int32) &&& 31))).toInt8.toInt32) (x1) T117.heap n0 (Nat.le_trans Z0 (Nat.le_trans (Nat.le_trans E101.1 K103.1) K117.1)) f121 S_ad S_hi S_lo f120 (by first | assumption | decide) (by first | assumption | decide) rfl rfl (own_utf x1 hk1)) 0 (by decide) (by decide) (by decide) (by decide) rfl (g := (mkF m 32 #[rv r1, iv (0 : Int32), iv (3 : Int32), rv b101, iv (1 : Int32), rv bo117] [(.int (1 : Int32)), (.ref bo117)])) rfl (by rw [hml]; rfl) (argsL := [(.ref bo117), (.int (1 : Int32))]) (rest := []) (lenOf own_pd4 rfl) rfl (by show 2 * 0 + _ ≤ _; exact Nat.le_of_eq rfl) (hb hby own_d5_32) ?_
    intro v122 T122 L122 X122 q122
    obtain ⟨rfl, N122q, e122⟩ := q122
    have N122 := Fr.app N117 N122q
    show own_Goes p e below s _ _ _ T122 (mkF m 35 #[rv r1, iv (0 : Int32), iv (3 : Int32), rv b101, iv (1 : Int32), rv bo117] [(.int x1)])
    refine own_by (g' := (mkF m 56 #[rv r1, iv (0 : Int32), iv (3 : Int32), rv b101, iv (1 : Int32), rv bo117] [(.ref bo117)])) (fun t k => XS.sipush X122.here hx rfl (hb hby own_d5_35) (XS.icmpYes X122.here hx rfl (pc0 := 38) (pc' := 54) rfl (hb hby own_d5_38) rfl (tlt hq1).2.2.1 (by decide) (by decide) (XS.aload X122.here hx rfl (hb hby own_d5_54) rfl rfl k))) ?_
    refine own_retA X122 hx hlk hret rfl rfl (hb hby own_d5_56) (by decide) (by decide) ?_
    rw [e122]
    exact ⟨bo117, kb117, (6 : Int32), [(.int ((x0 >>> ((0 : Int32) &&& 31))).toInt8.toInt32), (.int ((x0 >>> ((8 : Int32) &&& 31))).toInt8.toInt32), (.int ((x1 >>> ((0 : Int32) &&& 31))).toInt8.toInt32), (.int ((x1 >>> ((8 : Int32) &&& 31))).toInt8.toInt32), (.int ((x2 >>> ((0 : Int32) &&& 31))).toInt8.toInt32), (.int ((x2 >>> ((8 : Int32) &&& 31))).toInt8.toInt32)], rfl, N122, ((((Keep.refl h0 []).ext E101).trans K103 (allS (Or.inr sz_b101) all0)).trans K117 all0), (Nat.le_trans (Nat.le_trans E101.1 K103.1) f118), f119, f120, (Or.inr ⟨rfl, rfl⟩)⟩
  ·
    refine own_by (g' := (mkF m 23 #[rv r1, iv (0 : Int32), iv (3 : Int32), rv b101, iv (2 : Int32), .unset] [(.int (3 : Int32)), (.int (0 : Int32)), (.ref r1)])) (fun t k => XS.istore X103.here hx rfl (hb hby own_d5_12) rfl (l' := #[rv r1, iv (0 : Int32), iv (3 : Int32), rv b101, iv (2 : Int32), .unset]) rfl (XS.iload X103.here hx rfl (hb hby own_d5_14) rfl (XS.iloadN X103.here hx rfl (hb hby own_d5_16) rfl (XS.icmpNo X103.here hx rfl (hb hby own_d5_17) rfl (feq (by decide : ¬ ((2 : Int32) = (3 : Int32)))).1 (XS.aloadN X103.here hx rfl (hb hby own_d5_20) rfl rfl (XS.iloadN X103.here hx rfl (hb hby own_d5_21) rfl (XS.iloadN X103.here hx rfl (hb hby own_d5_22) rfl k))))))) ?_
    have f123 := ((O0.ext E101).keep K103 (allS g_b101 all0))
    have f124 := (f102.keep K103 (ninS (Nat.ne_of_lt (Nat.lt_of_lt_of_le (Nat.lt_of_lt_of_le V1.lt (Nat.le_refl _)) (Nat.le_of_eq g101.symm))) nin0))
    refine own_callS X103 hx hZ hown (hw _ (List.mem_of_getElem? (i := 76) rfl)) (hw _ (List.mem_of_getElem? (i := 77) rfl)) (hw _ (List.mem_of_getElem? (i := 22) rfl)) (hw _ (List.mem_of_getElem? (i := 78) rfl)) (by decide) (own_tob3 l Z a0 hw [] (r1) (k1) (x0) (x1) (x2) T103.heap n0 (Nat.le_trans Z0 (Nat.le_trans E101.1 K103.1)) f123 S_ad S_hi S_lo f124) 0 (by decide) (by decide) (by decide) (by decide) rfl (g := (mkF m 23 #[rv r1, iv (0 : Int32), iv (3 : Int32), rv b101, iv (2 : Int32), .unset] [(.int (3 : Int32)), (.int (0 : Int32)), (.ref r1)])) rfl (by rw [hml]; rfl) (argsL := [(.ref r1), (.int (0 : Int32)), (.int (3 : Int32))]) (rest := []) (lenOf own_pd11 rfl) rfl (by show 2 * 0 + _ ≤ _; exact Nat.le_of_eq rfl) (hb hby own_d5_23) ?_
    intro v125 T125 L125 X125 q125
    obtain ⟨bo125, kb125, rfl, N125q, K125, f126, f127, f128⟩ := q125
    have N125 := Fr.app N103 N125q
    show own_Goes p e below s _ _ _ T125 (mkF m 26 #[rv r1, iv (0 : Int32), iv (3 : Int32), rv b101, iv (2 : Int32), .unset] [(.ref bo125)])
    refine own_by (g' := (mkF m 32 #[rv r1, iv (0 : Int32), iv (3 : Int32), rv b101, iv (2 : Int32), rv bo125] [(.int (2 : Int32)), (.ref bo125)])) (fun t k => XS.astore X125.here hx rfl (hb hby own_d5_26) rfl rfl (l' := #[rv r1, iv (0 : Int32), iv (3 : Int32), rv b101, iv (2 : Int32), rv bo125]) rfl (XS.aload X125.here hx rfl (hb hby own_d5_28) rfl rfl (XS.iload X125.here hx rfl (hb hby own_d5_30) rfl k))) ?_
    have f129 := (f123.keep K125 all0)
    refine own_callS X125 hx hZ hown (hw _ (List.mem_of_getElem? (i := 92) rfl)) (hw _ (List.mem_of_getElem? (i := 93) rfl)) (hw _ (List.mem_of_getElem? (i := 22) rfl)) (hw _ (List.mem_of_getElem? (i := 94) rfl)) (by decide) (own_getc2 l Z a0 hw [] (bo125) (kb125) ((6 : Int32)) ([(.int ((x0 >>> ((0 : Int32) &&& 31))).toInt8.toInt32), (.int ((x0 >>> ((8 : Int32) &&& 31))).toInt8.toInt32), (.int ((x1 >>> ((0 : Int32) &&& 31))).toInt8.toInt32), (.int ((x1 >>> ((8 : Int32) &&& 31))).toInt8.toInt32), (.int ((x2 >>> ((0 : Int32) &&& 31))).toInt8.toInt32), (.int ((x2 >>> ((8 : Int32) &&& 31))).toInt8.toInt32)]) (((x2 >>> ((0 : Int32) &&& 31))).toInt8.toInt32) (((x2 >>> ((8 : Int32) &&& 31))).toInt8.toInt32) (x2) T125.heap n0 (Nat.le_trans Z0 (Nat.le_trans (Nat.le_trans E101.1 K103.1) K125.1)) f129 S_ad S_hi S_lo f128 (by first | assumption | decide) (by first | assumption | decide) rfl rfl (own_utf x2 hk2)) 0 (by decide) (by decide) (by decide) (by decide) rfl (g := (mkF m 32 #[rv r1, iv (0 : Int32), iv (3 : Int32), rv b101, iv (2 : Int32), rv bo125] [(.int (2 : Int32)), (.ref bo125)])) rfl (by rw [hml]; rfl) (argsL := [(.ref bo125), (.int (2 : Int32))]) (rest := []) (lenOf own_pd4 rfl) rfl (by show 2 * 0 + _ ≤ _; exact Nat.le_of_eq rfl) (hb hby own_d5_32) ?_
    intro v130 T130 L130 X130 q130
    obtain ⟨rfl, N130q, e130⟩ := q130
    have N130 := Fr.app N125 N130q
    show own_Goes p e below s _ _ _ T130 (mkF m 35 #[rv r1, iv (0 : Int32), iv (3 : Int32), rv b101, iv (2 : Int32), rv bo125] [(.int x2)])
    refine own_by (g' := (mkF m 56 #[rv r1, iv (0 : Int32), iv (3 : Int32), rv b101, iv (2 : Int32), rv bo125] [(.ref bo125)])) (fun t k => XS.sipush X130.here hx rfl (hb hby own_d5_35) (XS.icmpYes X130.here hx rfl (pc0 := 38) (pc' := 54) rfl (hb hby own_d5_38) rfl (tlt hq2).2.2.1 (by decide) (by decide) (XS.aload X130.here hx rfl (hb hby own_d5_54) rfl rfl k))) ?_
    refine own_retA X130 hx hlk hret rfl rfl (hb hby own_d5_56) (by decide) (by decide) ?_
    rw [e130]
    exact ⟨bo125, kb125, (6 : Int32), [(.int ((x0 >>> ((0 : Int32) &&& 31))).toInt8.toInt32), (.int ((x0 >>> ((8 : Int32) &&& 31))).toInt8.toInt32), (.int ((x1 >>> ((0 : Int32) &&& 31))).toInt8.toInt32), (.int ((x1 >>> ((8 : Int32) &&& 31))).toInt8.toInt32), (.int ((x2 >>> ((0 : Int32) &&& 31))).toInt8.toInt32), (.int ((x2 >>> ((8 : Int32) &&& 31))).toInt8.toInt32)], rfl, N130, ((((Keep.refl h0 []).ext E101).trans K103 (allS (Or.inr sz_b101) all0)).trans K125 all0), (Nat.le_trans (Nat.le_trans E101.1 K103.1) f126), f127, f128, (Or.inr ⟨rfl, rfl⟩)⟩
def Q_own_cfa3_0 (Z : State) (r1 : Addr) (k1 : ClassId) (vs : List Value) (h0 : Heap) (n0 : Nat) (v : Option Value) (h : Heap) (L : List Loc) : Prop := v = some (.int (0 : Int32)) ∧ Fr n0 L ∧ h = h0
theorem own_ef_own_cfa3_0 (m : MethodId) (r1 : Addr) : entryFrame m #[(.ref r1), (.int (3 : Int32))] 2 = mkF m 0 #[rv r1, iv (3 : Int32)] [] := by first | (simp [entryFrame, mkF, argsToLocals, Value.category]; done) | rfl
set_option maxRecDepth 65536 in
set_option maxHeartbeats 40000000 in
theorem own_cfa3_0 (l : Launch) (Z : State) (a0 : Array Value) (hw : ∀ d ∈ tables_1, d.before a0 Z = true) (ws : List Jvm.Cond) (r1 : Addr) (k1 : ClassId) (vs : List Value) (h0 : Heap) (n0 : Nat) (Z0 : n0 ≤ h0.size) (V1 : Arv Z h0 r1 k1 .byte (3 : Int32) vs (.int (0 : Int32))) :
    own_Ctr l Z (⟨"java/lang/StringUTF16", "coderFromArrayLen", "([BI)B"⟩ : MethodName) jdk_52_method_15_code 2 (some .byte) ws ({ frames := 0, cells := 0, slots := 0, locals := 0 } : Room) (({ frames := 0, cells := 0, slots := 0, locals := 0 } : Room)).cells (({ frames := 0, cells := 0, slots := 0, locals := 0 } : Room)).slots #[(.ref r1), (.int (3 : Int32))] h0 (Q_own_cfa3_0 Z r1 k1 vs h0 n0) := by
  refine own_enter (plainFor_of_name own_pn2) ?_
  intro p e s m below meth c s₁ X0 hx hZ hby hml hown hnm hlk hret e0
  have N0 := Fr.nil n0
  refine own_cast (own_ef_own_cfa3_0 m r1) ?_
  refine own_by (g' := (mkF m 2 #[rv r1, iv (3 : Int32)] [(.ref r1), (.int (3 : Int32))])) (fun t k => XS.iloadN X0.here hx rfl (hb hby own_d7_0) rfl (XS.aloadN X0.here hx rfl (hb hby own_d7_1) rfl rfl k)) ?_
  obtain ⟨c101, Ar101, -, S101, G101, -, -⟩ := id V1
  refine own_by (g' := (mkF m 3 #[rv r1, iv (3 : Int32)] [(.int (3 : Int32)), (.int (3 : Int32))])) (fun t k => X0.arraylength hx (own_at_ e0 Ar101.1) (State.isArrayOf_alike hZ.alike Ar101.2.1) (g := (mkF m 2 #[rv r1, iv (3 : Int32)] [(.ref r1), (.int (3 : Int32))])) rfl rfl (hb hby own_d7_2) t (by rw [len_of S101 G101]; exact k)) ?_
  refine own_by (g' := (mkF m 8 #[rv r1, iv (3 : Int32)] [(.int ((((0 : Int32)).toUInt32 >>> ((31 : Int32) &&& 31).toUInt32).toInt32).toInt8.toInt32)])) (fun t k => XS.isub X0.here hx rfl (hb hby own_d7_3) rfl (XS.bipush X0.here hx rfl (hb hby own_d7_4) (XS.iushr X0.here hx rfl (hb hby own_d7_6) rfl (XS.i2b X0.here hx rfl (hb hby own_d7_7) rfl k)))) ?_
  refine own_retN X0 hx hlk hret (t := .byte) (by simp) (hb hby own_d7_8) (by decide) (by decide) ?_
  exact ⟨(by decide), N0, e0⟩
def Q_own_cfa3_1 (Z : State) (r1 : Addr) (k1 : ClassId) (vs : List Value) (h0 : Heap) (n0 : Nat) (v : Option Value) (h : Heap) (L : List Loc) : Prop := v = some (.int (1 : Int32)) ∧ Fr n0 L ∧ h = h0
theorem own_ef_own_cfa3_1 (m : MethodId) (r1 : Addr) : entryFrame m #[(.ref r1), (.int (3 : Int32))] 2 = mkF m 0 #[rv r1, iv (3 : Int32)] [] := by first | (simp [entryFrame, mkF, argsToLocals, Value.category]; done) | rfl
set_option maxRecDepth 65536 in
set_option maxHeartbeats 40000000 in
theorem own_cfa3_1 (l : Launch) (Z : State) (a0 : Array Value) (hw : ∀ d ∈ tables_1, d.before a0 Z = true) (ws : List Jvm.Cond) (r1 : Addr) (k1 : ClassId) (vs : List Value) (h0 : Heap) (n0 : Nat) (Z0 : n0 ≤ h0.size) (V1 : Arv Z h0 r1 k1 .byte (6 : Int32) vs (.int (0 : Int32))) :
    own_Ctr l Z (⟨"java/lang/StringUTF16", "coderFromArrayLen", "([BI)B"⟩ : MethodName) jdk_52_method_15_code 2 (some .byte) ws ({ frames := 0, cells := 0, slots := 0, locals := 0 } : Room) (({ frames := 0, cells := 0, slots := 0, locals := 0 } : Room)).cells (({ frames := 0, cells := 0, slots := 0, locals := 0 } : Room)).slots #[(.ref r1), (.int (3 : Int32))] h0 (Q_own_cfa3_1 Z r1 k1 vs h0 n0) := by
  refine own_enter (plainFor_of_name own_pn2) ?_
  intro p e s m below meth c s₁ X0 hx hZ hby hml hown hnm hlk hret e0
  have N0 := Fr.nil n0
  refine own_cast (own_ef_own_cfa3_1 m r1) ?_
  refine own_by (g' := (mkF m 2 #[rv r1, iv (3 : Int32)] [(.ref r1), (.int (3 : Int32))])) (fun t k => XS.iloadN X0.here hx rfl (hb hby own_d7_0) rfl (XS.aloadN X0.here hx rfl (hb hby own_d7_1) rfl rfl k)) ?_
  obtain ⟨c101, Ar101, -, S101, G101, -, -⟩ := id V1
  refine own_by (g' := (mkF m 3 #[rv r1, iv (3 : Int32)] [(.int (6 : Int32)), (.int (3 : Int32))])) (fun t k => X0.arraylength hx (own_at_ e0 Ar101.1) (State.isArrayOf_alike hZ.alike Ar101.2.1) (g := (mkF m 2 #[rv r1, iv (3 : Int32)] [(.ref r1), (.int (3 : Int32))])) rfl rfl (hb hby own_d7_2) t (by rw [len_of S101 G101]; exact k)) ?_
  refine own_by (g' := (mkF m 8 #[rv r1, iv (3 : Int32)] [(.int ((((-3 : Int32)).toUInt32 >>> ((31 : Int32) &&& 31).toUInt32).toInt32).toInt8.toInt32)])) (fun t k => XS.isub X0.here hx rfl (hb hby own_d7_3) rfl (XS.bipush X0.here hx rfl (hb hby own_d7_4) (XS.iushr X0.here hx rfl (hb hby own_d7_6) rfl (XS.i2b X0.here hx rfl (hb hby own_d7_7) rfl k)))) ?_
  refine own_retN X0 hx hlk hret (t := .byte) (by simp) (hb hby own_d7_8) (by decide) (by decide) ?_
  exact ⟨(by decide), N0, e0⟩
def Q_own_ini4_3 (Z : State) (r1 : Addr) (r2 : Addr) (k1 : ClassId) (x0 : Int32) (x1 : Int32) (x2 : Int32) (zcs : Int32) (h0 : Heap) (n0 : Nat) (v : Option Value) (h : Heap) (L : List Loc) : Prop := ∃ (ba : Addr), ∃ (kb : ClassId), ∃ (cd : Int32), ∃ (ln : Int32), ∃ (vs : List Value), v = none ∧ Fr n0 L ∧ Keep h0 h [r1] ∧ h0.size ≤ ba ∧ Exa Z h r1 "java/lang/String" ∧ Fld Z h r1 "java/lang/String" "value" "[B" (.ref ba) ∧ Fld Z h r1 "java/lang/String" "coder" "B" (.int cd) ∧ Arv Z h ba kb .byte ln vs (.int (0 : Int32)) ∧ Exa Z h ba "[B" ∧ own_s3 x0 x1 x2 cd ln vs
theorem own_ef_own_ini4_3 (m : MethodId) (r1 : Addr) (r2 : Addr) : entryFrame m #[(.ref r1), (.ref r2), (.int (0 : Int32)), (.int (3 : Int32)), .null] 6 = mkF m 0 #[rv r1, rv r2, iv (0 : Int32), iv (3 : Int32), .val .null, .unset] [] := by first | (simp [entryFrame, mkF, argsToLocals, Value.category]; done) | rfl
set_option maxRecDepth 65536 in
set_option maxHeartbeats 40000000 in
theorem own_ini4_3 (l : Launch) (Z : State) (a0 : Array Value) (hw : ∀ d ∈ tables_1, d.before a0 Z = true) (ws : List Jvm.Cond) (r1 : Addr) (r2 : Addr) (k1 : ClassId) (x0 : Int32) (x1 : Int32) (x2 : Int32) (zcs : Int32) (h0 : Heap) (n0 : Nat) (Z0 : n0 ≤ h0.size) (O0 : Old Z n0 h0) (S_cs : Sta Z Z.heap "java/lang/String" "COMPACT_STRINGS" "Z" (.int zcs)) (hcs : ¬ zcs = (0 : Int32)) (S_ad : Sta Z Z.heap "java/lang/StringUTF16" "$assertionsDisabled" "Z" (.int (1 : Int32))) (S_hi : Sta Z Z.heap "java/lang/StringUTF16" "HI_BYTE_SHIFT" "I" (.int (0 : Int32))) (S_lo : Sta Z Z.heap "java/lang/StringUTF16" "LO_BYTE_SHIFT" "I" (.int (8 : Int32))) (hk0 : own_ch x0) (hk1 : own_ch x1) (hk2 : own_ch x2) (E1 : Exa Z h0 r1 "java/lang/String") (F1 : Fld Z h0 r1 "java/lang/String" "value" "[B" .null) (F2 : Fld Z h0 r1 "java/lang/String" "coder" "B" (.int (0 : Int32))) (g1 : n0 ≤ r1) (V1 : Arv Z h0 r2 k1 .char (3 : Int32) [(.int x0), (.int x1), (.int x2)] (.int (0 : Int32))) :
    own_Ctr l Z (⟨"java/lang/String", "<init>", "([CIILjava/lang/Void;)V"⟩ : MethodName) jdk_42_method_149_code 6 none ws ({ frames := 4, cells := 2, slots := 9, locals := 57 } : Room) (({ frames := 4, cells := 2, slots := 9, locals := 57 } : Room)).cells (({ frames := 4, cells := 2, slots := 9, locals := 57 } : Room)).slots #[(.ref r1), (.ref r2), (.int (0 : Int32)), (.int (3 : Int32)), .null] h0 (Q_own_ini4_3 Z r1 r2 k1 x0 x1 x2 zcs h0 n0) := by
  refine own_enter (plainFor_of_name own_pn1) ?_
  intro p e s m below meth c s₁ X0 hx hZ hby hml hown hnm hlk hret e0
  have N0 := Fr.nil n0
  refine own_cast (own_ef_own_ini4_3 m r1 r2) ?_
  refine own_by (g' := (mkF m 1 #[rv r1, rv r2, iv (0 : Int32), iv (3 : Int32), .val .null, .unset] [(.ref r1)])) (fun t k => XS.aloadN X0.here hx rfl (hb hby own_d3_0) rfl rfl k) ?_
  obtain ⟨T101, X101, e101, st101⟩ := initO X0 hx hZ hown (hw _ (List.mem_of_getElem? (i := 16) rfl)) (hw _ (List.mem_of_getElem? (i := 17) rfl)) (hw _ (List.mem_of_getElem? (i := 18) rfl)) e0 (g := (mkF m 1 #[rv r1, rv r2, iv (0 : Int32), iv (3 : Int32), .val .null, .unset] [(.ref r1)])) rfl (by rw [hml]; rfl) rfl (hb hby own_d3_1) (by decide) (W := 0) (by show 2 * 0 + _ ≤ _; exact Nat.le_of_eq rfl) (by decide)
  refine own_by (g' := (mkF m 4 #[rv r1, rv r2, iv (0 : Int32), iv (3 : Int32), .val .null, .unset] [])) st101 ?_
  refine own_by (g' := (mkF m 27 #[rv r1, rv r2, iv (0 : Int32), iv (3 : Int32), .val .null, .unset] [])) (fun t k => XS.iloadN X101.here hx rfl (hb hby own_d3_4) rfl (XS.ifYes X101.here hx rfl (pc0 := 5) (pc' := 27) rfl (hb hby own_d3_5) rfl ((if0 _ _).trans (feq (by decide : ¬ ((3 : Int32) = (0 : Int32)))).2) (by decide) (by decide) k)) ?_
  obtain ⟨T102, X102, e102, st102⟩ := getS2 X101 hx hZ hown (host := "") (Or.inl (hw _ (List.mem_of_getElem? (i := 19) rfl))) Via.refl e101 (S_cs.ext O0.2) (g := (mkF m 27 #[rv r1, rv r2, iv (0 : Int32), iv (3 : Int32), .val .null, .unset] [])) rfl (hb hby own_d3_27)
  refine own_by (g' := (mkF m 30 #[rv r1, rv r2, iv (0 : Int32), iv (3 : Int32), .val .null, .unset] [(.int zcs)])) st102 ?_
  refine own_by (g' := (mkF m 36 #[rv r1, rv r2, iv (0 : Int32), iv (3 : Int32), .val .null, .unset] [(.int (3 : Int32)), (.int (0 : Int32)), (.ref r2)])) (fun t k => XS.ifNo X102.here hx rfl (hb hby own_d3_30) rfl ((if0 _ _).trans (feq hcs).1) (XS.aloadN X102.here hx rfl (hb hby own_d3_33) rfl rfl (XS.iloadN X102.here hx rfl (hb hby own_d3_34) rfl (XS.iloadN X102.here hx rfl (hb hby own_d3_35) rfl k)))) ?_
  refine own_callS X102 hx hZ hown (hw _ (List.mem_of_getElem? (i := 20) rfl)) (hw _ (List.mem_of_getElem? (i := 21) rfl)) (hw _ (List.mem_of_getElem? (i := 22) rfl)) (hw _ (List.mem_of_getElem? (i := 23) rfl)) (by decide) (own_com3_3 l Z a0 hw [] (r2) (k1) (x0) (x1) (x2) h0 n0 Z0 O0 S_ad S_hi S_lo (by first | assumption | decide) (by first | assumption | decide) (by first | assumption | decide) V1) 0 (by decide) (by decide) (by decide) (by decide) e102 (g := (mkF m 36 #[rv r1, rv r2, iv (0 : Int32), iv (3 : Int32), .val .null, .unset] [(.int (3 : Int32)), (.int (0 : Int32)), (.ref r2)])) rfl (by rw [hml]; rfl) (argsL := [(.ref r2), (.int (0 : Int32)), (.int (3 : Int32))]) (rest := []) (lenOf own_pd11 rfl) rfl (by show 2 * 0 + _ ≤ _; exact Nat.le_of_eq rfl) (hb hby own_d3_36) ?_
  intro v103 T103 L103 X103 q103
  obtain ⟨bo103, kb103, ln103, vs103, rfl, N103q, K103, f104, f105, f106, f107⟩ := q103
  have N103 := Fr.app N0 N103q
  show own_Goes p e below s _ _ _ T103 (mkF m 39 #[rv r1, rv r2, iv (0 : Int32), iv (3 : Int32), .val .null, .unset] [(.ref bo103)])
  rcases f107 with ⟨rfl, rfl, hq0, hq1, hq2⟩ | ⟨rfl, rfl⟩
  ·
    refine own_by (g' := (mkF m 45 #[rv r1, rv r2, iv (0 : Int32), iv (3 : Int32), .val .null, rv bo103] [(.int (3 : Int32)), (.ref bo103), (.ref r1)])) (fun t k => XS.astore X103.here hx rfl (hb hby own_d3_39) rfl rfl (l' := #[rv r1, rv r2, iv (0 : Int32), iv (3 : Int32), .val .null, rv bo103]) rfl (XS.aloadN X103.here hx rfl (hb hby own_d3_41) rfl rfl (XS.aload X103.here hx rfl (hb hby own_d3_42) rfl rfl (XS.iloadN X103.here hx rfl (hb hby own_d3_44) rfl k)))) ?_
    refine own_callS X103 hx hZ hown (hw _ (List.mem_of_getElem? (i := 28) rfl)) (hw _ (List.mem_of_getElem? (i := 29) rfl)) (hw _ (List.mem_of_getElem? (i := 22) rfl)) (hw _ (List.mem_of_getElem? (i := 30) rfl)) (by decide) (own_cfa3_0 l Z a0 hw [] (bo103) (kb103) ([(.int (x0).toInt8.toInt32), (.int (x1).toInt8.toInt32), (.int (x2).toInt8.toInt32)]) T103.heap n0 (Nat.le_trans Z0 K103.1) f106) 1 (by decide) (by decide) (by decide) (by decide) rfl (g := (mkF m 45 #[rv r1, rv r2, iv (0 : Int32), iv (3 : Int32), .val .null, rv bo103] [(.int (3 : Int32)), (.ref bo103), (.ref r1)])) rfl (by rw [hml]; rfl) (argsL := [(.ref bo103), (.int (3 : Int32))]) (rest := [(.ref r1)]) (lenOf own_pd12 rfl) rfl (by show 2 * 0 + _ ≤ _; exact Nat.le_of_eq rfl) (hb hby own_d3_45) ?_
    intro v108 T108 L108 X108 q108
    obtain ⟨rfl, N108q, e108⟩ := q108
    have N108 := Fr.app N103 N108q
    show own_Goes p e below s _ _ _ T108 (mkF m 48 #[rv r1, rv r2, iv (0 : Int32), iv (3 : Int32), .val .null, rv bo103] [(.int (0 : Int32)), (.ref r1)])
    have f109 := (F2.keep K103 nin0)
    have f110 := (E1.keep K103)
    obtain ⟨T111, h111, X111, e111, W111, st111⟩ := putFN X108 hx hZ hown (hw _ (List.mem_of_getElem? (i := 31) rfl)) Via.refl e108 f109 f110 (Or.inr ⟨(hw _ (List.mem_of_getElem? (i := 32) rfl)), rfl, hnm⟩) (hw _ (List.mem_of_getElem? (i := 6) rfl)) (ty := .byte) (v' := (.int (0 : Int32))) (by decide) rfl (by decide) (g := (mkF m 48 #[rv r1, rv r2, iv (0 : Int32), iv (3 : Int32), .val .null, rv bo103] [(.int (0 : Int32)), (.ref r1)])) rfl rfl (hb hby own_d3_48)
    have f112 := f109.same W111
    have N111 := Fr.snoc X111 N108 g1
    refine own_by (g' := (mkF m 51 #[rv r1, rv r2, iv (0 : Int32), iv (3 : Int32), .val .null, rv bo103] [])) st111 ?_
    refine own_by (g' := (mkF m 54 #[rv r1, rv r2, iv (0 : Int32), iv (3 : Int32), .val .null, rv bo103] [(.ref bo103), (.ref r1)])) (fun t k => XS.aloadN X111.here hx rfl (hb hby own_d3_51) rfl rfl (XS.aload X111.here hx rfl (hb hby own_d3_52) rfl rfl k)) ?_
    have f113 := ((F1.keep K103 nin0).other W111 (Or.inr (slot_ne (Or.inr (hw _ (List.mem_of_getElem? (i := 34) rfl))) (Or.inr (hw _ (List.mem_of_getElem? (i := 32) rfl))) (by decide) (t := (.array .byte)) (t' := .byte) (by decide) (by decide))))
    have f114 := (f110.wr W111)
    obtain ⟨T115, h115, X115, e115, W115, st115⟩ := putF X111 hx hZ hown (host := "") (Or.inl (hw _ (List.mem_of_getElem? (i := 33) rfl))) Via.refl e111 f113 f114 (Or.inr ⟨(hw _ (List.mem_of_getElem? (i := 34) rfl)), rfl, hnm⟩) (hw _ (List.mem_of_getElem? (i := 6) rfl)) (ty := (.array .byte)) (by decide) rfl rfl (g := (mkF m 54 #[rv r1, rv r2, iv (0 : Int32), iv (3 : Int32), .val .null, rv bo103] [(.ref bo103), (.ref r1)])) rfl rfl (hb hby own_d3_54)
    have f116 := f113.same W115
    have N115 := Fr.snoc X115 N111 g1
    refine own_by (g' := (mkF m 57 #[rv r1, rv r2, iv (0 : Int32), iv (3 : Int32), .val .null, rv bo103] [])) st115 ?_
    have f117 := (f114.wr W115)
    have f118 := (f112.other W115 (Or.inr (slot_ne (Or.inr (hw _ (List.mem_of_getElem? (i := 32) rfl))) (Or.inr (hw _ (List.mem_of_getElem? (i := 34) rfl))) (by decide) (t := .byte) (t' := (.array .byte)) (by decide) (by decide))))
    have f119 := ((f106.other W111 (Ne.symm (Nat.ne_of_lt (Nat.lt_of_lt_of_le (Nat.lt_of_lt_of_le E1.lt (Nat.le_refl _)) f104)))).other W115 (Ne.symm (Nat.ne_of_lt (Nat.lt_of_lt_of_le (Nat.lt_of_lt_of_le E1.lt (Nat.le_refl _)) f104))))
    have f120 := ((f105.wr W111).wr W115)
    refine own_retV X115 hx hlk hret (hb hby own_d3_57) (by decide) (by decide) ?_
    rw [e115]
    exact ⟨bo103, kb103, (0 : Int32), (3 : Int32), [(.int (x0).toInt8.toInt32), (.int (x1).toInt8.toInt32), (.int (x2).toInt8.toInt32)], rfl, N115, ((((Keep.refl h0 [r1]).trans K103 all0).wr W111 (Or.inl (List.mem_of_getElem? (i := 0) rfl))).wr W115 (Or.inl (List.mem_of_getElem? (i := 0) rfl))), (Nat.le_trans (Nat.le_refl _) f104), f117, f116, f118, f119, f120, (Or.inl ⟨rfl, rfl, rfl, hq0, hq1, hq2⟩)⟩
  ·
    refine own_by (g' := (mkF m 45 #[rv r1, rv r2, iv (0 : Int32), iv (3 : Int32), .val .null, rv bo103] [(.int (3 : Int32)), (.ref bo103), (.ref r1)])) (fun t k => XS.astore X103.here hx rfl (hb hby own_d3_39) rfl rfl (l' := #[rv r1, rv r2, iv (0 : Int32), iv (3 : Int32), .val .null, rv bo103]) rfl (XS.aloadN X103.here hx rfl (hb hby own_d3_41) rfl rfl (XS.aload X103.here hx rfl (hb hby own_d3_42) rfl rfl (XS.iloadN X103.here hx rfl (hb hby own_d3_44) rfl k)))) ?_
    refine own_callS X103 hx hZ hown (hw _ (List.mem_of_getElem? (i := 28) rfl)) (hw _ (List.mem_of_getElem? (i := 29) rfl)) (hw _ (List.mem_of_getElem? (i := 22) rfl)) (hw _ (List.mem_of_getElem? (i := 30) rfl)) (by decide) (own_cfa3_1 l Z a0 hw [] (bo103) (kb103) ([(.int ((x0 >>> ((0 : Int32) &&& 31))).toInt8.toInt32), (.int ((x0 >>> ((8 : Int32) &&& 31))).toInt8.toInt32), (.int ((x1 >>> ((0 : Int32) &&& 31))).toInt8.toInt32), (.int ((x1 >>> ((8 : Int32) &&& 31))).toInt8.toInt32), (.int ((x2 >>> ((0 : Int32) &&& 31))).toInt8.toInt32), (.int ((x2 >>> ((8 : Int32) &&& 31))).toInt8.toInt32)]) T103.heap n0 (Nat.le_trans Z0 K103.1) f106) 1 (by decide) (by decide) (by decide) (by decide) rfl (g := (mkF m 45 #[rv r1, rv r2, iv (0 : Int32), iv (3 : Int32), .val .null, rv bo103] [(.int (3 : Int32)), (.ref bo103), (.ref r1)])) rfl (by rw [hml]; rfl) (argsL := [(.ref bo103), (.int (3 : Int32))]) (rest := [(.ref r1)]) (lenOf own_pd12 rfl) rfl (by show 2 * 0 + _ ≤ _; exact Nat.le_of_eq rfl) (hb hby own_d3_45) ?_
    intro v121 T121 L121 X121 q121
    obtain ⟨rfl, N121q, e121⟩ := q121
    have N121 := Fr.app N103 N121q
    show own_Goes p e below s _ _ _ T121 (mkF m 48 #[rv r1, rv r2, iv (0 : Int32), iv (3 : Int32), .val .null, rv bo103] [(.int (1 : Int32)), (.ref r1)])
    have f122 := (F2.keep K103 nin0)
    have f123 := (E1.keep K103)
    obtain ⟨T124, h124, X124, e124, W124, st124⟩ := putFN X121 hx hZ hown (hw _ (List.mem_of_getElem? (i := 31) rfl)) Via.refl e121 f122 f123 (Or.inr ⟨(hw _ (List.mem_of_getElem? (i := 32) rfl)), rfl, hnm⟩) (hw _ (List.mem_of_getElem? (i := 6) rfl)) (ty := .byte) (v' := (.int (1 : Int32))) (by decide) rfl (by decide) (g := (mkF m 48 #[rv r1, rv r2, iv (0 : Int32), iv (3 : Int32), .val .null, rv bo103] [(.int (1 : Int32)), (.ref r1)])) rfl rfl (hb hby own_d3_48)
    have f125 := f122.same W124
    have N124 := Fr.snoc X124 N121 g1
    refine own_by (g' := (mkF m 51 #[rv r1, rv r2, iv (0 : Int32), iv (3 : Int32), .val .null, rv bo103] [])) st124 ?_
    refine own_by (g' := (mkF m 54 #[rv r1, rv r2, iv (0 : Int32), iv (3 : Int32), .val .null, rv bo103] [(.ref bo103), (.ref r1)])) (fun t k => XS.aloadN X124.here hx rfl (hb hby own_d3_51) rfl rfl (XS.aload X124.here hx rfl (hb hby own_d3_52) rfl rfl k)) ?_
    have f126 := ((F1.keep K103 nin0).other W124 (Or.inr (slot_ne (Or.inr (hw _ (List.mem_of_getElem? (i := 34) rfl))) (Or.inr (hw _ (List.mem_of_getElem? (i := 32) rfl))) (by decide) (t := (.array .byte)) (t' := .byte) (by decide) (by decide))))
    have f127 := (f123.wr W124)
    obtain ⟨T128, h128, X128, e128, W128, st128⟩ := putF X124 hx hZ hown (host := "") (Or.inl (hw _ (List.mem_of_getElem? (i := 33) rfl))) Via.refl e124 f126 f127 (Or.inr ⟨(hw _ (List.mem_of_getElem? (i := 34) rfl)), rfl, hnm⟩) (hw _ (List.mem_of_getElem? (i := 6) rfl)) (ty := (.array .byte)) (by decide) rfl rfl (g := (mkF m 54 #[rv r1, rv r2, iv (0 : Int32), iv (3 : Int32), .val .null, rv bo103] [(.ref bo103), (.ref r1)])) rfl rfl (hb hby own_d3_54)
    have f129 := f126.same W128
    have N128 := Fr.snoc X128 N124 g1
    refine own_by (g' := (mkF m 57 #[rv r1, rv r2, iv (0 : Int32), iv (3 : Int32), .val .null, rv bo103] [])) st128 ?_
    have f130 := (f127.wr W128)
    have f131 := (f125.other W128 (Or.inr (slot_ne (Or.inr (hw _ (List.mem_of_getElem? (i := 32) rfl))) (Or.inr (hw _ (List.mem_of_getElem? (i := 34) rfl))) (by decide) (t := .byte) (t' := (.array .byte)) (by decide) (by decide))))
    have f132 := ((f106.other W124 (Ne.symm (Nat.ne_of_lt (Nat.lt_of_lt_of_le (Nat.lt_of_lt_of_le E1.lt (Nat.le_refl _)) f104)))).other W128 (Ne.symm (Nat.ne_of_lt (Nat.lt_of_lt_of_le (Nat.lt_of_lt_of_le E1.lt (Nat.le_refl _)) f104))))
    have f133 := ((f105.wr W124).wr W128)
    refine own_retV X128 hx hlk hret (hb hby own_d3_57) (by decide) (by decide) ?_
    rw [e128]
    exact ⟨bo103, kb103, (1 : Int32), (6 : Int32), [(.int ((x0 >>> ((0 : Int32) &&& 31))).toInt8.toInt32), (.int ((x0 >>> ((8 : Int32) &&& 31))).toInt8.toInt32), (.int ((x1 >>> ((0 : Int32) &&& 31))).toInt8.toInt32), (.int ((x1 >>> ((8 : Int32) &&& 31))).toInt8.toInt32), (.int ((x2 >>> ((0 : Int32) &&& 31))).toInt8.toInt32), (.int ((x2 >>> ((8 : Int32) &&& 31))).toInt8.toInt32)], rfl, N128, ((((Keep.refl h0 [r1]).trans K103 all0).wr W124 (Or.inl (List.mem_of_getElem? (i := 0) rfl))).wr W128 (Or.inl (List.mem_of_getElem? (i := 0) rfl))), (Nat.le_trans (Nat.le_refl _) f104), f130, f129, f131, f132, f133, (Or.inr ⟨rfl, rfl, rfl⟩)⟩
def Q_own_ini1_3 (Z : State) (r1 : Addr) (r2 : Addr) (k1 : ClassId) (x0 : Int32) (x1 : Int32) (x2 : Int32) (zcs : Int32) (h0 : Heap) (n0 : Nat) (v : Option Value) (h : Heap) (L : List Loc) : Prop := ∃ (ba : Addr), ∃ (kb : ClassId), ∃ (cd : Int32), ∃ (ln : Int32), ∃ (vs : List Value), v = none ∧ Fr n0 L ∧ Keep h0 h [r1] ∧ h0.size ≤ ba ∧ Exa Z h r1 "java/lang/String" ∧ Fld Z h r1 "java/lang/String" "value" "[B" (.ref ba) ∧ Fld Z h r1 "java/lang/String" "coder" "B" (.int cd) ∧ Arv Z h ba kb .byte ln vs (.int (0 : Int32)) ∧ Exa Z h ba "[B" ∧ own_s3 x0 x1 x2 cd ln vs
theorem own_ef_own_ini1_3 (m : MethodId) (r1 : Addr) (r2 : Addr) : entryFrame m #[(.ref r1), (.ref r2)] 2 = mkF m 0 #[rv r1, rv r2] [] := by first | (simp [entryFrame, mkF, argsToLocals, Value.category]; done) | rfl
set_option maxRecDepth 65536 in
set_option maxHeartbeats 40000000 in
theorem own_ini1_3 (l : Launch) (Z : State) (a0 : Array Value) (hw : ∀ d ∈ tables_1, d.before a0 Z = true) (ws : List Jvm.Cond) (r1 : Addr) (r2 : Addr) (k1 : ClassId) (x0 : Int32) (x1 : Int32) (x2 : Int32) (zcs : Int32) (h0 : Heap) (n0 : Nat) (Z0 : n0 ≤ h0.size) (O0 : Old Z n0 h0) (S_cs : Sta Z Z.heap "java/lang/String" "COMPACT_STRINGS" "Z" (.int zcs)) (hcs : ¬ zcs = (0 : Int32)) (S_ad : Sta Z Z.heap "java/lang/StringUTF16" "$assertionsDisabled" "Z" (.int (1 : Int32))) (S_hi : Sta Z Z.heap "java/lang/StringUTF16" "HI_BYTE_SHIFT" "I" (.int (0 : Int32))) (S_lo : Sta Z Z.heap "java/lang/StringUTF16" "LO_BYTE_SHIFT" "I" (.int (8 : Int32))) (hk0 : own_ch x0) (hk1 : own_ch x1) (hk2 : own_ch x2) (E1 : Exa Z h0 r1 "java/lang/String") (F1 : Fld Z h0 r1 "java/lang/String" "value" "[B" .null) (F2 : Fld Z h0 r1 "java/lang/String" "coder" "B" (.int (0 : Int32))) (g1 : n0 ≤ r1) (V1 : Arv Z h0 r2 k1 .char (3 : Int32) [(.int x0), (.int x1), (.int x2)] (.int (0 : Int32))) :
    own_Ctr l Z (⟨"java/lang/String", "<init>", "([C)V"⟩ : MethodName) jdk_42_method_3_code 2 none ws ({ frames := 5, cells := 2, slots := 9, locals := 74 } : Room) (({ frames := 5, cells := 2, slots := 9, locals := 74 } : Room)).cells (({ frames := 5, cells := 2, slots := 9, locals := 74 } : Room)).slots #[(.ref r1), (.ref r2)] h0 (Q_own_ini1_3 Z r1 r2 k1 x0 x1 x2 zcs h0 n0) := by
  refine own_enter (plainFor_of_name own_pn1) ?_
  intro p e s m below meth c s₁ X0 hx hZ hby hml hown hnm hlk hret e0
  have N0 := Fr.nil n0
  refine own_cast (own_ef_own_ini1_3 m r1 r2) ?_
  refine own_by (g' := (mkF m 4 #[rv r1, rv r2] [(.ref r2), (.int (0 : Int32)), (.ref r2), (.ref r1)])) (fun t k => XS.aloadN X0.here hx rfl (hb hby own_d2_0) rfl rfl (XS.aloadN X0.here hx rfl (hb hby own_d2_1) rfl rfl (XS.iconst X0.here hx rfl (hb hby own_d2_2) (XS.aloadN X0.here hx rfl (hb hby own_d2_3) rfl rfl k)))) ?_
  obtain ⟨c101, Ar101, -, S101, G101, -, -⟩ := id V1
  refine own_by (g' := (mkF m 5 #[rv r1, rv r2] [(.int (3 : Int32)), (.int (0 : Int32)), (.ref r2), (.ref r1)])) (fun t k => X0.arraylength hx (own_at_ e0 Ar101.1) (State.isArrayOf_alike hZ.alike Ar101.2.1) (g := (mkF m 4 #[rv r1, rv r2] [(.ref r2), (.int (0 : Int32)), (.ref r2), (.ref r1)])) rfl rfl (hb hby own_d2_4) t (by rw [len_of S101 G101]; exact k)) ?_
  refine own_by (g' := (mkF m 6 #[rv r1, rv r2] [.null, (.int (3 : Int32)), (.int (0 : Int32)), (.ref r2), (.ref r1)])) (fun t k => XS.aconstNull X0.here hx rfl (hb hby own_d2_5) k) ?_
  refine own_callI X0 hx hZ hown rfl (hw _ (List.mem_of_getElem? (i := 12) rfl)) (hw _ (List.mem_of_getElem? (i := 13) rfl)) (hw _ (List.mem_of_getElem? (i := 7) rfl)) (hw _ (List.mem_of_getElem? (i := 15) rfl)) (by decide) (a := r1) (own_ini4_3 l Z a0 hw [] (r1) (r2) (k1) (x0) (x1) (x2) (zcs) h0 n0 Z0 O0 S_cs (by first | assumption | decide) S_ad S_hi S_lo (by first | assumption | decide) (by first | assumption | decide) (by first | assumption | decide) E1 F1 F2 g1 V1) 0 (by decide) (by decide) (by decide) (by decide) e0 (g := (mkF m 6 #[rv r1, rv r2] [.null, (.int (3 : Int32)), (.int (0 : Int32)), (.ref r2), (.ref r1)])) rfl (by rw [hml]; rfl) (argsL := [(.ref r2), (.int (0 : Int32)), (.int (3 : Int32)), .null]) (rest := []) (lenOf own_pd13 rfl) rfl (by show 2 * 0 + _ ≤ _; exact Nat.le_of_eq rfl) (hb hby own_d2_6) ?_
  intro v102 T102 L102 X102 q102
  obtain ⟨ba102, kb102, cd102, ln102, vs102, rfl, N102q, K102, f103, f104, f105, f106, f107, f108, f109⟩ := q102
  have N102 := Fr.app N0 N102q
  show own_Goes p e below s _ _ _ T102 (mkF m 9 #[rv r1, rv r2] [])
  refine own_retV X102 hx hlk hret (hb hby own_d2_9) (by decide) (by decide) ?_
  exact ⟨ba102, kb102, cd102, ln102, vs102, rfl, N102, ((Keep.refl h0 [r1]).trans K102 (allS (Or.inl (List.mem_of_getElem? (i := 0) rfl)) all0)), (Nat.le_trans (Nat.le_refl _) f103), f104, f105, f106, f107, f108, f109⟩
def Q_own_nbl4 (Z : State)  (h0 : Heap) (n0 : Nat) (v : Option Value) (h : Heap) (L : List Loc) : Prop := v = some (.int (8 : Int32)) ∧ Fr n0 L ∧ h = h0
theorem own_ef_own_nbl4 (m : MethodId)  : entryFrame m #[(.int (4 : Int32))] 1 = mkF m 0 #[iv (4 : Int32)] [] := by first | (simp [entryFrame, mkF, argsToLocals, Value.category]; done) | rfl
set_option maxRecDepth 65536 in
set_option maxHeartbeats 40000000 in
theorem own_nbl4 (l : Launch) (Z : State) (a0 : Array Value) (hw : ∀ d ∈ tables_1, d.before a0 Z = true) (ws : List Jvm.Cond)  (h0 : Heap) (n0 : Nat) (Z0 : n0 ≤ h0.size)  :
    own_Ctr l Z (⟨"java/lang/StringUTF16", "newBytesLength", "(I)I"⟩ : MethodName) jdk_52_method_3_code 1 (some .int) ws ({ frames := 0, cells := 0, slots := 0, locals := 0 } : Room) (({ frames := 0, cells := 0, slots := 0, locals := 0 } : Room)).cells (({ frames := 0, cells := 0, slots := 0, locals := 0 } : Room)).slots #[(.int (4 : Int32))] h0 (Q_own_nbl4 Z  h0 n0) := by
  refine own_enter (plainFor_of_name own_pn2) ?_
  intro p e s m below meth c s₁ X0 hx hZ hby hml hown hnm hlk hret e0
  have N0 := Fr.nil n0
  refine own_cast (own_ef_own_nbl4 m ) ?_
  refine own_by (g' := (mkF m 58 #[iv (4 : Int32)] [(.int ((4 : Int32) <<< ((1 : Int32) &&& 31)))])) (fun t k => XS.iloadN X0.here hx rfl (hb hby own_d18_0) rfl (XS.ifYes X0.here hx rfl (pc0 := 1) (pc' := 12) rfl (hb hby own_d18_1) rfl ((if0 _ _).trans (flt (by decide : ¬ ((4 : Int32) < (0 : Int32)))).2.1) (by decide) (by decide) (XS.iloadN X0.here hx rfl (hb hby own_d18_12) rfl (X0.ldcInt hx hown (mvT hZ (hw _ (List.mem_of_getElem? (i := 85) rfl))) (g := (mkF m 13 #[iv (4 : Int32)] [(.int (4 : Int32))])) rfl (hb hby own_d18_13) t (XS.icmpYes X0.here hx rfl (pc0 := 15) (pc' := 55) rfl (hb hby own_d18_15) rfl (tlt (by decide : (4 : Int32) < (1073741823 : Int32))).1 (by decide) (by decide) (XS.iloadN X0.here hx rfl (hb hby own_d18_55) rfl (XS.iconst X0.here hx rfl (hb hby own_d18_56) (XS.ishl X0.here hx rfl (hb hby own_d18_57) rfl k)))))))) ?_
  refine own_retI X0 hx hlk hret (hb hby own_d18_58) (by decide) (by decide) ?_
  exact ⟨(by decide), N0, e0⟩
def Q_own_nbf4 (Z : State)  (h0 : Heap) (n0 : Nat) (v : Option Value) (h : Heap) (L : List Loc) : Prop := ∃ (bo : Addr), ∃ (kb : ClassId), v = some (.ref bo) ∧ Fr n0 L ∧ Keep h0 h [] ∧ h0.size ≤ bo ∧ Exa Z h bo "[B" ∧ Arv Z h bo kb .byte (8 : Int32) [(.int (0 : Int32)), (.int (0 : Int32)), (.int (0 : Int32)), (.int (0 : Int32)), (.int (0 : Int32)), (.int (0 : Int32)), (.int (0 : Int32)), (.int (0 : Int32))] (.int (0 : Int32))
theorem own_ef_own_nbf4 (m : MethodId)  : entryFrame m #[(.int (4 : Int32))] 1 = mkF m 0 #[iv (4 : Int32)] [] := by first | (simp [entryFrame, mkF, argsToLocals, Value.category]; done) | rfl
set_option maxRecDepth 65536 in
set_option maxHeartbeats 40000000 in
theorem own_nbf4 (l : Launch) (Z : State) (a0 : Array Value) (hw : ∀ d ∈ tables_1, d.before a0 Z = true) (ws : List Jvm.Cond)  (h0 : Heap) (n0 : Nat) (Z0 : n0 ≤ h0.size)  :
    own_Ctr l Z (⟨"java/lang/StringUTF16", "newBytesFor", "(I)[B"⟩ : MethodName) jdk_52_method_2_code 1 (some (.array .byte)) ws ({ frames := 1, cells := 1, slots := 8, locals := 12 } : Room) (({ frames := 1, cells := 1, slots := 8, locals := 12 } : Room)).cells (({ frames := 1, cells := 1, slots := 8, locals := 12 } : Room)).slots #[(.int (4 : Int32))] h0 (Q_own_nbf4 Z  h0 n0) := by
  refine own_enter (plainFor_of_name own_pn2) ?_
  intro p e s m below meth c s₁ X0 hx hZ hby hml hown hnm hlk hret e0
  have N0 := Fr.nil n0
  refine own_cast (own_ef_own_nbf4 m ) ?_
  refine own_by (g' := (mkF m 1 #[iv (4 : Int32)] [(.int (4 : Int32))])) (fun t k => XS.iloadN X0.here hx rfl (hb hby own_d17_0) rfl k) ?_
  refine own_callS X0 hx hZ hown (hw _ (List.mem_of_getElem? (i := 82) rfl)) (hw _ (List.mem_of_getElem? (i := 83) rfl)) (hw _ (List.mem_of_getElem? (i := 22) rfl)) (hw _ (List.mem_of_getElem? (i := 84) rfl)) (by decide) (own_nbl4 l Z a0 hw []  h0 n0 Z0 ) 0 (by decide) (by decide) (by decide) (by decide) e0 (g := (mkF m 1 #[iv (4 : Int32)] [(.int (4 : Int32))])) rfl (by rw [hml]; rfl) (argsL := [(.int (4 : Int32))]) (rest := []) (lenOf own_pd7 rfl) rfl (by show 2 * 0 + _ ≤ _; exact Nat.le_of_eq rfl) (hb hby own_d17_1) ?_
  intro v101 T101 L101 X101 q101
  obtain ⟨rfl, N101q, e101⟩ := q101
  have N101 := Fr.app N0 N101q
  show own_Goes p e below s _ _ _ T101 (mkF m 4 #[iv (4 : Int32)] [(.int (8 : Int32))])
  obtain ⟨T102, h102, k102, X102, e102, E102, A102, Y102, st102⟩ := newPE X101 hx hZ (hw _ (List.mem_of_getElem? (i := 24) rfl)) e101 (g := (mkF m 4 #[iv (4 : Int32)] [(.int (8 : Int32))])) rfl (hb hby own_d17_4) rfl (by decide) (cap := 8) (by decide) (by decide) (by decide) (by decide) (ad := "[B") own_ad_byte
  obtain ⟨b102, g102⟩ : ∃ z, z = h0.size := ⟨_, rfl⟩
  rw [← g102] at A102 Y102 st102
  have sz_b102 : h0.size ≤ b102 := Nat.le_trans (Nat.le_refl _) (Nat.le_of_eq g102.symm)
  have g_b102 : n0 ≤ b102 := Nat.le_trans Z0 sz_b102
  have V102 : Arv Z h102 b102 k102 .byte (8 : Int32) [(.int (0 : Int32)), (.int (0 : Int32)), (.int (0 : Int32)), (.int (0 : Int32)), (.int (0 : Int32)), (.int (0 : Int32)), (.int (0 : Int32)), (.int (0 : Int32))] (.int (0 : Int32)) := (Arv.new A102 (by decide)).pad (pad_rep [] (.int (0 : Int32)) 8)
  refine own_by (g' := (mkF m 6 #[iv (4 : Int32)] [(.ref b102)])) st102 ?_
  refine own_retA X102 hx hlk hret rfl rfl (hb hby own_d17_6) (by decide) (by decide) ?_
  rw [e102]
  exact ⟨b102, k102, rfl, N101, ((Keep.refl h0 []).ext E102), sz_b102, Y102, V102⟩
def Q_own_putc4_0 (Z : State) (r1 : Addr) (k1 : ClassId) (xc : Int32) (ye0 : Value) (ye1 : Value) (ye2 : Value) (ye3 : Value) (ye4 : Value) (ye5 : Value) (ye6 : Value) (ye7 : Value) (h0 : Heap) (n0 : Nat) (v : Option Value) (h : Heap) (L : List Loc) : Prop := v = none ∧ Fr n0 L ∧ Keep h0 h [r1] ∧ Arv Z h r1 k1 .byte (8 : Int32) [(.int ((xc >>> ((0 : Int32) &&& 31))).toInt8.toInt32), (.int ((xc >>> ((8 : Int32) &&& 31))).toInt8.toInt32), ye2, ye3, ye4, ye5, ye6, ye7] (.int (0 : Int32))
theorem own_ef_own_putc4_0 (m : MethodId) (r1 : Addr) (xc : Int32) : entryFrame m #[(.ref r1), (.int (0 : Int32)), (.int xc)] 3 = mkF m 0 #[rv r1, iv (0 : Int32), iv xc] [] := by first | (simp [entryFrame, mkF, argsToLocals, Value.category]; done) | rfl
set_option maxRecDepth 65536 in
set_option maxHeartbeats 40000000 in
theorem own_putc4_0 (l : Launch) (Z : State) (a0 : Array Value) (hw : ∀ d ∈ tables_1, d.before a0 Z = true) (ws : List Jvm.Cond) (r1 : Addr) (k1 : ClassId) (xc : Int32) (ye0 : Value) (ye1 : Value) (ye2 : Value) (ye3 : Value) (ye4 : Value) (ye5 : Value) (ye6 : Value) (ye7 : Value) (h0 : Heap) (n0 : Nat) (Z0 : n0 ≤ h0.size) (O0 : Old Z n0 h0) (S_ad : Sta Z Z.heap "java/lang/StringUTF16" "$assertionsDisabled" "Z" (.int (1 : Int32))) (S_hi : Sta Z Z.heap "java/lang/StringUTF16" "HI_BYTE_SHIFT" "I" (.int (0 : Int32))) (S_lo : Sta Z Z.heap "java/lang/StringUTF16" "LO_BYTE_SHIFT" "I" (.int (8 : Int32))) (V1 : Arv Z h0 r1 k1 .byte (8 : Int32) [ye0, ye1, ye2, ye3, ye4, ye5, ye6, ye7] (.int (0 : Int32))) (g1 : n0 ≤ r1) :
    own_Ctr l Z (⟨"java/lang/StringUTF16", "putChar", "([BII)V"⟩ : MethodName) jdk_52_method_4_code 3 none ws ({ frames := 0, cells := 0, slots := 0, locals := 0 } : Room) (({ frames := 0, cells := 0, slots := 0, locals := 0 } : Room)).cells (({ frames := 0, cells := 0, slots := 0, locals := 0 } : Room)).slots #[(.ref r1), (.int (0 : Int32)), (.int xc)] h0 (Q_own_putc4_0 Z r1 k1 xc ye0 ye1 ye2 ye3 ye4 ye5 ye6 ye7 h0 n0) := by
  refine own_enter (plainFor_of_name own_pn2) ?_
  intro p e s m below meth c s₁ X0 hx hZ hby hml hown hnm hlk hret e0
  have N0 := Fr.nil n0
  refine own_cast (own_ef_own_putc4_0 m r1 xc) ?_
  obtain ⟨T101, X101, e101, st101⟩ := getS2 X0 hx hZ hown (host := "") (Or.inl (hw _ (List.mem_of_getElem? (i := 89) rfl))) Via.refl e0 (S_ad.ext O0.2) (g := (mkF m 0 #[rv r1, iv (0 : Int32), iv xc] [])) rfl (hb hby own_d19_0)
  refine own_by (g' := (mkF m 3 #[rv r1, iv (0 : Int32), iv xc] [(.int (1 : Int32))])) st101 ?_
  refine own_by (g' := (mkF m 31 #[rv r1, iv (0 : Int32), iv xc] [(.int ((0 : Int32) <<< ((1 : Int32) &&& 31)))])) (fun t k => XS.ifYes X101.here hx rfl (pc0 := 3) (pc' := 28) rfl (hb hby own_d19_3) rfl ((if0 _ _).trans (feq (by decide : ¬ ((1 : Int32) = (0 : Int32)))).2) (by decide) (by decide) (XS.iloadN X101.here hx rfl (hb hby own_d19_28) rfl (XS.iconst X101.here hx rfl (hb hby own_d19_29) (XS.ishl X101.here hx rfl (hb hby own_d19_30) rfl k)))) ?_
  have hz : ((0 : Int32) <<< ((1 : Int32) &&& 31)) = (0 : Int32) := by decide
  rw [hz]
  refine own_by (g' := (mkF m 38 #[rv r1, iv (1 : Int32), iv xc] [(.int xc), (.int (0 : Int32)), (.ref r1)])) (fun t k => XS.istoreN X101.here hx rfl (hb hby own_d19_31) rfl (l' := #[rv r1, iv (0 : Int32), iv xc]) rfl (XS.aloadN X101.here hx rfl (hb hby own_d19_32) rfl rfl (XS.iloadN X101.here hx rfl (hb hby own_d19_33) rfl (XS.iinc X101.here hx rfl (hb hby own_d19_34) rfl (l' := #[rv r1, iv (1 : Int32), iv xc]) rfl (XS.iloadN X101.here hx rfl (hb hby own_d19_37) rfl k))))) ?_
  obtain ⟨T102, X102, e102, st102⟩ := getS2 X101 hx hZ hown (host := "") (Or.inl (hw _ (List.mem_of_getElem? (i := 90) rfl))) Via.refl e101 (S_hi.ext O0.2) (g := (mkF m 38 #[rv r1, iv (1 : Int32), iv xc] [(.int xc), (.int (0 : Int32)), (.ref r1)])) rfl (hb hby own_d19_38)
  refine own_by (g' := (mkF m 41 #[rv r1, iv (1 : Int32), iv xc] [(.int (0 : Int32)), (.int xc), (.int (0 : Int32)), (.ref r1)])) st102 ?_
  refine own_by (g' := (mkF m 43 #[rv r1, iv (1 : Int32), iv xc] [(.int ((xc >>> ((0 : Int32) &&& 31))).toInt8.toInt32), (.int (0 : Int32)), (.ref r1)])) (fun t k => XS.ishr X102.here hx rfl (hb hby own_d19_41) rfl (XS.i2b X102.here hx rfl (hb hby own_d19_42) rfl k)) ?_
  obtain ⟨c103, Ar103, q103, S103, G103, H103, F103⟩ := id V1
  have hin103 : ¬ ((0 : Int32) < 0 ∨ c103.slots.size ≤ ((0 : Int32)).toNatClampNeg) := inb_of S103 ⟨by decide, by decide⟩
  obtain ⟨T103, h103, X103, e103, W103, st103⟩ := stB X102 hx hZ e102 Ar103 (j := (0 : Int32)) hin103 (g := (mkF m 43 #[rv r1, iv (1 : Int32), iv xc] [(.int ((xc >>> ((0 : Int32) &&& 31))).toInt8.toInt32), (.int (0 : Int32)), (.ref r1)])) rfl rfl (hb hby own_d19_43)
  have V104 : Arv Z h103 r1 k1 .byte (8 : Int32) [(.int ((xc >>> ((0 : Int32) &&& 31))).toInt8.toInt32), ye1, ye2, ye3, ye4, ye5, ye6, ye7] (.int (0 : Int32)) := Arv.set Ar103 q103 S103 G103 H103 F103 (fits_nar_byte _) (own_wr W103 (congrArg Value.int (own_b8 _))) 0 rfl (Nat.le_of_ble_eq_true rfl)
  have N103 := Fr.snoc X103 N0 g1
  refine own_by (g' := (mkF m 44 #[rv r1, iv (1 : Int32), iv xc] [])) st103 ?_
  refine own_by (g' := (mkF m 47 #[rv r1, iv (1 : Int32), iv xc] [(.int xc), (.int (1 : Int32)), (.ref r1)])) (fun t k => XS.aloadN X103.here hx rfl (hb hby own_d19_44) rfl rfl (XS.iloadN X103.here hx rfl (hb hby own_d19_45) rfl (XS.iloadN X103.here hx rfl (hb hby own_d19_46) rfl k))) ?_
  have f105 := (O0.wr W103 g1)
  obtain ⟨T106, X106, e106, st106⟩ := getS2 X103 hx hZ hown (host := "") (Or.inl (hw _ (List.mem_of_getElem? (i := 91) rfl))) Via.refl e103 (S_lo.ext f105.2) (g := (mkF m 47 #[rv r1, iv (1 : Int32), iv xc] [(.int xc), (.int (1 : Int32)), (.ref r1)])) rfl (hb hby own_d19_47)
  refine own_by (g' := (mkF m 50 #[rv r1, iv (1 : Int32), iv xc] [(.int (8 : Int32)), (.int xc), (.int (1 : Int32)), (.ref r1)])) st106 ?_
  refine own_by (g' := (mkF m 52 #[rv r1, iv (1 : Int32), iv xc] [(.int ((xc >>> ((8 : Int32) &&& 31))).toInt8.toInt32), (.int (1 : Int32)), (.ref r1)])) (fun t k => XS.ishr X106.here hx rfl (hb hby own_d19_50) rfl (XS.i2b X106.here hx rfl (hb hby own_d19_51) rfl k)) ?_
  obtain ⟨c107, Ar107, q107, S107, G107, H107, F107⟩ := id V104
  have hin107 : ¬ ((1 : Int32) < 0 ∨ c107.slots.size ≤ ((1 : Int32)).toNatClampNeg) := inb_of S107 ⟨by decide, by decide⟩
  obtain ⟨T107, h107, X107, e107, W107, st107⟩ := stB X106 hx hZ e106 Ar107 (j := (1 : Int32)) hin107 (g := (mkF m 52 #[rv r1, iv (1 : Int32), iv xc] [(.int ((xc >>> ((8 : Int32) &&& 31))).toInt8.toInt32), (.int (1 : Int32)), (.ref r1)])) rfl rfl (hb hby own_d19_52)
  have V108 : Arv Z h107 r1 k1 .byte (8 : Int32) [(.int ((xc >>> ((0 : Int32) &&& 31))).toInt8.toInt32), (.int ((xc >>> ((8 : Int32) &&& 31))).toInt8.toInt32), ye2, ye3, ye4, ye5, ye6, ye7] (.int (0 : Int32)) := Arv.set Ar107 q107 S107 G107 H107 F107 (fits_nar_byte _) (own_wr W107 (congrArg Value.int (own_b8 _))) 1 rfl (Nat.le_of_ble_eq_true rfl)
  have N107 := Fr.snoc X107 N103 g1
  refine own_by (g' := (mkF m 53 #[rv r1, iv (1 : Int32), iv xc] [])) st107 ?_
  refine own_retV X107 hx hlk hret (hb hby own_d19_53) (by decide) (by decide) ?_
  rw [e107]
  exact ⟨rfl, N107, (((Keep.refl h0 [r1]).wr W103 (Or.inl (List.mem_of_getElem? (i := 0) rfl))).wr W107 (Or.inl (List.mem_of_getElem? (i := 0) rfl))), V108⟩
def Q_own_putc4_1 (Z : State) (r1 : Addr) (k1 : ClassId) (xc : Int32) (ye0 : Value) (ye1 : Value) (ye2 : Value) (ye3 : Value) (ye4 : Value) (ye5 : Value) (ye6 : Value) (ye7 : Value) (h0 : Heap) (n0 : Nat) (v : Option Value) (h : Heap) (L : List Loc) : Prop := v = none ∧ Fr n0 L ∧ Keep h0 h [r1] ∧ Arv Z h r1 k1 .byte (8 : Int32) [ye0, ye1, (.int ((xc >>> ((0 : Int32) &&& 31))).toInt8.toInt32), (.int ((xc >>> ((8 : Int32) &&& 31))).toInt8.toInt32), ye4, ye5, ye6, ye7] (.int (0 : Int32))
theorem own_ef_own_putc4_1 (m : MethodId) (r1 : Addr) (xc : Int32) : entryFrame m #[(.ref r1), (.int (1 : Int32)), (.int xc)] 3 = mkF m 0 #[rv r1, iv (1 : Int32), iv xc] [] := by first | (simp [entryFrame, mkF, argsToLocals, Value.category]; done) | rfl
set_option maxRecDepth 65536 in
set_option maxHeartbeats 40000000 in
theorem own_putc4_1 (l : Launch) (Z : State) (a0 : Array Value) (hw : ∀ d ∈ tables_1, d.before a0 Z = true) (ws : List Jvm.Cond) (r1 : Addr) (k1 : ClassId) (xc : Int32) (ye0 : Value) (ye1 : Value) (ye2 : Value) (ye3 : Value) (ye4 : Value) (ye5 : Value) (ye6 : Value) (ye7 : Value) (h0 : Heap) (n0 : Nat) (Z0 : n0 ≤ h0.size) (O0 : Old Z n0 h0) (S_ad : Sta Z Z.heap "java/lang/StringUTF16" "$assertionsDisabled" "Z" (.int (1 : Int32))) (S_hi : Sta Z Z.heap "java/lang/StringUTF16" "HI_BYTE_SHIFT" "I" (.int (0 : Int32))) (S_lo : Sta Z Z.heap "java/lang/StringUTF16" "LO_BYTE_SHIFT" "I" (.int (8 : Int32))) (V1 : Arv Z h0 r1 k1 .byte (8 : Int32) [ye0, ye1, ye2, ye3, ye4, ye5, ye6, ye7] (.int (0 : Int32))) (g1 : n0 ≤ r1) :
    own_Ctr l Z (⟨"java/lang/StringUTF16", "putChar", "([BII)V"⟩ : MethodName) jdk_52_method_4_code 3 none ws ({ frames := 0, cells := 0, slots := 0, locals := 0 } : Room) (({ frames := 0, cells := 0, slots := 0, locals := 0 } : Room)).cells (({ frames := 0, cells := 0, slots := 0, locals := 0 } : Room)).slots #[(.ref r1), (.int (1 : Int32)), (.int xc)] h0 (Q_own_putc4_1 Z r1 k1 xc ye0 ye1 ye2 ye3 ye4 ye5 ye6 ye7 h0 n0) := by
  refine own_enter (plainFor_of_name own_pn2) ?_
  intro p e s m below meth c s₁ X0 hx hZ hby hml hown hnm hlk hret e0
  have N0 := Fr.nil n0
  refine own_cast (own_ef_own_putc4_1 m r1 xc) ?_
  obtain ⟨T101, X101, e101, st101⟩ := getS2 X0 hx hZ hown (host := "") (Or.inl (hw _ (List.mem_of_getElem? (i := 89) rfl))) Via.refl e0 (S_ad.ext O0.2) (g := (mkF m 0 #[rv r1, iv (1 : Int32), iv xc] [])) rfl (hb hby own_d19_0)
  refine own_by (g' := (mkF m 3 #[rv r1, iv (1 : Int32), iv xc] [(.int (1 : Int32))])) st101 ?_
  refine own_by (g' := (mkF m 31 #[rv r1, iv (1 : Int32), iv xc] [(.int ((1 : Int32) <<< ((1 : Int32) &&& 31)))])) (fun t k => XS.ifYes X101.here hx rfl (pc0 := 3) (pc' := 28) rfl (hb hby own_d19_3) rfl ((if0 _ _).trans (feq (by decide : ¬ ((1 : Int32) = (0 : Int32)))).2) (by decide) (by decide) (XS.iloadN X101.here hx rfl (hb hby own_d19_28) rfl (XS.iconst X101.here hx rfl (hb hby own_d19_29) (XS.ishl X101.here hx rfl (hb hby own_d19_30) rfl k)))) ?_
  have hz : ((1 : Int32) <<< ((1 : Int32) &&& 31)) = (2 : Int32) := by decide
  rw [hz]
  refine own_by (g' := (mkF m 38 #[rv r1, iv (3 : Int32), iv xc] [(.int xc), (.int (2 : Int32)), (.ref r1)])) (fun t k => XS.istoreN X101.here hx rfl (hb hby own_d19_31) rfl (l' := #[rv r1, iv (2 : Int32), iv xc]) rfl (XS.aloadN X101.here hx rfl (hb hby own_d19_32) rfl rfl (XS.iloadN X101.here hx rfl (hb hby own_d19_33) rfl (XS.iinc X101.here hx rfl (hb hby own_d19_34) rfl (l' := #[rv r1, iv (3 : Int32), iv xc]) rfl (XS.iloadN X101.here hx rfl (hb hby own_d19_37) rfl k))))) ?_
  obtain ⟨T102, X102, e102, st102⟩ := getS2 X101 hx hZ hown (host := "") (Or.inl (hw _ (List.mem_of_getElem? (i := 90) rfl))) Via.refl e101 (S_hi.ext O0.2) (g := (mkF m 38 #[rv r1, iv (3 : Int32), iv xc] [(.int xc), (.int (2 : Int32)), (.ref r1)])) rfl (hb hby own_d19_38)
  refine own_by (g' := (mkF m 41 #[rv r1, iv (3 : Int32), iv xc] [(.int (0 : Int32)), (.int xc), (.int (2 : Int32)), (.ref r1)])) st102 ?_
  refine own_by (g' := (mkF m 43 #[rv r1, iv (3 : Int32), iv xc] [(.int ((xc >>> ((0 : Int32) &&& 31))).toInt8.toInt32), (.int (2 : Int32)), (.ref r1)])) (fun t k => XS.ishr X102.here hx rfl (hb hby own_d19_41) rfl (XS.i2b X102.here hx rfl (hb hby own_d19_42) rfl k)) ?_
  obtain ⟨c103, Ar103, q103, S103, G103, H103, F103⟩ := id V1
  have hin103 : ¬ ((2 : Int32) < 0 ∨ c103.slots.size ≤ ((2 : Int32)).toNatClampNeg) := inb_of S103 ⟨by decide, by decide⟩
  obtain ⟨T103, h103, X103, e103, W103, st103⟩ := stB X102 hx hZ e102 Ar103 (j := (2 : Int32)) hin103 (g := (mkF m 43 #[rv r1, iv (3 : Int32), iv xc] [(.int ((xc >>> ((0 : Int32) &&& 31))).toInt8.toInt32), (.int (2 : Int32)), (.ref r1)])) rfl rfl (hb hby own_d19_43)
  have V104 : Arv Z h103 r1 k1 .byte (8 : Int32) [ye0, ye1, (.int ((xc >>> ((0 : Int32) &&& 31))).toInt8.toInt32), ye3, ye4, ye5, ye6, ye7] (.int (0 : Int32)) := Arv.set Ar103 q103 S103 G103 H103 F103 (fits_nar_byte _) (own_wr W103 (congrArg Value.int (own_b8 _))) 2 rfl (Nat.le_of_ble_eq_true rfl)
  have N103 := Fr.snoc X103 N0 g1
  refine own_by (g' := (mkF m 44 #[rv r1, iv (3 : Int32), iv xc] [])) st103 ?_
  refine own_by (g' := (mkF m 47 #[rv r1, iv (3 : Int32), iv xc] [(.int xc), (.int (3 : Int32)), (.ref r1)])) (fun t k => XS.aloadN X103.here hx rfl (hb hby own_d19_44) rfl rfl (XS.iloadN X103.here hx rfl (hb hby own_d19_45) rfl (XS.iloadN X103.here hx rfl (hb hby own_d19_46) rfl k))) ?_
  have f105 := (O0.wr W103 g1)
  obtain ⟨T106, X106, e106, st106⟩ := getS2 X103 hx hZ hown (host := "") (Or.inl (hw _ (List.mem_of_getElem? (i := 91) rfl))) Via.refl e103 (S_lo.ext f105.2) (g := (mkF m 47 #[rv r1, iv (3 : Int32), iv xc] [(.int xc), (.int (3 : Int32)), (.ref r1)])) rfl (hb hby own_d19_47)
  refine own_by (g' := (mkF m 50 #[rv r1, iv (3 : Int32), iv xc] [(.int (8 : Int32)), (.int xc), (.int (3 : Int32)), (.ref r1)])) st106 ?_
  refine own_by (g' := (mkF m 52 #[rv r1, iv (3 : Int32), iv xc] [(.int ((xc >>> ((8 : Int32) &&& 31))).toInt8.toInt32), (.int (3 : Int32)), (.ref r1)])) (fun t k => XS.ishr X106.here hx rfl (hb hby own_d19_50) rfl (XS.i2b X106.here hx rfl (hb hby own_d19_51) rfl k)) ?_
  obtain ⟨c107, Ar107, q107, S107, G107, H107, F107⟩ := id V104
  have hin107 : ¬ ((3 : Int32) < 0 ∨ c107.slots.size ≤ ((3 : Int32)).toNatClampNeg) := inb_of S107 ⟨by decide, by decide⟩
  obtain ⟨T107, h107, X107, e107, W107, st107⟩ := stB X106 hx hZ e106 Ar107 (j := (3 : Int32)) hin107 (g := (mkF m 52 #[rv r1, iv (3 : Int32), iv xc] [(.int ((xc >>> ((8 : Int32) &&& 31))).toInt8.toInt32), (.int (3 : Int32)), (.ref r1)])) rfl rfl (hb hby own_d19_52)
  have V108 : Arv Z h107 r1 k1 .byte (8 : Int32) [ye0, ye1, (.int ((xc >>> ((0 : Int32) &&& 31))).toInt8.toInt32), (.int ((xc >>> ((8 : Int32) &&& 31))).toInt8.toInt32), ye4, ye5, ye6, ye7] (.int (0 : Int32)) := Arv.set Ar107 q107 S107 G107 H107 F107 (fits_nar_byte _) (own_wr W107 (congrArg Value.int (own_b8 _))) 3 rfl (Nat.le_of_ble_eq_true rfl)
  have N107 := Fr.snoc X107 N103 g1
  refine own_by (g' := (mkF m 53 #[rv r1, iv (3 : Int32), iv xc] [])) st107 ?_
  refine own_retV X107 hx hlk hret (hb hby own_d19_53) (by decide) (by decide) ?_
  rw [e107]
  exact ⟨rfl, N107, (((Keep.refl h0 [r1]).wr W103 (Or.inl (List.mem_of_getElem? (i := 0) rfl))).wr W107 (Or.inl (List.mem_of_getElem? (i := 0) rfl))), V108⟩
def Q_own_putc4_2 (Z : State) (r1 : Addr) (k1 : ClassId) (xc : Int32) (ye0 : Value) (ye1 : Value) (ye2 : Value) (ye3 : Value) (ye4 : Value) (ye5 : Value) (ye6 : Value) (ye7 : Value) (h0 : Heap) (n0 : Nat) (v : Option Value) (h : Heap) (L : List Loc) : Prop := v = none ∧ Fr n0 L ∧ Keep h0 h [r1] ∧ Arv Z h r1 k1 .byte (8 : Int32) [ye0, ye1, ye2, ye3, (.int ((xc >>> ((0 : Int32) &&& 31))).toInt8.toInt32), (.int ((xc >>> ((8 : Int32) &&& 31))).toInt8.toInt32), ye6, ye7] (.int (0 : Int32))
theorem own_ef_own_putc4_2 (m : MethodId) (r1 : Addr) (xc : Int32) : entryFrame m #[(.ref r1), (.int (2 : Int32)), (.int xc)] 3 = mkF m 0 #[rv r1, iv (2 : Int32), iv xc] [] := by first | (simp [entryFrame, mkF, argsToLocals, Value.category]; done) | rfl
set_option maxRecDepth 65536 in
set_option maxHeartbeats 40000000 in
theorem own_putc4_2 (l : Launch) (Z : State) (a0 : Array Value) (hw : ∀ d ∈ tables_1, d.before a0 Z = true) (ws : List Jvm.Cond) (r1 : Addr) (k1 : ClassId) (xc : Int32) (ye0 : Value) (ye1 : Value) (ye2 : Value) (ye3 : Value) (ye4 : Value) (ye5 : Value) (ye6 : Value) (ye7 : Value) (h0 : Heap) (n0 : Nat) (Z0 : n0 ≤ h0.size) (O0 : Old Z n0 h0) (S_ad : Sta Z Z.heap "java/lang/StringUTF16" "$assertionsDisabled" "Z" (.int (1 : Int32))) (S_hi : Sta Z Z.heap "java/lang/StringUTF16" "HI_BYTE_SHIFT" "I" (.int (0 : Int32))) (S_lo : Sta Z Z.heap "java/lang/StringUTF16" "LO_BYTE_SHIFT" "I" (.int (8 : Int32))) (V1 : Arv Z h0 r1 k1 .byte (8 : Int32) [ye0, ye1, ye2, ye3, ye4, ye5, ye6, ye7] (.int (0 : Int32))) (g1 : n0 ≤ r1) :
    own_Ctr l Z (⟨"java/lang/StringUTF16", "putChar", "([BII)V"⟩ : MethodName) jdk_52_method_4_code 3 none ws ({ frames := 0, cells := 0, slots := 0, locals := 0 } : Room) (({ frames := 0, cells := 0, slots := 0, locals := 0 } : Room)).cells (({ frames := 0, cells := 0, slots := 0, locals := 0 } : Room)).slots #[(.ref r1), (.int (2 : Int32)), (.int xc)] h0 (Q_own_putc4_2 Z r1 k1 xc ye0 ye1 ye2 ye3 ye4 ye5 ye6 ye7 h0 n0) := by
  refine own_enter (plainFor_of_name own_pn2) ?_
  intro p e s m below meth c s₁ X0 hx hZ hby hml hown hnm hlk hret e0
  have N0 := Fr.nil n0
  refine own_cast (own_ef_own_putc4_2 m r1 xc) ?_
  obtain ⟨T101, X101, e101, st101⟩ := getS2 X0 hx hZ hown (host := "") (Or.inl (hw _ (List.mem_of_getElem? (i := 89) rfl))) Via.refl e0 (S_ad.ext O0.2) (g := (mkF m 0 #[rv r1, iv (2 : Int32), iv xc] [])) rfl (hb hby own_d19_0)
  refine own_by (g' := (mkF m 3 #[rv r1, iv (2 : Int32), iv xc] [(.int (1 : Int32))])) st101 ?_
  refine own_by (g' := (mkF m 31 #[rv r1, iv (2 : Int32), iv xc] [(.int ((2 : Int32) <<< ((1 : Int32) &&& 31)))])) (fun t k => XS.ifYes X101.here hx rfl (pc0 := 3) (pc' := 28) rfl (hb hby own_d19_3) rfl ((if0 _ _).trans (feq (by decide : ¬ ((1 : Int32) = (0 : Int32)))).2) (by decide) (by decide) (XS.iloadN X101.here hx rfl (hb hby own_d19_28) rfl (XS.iconst X101.here hx rfl (hb hby own_d19_29) (XS.ishl X101.here hx rfl (hb hby own_d19_30) rfl k)))) ?_
  have hz : ((2 : Int32) <<< ((1 : Int32) &&& 31)) = (4 : Int32) := by decide
  rw [hz]
  refine own_by (g' := (mkF m 38 #[rv r1, iv (5 : Int32), iv xc] [(.int xc), (.int (4 : Int32)), (.ref r1)])) (fun t k => XS.istoreN X101.here hx rfl (hb hby own_d19_31) rfl (l' := #[rv r1, iv (4 : Int32), iv xc]) rfl (XS.aloadN X101.here hx rfl (hb hby own_d19_32) rfl rfl (XS.iloadN X101.here hx rfl (hb hby own_d19_33) rfl (XS.iinc X101.here hx rfl (hb hby own_d19_34) rfl (l' := #[rv r1, iv (5 : Int32), iv xc]) rfl (XS.iloadN X101.here hx rfl (hb hby own_d19_37) rfl k))))) ?_
  obtain ⟨T102, X102, e102, st102⟩ := getS2 X101 hx hZ hown (host := "") (Or.inl (hw _ (List.mem_of_getElem? (i := 90) rfl))) Via.refl e101 (S_hi.ext O0.2) (g := (mkF m 38 #[rv r1, iv (5 : Int32), iv xc] [(.int xc), (.int (4 : Int32)), (.ref r1)])) rfl (hb hby own_d19_38)
  refine own_by (g' := (mkF m 41 #[rv r1, iv (5 : Int32), iv xc] [(.int (0 : Int32)), (.int xc), (.int (4 : Int32)), (.ref r1)])) st102 ?_
  refine own_by (g' := (mkF m 43 #[rv r1, iv (5 : Int32), iv xc] [(.int ((xc >>> ((0 : Int32) &&& 31))).toInt8.toInt32), (.int (4 : Int32)), (.ref r1)])) (fun t k => XS.ishr X102.here hx rfl (hb hby own_d19_41) rfl (XS.i2b X102.here hx rfl (hb hby own_d19_42) rfl k)) ?_
  obtain ⟨c103, Ar103, q103, S103, G103, H103, F103⟩ := id V1
  have hin103 : ¬ ((4 : Int32) < 0 ∨ c103.slots.size ≤ ((4 : Int32)).toNatClampNeg) := inb_of S103 ⟨by decide, by decide⟩
  obtain ⟨T103, h103, X103, e103, W103, st103⟩ := stB X102 hx hZ e102 Ar103 (j := (4 : Int32)) hin103 (g := (mkF m 43 #[rv r1, iv (5 : Int32), iv xc] [(.int ((xc >>> ((0 : Int32) &&& 31))).toInt8.toInt32), (.int (4 : Int32)), (.ref r1)])) rfl rfl (hb hby own_d19_43)
  have V104 : Arv Z h103 r1 k1 .byte (8 : Int32) [ye0, ye1, ye2, ye3, (.int ((xc >>> ((0 : Int32) &&& 31))).toInt8.toInt32), ye5, ye6, ye7] (.int (0 : Int32)) := Arv.set Ar103 q103 S103 G103 H103 F103 (fits_nar_byte _) (own_wr W103 (congrArg Value.int (own_b8 _))) 4 rfl (Nat.le_of_ble_eq_true rfl)
  have N103 := Fr.snoc X103 N0 g1
  refine own_by (g' := (mkF m 44 #[rv r1, iv (5 : Int32), iv xc] [])) st103 ?_
  refine own_by (g' := (mkF m 47 #[rv r1, iv (5 : Int32), iv xc] [(.int xc), (.int (5 : Int32)), (.ref r1)])) (fun t k => XS.aloadN X103.here hx rfl (hb hby own_d19_44) rfl rfl (XS.iloadN X103.here hx rfl (hb hby own_d19_45) rfl (XS.iloadN X103.here hx rfl (hb hby own_d19_46) rfl k))) ?_
  have f105 := (O0.wr W103 g1)
  obtain ⟨T106, X106, e106, st106⟩ := getS2 X103 hx hZ hown (host := "") (Or.inl (hw _ (List.mem_of_getElem? (i := 91) rfl))) Via.refl e103 (S_lo.ext f105.2) (g := (mkF m 47 #[rv r1, iv (5 : Int32), iv xc] [(.int xc), (.int (5 : Int32)), (.ref r1)])) rfl (hb hby own_d19_47)
  refine own_by (g' := (mkF m 50 #[rv r1, iv (5 : Int32), iv xc] [(.int (8 : Int32)), (.int xc), (.int (5 : Int32)), (.ref r1)])) st106 ?_
  refine own_by (g' := (mkF m 52 #[rv r1, iv (5 : Int32), iv xc] [(.int ((xc >>> ((8 : Int32) &&& 31))).toInt8.toInt32), (.int (5 : Int32)), (.ref r1)])) (fun t k => XS.ishr X106.here hx rfl (hb hby own_d19_50) rfl (XS.i2b X106.here hx rfl (hb hby own_d19_51) rfl k)) ?_
  obtain ⟨c107, Ar107, q107, S107, G107, H107, F107⟩ := id V104
  have hin107 : ¬ ((5 : Int32) < 0 ∨ c107.slots.size ≤ ((5 : Int32)).toNatClampNeg) := inb_of S107 ⟨by decide, by decide⟩
  obtain ⟨T107, h107, X107, e107, W107, st107⟩ := stB X106 hx hZ e106 Ar107 (j := (5 : Int32)) hin107 (g := (mkF m 52 #[rv r1, iv (5 : Int32), iv xc] [(.int ((xc >>> ((8 : Int32) &&& 31))).toInt8.toInt32), (.int (5 : Int32)), (.ref r1)])) rfl rfl (hb hby own_d19_52)
  have V108 : Arv Z h107 r1 k1 .byte (8 : Int32) [ye0, ye1, ye2, ye3, (.int ((xc >>> ((0 : Int32) &&& 31))).toInt8.toInt32), (.int ((xc >>> ((8 : Int32) &&& 31))).toInt8.toInt32), ye6, ye7] (.int (0 : Int32)) := Arv.set Ar107 q107 S107 G107 H107 F107 (fits_nar_byte _) (own_wr W107 (congrArg Value.int (own_b8 _))) 5 rfl (Nat.le_of_ble_eq_true rfl)
  have N107 := Fr.snoc X107 N103 g1
  refine own_by (g' := (mkF m 53 #[rv r1, iv (5 : Int32), iv xc] [])) st107 ?_
  refine own_retV X107 hx hlk hret (hb hby own_d19_53) (by decide) (by decide) ?_
  rw [e107]
  exact ⟨rfl, N107, (((Keep.refl h0 [r1]).wr W103 (Or.inl (List.mem_of_getElem? (i := 0) rfl))).wr W107 (Or.inl (List.mem_of_getElem? (i := 0) rfl))), V108⟩
def Q_own_putc4_3 (Z : State) (r1 : Addr) (k1 : ClassId) (xc : Int32) (ye0 : Value) (ye1 : Value) (ye2 : Value) (ye3 : Value) (ye4 : Value) (ye5 : Value) (ye6 : Value) (ye7 : Value) (h0 : Heap) (n0 : Nat) (v : Option Value) (h : Heap) (L : List Loc) : Prop := v = none ∧ Fr n0 L ∧ Keep h0 h [r1] ∧ Arv Z h r1 k1 .byte (8 : Int32) [ye0, ye1, ye2, ye3, ye4, ye5, (.int ((xc >>> ((0 : Int32) &&& 31))).toInt8.toInt32), (.int ((xc >>> ((8 : Int32) &&& 31))).toInt8.toInt32)] (.int (0 : Int32))
theorem own_ef_own_putc4_3 (m : MethodId) (r1 : Addr) (xc : Int32) : entryFrame m #[(.ref r1), (.int (3 : Int32)), (.int xc)] 3 = mkF m 0 #[rv r1, iv (3 : Int32), iv xc] [] := by first | (simp [entryFrame, mkF, argsToLocals, Value.category]; done) | rfl
set_option maxRecDepth 65536 in
set_option maxHeartbeats 40000000 in
theorem own_putc4_3 (l : Launch) (Z : State) (a0 : Array Value) (hw : ∀ d ∈ tables_1, d.before a0 Z = true) (ws : List Jvm.Cond) (r1 : Addr) (k1 : ClassId) (xc : Int32) (ye0 : Value) (ye1 : Value) (ye2 : Value) (ye3 : Value) (ye4 : Value) (ye5 : Value) (ye6 : Value) (ye7 : Value) (h0 : Heap) (n0 : Nat) (Z0 : n0 ≤ h0.size) (O0 : Old Z n0 h0) (S_ad : Sta Z Z.heap "java/lang/StringUTF16" "$assertionsDisabled" "Z" (.int (1 : Int32))) (S_hi : Sta Z Z.heap "java/lang/StringUTF16" "HI_BYTE_SHIFT" "I" (.int (0 : Int32))) (S_lo : Sta Z Z.heap "java/lang/StringUTF16" "LO_BYTE_SHIFT" "I" (.int (8 : Int32))) (V1 : Arv Z h0 r1 k1 .byte (8 : Int32) [ye0, ye1, ye2, ye3, ye4, ye5, ye6, ye7] (.int (0 : Int32))) (g1 : n0 ≤ r1) :
    own_Ctr l Z (⟨"java/lang/StringUTF16", "putChar", "([BII)V"⟩ : MethodName) jdk_52_method_4_code 3 none ws ({ frames := 0, cells := 0, slots := 0, locals := 0 } : Room) (({ frames := 0, cells := 0, slots := 0, locals := 0 } : Room)).cells (({ frames := 0, cells := 0, slots := 0, locals := 0 } : Room)).slots #[(.ref r1), (.int (3 : Int32)), (.int xc)] h0 (Q_own_putc4_3 Z r1 k1 xc ye0 ye1 ye2 ye3 ye4 ye5 ye6 ye7 h0 n0) := by
  refine own_enter (plainFor_of_name own_pn2) ?_
  intro p e s m below meth c s₁ X0 hx hZ hby hml hown hnm hlk hret e0
  have N0 := Fr.nil n0
  refine own_cast (own_ef_own_putc4_3 m r1 xc) ?_
  obtain ⟨T101, X101, e101, st101⟩ := getS2 X0 hx hZ hown (host := "") (Or.inl (hw _ (List.mem_of_getElem? (i := 89) rfl))) Via.refl e0 (S_ad.ext O0.2) (g := (mkF m 0 #[rv r1, iv (3 : Int32), iv xc] [])) rfl (hb hby own_d19_0)
  refine own_by (g' := (mkF m 3 #[rv r1, iv (3 : Int32), iv xc] [(.int (1 : Int32))])) st101 ?_
  refine own_by (g' := (mkF m 31 #[rv r1, iv (3 : Int32), iv xc] [(.int ((3 : Int32) <<< ((1 : Int32) &&& 31)))])) (fun t k => XS.ifYes X101.here hx rfl (pc0 := 3) (pc' := 28) rfl (hb hby own_d19_3) rfl ((if0 _ _).trans (feq (by decide : ¬ ((1 : Int32) = (0 : Int32)))).2) (by decide) (by decide) (XS.iloadN X101.here hx rfl (hb hby own_d19_28) rfl (XS.iconst X101.here hx rfl (hb hby own_d19_29) (XS.ishl X101.here hx rfl (hb hby own_d19_30) rfl k)))) ?_
  have hz : ((3 : Int32) <<< ((1 : Int32) &&& 31)) = (6 : Int32) := by decide
  rw [hz]
  refine own_by (g' := (mkF m 38 #[rv r1, iv (7 : Int32), iv xc] [(.int xc), (.int (6 : Int32)), (.ref r1)])) (fun t k => XS.istoreN X101.here hx rfl (hb hby own_d19_31) rfl (l' := #[rv r1, iv (6 : Int32), iv xc]) rfl (XS.aloadN X101.here hx rfl (hb hby own_d19_32) rfl rfl (XS.iloadN X101.here hx rfl (hb hby own_d19_33) rfl (XS.iinc X101.here hx rfl (hb hby own_d19_34) rfl (l' := #[rv r1, iv (7 : Int32), iv xc]) rfl (XS.iloadN X101.here hx rfl (hb hby own_d19_37) rfl k))))) ?_
  obtain ⟨T102, X102, e102, st102⟩ := getS2 X101 hx hZ hown (host := "") (Or.inl (hw _ (List.mem_of_getElem? (i := 90) rfl))) Via.refl e101 (S_hi.ext O0.2) (g := (mkF m 38 #[rv r1, iv (7 : Int32), iv xc] [(.int xc), (.int (6 : Int32)), (.ref r1)])) rfl (hb hby own_d19_38)
  refine own_by (g' := (mkF m 41 #[rv r1, iv (7 : Int32), iv xc] [(.int (0 : Int32)), (.int xc), (.int (6 : Int32)), (.ref r1)])) st102 ?_
  refine own_by (g' := (mkF m 43 #[rv r1, iv (7 : Int32), iv xc] [(.int ((xc >>> ((0 : Int32) &&& 31))).toInt8.toInt32), (.int (6 : Int32)), (.ref r1)])) (fun t k => XS.ishr X102.here hx rfl (hb hby own_d19_41) rfl (XS.i2b X102.here hx rfl (hb hby own_d19_42) rfl k)) ?_
  obtain ⟨c103, Ar103, q103, S103, G103, H103, F103⟩ := id V1
  have hin103 : ¬ ((6 : Int32) < 0 ∨ c103.slots.size ≤ ((6 : Int32)).toNatClampNeg) := inb_of S103 ⟨by decide, by decide⟩
  obtain ⟨T103, h103, X103, e103, W103, st103⟩ := stB X102 hx hZ e102 Ar103 (j := (6 : Int32)) hin103 (g := (mkF m 43 #[rv r1, iv (7 : Int32), iv xc] [(.int ((xc >>> ((0 : Int32) &&& 31))).toInt8.toInt32), (.int (6 : Int32)), (.ref r1)])) rfl rfl (hb hby own_d19_43)
  have V104 : Arv Z h103 r1 k1 .byte (8 : Int32) [ye0, ye1, ye2, ye3, ye4, ye5, (.int ((xc >>> ((0 : Int32) &&& 31))).toInt8.toInt32), ye7] (.int (0 : Int32)) := Arv.set Ar103 q103 S103 G103 H103 F103 (fits_nar_byte _) (own_wr W103 (congrArg Value.int (own_b8 _))) 6 rfl (Nat.le_of_ble_eq_true rfl)
  have N103 := Fr.snoc X103 N0 g1
  refine own_by (g' := (mkF m 44 #[rv r1, iv (7 : Int32), iv xc] [])) st103 ?_
  refine own_by (g' := (mkF m 47 #[rv r1, iv (7 : Int32), iv xc] [(.int xc), (.int (7 : Int32)), (.ref r1)])) (fun t k => XS.aloadN X103.here hx rfl (hb hby own_d19_44) rfl rfl (XS.iloadN X103.here hx rfl (hb hby own_d19_45) rfl (XS.iloadN X103.here hx rfl (hb hby own_d19_46) rfl k))) ?_
  have f105 := (O0.wr W103 g1)
  obtain ⟨T106, X106, e106, st106⟩ := getS2 X103 hx hZ hown (host := "") (Or.inl (hw _ (List.mem_of_getElem? (i := 91) rfl))) Via.refl e103 (S_lo.ext f105.2) (g := (mkF m 47 #[rv r1, iv (7 : Int32), iv xc] [(.int xc), (.int (7 : Int32)), (.ref r1)])) rfl (hb hby own_d19_47)
  refine own_by (g' := (mkF m 50 #[rv r1, iv (7 : Int32), iv xc] [(.int (8 : Int32)), (.int xc), (.int (7 : Int32)), (.ref r1)])) st106 ?_
  refine own_by (g' := (mkF m 52 #[rv r1, iv (7 : Int32), iv xc] [(.int ((xc >>> ((8 : Int32) &&& 31))).toInt8.toInt32), (.int (7 : Int32)), (.ref r1)])) (fun t k => XS.ishr X106.here hx rfl (hb hby own_d19_50) rfl (XS.i2b X106.here hx rfl (hb hby own_d19_51) rfl k)) ?_
  obtain ⟨c107, Ar107, q107, S107, G107, H107, F107⟩ := id V104
  have hin107 : ¬ ((7 : Int32) < 0 ∨ c107.slots.size ≤ ((7 : Int32)).toNatClampNeg) := inb_of S107 ⟨by decide, by decide⟩
  obtain ⟨T107, h107, X107, e107, W107, st107⟩ := stB X106 hx hZ e106 Ar107 (j := (7 : Int32)) hin107 (g := (mkF m 52 #[rv r1, iv (7 : Int32), iv xc] [(.int ((xc >>> ((8 : Int32) &&& 31))).toInt8.toInt32), (.int (7 : Int32)), (.ref r1)])) rfl rfl (hb hby own_d19_52)
  have V108 : Arv Z h107 r1 k1 .byte (8 : Int32) [ye0, ye1, ye2, ye3, ye4, ye5, (.int ((xc >>> ((0 : Int32) &&& 31))).toInt8.toInt32), (.int ((xc >>> ((8 : Int32) &&& 31))).toInt8.toInt32)] (.int (0 : Int32)) := Arv.set Ar107 q107 S107 G107 H107 F107 (fits_nar_byte _) (own_wr W107 (congrArg Value.int (own_b8 _))) 7 rfl (Nat.le_of_ble_eq_true rfl)
  have N107 := Fr.snoc X107 N103 g1
  refine own_by (g' := (mkF m 53 #[rv r1, iv (7 : Int32), iv xc] [])) st107 ?_
  refine own_retV X107 hx hlk hret (hb hby own_d19_53) (by decide) (by decide) ?_
  rw [e107]
  exact ⟨rfl, N107, (((Keep.refl h0 [r1]).wr W103 (Or.inl (List.mem_of_getElem? (i := 0) rfl))).wr W107 (Or.inl (List.mem_of_getElem? (i := 0) rfl))), V108⟩
def Q_own_tob4 (Z : State) (r1 : Addr) (k1 : ClassId) (x0 : Int32) (x1 : Int32) (x2 : Int32) (x3 : Int32) (h0 : Heap) (n0 : Nat) (v : Option Value) (h : Heap) (L : List Loc) : Prop := ∃ (bo : Addr), ∃ (kb : ClassId), v = some (.ref bo) ∧ Fr n0 L ∧ Keep h0 h [] ∧ h0.size ≤ bo ∧ Exa Z h bo "[B" ∧ Arv Z h bo kb .byte (8 : Int32) [(.int ((x0 >>> ((0 : Int32) &&& 31))).toInt8.toInt32), (.int ((x0 >>> ((8 : Int32) &&& 31))).toInt8.toInt32), (.int ((x1 >>> ((0 : Int32) &&& 31))).toInt8.toInt32), (.int ((x1 >>> ((8 : Int32) &&& 31))).toInt8.toInt32), (.int ((x2 >>> ((0 : Int32) &&& 31))).toInt8.toInt32), (.int ((x2 >>> ((8 : Int32) &&& 31))).toInt8.toInt32), (.int ((x3 >>> ((0 : Int32) &&& 31))).toInt8.toInt32), (.int ((x3 >>> ((8 : Int32) &&& 31))).toInt8.toInt32)] (.int (0 : Int32))
theorem own_ef_own_tob4 (m : MethodId) (r1 : Addr) : entryFrame m #[(.ref r1), (.int (0 : Int32)), (.int (4 : Int32))] 5 = mkF m 0 #[rv r1, iv (0 : Int32), iv (4 : Int32), .unset, .unset] [] := by first | (simp [entryFrame, mkF, argsToLocals, Value.category]; done) | rfl
set_option maxRecDepth 65536 in
set_option maxHeartbeats 40000000 in
theorem own_tob4 (l : Launch) (Z : State) (a0 : Array Value) (hw : ∀ d ∈ tables_1, d.before a0 Z = true) (ws : List Jvm.Cond) (r1 : Addr) (k1 : ClassId) (x0 : Int32) (x1 : Int32) (x2 : Int32) (x3 : Int32) (h0 : Heap) (n0 : Nat) (Z0 : n0 ≤ h0.size) (O0 : Old Z n0 h0) (S_ad : Sta Z Z.heap "java/lang/StringUTF16" "$assertionsDisabled" "Z" (.int (1 : Int32))) (S_hi : Sta Z Z.heap "java/lang/StringUTF16" "HI_BYTE_SHIFT" "I" (.int (0 : Int32))) (S_lo : Sta Z Z.heap "java/lang/StringUTF16" "LO_BYTE_SHIFT" "I" (.int (8 : Int32))) (V1 : Arv Z h0 r1 k1 .char (4 : Int32) [(.int x0), (.int x1), (.int x2), (.int x3)] (.int (0 : Int32))) :
    own_Ctr l Z (⟨"java/lang/StringUTF16", "toBytes", "([CII)[B"⟩ : MethodName) jdk_52_method_14_code 5 (some (.array .byte)) ws ({ frames := 2, cells := 1, slots := 8, locals := 24 } : Room) (({ frames := 2, cells := 1, slots := 8, locals := 24 } : Room)).cells (({ frames := 2, cells := 1, slots := 8, locals := 24 } : Room)).slots #[(.ref r1), (.int (0 : Int32)), (.int (4 : Int32))] h0 (Q_own_tob4 Z r1 k1 x0 x1 x2 x3 h0 n0) := by
  refine own_enter (plainFor_of_name own_pn2) ?_
  intro p e s m below meth c s₁ X0 hx hZ hby hml hown hnm hlk hret e0
  have N0 := Fr.nil n0
  refine own_cast (own_ef_own_tob4 m r1) ?_
  refine own_by (g' := (mkF m 1 #[rv r1, iv (0 : Int32), iv (4 : Int32), .unset, .unset] [(.int (4 : Int32))])) (fun t k => XS.iloadN X0.here hx rfl (hb hby own_d16_0) rfl k) ?_
  refine own_callS X0 hx hZ hown (hw _ (List.mem_of_getElem? (i := 79) rfl)) (hw _ (List.mem_of_getElem? (i := 80) rfl)) (hw _ (List.mem_of_getElem? (i := 22) rfl)) (hw _ (List.mem_of_getElem? (i := 81) rfl)) (by decide) (own_nbf4 l Z a0 hw []  h0 n0 Z0 ) 0 (by decide) (by decide) (by decide) (by decide) e0 (g := (mkF m 1 #[rv r1, iv (0 : Int32), iv (4 : Int32), .unset, .unset] [(.int (4 : Int32))])) rfl (by rw [hml]; rfl) (argsL := [(.int (4 : Int32))]) (rest := []) (lenOf own_pd8 rfl) rfl (by show 2 * 0 + _ ≤ _; exact Nat.le_of_eq rfl) (hb hby own_d16_1) ?_
  intro v101 T101 L101 X101 q101
  obtain ⟨bo101, kb101, rfl, N101q, K101, f102, f103, f104⟩ := q101
  have N101 := Fr.app N0 N101q
  show own_Goes p e below s _ _ _ T101 (mkF m 4 #[rv r1, iv (0 : Int32), iv (4 : Int32), .unset, .unset] [(.ref bo101)])
  refine own_by (g' := (mkF m 17 #[rv r1, iv (0 : Int32), iv (4 : Int32), rv bo101, iv (0 : Int32)] [(.int (0 : Int32)), (.ref bo101)])) (fun t k => XS.astoreN X101.here hx rfl (hb hby own_d16_4) rfl rfl (l' := #[rv r1, iv (0 : Int32), iv (4 : Int32), rv bo101, .unset]) rfl (XS.iconst X101.here hx rfl (hb hby own_d16_5) (XS.istore X101.here hx rfl (hb hby own_d16_6) rfl (l' := #[rv r1, iv (0 : Int32), iv (4 : Int32), rv bo101, iv (0 : Int32)]) rfl (XS.iload X101.here hx rfl (hb hby own_d16_8) rfl (XS.iloadN X101.here hx rfl (hb hby own_d16_10) rfl (XS.icmpNo X101.here hx rfl (hb hby own_d16_11) rfl (tlt (by decide : (0 : Int32) < (4 : Int32))).2.1 (XS.aloadN X101.here hx rfl (hb hby own_d16_14) rfl rfl (XS.iload X101.here hx rfl (hb hby own_d16_15) rfl k)))))))) ?_
  refine own_by (g' := (mkF m 19 #[rv r1, iv (0 : Int32), iv (4 : Int32), rv bo101, iv (0 : Int32)] [(.int (0 : Int32)), (.ref r1), (.int (0 : Int32)), (.ref bo101)])) (fun t k => XS.aloadN X101.here hx rfl (hb hby own_d16_17) rfl rfl (XS.iloadN X101.here hx rfl (hb hby own_d16_18) rfl k)) ?_
  have f105 := (V1.keep K101 nin0)
  obtain ⟨c106, Ar106, q106, S106, G106, H106, F106⟩ := id f105
  have hin106 : ¬ ((0 : Int32) < 0 ∨ c106.slots.size ≤ ((0 : Int32)).toNatClampNeg) := inb_of S106 ⟨by decide, by decide⟩
  have hat106 : c106.slots[((0 : Int32)).toNatClampNeg]? = some (.int x0) := H106.at hin106 rfl
  refine own_by (g' := (mkF m 20 #[rv r1, iv (0 : Int32), iv (4 : Int32), rv bo101, iv (0 : Int32)] [(.int x0), (.int (0 : Int32)), (.ref bo101)])) (fun t k => X101.caload hx (j := (0 : Int32)) (v := (.int x0)) (own_at_ rfl Ar106.1) (State.isArrayOf_alike hZ.alike Ar106.2.1) Ar106.2.2 hin106 hat106 (g := (mkF m 19 #[rv r1, iv (0 : Int32), iv (4 : Int32), rv bo101, iv (0 : Int32)] [(.int (0 : Int32)), (.ref r1), (.int (0 : Int32)), (.ref bo101)])) rfl rfl (hb hby own_d16_19) t k) ?_
  have f107 := (O0.keep K101 all0)
  refine own_callS X101 hx hZ hown (hw _ (List.mem_of_getElem? (i := 86) rfl)) (hw _ (List.mem_of_getElem? (i := 87) rfl)) (hw _ (List.mem_of_getElem? (i := 22) rfl)) (hw _ (List.mem_of_getElem? (i := 88) rfl)) (by decide) (own_putc4_0 l Z a0 hw [] (bo101) (kb101) (x0) ((.int (0 : Int32))) ((.int (0 : Int32))) ((.int (0 : Int32))) ((.int (0 : Int32))) ((.int (0 : Int32))) ((.int (0 : Int32))) ((.int (0 : Int32))) ((.int (0 : Int32))) T101.heap n0 (Nat.le_trans Z0 K101.1) f107 S_ad S_hi S_lo f104 (Nat.le_trans Z0 f102)) 0 (by decide) (by decide) (by decide) (by decide) rfl (g := (mkF m 20 #[rv r1, iv (0 : Int32), iv (4 : Int32), rv bo101, iv (0 : Int32)] [(.int x0), (.int (0 : Int32)), (.ref bo101)])) rfl (by rw [hml]; rfl) (argsL := [(.ref bo101), (.int (0 : Int32)), (.int x0)]) (rest := []) (lenOf own_pd9 rfl) rfl (by show 2 * 0 + _ ≤ _; exact Nat.le_of_eq rfl) (hb hby own_d16_20) ?_
  intro v108 T108 L108 X108 q108
  obtain ⟨rfl, N108q, K108, f109⟩ := q108
  have N108 := Fr.app N101 N108q
  show own_Goes p e below s _ _ _ T108 (mkF m 23 #[rv r1, iv (0 : Int32), iv (4 : Int32), rv bo101, iv (0 : Int32)] [])
  refine own_by (g' := (mkF m 17 #[rv r1, iv (1 : Int32), iv (4 : Int32), rv bo101, iv (1 : Int32)] [(.int (1 : Int32)), (.ref bo101)])) (fun t k => XS.iinc X108.here hx rfl (hb hby own_d16_23) rfl (l' := #[rv r1, iv (1 : Int32), iv (4 : Int32), rv bo101, iv (0 : Int32)]) rfl (XS.iinc X108.here hx rfl (hb hby own_d16_26) rfl (l' := #[rv r1, iv (1 : Int32), iv (4 : Int32), rv bo101, iv (1 : Int32)]) rfl (XS.goto X108.here hx rfl (pc0 := 29) (pc' := 8) rfl (hb hby own_d16_29) (by decide) (by decide) (XS.iload X108.here hx rfl (hb hby own_d16_8) rfl (XS.iloadN X108.here hx rfl (hb hby own_d16_10) rfl (XS.icmpNo X108.here hx rfl (hb hby own_d16_11) rfl (tlt (by decide : (1 : Int32) < (4 : Int32))).2.1 (XS.aloadN X108.here hx rfl (hb hby own_d16_14) rfl rfl (XS.iload X108.here hx rfl (hb hby own_d16_15) rfl k)))))))) ?_
  refine own_by (g' := (mkF m 19 #[rv r1, iv (1 : Int32), iv (4 : Int32), rv bo101, iv (1 : Int32)] [(.int (1 : Int32)), (.ref r1), (.int (1 : Int32)), (.ref bo101)])) (fun t k => XS.aloadN X108.here hx rfl (hb hby own_d16_17) rfl rfl (XS.iloadN X108.here hx rfl (hb hby own_d16_18) rfl k)) ?_
  have f110 := (f105.keep K108 (ninS (Nat.ne_of_lt (Nat.lt_of_lt_of_le (Nat.lt_of_lt_of_le V1.lt (Nat.le_refl _)) f102)) nin0))
  obtain ⟨c111, Ar111, q111, S111, G111, H111, F111⟩ := id f110
  have hin111 : ¬ ((1 : Int32) < 0 ∨ c111.slots.size ≤ ((1 : Int32)).toNatClampNeg) := inb_of S111 ⟨by decide, by decide⟩
  have hat111 : c111.slots[((1 : Int32)).toNatClampNeg]? = some (.int x1) := H111.at hin111 rfl
  refine own_by (g' := (mkF m 20 #[rv r1, iv (1 : Int32), iv (4 : Int32), rv bo101, iv (1 : Int32)] [(.int x1), (.int (1 : Int32)), (.ref bo101)])) (fun t k => X108.caload hx (j := (1 : Int32)) (v := (.int x1)) (own_at_ rfl Ar111.1) (State.isArrayOf_alike hZ.alike Ar111.2.1) Ar111.2.2 hin111 hat111 (g := (mkF m 19 #[rv r1, iv (1 : Int32), iv (4 : Int32), rv bo101, iv (1 : Int32)] [(.int (1 : Int32)), (.ref r1), (.int (1 : Int32)), (.ref bo101)])) rfl rfl (hb hby own_d16_19) t k) ?_
  have f112 := (f107.keep K108 (allS (Nat.le_trans Z0 f102) all0))
  refine own_callS X108 hx hZ hown (hw _ (List.mem_of_getElem? (i := 86) rfl)) (hw _ (List.mem_of_getElem? (i := 87) rfl)) (hw _ (List.mem_of_getElem? (i := 22) rfl)) (hw _ (List.mem_of_getElem? (i := 88) rfl)) (by decide) (own_putc4_1 l Z a0 hw [] (bo101) (kb101) (x1) ((.int ((x0 >>> ((0 : Int32) &&& 31))).toInt8.toInt32)) ((.int ((x0 >>> ((8 : Int32) &&& 31))).toInt8.toInt32)) ((.int (0 : Int32))) ((.int (0 : Int32))) ((.int (0 : Int32))) ((.int (0 : Int32))) ((.int (0 : Int32))) ((.int (0 : Int32))) T108.heap n0 (Nat.le_trans Z0 (Nat.le_trans K101.1 K108.1)) f112 S_ad S_hi S_lo f109 (Nat.le_trans Z0 f102)) 0 (by decide) (by decide) (by decide) (by decide) rfl (g := (mkF m 20 #[rv r1, iv (1 : Int32), iv (4 : Int32), rv bo101, iv (1 : Int32)] [(.int x1), (.int (1 : Int32)), (.ref bo101)])) rfl (by rw [hml]; rfl) (argsL := [(.ref bo101), (.int (1 : Int32)), (.int x1)]) (rest := []) (lenOf own_pd9 rfl) rfl (by show 2 * 0 + _ ≤ _; exact Nat.le_of_eq rfl) (hb hby own_d16_20) ?_
  intro v113 T113 L113 X113 q113
  obtain ⟨rfl, N113q, K113, f114⟩ := q113
  have N113 := Fr.app N108 N113q
  show own_Goes p e below s _ _ _ T113 (mkF m 23 #[rv r1, iv (1 : Int32), iv (4 : Int32), rv bo101, iv (1 : Int32)] [])
  refine own_by (g' := (mkF m 17 #[rv r1, iv (2 : Int32), iv (4 : Int32), rv bo101, iv (2 : Int32)] [(.int (2 : Int32)), (.ref bo101)])) (fun t k => XS.iinc X113.here hx rfl (hb hby own_d16_23) rfl (l' := #[rv r1, iv (2 : Int32), iv (4 : Int32), rv bo101, iv (1 : Int32)]) rfl (XS.iinc X113.here hx rfl (hb hby own_d16_26) rfl (l' := #[rv r1, iv (2 : Int32), iv (4 : Int32), rv bo101, iv (2 : Int32)]) rfl (XS.goto X113.here hx rfl (pc0 := 29) (pc' := 8) rfl (hb hby own_d16_29) (by decide) (by decide) (XS.iload X113.here hx rfl (hb hby own_d16_8) rfl (XS.iloadN X113.here hx rfl (hb hby own_d16_10) rfl (XS.icmpNo X113.here hx rfl (hb hby own_d16_11) rfl (tlt (by decide : (2 : Int32) < (4 : Int32))).2.1 (XS.aloadN X113.here hx rfl (hb hby own_d16_14) rfl rfl (XS.iload X113.here hx rfl (hb hby own_d16_15) rfl k)))))))) ?_
  refine own_by (g' := (mkF m 19 #[rv r1, iv (2 : Int32), iv (4 : Int32), rv bo101, iv (2 : Int32)] [(.int (2 : Int32)), (.ref r1), (.int (2 : Int32)), (.ref bo101)])) (fun t k => XS.aloadN X113.here hx rfl (hb hby own_d16_17) rfl rfl (XS.iloadN X113.here hx rfl (hb hby own_d16_18) rfl k)) ?_
  have f115 := (f110.keep K113 (ninS (Nat.ne_of_lt (Nat.lt_of_lt_of_le (Nat.lt_of_lt_of_le V1.lt (Nat.le_refl _)) f102)) nin0))
  obtain ⟨c116, Ar116, q116, S116, G116, H116, F116⟩ := id f115
  have hin116 : ¬ ((2 : Int32) < 0 ∨ c116.slots.size ≤ ((2 : Int32)).toNatClampNeg) := inb_of S116 ⟨by decide, by decide⟩
  have hat116 : c116.slots[((2 : Int32)).toNatClampNeg]? = some (.int x2) := H116.at hin116 rfl
  refine own_by (g' := (mkF m 20 #[rv r1, iv (2 : Int32), iv (4 : Int32), rv bo101, iv (2 : Int32)] [(.int x2), (.int (2 : Int32)), (.ref bo101)])) (fun t k => X113.caload hx (j := (2 : Int32)) (v := (.int x2)) (own_at_ rfl Ar116.1) (State.isArrayOf_alike hZ.alike Ar116.2.1) Ar116.2.2 hin116 hat116 (g := (mkF m 19 #[rv r1, iv (2 : Int32), iv (4 : Int32), rv bo101, iv (2 : Int32)] [(.int (2 : Int32)), (.ref r1), (.int (2 : Int32)), (.ref bo101)])) rfl rfl (hb hby own_d16_19) t k) ?_
  have f117 := (f112.keep K113 (allS (Nat.le_trans Z0 f102) all0))
  refine own_callS X113 hx hZ hown (hw _ (List.mem_of_getElem? (i := 86) rfl)) (hw _ (List.mem_of_getElem? (i := 87) rfl)) (hw _ (List.mem_of_getElem? (i := 22) rfl)) (hw _ (List.mem_of_getElem? (i := 88) rfl)) (by decide) (own_putc4_2 l Z a0 hw [] (bo101) (kb101) (x2) ((.int ((x0 >>> ((0 : Int32) &&& 31))).toInt8.toInt32)) ((.int ((x0 >>> ((8 : Int32) &&& 31))).toInt8.toInt32)) ((.int ((x1 >>> ((0 : Int32) &&& 31))).toInt8.toInt32)) ((.int ((x1 >>> ((8 : Int32) &&& 31))).toInt8.toInt32)) ((.int (0 : Int32))) ((.int (0 : Int32))) ((.int (0 : Int32))) ((.int (0 : Int32))) T113.heap n0 (Nat.le_trans Z0 (Nat.le_trans (Nat.le_trans K101.1 K108.1) K113.1)) f117 S_ad S_hi S_lo f114 (Nat.le_trans Z0 f102)) 0 (by decide) (by decide) (by decide) (by decide) rfl (g := (mkF m 20 #[rv r1, iv (2 : Int32), iv (4 : Int32), rv bo101, iv (2 : Int32)] [(.int x2), (.int (2 : Int32)), (.ref bo101)])) rfl (by rw [hml]; rfl) (argsL := [(.ref bo101), (.int (2 : Int32)), (.int x2)]) (rest := []) (lenOf own_pd9 rfl) rfl (by show 2 * 0 + _ ≤ _; exact Nat.le_of_eq rfl) (hb hby own_d16_20) ?_
  intro v118 T118 L118 X118 q118
  obtain ⟨rfl, N118q, K118, f119⟩ := q118
  have N118 := Fr.app N113 N118q
  show own_Goes p e below s _ _ _ T118 (mkF m 23 #[rv r1, iv (2 : Int32), iv (4 : Int32), rv bo101, iv (2 : Int32)] [])
  refine own_by (g' := (mkF m 17 #[rv r1, iv (3 : Int32), iv (4 : Int32), rv bo101, iv (3 : Int32)] [(.int (3 : Int32)), (.ref bo101)])) (fun t k => XS.iinc X118.here hx rfl (hb hby own_d16_23) rfl (l' := #[rv r1, iv (3 : Int32), iv (4 : Int32), rv bo101, iv (2 : Int32)]) rfl (XS.iinc X118.here hx rfl (hb hby own_d16_26) rfl (l' := #[rv r1, iv (3 : Int32), iv (4 : Int32), rv bo101, iv (3 : Int32)]) rfl (XS.goto X118.here hx rfl (pc0 := 29) (pc' := 8) rfl (hb hby own_d16_29) (by decide) (by decide) (XS.iload X118.here hx rfl (hb hby own_d16_8) rfl (XS.iloadN X118.here hx rfl (hb hby own_d16_10) rfl (XS.icmpNo X118.here hx rfl (hb hby own_d16_11) rfl (tlt (by decide : (3 : Int32) < (4 : Int32))).2.1 (XS.aloadN X118.here hx rfl (hb hby own_d16_14) rfl rfl (XS.iload X118.here hx rfl (hb hby own_d16_15) rfl k)))))))) ?_
  refine own_by (g' := (mkF m 19 #[rv r1, iv (3 : Int32), iv (4 : Int32), rv bo101, iv (3 : Int32)] [(.int (3 : Int32)), (.ref r1), (.int (3 : Int32)), (.ref bo101)])) (fun t k => XS.aloadN X118.here hx rfl (hb hby own_d16_17) rfl rfl (XS.iloadN X118.here hx rfl (hb hby own_d16_18) rfl k)) ?_
  have f120 := (f115.keep K118 (ninS (Nat.ne_of_lt (Nat.lt_of_lt_of_le (Nat.lt_of_lt_of_le V1.lt (Nat.le_refl _)) f102)) nin0))
  obtain ⟨c121, Ar121, q121, S121, G121, H121, F121⟩ := id f120
  have hin121 : ¬ ((3 : Int32) < 0 ∨ c121.slots.size ≤ ((3 : Int32)).toNatClampNeg) := inb_of S121 ⟨by decide, by decide⟩
  have hat121 : c121.slots[((3 : Int32)).toNatClampNeg]? = some (.int x3) := H121.at hin121 rfl
  refine own_by (g' := (mkF m 20 #[rv r1, iv (3 : Int32), iv (4 : Int32), rv bo101, iv (3 : Int32)] [(.int x3), (.int (3 : Int32)), (.ref bo101)])) (fun t k => X118.caload hx (j := (3 : Int32)) (v := (.int x3)) (own_at_ rfl Ar121.1) (State.isArrayOf_alike hZ.alike Ar121.2.1) Ar121.2.2 hin121 hat121 (g := (mkF m 19 #[rv r1, iv (3 : Int32), iv (4 : Int32), rv bo101, iv (3 : Int32)] [(.int (3 : Int32)), (.ref r1), (.int (3 : Int32)), (.ref bo101)])) rfl rfl (hb hby own_d16_19) t k) ?_
  have f122 := (f117.keep K118 (allS (Nat.le_trans Z0 f102) all0))
  refine own_callS X118 hx hZ hown (hw _ (List.mem_of_getElem? (i := 86) rfl)) (hw _ (List.mem_of_getElem? (i := 87) rfl)) (hw _ (List.mem_of_getElem? (i := 22) rfl)) (hw _ (List.mem_of_getElem? (i := 88) rfl)) (by decide) (own_putc4_3 l Z a0 hw [] (bo101) (kb101) (x3) ((.int ((x0 >>> ((0 : Int32) &&& 31))).toInt8.toInt32)) ((.int ((x0 >>> ((8 : Int32) &&& 31))).toInt8.toInt32)) ((.int ((x1 >>> ((0 : Int32) &&& 31))).toInt8.toInt32)) ((.int ((x1 >>> ((8 : Int32) &&& 31))).toInt8.toInt32)) ((.int ((x2 >>> ((0 : Int32) &&& 31))).toInt8.toInt32)) ((.int ((x2 >>> ((8 : Int32) &&& 31))).toInt8.toInt32)) ((.int (0 : Int32))) ((.int (0 : Int32))) T118.heap n0 (Nat.le_trans Z0 (Nat.le_trans (Nat.le_trans (Nat.le_trans K101.1 K108.1) K113.1) K118.1)) f122 S_ad S_hi S_lo f119 (Nat.le_trans Z0 f102)) 0 (by decide) (by decide) (by decide) (by decide) rfl (g := (mkF m 20 #[rv r1, iv (3 : Int32), iv (4 : Int32), rv bo101, iv (3 : Int32)] [(.int x3), (.int (3 : Int32)), (.ref bo101)])) rfl (by rw [hml]; rfl) (argsL := [(.ref bo101), (.int (3 : Int32)), (.int x3)]) (rest := []) (lenOf own_pd9 rfl) rfl (by show 2 * 0 + _ ≤ _; exact Nat.le_of_eq rfl) (hb hby own_d16_20) ?_
  intro v123 T123 L123 X123 q123
  obtain ⟨rfl, N123q, K123, f124⟩ := q123
  have N123 := Fr.app N118 N123q
  show own_Goes p e below s _ _ _ T123 (mkF m 23 #[rv r1, iv (3 : Int32), iv (4 : Int32), rv bo101, iv (3 : Int32)] [])
  refine own_by (g' := (mkF m 33 #[rv r1, iv (4 : Int32), iv (4 : Int32), rv bo101, iv (4 : Int32)] [(.ref bo101)])) (fun t k => XS.iinc X123.here hx rfl (hb hby own_d16_23) rfl (l' := #[rv r1, iv (4 : Int32), iv (4 : Int32), rv bo101, iv (3 : Int32)]) rfl (XS.iinc X123.here hx rfl (hb hby own_d16_26) rfl (l' := #[rv r1, iv (4 : Int32), iv (4 : Int32), rv bo101, iv (4 : Int32)]) rfl (XS.goto X123.here hx rfl (pc0 := 29) (pc' := 8) rfl (hb hby own_d16_29) (by decide) (by decide) (XS.iload X123.here hx rfl (hb hby own_d16_8) rfl (XS.iloadN X123.here hx rfl (hb hby own_d16_10) rfl (XS.icmpYes X123.here hx rfl (pc0 := 11) (pc' := 32) rfl (hb hby own_d16_11) rfl (flt (by decide : ¬ ((4 : Int32) < (4 : Int32)))).2.1 (by decide) (by decide) (XS.aloadN X123.here hx rfl (hb hby own_d16_32) rfl rfl k))))))) ?_
  have f125 := ((((f103.keep K108).keep K113).keep K118).keep K123)
  refine own_retA X123 hx hlk hret rfl rfl (hb hby own_d16_33) (by decide) (by decide) ?_
  exact ⟨bo101, kb101, rfl, N123, ((((((Keep.refl h0 []).trans K101 all0).trans K108 (allS (Or.inr (Nat.le_trans (Nat.le_refl _) f102)) all0)).trans K113 (allS (Or.inr (Nat.le_trans (Nat.le_refl _) f102)) all0)).trans K118 (allS (Or.inr (Nat.le_trans (Nat.le_refl _) f102)) all0)).trans K123 (allS (Or.inr (Nat.le_trans (Nat.le_refl _) f102)) all0)), (Nat.le_trans (Nat.le_refl _) f102), f125, f124⟩
def Q_own_com5_4 (Z : State) (r1 : Addr) (r2 : Addr) (k1 : ClassId) (k2 : ClassId) (x0 : Int32) (x1 : Int32) (x2 : Int32) (x3 : Int32) (h0 : Heap) (n0 : Nat) (v : Option Value) (h : Heap) (L : List Loc) : Prop := ∃ (cnt : Int32), ∃ (vs : List Value), v = some (.int cnt) ∧ Fr n0 L ∧ Keep h0 h [r2] ∧ Arv Z h r2 k2 .byte (4 : Int32) vs (.int (0 : Int32)) ∧ ((cnt = (4 : Int32) ∧ vs = [(.int (x0).toInt8.toInt32), (.int (x1).toInt8.toInt32), (.int (x2).toInt8.toInt32), (.int (x3).toInt8.toInt32)] ∧ ¬ ((255 : Int32) < x0) ∧ ¬ ((255 : Int32) < x1) ∧ ¬ ((255 : Int32) < x2) ∧ ¬ ((255 : Int32) < x3)) ∨ (cnt = (0 : Int32) ∧ (255 : Int32) < x0) ∨ (cnt = (1 : Int32) ∧ (255 : Int32) < x1) ∨ (cnt = (2 : Int32) ∧ (255 : Int32) < x2) ∨ (cnt = (3 : Int32) ∧ (255 : Int32) < x3))
theorem own_ef_own_com5_4 (m : MethodId) (r1 : Addr) (r2 : Addr) : entryFrame m #[(.ref r1), (.int (0 : Int32)), (.ref r2), (.int (0 : Int32)), (.int (4 : Int32))] 7 = mkF m 0 #[rv r1, iv (0 : Int32), rv r2, iv (0 : Int32), iv (4 : Int32), .unset, .unset] [] := by first | (simp [entryFrame, mkF, argsToLocals, Value.category]; done) | rfl
set_option maxRecDepth 65536 in
set_option maxHeartbeats 40000000 in
theorem own_com5_4 (l : Launch) (Z : State) (a0 : Array Value) (hw : ∀ d ∈ tables_1, d.before a0 Z = true) (ws : List Jvm.Cond) (r1 : Addr) (r2 : Addr) (k1 : ClassId) (k2 : ClassId) (x0 : Int32) (x1 : Int32) (x2 : Int32) (x3 : Int32) (h0 : Heap) (n0 : Nat) (Z0 : n0 ≤ h0.size) (V1 : Arv Z h0 r1 k1 .char (4 : Int32) [(.int x0), (.int x1), (.int x2), (.int x3)] (.int (0 : Int32))) (V2 : Arv Z h0 r2 k2 .byte (4 : Int32) [(.int (0 : Int32)), (.int (0 : Int32)), (.int (0 : Int32)), (.int (0 : Int32))] (.int (0 : Int32))) (g2 : n0 ≤ r2) (n12 : r1 ≠ r2) :
    own_Ctr l Z (⟨"java/lang/StringUTF16", "compress", "([CI[BII)I"⟩ : MethodName) jdk_52_method_21_code 7 (some .int) ws ({ frames := 0, cells := 0, slots := 0, locals := 0 } : Room) (({ frames := 0, cells := 0, slots := 0, locals := 0 } : Room)).cells (({ frames := 0, cells := 0, slots := 0, locals := 0 } : Room)).slots #[(.ref r1), (.int (0 : Int32)), (.ref r2), (.int (0 : Int32)), (.int (4 : Int32))] h0 (Q_own_com5_4 Z r1 r2 k1 k2 x0 x1 x2 x3 h0 n0) := by
  refine own_enter (plainFor_of_name own_pn2) ?_
  intro p e s m below meth c s₁ X0 hx hZ hby hml hown hnm hlk hret e0
  have N0 := Fr.nil n0
  refine own_cast (own_ef_own_com5_4 m r1 r2) ?_
  refine own_by (g' := (mkF m 12 #[rv r1, iv (0 : Int32), rv r2, iv (0 : Int32), iv (4 : Int32), iv (0 : Int32), .unset] [(.int (0 : Int32)), (.ref r1)])) (fun t k => XS.iconst X0.here hx rfl (hb hby own_d6_0) (XS.istore X0.here hx rfl (hb hby own_d6_1) rfl (l' := #[rv r1, iv (0 : Int32), rv r2, iv (0 : Int32), iv (4 : Int32), iv (0 : Int32), .unset]) rfl (XS.iload X0.here hx rfl (hb hby own_d6_3) rfl (XS.iload X0.here hx rfl (hb hby own_d6_5) rfl (XS.icmpNo X0.here hx rfl (hb hby own_d6_7) rfl (tlt (by decide : (0 : Int32) < (4 : Int32))).2.1 (XS.aloadN X0.here hx rfl (hb hby own_d6_10) rfl rfl (XS.iloadN X0.here hx rfl (hb hby own_d6_11) rfl k))))))) ?_
  obtain ⟨c101, Ar101, q101, S101, G101, H101, F101⟩ := id V1
  have hin101 : ¬ ((0 : Int32) < 0 ∨ c101.slots.size ≤ ((0 : Int32)).toNatClampNeg) := inb_of S101 ⟨by decide, by decide⟩
  have hat101 : c101.slots[((0 : Int32)).toNatClampNeg]? = some (.int x0) := H101.at hin101 rfl
  refine own_by (g' := (mkF m 20 #[rv r1, iv (0 : Int32), rv r2, iv (0 : Int32), iv (4 : Int32), iv (0 : Int32), iv x0] [(.int (255 : Int32)), (.int x0)])) (fun t k => X0.caload hx (j := (0 : Int32)) (v := (.int x0)) (own_at_ e0 Ar101.1) (State.isArrayOf_alike hZ.alike Ar101.2.1) Ar101.2.2 hin101 hat101 (g := (mkF m 12 #[rv r1, iv (0 : Int32), rv r2, iv (0 : Int32), iv (4 : Int32), iv (0 : Int32), .unset] [(.int (0 : Int32)), (.ref r1)])) rfl rfl (hb hby own_d6_12) t (XS.istore X0.here hx rfl (hb hby own_d6_13) rfl (l' := #[rv r1, iv (0 : Int32), rv r2, iv (0 : Int32), iv (4 : Int32), iv (0 : Int32), iv x0]) rfl (XS.iload X0.here hx rfl (hb hby own_d6_15) rfl (XS.sipush X0.here hx rfl (hb hby own_d6_17) k)))) ?_
  by_cases hc102 : (255 : Int32) < x0
  ·
    refine own_by (g' := (mkF m 25 #[rv r1, iv (0 : Int32), rv r2, iv (0 : Int32), iv (4 : Int32), iv (0 : Int32), iv x0] [(.int (0 : Int32))])) (fun t k => XS.icmpNo X0.here hx rfl (hb hby own_d6_20) rfl (tlt hc102).2.2.2 (XS.iload X0.here hx rfl (hb hby own_d6_23) rfl k)) ?_
    refine own_retI X0 hx hlk hret (hb hby own_d6_25) (by decide) (by decide) ?_
    rw [e0]
    exact ⟨(0 : Int32), [(.int (0 : Int32)), (.int (0 : Int32)), (.int (0 : Int32)), (.int (0 : Int32))], rfl, N0, (Keep.refl h0 [r2]), V2, (Or.inr (Or.inl ⟨rfl, hc102⟩))⟩
  ·
    refine own_by (g' := (mkF m 31 #[rv r1, iv (0 : Int32), rv r2, iv (0 : Int32), iv (4 : Int32), iv (0 : Int32), iv x0] [(.int (x0).toInt8.toInt32), (.int (0 : Int32)), (.ref r2)])) (fun t k => XS.icmpYes X0.here hx rfl (pc0 := 20) (pc' := 26) rfl (hb hby own_d6_20) rfl (flt hc102).2.2.2 (by decide) (by decide) (XS.aloadN X0.here hx rfl (hb hby own_d6_26) rfl rfl (XS.iloadN X0.here hx rfl (hb hby own_d6_27) rfl (XS.iload X0.here hx rfl (hb hby own_d6_28) rfl (XS.i2b X0.here hx rfl (hb hby own_d6_30) rfl k))))) ?_
    obtain ⟨c103, Ar103, q103, S103, G103, H103, F103⟩ := id V2
    have hin103 : ¬ ((0 : Int32) < 0 ∨ c103.slots.size ≤ ((0 : Int32)).toNatClampNeg) := inb_of S103 ⟨by decide, by decide⟩
    obtain ⟨T103, h103, X103, e103, W103, st103⟩ := stB X0 hx hZ e0 Ar103 (j := (0 : Int32)) hin103 (g := (mkF m 31 #[rv r1, iv (0 : Int32), rv r2, iv (0 : Int32), iv (4 : Int32), iv (0 : Int32), iv x0] [(.int (x0).toInt8.toInt32), (.int (0 : Int32)), (.ref r2)])) rfl rfl (hb hby own_d6_31)
    have V104 : Arv Z h103 r2 k2 .byte (4 : Int32) [(.int (x0).toInt8.toInt32), (.int (0 : Int32)), (.int (0 : Int32)), (.int (0 : Int32))] (.int (0 : Int32)) := Arv.set Ar103 q103 S103 G103 H103 F103 (fits_nar_byte _) (own_wr W103 (congrArg Value.int (own_b8 _))) 0 rfl (Nat.le_of_ble_eq_true rfl)
    have N103 := Fr.snoc X103 N0 g2
    refine own_by (g' := (mkF m 32 #[rv r1, iv (0 : Int32), rv r2, iv (0 : Int32), iv (4 : Int32), iv (0 : Int32), iv x0] [])) st103 ?_
    refine own_by (g' := (mkF m 11 #[rv r1, iv (1 : Int32), rv r2, iv (1 : Int32), iv (4 : Int32), iv (1 : Int32), iv x0] [(.ref r1)])) (fun t k => XS.iinc X103.here hx rfl (hb hby own_d6_32) rfl (l' := #[rv r1, iv (1 : Int32), rv r2, iv (0 : Int32), iv (4 : Int32), iv (0 : Int32), iv x0]) rfl (XS.iinc X103.here hx rfl (hb hby own_d6_35) rfl (l' := #[rv r1, iv (1 : Int32), rv r2, iv (1 : Int32), iv (4 : Int32), iv (0 : Int32), iv x0]) rfl (XS.iinc X103.here hx rfl (hb hby own_d6_38) rfl (l' := #[rv r1, iv (1 : Int32), rv r2, iv (1 : Int32), iv (4 : Int32), iv (1 : Int32), iv x0]) rfl (XS.goto X103.here hx rfl (pc0 := 41) (pc' := 3) rfl (hb hby own_d6_41) (by decide) (by decide) (XS.iload X103.here hx rfl (hb hby own_d6_3) rfl (XS.iload X103.here hx rfl (hb hby own_d6_5) rfl (XS.icmpNo X103.here hx rfl (hb hby own_d6_7) rfl (tlt (by decide : (1 : Int32) < (4 : Int32))).2.1 (XS.aloadN X103.here hx rfl (hb hby own_d6_10) rfl rfl k)))))))) ?_
    refine own_by (g' := (mkF m 12 #[rv r1, iv (1 : Int32), rv r2, iv (1 : Int32), iv (4 : Int32), iv (1 : Int32), iv x0] [(.int (1 : Int32)), (.ref r1)])) (fun t k => XS.iloadN X103.here hx rfl (hb hby own_d6_11) rfl k) ?_
    have f105 := (V1.other W103 n12)
    obtain ⟨c106, Ar106, q106, S106, G106, H106, F106⟩ := id f105
    have hin106 : ¬ ((1 : Int32) < 0 ∨ c106.slots.size ≤ ((1 : Int32)).toNatClampNeg) := inb_of S106 ⟨by decide, by decide⟩
    have hat106 : c106.slots[((1 : Int32)).toNatClampNeg]? = some (.int x1) := H106.at hin106 rfl
    refine own_by (g' := (mkF m 20 #[rv r1, iv (1 : Int32), rv r2, iv (1 : Int32), iv (4 : Int32), iv (1 : Int32), iv x1] [(.int (255 : Int32)), (.int x1)])) (fun t k => X103.caload hx (j := (1 : Int32)) (v := (.int x1)) (own_at_ e103 Ar106.1) (State.isArrayOf_alike hZ.alike Ar106.2.1) Ar106.2.2 hin106 hat106 (g := (mkF m 12 #[rv r1, iv (1 : Int32), rv r2, iv (1 : Int32), iv (4 : Int32), iv (1 : Int32), iv x0] [(.int (1 : Int32)), (.ref r1)])) rfl rfl (hb hby own_d6_12) t (XS.istore X103.here hx rfl (hb hby own_d6_13) rfl (l' := #[rv r1, iv (1 : Int32), rv r2, iv (1 : Int32), iv (4 : Int32), iv (1 : Int32), iv x1]) rfl (XS.iload X103.here hx rfl (hb hby own_d6_15) rfl (XS.sipush X103.here hx rfl (hb hby own_d6_17) k)))) ?_
    by_cases hc107 : (255 : Int32) < x1
    ·
      refine own_by (g' := (mkF m 25 #[rv r1, iv (1 : Int32), rv r2, iv (1 : Int32), iv (4 : Int32), iv (1 : Int32), iv x1] [(.int (1 : Int32))])) (fun t k => XS.icmpNo X103.here hx rfl (hb hby own_d6_20) rfl (tlt hc107).2.2.2 (XS.iload X103.here hx rfl (hb hby own_d6_23) rfl k)) ?_
      refine own_retI X103 hx hlk hret (hb hby own_d6_25) (by decide) (by decide) ?_
      rw [e103]
      exact ⟨(1 : Int32), [(.int (x0).toInt8.toInt32), (.int (0 : Int32)), (.int (0 : Int32)), (.int (0 : Int32))], rfl, N103, ((Keep.refl h0 [r2]).wr W103 (Or.inl (List.mem_of_getElem? (i := 0) rfl))), V104, (Or.inr (Or.inr (Or.inl ⟨rfl, hc107⟩)))⟩
    ·
      refine own_by (g' := (mkF m 31 #[rv r1, iv (1 : Int32), rv r2, iv (1 : Int32), iv (4 : Int32), iv (1 : Int32), iv x1] [(.int (x1).toInt8.toInt32), (.int (1 : Int32)), (.ref r2)])) (fun t k => XS.icmpYes X103.here hx rfl (pc0 := 20) (pc' := 26) rfl (hb hby own_d6_20) rfl (flt hc107).2.2.2 (by decide) (by decide) (XS.aloadN X103.here hx rfl (hb hby own_d6_26) rfl rfl (XS.iloadN X103.here hx rfl (hb hby own_d6_27) rfl (XS.iload X103.here hx rfl (hb hby own_d6_28) rfl (XS.i2b X103.here hx rfl (hb hby own_d6_30) rfl k))))) ?_
      obtain ⟨c108, Ar108, q108, S108, G108, H108, F108⟩ := id V104
      have hin108 : ¬ ((1 : Int32) < 0 ∨ c108.slots.size ≤ ((1 : Int32)).toNatClampNeg) := inb_of S108 ⟨by decide, by decide⟩
      obtain ⟨T108, h108, X108, e108, W108, st108⟩ := stB X103 hx hZ e103 Ar108 (j := (1 : Int32)) hin108 (g := (mkF m 31 #[rv r1, iv (1 : Int32), rv r2, iv (1 : Int32), iv (4 : Int32), iv (1 : Int32), iv x1] [(.int (x1).toInt8.toInt32), (.int (1 : Int32)), (.ref r2)])) rfl rfl (hb hby own_d6_31)
      have V109 : Arv Z h108 r2 k2 .byte (4 : Int32) [(.int (x0).toInt8.toInt32), (.int (x1).toInt8.toInt32), (.int (0 : Int32)), (.int (0 : Int32))] (.int (0 : Int32)) := Arv.set Ar108 q108 S108 G108 H108 F108 (fits_nar_byte _) (own_wr W108 (congrArg Value.int (own_b8 _))) 1 rfl (Nat.le_of_ble_eq_true rfl)
      have N108 := Fr.snoc X108 N103 g2
      refine own_by (g' := (mkF m 32 #[rv r1, iv (1 : Int32), rv r2, iv (1 : Int32), iv (4 : Int32), iv (1 : Int32), iv x1] [])) st108 ?_
      refine own_by (g' := (mkF m 11 #[rv r1, iv (2 : Int32), rv r2, iv (2 : Int32), iv (4 : Int32), iv (2 : Int32), iv x1] [(.ref r1)])) (fun t k => XS.iinc X108.here hx rfl (hb hby own_d6_32) rfl (l' := #[rv r1, iv (2 : Int32), rv r2, iv (1 : Int32), iv (4 : Int32), iv (1 : Int32), iv x1]) rfl (XS.iinc X108.here hx rfl (hb hby own_d6_35) rfl (l' := #[rv r1, iv (2 : Int32), rv r2, iv (2 : Int32), iv (4 : Int32), iv (1 : Int32), iv x1]) rfl (XS.iinc X108.here hx rfl (hb hby own_d6_38) rfl (l' := #[rv r1, iv (2 : Int32), rv r2, iv (2 : Int32), iv (4 : Int32), iv (2 : Int32), iv x1]) rfl (XS.goto X108.here hx rfl (pc0 := 41) (pc' := 3) rfl (hb hby own_d6_41) (by decide) (by decide) (XS.iload X108.here hx rfl (hb hby own_d6_3) rfl (XS.iload X108.here hx rfl (hb hby own_d6_5) rfl (XS.icmpNo X108.here hx rfl (hb hby own_d6_7) rfl (tlt (by decide : (2 : Int32) < (4 : Int32))).2.1 (XS.aloadN X108.here hx rfl (hb hby own_d6_10) rfl rfl k)))))))) ?_
      refine own_by (g' := (mkF m 12 #[rv r1, iv (2 : Int32), rv r2, iv (2 : Int32), iv (4 : Int32), iv (2 : Int32), iv x1] [(.int (2 : Int32)), (.ref r1)])) (fun t k => XS.iloadN X108.here hx rfl (hb hby own_d6_11) rfl k) ?_
      have f110 := (f105.other W108 n12)
      obtain ⟨c111, Ar111, q111, S111, G111, H111, F111⟩ := id f110
      have hin111 : ¬ ((2 : Int32) < 0 ∨ c111.slots.size ≤ ((2 : Int32)).toNatClampNeg) := inb_of S111 ⟨by decide, by decide⟩
      have hat111 : c111.slots[((2 : Int32)).toNatClampNeg]? = some (.int x2) := H111.at hin111 rfl
      refine own_by (g' := (mkF m 20 #[rv r1, iv (2 : Int32), rv r2, iv (2 : Int32), iv (4 : Int32), iv (2 : Int32), iv x2] [(.int (255 : Int32)), (.int x2)])) (fun t k => X108.caload hx (j := (2 : Int32)) (v := (.int x2)) (own_at_ e108 Ar111.1) (State.isArrayOf_alike hZ.alike Ar111.2.1) Ar111.2.2 hin111 hat111 (g := (mkF m 12 #[rv r1, iv (2 : Int32), rv r2, iv (2 : Int32), iv (4 : Int32), iv (2 : Int32), iv x1] [(.int (2 : Int32)), (.ref r1)])) rfl rfl (hb hby own_d6_12) t (XS.istore X108.here hx rfl (hb hby own_d6_13) rfl (l' := #[rv r1, iv (2 : Int32), rv r2, iv (2 : Int32), iv (4 : Int32), iv (2 : Int32), iv x2]) rfl (XS.iload X108.here hx rfl (hb hby own_d6_15) rfl (XS.sipush X108.here hx rfl (hb hby own_d6_17) k)))) ?_
      by_cases hc112 : (255 : Int32) < x2
      ·
        refine own_by (g' := (mkF m 25 #[rv r1, iv (2 : Int32), rv r2, iv (2 : Int32), iv (4 : Int32), iv (2 : Int32), iv x2] [(.int (2 : Int32))])) (fun t k => XS.icmpNo X108.here hx rfl (hb hby own_d6_20) rfl (tlt hc112).2.2.2 (XS.iload X108.here hx rfl (hb hby own_d6_23) rfl k)) ?_
        refine own_retI X108 hx hlk hret (hb hby own_d6_25) (by decide) (by decide) ?_
        rw [e108]
        exact ⟨(2 : Int32), [(.int (x0).toInt8.toInt32), (.int (x1).toInt8.toInt32), (.int (0 : Int32)), (.int (0 : Int32))], rfl, N108, (((Keep.refl h0 [r2]).wr W103 (Or.inl (List.mem_of_getElem? (i := 0) rfl))).wr W108 (Or.inl (List.mem_of_getElem? (i := 0) rfl))), V109, (Or.inr (Or.inr (Or.inr (Or.inl ⟨rfl, hc112⟩))))⟩
      ·
        refine own_by (g' := (mkF m 31 #[rv r1, iv (2 : Int32), rv r2, iv (2 : Int32), iv (4 : Int32), iv (2 : Int32), iv x2] [(.int (x2).toInt8.toInt32), (.int (2 : Int32)), (.ref r2)])) (fun t k => XS.icmpYes X108.here hx rfl (pc0 := 20) (pc' := 26) rfl (hb hby own_d6_20) rfl (flt hc112).2.2.2 (by decide) (by decide) (XS.aloadN X108.here hx rfl (hb hby own_d6_26) rfl rfl (XS.iloadN X108.here hx rfl (hb hby own_d6_27) rfl (XS.iload X108.here hx rfl (hb hby own_d6_28) rfl (XS.i2b X108.here hx rfl (hb hby own_d6_30) rfl k))))) ?_
        obtain ⟨c113, Ar113, q113, S113, G113, H113, F113⟩ := id V109
        have hin113 : ¬ ((2 : Int32) < 0 ∨ c113.slots.size ≤ ((2 : Int32)).toNatClampNeg) := inb_of S113 ⟨by decide, by decide⟩
        obtain ⟨T113, h113, X113, e113, W113, st113⟩ := stB X108 hx hZ e108 Ar113 (j := (2 : Int32)) hin113 (g := (mkF m 31 #[rv r1, iv (2 : Int32), rv r2, iv (2 : Int32), iv (4 : Int32), iv (2 : Int32), iv x2] [(.int (x2).toInt8.toInt32), (.int (2 : Int32)), (.ref r2)])) rfl rfl (hb hby own_d6_31)
        have V114 : Arv Z h113 r2 k2 .byte (4 : Int32) [(.int (x0).toInt8.toInt32), (.int (x1).toInt8.toInt32), (.int (x2).toInt8.toInt32), (.int (0 : Int32))] (.int (0 : Int32)) := Arv.set Ar113 q113 S113 G113 H113 F113 (fits_nar_byte _) (own_wr W113 (congrArg Value.int (own_b8 _))) 2 rfl (Nat.le_of_ble_eq_true rfl)
        have N113 := Fr.snoc X113 N108 g2
        refine own_by (g' := (mkF m 32 #[rv r1, iv (2 : Int32), rv r2, iv (2 : Int32), iv (4 : Int32), iv (2 : Int32), iv x2] [])) st113 ?_
        refine own_by (g' := (mkF m 11 #[rv r1, iv (3 : Int32), rv r2, iv (3 : Int32), iv (4 : Int32), iv (3 : Int32), iv x2] [(.ref r1)])) (fun t k => XS.iinc X113.here hx rfl (hb hby own_d6_32) rfl (l' := #[rv r1, iv (3 : Int32), rv r2, iv (2 : Int32), iv (4 : Int32), iv (2 : Int32), iv x2]) rfl (XS.iinc X113.here hx rfl (hb hby own_d6_35) rfl (l' := #[rv r1, iv (3 : Int32), rv r2, iv (3 : Int32), iv (4 : Int32), iv (2 : Int32), iv x2]) rfl (XS.iinc X113.here hx rfl (hb hby own_d6_38) rfl (l' := #[rv r1, iv (3 : Int32), rv r2, iv (3 : Int32), iv (4 : Int32), iv (3 : Int32), iv x2]) rfl (XS.goto X113.here hx rfl (pc0 := 41) (pc' := 3) rfl (hb hby own_d6_41) (by decide) (by decide) (XS.iload X113.here hx rfl (hb hby own_d6_3) rfl (XS.iload X113.here hx rfl (hb hby own_d6_5) rfl (XS.icmpNo X113.here hx rfl (hb hby own_d6_7) rfl (tlt (by decide : (3 : Int32) < (4 : Int32))).2.1 (XS.aloadN X113.here hx rfl (hb hby own_d6_10) rfl rfl k)))))))) ?_
        refine own_by (g' := (mkF m 12 #[rv r1, iv (3 : Int32), rv r2, iv (3 : Int32), iv (4 : Int32), iv (3 : Int32), iv x2] [(.int (3 : Int32)), (.ref r1)])) (fun t k => XS.iloadN X113.here hx rfl (hb hby own_d6_11) rfl k) ?_
        have f115 := (f110.other W113 n12)
        obtain ⟨c116, Ar116, q116, S116, G116, H116, F116⟩ := id f115
        have hin116 : ¬ ((3 : Int32) < 0 ∨ c116.slots.size ≤ ((3 : Int32)).toNatClampNeg) := inb_of S116 ⟨by decide, by decide⟩
        have hat116 : c116.slots[((3 : Int32)).toNatClampNeg]? = some (.int x3) := H116.at hin116 rfl
        refine own_by (g' := (mkF m 20 #[rv r1, iv (3 : Int32), rv r2, iv (3 : Int32), iv (4 : Int32), iv (3 : Int32), iv x3] [(.int (255 : Int32)), (.int x3)])) (fun t k => X113.caload hx (j := (3 : Int32)) (v := (.int x3)) (own_at_ e113 Ar116.1) (State.isArrayOf_alike hZ.alike Ar116.2.1) Ar116.2.2 hin116 hat116 (g := (mkF m 12 #[rv r1, iv (3 : Int32), rv r2, iv (3 : Int32), iv (4 : Int32), iv (3 : Int32), iv x2] [(.int (3 : Int32)), (.ref r1)])) rfl rfl (hb hby own_d6_12) t (XS.istore X113.here hx rfl (hb hby own_d6_13) rfl (l' := #[rv r1, iv (3 : Int32), rv r2, iv (3 : Int32), iv (4 : Int32), iv (3 : Int32), iv x3]) rfl (XS.iload X113.here hx rfl (hb hby own_d6_15) rfl (XS.sipush X113.here hx rfl (hb hby own_d6_17) k)))) ?_
        by_cases hc117 : (255 : Int32) < x3
        ·
          refine own_by (g' := (mkF m 25 #[rv r1, iv (3 : Int32), rv r2, iv (3 : Int32), iv (4 : Int32), iv (3 : Int32), iv x3] [(.int (3 : Int32))])) (fun t k => XS.icmpNo X113.here hx rfl (hb hby own_d6_20) rfl (tlt hc117).2.2.2 (XS.iload X113.here hx rfl (hb hby own_d6_23) rfl k)) ?_
          refine own_retI X113 hx hlk hret (hb hby own_d6_25) (by decide) (by decide) ?_
          rw [e113]
          exact ⟨(3 : Int32), [(.int (x0).toInt8.toInt32), (.int (x1).toInt8.toInt32), (.int (x2).toInt8.toInt32), (.int (0 : Int32))], rfl, N113, ((((Keep.refl h0 [r2]).wr W103 (Or.inl (List.mem_of_getElem? (i := 0) rfl))).wr W108 (Or.inl (List.mem_of_getElem? (i := 0) rfl))).wr W113 (Or.inl (List.mem_of_getElem? (i := 0) rfl))), V114, (Or.inr (Or.inr (Or.inr (Or.inr (⟨rfl, hc117⟩)))))⟩
        ·
          refine own_by (g' := (mkF m 31 #[rv r1, iv (3 : Int32), rv r2, iv (3 : Int32), iv (4 : Int32), iv (3 : Int32), iv x3] [(.int (x3).toInt8.toInt32), (.int (3 : Int32)), (.ref r2)])) (fun t k => XS.icmpYes X113.here hx rfl (pc0 := 20) (pc' := 26) rfl (hb hby own_d6_20) rfl (flt hc117).2.2.2 (by decide) (by decide) (XS.aloadN X113.here hx rfl (hb hby own_d6_26) rfl rfl (XS.iloadN X113.here hx rfl (hb hby own_d6_27) rfl (XS.iload X113.here hx rfl (hb hby own_d6_28) rfl (XS.i2b X113.here hx rfl (hb hby own_d6_30) rfl k))))) ?_
          obtain ⟨c118, Ar118, q118, S118, G118, H118, F118⟩ := id V114
          have hin118 : ¬ ((3 : Int32) < 0 ∨ c118.slots.size ≤ ((3 : Int32)).toNatClampNeg) := inb_of S118 ⟨by decide, by decide⟩
          obtain ⟨T118, h118, X118, e118, W118, st118⟩ := stB X113 hx hZ e113 Ar118 (j := (3 : Int32)) hin118 (g := (mkF m 31 #[rv r1, iv (3 : Int32), rv r2, iv (3 : Int32), iv (4 : Int32), iv (3 : Int32), iv x3] [(.int (x3).toInt8.toInt32), (.int (3 : Int32)), (.ref r2)])) rfl rfl (hb hby own_d6_31)
          have V119 : Arv Z h118 r2 k2 .byte (4 : Int32) [(.int (x0).toInt8.toInt32), (.int (x1).toInt8.toInt32), (.int (x2).toInt8.toInt32), (.int (x3).toInt8.toInt32)] (.int (0 : Int32)) := Arv.set Ar118 q118 S118 G118 H118 F118 (fits_nar_byte _) (own_wr W118 (congrArg Value.int (own_b8 _))) 3 rfl (Nat.le_of_ble_eq_true rfl)
          have N118 := Fr.snoc X118 N113 g2
          refine own_by (g' := (mkF m 32 #[rv r1, iv (3 : Int32), rv r2, iv (3 : Int32), iv (4 : Int32), iv (3 : Int32), iv x3] [])) st118 ?_
          refine own_by (g' := (mkF m 46 #[rv r1, iv (4 : Int32), rv r2, iv (4 : Int32), iv (4 : Int32), iv (4 : Int32), iv x3] [(.int (4 : Int32))])) (fun t k => XS.iinc X118.here hx rfl (hb hby own_d6_32) rfl (l' := #[rv r1, iv (4 : Int32), rv r2, iv (3 : Int32), iv (4 : Int32), iv (3 : Int32), iv x3]) rfl (XS.iinc X118.here hx rfl (hb hby own_d6_35) rfl (l' := #[rv r1, iv (4 : Int32), rv r2, iv (4 : Int32), iv (4 : Int32), iv (3 : Int32), iv x3]) rfl (XS.iinc X118.here hx rfl (hb hby own_d6_38) rfl (l' := #[rv r1, iv (4 : Int32), rv r2, iv (4 : Int32), iv (4 : Int32), iv (4 : Int32), iv x3]) rfl (XS.goto X118.here hx rfl (pc0 := 41) (pc' := 3) rfl (hb hby own_d6_41) (by decide) (by decide) (XS.iload X118.here hx rfl (hb hby own_d6_3) rfl (XS.iload X118.here hx rfl (hb hby own_d6_5) rfl (XS.icmpYes X118.here hx rfl (pc0 := 7) (pc' := 44) rfl (hb hby own_d6_7) rfl (flt (by decide : ¬ ((4 : Int32) < (4 : Int32)))).2.1 (by decide) (by decide) (XS.iload X118.here hx rfl (hb hby own_d6_44) rfl k)))))))) ?_
          refine own_retI X118 hx hlk hret (hb hby own_d6_46) (by decide) (by decide) ?_
          rw [e118]
          exact ⟨(4 : Int32), [(.int (x0).toInt8.toInt32), (.int (x1).toInt8.toInt32), (.int (x2).toInt8.toInt32), (.int (x3).toInt8.toInt32)], rfl, N118, (((((Keep.refl h0 [r2]).wr W103 (Or.inl (List.mem_of_getElem? (i := 0) rfl))).wr W108 (Or.inl (List.mem_of_getElem? (i := 0) rfl))).wr W113 (Or.inl (List.mem_of_getElem? (i := 0) rfl))).wr W118 (Or.inl (List.mem_of_getElem? (i := 0) rfl))), V119, (Or.inl ⟨rfl, rfl, hc102, hc107, hc112, hc117⟩)⟩
def Q_own_com3_4 (Z : State) (r1 : Addr) (k1 : ClassId) (x0 : Int32) (x1 : Int32) (x2 : Int32) (x3 : Int32) (h0 : Heap) (n0 : Nat) (v : Option Value) (h : Heap) (L : List Loc) : Prop := ∃ (bo : Addr), ∃ (kb : ClassId), ∃ (ln : Int32), ∃ (vs : List Value), v = some (.ref bo) ∧ Fr n0 L ∧ Keep h0 h [] ∧ h0.size ≤ bo ∧ Exa Z h bo "[B" ∧ Arv Z h bo kb .byte ln vs (.int (0 : Int32)) ∧ ((ln = (4 : Int32) ∧ vs = [(.int (x0).toInt8.toInt32), (.int (x1).toInt8.toInt32), (.int (x2).toInt8.toInt32), (.int (x3).toInt8.toInt32)] ∧ ¬ ((255 : Int32) < x0) ∧ ¬ ((255 : Int32) < x1) ∧ ¬ ((255 : Int32) < x2) ∧ ¬ ((255 : Int32) < x3)) ∨ (ln = (8 : Int32) ∧ vs = [(.int ((x0 >>> ((0 : Int32) &&& 31))).toInt8.toInt32), (.int ((x0 >>> ((8 : Int32) &&& 31))).toInt8.toInt32), (.int ((x1 >>> ((0 : Int32) &&& 31))).toInt8.toInt32), (.int ((x1 >>> ((8 : Int32) &&& 31))).toInt8.toInt32), (.int ((x2 >>> ((0 : Int32) &&& 31))).toInt8.toInt32), (.int ((x2 >>> ((8 : Int32) &&& 31))).toInt8.toInt32), (.int ((x3 >>> ((0 : Int32) &&& 31))).toInt8.toInt32), (.int ((x3 >>> ((8 : Int32) &&& 31))).toInt8.toInt32)]))
theorem own_ef_own_com3_4 (m : MethodId) (r1 : Addr) : entryFrame m #[(.ref r1), (.int (0 : Int32)), (.int (4 : Int32))] 6 = mkF m 0 #[rv r1, iv (0 : Int32), iv (4 : Int32), .unset, .unset, .unset] [] := by first | (simp [entryFrame, mkF, argsToLocals, Value.category]; done) | rfl
set_option maxRecDepth 65536 in
set_option maxHeartbeats 40000000 in
theorem own_com3_4 (l : Launch) (Z : State) (a0 : Array Value) (hw : ∀ d ∈ tables_1, d.before a0 Z = true) (ws : List Jvm.Cond) (r1 : Addr) (k1 : ClassId) (x0 : Int32) (x1 : Int32) (x2 : Int32) (x3 : Int32) (h0 : Heap) (n0 : Nat) (Z0 : n0 ≤ h0.size) (O0 : Old Z n0 h0) (S_ad : Sta Z Z.heap "java/lang/StringUTF16" "$assertionsDisabled" "Z" (.int (1 : Int32))) (S_hi : Sta Z Z.heap "java/lang/StringUTF16" "HI_BYTE_SHIFT" "I" (.int (0 : Int32))) (S_lo : Sta Z Z.heap "java/lang/StringUTF16" "LO_BYTE_SHIFT" "I" (.int (8 : Int32))) (hk0 : own_ch x0) (hk1 : own_ch x1) (hk2 : own_ch x2) (hk3 : own_ch x3) (V1 : Arv Z h0 r1 k1 .char (4 : Int32) [(.int x0), (.int x1), (.int x2), (.int x3)] (.int (0 : Int32))) :
    own_Ctr l Z (⟨"java/lang/StringUTF16", "compress", "([CII)[B"⟩ : MethodName) jdk_52_method_16_code 6 (some (.array .byte)) ws ({ frames := 3, cells := 2, slots := 12, locals := 40 } : Room) (({ frames := 3, cells := 2, slots := 12, locals := 40 } : Room)).cells (({ frames := 3, cells := 2, slots := 12, locals := 40 } : Room)).slots #[(.ref r1), (.int (0 : Int32)), (.int (4 : Int32))] h0 (Q_own_com3_4 Z r1 k1 x0 x1 x2 x3 h0 n0) := by
  refine own_enter (plainFor_of_name own_pn2) ?_
  intro p e s m below meth c s₁ X0 hx hZ hby hml hown hnm hlk hret e0
  have N0 := Fr.nil n0
  refine own_cast (own_ef_own_com3_4 m r1) ?_
  refine own_by (g' := (mkF m 1 #[rv r1, iv (0 : Int32), iv (4 : Int32), .unset, .unset, .unset] [(.int (4 : Int32))])) (fun t k => XS.iloadN X0.here hx rfl (hb hby own_d5_0) rfl k) ?_
  obtain ⟨T101, h101, k101, X101, e101, E101, A101, Y101, st101⟩ := newPE X0 hx hZ (hw _ (List.mem_of_getElem? (i := 24) rfl)) e0 (g := (mkF m 1 #[rv r1, iv (0 : Int32), iv (4 : Int32), .unset, .unset, .unset] [(.int (4 : Int32))])) rfl (hb hby own_d5_1) rfl (by decide) (cap := 4) (by decide) (by decide) (by decide) (by decide) (ad := "[B") own_ad_byte
  obtain ⟨b101, g101⟩ : ∃ z, z = h0.size := ⟨_, rfl⟩
  rw [← g101] at A101 Y101 st101
  have sz_b101 : h0.size ≤ b101 := Nat.le_trans (Nat.le_refl _) (Nat.le_of_eq g101.symm)
  have g_b101 : n0 ≤ b101 := Nat.le_trans Z0 sz_b101
  have V101 : Arv Z h101 b101 k101 .byte (4 : Int32) [(.int (0 : Int32)), (.int (0 : Int32)), (.int (0 : Int32)), (.int (0 : Int32))] (.int (0 : Int32)) := (Arv.new A101 (by decide)).pad (pad_rep [] (.int (0 : Int32)) 4)
  refine own_by (g' := (mkF m 3 #[rv r1, iv (0 : Int32), iv (4 : Int32), .unset, .unset, .unset] [(.ref b101)])) st101 ?_
  refine own_by (g' := (mkF m 9 #[rv r1, iv (0 : Int32), iv (4 : Int32), rv b101, .unset, .unset] [(.int (4 : Int32)), (.int (0 : Int32)), (.ref b101), (.int (0 : Int32)), (.ref r1)])) (fun t k => XS.astoreN X101.here hx rfl (hb hby own_d5_3) rfl rfl (l' := #[rv r1, iv (0 : Int32), iv (4 : Int32), rv b101, .unset, .unset]) rfl (XS.aloadN X101.here hx rfl (hb hby own_d5_4) rfl rfl (XS.iloadN X101.here hx rfl (hb hby own_d5_5) rfl (XS.aloadN X101.here hx rfl (hb hby own_d5_6) rfl rfl (XS.iconst X101.here hx rfl (hb hby own_d5_7) (XS.iloadN X101.here hx rfl (hb hby own_d5_8) rfl k)))))) ?_
  have f102 := (V1.ext E101)
  refine own_callS X101 hx hZ hown (hw _ (List.mem_of_getElem? (i := 25) rfl)) (hw _ (List.mem_of_getElem? (i := 26) rfl)) (hw _ (List.mem_of_getElem? (i := 22) rfl)) (hw _ (List.mem_of_getElem? (i := 27) rfl)) (by decide) (own_com5_4 l Z a0 hw [] (r1) (b101) (k1) (k101) (x0) (x1) (x2) (x3) h101 n0 (Nat.le_trans Z0 E101.1) f102 V101 g_b101 (Nat.ne_of_lt (Nat.lt_of_lt_of_le (Nat.lt_of_lt_of_le V1.lt (Nat.le_refl _)) (Nat.le_of_eq g101.symm)))) 0 (by decide) (by decide) (by decide) (by decide) e101 (g := (mkF m 9 #[rv r1, iv (0 : Int32), iv (4 : Int32), rv b101, .unset, .unset] [(.int (4 : Int32)), (.int (0 : Int32)), (.ref b101), (.int (0 : Int32)), (.ref r1)])) rfl (by rw [hml]; rfl) (argsL := [(.ref r1), (.int (0 : Int32)), (.ref b101), (.int (0 : Int32)), (.int (4 : Int32))]) (rest := []) (lenOf own_pd10 rfl) rfl (by show 2 * 0 + _ ≤ _; exact Nat.le_of_eq rfl) (hb hby own_d5_9) ?_
  intro v103 T103 L103 X103 q103
  obtain ⟨cnt103, vs103, rfl, N103q, K103, f104, f105⟩ := q103
  have N103 := Fr.app N0 N103q
  show own_Goes p e below s _ _ _ T103 (mkF m 12 #[rv r1, iv (0 : Int32), iv (4 : Int32), rv b101, .unset, .unset] [(.int cnt103)])
  rcases f105 with ⟨rfl, rfl, hq0, hq1, hq2, hq3⟩ | ⟨rfl, hq0⟩ | ⟨rfl, hq1⟩ | ⟨rfl, hq2⟩ | ⟨rfl, hq3⟩
  ·
    refine own_by (g' := (mkF m 58 #[rv r1, iv (0 : Int32), iv (4 : Int32), rv b101, iv (4 : Int32), .unset] [(.ref b101)])) (fun t k => XS.istore X103.here hx rfl (hb hby own_d5_12) rfl (l' := #[rv r1, iv (0 : Int32), iv (4 : Int32), rv b101, iv (4 : Int32), .unset]) rfl (XS.iload X103.here hx rfl (hb hby own_d5_14) rfl (XS.iloadN X103.here hx rfl (hb hby own_d5_16) rfl (XS.icmpYes X103.here hx rfl (pc0 := 17) (pc' := 57) rfl (hb hby own_d5_17) rfl (teq (by decide : (4 : Int32) = (4 : Int32))).1 (by decide) (by decide) (XS.aloadN X103.here hx rfl (hb hby own_d5_57) rfl rfl k))))) ?_
    have f106 := (Y101.keep K103)
    refine own_retA X103 hx hlk hret rfl rfl (hb hby own_d5_58) (by decide) (by decide) ?_
    exact ⟨b101, k101, (4 : Int32), [(.int (x0).toInt8.toInt32), (.int (x1).toInt8.toInt32), (.int (x2).toInt8.toInt32), (.int (x3).toInt8.toInt32)], rfl, N103, (((Keep.refl h0 []).ext E101).trans K103 (allS (Or.inr sz_b101) all0)), sz_b101, f106, f104, (Or.inl ⟨rfl, rfl, hq0, hq1, hq2, hq3⟩)⟩
  ·
    refine own_by (g' := (mkF m 23 #[rv r1, iv (0 : Int32), iv (4 : Int32), rv b101, iv (0 : Int32), .unset] [(.int (4 : Int32)), (.int (0 : Int32)), (.ref r1)])) (fun t k => XS.istore X103.here hx rfl (hb hby own_d5_12) rfl (l' := #[rv r1, iv (0 : Int32), iv (4 : Int32), rv b101, iv (0 : Int32), .unset]) rfl (XS.iload X103.here hx rfl (hb hby own_d5_14) rfl (XS.iloadN X103.here hx rfl (hb hby own_d5_16) rfl (XS.icmpNo X103.here hx rfl (hb hby own_d5_17) rfl (feq (by decide : ¬ ((0 : Int32) = (4 : Int32)))).1 (XS.aloadN X103.here hx rfl (hb hby own_d5_20) rfl rfl (XS.iloadN X103.here hx rfl (hb hby own_d5_21) rfl (XS.iloadN X103.here hx rfl (hb hby own_d5_22) rfl k))))))) ?_
    have f107 := ((O0.ext E101).keep K103 (allS g_b101 all0))
    have f108 := (f102.keep K103 (ninS (Nat.ne_of_lt (Nat.lt_of_lt_of_le (Nat.lt_of_lt_of_le V1.lt (Nat.le_refl _)) (Nat.le_of_eq g101.symm))) nin0))
    refine own_callS X103 hx hZ hown (hw _ (List.mem_of_getElem? (i := 76) rfl)) (hw _ (List.mem_of_getElem? (i := 77) rfl)) (hw _ (List.mem_of_getElem? (i := 22) rfl)) (hw _ (List.mem_of_getElem? (i := 78) rfl)) (by decide) (own_tob4 l Z a0 hw [] (r1) (k1) (x0) (x1) (x2) (x3) T103.heap n0 (Nat.le_trans Z0 (Nat.le_trans E101.1 K103.1)) f107 S_ad S_hi S_lo f108) 0 (by decide) (by decide) (by decide) (by decide) rfl (g := (mkF m 23 #[rv r1, iv (0 : Int32), iv (4 : Int32), rv b101, iv (0 : Int32), .unset] [(.int (4 : Int32)), (.int (0 : Int32)), (.ref r1)])) rfl (by rw [hml]; rfl) (argsL := [(.ref r1), (.int (0 : Int32)), (.int (4 : Int32))]) (rest := []) (lenOf own_pd11 rfl) rfl (by show 2 * 0 + _ ≤ _; exact Nat.le_of_eq rfl) (hb hby own_d5_23) ?_
    intro v109 T109 L109 X109 q109
    obtain ⟨bo109, kb109, rfl, N109q, K109, f110, f111, f112⟩ := q109
    have N109 := Fr.app N103 N109q
    show own_Goes p e below s _ _ _ T109 (mkF m 26 #[rv r1, iv (0 : Int32), iv (4 : Int32), rv b101, iv (0 : Int32), .unset] [(.ref bo109)])
    refine own_by (g' := (mkF m 32 #[rv r1, iv (0 : Int32), iv (4 : Int32), rv b101, iv (0 : Int32), rv bo109] [(.int (0 : Int32)), (.ref bo109)])) (fun t k => XS.astore X109.here hx rfl (hb hby own_d5_26) rfl rfl (l' := #[rv r1, iv (0 : Int32), iv (4 : Int32), rv b101, iv (0 : Int32), rv bo109]) rfl (XS.aload X109.here hx rfl (hb hby own_d5_28) rfl rfl (XS.iload X109.here hx rfl (hb hby own_d5_30) rfl k))) ?_
    have f113 := (f107.keep K109 all0)
    refine own_callS X109 hx hZ hown (hw _ (List.mem_of_getElem? (i := 92) rfl)) (hw _ (List.mem_of_getElem? (i := 93) rfl)) (hw _ (List.mem_of_getElem? (i := 22) rfl)) (hw _ (List.mem_of_getElem? (i := 94) rfl)) (by decide) (own_getc0 l Z a0 hw [] (bo109) (kb109) ((8 : Int32)) ([(.int ((x0 >>> ((0 : Int32) &&& 31))).toInt8.toInt32), (.int ((x0 >>> ((8 : Int32) &&& 31))).toInt8.toInt32), (.int ((x1 >>> ((0 : Int32) &&& 31))).toInt8.toInt32), (.int ((x1 >>> ((8 : Int32) &&& 31))).toInt8.toInt32), (.int ((x2 >>> ((0 : Int32) &&& 31))).toInt8.toInt32), (.int ((x2 >>> ((8 : Int32) &&& 31))).toInt8.toInt32), (.int ((x3 >>> ((0 : Int32) &&& 31))).toInt8.toInt32), (.int ((x3 >>> ((8 : Int32) &&& 31))).toInt8.toInt32)]) (((x0 >>> ((0 : Int32) &&& 31))).toInt8.toInt32) (((x0 >>> ((8 : Int32) &&& 31))).toInt8.toInt32) (x0) T109.heap n0 (Nat.le_trans Z0 (Nat.le_trans (Nat.le_trans E101.1 K103.1) K109.1)) f113 S_ad S_hi S_lo f112 (by first | assumption | decide) (by first | assumption | decide) rfl rfl (own_utf x0 hk0)) 0 (by decide) (by decide) (by decide) (by decide) rfl (g := (mkF m 32 #[rv r1, iv (0 : Int32), iv (4 : Int32), rv b101, iv (0 : Int32), rv bo109] [(.int (0 : Int32)), (.ref bo109)])) rfl (by rw [hml]; rfl) (argsL := [(.ref bo109), (.int (0 : Int32))]) (rest := []) (lenOf own_pd4 rfl) rfl (by show 2 * 0 + _ ≤ _; exact Nat.le_of_eq rfl) (hb hby own_d5_32) ?_
    intro v114 T114 L114 X114 q114
    obtain ⟨rfl, N114q, e114⟩ := q114
    have N114 := Fr.app N109 N114q
    show own_Goes p e below s _ _ _ T114 (mkF m 35 #[rv r1, iv (0 : Int32), iv (4 : Int32), rv b101, iv (0 : Int32), rv bo109] [(.int x0)])
    refine own_by (g' := (mkF m 56 #[rv r1, iv (0 : Int32), iv (4 : Int32), rv b101, iv (0 : Int32), rv bo109] [(.ref bo109)])) (fun t k => XS.sipush X114.here hx rfl (hb hby own_d5_35) (XS.icmpYes X114.here hx rfl (pc0 := 38) (pc' := 54) rfl (hb hby own_d5_38) rfl (tlt hq0).2.2.1 (by decide) (by decide) (XS.aload X114.here hx rfl (hb hby own_d5_54) rfl rfl k))) ?_
    refine own_retA X114 hx hlk hret rfl rfl (hb hby own_d5_56) (by decide) (by decide) ?_
    rw [e114]
    exact ⟨bo109, kb109, (8 : Int32), [(.int ((x0 >>> ((0 : Int32) &&& 31))).toInt8.toInt32), (.int ((x0 >>> ((8 : Int32) &&& 31))).toInt8.toInt32), (.int ((x1 >>> ((0 : Int32) &&& 31))).toInt8.toInt32), (.int ((x1 >>> ((8 : Int32) &&& 31))).toInt8.toInt32), (.int ((x2 >>> ((0 : Int32) &&& 31))).toInt8.toInt32), (.int ((x2 >>> ((8 : Int32) &&& 31))).toInt8.toInt32), (.int ((x3 >>> ((0 : Int32) &&& 31))).toInt8.toInt32), (.int ((x3 >>> ((8 : Int32) &&& 31))).toInt8.toInt32)], rfl, N114, ((((Keep.refl h0 []).ext E101).trans K103 (allS (Or.inr sz_b101) all0)).trans K109 all0), (Nat.le_trans (Nat.le_trans E101.1 K103.1) f110), f111, f112, (Or.inr ⟨rfl, rfl⟩)⟩
  ·
    refine own_by (g' := (mkF m 23 #[rv r1, iv (0 : Int32), iv (4 : Int32), rv b101, iv (1 : Int32), .unset] [(.int (4 : Int32)), (.int (0 : Int32)), (.ref r1)])) (fun t k => XS.istore X103.here hx rfl (hb hby own_d5_12) rfl (l' := #[rv r1, iv (0 : Int32), iv (4 : Int32), rv b101, iv (1 : Int32), .unset]) rfl (XS.iload X103.here hx rfl (hb hby own_d5_14) rfl (XS.iloadN X103.here hx rfl (hb hby own_d5_16) rfl (XS.icmpNo X103.here hx rfl (hb hby own_d5_17) rfl (feq (by decide : ¬ ((1 : Int32) = (4 : Int32)))).1 (XS.aloadN X103.here hx rfl (hb hby own_d5_20) rfl rfl (XS.iloadN X103.here hx rfl (hb hby own_d5_21) rfl (XS.iloadN X103.here hx rfl (hb hby own_d5_22) rfl k))))))) ?_
    have f115 := ((O0.ext E101).keep K103 (allS g_b101 all0))
    have f116 := (f102.keep K103 (ninS (Nat.ne_of_lt (Nat.lt_of_lt_of_le (Nat.lt_of_lt_of_le V1.lt (Nat.le_refl _)) (Nat.le_of_eq g101.symm))) nin0))
    refine own_callS X103 hx hZ hown (hw _ (List.mem_of_getElem? (i := 76) rfl)) (hw _ (List.mem_of_getElem? (i := 77) rfl)) (hw _ (List.mem_of_getElem? (i := 22) rfl)) (hw _ (List.mem_of_getElem? (i := 78) rfl)) (by decide) (own_tob4 l Z a0 hw [] (r1) (k1) (x0) (x1) (x2) (x3) T103.heap n0 (Nat.le_trans Z0 (Nat.le_trans E101.1 K103.1)) f115 S_ad S_hi S_lo f116) 0 (by decide) (by decide) (by decide) (by decide) rfl (g := (mkF m 23 #[rv r1, iv (0 : Int32), iv (4 : Int32), rv b101, iv (1 : Int32), .unset] [(.int (4 : Int32)), (.int (0 : Int32)), (.ref r1)])) rfl (by rw [hml]; rfl) (argsL := [(.ref r1), (.int (0 : Int32)), (.int (4 : Int32))]) (rest := []) (lenOf own_pd11 rfl) rfl (by show 2 * 0 + _ ≤ _; exact Nat.le_of_eq rfl) (hb hby own_d5_23) ?_
    intro v117 T117 L117 X117 q117
    obtain ⟨bo117, kb117, rfl, N117q, K117, f118, f119, f120⟩ := q117
    have N117 := Fr.app N103 N117q
    show own_Goes p e below s _ _ _ T117 (mkF m 26 #[rv r1, iv (0 : Int32), iv (4 : Int32), rv b101, iv (1 : Int32), .unset] [(.ref bo117)])
    refine own_by (g' := (mkF m 32 #[rv r1, iv (0 : Int32), iv (4 : Int32), rv b101, iv (1 : Int32), rv bo117] [(.int (1 : Int32)), (.ref bo117)])) (fun t k => XS.astore X117.here hx rfl (hb hby own_d5_26) rfl rfl (l' := #[rv r1, iv (0 : Int32), iv (4 : Int32), rv b101, iv (1 : Int32), rv bo117]) rfl (XS.aload X117.here hx rfl (hb hby own_d5_28) rfl rfl (XS.iload X117.here hx rfl (hb hby own_d5_30) rfl k))) ?_
    have f121 := (f115.keep K117 all0)
    refine own_callS X117 hx hZ hown (hw _ (List.mem_of_getElem? (i := 92) rfl)) (hw _ (List.mem_of_getElem? (i := 93) rfl)) (hw _ (List.mem_of_getElem? (i := 22) rfl)) (hw _ (List.mem_of_getElem? (i := 94) rfl)) (by decide) (own_getc1 l Z a0 hw [] (bo117) (kb117) ((8 : Int32)) ([(.int ((x0 >>> ((0 : Int32) &&& 31))).toInt8.toInt32), (.int ((x0 >>> ((8 : Int32) &&& 31))).toInt8.toInt32), (.int ((x1 >>> ((0 : Int32) &&& 31))).toInt8.toInt32), (.int ((x1 >>> ((8 : Int32) &&& 31))).toInt8.toInt32), (.int ((x2 >>> ((0 : Int32) &&& 31))).toInt8.toInt32), (.int ((x2 >>> ((8 : Int32) &&& 31))).toInt8.toInt32), (.int ((x3 >>> ((0 : Int32) &&& 31))).toInt8.toInt32), (.int ((x3 >>> ((8 : Int32) &&& 31))).toInt8.toInt32)]) (((x1 >>> ((0 : Int32) &&& 31))).toInt8.toInt32) (((x1 >>> ((8 : Int32) &&& 31))).toInt8.toInt32) (x1) T117.heap n0 (Nat.le_trans Z0 (Nat.le_trans (Nat.le_trans E101.1 K103.1) K117.1)) f121 S_ad S_hi S_lo f120 (by first | assumption | decide) (by first | assumption | decide) rfl rfl (own_utf x1 hk1)) 0 (by decide) (by decide) (by decide) (by decide) rfl (g := (mkF m 32 #[rv r1, iv (0 : Int32), iv (4 : Int32), rv b101, iv (1 : Int32), rv bo117] [(.int (1 : Int32)), (.ref bo117)])) rfl (by rw [hml]; rfl) (argsL := [(.ref bo117), (.int (1 : Int32))]) (rest := []) (lenOf own_pd4 rfl) rfl (by show 2 * 0 + _ ≤ _; exact Nat.le_of_eq rfl) (hb hby own_d5_32) ?_
    intro v122 T122 L122 X122 q122
    obtain ⟨rfl, N122q, e122⟩ := q122
    have N122 := Fr.app N117 N122q
    show own_Goes p e below s _ _ _ T122 (mkF m 35 #[rv r1, iv (0 : Int32), iv (4 : Int32), rv b101, iv (1 : Int32), rv bo117] [(.int x1)])
    refine own_by (g' := (mkF m 56 #[rv r1, iv (0 : Int32), iv (4 : Int32), rv b101, iv (1 : Int32), rv bo117] [(.ref bo117)])) (fun t k => XS.sipush X122.here hx rfl (hb hby own_d5_35) (XS.icmpYes X122.here hx rfl (pc0 := 38) (pc' := 54) rfl (hb hby own_d5_38) rfl (tlt hq1).2.2.1 (by decide) (by decide) (XS.aload X122.here hx rfl (hb hby own_d5_54) rfl rfl k))) ?_
    refine own_retA X122 hx hlk hret rfl rfl (hb hby own_d5_56) (by decide) (by decide) ?_
    rw [e122]
    exact ⟨bo117, kb117, (8 : Int32), [(.int ((x0 >>> ((0 : Int32) &&& 31))).toInt8.toInt32), (.int ((x0 >>> ((8 : Int32) &&& 31))).toInt8.toInt32), (.int ((x1 >>> ((0 : Int32) &&& 31))).toInt8.toInt32), (.int ((x1 >>> ((8 : Int32) &&& 31))).toInt8.toInt32), (.int ((x2 >>> ((0 : Int32) &&& 31))).toInt8.toInt32), (.int ((x2 >>> ((8 : Int32) &&& 31))).toInt8.toInt32), (.int ((x3 >>> ((0 : Int32) &&& 31))).toInt8.toInt32), (.int ((x3 >>> ((8 : Int32) &&& 31))).toInt8.toInt32)], rfl, N122, ((((Keep.refl h0 []).ext E101).trans K103 (allS (Or.inr sz_b101) all0)).trans K117 all0), (Nat.le_trans (Nat.le_trans E101.1 K103.1) f118), f119, f120, (Or.inr ⟨rfl, rfl⟩)⟩
  ·
    refine own_by (g' := (mkF m 23 #[rv r1, iv (0 : Int32), iv (4 : Int32), rv b101, iv (2 : Int32), .unset] [(.int (4 : Int32)), (.int (0 : Int32)), (.ref r1)])) (fun t k => XS.istore X103.here hx rfl (hb hby own_d5_12) rfl (l' := #[rv r1, iv (0 : Int32), iv (4 : Int32), rv b101, iv (2 : Int32), .unset]) rfl (XS.iload X103.here hx rfl (hb hby own_d5_14) rfl (XS.iloadN X103.here hx rfl (hb hby own_d5_16) rfl (XS.icmpNo X103.here hx rfl (hb hby own_d5_17) rfl (feq (by decide : ¬ ((2 : Int32) = (4 : Int32)))).1 (XS.aloadN X103.here hx rfl (hb hby own_d5_20) rfl rfl (XS.iloadN X103.here hx rfl (hb hby own_d5_21) rfl (XS.iloadN X103.here hx rfl (hb hby own_d5_22) rfl k))))))) ?_
    have f123 := ((O0.ext E101).keep K103 (allS g_b101 all0))
    have f124 := (f102.keep K103 (ninS (Nat.ne_of_lt (Nat.lt_of_lt_of_le (Nat.lt_of_lt_of_le V1.lt (Nat.le_refl _)) (Nat.le_of_eq g101.symm))) nin0))
    refine own_callS X103 hx hZ hown (hw _ (List.mem_of_getElem? (i := 76) rfl)) (hw _ (List.mem_of_getElem? (i := 77) rfl)) (hw _ (List.mem_of_getElem? (i := 22) rfl)) (hw _ (List.mem_of_getElem? (i := 78) rfl)) (by decide) (own_tob4 l Z a0 hw [] (r1) (k1) (x0) (x1) (x2) (x3) T103.heap n0 (Nat.le_trans Z0 (Nat.le_trans E101.1 K103.1)) f123 S_ad S_hi S_lo f124) 0 (by decide) (by decide) (by decide) (by decide) rfl (g := (mkF m 23 #[rv r1, iv (0 : Int32), iv (4 : Int32), rv b101, iv (2 : Int32), .unset] [(.int (4 : Int32)), (.int (0 : Int32)), (.ref r1)])) rfl (by rw [hml]; rfl) (argsL := [(.ref r1), (.int (0 : Int32)), (.int (4 : Int32))]) (rest := []) (lenOf own_pd11 rfl) rfl (by show 2 * 0 + _ ≤ _; exact Nat.le_of_eq rfl) (hb hby own_d5_23) ?_
    intro v125 T125 L125 X125 q125
    obtain ⟨bo125, kb125, rfl, N125q, K125, f126, f127, f128⟩ := q125
    have N125 := Fr.app N103 N125q
    show own_Goes p e below s _ _ _ T125 (mkF m 26 #[rv r1, iv (0 : Int32), iv (4 : Int32), rv b101, iv (2 : Int32), .unset] [(.ref bo125)])
    refine own_by (g' := (mkF m 32 #[rv r1, iv (0 : Int32), iv (4 : Int32), rv b101, iv (2 : Int32), rv bo125] [(.int (2 : Int32)), (.ref bo125)])) (fun t k => XS.astore X125.here hx rfl (hb hby own_d5_26) rfl rfl (l' := #[rv r1, iv (0 : Int32), iv (4 : Int32), rv b101, iv (2 : Int32), rv bo125]) rfl (XS.aload X125.here hx rfl (hb hby own_d5_28) rfl rfl (XS.iload X125.here hx rfl (hb hby own_d5_30) rfl k))) ?_
    have f129 := (f123.keep K125 all0)
    refine own_callS X125 hx hZ hown (hw _ (List.mem_of_getElem? (i := 92) rfl)) (hw _ (List.mem_of_getElem? (i := 93) rfl)) (hw _ (List.mem_of_getElem? (i := 22) rfl)) (hw _ (List.mem_of_getElem? (i := 94) rfl)) (by decide) (own_getc2 l Z a0 hw [] (bo125) (kb125) ((8 : Int32)) ([(.int ((x0 >>> ((0 : Int32) &&& 31))).toInt8.toInt32), (.int ((x0 >>> ((8 : Int32) &&& 31))).toInt8.toInt32), (.int ((x1 >>> ((0 : Int32) &&& 31))).toInt8.toInt32), (.int ((x1 >>> ((8 : Int32) &&& 31))).toInt8.toInt32), (.int ((x2 >>> ((0 : Int32) &&& 31))).toInt8.toInt32), (.int ((x2 >>> ((8 : Int32) &&& 31))).toInt8.toInt32), (.int ((x3 >>> ((0 : Int32) &&& 31))).toInt8.toInt32), (.int ((x3 >>> ((8 : Int32) &&& 31))).toInt8.toInt32)]) (((x2 >>> ((0 : Int32) &&& 31))).toInt8.toInt32) (((x2 >>> ((8 : Int32) &&& 31))).toInt8.toInt32) (x2) T125.heap n0 (Nat.le_trans Z0 (Nat.le_trans (Nat.le_trans E101.1 K103.1) K125.1)) f129 S_ad S_hi S_lo f128 (by first | assumption | decide) (by first | assumption | decide) rfl rfl (own_utf x2 hk2)) 0 (by decide) (by decide) (by decide) (by decide) rfl (g := (mkF m 32 #[rv r1, iv (0 : Int32), iv (4 : Int32), rv b101, iv (2 : Int32), rv bo125] [(.int (2 : Int32)), (.ref bo125)])) rfl (by rw [hml]; rfl) (argsL := [(.ref bo125), (.int (2 : Int32))]) (rest := []) (lenOf own_pd4 rfl) rfl (by show 2 * 0 + _ ≤ _; exact Nat.le_of_eq rfl) (hb hby own_d5_32) ?_
    intro v130 T130 L130 X130 q130
    obtain ⟨rfl, N130q, e130⟩ := q130
    have N130 := Fr.app N125 N130q
    show own_Goes p e below s _ _ _ T130 (mkF m 35 #[rv r1, iv (0 : Int32), iv (4 : Int32), rv b101, iv (2 : Int32), rv bo125] [(.int x2)])
    refine own_by (g' := (mkF m 56 #[rv r1, iv (0 : Int32), iv (4 : Int32), rv b101, iv (2 : Int32), rv bo125] [(.ref bo125)])) (fun t k => XS.sipush X130.here hx rfl (hb hby own_d5_35) (XS.icmpYes X130.here hx rfl (pc0 := 38) (pc' := 54) rfl (hb hby own_d5_38) rfl (tlt hq2).2.2.1 (by decide) (by decide) (XS.aload X130.here hx rfl (hb hby own_d5_54) rfl rfl k))) ?_
    refine own_retA X130 hx hlk hret rfl rfl (hb hby own_d5_56) (by decide) (by decide) ?_
    rw [e130]
    exact ⟨bo125, kb125, (8 : Int32), [(.int ((x0 >>> ((0 : Int32) &&& 31))).toInt8.toInt32), (.int ((x0 >>> ((8 : Int32) &&& 31))).toInt8.toInt32), (.int ((x1 >>> ((0 : Int32) &&& 31))).toInt8.toInt32), (.int ((x1 >>> ((8 : Int32) &&& 31))).toInt8.toInt32), (.int ((x2 >>> ((0 : Int32) &&& 31))).toInt8.toInt32), (.int ((x2 >>> ((8 : Int32) &&& 31))).toInt8.toInt32), (.int ((x3 >>> ((0 : Int32) &&& 31))).toInt8.toInt32), (.int ((x3 >>> ((8 : Int32) &&& 31))).toInt8.toInt32)], rfl, N130, ((((Keep.refl h0 []).ext E101).trans K103 (allS (Or.inr sz_b101) all0)).trans K125 all0), (Nat.le_trans (Nat.le_trans E101.1 K103.1) f126), f127, f128, (Or.inr ⟨rfl, rfl⟩)⟩
  ·
    refine own_by (g' := (mkF m 23 #[rv r1, iv (0 : Int32), iv (4 : Int32), rv b101, iv (3 : Int32), .unset] [(.int (4 : Int32)), (.int (0 : Int32)), (.ref r1)])) (fun t k => XS.istore X103.here hx rfl (hb hby own_d5_12) rfl (l' := #[rv r1, iv (0 : Int32), iv (4 : Int32), rv b101, iv (3 : Int32), .unset]) rfl (XS.iload X103.here hx rfl (hb hby own_d5_14) rfl (XS.iloadN X103.here hx rfl (hb hby own_d5_16) rfl (XS.icmpNo X103.here hx rfl (hb hby own_d5_17) rfl (feq (by decide : ¬ ((3 : Int32) = (4 : Int32)))).1 (XS.aloadN X103.here hx rfl (hb hby own_d5_20) rfl rfl (XS.iloadN X103.here hx rfl (hb hby own_d5_21) rfl (XS.iloadN X103.here hx rfl (hb hby own_d5_22) rfl k))))))) ?_
    have f131 := ((O0.ext E101).keep K103 (allS g_b101 all0))
    have f132 := (f102.keep K103 (ninS (Nat.ne_of_lt (Nat.lt_of_lt_of_le (Nat.lt_of_lt_of_le V1.lt (Nat.le_refl _)) (Nat.le_of_eq g101.symm))) nin0))
    refine own_callS X103 hx hZ hown (hw _ (List.mem_of_getElem? (i := 76) rfl)) (hw _ (List.mem_of_getElem? (i := 77) rfl)) (hw _ (List.mem_of_getElem? (i := 22) rfl)) (hw _ (List.mem_of_getElem? (i := 78) rfl)) (by decide) (own_tob4 l Z a0 hw [] (r1) (k1) (x0) (x1) (x2) (x3) T103.heap n0 (Nat.le_trans Z0 (Nat.le_trans E101.1 K103.1)) f131 S_ad S_hi S_lo f132) 0 (by decide) (by decide) (by decide) (by decide) rfl (g := (mkF m 23 #[rv r1, iv (0 : Int32), iv (4 : Int32), rv b101, iv (3 : Int32), .unset] [(.int (4 : Int32)), (.int (0 : Int32)), (.ref r1)])) rfl (by rw [hml]; rfl) (argsL := [(.ref r1), (.int (0 : Int32)), (.int (4 : Int32))]) (rest := []) (lenOf own_pd11 rfl) rfl (by show 2 * 0 + _ ≤ _; exact Nat.le_of_eq rfl) (hb hby own_d5_23) ?_
    intro v133 T133 L133 X133 q133
    obtain ⟨bo133, kb133, rfl, N133q, K133, f134, f135, f136⟩ := q133
    have N133 := Fr.app N103 N133q
    show own_Goes p e below s _ _ _ T133 (mkF m 26 #[rv r1, iv (0 : Int32), iv (4 : Int32), rv b101, iv (3 : Int32), .unset] [(.ref bo133)])
    refine own_by (g' := (mkF m 32 #[rv r1, iv (0 : Int32), iv (4 : Int32), rv b101, iv (3 : Int32), rv bo133] [(.int (3 : Int32)), (.ref bo133)])) (fun t k => XS.astore X133.here hx rfl (hb hby own_d5_26) rfl rfl (l' := #[rv r1, iv (0 : Int32), iv (4 : Int32), rv b101, iv (3 : Int32), rv bo133]) rfl (XS.aload X133.here hx rfl (hb hby own_d5_28) rfl rfl (XS.iload X133.here hx rfl (hb hby own_d5_30) rfl k))) ?_
    have f137 := (f131.keep K133 all0)
    refine own_callS X133 hx hZ hown (hw _ (List.mem_of_getElem? (i := 92) rfl)) (hw _ (List.mem_of_getElem? (i := 93) rfl)) (hw _ (List.mem_of_getElem? (i := 22) rfl)) (hw _ (List.mem_of_getElem? (i := 94) rfl)) (by decide) (own_getc3 l Z a0 hw [] (bo133) (kb133) ((8 : Int32)) ([(.int ((x0 >>> ((0 : Int32) &&& 31))).toInt8.toInt32), (.int ((x0 >>> ((8 : Int32) &&& 31))).toInt8.toInt32), (.int ((x1 >>> ((0 : Int32) &&& 31))).toInt8.toInt32), (.int ((x1 >>> ((8 : Int32) &&& 31))).toInt8.toInt32), (.int ((x2 >>> ((0 : Int32) &&& 31))).toInt8.toInt32), (.int ((x2 >>> ((8 : Int32) &&& 31))).toInt8.toInt32), (.int ((x3 >>> ((0 : Int32) &&& 31))).toInt8.toInt32), (.int ((x3 >>> ((8 : Int32) &&& 31))).toInt8.toInt32)]) (((x3 >>> ((0 : Int32) &&& 31))).toInt8.toInt32) (((x3 >>> ((8 : Int32) &&& 31))).toInt8.toInt32) (x3) T133.heap n0 (Nat.le_trans Z0 (Nat.le_trans (Nat.le_trans E101.1 K103.1) K133.1)) f137 S_ad S_hi S_lo f136 (by first | assumption | decide) (by first | assumption | decide) rfl rfl (own_utf x3 hk3)) 0 (by decide) (by decide) (by decide) (by decide) rfl (g := (mkF m 32 #[rv r1, iv (0 : Int32), iv (4 : Int32), rv b101, iv (3 : Int32), rv bo133] [(.int (3 : Int32)), (.ref bo133)])) rfl (by rw [hml]; rfl) (argsL := [(.ref bo133), (.int (3 : Int32))]) (rest := []) (lenOf own_pd4 rfl) rfl (by show 2 * 0 + _ ≤ _; exact Nat.le_of_eq rfl) (hb hby own_d5_32) ?_
    intro v138 T138 L138 X138 q138
    obtain ⟨rfl, N138q, e138⟩ := q138
    have N138 := Fr.app N133 N138q
    show own_Goes p e below s _ _ _ T138 (mkF m 35 #[rv r1, iv (0 : Int32), iv (4 : Int32), rv b101, iv (3 : Int32), rv bo133] [(.int x3)])
    refine own_by (g' := (mkF m 56 #[rv r1, iv (0 : Int32), iv (4 : Int32), rv b101, iv (3 : Int32), rv bo133] [(.ref bo133)])) (fun t k => XS.sipush X138.here hx rfl (hb hby own_d5_35) (XS.icmpYes X138.here hx rfl (pc0 := 38) (pc' := 54) rfl (hb hby own_d5_38) rfl (tlt hq3).2.2.1 (by decide) (by decide) (XS.aload X138.here hx rfl (hb hby own_d5_54) rfl rfl k))) ?_
    refine own_retA X138 hx hlk hret rfl rfl (hb hby own_d5_56) (by decide) (by decide) ?_
    rw [e138]
    exact ⟨bo133, kb133, (8 : Int32), [(.int ((x0 >>> ((0 : Int32) &&& 31))).toInt8.toInt32), (.int ((x0 >>> ((8 : Int32) &&& 31))).toInt8.toInt32), (.int ((x1 >>> ((0 : Int32) &&& 31))).toInt8.toInt32), (.int ((x1 >>> ((8 : Int32) &&& 31))).toInt8.toInt32), (.int ((x2 >>> ((0 : Int32) &&& 31))).toInt8.toInt32), (.int ((x2 >>> ((8 : Int32) &&& 31))).toInt8.toInt32), (.int ((x3 >>> ((0 : Int32) &&& 31))).toInt8.toInt32), (.int ((x3 >>> ((8 : Int32) &&& 31))).toInt8.toInt32)], rfl, N138, ((((Keep.refl h0 []).ext E101).trans K103 (allS (Or.inr sz_b101) all0)).trans K133 all0), (Nat.le_trans (Nat.le_trans E101.1 K103.1) f134), f135, f136, (Or.inr ⟨rfl, rfl⟩)⟩
def Q_own_cfa4_0 (Z : State) (r1 : Addr) (k1 : ClassId) (vs : List Value) (h0 : Heap) (n0 : Nat) (v : Option Value) (h : Heap) (L : List Loc) : Prop := v = some (.int (0 : Int32)) ∧ Fr n0 L ∧ h = h0
theorem own_ef_own_cfa4_0 (m : MethodId) (r1 : Addr) : entryFrame m #[(.ref r1), (.int (4 : Int32))] 2 = mkF m 0 #[rv r1, iv (4 : Int32)] [] := by first | (simp [entryFrame, mkF, argsToLocals, Value.category]; done) | rfl
set_option maxRecDepth 65536 in
set_option maxHeartbeats 40000000 in
theorem own_cfa4_0 (l : Launch) (Z : State) (a0 : Array Value) (hw : ∀ d ∈ tables_1, d.before a0 Z = true) (ws : List Jvm.Cond) (r1 : Addr) (k1 : ClassId) (vs : List Value) (h0 : Heap) (n0 : Nat) (Z0 : n0 ≤ h0.size) (V1 : Arv Z h0 r1 k1 .byte (4 : Int32) vs (.int (0 : Int32))) :
    own_Ctr l Z (⟨"java/lang/StringUTF16", "coderFromArrayLen", "([BI)B"⟩ : MethodName) jdk_52_method_15_code 2 (some .byte) ws ({ frames := 0, cells := 0, slots := 0, locals := 0 } : Room) (({ frames := 0, cells := 0, slots := 0, locals := 0 } : Room)).cells (({ frames := 0, cells := 0, slots := 0, locals := 0 } : Room)).slots #[(.ref r1), (.int (4 : Int32))] h0 (Q_own_cfa4_0 Z r1 k1 vs h0 n0) := by
  refine own_enter (plainFor_of_name own_pn2) ?_
  intro p e s m below meth c s₁ X0 hx hZ hby hml hown hnm hlk hret e0
  have N0 := Fr.nil n0
  refine own_cast (own_ef_own_cfa4_0 m r1) ?_
  refine own_by (g' := (mkF m 2 #[rv r1, iv (4 : Int32)] [(.ref r1), (.int (4 : Int32))])) (fun t k => XS.iloadN X0.here hx rfl (hb hby own_d7_0) rfl (XS.aloadN X0.here hx rfl (hb hby own_d7_1) rfl rfl k)) ?_
  obtain ⟨c101, Ar101, -, S101, G101, -, -⟩ := id V1
  refine own_by (g' := (mkF m 3 #[rv r1, iv (4 : Int32)] [(.int (4 : Int32)), (.int (4 : Int32))])) (fun t k => X0.arraylength hx (own_at_ e0 Ar101.1) (State.isArrayOf_alike hZ.alike Ar101.2.1) (g := (mkF m 2 #[rv r1, iv (4 : Int32)] [(.ref r1), (.int (4 : Int32))])) rfl rfl (hb hby own_d7_2) t (by rw [len_of S101 G101]; exact k)) ?_
  refine own_by (g' := (mkF m 8 #[rv r1, iv (4 : Int32)] [(.int ((((0 : Int32)).toUInt32 >>> ((31 : Int32) &&& 31).toUInt32).toInt32).toInt8.toInt32)])) (fun t k => XS.isub X0.here hx rfl (hb hby own_d7_3) rfl (XS.bipush X0.here hx rfl (hb hby own_d7_4) (XS.iushr X0.here hx rfl (hb hby own_d7_6) rfl (XS.i2b X0.here hx rfl (hb hby own_d7_7) rfl k)))) ?_
  refine own_retN X0 hx hlk hret (t := .byte) (by simp) (hb hby own_d7_8) (by decide) (by decide) ?_
  exact ⟨(by decide), N0, e0⟩
def Q_own_cfa4_1 (Z : State) (r1 : Addr) (k1 : ClassId) (vs : List Value) (h0 : Heap) (n0 : Nat) (v : Option Value) (h : Heap) (L : List Loc) : Prop := v = some (.int (1 : Int32)) ∧ Fr n0 L ∧ h = h0
theorem own_ef_own_cfa4_1 (m : MethodId) (r1 : Addr) : entryFrame m #[(.ref r1), (.int (4 : Int32))] 2 = mkF m 0 #[rv r1, iv (4 : Int32)] [] := by first | (simp [entryFrame, mkF, argsToLocals, Value.category]; done) | rfl
set_option maxRecDepth 65536 in
set_option maxHeartbeats 40000000 in
theorem own_cfa4_1 (l : Launch) (Z : State) (a0 : Array Value) (hw : ∀ d ∈ tables_1, d.before a0 Z = true) (ws : List Jvm.Cond) (r1 : Addr) (k1 : ClassId) (vs : List Value) (h0 : Heap) (n0 : Nat) (Z0 : n0 ≤ h0.size) (V1 : Arv Z h0 r1 k1 .byte (8 : Int32) vs (.int (0 : Int32))) :
    own_Ctr l Z (⟨"java/lang/StringUTF16", "coderFromArrayLen", "([BI)B"⟩ : MethodName) jdk_52_method_15_code 2 (some .byte) ws ({ frames := 0, cells := 0, slots := 0, locals := 0 } : Room) (({ frames := 0, cells := 0, slots := 0, locals := 0 } : Room)).cells (({ frames := 0, cells := 0, slots := 0, locals := 0 } : Room)).slots #[(.ref r1), (.int (4 : Int32))] h0 (Q_own_cfa4_1 Z r1 k1 vs h0 n0) := by
  refine own_enter (plainFor_of_name own_pn2) ?_
  intro p e s m below meth c s₁ X0 hx hZ hby hml hown hnm hlk hret e0
  have N0 := Fr.nil n0
  refine own_cast (own_ef_own_cfa4_1 m r1) ?_
  refine own_by (g' := (mkF m 2 #[rv r1, iv (4 : Int32)] [(.ref r1), (.int (4 : Int32))])) (fun t k => XS.iloadN X0.here hx rfl (hb hby own_d7_0) rfl (XS.aloadN X0.here hx rfl (hb hby own_d7_1) rfl rfl k)) ?_
  obtain ⟨c101, Ar101, -, S101, G101, -, -⟩ := id V1
  refine own_by (g' := (mkF m 3 #[rv r1, iv (4 : Int32)] [(.int (8 : Int32)), (.int (4 : Int32))])) (fun t k => X0.arraylength hx (own_at_ e0 Ar101.1) (State.isArrayOf_alike hZ.alike Ar101.2.1) (g := (mkF m 2 #[rv r1, iv (4 : Int32)] [(.ref r1), (.int (4 : Int32))])) rfl rfl (hb hby own_d7_2) t (by rw [len_of S101 G101]; exact k)) ?_
  refine own_by (g' := (mkF m 8 #[rv r1, iv (4 : Int32)] [(.int ((((-4 : Int32)).toUInt32 >>> ((31 : Int32) &&& 31).toUInt32).toInt32).toInt8.toInt32)])) (fun t k => XS.isub X0.here hx rfl (hb hby own_d7_3) rfl (XS.bipush X0.here hx rfl (hb hby own_d7_4) (XS.iushr X0.here hx rfl (hb hby own_d7_6) rfl (XS.i2b X0.here hx rfl (hb hby own_d7_7) rfl k)))) ?_
  refine own_retN X0 hx hlk hret (t := .byte) (by simp) (hb hby own_d7_8) (by decide) (by decide) ?_
  exact ⟨(by decide), N0, e0⟩
def Q_own_ini4_4 (Z : State) (r1 : Addr) (r2 : Addr) (k1 : ClassId) (x0 : Int32) (x1 : Int32) (x2 : Int32) (x3 : Int32) (zcs : Int32) (h0 : Heap) (n0 : Nat) (v : Option Value) (h : Heap) (L : List Loc) : Prop := ∃ (ba : Addr), ∃ (kb : ClassId), ∃ (cd : Int32), ∃ (ln : Int32), ∃ (vs : List Value), v = none ∧ Fr n0 L ∧ Keep h0 h [r1] ∧ h0.size ≤ ba ∧ Exa Z h r1 "java/lang/String" ∧ Fld Z h r1 "java/lang/String" "value" "[B" (.ref ba) ∧ Fld Z h r1 "java/lang/String" "coder" "B" (.int cd) ∧ Arv Z h ba kb .byte ln vs (.int (0 : Int32)) ∧ Exa Z h ba "[B" ∧ own_s4 x0 x1 x2 x3 cd ln vs
theorem own_ef_own_ini4_4 (m : MethodId) (r1 : Addr) (r2 : Addr) : entryFrame m #[(.ref r1), (.ref r2), (.int (0 : Int32)), (.int (4 : Int32)), .null] 6 = mkF m 0 #[rv r1, rv r2, iv (0 : Int32), iv (4 : Int32), .val .null, .unset] [] := by first | (simp [entryFrame, mkF, argsToLocals, Value.category]; done) | rfl
set_option maxRecDepth 65536 in
set_option maxHeartbeats 40000000 in
theorem own_ini4_4 (l : Launch) (Z : State) (a0 : Array Value) (hw : ∀ d ∈ tables_1, d.before a0 Z = true) (ws : List Jvm.Cond) (r1 : Addr) (r2 : Addr) (k1 : ClassId) (x0 : Int32) (x1 : Int32) (x2 : Int32) (x3 : Int32) (zcs : Int32) (h0 : Heap) (n0 : Nat) (Z0 : n0 ≤ h0.size) (O0 : Old Z n0 h0) (S_cs : Sta Z Z.heap "java/lang/String" "COMPACT_STRINGS" "Z" (.int zcs)) (hcs : ¬ zcs = (0 : Int32)) (S_ad : Sta Z Z.heap "java/lang/StringUTF16" "$assertionsDisabled" "Z" (.int (1 : Int32))) (S_hi : Sta Z Z.heap "java/lang/StringUTF16" "HI_BYTE_SHIFT" "I" (.int (0 : Int32))) (S_lo : Sta Z Z.heap "java/lang/StringUTF16" "LO_BYTE_SHIFT" "I" (.int (8 : Int32))) (hk0 : own_ch x0) (hk1 : own_ch x1) (hk2 : own_ch x2) (hk3 : own_ch x3) (E1 : Exa Z h0 r1 "java/lang/String") (F1 : Fld Z h0 r1 "java/lang/String" "value" "[B" .null) (F2 : Fld Z h0 r1 "java/lang/String" "coder" "B" (.int (0 : Int32))) (g1 : n0 ≤ r1) (V1 : Arv Z h0 r2 k1 .char (4 : Int32) [(.int x0), (.int x1), (.int x2), (.int x3)] (.int (0 : Int32))) :
    own_Ctr l Z (⟨"java/lang/String", "<init>", "([CIILjava/lang/Void;)V"⟩ : MethodName) jdk_42_method_149_code 6 none ws ({ frames := 4, cells := 2, slots := 12, locals := 57 } : Room) (({ frames := 4, cells := 2, slots := 12, locals := 57 } : Room)).cells (({ frames := 4, cells := 2, slots := 12, locals := 57 } : Room)).slots #[(.ref r1), (.ref r2), (.int (0 : Int32)), (.int (4 : Int32)), .null] h0 (Q_own_ini4_4 Z r1 r2 k1 x0 x1 x2 x3 zcs h0 n0) := by
  refine own_enter (plainFor_of_name own_pn1) ?_
  intro p e s m below meth c s₁ X0 hx hZ hby hml hown hnm hlk hret e0
  have N0 := Fr.nil n0
  refine own_cast (own_ef_own_ini4_4 m r1 r2) ?_
  refine own_by (g' := (mkF m 1 #[rv r1, rv r2, iv (0 : Int32), iv (4 : Int32), .val .null, .unset] [(.ref r1)])) (fun t k => XS.aloadN X0.here hx rfl (hb hby own_d3_0) rfl rfl k) ?_
  obtain ⟨T101, X101, e101, st101⟩ := initO X0 hx hZ hown (hw _ (List.mem_of_getElem? (i := 16) rfl)) (hw _ (List.mem_of_getElem? (i := 17) rfl)) (hw _ (List.mem_of_getElem? (i := 18) rfl)) e0 (g := (mkF m 1 #[rv r1, rv r2, iv (0 : Int32), iv (4 : Int32), .val .null, .unset] [(.ref r1)])) rfl (by rw [hml]; rfl) rfl (hb hby own_d3_1) (by decide) (W := 0) (by show 2 * 0 + _ ≤ _; exact Nat.le_of_eq rfl) (by decide)
  refine own_by (g' := (mkF m 4 #[rv r1, rv r2, iv (0 : Int32), iv (4 : Int32), .val .null, .unset] [])) st101 ?_
  refine own_by (g' := (mkF m 27 #[rv r1, rv r2, iv (0 : Int32), iv (4 : Int32), .val .null, .unset] [])) (fun t k => XS.iloadN X101.here hx rfl (hb hby own_d3_4) rfl (XS.ifYes X101.here hx rfl (pc0 := 5) (pc' := 27) rfl (hb hby own_d3_5) rfl ((if0 _ _).trans (feq (by decide : ¬ ((4 : Int32) = (0 : Int32)))).2) (by decide) (by decide) k)) ?_
  obtain ⟨T102, X102, e102, st102⟩ := getS2 X101 hx hZ hown (host := "") (Or.inl (hw _ (List.mem_of_getElem? (i := 19) rfl))) Via.refl e101 (S_cs.ext O0.2) (g := (mkF m 27 #[rv r1, rv r2, iv (0 : Int32), iv (4 : Int32), .val .null, .unset] [])) rfl (hb hby own_d3_27)
  refine own_by (g' := (mkF m 30 #[rv r1, rv r2, iv (0 : Int32), iv (4 : Int32), .val .null, .unset] [(.int zcs)])) st102 ?_
  refine own_by (g' := (mkF m 36 #[rv r1, rv r2, iv (0 : Int32), iv (4 : Int32), .val .null, .unset] [(.int (4 : Int32)), (.int (0 : Int32)), (.ref r2)])) (fun t k => XS.ifNo X102.here hx rfl (hb hby own_d3_30) rfl ((if0 _ _).trans (feq hcs).1) (XS.aloadN X102.here hx rfl (hb hby own_d3_33) rfl rfl (XS.iloadN X102.here hx rfl (hb hby own_d3_34) rfl (XS.iloadN X102.here hx rfl (hb hby own_d3_35) rfl k)))) ?_
  refine own_callS X102 hx hZ hown (hw _ (List.mem_of_getElem? (i := 20) rfl)) (hw _ (List.mem_of_getElem? (i := 21) rfl)) (hw _ (List.mem_of_getElem? (i := 22) rfl)) (hw _ (List.mem_of_getElem? (i := 23) rfl)) (by decide) (own_com3_4 l Z a0 hw [] (r2) (k1) (x0) (x1) (x2) (x3) h0 n0 Z0 O0 S_ad S_hi S_lo (by first | assumption | decide) (by first | assumption | decide) (by first | assumption | decide) (by first | assumption | decide) V1) 0 (by decide) (by decide) (by decide) (by decide) e102 (g := (mkF m 36 #[rv r1, rv r2, iv (0 : Int32), iv (4 : Int32), .val .null, .unset] [(.int (4 : Int32)), (.int (0 : Int32)), (.ref r2)])) rfl (by rw [hml]; rfl) (argsL := [(.ref r2), (.int (0 : Int32)), (.int (4 : Int32))]) (rest := []) (lenOf own_pd11 rfl) rfl (by show 2 * 0 + _ ≤ _; exact Nat.le_of_eq rfl) (hb hby own_d3_36) ?_
  intro v103 T103 L103 X103 q103
  obtain ⟨bo103, kb103, ln103, vs103, rfl, N103q, K103, f104, f105, f106, f107⟩ := q103
  have N103 := Fr.app N0 N103q
  show own_Goes p e below s _ _ _ T103 (mkF m 39 #[rv r1, rv r2, iv (0 : Int32), iv (4 : Int32), .val .null, .unset] [(.ref bo103)])
  rcases f107 with ⟨rfl, rfl, hq0, hq1, hq2, hq3⟩ | ⟨rfl, rfl⟩
  ·
    refine own_by (g' := (mkF m 45 #[rv r1, rv r2, iv (0 : Int32), iv (4 : Int32), .val .null, rv bo103] [(.int (4 : Int32)), (.ref bo103), (.ref r1)])) (fun t k => XS.astore X103.here hx rfl (hb hby own_d3_39) rfl rfl (l' := #[rv r1, rv r2, iv (0 : Int32), iv (4 : Int32), .val .null, rv bo103]) rfl (XS.aloadN X103.here hx rfl (hb hby own_d3_41) rfl rfl (XS.aload X103.here hx rfl (hb hby own_d3_42) rfl rfl (XS.iloadN X103.here hx rfl (hb hby own_d3_44) rfl k)))) ?_
    refine own_callS X103 hx hZ hown (hw _ (List.mem_of_getElem? (i := 28) rfl)) (hw _ (List.mem_of_getElem? (i := 29) rfl)) (hw _ (List.mem_of_getElem? (i := 22) rfl)) (hw _ (List.mem_of_getElem? (i := 30) rfl)) (by decide) (own_cfa4_0 l Z a0 hw [] (bo103) (kb103) ([(.int (x0).toInt8.toInt32), (.int (x1).toInt8.toInt32), (.int (x2).toInt8.toInt32), (.int (x3).toInt8.toInt32)]) T103.heap n0 (Nat.le_trans Z0 K103.1) f106) 1 (by decide) (by decide) (by decide) (by decide) rfl (g := (mkF m 45 #[rv r1, rv r2, iv (0 : Int32), iv (4 : Int32), .val .null, rv bo103] [(.int (4 : Int32)), (.ref bo103), (.ref r1)])) rfl (by rw [hml]; rfl) (argsL := [(.ref bo103), (.int (4 : Int32))]) (rest := [(.ref r1)]) (lenOf own_pd12 rfl) rfl (by show 2 * 0 + _ ≤ _; exact Nat.le_of_eq rfl) (hb hby own_d3_45) ?_
    intro v108 T108 L108 X108 q108
    obtain ⟨rfl, N108q, e108⟩ := q108
    have N108 := Fr.app N103 N108q
    show own_Goes p e below s _ _ _ T108 (mkF m 48 #[rv r1, rv r2, iv (0 : Int32), iv (4 : Int32), .val .null, rv bo103] [(.int (0 : Int32)), (.ref r1)])
    have f109 := (F2.keep K103 nin0)
    have f110 := (E1.keep K103)
    obtain ⟨T111, h111, X111, e111, W111, st111⟩ := putFN X108 hx hZ hown (hw _ (List.mem_of_getElem? (i := 31) rfl)) Via.refl e108 f109 f110 (Or.inr ⟨(hw _ (List.mem_of_getElem? (i := 32) rfl)), rfl, hnm⟩) (hw _ (List.mem_of_getElem? (i := 6) rfl)) (ty := .byte) (v' := (.int (0 : Int32))) (by decide) rfl (by decide) (g := (mkF m 48 #[rv r1, rv r2, iv (0 : Int32), iv (4 : Int32), .val .null, rv bo103] [(.int (0 : Int32)), (.ref r1)])) rfl rfl (hb hby own_d3_48)
    have f112 := f109.same W111
    have N111 := Fr.snoc X111 N108 g1
    refine own_by (g' := (mkF m 51 #[rv r1, rv r2, iv (0 : Int32), iv (4 : Int32), .val .null, rv bo103] [])) st111 ?_
    refine own_by (g' := (mkF m 54 #[rv r1, rv r2, iv (0 : Int32), iv (4 : Int32), .val .null, rv bo103] [(.ref bo103), (.ref r1)])) (fun t k => XS.aloadN X111.here hx rfl (hb hby own_d3_51) rfl rfl (XS.aload X111.here hx rfl (hb hby own_d3_52) rfl rfl k)) ?_
    have f113 := ((F1.keep K103 nin0).other W111 (Or.inr (slot_ne (Or.inr (hw _ (List.mem_of_getElem? (i := 34) rfl))) (Or.inr (hw _ (List.mem_of_getElem? (i := 32) rfl))) (by decide) (t := (.array .byte)) (t' := .byte) (by decide) (by decide))))
    have f114 := (f110.wr W111)
    obtain ⟨T115, h115, X115, e115, W115, st115⟩ := putF X111 hx hZ hown (host := "") (Or.inl (hw _ (List.mem_of_getElem? (i := 33) rfl))) Via.refl e111 f113 f114 (Or.inr ⟨(hw _ (List.mem_of_getElem? (i := 34) rfl)), rfl, hnm⟩) (hw _ (List.mem_of_getElem? (i := 6) rfl)) (ty := (.array .byte)) (by decide) rfl rfl (g := (mkF m 54 #[rv r1, rv r2, iv (0 : Int32), iv (4 : Int32), .val .null, rv bo103] [(.ref bo103), (.ref r1)])) rfl rfl (hb hby own_d3_54)
    have f116 := f113.same W115
    have N115 := Fr.snoc X115 N111 g1
    refine own_by (g' := (mkF m 57 #[rv r1, rv r2, iv (0 : Int32), iv (4 : Int32), .val .null, rv bo103] [])) st115 ?_
    have f117 := (f114.wr W115)
    have f118 := (f112.other W115 (Or.inr (slot_ne (Or.inr (hw _ (List.mem_of_getElem? (i := 32) rfl))) (Or.inr (hw _ (List.mem_of_getElem? (i := 34) rfl))) (by decide) (t := .byte) (t' := (.array .byte)) (by decide) (by decide))))
    have f119 := ((f106.other W111 (Ne.symm (Nat.ne_of_lt (Nat.lt_of_lt_of_le (Nat.lt_of_lt_of_le E1.lt (Nat.le_refl _)) f104)))).other W115 (Ne.symm (Nat.ne_of_lt (Nat.lt_of_lt_of_le (Nat.lt_of_lt_of_le E1.lt (Nat.le_refl _)) f104))))
    have f120 := ((f105.wr W111).wr W115)
    refine own_retV X115 hx hlk hret (hb hby own_d3_57) (by decide) (by decide) ?_
    rw [e115]
    exact ⟨bo103, kb103, (0 : Int32), (4 : Int32), [(.int (x0).toInt8.toInt32), (.int (x1).toInt8.toInt32), (.int (x2).toInt8.toInt32), (.int (x3).toInt8.toInt32)], rfl, N115, ((((Keep.refl h0 [r1]).trans K103 all0).wr W111 (Or.inl (List.mem_of_getElem? (i := 0) rfl))).wr W115 (Or.inl (List.mem_of_getElem? (i := 0) rfl))), (Nat.le_trans (Nat.le_refl _) f104), f117, f116, f118, f119, f120, (Or.inl ⟨rfl, rfl, rfl, hq0, hq1, hq2, hq3⟩)⟩
  ·
    refine own_by (g' := (mkF m 45 #[rv r1, rv r2, iv (0 : Int32), iv (4 : Int32), .val .null, rv bo103] [(.int (4 : Int32)), (.ref bo103), (.ref r1)])) (fun t k => XS.astore X103.here hx rfl (hb hby own_d3_39) rfl rfl (l' := #[rv r1, rv r2, iv (0 : Int32), iv (4 : Int32), .val .null, rv bo103]) rfl (XS.aloadN X103.here hx rfl (hb hby own_d3_41) rfl rfl (XS.aload X103.here hx rfl (hb hby own_d3_42) rfl rfl (XS.iloadN X103.here hx rfl (hb hby own_d3_44) rfl k)))) ?_
    refine own_callS X103 hx hZ hown (hw _ (List.mem_of_getElem? (i := 28) rfl)) (hw _ (List.mem_of_getElem? (i := 29) rfl)) (hw _ (List.mem_of_getElem? (i := 22) rfl)) (hw _ (List.mem_of_getElem? (i := 30) rfl)) (by decide) (own_cfa4_1 l Z a0 hw [] (bo103) (kb103) ([(.int ((x0 >>> ((0 : Int32) &&& 31))).toInt8.toInt32), (.int ((x0 >>> ((8 : Int32) &&& 31))).toInt8.toInt32), (.int ((x1 >>> ((0 : Int32) &&& 31))).toInt8.toInt32), (.int ((x1 >>> ((8 : Int32) &&& 31))).toInt8.toInt32), (.int ((x2 >>> ((0 : Int32) &&& 31))).toInt8.toInt32), (.int ((x2 >>> ((8 : Int32) &&& 31))).toInt8.toInt32), (.int ((x3 >>> ((0 : Int32) &&& 31))).toInt8.toInt32), (.int ((x3 >>> ((8 : Int32) &&& 31))).toInt8.toInt32)]) T103.heap n0 (Nat.le_trans Z0 K103.1) f106) 1 (by decide) (by decide) (by decide) (by decide) rfl (g := (mkF m 45 #[rv r1, rv r2, iv (0 : Int32), iv (4 : Int32), .val .null, rv bo103] [(.int (4 : Int32)), (.ref bo103), (.ref r1)])) rfl (by rw [hml]; rfl) (argsL := [(.ref bo103), (.int (4 : Int32))]) (rest := [(.ref r1)]) (lenOf own_pd12 rfl) rfl (by show 2 * 0 + _ ≤ _; exact Nat.le_of_eq rfl) (hb hby own_d3_45) ?_
    intro v121 T121 L121 X121 q121
    obtain ⟨rfl, N121q, e121⟩ := q121
    have N121 := Fr.app N103 N121q
    show own_Goes p e below s _ _ _ T121 (mkF m 48 #[rv r1, rv r2, iv (0 : Int32), iv (4 : Int32), .val .null, rv bo103] [(.int (1 : Int32)), (.ref r1)])
    have f122 := (F2.keep K103 nin0)
    have f123 := (E1.keep K103)
    obtain ⟨T124, h124, X124, e124, W124, st124⟩ := putFN X121 hx hZ hown (hw _ (List.mem_of_getElem? (i := 31) rfl)) Via.refl e121 f122 f123 (Or.inr ⟨(hw _ (List.mem_of_getElem? (i := 32) rfl)), rfl, hnm⟩) (hw _ (List.mem_of_getElem? (i := 6) rfl)) (ty := .byte) (v' := (.int (1 : Int32))) (by decide) rfl (by decide) (g := (mkF m 48 #[rv r1, rv r2, iv (0 : Int32), iv (4 : Int32), .val .null, rv bo103] [(.int (1 : Int32)), (.ref r1)])) rfl rfl (hb hby own_d3_48)
    have f125 := f122.same W124
    have N124 := Fr.snoc X124 N121 g1
    refine own_by (g' := (mkF m 51 #[rv r1, rv r2, iv (0 : Int32), iv (4 : Int32), .val .null, rv bo103] [])) st124 ?_
    refine own_by (g' := (mkF m 54 #[rv r1, rv r2, iv (0 : Int32), iv (4 : Int32), .val .null, rv bo103] [(.ref bo103), (.ref r1)])) (fun t k => XS.aloadN X124.here hx rfl (hb hby own_d3_51) rfl rfl (XS.aload X124.here hx rfl (hb hby own_d3_52) rfl rfl k)) ?_
    have f126 := ((F1.keep K103 nin0).other W124 (Or.inr (slot_ne (Or.inr (hw _ (List.mem_of_getElem? (i := 34) rfl))) (Or.inr (hw _ (List.mem_of_getElem? (i := 32) rfl))) (by decide) (t := (.array .byte)) (t' := .byte) (by decide) (by decide))))
    have f127 := (f123.wr W124)
    obtain ⟨T128, h128, X128, e128, W128, st128⟩ := putF X124 hx hZ hown (host := "") (Or.inl (hw _ (List.mem_of_getElem? (i := 33) rfl))) Via.refl e124 f126 f127 (Or.inr ⟨(hw _ (List.mem_of_getElem? (i := 34) rfl)), rfl, hnm⟩) (hw _ (List.mem_of_getElem? (i := 6) rfl)) (ty := (.array .byte)) (by decide) rfl rfl (g := (mkF m 54 #[rv r1, rv r2, iv (0 : Int32), iv (4 : Int32), .val .null, rv bo103] [(.ref bo103), (.ref r1)])) rfl rfl (hb hby own_d3_54)
    have f129 := f126.same W128
    have N128 := Fr.snoc X128 N124 g1
    refine own_by (g' := (mkF m 57 #[rv r1, rv r2, iv (0 : Int32), iv (4 : Int32), .val .null, rv bo103] [])) st128 ?_
    have f130 := (f127.wr W128)
    have f131 := (f125.other W128 (Or.inr (slot_ne (Or.inr (hw _ (List.mem_of_getElem? (i := 32) rfl))) (Or.inr (hw _ (List.mem_of_getElem? (i := 34) rfl))) (by decide) (t := .byte) (t' := (.array .byte)) (by decide) (by decide))))
    have f132 := ((f106.other W124 (Ne.symm (Nat.ne_of_lt (Nat.lt_of_lt_of_le (Nat.lt_of_lt_of_le E1.lt (Nat.le_refl _)) f104)))).other W128 (Ne.symm (Nat.ne_of_lt (Nat.lt_of_lt_of_le (Nat.lt_of_lt_of_le E1.lt (Nat.le_refl _)) f104))))
    have f133 := ((f105.wr W124).wr W128)
    refine own_retV X128 hx hlk hret (hb hby own_d3_57) (by decide) (by decide) ?_
    rw [e128]
    exact ⟨bo103, kb103, (1 : Int32), (8 : Int32), [(.int ((x0 >>> ((0 : Int32) &&& 31))).toInt8.toInt32), (.int ((x0 >>> ((8 : Int32) &&& 31))).toInt8.toInt32), (.int ((x1 >>> ((0 : Int32) &&& 31))).toInt8.toInt32), (.int ((x1 >>> ((8 : Int32) &&& 31))).toInt8.toInt32), (.int ((x2 >>> ((0 : Int32) &&& 31))).toInt8.toInt32), (.int ((x2 >>> ((8 : Int32) &&& 31))).toInt8.toInt32), (.int ((x3 >>> ((0 : Int32) &&& 31))).toInt8.toInt32), (.int ((x3 >>> ((8 : Int32) &&& 31))).toInt8.toInt32)], rfl, N128, ((((Keep.refl h0 [r1]).trans K103 all0).wr W124 (Or.inl (List.mem_of_getElem? (i := 0) rfl))).wr W128 (Or.inl (List.mem_of_getElem? (i := 0) rfl))), (Nat.le_trans (Nat.le_refl _) f104), f130, f129, f131, f132, f133, (Or.inr ⟨rfl, rfl, rfl⟩)⟩
def Q_own_ini1_4 (Z : State) (r1 : Addr) (r2 : Addr) (k1 : ClassId) (x0 : Int32) (x1 : Int32) (x2 : Int32) (x3 : Int32) (zcs : Int32) (h0 : Heap) (n0 : Nat) (v : Option Value) (h : Heap) (L : List Loc) : Prop := ∃ (ba : Addr), ∃ (kb : ClassId), ∃ (cd : Int32), ∃ (ln : Int32), ∃ (vs : List Value), v = none ∧ Fr n0 L ∧ Keep h0 h [r1] ∧ h0.size ≤ ba ∧ Exa Z h r1 "java/lang/String" ∧ Fld Z h r1 "java/lang/String" "value" "[B" (.ref ba) ∧ Fld Z h r1 "java/lang/String" "coder" "B" (.int cd) ∧ Arv Z h ba kb .byte ln vs (.int (0 : Int32)) ∧ Exa Z h ba "[B" ∧ own_s4 x0 x1 x2 x3 cd ln vs
theorem own_ef_own_ini1_4 (m : MethodId) (r1 : Addr) (r2 : Addr) : entryFrame m #[(.ref r1), (.ref r2)] 2 = mkF m 0 #[rv r1, rv r2] [] := by first | (simp [entryFrame, mkF, argsToLocals, Value.category]; done) | rfl
set_option maxRecDepth 65536 in
set_option maxHeartbeats 40000000 in
theorem own_ini1_4 (l : Launch) (Z : State) (a0 : Array Value) (hw : ∀ d ∈ tables_1, d.before a0 Z = true) (ws : List Jvm.Cond) (r1 : Addr) (r2 : Addr) (k1 : ClassId) (x0 : Int32) (x1 : Int32) (x2 : Int32) (x3 : Int32) (zcs : Int32) (h0 : Heap) (n0 : Nat) (Z0 : n0 ≤ h0.size) (O0 : Old Z n0 h0) (S_cs : Sta Z Z.heap "java/lang/String" "COMPACT_STRINGS" "Z" (.int zcs)) (hcs : ¬ zcs = (0 : Int32)) (S_ad : Sta Z Z.heap "java/lang/StringUTF16" "$assertionsDisabled" "Z" (.int (1 : Int32))) (S_hi : Sta Z Z.heap "java/lang/StringUTF16" "HI_BYTE_SHIFT" "I" (.int (0 : Int32))) (S_lo : Sta Z Z.heap "java/lang/StringUTF16" "LO_BYTE_SHIFT" "I" (.int (8 : Int32))) (hk0 : own_ch x0) (hk1 : own_ch x1) (hk2 : own_ch x2) (hk3 : own_ch x3) (E1 : Exa Z h0 r1 "java/lang/String") (F1 : Fld Z h0 r1 "java/lang/String" "value" "[B" .null) (F2 : Fld Z h0 r1 "java/lang/String" "coder" "B" (.int (0 : Int32))) (g1 : n0 ≤ r1) (V1 : Arv Z h0 r2 k1 .char (4 : Int32) [(.int x0), (.int x1), (.int x2), (.int x3)] (.int (0 : Int32))) :
    own_Ctr l Z (⟨"java/lang/String", "<init>", "([C)V"⟩ : MethodName) jdk_42_method_3_code 2 none ws ({ frames := 5, cells := 2, slots := 12, locals := 74 } : Room) (({ frames := 5, cells := 2, slots := 12, locals := 74 } : Room)).cells (({ frames := 5, cells := 2, slots := 12, locals := 74 } : Room)).slots #[(.ref r1), (.ref r2)] h0 (Q_own_ini1_4 Z r1 r2 k1 x0 x1 x2 x3 zcs h0 n0) := by
  refine own_enter (plainFor_of_name own_pn1) ?_
  intro p e s m below meth c s₁ X0 hx hZ hby hml hown hnm hlk hret e0
  have N0 := Fr.nil n0
  refine own_cast (own_ef_own_ini1_4 m r1 r2) ?_
  refine own_by (g' := (mkF m 4 #[rv r1, rv r2] [(.ref r2), (.int (0 : Int32)), (.ref r2), (.ref r1)])) (fun t k => XS.aloadN X0.here hx rfl (hb hby own_d2_0) rfl rfl (XS.aloadN X0.here hx rfl (hb hby own_d2_1) rfl rfl (XS.iconst X0.here hx rfl (hb hby own_d2_2) (XS.aloadN X0.here hx rfl (hb hby own_d2_3) rfl rfl k)))) ?_
  obtain ⟨c101, Ar101, -, S101, G101, -, -⟩ := id V1
  refine own_by (g' := (mkF m 5 #[rv r1, rv r2] [(.int (4 : Int32)), (.int (0 : Int32)), (.ref r2), (.ref r1)])) (fun t k => X0.arraylength hx (own_at_ e0 Ar101.1) (State.isArrayOf_alike hZ.alike Ar101.2.1) (g := (mkF m 4 #[rv r1, rv r2] [(.ref r2), (.int (0 : Int32)), (.ref r2), (.ref r1)])) rfl rfl (hb hby own_d2_4) t (by rw [len_of S101 G101]; exact k)) ?_
  refine own_by (g' := (mkF m 6 #[rv r1, rv r2] [.null, (.int (4 : Int32)), (.int (0 : Int32)), (.ref r2), (.ref r1)])) (fun t k => XS.aconstNull X0.here hx rfl (hb hby own_d2_5) k) ?_
  refine own_callI X0 hx hZ hown rfl (hw _ (List.mem_of_getElem? (i := 12) rfl)) (hw _ (List.mem_of_getElem? (i := 13) rfl)) (hw _ (List.mem_of_getElem? (i := 7) rfl)) (hw _ (List.mem_of_getElem? (i := 15) rfl)) (by decide) (a := r1) (own_ini4_4 l Z a0 hw [] (r1) (r2) (k1) (x0) (x1) (x2) (x3) (zcs) h0 n0 Z0 O0 S_cs (by first | assumption | decide) S_ad S_hi S_lo (by first | assumption | decide) (by first | assumption | decide) (by first | assumption | decide) (by first | assumption | decide) E1 F1 F2 g1 V1) 0 (by decide) (by decide) (by decide) (by decide) e0 (g := (mkF m 6 #[rv r1, rv r2] [.null, (.int (4 : Int32)), (.int (0 : Int32)), (.ref r2), (.ref r1)])) rfl (by rw [hml]; rfl) (argsL := [(.ref r2), (.int (0 : Int32)), (.int (4 : Int32)), .null]) (rest := []) (lenOf own_pd13 rfl) rfl (by show 2 * 0 + _ ≤ _; exact Nat.le_of_eq rfl) (hb hby own_d2_6) ?_
  intro v102 T102 L102 X102 q102
  obtain ⟨ba102, kb102, cd102, ln102, vs102, rfl, N102q, K102, f103, f104, f105, f106, f107, f108, f109⟩ := q102
  have N102 := Fr.app N0 N102q
  show own_Goes p e below s _ _ _ T102 (mkF m 9 #[rv r1, rv r2] [])
  refine own_retV X102 hx hlk hret (hb hby own_d2_9) (by decide) (by decide) ?_
  exact ⟨ba102, kb102, cd102, ln102, vs102, rfl, N102, ((Keep.refl h0 [r1]).trans K102 (allS (Or.inl (List.mem_of_getElem? (i := 0) rfl)) all0)), (Nat.le_trans (Nat.le_refl _) f103), f104, f105, f106, f107, f108, f109⟩
theorem own_pn4 : plainName "com/example/tallysieve/tallysieve/KeyIndex" = true := by first | (simp [plainName, overriddenIn]; done) | decide +kernel
theorem own_d8_0 : decode prog_3_method_7_code 0 = .ok (.lload_n 0, 1) := by decide +kernel
theorem own_d8_1 : decode prog_3_method_7_code 1 = .ok (.lstore_n 3, 1) := by decide +kernel
theorem own_d8_2 : decode prog_3_method_7_code 2 = .ok (.iconst 0, 1) := by decide +kernel
theorem own_d8_3 : decode prog_3_method_7_code 3 = .ok (.istore 5, 2) := by decide +kernel
theorem own_d8_5 : decode prog_3_method_7_code 5 = .ok (.iload 5, 2) := by decide +kernel
theorem own_d8_7 : decode prog_3_method_7_code 7 = .ok (.aload_n 2, 1) := by decide +kernel
theorem own_d8_8 : decode prog_3_method_7_code 8 = .ok (.invokevirtual 90, 3) := by decide +kernel
theorem own_pd14 : parseMethodDescriptor "()I" = some ⟨[], some .int⟩ := by decide +kernel
theorem own_d8_11 : decode prog_3_method_7_code 11 = .ok (.if_icmp .ge 23, 3) := by decide +kernel
theorem own_d8_34 : decode prog_3_method_7_code 34 = .ok (.lload_n 3, 1) := by decide +kernel
theorem own_d8_35 : decode prog_3_method_7_code 35 = .ok (.bipush 32, 2) := by decide +kernel
theorem own_d8_37 : decode prog_3_method_7_code 37 = .ok (.lushr, 1) := by decide +kernel
theorem own_d8_38 : decode prog_3_method_7_code 38 = .ok (.l2i, 1) := by decide +kernel
theorem own_d8_39 : decode prog_3_method_7_code 39 = .ok (.iconst 1, 1) := by decide +kernel
theorem own_d8_40 : decode prog_3_method_7_code 40 = .ok (.ior, 1) := by decide +kernel
theorem own_d8_41 : decode prog_3_method_7_code 41 = .ok (.ireturn, 1) := by decide +kernel
def Q_own_tag0 (Z : State) (r1 : Addr) (ba : Addr) (kb : ClassId) (cd : Int32) (ln : Int32) (vs : List Value) (sd : Int64) (zcs : Int32) (vsf : Value) (h0 : Heap) (n0 : Nat) (v : Option Value) (h : Heap) (L : List Loc) : Prop := v = some (.int ((((sd).toUInt64 >>> ((32 : Int32) &&& 0x3f).toInt64.toUInt64).toInt64).toInt32 ||| (1 : Int32))) ∧ Fr n0 L ∧ h = h0
theorem own_ef_own_tag0 (m : MethodId) (r1 : Addr) (sd : Int64) : entryFrame m #[(.long sd), (.ref r1)] 6 = mkF m 0 #[.val (.long sd), .second, rv r1, .unset, .unset, .unset] [] := by first | (simp [entryFrame, mkF, argsToLocals, Value.category]; done) | rfl
set_option maxRecDepth 65536 in
set_option maxHeartbeats 40000000 in
theorem own_tag0 (l : Launch) (Z : State) (a0 : Array Value) (hw : ∀ d ∈ tables_1, d.before a0 Z = true) (ws : List Jvm.Cond) (r1 : Addr) (ba : Addr) (kb : ClassId) (cd : Int32) (ln : Int32) (vs : List Value) (sd : Int64) (zcs : Int32) (vsf : Value) (h0 : Heap) (n0 : Nat) (Z0 : n0 ≤ h0.size) (O0 : Old Z n0 h0) (S_cs : Sta Z Z.heap "java/lang/String" "COMPACT_STRINGS" "Z" (.int zcs)) (hcs : ¬ zcs = (0 : Int32)) (S_ad : Sta Z Z.heap "java/lang/StringUTF16" "$assertionsDisabled" "Z" (.int (1 : Int32))) (S_hi : Sta Z Z.heap "java/lang/StringUTF16" "HI_BYTE_SHIFT" "I" (.int (0 : Int32))) (S_lo : Sta Z Z.heap "java/lang/StringUTF16" "LO_BYTE_SHIFT" "I" (.int (8 : Int32))) (S_sf : Sta Z Z.heap "jdk/internal/util/Preconditions" "SIOOBE_FORMATTER" "Ljava/util/function/BiFunction;" vsf) (r_sf : (vsf).isRef = true) (E1 : Exa Z h0 r1 "java/lang/String") (F1 : Fld Z h0 r1 "java/lang/String" "value" "[B" (.ref ba)) (F2 : Fld Z h0 r1 "java/lang/String" "coder" "B" (.int cd)) (V1 : Arv Z h0 ba kb .byte ln vs (.int (0 : Int32))) (hl : own_len (0 : Int32) (0 : Int32) cd ln) :
    own_Ctr l Z (⟨"com/example/tallysieve/tallysieve/KeyIndex", "tag", "(JLjava/lang/String;)I"⟩ : MethodName) prog_3_method_7_code 6 (some .int) ws ({ frames := 2, cells := 0, slots := 0, locals := 26 } : Room) (({ frames := 2, cells := 0, slots := 0, locals := 26 } : Room)).cells (({ frames := 2, cells := 0, slots := 0, locals := 26 } : Room)).slots #[(.long sd), (.ref r1)] h0 (Q_own_tag0 Z r1 ba kb cd ln vs sd zcs vsf h0 n0) := by
  refine own_enter (plainFor_of_name own_pn4) ?_
  intro p e s m below meth c s₁ X0 hx hZ hby hml hown hnm hlk hret e0
  have N0 := Fr.nil n0
  refine own_cast (own_ef_own_tag0 m r1 sd) ?_
  refine own_by (g' := (mkF m 8 #[.val (.long sd), .second, rv r1, .val (.long sd), .second, iv (0 : Int32)] [(.ref r1), (.int (0 : Int32))])) (fun t k => XS.lloadN X0.here hx rfl (hb hby own_d8_0) rfl (XS.lstoreN X0.here hx rfl (hb hby own_d8_1) rfl (l' := #[.val (.long sd), .second, rv r1, .val (.long sd), .second, .unset]) rfl (XS.iconst X0.here hx rfl (hb hby own_d8_2) (XS.istore X0.here hx rfl (hb hby own_d8_3) rfl (l' := #[.val (.long sd), .second, rv r1, .val (.long sd), .second, iv (0 : Int32)]) rfl (XS.iload X0.here hx rfl (hb hby own_d8_5) rfl (XS.aloadN X0.here hx rfl (hb hby own_d8_7) rfl rfl k)))))) ?_
  refine own_callV X0 hx hZ hown (hw _ (List.mem_of_getElem? (i := 43) rfl)) (hw _ (List.mem_of_getElem? (i := 44) rfl)) (notFace_of_selects (args := #[]) (mvT hZ (hw _ (List.mem_of_getElem? (i := 46) rfl)))) (hw _ (List.mem_of_getElem? (i := 46) rfl)) (hw _ (List.mem_of_getElem? (i := 45) rfl)) (hw _ (List.mem_of_getElem? (i := 47) rfl)) (hw _ (List.mem_of_getElem? (i := 7) rfl)) (by decide) (a := r1) E1 (own_slen0 l Z a0 hw [] (r1) (ba) (kb) (cd) (ln) (vs) (zcs) h0 n0 Z0 O0 S_cs (by first | assumption | decide) E1 F1 F2 V1 (by first | assumption | decide)) 1 (by decide) (by decide) (by decide) (by decide) e0 (g := (mkF m 8 #[.val (.long sd), .second, rv r1, .val (.long sd), .second, iv (0 : Int32)] [(.ref r1), (.int (0 : Int32))])) rfl (by rw [hml]; rfl) (argsL := []) (rest := [(.int (0 : Int32))]) (lenOf own_pd14 rfl) rfl (by show 2 * 0 + _ ≤ _; exact Nat.le_of_eq rfl) (hb hby own_d8_8) ?_
  intro v101 T101 L101 X101 q101
  obtain ⟨rfl, N101q, e101⟩ := q101
  have N101 := Fr.app N0 N101q
  show own_Goes p e below s _ _ _ T101 (mkF m 11 #[.val (.long sd), .second, rv r1, .val (.long sd), .second, iv (0 : Int32)] [(.int (0 : Int32)), (.int (0 : Int32))])
  refine own_by (g' := (mkF m 41 #[.val (.long sd), .second, rv r1, .val (.long sd), .second, iv (0 : Int32)] [(.int ((((sd).toUInt64 >>> ((32 : Int32) &&& 0x3f).toInt64.toUInt64).toInt64).toInt32 ||| (1 : Int32)))])) (fun t k => XS.icmpYes X101.here hx rfl (pc0 := 11) (pc' := 34) rfl (hb hby own_d8_11) rfl (flt (by decide : ¬ ((0 : Int32) < (0 : Int32)))).2.1 (by decide) (by decide) (XS.lloadN X101.here hx rfl (hb hby own_d8_34) rfl (XS.bipush X101.here hx rfl (hb hby own_d8_35) (XS.lushr X101.here hx rfl (hb hby own_d8_37) rfl (XS.l2i X101.here hx rfl (hb hby own_d8_38) rfl (XS.iconst X101.here hx rfl (hb hby own_d8_39) (XS.ior X101.here hx rfl (hb hby own_d8_40) rfl k))))))) ?_
  refine own_retI X101 hx hlk hret (hb hby own_d8_41) (by decide) (by decide) ?_
  exact ⟨rfl, N101, e101⟩
theorem own_d8_14 : decode prog_3_method_7_code 14 = .ok (.lload_n 3, 1) := by decide +kernel
theorem own_d8_15 : decode prog_3_method_7_code 15 = .ok (.aload_n 2, 1) := by decide +kernel
theorem own_d8_16 : decode prog_3_method_7_code 16 = .ok (.iload 5, 2) := by decide +kernel
theorem own_d8_18 : decode prog_3_method_7_code 18 = .ok (.invokevirtual 94, 3) := by decide +kernel
theorem own_pd15 : parseMethodDescriptor "(I)C" = some ⟨[.int], some .char⟩ := by decide +kernel
theorem own_d8_21 : decode prog_3_method_7_code 21 = .ok (.i2l, 1) := by decide +kernel
theorem own_d8_22 : decode prog_3_method_7_code 22 = .ok (.lxor, 1) := by decide +kernel
theorem own_d8_23 : decode prog_3_method_7_code 23 = .ok (.ldc2_w 98, 3) := by decide +kernel
theorem own_d8_26 : decode prog_3_method_7_code 26 = .ok (.lmul, 1) := by decide +kernel
theorem own_d8_27 : decode prog_3_method_7_code 27 = .ok (.lstore_n 3, 1) := by decide +kernel
theorem own_d8_28 : decode prog_3_method_7_code 28 = .ok (.iinc 5 1, 3) := by decide +kernel
theorem own_d8_31 : decode prog_3_method_7_code 31 = .ok (.goto (-26), 3) := by decide +kernel
def Q_own_tag1 (Z : State) (r1 : Addr) (ba : Addr) (kb : ClassId) (cd : Int32) (ln : Int32) (vs : List Value) (sd : Int64) (x0 : Int32) (zcs : Int32) (vsf : Value) (h0 : Heap) (n0 : Nat) (v : Option Value) (h : Heap) (L : List Loc) : Prop := v = some (.int ((((((sd ^^^ (x0).toInt64) * (-7046029254386353131 : Int64))).toUInt64 >>> ((32 : Int32) &&& 0x3f).toInt64.toUInt64).toInt64).toInt32 ||| (1 : Int32))) ∧ Fr n0 L ∧ h = h0
theorem own_ef_own_tag1 (m : MethodId) (r1 : Addr) (sd : Int64) : entryFrame m #[(.long sd), (.ref r1)] 6 = mkF m 0 #[.val (.long sd), .second, rv r1, .unset, .unset, .unset] [] := by first | (simp [entryFrame, mkF, argsToLocals, Value.category]; done) | rfl
set_option maxRecDepth 65536 in
set_option maxHeartbeats 40000000 in
theorem own_tag1 (l : Launch) (Z : State) (a0 : Array Value) (hw : ∀ d ∈ tables_1, d.before a0 Z = true) (ws : List Jvm.Cond) (r1 : Addr) (ba : Addr) (kb : ClassId) (cd : Int32) (ln : Int32) (vs : List Value) (sd : Int64) (x0 : Int32) (zcs : Int32) (vsf : Value) (h0 : Heap) (n0 : Nat) (Z0 : n0 ≤ h0.size) (O0 : Old Z n0 h0) (S_cs : Sta Z Z.heap "java/lang/String" "COMPACT_STRINGS" "Z" (.int zcs)) (hcs : ¬ zcs = (0 : Int32)) (S_ad : Sta Z Z.heap "java/lang/StringUTF16" "$assertionsDisabled" "Z" (.int (1 : Int32))) (S_hi : Sta Z Z.heap "java/lang/StringUTF16" "HI_BYTE_SHIFT" "I" (.int (0 : Int32))) (S_lo : Sta Z Z.heap "java/lang/StringUTF16" "LO_BYTE_SHIFT" "I" (.int (8 : Int32))) (S_sf : Sta Z Z.heap "jdk/internal/util/Preconditions" "SIOOBE_FORMATTER" "Ljava/util/function/BiFunction;" vsf) (r_sf : (vsf).isRef = true) (E1 : Exa Z h0 r1 "java/lang/String") (F1 : Fld Z h0 r1 "java/lang/String" "value" "[B" (.ref ba)) (F2 : Fld Z h0 r1 "java/lang/String" "coder" "B" (.int cd)) (V1 : Arv Z h0 ba kb .byte ln vs (.int (0 : Int32))) (hl : own_len (1 : Int32) (2 : Int32) cd ln) (hk0 : own_ch x0) (ha0 : own_cA0 x0 cd ln vs) :
    own_Ctr l Z (⟨"com/example/tallysieve/tallysieve/KeyIndex", "tag", "(JLjava/lang/String;)I"⟩ : MethodName) prog_3_method_7_code 6 (some .int) ws ({ frames := 5, cells := 0, slots := 0, locals := 68 } : Room) (({ frames := 5, cells := 0, slots := 0, locals := 68 } : Room)).cells (({ frames := 5, cells := 0, slots := 0, locals := 68 } : Room)).slots #[(.long sd), (.ref r1)] h0 (Q_own_tag1 Z r1 ba kb cd ln vs sd x0 zcs vsf h0 n0) := by
  refine own_enter (plainFor_of_name own_pn4) ?_
  intro p e s m below meth c s₁ X0 hx hZ hby hml hown hnm hlk hret e0
  have N0 := Fr.nil n0
  refine own_cast (own_ef_own_tag1 m r1 sd) ?_
  refine own_by (g' := (mkF m 8 #[.val (.long sd), .second, rv r1, .val (.long sd), .second, iv (0 : Int32)] [(.ref r1), (.int (0 : Int32))])) (fun t k => XS.lloadN X0.here hx rfl (hb hby own_d8_0) rfl (XS.lstoreN X0.here hx rfl (hb hby own_d8_1) rfl (l' := #[.val (.long sd), .second, rv r1, .val (.long sd), .second, .unset]) rfl (XS.iconst X0.here hx rfl (hb hby own_d8_2) (XS.istore X0.here hx rfl (hb hby own_d8_3) rfl (l' := #[.val (.long sd), .second, rv r1, .val (.long sd), .second, iv (0 : Int32)]) rfl (XS.iload X0.here hx rfl (hb hby own_d8_5) rfl (XS.aloadN X0.here hx rfl (hb hby own_d8_7) rfl rfl k)))))) ?_
  refine own_callV X0 hx hZ hown (hw _ (List.mem_of_getElem? (i := 43) rfl)) (hw _ (List.mem_of_getElem? (i := 44) rfl)) (notFace_of_selects (args := #[]) (mvT hZ (hw _ (List.mem_of_getElem? (i := 46) rfl)))) (hw _ (List.mem_of_getElem? (i := 46) rfl)) (hw _ (List.mem_of_getElem? (i := 45) rfl)) (hw _ (List.mem_of_getElem? (i := 47) rfl)) (hw _ (List.mem_of_getElem? (i := 7) rfl)) (by decide) (a := r1) E1 (own_slen1 l Z a0 hw [] (r1) (ba) (kb) (cd) (ln) (vs) (zcs) h0 n0 Z0 O0 S_cs (by first | assumption | decide) E1 F1 F2 V1 (by first | assumption | decide)) 1 (by decide) (by decide) (by decide) (by decide) e0 (g := (mkF m 8 #[.val (.long sd), .second, rv r1, .val (.long sd), .second, iv (0 : Int32)] [(.ref r1), (.int (0 : Int32))])) rfl (by rw [hml]; rfl) (argsL := []) (rest := [(.int (0 : Int32))]) (lenOf own_pd14 rfl) rfl (by show 2 * 0 + _ ≤ _; exact Nat.le_of_eq rfl) (hb hby own_d8_8) ?_
  intro v101 T101 L101 X101 q101
  obtain ⟨rfl, N101q, e101⟩ := q101
  have N101 := Fr.app N0 N101q
  show own_Goes p e below s _ _ _ T101 (mkF m 11 #[.val (.long sd), .second, rv r1, .val (.long sd), .second, iv (0 : Int32)] [(.int (1 : Int32)), (.int (0 : Int32))])
  refine own_by (g' := (mkF m 18 #[.val (.long sd), .second, rv r1, .val (.long sd), .second, iv (0 : Int32)] [(.int (0 : Int32)), (.ref r1), (.long sd)])) (fun t k => XS.icmpNo X101.here hx rfl (hb hby own_d8_11) rfl (tlt (by decide : (0 : Int32) < (1 : Int32))).2.1 (XS.lloadN X101.here hx rfl (hb hby own_d8_14) rfl (XS.aloadN X101.here hx rfl (hb hby own_d8_15) rfl rfl (XS.iload X101.here hx rfl (hb hby own_d8_16) rfl k)))) ?_
  refine own_callV X101 hx hZ hown (hw _ (List.mem_of_getElem? (i := 53) rfl)) (hw _ (List.mem_of_getElem? (i := 54) rfl)) (notFace_of_selects (args := #[]) (mvT hZ (hw _ (List.mem_of_getElem? (i := 56) rfl)))) (hw _ (List.mem_of_getElem? (i := 56) rfl)) (hw _ (List.mem_of_getElem? (i := 55) rfl)) (hw _ (List.mem_of_getElem? (i := 57) rfl)) (hw _ (List.mem_of_getElem? (i := 7) rfl)) (by decide) (a := r1) E1 (own_schar0 l Z a0 hw [] (r1) (ba) (kb) (cd) (ln) (vs) (x0) (zcs) (vsf) h0 n0 Z0 O0 S_cs (by first | assumption | decide) S_ad S_hi S_lo S_sf r_sf E1 F1 F2 V1 (by first | assumption | decide) (by first | assumption | decide)) 2 (by decide) (by decide) (by decide) (by decide) e101 (g := (mkF m 18 #[.val (.long sd), .second, rv r1, .val (.long sd), .second, iv (0 : Int32)] [(.int (0 : Int32)), (.ref r1), (.long sd)])) rfl (by rw [hml]; rfl) (argsL := [(.int (0 : Int32))]) (rest := [(.long sd)]) (lenOf own_pd15 rfl) rfl (by show 2 * 0 + _ ≤ _; exact Nat.le_of_eq rfl) (hb hby own_d8_18) ?_
  intro v102 T102 L102 X102 q102
  obtain ⟨rfl, N102q, e102⟩ := q102
  have N102 := Fr.app N101 N102q
  show own_Goes p e below s _ _ _ T102 (mkF m 21 #[.val (.long sd), .second, rv r1, .val (.long sd), .second, iv (0 : Int32)] [(.int x0), (.long sd)])
  refine own_by (g' := (mkF m 7 #[.val (.long sd), .second, rv r1, .val (.long ((sd ^^^ (x0).toInt64) * (-7046029254386353131 : Int64))), .second, iv (1 : Int32)] [(.int (1 : Int32))])) (fun t k => XS.i2l X102.here hx rfl (hb hby own_d8_21) rfl (XS.lxor X102.here hx rfl (hb hby own_d8_22) rfl (X102.ldc2Long hx hown (mvT hZ (hw _ (List.mem_of_getElem? (i := 75) rfl))) (g := (mkF m 23 #[.val (.long sd), .second, rv r1, .val (.long sd), .second, iv (0 : Int32)] [(.long (sd ^^^ (x0).toInt64))])) rfl (hb hby own_d8_23) t (XS.lmul X102.here hx rfl (hb hby own_d8_26) rfl (XS.lstoreN X102.here hx rfl (hb hby own_d8_27) rfl (l' := #[.val (.long sd), .second, rv r1, .val (.long ((sd ^^^ (x0).toInt64) * (-7046029254386353131 : Int64))), .second, iv (0 : Int32)]) rfl (XS.iinc X102.here hx rfl (hb hby own_d8_28) rfl (l' := #[.val (.long sd), .second, rv r1, .val (.long ((sd ^^^ (x0).toInt64) * (-7046029254386353131 : Int64))), .second, iv (1 : Int32)]) rfl (XS.goto X102.here hx rfl (pc0 := 31) (pc' := 5) rfl (hb hby own_d8_31) (by decide) (by decide) (XS.iload X102.here hx rfl (hb hby own_d8_5) rfl k)))))))) ?_
  refine own_by (g' := (mkF m 8 #[.val (.long sd), .second, rv r1, .val (.long ((sd ^^^ (x0).toInt64) * (-7046029254386353131 : Int64))), .second, iv (1 : Int32)] [(.ref r1), (.int (1 : Int32))])) (fun t k => XS.aloadN X102.here hx rfl (hb hby own_d8_7) rfl rfl k) ?_
  refine own_callV X102 hx hZ hown (hw _ (List.mem_of_getElem? (i := 43) rfl)) (hw _ (List.mem_of_getElem? (i := 44) rfl)) (notFace_of_selects (args := #[]) (mvT hZ (hw _ (List.mem_of_getElem? (i := 46) rfl)))) (hw _ (List.mem_of_getElem? (i := 46) rfl)) (hw _ (List.mem_of_getElem? (i := 45) rfl)) (hw _ (List.mem_of_getElem? (i := 47) rfl)) (hw _ (List.mem_of_getElem? (i := 7) rfl)) (by decide) (a := r1) E1 (own_slen1 l Z a0 hw [] (r1) (ba) (kb) (cd) (ln) (vs) (zcs) h0 n0 Z0 O0 S_cs (by first | assumption | decide) E1 F1 F2 V1 (by first | assumption | decide)) 1 (by decide) (by decide) (by decide) (by decide) e102 (g := (mkF m 8 #[.val (.long sd), .second, rv r1, .val (.long ((sd ^^^ (x0).toInt64) * (-7046029254386353131 : Int64))), .second, iv (1 : Int32)] [(.ref r1), (.int (1 : Int32))])) rfl (by rw [hml]; rfl) (argsL := []) (rest := [(.int (1 : Int32))]) (lenOf own_pd14 rfl) rfl (by show 2 * 0 + _ ≤ _; exact Nat.le_of_eq rfl) (hb hby own_d8_8) ?_
  intro v103 T103 L103 X103 q103
  obtain ⟨rfl, N103q, e103⟩ := q103
  have N103 := Fr.app N102 N103q
  show own_Goes p e below s _ _ _ T103 (mkF m 11 #[.val (.long sd), .second, rv r1, .val (.long ((sd ^^^ (x0).toInt64) * (-7046029254386353131 : Int64))), .second, iv (1 : Int32)] [(.int (1 : Int32)), (.int (1 : Int32))])
  refine own_by (g' := (mkF m 41 #[.val (.long sd), .second, rv r1, .val (.long ((sd ^^^ (x0).toInt64) * (-7046029254386353131 : Int64))), .second, iv (1 : Int32)] [(.int ((((((sd ^^^ (x0).toInt64) * (-7046029254386353131 : Int64))).toUInt64 >>> ((32 : Int32) &&& 0x3f).toInt64.toUInt64).toInt64).toInt32 ||| (1 : Int32)))])) (fun t k => XS.icmpYes X103.here hx rfl (pc0 := 11) (pc' := 34) rfl (hb hby own_d8_11) rfl (flt (by decide : ¬ ((1 : Int32) < (1 : Int32)))).2.1 (by decide) (by decide) (XS.lloadN X103.here hx rfl (hb hby own_d8_34) rfl (XS.bipush X103.here hx rfl (hb hby own_d8_35) (XS.lushr X103.here hx rfl (hb hby own_d8_37) rfl (XS.l2i X103.here hx rfl (hb hby own_d8_38) rfl (XS.iconst X103.here hx rfl (hb hby own_d8_39) (XS.ior X103.here hx rfl (hb hby own_d8_40) rfl k))))))) ?_
  refine own_retI X103 hx hlk hret (hb hby own_d8_41) (by decide) (by decide) ?_
  exact ⟨rfl, N103, e103⟩
def Q_own_tag2 (Z : State) (r1 : Addr) (ba : Addr) (kb : ClassId) (cd : Int32) (ln : Int32) (vs : List Value) (sd : Int64) (x0 : Int32) (x1 : Int32) (zcs : Int32) (vsf : Value) (h0 : Heap) (n0 : Nat) (v : Option Value) (h : Heap) (L : List Loc) : Prop := v = some (.int ((((((((sd ^^^ (x0).toInt64) * (-7046029254386353131 : Int64)) ^^^ (x1).toInt64) * (-7046029254386353131 : Int64))).toUInt64 >>> ((32 : Int32) &&& 0x3f).toInt64.toUInt64).toInt64).toInt32 ||| (1 : Int32))) ∧ Fr n0 L ∧ h = h0
theorem own_ef_own_tag2 (m : MethodId) (r1 : Addr) (sd : Int64) : entryFrame m #[(.long sd), (.ref r1)] 6 = mkF m 0 #[.val (.long sd), .second, rv r1, .unset, .unset, .unset] [] := by first | (simp [entryFrame, mkF, argsToLocals, Value.category]; done) | rfl
set_option maxRecDepth 65536 in
set_option maxHeartbeats 40000000 in
theorem own_tag2 (l : Launch) (Z : State) (a0 : Array Value) (hw : ∀ d ∈ tables_1, d.before a0 Z = true) (ws : List Jvm.Cond) (r1 : Addr) (ba : Addr) (kb : ClassId) (cd : Int32) (ln : Int32) (vs : List Value) (sd : Int64) (x0 : Int32) (x1 : Int32) (zcs : Int32) (vsf : Value) (h0 : Heap) (n0 : Nat) (Z0 : n0 ≤ h0.size) (O0 : Old Z n0 h0) (S_cs : Sta Z Z.heap "java/lang/String" "COMPACT_STRINGS" "Z" (.int zcs)) (hcs : ¬ zcs = (0 : Int32)) (S_ad : Sta Z Z.heap "java/lang/StringUTF16" "$assertionsDisabled" "Z" (.int (1 : Int32))) (S_hi : Sta Z Z.heap "java/lang/StringUTF16" "HI_BYTE_SHIFT" "I" (.int (0 : Int32))) (S_lo : Sta Z Z.heap "java/lang/StringUTF16" "LO_BYTE_SHIFT" "I" (.int (8 : Int32))) (S_sf : Sta Z Z.heap "jdk/internal/util/Preconditions" "SIOOBE_FORMATTER" "Ljava/util/function/BiFunction;" vsf) (r_sf : (vsf).isRef = true) (E1 : Exa Z h0 r1 "java/lang/String") (F1 : Fld Z h0 r1 "java/lang/String" "value" "[B" (.ref ba)) (F2 : Fld Z h0 r1 "java/lang/String" "coder" "B" (.int cd)) (V1 : Arv Z h0 ba kb .byte ln vs (.int (0 : Int32))) (hl : own_len (2 : Int32) (4 : Int32) cd ln) (hk0 : own_ch x0) (hk1 : own_ch x1) (ha0 : own_cA0 x0 cd ln vs) (ha1 : own_cA1 x1 cd ln vs) :
    own_Ctr l Z (⟨"com/example/tallysieve/tallysieve/KeyIndex", "tag", "(JLjava/lang/String;)I"⟩ : MethodName) prog_3_method_7_code 6 (some .int) ws ({ frames := 5, cells := 0, slots := 0, locals := 68 } : Room) (({ frames := 5, cells := 0, slots := 0, locals := 68 } : Room)).cells (({ frames := 5, cells := 0, slots := 0, locals := 68 } : Room)).slots #[(.long sd), (.ref r1)] h0 (Q_own_tag2 Z r1 ba kb cd ln vs sd x0 x1 zcs vsf h0 n0) := by
  refine own_enter (plainFor_of_name own_pn4) ?_
  intro p e s m below meth c s₁ X0 hx hZ hby hml hown hnm hlk hret e0
  have N0 := Fr.nil n0
  refine own_cast (own_ef_own_tag2 m r1 sd) ?_
  refine own_by (g' := (mkF m 8 #[.val (.long sd), .second, rv r1, .val (.long sd), .second, iv (0 : Int32)] [(.ref r1), (.int (0 : Int32))])) (fun t k => XS.lloadN X0.here hx rfl (hb hby own_d8_0) rfl (XS.lstoreN X0.here hx rfl (hb hby own_d8_1) rfl (l' := #[.val (.long sd), .second, rv r1, .val (.long sd), .second, .unset]) rfl (XS.iconst X0.here hx rfl (hb hby own_d8_2) (XS.istore X0.here hx rfl (hb hby own_d8_3) rfl (l' := #[.val (.long sd), .second, rv r1, .val (.long sd), .second, iv (0 : Int32)]) rfl (XS.iload X0.here hx rfl (hb hby own_d8_5) rfl (XS.aloadN X0.here hx rfl (hb hby own_d8_7) rfl rfl k)))))) ?_
  refine own_callV X0 hx hZ hown (hw _ (List.mem_of_getElem? (i := 43) rfl)) (hw _ (List.mem_of_getElem? (i := 44) rfl)) (notFace_of_selects (args := #[]) (mvT hZ (hw _ (List.mem_of_getElem? (i := 46) rfl)))) (hw _ (List.mem_of_getElem? (i := 46) rfl)) (hw _ (List.mem_of_getElem? (i := 45) rfl)) (hw _ (List.mem_of_getElem? (i := 47) rfl)) (hw _ (List.mem_of_getElem? (i := 7) rfl)) (by decide) (a := r1) E1 (own_slen2 l Z a0 hw [] (r1) (ba) (kb) (cd) (ln) (vs) (zcs) h0 n0 Z0 O0 S_cs (by first | assumption | decide) E1 F1 F2 V1 (by first | assumption | decide)) 1 (by decide) (by decide) (by decide) (by decide) e0 (g := (mkF m 8 #[.val (.long sd), .second, rv r1, .val (.long sd), .second, iv (0 : Int32)] [(.ref r1), (.int (0 : Int32))])) rfl (by rw [hml]; rfl) (argsL := []) (rest := [(.int (0 : Int32))]) (lenOf own_pd14 rfl) rfl (by show 2 * 0 + _ ≤ _; exact Nat.le_of_eq rfl) (hb hby own_d8_8) ?_
  intro v101 T101 L101 X101 q101
  obtain ⟨rfl, N101q, e101⟩ := q101
  have N101 := Fr.app N0 N101q
  show own_Goes p e below s _ _ _ T101 (mkF m 11 #[.val (.long sd), .second, rv r1, .val (.long sd), .second, iv (0 : Int32)] [(.int (2 : Int32)), (.int (0 : Int32))])
  refine own_by (g' := (mkF m 18 #[.val (.long sd), .second, rv r1, .val (.long sd), .second, iv (0 : Int32)] [(.int (0 : Int32)), (.ref r1), (.long sd)])) (fun t k => XS.icmpNo X101.here hx rfl (hb hby own_d8_11) rfl (tlt (by decide : (0 : Int32) < (2 : Int32))).2.1 (XS.lloadN X101.here hx rfl (hb hby own_d8_14) rfl (XS.aloadN X101.here hx rfl (hb hby own_d8_15) rfl rfl (XS.iload X101.here hx rfl (hb hby own_d8_16) rfl k)))) ?_
  refine own_callV X101 hx hZ hown (hw _ (List.mem_of_getElem? (i := 53) rfl)) (hw _ (List.mem_of_getElem? (i := 54) rfl)) (notFace_of_selects (args := #[]) (mvT hZ (hw _ (List.mem_of_getElem? (i := 56) rfl)))) (hw _ (List.mem_of_getElem? (i := 56) rfl)) (hw _ (List.mem_of_getElem? (i := 55) rfl)) (hw _ (List.mem_of_getElem? (i := 57) rfl)) (hw _ (List.mem_of_getElem? (i := 7) rfl)) (by decide) (a := r1) E1 (own_schar0 l Z a0 hw [] (r1) (ba) (kb) (cd) (ln) (vs) (x0) (zcs) (vsf) h0 n0 Z0 O0 S_cs (by first | assumption | decide) S_ad S_hi S_lo S_sf r_sf E1 F1 F2 V1 (by first | assumption | decide) (by first | assumption | decide)) 2 (by decide) (by decide) (by decide) (by decide) e101 (g := (mkF m 18 #[.val (.long sd), .second, rv r1, .val (.long sd), .second, iv (0 : Int32)] [(.int (0 : Int32)), (.ref r1), (.long sd)])) rfl (by rw [hml]; rfl) (argsL := [(.int (0 : Int32))]) (rest := [(.long sd)]) (lenOf own_pd15 rfl) rfl (by show 2 * 0 + _ ≤ _; exact Nat.le_of_eq rfl) (hb hby own_d8_18) ?_
  intro v102 T102 L102 X102 q102
  obtain ⟨rfl, N102q, e102⟩ := q102
  have N102 := Fr.app N101 N102q
  show own_Goes p e below s _ _ _ T102 (mkF m 21 #[.val (.long sd), .second, rv r1, .val (.long sd), .second, iv (0 : Int32)] [(.int x0), (.long sd)])
  refine own_by (g' := (mkF m 7 #[.val (.long sd), .second, rv r1, .val (.long ((sd ^^^ (x0).toInt64) * (-7046029254386353131 : Int64))), .second, iv (1 : Int32)] [(.int (1 : Int32))])) (fun t k => XS.i2l X102.here hx rfl (hb hby own_d8_21) rfl (XS.lxor X102.here hx rfl (hb hby own_d8_22) rfl (X102.ldc2Long hx hown (mvT hZ (hw _ (List.mem_of_getElem? (i := 75) rfl))) (g := (mkF m 23 #[.val (.long sd), .second, rv r1, .val (.long sd), .second, iv (0 : Int32)] [(.long (sd ^^^ (x0).toInt64))])) rfl (hb hby own_d8_23) t (XS.lmul X102.here hx rfl (hb hby own_d8_26) rfl (XS.lstoreN X102.here hx rfl (hb hby own_d8_27) rfl (l' := #[.val (.long sd), .second, rv r1, .val (.long ((sd ^^^ (x0).toInt64) * (-7046029254386353131 : Int64))), .second, iv (0 : Int32)]) rfl (XS.iinc X102.here hx rfl (hb hby own_d8_28) rfl (l' := #[.val (.long sd), .second, rv r1, .val (.long ((sd ^^^ (x0).toInt64) * (-7046029254386353131 : Int64))), .second, iv (1 : Int32)]) rfl (XS.goto X102.here hx rfl (pc0 := 31) (pc' := 5) rfl (hb hby own_d8_31) (by decide) (by decide) (XS.iload X102.here hx rfl (hb hby own_d8_5) rfl k)))))))) ?_
  refine own_by (g' := (mkF m 8 #[.val (.long sd), .second, rv r1, .val (.long ((sd ^^^ (x0).toInt64) * (-7046029254386353131 : Int64))), .second, iv (1 : Int32)] [(.ref r1), (.int (1 : Int32))])) (fun t k => XS.aloadN X102.here hx rfl (hb hby own_d8_7) rfl rfl k) ?_
  refine own_callV X102 hx hZ hown (hw _ (List.mem_of_getElem? (i := 43) rfl)) (hw _ (List.mem_of_getElem? (i := 44) rfl)) (notFace_of_selects (args := #[]) (mvT hZ (hw _ (List.mem_of_getElem? (i := 46) rfl)))) (hw _ (List.mem_of_getElem? (i := 46) rfl)) (hw _ (List.mem_of_getElem? (i := 45) rfl)) (hw _ (List.mem_of_getElem? (i := 47) rfl)) (hw _ (List.mem_of_getElem? (i := 7) rfl)) (by decide) (a := r1) E1 (own_slen2 l Z a0 hw [] (r1) (ba) (kb) (cd) (ln) (vs) (zcs) h0 n0 Z0 O0 S_cs (by first | assumption | decide) E1 F1 F2 V1 (by first | assumption | decide)) 1 (by decide) (by decide) (by decide) (by decide) e102 (g := (mkF m 8 #[.val (.long sd), .second, rv r1, .val (.long ((sd ^^^ (x0).toInt64) * (-7046029254386353131 : Int64))), .second, iv (1 : Int32)] [(.ref r1), (.int (1 : Int32))])) rfl (by rw [hml]; rfl) (argsL := []) (rest := [(.int (1 : Int32))]) (lenOf own_pd14 rfl) rfl (by show 2 * 0 + _ ≤ _; exact Nat.le_of_eq rfl) (hb hby own_d8_8) ?_
  intro v103 T103 L103 X103 q103
  obtain ⟨rfl, N103q, e103⟩ := q103
  have N103 := Fr.app N102 N103q
  show own_Goes p e below s _ _ _ T103 (mkF m 11 #[.val (.long sd), .second, rv r1, .val (.long ((sd ^^^ (x0).toInt64) * (-7046029254386353131 : Int64))), .second, iv (1 : Int32)] [(.int (2 : Int32)), (.int (1 : Int32))])
  refine own_by (g' := (mkF m 18 #[.val (.long sd), .second, rv r1, .val (.long ((sd ^^^ (x0).toInt64) * (-7046029254386353131 : Int64))), .second, iv (1 : Int32)] [(.int (1 : Int32)), (.ref r1), (.long ((sd ^^^ (x0).toInt64) * (-7046029254386353131 : Int64)))])) (fun t k => XS.icmpNo X103.here hx rfl (hb hby own_d8_11) rfl (tlt (by decide : (1 : Int32) < (2 : Int32))).2.1 (XS.lloadN X103.here hx rfl (hb hby own_d8_14) rfl (XS.aloadN X103.here hx rfl (hb hby own_d8_15) rfl rfl (XS.iload X103.here hx rfl (hb hby own_d8_16) rfl k)))) ?_
  refine own_callV X103 hx hZ hown (hw _ (List.mem_of_getElem? (i := 53) rfl)) (hw _ (List.mem_of_getElem? (i := 54) rfl)) (notFace_of_selects (args := #[]) (mvT hZ (hw _ (List.mem_of_getElem? (i := 56) rfl)))) (hw _ (List.mem_of_getElem? (i := 56) rfl)) (hw _ (List.mem_of_getElem? (i := 55) rfl)) (hw _ (List.mem_of_getElem? (i := 57) rfl)) (hw _ (List.mem_of_getElem? (i := 7) rfl)) (by decide) (a := r1) E1 (own_schar1 l Z a0 hw [] (r1) (ba) (kb) (cd) (ln) (vs) (x1) (zcs) (vsf) h0 n0 Z0 O0 S_cs (by first | assumption | decide) S_ad S_hi S_lo S_sf r_sf E1 F1 F2 V1 (by first | assumption | decide) (by first | assumption | decide)) 2 (by decide) (by decide) (by decide) (by decide) e103 (g := (mkF m 18 #[.val (.long sd), .second, rv r1, .val (.long ((sd ^^^ (x0).toInt64) * (-7046029254386353131 : Int64))), .second, iv (1 : Int32)] [(.int (1 : Int32)), (.ref r1), (.long ((sd ^^^ (x0).toInt64) * (-7046029254386353131 : Int64)))])) rfl (by rw [hml]; rfl) (argsL := [(.int (1 : Int32))]) (rest := [(.long ((sd ^^^ (x0).toInt64) * (-7046029254386353131 : Int64)))]) (lenOf own_pd15 rfl) rfl (by show 2 * 0 + _ ≤ _; exact Nat.le_of_eq rfl) (hb hby own_d8_18) ?_
  intro v104 T104 L104 X104 q104
  obtain ⟨rfl, N104q, e104⟩ := q104
  have N104 := Fr.app N103 N104q
  show own_Goes p e below s _ _ _ T104 (mkF m 21 #[.val (.long sd), .second, rv r1, .val (.long ((sd ^^^ (x0).toInt64) * (-7046029254386353131 : Int64))), .second, iv (1 : Int32)] [(.int x1), (.long ((sd ^^^ (x0).toInt64) * (-7046029254386353131 : Int64)))])
  refine own_by (g' := (mkF m 7 #[.val (.long sd), .second, rv r1, .val (.long ((((sd ^^^ (x0).toInt64) * (-7046029254386353131 : Int64)) ^^^ (x1).toInt64) * (-7046029254386353131 : Int64))), .second, iv (2 : Int32)] [(.int (2 : Int32))])) (fun t k => XS.i2l X104.here hx rfl (hb hby own_d8_21) rfl (XS.lxor X104.here hx rfl (hb hby own_d8_22) rfl (X104.ldc2Long hx hown (mvT hZ (hw _ (List.mem_of_getElem? (i := 75) rfl))) (g := (mkF m 23 #[.val (.long sd), .second, rv r1, .val (.long ((sd ^^^ (x0).toInt64) * (-7046029254386353131 : Int64))), .second, iv (1 : Int32)] [(.long (((sd ^^^ (x0).toInt64) * (-7046029254386353131 : Int64)) ^^^ (x1).toInt64))])) rfl (hb hby own_d8_23) t (XS.lmul X104.here hx rfl (hb hby own_d8_26) rfl (XS.lstoreN X104.here hx rfl (hb hby own_d8_27) rfl (l' := #[.val (.long sd), .second, rv r1, .val (.long ((((sd ^^^ (x0).toInt64) * (-7046029254386353131 : Int64)) ^^^ (x1).toInt64) * (-7046029254386353131 : Int64))), .second, iv (1 : Int32)]) rfl (XS.iinc X104.here hx rfl (hb hby own_d8_28) rfl (l' := #[.val (.long sd), .second, rv r1, .val (.long ((((sd ^^^ (x0).toInt64) * (-7046029254386353131 : Int64)) ^^^ (x1).toInt64) * (-7046029254386353131 : Int64))), .second, iv (2 : Int32)]) rfl (XS.goto X104.here hx rfl (pc0 := 31) (pc' := 5) rfl (hb hby own_d8_31) (by decide) (by decide) (XS.iload X104.here hx rfl (hb hby own_d8_5) rfl k)))))))) ?_
  refine own_by (g' := (mkF m 8 #[.val (.long sd), .second, rv r1, .val (.long ((((sd ^^^ (x0).toInt64) * (-7046029254386353131 : Int64)) ^^^ (x1).toInt64) * (-7046029254386353131 : Int64))), .second, iv (2 : Int32)] [(.ref r1), (.int (2 : Int32))])) (fun t k => XS.aloadN X104.here hx rfl (hb hby own_d8_7) rfl rfl k) ?_
  refine own_callV X104 hx hZ hown (hw _ (List.mem_of_getElem? (i := 43) rfl)) (hw _ (List.mem_of_getElem? (i := 44) rfl)) (notFace_of_selects (args := #[]) (mvT hZ (hw _ (List.mem_of_getElem? (i := 46) rfl)))) (hw _ (List.mem_of_getElem? (i := 46) rfl)) (hw _ (List.mem_of_getElem? (i := 45) rfl)) (hw _ (List.mem_of_getElem? (i := 47) rfl)) (hw _ (List.mem_of_getElem? (i := 7) rfl)) (by decide) (a := r1) E1 (own_slen2 l Z a0 hw [] (r1) (ba) (kb) (cd) (ln) (vs) (zcs) h0 n0 Z0 O0 S_cs (by first | assumption | decide) E1 F1 F2 V1 (by first | assumption | decide)) 1 (by decide) (by decide) (by decide) (by decide) e104 (g := (mkF m 8 #[.val (.long sd), .second, rv r1, .val (.long ((((sd ^^^ (x0).toInt64) * (-7046029254386353131 : Int64)) ^^^ (x1).toInt64) * (-7046029254386353131 : Int64))), .second, iv (2 : Int32)] [(.ref r1), (.int (2 : Int32))])) rfl (by rw [hml]; rfl) (argsL := []) (rest := [(.int (2 : Int32))]) (lenOf own_pd14 rfl) rfl (by show 2 * 0 + _ ≤ _; exact Nat.le_of_eq rfl) (hb hby own_d8_8) ?_
  intro v105 T105 L105 X105 q105
  obtain ⟨rfl, N105q, e105⟩ := q105
  have N105 := Fr.app N104 N105q
  show own_Goes p e below s _ _ _ T105 (mkF m 11 #[.val (.long sd), .second, rv r1, .val (.long ((((sd ^^^ (x0).toInt64) * (-7046029254386353131 : Int64)) ^^^ (x1).toInt64) * (-7046029254386353131 : Int64))), .second, iv (2 : Int32)] [(.int (2 : Int32)), (.int (2 : Int32))])
  refine own_by (g' := (mkF m 41 #[.val (.long sd), .second, rv r1, .val (.long ((((sd ^^^ (x0).toInt64) * (-7046029254386353131 : Int64)) ^^^ (x1).toInt64) * (-7046029254386353131 : Int64))), .second, iv (2 : Int32)] [(.int ((((((((sd ^^^ (x0).toInt64) * (-7046029254386353131 : Int64)) ^^^ (x1).toInt64) * (-7046029254386353131 : Int64))).toUInt64 >>> ((32 : Int32) &&& 0x3f).toInt64.toUInt64).toInt64).toInt32 ||| (1 : Int32)))])) (fun t k => XS.icmpYes X105.here hx rfl (pc0 := 11) (pc' := 34) rfl (hb hby own_d8_11) rfl (flt (by decide : ¬ ((2 : Int32) < (2 : Int32)))).2.1 (by decide) (by decide) (XS.lloadN X105.here hx rfl (hb hby own_d8_34) rfl (XS.bipush X105.here hx rfl (hb hby own_d8_35) (XS.lushr X105.here hx rfl (hb hby own_d8_37) rfl (XS.l2i X105.here hx rfl (hb hby own_d8_38) rfl (XS.iconst X105.here hx rfl (hb hby own_d8_39) (XS.ior X105.here hx rfl (hb hby own_d8_40) rfl k))))))) ?_
  refine own_retI X105 hx hlk hret (hb hby own_d8_41) (by decide) (by decide) ?_
  exact ⟨rfl, N105, e105⟩
def Q_own_tag3 (Z : State) (r1 : Addr) (ba : Addr) (kb : ClassId) (cd : Int32) (ln : Int32) (vs : List Value) (sd : Int64) (x0 : Int32) (x1 : Int32) (x2 : Int32) (zcs : Int32) (vsf : Value) (h0 : Heap) (n0 : Nat) (v : Option Value) (h : Heap) (L : List Loc) : Prop := v = some (.int ((((((((((sd ^^^ (x0).toInt64) * (-7046029254386353131 : Int64)) ^^^ (x1).toInt64) * (-7046029254386353131 : Int64)) ^^^ (x2).toInt64) * (-7046029254386353131 : Int64))).toUInt64 >>> ((32 : Int32) &&& 0x3f).toInt64.toUInt64).toInt64).toInt32 ||| (1 : Int32))) ∧ Fr n0 L ∧ h = h0
theorem own_ef_own_tag3 (m : MethodId) (r1 : Addr) (sd : Int64) : entryFrame m #[(.long sd), (.ref r1)] 6 = mkF m 0 #[.val (.long sd), .second, rv r1, .unset, .unset, .unset] [] := by first | (simp [entryFrame, mkF, argsToLocals, Value.category]; done) | rfl
set_option maxRecDepth 65536 in
set_option maxHeartbeats 40000000 in
theorem own_tag3 (l : Launch) (Z : State) (a0 : Array Value) (hw : ∀ d ∈ tables_1, d.before a0 Z = true) (ws : List Jvm.Cond) (r1 : Addr) (ba : Addr) (kb : ClassId) (cd : Int32) (ln : Int32) (vs : List Value) (sd : Int64) (x0 : Int32) (x1 : Int32) (x2 : Int32) (zcs : Int32) (vsf : Value) (h0 : Heap) (n0 : Nat) (Z0 : n0 ≤ h0.size) (O0 : Old Z n0 h0) (S_cs : Sta Z Z.heap "java/lang/String" "COMPACT_STRINGS" "Z" (.int zcs)) (hcs : ¬ zcs = (0 : Int32)) (S_ad : Sta Z Z.heap "java/lang/StringUTF16" "$assertionsDisabled" "Z" (.int (1 : Int32))) (S_hi : Sta Z Z.heap "java/lang/StringUTF16" "HI_BYTE_SHIFT" "I" (.int (0 : Int32))) (S_lo : Sta Z Z.heap "java/lang/StringUTF16" "LO_BYTE_SHIFT" "I" (.int (8 : Int32))) (S_sf : Sta Z Z.heap "jdk/internal/util/Preconditions" "SIOOBE_FORMATTER" "Ljava/util/function/BiFunction;" vsf) (r_sf : (vsf).isRef = true) (E1 : Exa Z h0 r1 "java/lang/String") (F1 : Fld Z h0 r1 "java/lang/String" "value" "[B" (.ref ba)) (F2 : Fld Z h0 r1 "java/lang/String" "coder" "B" (.int cd)) (V1 : Arv Z h0 ba kb .byte ln vs (.int (0 : Int32))) (hl : own_len (3 : Int32) (6 : Int32) cd ln) (hk0 : own_ch x0) (hk1 : own_ch x1) (hk2 : own_ch x2) (ha0 : own_cA0 x0 cd ln vs) (ha1 : own_cA1 x1 cd ln vs) (ha2 : own_cA2 x2 cd ln vs) :
    own_Ctr l Z (⟨"com/example/tallysieve/tallysieve/KeyIndex", "tag", "(JLjava/lang/String;)I"⟩ : MethodName) prog_3_method_7_code 6 (some .int) ws ({ frames := 5, cells := 0, slots := 0, locals := 68 } : Room) (({ frames := 5, cells := 0, slots := 0, locals := 68 } : Room)).cells (({ frames := 5, cells := 0, slots := 0, locals := 68 } : Room)).slots #[(.long sd), (.ref r1)] h0 (Q_own_tag3 Z r1 ba kb cd ln vs sd x0 x1 x2 zcs vsf h0 n0) := by
  refine own_enter (plainFor_of_name own_pn4) ?_
  intro p e s m below meth c s₁ X0 hx hZ hby hml hown hnm hlk hret e0
  have N0 := Fr.nil n0
  refine own_cast (own_ef_own_tag3 m r1 sd) ?_
  refine own_by (g' := (mkF m 8 #[.val (.long sd), .second, rv r1, .val (.long sd), .second, iv (0 : Int32)] [(.ref r1), (.int (0 : Int32))])) (fun t k => XS.lloadN X0.here hx rfl (hb hby own_d8_0) rfl (XS.lstoreN X0.here hx rfl (hb hby own_d8_1) rfl (l' := #[.val (.long sd), .second, rv r1, .val (.long sd), .second, .unset]) rfl (XS.iconst X0.here hx rfl (hb hby own_d8_2) (XS.istore X0.here hx rfl (hb hby own_d8_3) rfl (l' := #[.val (.long sd), .second, rv r1, .val (.long sd), .second, iv (0 : Int32)]) rfl (XS.iload X0.here hx rfl (hb hby own_d8_5) rfl (XS.aloadN X0.here hx rfl (hb hby own_d8_7) rfl rfl k)))))) ?_
  refine own_callV X0 hx hZ hown (hw _ (List.mem_of_getElem? (i := 43) rfl)) (hw _ (List.mem_of_getElem? (i := 44) rfl)) (notFace_of_selects (args := #[]) (mvT hZ (hw _ (List.mem_of_getElem? (i := 46) rfl)))) (hw _ (List.mem_of_getElem? (i := 46) rfl)) (hw _ (List.mem_of_getElem? (i := 45) rfl)) (hw _ (List.mem_of_getElem? (i := 47) rfl)) (hw _ (List.mem_of_getElem? (i := 7) rfl)) (by decide) (a := r1) E1 (own_slen3 l Z a0 hw [] (r1) (ba) (kb) (cd) (ln) (vs) (zcs) h0 n0 Z0 O0 S_cs (by first | assumption | decide) E1 F1 F2 V1 (by first | assumption | decide)) 1 (by decide) (by decide) (by decide) (by decide) e0 (g := (mkF m 8 #[.val (.long sd), .second, rv r1, .val (.long sd), .second, iv (0 : Int32)] [(.ref r1), (.int (0 : Int32))])) rfl (by rw [hml]; rfl) (argsL := []) (rest := [(.int (0 : Int32))]) (lenOf own_pd14 rfl) rfl (by show 2 * 0 + _ ≤ _; exact Nat.le_of_eq rfl) (hb hby own_d8_8) ?_
  intro v101 T101 L101 X101 q101
  obtain ⟨rfl, N101q, e101⟩ := q101
  have N101 := Fr.app N0 N101q
  show own_Goes p e below s _ _ _ T101 (mkF m 11 #[.val (.long sd), .second, rv r1, .val (.long sd), .second, iv (0 : Int32)] [(.int (3 : Int32)), (.int (0 : Int32))])
  refine own_by (g' := (mkF m 18 #[.val (.long sd), .second, rv r1, .val (.long sd), .second, iv (0 : Int32)] [(.int (0 : Int32)), (.ref r1), (.long sd)])) (fun t k => XS.icmpNo X101.here hx rfl (hb hby own_d8_11) rfl (tlt (by decide : (0 : Int32) < (3 : Int32))).2.1 (XS.lloadN X101.here hx rfl (hb hby own_d8_14) rfl (XS.aloadN X101.here hx rfl (hb hby own_d8_15) rfl rfl (XS.iload X101.here hx rfl (hb hby own_d8_16) rfl k)))) ?_
  refine own_callV X101 hx hZ hown (hw _ (List.mem_of_getElem? (i := 53) rfl)) (hw _ (List.mem_of_getElem? (i := 54) rfl)) (notFace_of_selects (args := #[]) (mvT hZ (hw _ (List.mem_of_getElem? (i := 56) rfl)))) (hw _ (List.mem_of_getElem? (i := 56) rfl)) (hw _ (List.mem_of_getElem? (i := 55) rfl)) (hw _ (List.mem_of_getElem? (i := 57) rfl)) (hw _ (List.mem_of_getElem? (i := 7) rfl)) (by decide) (a := r1) E1 (own_schar0 l Z a0 hw [] (r1) (ba) (kb) (cd) (ln) (vs) (x0) (zcs) (vsf) h0 n0 Z0 O0 S_cs (by first | assumption | decide) S_ad S_hi S_lo S_sf r_sf E1 F1 F2 V1 (by first | assumption | decide) (by first | assumption | decide)) 2 (by decide) (by decide) (by decide) (by decide) e101 (g := (mkF m 18 #[.val (.long sd), .second, rv r1, .val (.long sd), .second, iv (0 : Int32)] [(.int (0 : Int32)), (.ref r1), (.long sd)])) rfl (by rw [hml]; rfl) (argsL := [(.int (0 : Int32))]) (rest := [(.long sd)]) (lenOf own_pd15 rfl) rfl (by show 2 * 0 + _ ≤ _; exact Nat.le_of_eq rfl) (hb hby own_d8_18) ?_
  intro v102 T102 L102 X102 q102
  obtain ⟨rfl, N102q, e102⟩ := q102
  have N102 := Fr.app N101 N102q
  show own_Goes p e below s _ _ _ T102 (mkF m 21 #[.val (.long sd), .second, rv r1, .val (.long sd), .second, iv (0 : Int32)] [(.int x0), (.long sd)])
  refine own_by (g' := (mkF m 7 #[.val (.long sd), .second, rv r1, .val (.long ((sd ^^^ (x0).toInt64) * (-7046029254386353131 : Int64))), .second, iv (1 : Int32)] [(.int (1 : Int32))])) (fun t k => XS.i2l X102.here hx rfl (hb hby own_d8_21) rfl (XS.lxor X102.here hx rfl (hb hby own_d8_22) rfl (X102.ldc2Long hx hown (mvT hZ (hw _ (List.mem_of_getElem? (i := 75) rfl))) (g := (mkF m 23 #[.val (.long sd), .second, rv r1, .val (.long sd), .second, iv (0 : Int32)] [(.long (sd ^^^ (x0).toInt64))])) rfl (hb hby own_d8_23) t (XS.lmul X102.here hx rfl (hb hby own_d8_26) rfl (XS.lstoreN X102.here hx rfl (hb hby own_d8_27) rfl (l' := #[.val (.long sd), .second, rv r1, .val (.long ((sd ^^^ (x0).toInt64) * (-7046029254386353131 : Int64))), .second, iv (0 : Int32)]) rfl (XS.iinc X102.here hx rfl (hb hby own_d8_28) rfl (l' := #[.val (.long sd), .second, rv r1, .val (.long ((sd ^^^ (x0).toInt64) * (-7046029254386353131 : Int64))), .second, iv (1 : Int32)]) rfl (XS.goto X102.here hx rfl (pc0 := 31) (pc' := 5) rfl (hb hby own_d8_31) (by decide) (by decide) (XS.iload X102.here hx rfl (hb hby own_d8_5) rfl k)))))))) ?_
  refine own_by (g' := (mkF m 8 #[.val (.long sd), .second, rv r1, .val (.long ((sd ^^^ (x0).toInt64) * (-7046029254386353131 : Int64))), .second, iv (1 : Int32)] [(.ref r1), (.int (1 : Int32))])) (fun t k => XS.aloadN X102.here hx rfl (hb hby own_d8_7) rfl rfl k) ?_
  refine own_callV X102 hx hZ hown (hw _ (List.mem_of_getElem? (i := 43) rfl)) (hw _ (List.mem_of_getElem? (i := 44) rfl)) (notFace_of_selects (args := #[]) (mvT hZ (hw _ (List.mem_of_getElem? (i := 46) rfl)))) (hw _ (List.mem_of_getElem? (i := 46) rfl)) (hw _ (List.mem_of_getElem? (i := 45) rfl)) (hw _ (List.mem_of_getElem? (i := 47) rfl)) (hw _ (List.mem_of_getElem? (i := 7) rfl)) (by decide) (a := r1) E1 (own_slen3 l Z a0 hw [] (r1) (ba) (kb) (cd) (ln) (vs) (zcs) h0 n0 Z0 O0 S_cs (by first | assumption | decide) E1 F1 F2 V1 (by first | assumption | decide)) 1 (by decide) (by decide) (by decide) (by decide) e102 (g := (mkF m 8 #[.val (.long sd), .second, rv r1, .val (.long ((sd ^^^ (x0).toInt64) * (-7046029254386353131 : Int64))), .second, iv (1 : Int32)] [(.ref r1), (.int (1 : Int32))])) rfl (by rw [hml]; rfl) (argsL := []) (rest := [(.int (1 : Int32))]) (lenOf own_pd14 rfl) rfl (by show 2 * 0 + _ ≤ _; exact Nat.le_of_eq rfl) (hb hby own_d8_8) ?_
  intro v103 T103 L103 X103 q103
  obtain ⟨rfl, N103q, e103⟩ := q103
  have N103 := Fr.app N102 N103q
  show own_Goes p e below s _ _ _ T103 (mkF m 11 #[.val (.long sd), .second, rv r1, .val (.long ((sd ^^^ (x0).toInt64) * (-7046029254386353131 : Int64))), .second, iv (1 : Int32)] [(.int (3 : Int32)), (.int (1 : Int32))])
  refine own_by (g' := (mkF m 18 #[.val (.long sd), .second, rv r1, .val (.long ((sd ^^^ (x0).toInt64) * (-7046029254386353131 : Int64))), .second, iv (1 : Int32)] [(.int (1 : Int32)), (.ref r1), (.long ((sd ^^^ (x0).toInt64) * (-7046029254386353131 : Int64)))])) (fun t k => XS.icmpNo X103.here hx rfl (hb hby own_d8_11) rfl (tlt (by decide : (1 : Int32) < (3 : Int32))).2.1 (XS.lloadN X103.here hx rfl (hb hby own_d8_14) rfl (XS.aloadN X103.here hx rfl (hb hby own_d8_15) rfl rfl (XS.iload X103.here hx rfl (hb hby own_d8_16) rfl k)))) ?_
  refine own_callV X103 hx hZ hown (hw _ (List.mem_of_getElem? (i := 53) rfl)) (hw _ (List.mem_of_getElem? (i := 54) rfl)) (notFace_of_selects (args := #[]) (mvT hZ (hw _ (List.mem_of_getElem? (i := 56) rfl)))) (hw _ (List.mem_of_getElem? (i := 56) rfl)) (hw _ (List.mem_of_getElem? (i := 55) rfl)) (hw _ (List.mem_of_getElem? (i := 57) rfl)) (hw _ (List.mem_of_getElem? (i := 7) rfl)) (by decide) (a := r1) E1 (own_schar1 l Z a0 hw [] (r1) (ba) (kb) (cd) (ln) (vs) (x1) (zcs) (vsf) h0 n0 Z0 O0 S_cs (by first | assumption | decide) S_ad S_hi S_lo S_sf r_sf E1 F1 F2 V1 (by first | assumption | decide) (by first | assumption | decide)) 2 (by decide) (by decide) (by decide) (by decide) e103 (g := (mkF m 18 #[.val (.long sd), .second, rv r1, .val (.long ((sd ^^^ (x0).toInt64) * (-7046029254386353131 : Int64))), .second, iv (1 : Int32)] [(.int (1 : Int32)), (.ref r1), (.long ((sd ^^^ (x0).toInt64) * (-7046029254386353131 : Int64)))])) rfl (by rw [hml]; rfl) (argsL := [(.int (1 : Int32))]) (rest := [(.long ((sd ^^^ (x0).toInt64) * (-7046029254386353131 : Int64)))]) (lenOf own_pd15 rfl) rfl (by show 2 * 0 + _ ≤ _; exact Nat.le_of_eq rfl) (hb hby own_d8_18) ?_
  intro v104 T104 L104 X104 q104
  obtain ⟨rfl, N104q, e104⟩ := q104
  have N104 := Fr.app N103 N104q
  show own_Goes p e below s _ _ _ T104 (mkF m 21 #[.val (.long sd), .second, rv r1, .val (.long ((sd ^^^ (x0).toInt64) * (-7046029254386353131 : Int64))), .second, iv (1 : Int32)] [(.int x1), (.long ((sd ^^^ (x0).toInt64) * (-7046029254386353131 : Int64)))])
  refine own_by (g' := (mkF m 7 #[.val (.long sd), .second, rv r1, .val (.long ((((sd ^^^ (x0).toInt64) * (-7046029254386353131 : Int64)) ^^^ (x1).toInt64) * (-7046029254386353131 : Int64))), .second, iv (2 : Int32)] [(.int (2 : Int32))])) (fun t k => XS.i2l X104.here hx rfl (hb hby own_d8_21) rfl (XS.lxor X104.here hx rfl (hb hby own_d8_22) rfl (X104.ldc2Long hx hown (mvT hZ (hw _ (List.mem_of_getElem? (i := 75) rfl))) (g := (mkF m 23 #[.val (.long sd), .second, rv r1, .val (.long ((sd ^^^ (x0).toInt64) * (-7046029254386353131 : Int64))), .second, iv (1 : Int32)] [(.long (((sd ^^^ (x0).toInt64) * (-7046029254386353131 : Int64)) ^^^ (x1).toInt64))])) rfl (hb hby own_d8_23) t (XS.lmul X104.here hx rfl (hb hby own_d8_26) rfl (XS.lstoreN X104.here hx rfl (hb hby own_d8_27) rfl (l' := #[.val (.long sd), .second, rv r1, .val (.long ((((sd ^^^ (x0).toInt64) * (-7046029254386353131 : Int64)) ^^^ (x1).toInt64) * (-7046029254386353131 : Int64))), .second, iv (1 : Int32)]) rfl (XS.iinc X104.here hx rfl (hb hby own_d8_28) rfl (l' := #[.val (.long sd), .second, rv r1, .val (.long ((((sd ^^^ (x0).toInt64) * (-7046029254386353131 : Int64)) ^^^ (x1).toInt64) * (-7046029254386353131 : Int64))), .second, iv (2 : Int32)]) rfl (XS.goto X104.here hx rfl (pc0 := 31) (pc' := 5) rfl (hb hby own_d8_31) (by decide) (by decide) (XS.iload X104.here hx rfl (hb hby own_d8_5) rfl k)))))))) ?_
  refine own_by (g' := (mkF m 8 #[.val (.long sd), .second, rv r1, .val (.long ((((sd ^^^ (x0).toInt64) * (-7046029254386353131 : Int64)) ^^^ (x1).toInt64) * (-7046029254386353131 : Int64))), .second, iv (2 : Int32)] [(.ref r1), (.int (2 : Int32))])) (fun t k => XS.aloadN X104.here hx rfl (hb hby own_d8_7) rfl rfl k) ?_
  refine own_callV X104 hx hZ hown (hw _ (List.mem_of_getElem? (i := 43) rfl)) (hw _ (List.mem_of_getElem? (i := 44) rfl)) (notFace_of_selects (args := #[]) (mvT hZ (hw _ (List.mem_of_getElem? (i := 46) rfl)))) (hw _ (List.mem_of_getElem? (i := 46) rfl)) (hw _ (List.mem_of_getElem? (i := 45) rfl)) (hw _ (List.mem_of_getElem? (i := 47) rfl)) (hw _ (List.mem_of_getElem? (i := 7) rfl)) (by decide) (a := r1) E1 (own_slen3 l Z a0 hw [] (r1) (ba) (kb) (cd) (ln) (vs) (zcs) h0 n0 Z0 O0 S_cs (by first | assumption | decide) E1 F1 F2 V1 (by first | assumption | decide)) 1 (by decide) (by decide) (by decide) (by decide) e104 (g := (mkF m 8 #[.val (.long sd), .second, rv r1, .val (.long ((((sd ^^^ (x0).toInt64) * (-7046029254386353131 : Int64)) ^^^ (x1).toInt64) * (-7046029254386353131 : Int64))), .second, iv (2 : Int32)] [(.ref r1), (.int (2 : Int32))])) rfl (by rw [hml]; rfl) (argsL := []) (rest := [(.int (2 : Int32))]) (lenOf own_pd14 rfl) rfl (by show 2 * 0 + _ ≤ _; exact Nat.le_of_eq rfl) (hb hby own_d8_8) ?_
  intro v105 T105 L105 X105 q105
  obtain ⟨rfl, N105q, e105⟩ := q105
  have N105 := Fr.app N104 N105q
  show own_Goes p e below s _ _ _ T105 (mkF m 11 #[.val (.long sd), .second, rv r1, .val (.long ((((sd ^^^ (x0).toInt64) * (-7046029254386353131 : Int64)) ^^^ (x1).toInt64) * (-7046029254386353131 : Int64))), .second, iv (2 : Int32)] [(.int (3 : Int32)), (.int (2 : Int32))])
  refine own_by (g' := (mkF m 18 #[.val (.long sd), .second, rv r1, .val (.long ((((sd ^^^ (x0).toInt64) * (-7046029254386353131 : Int64)) ^^^ (x1).toInt64) * (-7046029254386353131 : Int64))), .second, iv (2 : Int32)] [(.int (2 : Int32)), (.ref r1), (.long ((((sd ^^^ (x0).toInt64) * (-7046029254386353131 : Int64)) ^^^ (x1).toInt64) * (-7046029254386353131 : Int64)))])) (fun t k => XS.icmpNo X105.here hx rfl (hb hby own_d8_11) rfl (tlt (by decide : (2 : Int32) < (3 : Int32))).2.1 (XS.lloadN X105.here hx rfl (hb hby own_d8_14) rfl (XS.aloadN X105.here hx rfl (hb hby own_d8_15) rfl rfl (XS.iload X105.here hx rfl (hb hby own_d8_16) rfl k)))) ?_
  refine own_callV X105 hx hZ hown (hw _ (List.mem_of_getElem? (i := 53) rfl)) (hw _ (List.mem_of_getElem? (i := 54) rfl)) (notFace_of_selects (args := #[]) (mvT hZ (hw _ (List.mem_of_getElem? (i := 56) rfl)))) (hw _ (List.mem_of_getElem? (i := 56) rfl)) (hw _ (List.mem_of_getElem? (i := 55) rfl)) (hw _ (List.mem_of_getElem? (i := 57) rfl)) (hw _ (List.mem_of_getElem? (i := 7) rfl)) (by decide) (a := r1) E1 (own_schar2 l Z a0 hw [] (r1) (ba) (kb) (cd) (ln) (vs) (x2) (zcs) (vsf) h0 n0 Z0 O0 S_cs (by first | assumption | decide) S_ad S_hi S_lo S_sf r_sf E1 F1 F2 V1 (by first | assumption | decide) (by first | assumption | decide)) 2 (by decide) (by decide) (by decide) (by decide) e105 (g := (mkF m 18 #[.val (.long sd), .second, rv r1, .val (.long ((((sd ^^^ (x0).toInt64) * (-7046029254386353131 : Int64)) ^^^ (x1).toInt64) * (-7046029254386353131 : Int64))), .second, iv (2 : Int32)] [(.int (2 : Int32)), (.ref r1), (.long ((((sd ^^^ (x0).toInt64) * (-7046029254386353131 : Int64)) ^^^ (x1).toInt64) * (-7046029254386353131 : Int64)))])) rfl (by rw [hml]; rfl) (argsL := [(.int (2 : Int32))]) (rest := [(.long ((((sd ^^^ (x0).toInt64) * (-7046029254386353131 : Int64)) ^^^ (x1).toInt64) * (-7046029254386353131 : Int64)))]) (lenOf own_pd15 rfl) rfl (by show 2 * 0 + _ ≤ _; exact Nat.le_of_eq rfl) (hb hby own_d8_18) ?_
  intro v106 T106 L106 X106 q106
  obtain ⟨rfl, N106q, e106⟩ := q106
  have N106 := Fr.app N105 N106q
  show own_Goes p e below s _ _ _ T106 (mkF m 21 #[.val (.long sd), .second, rv r1, .val (.long ((((sd ^^^ (x0).toInt64) * (-7046029254386353131 : Int64)) ^^^ (x1).toInt64) * (-7046029254386353131 : Int64))), .second, iv (2 : Int32)] [(.int x2), (.long ((((sd ^^^ (x0).toInt64) * (-7046029254386353131 : Int64)) ^^^ (x1).toInt64) * (-7046029254386353131 : Int64)))])
  refine own_by (g' := (mkF m 7 #[.val (.long sd), .second, rv r1, .val (.long ((((((sd ^^^ (x0).toInt64) * (-7046029254386353131 : Int64)) ^^^ (x1).toInt64) * (-7046029254386353131 : Int64)) ^^^ (x2).toInt64) * (-7046029254386353131 : Int64))), .second, iv (3 : Int32)] [(.int (3 : Int32))])) (fun t k => XS.i2l X106.here hx rfl (hb hby own_d8_21) rfl (XS.lxor X106.here hx rfl (hb hby own_d8_22) rfl (X106.ldc2Long hx hown (mvT hZ (hw _ (List.mem_of_getElem? (i := 75) rfl))) (g := (mkF m 23 #[.val (.long sd), .second, rv r1, .val (.long ((((sd ^^^ (x0).toInt64) * (-7046029254386353131 : Int64)) ^^^ (x1).toInt64) * (-7046029254386353131 : Int64))), .second, iv (2 : Int32)] [(.long (((((sd ^^^ (x0).toInt64) * (-7046029254386353131 : Int64)) ^^^ (x1).toInt64) * (-7046029254386353131 : Int64)) ^^^ (x2).toInt64))])) rfl (hb hby own_d8_23) t (XS.lmul X106.here hx rfl (hb hby own_d8_26) rfl (XS.lstoreN X106.here hx rfl (hb hby own_d8_27) rfl (l' := #[.val (.long sd), .second, rv r1, .val (.long ((((((sd ^^^ (x0).toInt64) * (-7046029254386353131 : Int64)) ^^^ (x1).toInt64) * (-7046029254386353131 : Int64)) ^^^ (x2).toInt64) * (-7046029254386353131 : Int64))), .second, iv (2 : Int32)]) rfl (XS.iinc X106.here hx rfl (hb hby own_d8_28) rfl (l' := #[.val (.long sd), .second, rv r1, .val (.long ((((((sd ^^^ (x0).toInt64) * (-7046029254386353131 : Int64)) ^^^ (x1).toInt64) * (-7046029254386353131 : Int64)) ^^^ (x2).toInt64) * (-7046029254386353131 : Int64))), .second, iv (3 : Int32)]) rfl (XS.goto X106.here hx rfl (pc0 := 31) (pc' := 5) rfl (hb hby own_d8_31) (by decide) (by decide) (XS.iload X106.here hx rfl (hb hby own_d8_5) rfl k)))))))) ?_
  refine own_by (g' := (mkF m 8 #[.val (.long sd), .second, rv r1, .val (.long ((((((sd ^^^ (x0).toInt64) * (-7046029254386353131 : Int64)) ^^^ (x1).toInt64) * (-7046029254386353131 : Int64)) ^^^ (x2).toInt64) * (-7046029254386353131 : Int64))), .second, iv (3 : Int32)] [(.ref r1), (.int (3 : Int32))])) (fun t k => XS.aloadN X106.here hx rfl (hb hby own_d8_7) rfl rfl k) ?_
  refine own_callV X106 hx hZ hown (hw _ (List.mem_of_getElem? (i := 43) rfl)) (hw _ (List.mem_of_getElem? (i := 44) rfl)) (notFace_of_selects (args := #[]) (mvT hZ (hw _ (List.mem_of_getElem? (i := 46) rfl)))) (hw _ (List.mem_of_getElem? (i := 46) rfl)) (hw _ (List.mem_of_getElem? (i := 45) rfl)) (hw _ (List.mem_of_getElem? (i := 47) rfl)) (hw _ (List.mem_of_getElem? (i := 7) rfl)) (by decide) (a := r1) E1 (own_slen3 l Z a0 hw [] (r1) (ba) (kb) (cd) (ln) (vs) (zcs) h0 n0 Z0 O0 S_cs (by first | assumption | decide) E1 F1 F2 V1 (by first | assumption | decide)) 1 (by decide) (by decide) (by decide) (by decide) e106 (g := (mkF m 8 #[.val (.long sd), .second, rv r1, .val (.long ((((((sd ^^^ (x0).toInt64) * (-7046029254386353131 : Int64)) ^^^ (x1).toInt64) * (-7046029254386353131 : Int64)) ^^^ (x2).toInt64) * (-7046029254386353131 : Int64))), .second, iv (3 : Int32)] [(.ref r1), (.int (3 : Int32))])) rfl (by rw [hml]; rfl) (argsL := []) (rest := [(.int (3 : Int32))]) (lenOf own_pd14 rfl) rfl (by show 2 * 0 + _ ≤ _; exact Nat.le_of_eq rfl) (hb hby own_d8_8) ?_
  intro v107 T107 L107 X107 q107
  obtain ⟨rfl, N107q, e107⟩ := q107
  have N107 := Fr.app N106 N107q
  show own_Goes p e below s _ _ _ T107 (mkF m 11 #[.val (.long sd), .second, rv r1, .val (.long ((((((sd ^^^ (x0).toInt64) * (-7046029254386353131 : Int64)) ^^^ (x1).toInt64) * (-7046029254386353131 : Int64)) ^^^ (x2).toInt64) * (-7046029254386353131 : Int64))), .second, iv (3 : Int32)] [(.int (3 : Int32)), (.int (3 : Int32))])
  refine own_by (g' := (mkF m 41 #[.val (.long sd), .second, rv r1, .val (.long ((((((sd ^^^ (x0).toInt64) * (-7046029254386353131 : Int64)) ^^^ (x1).toInt64) * (-7046029254386353131 : Int64)) ^^^ (x2).toInt64) * (-7046029254386353131 : Int64))), .second, iv (3 : Int32)] [(.int ((((((((((sd ^^^ (x0).toInt64) * (-7046029254386353131 : Int64)) ^^^ (x1).toInt64) * (-7046029254386353131 : Int64)) ^^^ (x2).toInt64) * (-7046029254386353131 : Int64))).toUInt64 >>> ((32 : Int32) &&& 0x3f).toInt64.toUInt64).toInt64).toInt32 ||| (1 : Int32)))])) (fun t k => XS.icmpYes X107.here hx rfl (pc0 := 11) (pc' := 34) rfl (hb hby own_d8_11) rfl (flt (by decide : ¬ ((3 : Int32) < (3 : Int32)))).2.1 (by decide) (by decide) (XS.lloadN X107.here hx rfl (hb hby own_d8_34) rfl (XS.bipush X107.here hx rfl (hb hby own_d8_35) (XS.lushr X107.here hx rfl (hb hby own_d8_37) rfl (XS.l2i X107.here hx rfl (hb hby own_d8_38) rfl (XS.iconst X107.here hx rfl (hb hby own_d8_39) (XS.ior X107.here hx rfl (hb hby own_d8_40) rfl k))))))) ?_
  refine own_retI X107 hx hlk hret (hb hby own_d8_41) (by decide) (by decide) ?_
  exact ⟨rfl, N107, e107⟩
def Q_own_tag4 (Z : State) (r1 : Addr) (ba : Addr) (kb : ClassId) (cd : Int32) (ln : Int32) (vs : List Value) (sd : Int64) (x0 : Int32) (x1 : Int32) (x2 : Int32) (x3 : Int32) (zcs : Int32) (vsf : Value) (h0 : Heap) (n0 : Nat) (v : Option Value) (h : Heap) (L : List Loc) : Prop := v = some (.int ((((((((((((sd ^^^ (x0).toInt64) * (-7046029254386353131 : Int64)) ^^^ (x1).toInt64) * (-7046029254386353131 : Int64)) ^^^ (x2).toInt64) * (-7046029254386353131 : Int64)) ^^^ (x3).toInt64) * (-7046029254386353131 : Int64))).toUInt64 >>> ((32 : Int32) &&& 0x3f).toInt64.toUInt64).toInt64).toInt32 ||| (1 : Int32))) ∧ Fr n0 L ∧ h = h0
theorem own_ef_own_tag4 (m : MethodId) (r1 : Addr) (sd : Int64) : entryFrame m #[(.long sd), (.ref r1)] 6 = mkF m 0 #[.val (.long sd), .second, rv r1, .unset, .unset, .unset] [] := by first | (simp [entryFrame, mkF, argsToLocals, Value.category]; done) | rfl
set_option maxRecDepth 65536 in
set_option maxHeartbeats 40000000 in
theorem own_tag4 (l : Launch) (Z : State) (a0 : Array Value) (hw : ∀ d ∈ tables_1, d.before a0 Z = true) (ws : List Jvm.Cond) (r1 : Addr) (ba : Addr) (kb : ClassId) (cd : Int32) (ln : Int32) (vs : List Value) (sd : Int64) (x0 : Int32) (x1 : Int32) (x2 : Int32) (x3 : Int32) (zcs : Int32) (vsf : Value) (h0 : Heap) (n0 : Nat) (Z0 : n0 ≤ h0.size) (O0 : Old Z n0 h0) (S_cs : Sta Z Z.heap "java/lang/String" "COMPACT_STRINGS" "Z" (.int zcs)) (hcs : ¬ zcs = (0 : Int32)) (S_ad : Sta Z Z.heap "java/lang/StringUTF16" "$assertionsDisabled" "Z" (.int (1 : Int32))) (S_hi : Sta Z Z.heap "java/lang/StringUTF16" "HI_BYTE_SHIFT" "I" (.int (0 : Int32))) (S_lo : Sta Z Z.heap "java/lang/StringUTF16" "LO_BYTE_SHIFT" "I" (.int (8 : Int32))) (S_sf : Sta Z Z.heap "jdk/internal/util/Preconditions" "SIOOBE_FORMATTER" "Ljava/util/function/BiFunction;" vsf) (r_sf : (vsf).isRef = true) (E1 : Exa Z h0 r1 "java/lang/String") (F1 : Fld Z h0 r1 "java/lang/String" "value" "[B" (.ref ba)) (F2 : Fld Z h0 r1 "java/lang/String" "coder" "B" (.int cd)) (V1 : Arv Z h0 ba kb .byte ln vs (.int (0 : Int32))) (hl : own_len (4 : Int32) (8 : Int32) cd ln) (hk0 : own_ch x0) (hk1 : own_ch x1) (hk2 : own_ch x2) (hk3 : own_ch x3) (ha0 : own_cA0 x0 cd ln vs) (ha1 : own_cA1 x1 cd ln vs) (ha2 : own_cA2 x2 cd ln vs) (ha3 : own_cA3 x3 cd ln vs) :
    own_Ctr l Z (⟨"com/example/tallysieve/tallysieve/KeyIndex", "tag", "(JLjava/lang/String;)I"⟩ : MethodName) prog_3_method_7_code 6 (some .int) ws ({ frames := 5, cells := 0, slots := 0, locals := 68 } : Room) (({ frames := 5, cells := 0, slots := 0, locals := 68 } : Room)).cells (({ frames := 5, cells := 0, slots := 0, locals := 68 } : Room)).slots #[(.long sd), (.ref r1)] h0 (Q_own_tag4 Z r1 ba kb cd ln vs sd x0 x1 x2 x3 zcs vsf h0 n0) := by
  refine own_enter (plainFor_of_name own_pn4) ?_
  intro p e s m below meth c s₁ X0 hx hZ hby hml hown hnm hlk hret e0
  have N0 := Fr.nil n0
  refine own_cast (own_ef_own_tag4 m r1 sd) ?_
  refine own_by (g' := (mkF m 8 #[.val (.long sd), .second, rv r1, .val (.long sd), .second, iv (0 : Int32)] [(.ref r1), (.int (0 : Int32))])) (fun t k => XS.lloadN X0.here hx rfl (hb hby own_d8_0) rfl (XS.lstoreN X0.here hx rfl (hb hby own_d8_1) rfl (l' := #[.val (.long sd), .second, rv r1, .val (.long sd), .second, .unset]) rfl (XS.iconst X0.here hx rfl (hb hby own_d8_2) (XS.istore X0.here hx rfl (hb hby own_d8_3) rfl (l' := #[.val (.long sd), .second, rv r1, .val (.long sd), .second, iv (0 : Int32)]) rfl (XS.iload X0.here hx rfl (hb hby own_d8_5) rfl (XS.aloadN X0.here hx rfl (hb hby own_d8_7) rfl rfl k)))))) ?_
  refine own_callV X0 hx hZ hown (hw _ (List.mem_of_getElem? (i := 43) rfl)) (hw _ (List.mem_of_getElem? (i := 44) rfl)) (notFace_of_selects (args := #[]) (mvT hZ (hw _ (List.mem_of_getElem? (i := 46) rfl)))) (hw _ (List.mem_of_getElem? (i := 46) rfl)) (hw _ (List.mem_of_getElem? (i := 45) rfl)) (hw _ (List.mem_of_getElem? (i := 47) rfl)) (hw _ (List.mem_of_getElem? (i := 7) rfl)) (by decide) (a := r1) E1 (own_slen4 l Z a0 hw [] (r1) (ba) (kb) (cd) (ln) (vs) (zcs) h0 n0 Z0 O0 S_cs (by first | assumption | decide) E1 F1 F2 V1 (by first | assumption | decide)) 1 (by decide) (by decide) (by decide) (by decide) e0 (g := (mkF m 8 #[.val (.long sd), .second, rv r1, .val (.long sd), .second, iv (0 : Int32)] [(.ref r1), (.int (0 : Int32))])) rfl (by rw [hml]; rfl) (argsL := []) (rest := [(.int (0 : Int32))]) (lenOf own_pd14 rfl) rfl (by show 2 * 0 + _ ≤ _; exact Nat.le_of_eq rfl) (hb hby own_d8_8) ?_
  intro v101 T101 L101 X101 q101
  obtain ⟨rfl, N101q, e101⟩ := q101
  have N101 := Fr.app N0 N101q
  show own_Goes p e below s _ _ _ T101 (mkF m 11 #[.val (.long sd), .second, rv r1, .val (.long sd), .second, iv (0 : Int32)] [(.int (4 : Int32)), (.int (0 : Int32))])
  refine own_by (g' := (mkF m 18 #[.val (.long sd), .second, rv r1, .val (.long sd), .second, iv (0 : Int32)] [(.int (0 : Int32)), (.ref r1), (.long sd)])) (fun t k => XS.icmpNo X101.here hx rfl (hb hby own_d8_11) rfl (tlt (by decide : (0 : Int32) < (4 : Int32))).2.1 (XS.lloadN X101.here hx rfl (hb hby own_d8_14) rfl (XS.aloadN X101.here hx rfl (hb hby own_d8_15) rfl rfl (XS.iload X101.here hx rfl (hb hby own_d8_16) rfl k)))) ?_
  refine own_callV X101 hx hZ hown (hw _ (List.mem_of_getElem? (i := 53) rfl)) (hw _ (List.mem_of_getElem? (i := 54) rfl)) (notFace_of_selects (args := #[]) (mvT hZ (hw _ (List.mem_of_getElem? (i := 56) rfl)))) (hw _ (List.mem_of_getElem? (i := 56) rfl)) (hw _ (List.mem_of_getElem? (i := 55) rfl)) (hw _ (List.mem_of_getElem? (i := 57) rfl)) (hw _ (List.mem_of_getElem? (i := 7) rfl)) (by decide) (a := r1) E1 (own_schar0 l Z a0 hw [] (r1) (ba) (kb) (cd) (ln) (vs) (x0) (zcs) (vsf) h0 n0 Z0 O0 S_cs (by first | assumption | decide) S_ad S_hi S_lo S_sf r_sf E1 F1 F2 V1 (by first | assumption | decide) (by first | assumption | decide)) 2 (by decide) (by decide) (by decide) (by decide) e101 (g := (mkF m 18 #[.val (.long sd), .second, rv r1, .val (.long sd), .second, iv (0 : Int32)] [(.int (0 : Int32)), (.ref r1), (.long sd)])) rfl (by rw [hml]; rfl) (argsL := [(.int (0 : Int32))]) (rest := [(.long sd)]) (lenOf own_pd15 rfl) rfl (by show 2 * 0 + _ ≤ _; exact Nat.le_of_eq rfl) (hb hby own_d8_18) ?_
  intro v102 T102 L102 X102 q102
  obtain ⟨rfl, N102q, e102⟩ := q102
  have N102 := Fr.app N101 N102q
  show own_Goes p e below s _ _ _ T102 (mkF m 21 #[.val (.long sd), .second, rv r1, .val (.long sd), .second, iv (0 : Int32)] [(.int x0), (.long sd)])
  refine own_by (g' := (mkF m 7 #[.val (.long sd), .second, rv r1, .val (.long ((sd ^^^ (x0).toInt64) * (-7046029254386353131 : Int64))), .second, iv (1 : Int32)] [(.int (1 : Int32))])) (fun t k => XS.i2l X102.here hx rfl (hb hby own_d8_21) rfl (XS.lxor X102.here hx rfl (hb hby own_d8_22) rfl (X102.ldc2Long hx hown (mvT hZ (hw _ (List.mem_of_getElem? (i := 75) rfl))) (g := (mkF m 23 #[.val (.long sd), .second, rv r1, .val (.long sd), .second, iv (0 : Int32)] [(.long (sd ^^^ (x0).toInt64))])) rfl (hb hby own_d8_23) t (XS.lmul X102.here hx rfl (hb hby own_d8_26) rfl (XS.lstoreN X102.here hx rfl (hb hby own_d8_27) rfl (l' := #[.val (.long sd), .second, rv r1, .val (.long ((sd ^^^ (x0).toInt64) * (-7046029254386353131 : Int64))), .second, iv (0 : Int32)]) rfl (XS.iinc X102.here hx rfl (hb hby own_d8_28) rfl (l' := #[.val (.long sd), .second, rv r1, .val (.long ((sd ^^^ (x0).toInt64) * (-7046029254386353131 : Int64))), .second, iv (1 : Int32)]) rfl (XS.goto X102.here hx rfl (pc0 := 31) (pc' := 5) rfl (hb hby own_d8_31) (by decide) (by decide) (XS.iload X102.here hx rfl (hb hby own_d8_5) rfl k)))))))) ?_
  refine own_by (g' := (mkF m 8 #[.val (.long sd), .second, rv r1, .val (.long ((sd ^^^ (x0).toInt64) * (-7046029254386353131 : Int64))), .second, iv (1 : Int32)] [(.ref r1), (.int (1 : Int32))])) (fun t k => XS.aloadN X102.here hx rfl (hb hby own_d8_7) rfl rfl k) ?_
  refine own_callV X102 hx hZ hown (hw _ (List.mem_of_getElem? (i := 43) rfl)) (hw _ (List.mem_of_getElem? (i := 44) rfl)) (notFace_of_selects (args := #[]) (mvT hZ (hw _ (List.mem_of_getElem? (i := 46) rfl)))) (hw _ (List.mem_of_getElem? (i := 46) rfl)) (hw _ (List.mem_of_getElem? (i := 45) rfl)) (hw _ (List.mem_of_getElem? (i := 47) rfl)) (hw _ (List.mem_of_getElem? (i := 7) rfl)) (by decide) (a := r1) E1 (own_slen4 l Z a0 hw [] (r1) (ba) (kb) (cd) (ln) (vs) (zcs) h0 n0 Z0 O0 S_cs (by first | assumption | decide) E1 F1 F2 V1 (by first | assumption | decide)) 1 (by decide) (by decide) (by decide) (by decide) e102 (g := (mkF m 8 #[.val (.long sd), .second, rv r1, .val (.long ((sd ^^^ (x0).toInt64) * (-7046029254386353131 : Int64))), .second, iv (1 : Int32)] [(.ref r1), (.int (1 : Int32))])) rfl (by rw [hml]; rfl) (argsL := []) (rest := [(.int (1 : Int32))]) (lenOf own_pd14 rfl) rfl (by show 2 * 0 + _ ≤ _; exact Nat.le_of_eq rfl) (hb hby own_d8_8) ?_
  intro v103 T103 L103 X103 q103
  obtain ⟨rfl, N103q, e103⟩ := q103
  have N103 := Fr.app N102 N103q
  show own_Goes p e below s _ _ _ T103 (mkF m 11 #[.val (.long sd), .second, rv r1, .val (.long ((sd ^^^ (x0).toInt64) * (-7046029254386353131 : Int64))), .second, iv (1 : Int32)] [(.int (4 : Int32)), (.int (1 : Int32))])
  refine own_by (g' := (mkF m 18 #[.val (.long sd), .second, rv r1, .val (.long ((sd ^^^ (x0).toInt64) * (-7046029254386353131 : Int64))), .second, iv (1 : Int32)] [(.int (1 : Int32)), (.ref r1), (.long ((sd ^^^ (x0).toInt64) * (-7046029254386353131 : Int64)))])) (fun t k => XS.icmpNo X103.here hx rfl (hb hby own_d8_11) rfl (tlt (by decide : (1 : Int32) < (4 : Int32))).2.1 (XS.lloadN X103.here hx rfl (hb hby own_d8_14) rfl (XS.aloadN X103.here hx rfl (hb hby own_d8_15) rfl rfl (XS.iload X103.here hx rfl (hb hby own_d8_16) rfl k)))) ?_
  refine own_callV X103 hx hZ hown (hw _ (List.mem_of_getElem? (i := 53) rfl)) (hw _ (List.mem_of_getElem? (i := 54) rfl)) (notFace_of_selects (args := #[]) (mvT hZ (hw _ (List.mem_of_getElem? (i := 56) rfl)))) (hw _ (List.mem_of_getElem? (i := 56) rfl)) (hw _ (List.mem_of_getElem? (i := 55) rfl)) (hw _ (List.mem_of_getElem? (i := 57) rfl)) (hw _ (List.mem_of_getElem? (i := 7) rfl)) (by decide) (a := r1) E1 (own_schar1 l Z a0 hw [] (r1) (ba) (kb) (cd) (ln) (vs) (x1) (zcs) (vsf) h0 n0 Z0 O0 S_cs (by first | assumption | decide) S_ad S_hi S_lo S_sf r_sf E1 F1 F2 V1 (by first | assumption | decide) (by first | assumption | decide)) 2 (by decide) (by decide) (by decide) (by decide) e103 (g := (mkF m 18 #[.val (.long sd), .second, rv r1, .val (.long ((sd ^^^ (x0).toInt64) * (-7046029254386353131 : Int64))), .second, iv (1 : Int32)] [(.int (1 : Int32)), (.ref r1), (.long ((sd ^^^ (x0).toInt64) * (-7046029254386353131 : Int64)))])) rfl (by rw [hml]; rfl) (argsL := [(.int (1 : Int32))]) (rest := [(.long ((sd ^^^ (x0).toInt64) * (-7046029254386353131 : Int64)))]) (lenOf own_pd15 rfl) rfl (by show 2 * 0 + _ ≤ _; exact Nat.le_of_eq rfl) (hb hby own_d8_18) ?_
  intro v104 T104 L104 X104 q104
  obtain ⟨rfl, N104q, e104⟩ := q104
  have N104 := Fr.app N103 N104q
  show own_Goes p e below s _ _ _ T104 (mkF m 21 #[.val (.long sd), .second, rv r1, .val (.long ((sd ^^^ (x0).toInt64) * (-7046029254386353131 : Int64))), .second, iv (1 : Int32)] [(.int x1), (.long ((sd ^^^ (x0).toInt64) * (-7046029254386353131 : Int64)))])
  refine own_by (g' := (mkF m 7 #[.val (.long sd), .second, rv r1, .val (.long ((((sd ^^^ (x0).toInt64) * (-7046029254386353131 : Int64)) ^^^ (x1).toInt64) * (-7046029254386353131 : Int64))), .second, iv (2 : Int32)] [(.int (2 : Int32))])) (fun t k => XS.i2l X104.here hx rfl (hb hby own_d8_21) rfl (XS.lxor X104.here hx rfl (hb hby own_d8_22) rfl (X104.ldc2Long hx hown (mvT hZ (hw _ (List.mem_of_getElem? (i := 75) rfl))) (g := (mkF m 23 #[.val (.long sd), .second, rv r1, .val (.long ((sd ^^^ (x0).toInt64) * (-7046029254386353131 : Int64))), .second, iv (1 : Int32)] [(.long (((sd ^^^ (x0).toInt64) * (-7046029254386353131 : Int64)) ^^^ (x1).toInt64))])) rfl (hb hby own_d8_23) t (XS.lmul X104.here hx rfl (hb hby own_d8_26) rfl (XS.lstoreN X104.here hx rfl (hb hby own_d8_27) rfl (l' := #[.val (.long sd), .second, rv r1, .val (.long ((((sd ^^^ (x0).toInt64) * (-7046029254386353131 : Int64)) ^^^ (x1).toInt64) * (-7046029254386353131 : Int64))), .second, iv (1 : Int32)]) rfl (XS.iinc X104.here hx rfl (hb hby own_d8_28) rfl (l' := #[.val (.long sd), .second, rv r1, .val (.long ((((sd ^^^ (x0).toInt64) * (-7046029254386353131 : Int64)) ^^^ (x1).toInt64) * (-7046029254386353131 : Int64))), .second, iv (2 : Int32)]) rfl (XS.goto X104.here hx rfl (pc0 := 31) (pc' := 5) rfl (hb hby own_d8_31) (by decide) (by decide) (XS.iload X104.here hx rfl (hb hby own_d8_5) rfl k)))))))) ?_
  refine own_by (g' := (mkF m 8 #[.val (.long sd), .second, rv r1, .val (.long ((((sd ^^^ (x0).toInt64) * (-7046029254386353131 : Int64)) ^^^ (x1).toInt64) * (-7046029254386353131 : Int64))), .second, iv (2 : Int32)] [(.ref r1), (.int (2 : Int32))])) (fun t k => XS.aloadN X104.here hx rfl (hb hby own_d8_7) rfl rfl k) ?_
  refine own_callV X104 hx hZ hown (hw _ (List.mem_of_getElem? (i := 43) rfl)) (hw _ (List.mem_of_getElem? (i := 44) rfl)) (notFace_of_selects (args := #[]) (mvT hZ (hw _ (List.mem_of_getElem? (i := 46) rfl)))) (hw _ (List.mem_of_getElem? (i := 46) rfl)) (hw _ (List.mem_of_getElem? (i := 45) rfl)) (hw _ (List.mem_of_getElem? (i := 47) rfl)) (hw _ (List.mem_of_getElem? (i := 7) rfl)) (by decide) (a := r1) E1 (own_slen4 l Z a0 hw [] (r1) (ba) (kb) (cd) (ln) (vs) (zcs) h0 n0 Z0 O0 S_cs (by first | assumption | decide) E1 F1 F2 V1 (by first | assumption | decide)) 1 (by decide) (by decide) (by decide) (by decide) e104 (g := (mkF m 8 #[.val (.long sd), .second, rv r1, .val (.long ((((sd ^^^ (x0).toInt64) * (-7046029254386353131 : Int64)) ^^^ (x1).toInt64) * (-7046029254386353131 : Int64))), .second, iv (2 : Int32)] [(.ref r1), (.int (2 : Int32))])) rfl (by rw [hml]; rfl) (argsL := []) (rest := [(.int (2 : Int32))]) (lenOf own_pd14 rfl) rfl (by show 2 * 0 + _ ≤ _; exact Nat.le_of_eq rfl) (hb hby own_d8_8) ?_
  intro v105 T105 L105 X105 q105
  obtain ⟨rfl, N105q, e105⟩ := q105
  have N105 := Fr.app N104 N105q
  show own_Goes p e below s _ _ _ T105 (mkF m 11 #[.val (.long sd), .second, rv r1, .val (.long ((((sd ^^^ (x0).toInt64) * (-7046029254386353131 : Int64)) ^^^ (x1).toInt64) * (-7046029254386353131 : Int64))), .second, iv (2 : Int32)] [(.int (4 : Int32)), (.int (2 : Int32))])
  refine own_by (g' := (mkF m 18 #[.val (.long sd), .second, rv r1, .val (.long ((((sd ^^^ (x0).toInt64) * (-7046029254386353131 : Int64)) ^^^ (x1).toInt64) * (-7046029254386353131 : Int64))), .second, iv (2 : Int32)] [(.int (2 : Int32)), (.ref r1), (.long ((((sd ^^^ (x0).toInt64) * (-7046029254386353131 : Int64)) ^^^ (x1).toInt64) * (-7046029254386353131 : Int64)))])) (fun t k => XS.icmpNo X105.here hx rfl (hb hby own_d8_11) rfl (tlt (by decide : (2 : Int32) < (4 : Int32))).2.1 (XS.lloadN X105.here hx rfl (hb hby own_d8_14) rfl (XS.aloadN X105.here hx rfl (hb hby own_d8_15) rfl rfl (XS.iload X105.here hx rfl (hb hby own_d8_16) rfl k)))) ?_
  refine own_callV X105 hx hZ hown (hw _ (List.mem_of_getElem? (i := 53) rfl)) (hw _ (List.mem_of_getElem? (i := 54) rfl)) (notFace_of_selects (args := #[]) (mvT hZ (hw _ (List.mem_of_getElem? (i := 56) rfl)))) (hw _ (List.mem_of_getElem? (i := 56) rfl)) (hw _ (List.mem_of_getElem? (i := 55) rfl)) (hw _ (List.mem_of_getElem? (i := 57) rfl)) (hw _ (List.mem_of_getElem? (i := 7) rfl)) (by decide) (a := r1) E1 (own_schar2 l Z a0 hw [] (r1) (ba) (kb) (cd) (ln) (vs) (x2) (zcs) (vsf) h0 n0 Z0 O0 S_cs (by first | assumption | decide) S_ad S_hi S_lo S_sf r_sf E1 F1 F2 V1 (by first | assumption | decide) (by first | assumption | decide)) 2 (by decide) (by decide) (by decide) (by decide) e105 (g := (mkF m 18 #[.val (.long sd), .second, rv r1, .val (.long ((((sd ^^^ (x0).toInt64) * (-7046029254386353131 : Int64)) ^^^ (x1).toInt64) * (-7046029254386353131 : Int64))), .second, iv (2 : Int32)] [(.int (2 : Int32)), (.ref r1), (.long ((((sd ^^^ (x0).toInt64) * (-7046029254386353131 : Int64)) ^^^ (x1).toInt64) * (-7046029254386353131 : Int64)))])) rfl (by rw [hml]; rfl) (argsL := [(.int (2 : Int32))]) (rest := [(.long ((((sd ^^^ (x0).toInt64) * (-7046029254386353131 : Int64)) ^^^ (x1).toInt64) * (-7046029254386353131 : Int64)))]) (lenOf own_pd15 rfl) rfl (by show 2 * 0 + _ ≤ _; exact Nat.le_of_eq rfl) (hb hby own_d8_18) ?_
  intro v106 T106 L106 X106 q106
  obtain ⟨rfl, N106q, e106⟩ := q106
  have N106 := Fr.app N105 N106q
  show own_Goes p e below s _ _ _ T106 (mkF m 21 #[.val (.long sd), .second, rv r1, .val (.long ((((sd ^^^ (x0).toInt64) * (-7046029254386353131 : Int64)) ^^^ (x1).toInt64) * (-7046029254386353131 : Int64))), .second, iv (2 : Int32)] [(.int x2), (.long ((((sd ^^^ (x0).toInt64) * (-7046029254386353131 : Int64)) ^^^ (x1).toInt64) * (-7046029254386353131 : Int64)))])
  refine own_by (g' := (mkF m 7 #[.val (.long sd), .second, rv r1, .val (.long ((((((sd ^^^ (x0).toInt64) * (-7046029254386353131 : Int64)) ^^^ (x1).toInt64) * (-7046029254386353131 : Int64)) ^^^ (x2).toInt64) * (-7046029254386353131 : Int64))), .second, iv (3 : Int32)] [(.int (3 : Int32))])) (fun t k => XS.i2l X106.here hx rfl (hb hby own_d8_21) rfl (XS.lxor X106.here hx rfl (hb hby own_d8_22) rfl (X106.ldc2Long hx hown (mvT hZ (hw _ (List.mem_of_getElem? (i := 75) rfl))) (g := (mkF m 23 #[.val (.long sd), .second, rv r1, .val (.long ((((sd ^^^ (x0).toInt64) * (-7046029254386353131 : Int64)) ^^^ (x1).toInt64) * (-7046029254386353131 : Int64))), .second, iv (2 : Int32)] [(.long (((((sd ^^^ (x0).toInt64) * (-7046029254386353131 : Int64)) ^^^ (x1).toInt64) * (-7046029254386353131 : Int64)) ^^^ (x2).toInt64))])) rfl (hb hby own_d8_23) t (XS.lmul X106.here hx rfl (hb hby own_d8_26) rfl (XS.lstoreN X106.here hx rfl (hb hby own_d8_27) rfl (l' := #[.val (.long sd), .second, rv r1, .val (.long ((((((sd ^^^ (x0).toInt64) * (-7046029254386353131 : Int64)) ^^^ (x1).toInt64) * (-7046029254386353131 : Int64)) ^^^ (x2).toInt64) * (-7046029254386353131 : Int64))), .second, iv (2 : Int32)]) rfl (XS.iinc X106.here hx rfl (hb hby own_d8_28) rfl (l' := #[.val (.long sd), .second, rv r1, .val (.long ((((((sd ^^^ (x0).toInt64) * (-7046029254386353131 : Int64)) ^^^ (x1).toInt64) * (-7046029254386353131 : Int64)) ^^^ (x2).toInt64) * (-7046029254386353131 : Int64))), .second, iv (3 : Int32)]) rfl (XS.goto X106.here hx rfl (pc0 := 31) (pc' := 5) rfl (hb hby own_d8_31) (by decide) (by decide) (XS.iload X106.here hx rfl (hb hby own_d8_5) rfl k)))))))) ?_
  refine own_by (g' := (mkF m 8 #[.val (.long sd), .second, rv r1, .val (.long ((((((sd ^^^ (x0).toInt64) * (-7046029254386353131 : Int64)) ^^^ (x1).toInt64) * (-7046029254386353131 : Int64)) ^^^ (x2).toInt64) * (-7046029254386353131 : Int64))), .second, iv (3 : Int32)] [(.ref r1), (.int (3 : Int32))])) (fun t k => XS.aloadN X106.here hx rfl (hb hby own_d8_7) rfl rfl k) ?_
  refine own_callV X106 hx hZ hown (hw _ (List.mem_of_getElem? (i := 43) rfl)) (hw _ (List.mem_of_getElem? (i := 44) rfl)) (notFace_of_selects (args := #[]) (mvT hZ (hw _ (List.mem_of_getElem? (i := 46) rfl)))) (hw _ (List.mem_of_getElem? (i := 46) rfl)) (hw _ (List.mem_of_getElem? (i := 45) rfl)) (hw _ (List.mem_of_getElem? (i := 47) rfl)) (hw _ (List.mem_of_getElem? (i := 7) rfl)) (by decide) (a := r1) E1 (own_slen4 l Z a0 hw [] (r1) (ba) (kb) (cd) (ln) (vs) (zcs) h0 n0 Z0 O0 S_cs (by first | assumption | decide) E1 F1 F2 V1 (by first | assumption | decide)) 1 (by decide) (by decide) (by decide) (by decide) e106 (g := (mkF m 8 #[.val (.long sd), .second, rv r1, .val (.long ((((((sd ^^^ (x0).toInt64) * (-7046029254386353131 : Int64)) ^^^ (x1).toInt64) * (-7046029254386353131 : Int64)) ^^^ (x2).toInt64) * (-7046029254386353131 : Int64))), .second, iv (3 : Int32)] [(.ref r1), (.int (3 : Int32))])) rfl (by rw [hml]; rfl) (argsL := []) (rest := [(.int (3 : Int32))]) (lenOf own_pd14 rfl) rfl (by show 2 * 0 + _ ≤ _; exact Nat.le_of_eq rfl) (hb hby own_d8_8) ?_
  intro v107 T107 L107 X107 q107
  obtain ⟨rfl, N107q, e107⟩ := q107
  have N107 := Fr.app N106 N107q
  show own_Goes p e below s _ _ _ T107 (mkF m 11 #[.val (.long sd), .second, rv r1, .val (.long ((((((sd ^^^ (x0).toInt64) * (-7046029254386353131 : Int64)) ^^^ (x1).toInt64) * (-7046029254386353131 : Int64)) ^^^ (x2).toInt64) * (-7046029254386353131 : Int64))), .second, iv (3 : Int32)] [(.int (4 : Int32)), (.int (3 : Int32))])
  refine own_by (g' := (mkF m 18 #[.val (.long sd), .second, rv r1, .val (.long ((((((sd ^^^ (x0).toInt64) * (-7046029254386353131 : Int64)) ^^^ (x1).toInt64) * (-7046029254386353131 : Int64)) ^^^ (x2).toInt64) * (-7046029254386353131 : Int64))), .second, iv (3 : Int32)] [(.int (3 : Int32)), (.ref r1), (.long ((((((sd ^^^ (x0).toInt64) * (-7046029254386353131 : Int64)) ^^^ (x1).toInt64) * (-7046029254386353131 : Int64)) ^^^ (x2).toInt64) * (-7046029254386353131 : Int64)))])) (fun t k => XS.icmpNo X107.here hx rfl (hb hby own_d8_11) rfl (tlt (by decide : (3 : Int32) < (4 : Int32))).2.1 (XS.lloadN X107.here hx rfl (hb hby own_d8_14) rfl (XS.aloadN X107.here hx rfl (hb hby own_d8_15) rfl rfl (XS.iload X107.here hx rfl (hb hby own_d8_16) rfl k)))) ?_
  refine own_callV X107 hx hZ hown (hw _ (List.mem_of_getElem? (i := 53) rfl)) (hw _ (List.mem_of_getElem? (i := 54) rfl)) (notFace_of_selects (args := #[]) (mvT hZ (hw _ (List.mem_of_getElem? (i := 56) rfl)))) (hw _ (List.mem_of_getElem? (i := 56) rfl)) (hw _ (List.mem_of_getElem? (i := 55) rfl)) (hw _ (List.mem_of_getElem? (i := 57) rfl)) (hw _ (List.mem_of_getElem? (i := 7) rfl)) (by decide) (a := r1) E1 (own_schar3 l Z a0 hw [] (r1) (ba) (kb) (cd) (ln) (vs) (x3) (zcs) (vsf) h0 n0 Z0 O0 S_cs (by first | assumption | decide) S_ad S_hi S_lo S_sf r_sf E1 F1 F2 V1 (by first | assumption | decide) (by first | assumption | decide)) 2 (by decide) (by decide) (by decide) (by decide) e107 (g := (mkF m 18 #[.val (.long sd), .second, rv r1, .val (.long ((((((sd ^^^ (x0).toInt64) * (-7046029254386353131 : Int64)) ^^^ (x1).toInt64) * (-7046029254386353131 : Int64)) ^^^ (x2).toInt64) * (-7046029254386353131 : Int64))), .second, iv (3 : Int32)] [(.int (3 : Int32)), (.ref r1), (.long ((((((sd ^^^ (x0).toInt64) * (-7046029254386353131 : Int64)) ^^^ (x1).toInt64) * (-7046029254386353131 : Int64)) ^^^ (x2).toInt64) * (-7046029254386353131 : Int64)))])) rfl (by rw [hml]; rfl) (argsL := [(.int (3 : Int32))]) (rest := [(.long ((((((sd ^^^ (x0).toInt64) * (-7046029254386353131 : Int64)) ^^^ (x1).toInt64) * (-7046029254386353131 : Int64)) ^^^ (x2).toInt64) * (-7046029254386353131 : Int64)))]) (lenOf own_pd15 rfl) rfl (by show 2 * 0 + _ ≤ _; exact Nat.le_of_eq rfl) (hb hby own_d8_18) ?_
  intro v108 T108 L108 X108 q108
  obtain ⟨rfl, N108q, e108⟩ := q108
  have N108 := Fr.app N107 N108q
  show own_Goes p e below s _ _ _ T108 (mkF m 21 #[.val (.long sd), .second, rv r1, .val (.long ((((((sd ^^^ (x0).toInt64) * (-7046029254386353131 : Int64)) ^^^ (x1).toInt64) * (-7046029254386353131 : Int64)) ^^^ (x2).toInt64) * (-7046029254386353131 : Int64))), .second, iv (3 : Int32)] [(.int x3), (.long ((((((sd ^^^ (x0).toInt64) * (-7046029254386353131 : Int64)) ^^^ (x1).toInt64) * (-7046029254386353131 : Int64)) ^^^ (x2).toInt64) * (-7046029254386353131 : Int64)))])
  refine own_by (g' := (mkF m 7 #[.val (.long sd), .second, rv r1, .val (.long ((((((((sd ^^^ (x0).toInt64) * (-7046029254386353131 : Int64)) ^^^ (x1).toInt64) * (-7046029254386353131 : Int64)) ^^^ (x2).toInt64) * (-7046029254386353131 : Int64)) ^^^ (x3).toInt64) * (-7046029254386353131 : Int64))), .second, iv (4 : Int32)] [(.int (4 : Int32))])) (fun t k => XS.i2l X108.here hx rfl (hb hby own_d8_21) rfl (XS.lxor X108.here hx rfl (hb hby own_d8_22) rfl (X108.ldc2Long hx hown (mvT hZ (hw _ (List.mem_of_getElem? (i := 75) rfl))) (g := (mkF m 23 #[.val (.long sd), .second, rv r1, .val (.long ((((((sd ^^^ (x0).toInt64) * (-7046029254386353131 : Int64)) ^^^ (x1).toInt64) * (-7046029254386353131 : Int64)) ^^^ (x2).toInt64) * (-7046029254386353131 : Int64))), .second, iv (3 : Int32)] [(.long (((((((sd ^^^ (x0).toInt64) * (-7046029254386353131 : Int64)) ^^^ (x1).toInt64) * (-7046029254386353131 : Int64)) ^^^ (x2).toInt64) * (-7046029254386353131 : Int64)) ^^^ (x3).toInt64))])) rfl (hb hby own_d8_23) t (XS.lmul X108.here hx rfl (hb hby own_d8_26) rfl (XS.lstoreN X108.here hx rfl (hb hby own_d8_27) rfl (l' := #[.val (.long sd), .second, rv r1, .val (.long ((((((((sd ^^^ (x0).toInt64) * (-7046029254386353131 : Int64)) ^^^ (x1).toInt64) * (-7046029254386353131 : Int64)) ^^^ (x2).toInt64) * (-7046029254386353131 : Int64)) ^^^ (x3).toInt64) * (-7046029254386353131 : Int64))), .second, iv (3 : Int32)]) rfl (XS.iinc X108.here hx rfl (hb hby own_d8_28) rfl (l' := #[.val (.long sd), .second, rv r1, .val (.long ((((((((sd ^^^ (x0).toInt64) * (-7046029254386353131 : Int64)) ^^^ (x1).toInt64) * (-7046029254386353131 : Int64)) ^^^ (x2).toInt64) * (-7046029254386353131 : Int64)) ^^^ (x3).toInt64) * (-7046029254386353131 : Int64))), .second, iv (4 : Int32)]) rfl (XS.goto X108.here hx rfl (pc0 := 31) (pc' := 5) rfl (hb hby own_d8_31) (by decide) (by decide) (XS.iload X108.here hx rfl (hb hby own_d8_5) rfl k)))))))) ?_
  refine own_by (g' := (mkF m 8 #[.val (.long sd), .second, rv r1, .val (.long ((((((((sd ^^^ (x0).toInt64) * (-7046029254386353131 : Int64)) ^^^ (x1).toInt64) * (-7046029254386353131 : Int64)) ^^^ (x2).toInt64) * (-7046029254386353131 : Int64)) ^^^ (x3).toInt64) * (-7046029254386353131 : Int64))), .second, iv (4 : Int32)] [(.ref r1), (.int (4 : Int32))])) (fun t k => XS.aloadN X108.here hx rfl (hb hby own_d8_7) rfl rfl k) ?_
  refine own_callV X108 hx hZ hown (hw _ (List.mem_of_getElem? (i := 43) rfl)) (hw _ (List.mem_of_getElem? (i := 44) rfl)) (notFace_of_selects (args := #[]) (mvT hZ (hw _ (List.mem_of_getElem? (i := 46) rfl)))) (hw _ (List.mem_of_getElem? (i := 46) rfl)) (hw _ (List.mem_of_getElem? (i := 45) rfl)) (hw _ (List.mem_of_getElem? (i := 47) rfl)) (hw _ (List.mem_of_getElem? (i := 7) rfl)) (by decide) (a := r1) E1 (own_slen4 l Z a0 hw [] (r1) (ba) (kb) (cd) (ln) (vs) (zcs) h0 n0 Z0 O0 S_cs (by first | assumption | decide) E1 F1 F2 V1 (by first | assumption | decide)) 1 (by decide) (by decide) (by decide) (by decide) e108 (g := (mkF m 8 #[.val (.long sd), .second, rv r1, .val (.long ((((((((sd ^^^ (x0).toInt64) * (-7046029254386353131 : Int64)) ^^^ (x1).toInt64) * (-7046029254386353131 : Int64)) ^^^ (x2).toInt64) * (-7046029254386353131 : Int64)) ^^^ (x3).toInt64) * (-7046029254386353131 : Int64))), .second, iv (4 : Int32)] [(.ref r1), (.int (4 : Int32))])) rfl (by rw [hml]; rfl) (argsL := []) (rest := [(.int (4 : Int32))]) (lenOf own_pd14 rfl) rfl (by show 2 * 0 + _ ≤ _; exact Nat.le_of_eq rfl) (hb hby own_d8_8) ?_
  intro v109 T109 L109 X109 q109
  obtain ⟨rfl, N109q, e109⟩ := q109
  have N109 := Fr.app N108 N109q
  show own_Goes p e below s _ _ _ T109 (mkF m 11 #[.val (.long sd), .second, rv r1, .val (.long ((((((((sd ^^^ (x0).toInt64) * (-7046029254386353131 : Int64)) ^^^ (x1).toInt64) * (-7046029254386353131 : Int64)) ^^^ (x2).toInt64) * (-7046029254386353131 : Int64)) ^^^ (x3).toInt64) * (-7046029254386353131 : Int64))), .second, iv (4 : Int32)] [(.int (4 : Int32)), (.int (4 : Int32))])
  refine own_by (g' := (mkF m 41 #[.val (.long sd), .second, rv r1, .val (.long ((((((((sd ^^^ (x0).toInt64) * (-7046029254386353131 : Int64)) ^^^ (x1).toInt64) * (-7046029254386353131 : Int64)) ^^^ (x2).toInt64) * (-7046029254386353131 : Int64)) ^^^ (x3).toInt64) * (-7046029254386353131 : Int64))), .second, iv (4 : Int32)] [(.int ((((((((((((sd ^^^ (x0).toInt64) * (-7046029254386353131 : Int64)) ^^^ (x1).toInt64) * (-7046029254386353131 : Int64)) ^^^ (x2).toInt64) * (-7046029254386353131 : Int64)) ^^^ (x3).toInt64) * (-7046029254386353131 : Int64))).toUInt64 >>> ((32 : Int32) &&& 0x3f).toInt64.toUInt64).toInt64).toInt32 ||| (1 : Int32)))])) (fun t k => XS.icmpYes X109.here hx rfl (pc0 := 11) (pc' := 34) rfl (hb hby own_d8_11) rfl (flt (by decide : ¬ ((4 : Int32) < (4 : Int32)))).2.1 (by decide) (by decide) (XS.lloadN X109.here hx rfl (hb hby own_d8_34) rfl (XS.bipush X109.here hx rfl (hb hby own_d8_35) (XS.lushr X109.here hx rfl (hb hby own_d8_37) rfl (XS.l2i X109.here hx rfl (hb hby own_d8_38) rfl (XS.iconst X109.here hx rfl (hb hby own_d8_39) (XS.ior X109.here hx rfl (hb hby own_d8_40) rfl k))))))) ?_
  refine own_retI X109 hx hlk hret (hb hby own_d8_41) (by decide) (by decide) ?_
  exact ⟨rfl, N109, e109⟩
theorem own_pn5 : plainName "com/example/tallysieve/tallysieve/KeyIndexTagPinLaw" = true := by first | (simp [plainName, overriddenIn]; done) | decide +kernel
theorem own_d1_0 : decode method_3_code 0 = .ok (.iload_n 0, 1) := by decide +kernel
theorem own_d1_1 : decode method_3_code 1 = .ok (.ifCond .gt 6, 3) := by decide +kernel
theorem own_d1_7 : decode method_3_code 7 = .ok (.iload_n 0, 1) := by decide +kernel
theorem own_d1_8 : decode method_3_code 8 = .ok (.iconst 1, 1) := by decide +kernel
theorem own_d1_9 : decode method_3_code 9 = .ok (.if_icmp .ne 18, 3) := by decide +kernel
theorem own_d1_12 : decode method_3_code 12 = .ok (.new 24, 3) := by decide +kernel
theorem own_d1_15 : decode method_3_code 15 = .ok (.dup, 1) := by decide +kernel
theorem own_d1_16 : decode method_3_code 16 = .ok (.iconst 1, 1) := by decide +kernel
theorem own_d1_17 : decode method_3_code 17 = .ok (.newarray .char, 2) := by decide +kernel
theorem own_ad_char : "[" ++ (newarray.typeOf .char).toString = "[C" := by decide +kernel
theorem own_d1_19 : decode method_3_code 19 = .ok (.dup, 1) := by decide +kernel
theorem own_d1_20 : decode method_3_code 20 = .ok (.iconst 0, 1) := by decide +kernel
theorem own_d1_21 : decode method_3_code 21 = .ok (.iload_n 1, 1) := by decide +kernel
theorem own_d1_22 : decode method_3_code 22 = .ok (.castore, 1) := by decide +kernel
theorem own_d1_23 : decode method_3_code 23 = .ok (.invokespecial 26, 3) := by decide +kernel
theorem own_pd16 : parseMethodDescriptor "([C)V" = some ⟨[(.array .char)], none⟩ := by decide +kernel
theorem own_d1_26 : decode method_3_code 26 = .ok (.areturn, 1) := by decide +kernel
def Q_own_str_1 (Z : State) (x0 : Int32) (x1 : Int32) (x2 : Int32) (x3 : Int32) (zcs : Int32) (h0 : Heap) (n0 : Nat) (v : Option Value) (h : Heap) (L : List Loc) : Prop := ∃ (ro : Addr), ∃ (ba : Addr), ∃ (kb : ClassId), ∃ (cd : Int32), ∃ (ln : Int32), ∃ (vs : List Value), v = some (.ref ro) ∧ Fr n0 L ∧ Keep h0 h [] ∧ h0.size ≤ ro ∧ Exa Z h ro "java/lang/String" ∧ Fld Z h ro "java/lang/String" "value" "[B" (.ref ba) ∧ Fld Z h ro "java/lang/String" "coder" "B" (.int cd) ∧ Arv Z h ba kb .byte ln vs (.int (0 : Int32)) ∧ own_len (1 : Int32) (2 : Int32) cd ln ∧ own_cA0 x0 cd ln vs
theorem own_ef_own_str_1 (m : MethodId) (x0 : Int32) (x1 : Int32) (x2 : Int32) (x3 : Int32) : entryFrame m #[(.int (1 : Int32)), (.int x0), (.int x1), (.int x2), (.int x3)] 5 = mkF m 0 #[iv (1 : Int32), iv x0, iv x1, iv x2, iv x3] [] := by first | (simp [entryFrame, mkF, argsToLocals, Value.category]; done) | rfl
set_option maxRecDepth 65536 in
set_option maxHeartbeats 40000000 in
theorem own_str_1 (l : Launch) (Z : State) (a0 : Array Value) (hw : ∀ d ∈ tables_1, d.before a0 Z = true) (ws : List Jvm.Cond) (x0 : Int32) (x1 : Int32) (x2 : Int32) (x3 : Int32) (zcs : Int32) (h0 : Heap) (n0 : Nat) (Z0 : n0 ≤ h0.size) (O0 : Old Z n0 h0) (S_cs : Sta Z Z.heap "java/lang/String" "COMPACT_STRINGS" "Z" (.int zcs)) (hcs : ¬ zcs = (0 : Int32)) (S_ad : Sta Z Z.heap "java/lang/StringUTF16" "$assertionsDisabled" "Z" (.int (1 : Int32))) (S_hi : Sta Z Z.heap "java/lang/StringUTF16" "HI_BYTE_SHIFT" "I" (.int (0 : Int32))) (S_lo : Sta Z Z.heap "java/lang/StringUTF16" "LO_BYTE_SHIFT" "I" (.int (8 : Int32))) (hk0 : own_ch x0) (hk1 : own_ch x1) (hk2 : own_ch x2) (hk3 : own_ch x3) :
    own_Ctr l Z (⟨"com/example/tallysieve/tallysieve/KeyIndexTagPinLaw", "str", "(ICCCC)Ljava/lang/String;"⟩ : MethodName) method_3_code 5 (some (.object "java/lang/String")) ws ({ frames := 6, cells := 4, slots := 8, locals := 88 } : Room) (({ frames := 6, cells := 4, slots := 8, locals := 88 } : Room)).cells (({ frames := 6, cells := 4, slots := 8, locals := 88 } : Room)).slots #[(.int (1 : Int32)), (.int x0), (.int x1), (.int x2), (.int x3)] h0 (Q_own_str_1 Z x0 x1 x2 x3 zcs h0 n0) := by
  refine own_enter (plainFor_of_name own_pn5) ?_
  intro p e s m below meth c s₁ X0 hx hZ hby hml hown hnm hlk hret e0
  have N0 := Fr.nil n0
  refine own_cast (own_ef_own_str_1 m x0 x1 x2 x3) ?_
  refine own_by (g' := (mkF m 12 #[iv (1 : Int32), iv x0, iv x1, iv x2, iv x3] [])) (fun t k => XS.iloadN X0.here hx rfl (hb hby own_d1_0) rfl (XS.ifYes X0.here hx rfl (pc0 := 1) (pc' := 7) rfl (hb hby own_d1_1) rfl ((if0 _ _).trans (tlt (by decide : (0 : Int32) < (1 : Int32))).2.2.1) (by decide) (by decide) (XS.iloadN X0.here hx rfl (hb hby own_d1_7) rfl (XS.iconst X0.here hx rfl (hb hby own_d1_8) (XS.icmpNo X0.here hx rfl (hb hby own_d1_9) rfl (teq (by decide : (1 : Int32) = (1 : Int32))).2 k))))) ?_
  obtain ⟨T101, h101, X101, e101, E101, A101, D101, U101, st101⟩ := newO X0 hx hZ hown (hw _ (List.mem_of_getElem? (i := 5) rfl)) (hw _ (List.mem_of_getElem? (i := 6) rfl)) (hw _ (List.mem_of_getElem? (i := 7) rfl)) e0 (g := (mkF m 12 #[iv (1 : Int32), iv x0, iv x1, iv x2, iv x3] [])) rfl (hb hby own_d1_12) (by decide) (by decide)
  obtain ⟨b101, g101⟩ : ∃ z, z = h0.size := ⟨_, rfl⟩
  rw [← g101] at A101 D101 U101 st101
  have sz_b101 : h0.size ≤ b101 := Nat.le_trans (Nat.le_refl _) (Nat.le_of_eq g101.symm)
  have g_b101 : n0 ≤ b101 := Nat.le_trans Z0 sz_b101
  have f102 : Fld Z h101 b101 "java/lang/String" "coder" "B" (.int (0 : Int32)) := D101 (Or.inr (hw _ (List.mem_of_getElem? (i := 32) rfl))) (ty := .byte) (by decide)
  have f103 : Fld Z h101 b101 "java/lang/String" "value" "[B" .null := D101 (Or.inr (hw _ (List.mem_of_getElem? (i := 34) rfl))) (ty := (.array .byte)) (by decide)
  refine own_by (g' := (mkF m 15 #[iv (1 : Int32), iv x0, iv x1, iv x2, iv x3] [(.ref b101)])) st101 ?_
  refine own_by (g' := (mkF m 17 #[iv (1 : Int32), iv x0, iv x1, iv x2, iv x3] [(.int (1 : Int32)), (.ref b101), (.ref b101)])) (fun t k => XS.dup X101.here hx rfl (hb hby own_d1_15) rfl rfl (XS.iconst X101.here hx rfl (hb hby own_d1_16) k)) ?_
  obtain ⟨T104, h104, k104, X104, e104, E104, A104, Y104, st104⟩ := newPE X101 hx hZ (hw _ (List.mem_of_getElem? (i := 8) rfl)) e101 (g := (mkF m 17 #[iv (1 : Int32), iv x0, iv x1, iv x2, iv x3] [(.int (1 : Int32)), (.ref b101), (.ref b101)])) rfl (hb hby own_d1_17) rfl (by decide) (cap := 1) (by decide) (by decide) (by decide) (by decide) (ad := "[C") own_ad_char
  obtain ⟨b104, g104⟩ : ∃ z, z = h101.size := ⟨_, rfl⟩
  rw [← g104] at A104 Y104 st104
  have sz_b104 : h0.size ≤ b104 := Nat.le_trans E101.1 (Nat.le_of_eq g104.symm)
  have g_b104 : n0 ≤ b104 := Nat.le_trans Z0 sz_b104
  have V104 : Arv Z h104 b104 k104 .char (1 : Int32) [(.int (0 : Int32))] (.int (0 : Int32)) := (Arv.new A104 (by decide)).pad (pad_rep [] (.int (0 : Int32)) 1)
  refine own_by (g' := (mkF m 19 #[iv (1 : Int32), iv x0, iv x1, iv x2, iv x3] [(.ref b104), (.ref b101), (.ref b101)])) st104 ?_
  refine own_by (g' := (mkF m 22 #[iv (1 : Int32), iv x0, iv x1, iv x2, iv x3] [(.int x0), (.int (0 : Int32)), (.ref b104), (.ref b104), (.ref b101), (.ref b101)])) (fun t k => XS.dup X104.here hx rfl (hb hby own_d1_19) rfl rfl (XS.iconst X104.here hx rfl (hb hby own_d1_20) (XS.iloadN X104.here hx rfl (hb hby own_d1_21) rfl k))) ?_
  obtain ⟨c105, Ar105, q105, S105, G105, H105, F105⟩ := id V104
  have hin105 : ¬ ((0 : Int32) < 0 ∨ c105.slots.size ≤ ((0 : Int32)).toNatClampNeg) := inb_of S105 ⟨by decide, by decide⟩
  obtain ⟨T105, h105, X105, e105, W105, st105⟩ := stC X104 hx hZ e104 Ar105 (j := (0 : Int32)) hin105 (g := (mkF m 22 #[iv (1 : Int32), iv x0, iv x1, iv x2, iv x3] [(.int x0), (.int (0 : Int32)), (.ref b104), (.ref b104), (.ref b101), (.ref b101)])) rfl rfl (hb hby own_d1_22)
  have V106 : Arv Z h105 b104 k104 .char (1 : Int32) [(.int x0)] (.int (0 : Int32)) := Arv.set Ar105 q105 S105 G105 H105 F105 (by have q := fits_nar_char x0; rw [show nar .char x0 = x0 from hk0] at q; exact q) (own_wr W105 (congrArg Value.int hk0)) 0 rfl (Nat.le_of_ble_eq_true rfl)
  have N105 := Fr.snoc X105 N0 g_b104
  refine own_by (g' := (mkF m 23 #[iv (1 : Int32), iv x0, iv x1, iv x2, iv x3] [(.ref b104), (.ref b101), (.ref b101)])) st105 ?_
  have f107 := (((O0.ext E101).ext E104).wr W105 g_b104)
  have f108 := ((A101.ext E104).wr W105)
  have f109 := ((f103.ext E104).other W105 (Or.inl (Nat.ne_of_lt (Nat.lt_of_lt_of_le (Nat.lt_of_lt_of_le A101.lt (Nat.le_refl _)) (Nat.le_of_eq g104.symm)))))
  have f110 := ((f102.ext E104).other W105 (Or.inl (Nat.ne_of_lt (Nat.lt_of_lt_of_le (Nat.lt_of_lt_of_le A101.lt (Nat.le_refl _)) (Nat.le_of_eq g104.symm)))))
  refine own_callI X105 hx hZ hown rfl (hw _ (List.mem_of_getElem? (i := 9) rfl)) (hw _ (List.mem_of_getElem? (i := 10) rfl)) (hw _ (List.mem_of_getElem? (i := 7) rfl)) (hw _ (List.mem_of_getElem? (i := 11) rfl)) (by decide) (a := b101) (own_ini1_1 l Z a0 hw [] (b101) (b104) (k104) (x0) (zcs) h105 n0 (Nat.le_trans Z0 (Nat.le_trans (Nat.le_trans E101.1 E104.1) (Nat.le_of_eq W105.size.symm))) f107 S_cs (by first | assumption | decide) S_ad S_hi S_lo (by first | assumption | decide) f108 f109 f110 g_b101 V106) 1 (by decide) (by decide) (by decide) (by decide) e105 (g := (mkF m 23 #[iv (1 : Int32), iv x0, iv x1, iv x2, iv x3] [(.ref b104), (.ref b101), (.ref b101)])) rfl (by rw [hml]; rfl) (argsL := [(.ref b104)]) (rest := [(.ref b101)]) (lenOf own_pd16 rfl) rfl (by show 2 * 0 + _ ≤ _; exact Nat.le_of_eq rfl) (hb hby own_d1_23) ?_
  intro v111 T111 L111 X111 q111
  obtain ⟨ba111, kb111, cd111, ln111, vs111, rfl, N111q, K111, f112, f113, f114, f115, f116, f117, f118⟩ := q111
  have N111 := Fr.app N105 N111q
  show own_Goes p e below s _ _ _ T111 (mkF m 26 #[iv (1 : Int32), iv x0, iv x1, iv x2, iv x3] [(.ref b101)])
  refine own_retA X111 hx hlk hret rfl rfl (hb hby own_d1_26) (by decide) (by decide) ?_
  exact ⟨b101, ba111, kb111, cd111, ln111, vs111, rfl, N111, (((((Keep.refl h0 []).ext E101).ext E104).wr W105 (Or.inr sz_b104)).trans K111 (allS (Or.inr sz_b101) all0)), sz_b101, f113, f114, f115, f116, (own_sl1 f118), (own_sc1_0 hk0 f118)⟩
theorem own_d1_27 : decode method_3_code 27 = .ok (.iload_n 0, 1) := by decide +kernel
theorem own_d1_28 : decode method_3_code 28 = .ok (.iconst 2, 1) := by decide +kernel
theorem own_d1_29 : decode method_3_code 29 = .ok (.if_icmp .ne 22, 3) := by decide +kernel
theorem own_d1_32 : decode method_3_code 32 = .ok (.new 24, 3) := by decide +kernel
theorem own_d1_35 : decode method_3_code 35 = .ok (.dup, 1) := by decide +kernel
theorem own_d1_36 : decode method_3_code 36 = .ok (.iconst 2, 1) := by decide +kernel
theorem own_d1_37 : decode method_3_code 37 = .ok (.newarray .char, 2) := by decide +kernel
theorem own_d1_39 : decode method_3_code 39 = .ok (.dup, 1) := by decide +kernel
theorem own_d1_40 : decode method_3_code 40 = .ok (.iconst 0, 1) := by decide +kernel
theorem own_d1_41 : decode method_3_code 41 = .ok (.iload_n 1, 1) := by decide +kernel
theorem own_d1_42 : decode method_3_code 42 = .ok (.castore, 1) := by decide +kernel
theorem own_d1_43 : decode method_3_code 43 = .ok (.dup, 1) := by decide +kernel
theorem own_d1_44 : decode method_3_code 44 = .ok (.iconst 1, 1) := by decide +kernel
theorem own_d1_45 : decode method_3_code 45 = .ok (.iload_n 2, 1) := by decide +kernel
theorem own_d1_46 : decode method_3_code 46 = .ok (.castore, 1) := by decide +kernel
theorem own_d1_47 : decode method_3_code 47 = .ok (.invokespecial 26, 3) := by decide +kernel
theorem own_d1_50 : decode method_3_code 50 = .ok (.areturn, 1) := by decide +kernel
def Q_own_str_2 (Z : State) (x0 : Int32) (x1 : Int32) (x2 : Int32) (x3 : Int32) (zcs : Int32) (h0 : Heap) (n0 : Nat) (v : Option Value) (h : Heap) (L : List Loc) : Prop := ∃ (ro : Addr), ∃ (ba : Addr), ∃ (kb : ClassId), ∃ (cd : Int32), ∃ (ln : Int32), ∃ (vs : List Value), v = some (.ref ro) ∧ Fr n0 L ∧ Keep h0 h [] ∧ h0.size ≤ ro ∧ Exa Z h ro "java/lang/String" ∧ Fld Z h ro "java/lang/String" "value" "[B" (.ref ba) ∧ Fld Z h ro "java/lang/String" "coder" "B" (.int cd) ∧ Arv Z h ba kb .byte ln vs (.int (0 : Int32)) ∧ own_len (2 : Int32) (4 : Int32) cd ln ∧ own_cA0 x0 cd ln vs ∧ own_cA1 x1 cd ln vs
theorem own_ef_own_str_2 (m : MethodId) (x0 : Int32) (x1 : Int32) (x2 : Int32) (x3 : Int32) : entryFrame m #[(.int (2 : Int32)), (.int x0), (.int x1), (.int x2), (.int x3)] 5 = mkF m 0 #[iv (2 : Int32), iv x0, iv x1, iv x2, iv x3] [] := by first | (simp [entryFrame, mkF, argsToLocals, Value.category]; done) | rfl
set_option maxRecDepth 65536 in
set_option maxHeartbeats 40000000 in
theorem own_str_2 (l : Launch) (Z : State) (a0 : Array Value) (hw : ∀ d ∈ tables_1, d.before a0 Z = true) (ws : List Jvm.Cond) (x0 : Int32) (x1 : Int32) (x2 : Int32) (x3 : Int32) (zcs : Int32) (h0 : Heap) (n0 : Nat) (Z0 : n0 ≤ h0.size) (O0 : Old Z n0 h0) (S_cs : Sta Z Z.heap "java/lang/String" "COMPACT_STRINGS" "Z" (.int zcs)) (hcs : ¬ zcs = (0 : Int32)) (S_ad : Sta Z Z.heap "java/lang/StringUTF16" "$assertionsDisabled" "Z" (.int (1 : Int32))) (S_hi : Sta Z Z.heap "java/lang/StringUTF16" "HI_BYTE_SHIFT" "I" (.int (0 : Int32))) (S_lo : Sta Z Z.heap "java/lang/StringUTF16" "LO_BYTE_SHIFT" "I" (.int (8 : Int32))) (hk0 : own_ch x0) (hk1 : own_ch x1) (hk2 : own_ch x2) (hk3 : own_ch x3) :
    own_Ctr l Z (⟨"com/example/tallysieve/tallysieve/KeyIndexTagPinLaw", "str", "(ICCCC)Ljava/lang/String;"⟩ : MethodName) method_3_code 5 (some (.object "java/lang/String")) ws ({ frames := 6, cells := 4, slots := 12, locals := 88 } : Room) (({ frames := 6, cells := 4, slots := 12, locals := 88 } : Room)).cells (({ frames := 6, cells := 4, slots := 12, locals := 88 } : Room)).slots #[(.int (2 : Int32)), (.int x0), (.int x1), (.int x2), (.int x3)] h0 (Q_own_str_2 Z x0 x1 x2 x3 zcs h0 n0) := by
  refine own_enter (plainFor_of_name own_pn5) ?_
  intro p e s m below meth c s₁ X0 hx hZ hby hml hown hnm hlk hret e0
  have N0 := Fr.nil n0
  refine own_cast (own_ef_own_str_2 m x0 x1 x2 x3) ?_
  refine own_by (g' := (mkF m 32 #[iv (2 : Int32), iv x0, iv x1, iv x2, iv x3] [])) (fun t k => XS.iloadN X0.here hx rfl (hb hby own_d1_0) rfl (XS.ifYes X0.here hx rfl (pc0 := 1) (pc' := 7) rfl (hb hby own_d1_1) rfl ((if0 _ _).trans (tlt (by decide : (0 : Int32) < (2 : Int32))).2.2.1) (by decide) (by decide) (XS.iloadN X0.here hx rfl (hb hby own_d1_7) rfl (XS.iconst X0.here hx rfl (hb hby own_d1_8) (XS.icmpYes X0.here hx rfl (pc0 := 9) (pc' := 27) rfl (hb hby own_d1_9) rfl (feq (by decide : ¬ ((2 : Int32) = (1 : Int32)))).2 (by decide) (by decide) (XS.iloadN X0.here hx rfl (hb hby own_d1_27) rfl (XS.iconst X0.here hx rfl (hb hby own_d1_28) (XS.icmpNo X0.here hx rfl (hb hby own_d1_29) rfl (teq (by decide : (2 : Int32) = (2 : Int32))).2 k)))))))) ?_
  obtain ⟨T101, h101, X101, e101, E101, A101, D101, U101, st101⟩ := newO X0 hx hZ hown (hw _ (List.mem_of_getElem? (i := 5) rfl)) (hw _ (List.mem_of_getElem? (i := 6) rfl)) (hw _ (List.mem_of_getElem? (i := 7) rfl)) e0 (g := (mkF m 32 #[iv (2 : Int32), iv x0, iv x1, iv x2, iv x3] [])) rfl (hb hby own_d1_32) (by decide) (by decide)
  obtain ⟨b101, g101⟩ : ∃ z, z = h0.size := ⟨_, rfl⟩
  rw [← g101] at A101 D101 U101 st101
  have sz_b101 : h0.size ≤ b101 := Nat.le_trans (Nat.le_refl _) (Nat.le_of_eq g101.symm)
  have g_b101 : n0 ≤ b101 := Nat.le_trans Z0 sz_b101
  have f102 : Fld Z h101 b101 "java/lang/String" "coder" "B" (.int (0 : Int32)) := D101 (Or.inr (hw _ (List.mem_of_getElem? (i := 32) rfl))) (ty := .byte) (by decide)
  have f103 : Fld Z h101 b101 "java/lang/String" "value" "[B" .null := D101 (Or.inr (hw _ (List.mem_of_getElem? (i := 34) rfl))) (ty := (.array .byte)) (by decide)
  refine own_by (g' := (mkF m 35 #[iv (2 : Int32), iv x0, iv x1, iv x2, iv x3] [(.ref b101)])) st101 ?_
  refine own_by (g' := (mkF m 37 #[iv (2 : Int32), iv x0, iv x1, iv x2, iv x3] [(.int (2 : Int32)), (.ref b101), (.ref b101)])) (fun t k => XS.dup X101.here hx rfl (hb hby own_d1_35) rfl rfl (XS.iconst X101.here hx rfl (hb hby own_d1_36) k)) ?_
  obtain ⟨T104, h104, k104, X104, e104, E104, A104, Y104, st104⟩ := newPE X101 hx hZ (hw _ (List.mem_of_getElem? (i := 8) rfl)) e101 (g := (mkF m 37 #[iv (2 : Int32), iv x0, iv x1, iv x2, iv x3] [(.int (2 : Int32)), (.ref b101), (.ref b101)])) rfl (hb hby own_d1_37) rfl (by decide) (cap := 2) (by decide) (by decide) (by decide) (by decide) (ad := "[C") own_ad_char
  obtain ⟨b104, g104⟩ : ∃ z, z = h101.size := ⟨_, rfl⟩
  rw [← g104] at A104 Y104 st104
  have sz_b104 : h0.size ≤ b104 := Nat.le_trans E101.1 (Nat.le_of_eq g104.symm)
  have g_b104 : n0 ≤ b104 := Nat.le_trans Z0 sz_b104
  have V104 : Arv Z h104 b104 k104 .char (2 : Int32) [(.int (0 : Int32)), (.int (0 : Int32))] (.int (0 : Int32)) := (Arv.new A104 (by decide)).pad (pad_rep [] (.int (0 : Int32)) 2)
  refine own_by (g' := (mkF m 39 #[iv (2 : Int32), iv x0, iv x1, iv x2, iv x3] [(.ref b104), (.ref b101), (.ref b101)])) st104 ?_
  refine own_by (g' := (mkF m 42 #[iv (2 : Int32), iv x0, iv x1, iv x2, iv x3] [(.int x0), (.int (0 : Int32)), (.ref b104), (.ref b104), (.ref b101), (.ref b101)])) (fun t k => XS.dup X104.here hx rfl (hb hby own_d1_39) rfl rfl (XS.iconst X104.here hx rfl (hb hby own_d1_40) (XS.iloadN X104.here hx rfl (hb hby own_d1_41) rfl k))) ?_
  obtain ⟨c105, Ar105, q105, S105, G105, H105, F105⟩ := id V104
  have hin105 : ¬ ((0 : Int32) < 0 ∨ c105.slots.size ≤ ((0 : Int32)).toNatClampNeg) := inb_of S105 ⟨by decide, by decide⟩
  obtain ⟨T105, h105, X105, e105, W105, st105⟩ := stC X104 hx hZ e104 Ar105 (j := (0 : Int32)) hin105 (g := (mkF m 42 #[iv (2 : Int32), iv x0, iv x1, iv x2, iv x3] [(.int x0), (.int (0 : Int32)), (.ref b104), (.ref b104), (.ref b101), (.ref b101)])) rfl rfl (hb hby own_d1_42)
  have V106 : Arv Z h105 b104 k104 .char (2 : Int32) [(.int x0), (.int (0 : Int32))] (.int (0 : Int32)) := Arv.set Ar105 q105 S105 G105 H105 F105 (by have q := fits_nar_char x0; rw [show nar .char x0 = x0 from hk0] at q; exact q) (own_wr W105 (congrArg Value.int hk0)) 0 rfl (Nat.le_of_ble_eq_true rfl)
  have N105 := Fr.snoc X105 N0 g_b104
  refine own_by (g' := (mkF m 43 #[iv (2 : Int32), iv x0, iv x1, iv x2, iv x3] [(.ref b104), (.ref b101), (.ref b101)])) st105 ?_
  refine own_by (g' := (mkF m 46 #[iv (2 : Int32), iv x0, iv x1, iv x2, iv x3] [(.int x1), (.int (1 : Int32)), (.ref b104), (.ref b104), (.ref b101), (.ref b101)])) (fun t k => XS.dup X105.here hx rfl (hb hby own_d1_43) rfl rfl (XS.iconst X105.here hx rfl (hb hby own_d1_44) (XS.iloadN X105.here hx rfl (hb hby own_d1_45) rfl k))) ?_
  obtain ⟨c107, Ar107, q107, S107, G107, H107, F107⟩ := id V106
  have hin107 : ¬ ((1 : Int32) < 0 ∨ c107.slots.size ≤ ((1 : Int32)).toNatClampNeg) := inb_of S107 ⟨by decide, by decide⟩
  obtain ⟨T107, h107, X107, e107, W107, st107⟩ := stC X105 hx hZ e105 Ar107 (j := (1 : Int32)) hin107 (g := (mkF m 46 #[iv (2 : Int32), iv x0, iv x1, iv x2, iv x3] [(.int x1), (.int (1 : Int32)), (.ref b104), (.ref b104), (.ref b101), (.ref b101)])) rfl rfl (hb hby own_d1_46)
  have V108 : Arv Z h107 b104 k104 .char (2 : Int32) [(.int x0), (.int x1)] (.int (0 : Int32)) := Arv.set Ar107 q107 S107 G107 H107 F107 (by have q := fits_nar_char x1; rw [show nar .char x1 = x1 from hk1] at q; exact q) (own_wr W107 (congrArg Value.int hk1)) 1 rfl (Nat.le_of_ble_eq_true rfl)
  have N107 := Fr.snoc X107 N105 g_b104
  refine own_by (g' := (mkF m 47 #[iv (2 : Int32), iv x0, iv x1, iv x2, iv x3] [(.ref b104), (.ref b101), (.ref b101)])) st107 ?_
  have f109 := ((((O0.ext E101).ext E104).wr W105 g_b104).wr W107 g_b104)
  have f110 := (((A101.ext E104).wr W105).wr W107)
  have f111 := (((f103.ext E104).other W105 (Or.inl (Nat.ne_of_lt (Nat.lt_of_lt_of_le (Nat.lt_of_lt_of_le A101.lt (Nat.le_refl _)) (Nat.le_of_eq g104.symm))))).other W107 (Or.inl (Nat.ne_of_lt (Nat.lt_of_lt_of_le (Nat.lt_of_lt_of_le A101.lt (Nat.le_refl _)) (Nat.le_of_eq g104.symm)))))
  have f112 := (((f102.ext E104).other W105 (Or.inl (Nat.ne_of_lt (Nat.lt_of_lt_of_le (Nat.lt_of_lt_of_le A101.lt (Nat.le_refl _)) (Nat.le_of_eq g104.symm))))).other W107 (Or.inl (Nat.ne_of_lt (Nat.lt_of_lt_of_le (Nat.lt_of_lt_of_le A101.lt (Nat.le_refl _)) (Nat.le_of_eq g104.symm)))))
  refine own_callI X107 hx hZ hown rfl (hw _ (List.mem_of_getElem? (i := 9) rfl)) (hw _ (List.mem_of_getElem? (i := 10) rfl)) (hw _ (List.mem_of_getElem? (i := 7) rfl)) (hw _ (List.mem_of_getElem? (i := 11) rfl)) (by decide) (a := b101) (own_ini1_2 l Z a0 hw [] (b101) (b104) (k104) (x0) (x1) (zcs) h107 n0 (Nat.le_trans Z0 (Nat.le_trans (Nat.le_trans (Nat.le_trans E101.1 E104.1) (Nat.le_of_eq W105.size.symm)) (Nat.le_of_eq W107.size.symm))) f109 S_cs (by first | assumption | decide) S_ad S_hi S_lo (by first | assumption | decide) (by first | assumption | decide) f110 f111 f112 g_b101 V108) 1 (by decide) (by decide) (by decide) (by decide) e107 (g := (mkF m 47 #[iv (2 : Int32), iv x0, iv x1, iv x2, iv x3] [(.ref b104), (.ref b101), (.ref b101)])) rfl (by rw [hml]; rfl) (argsL := [(.ref b104)]) (rest := [(.ref b101)]) (lenOf own_pd16 rfl) rfl (by show 2 * 0 + _ ≤ _; exact Nat.le_of_eq rfl) (hb hby own_d1_47) ?_
  intro v113 T113 L113 X113 q113
  obtain ⟨ba113, kb113, cd113, ln113, vs113, rfl, N113q, K113, f114, f115, f116, f117, f118, f119, f120⟩ := q113
  have N113 := Fr.app N107 N113q
  show own_Goes p e below s _ _ _ T113 (mkF m 50 #[iv (2 : Int32), iv x0, iv x1, iv x2, iv x3] [(.ref b101)])
  refine own_retA X113 hx hlk hret rfl rfl (hb hby own_d1_50) (by decide) (by decide) ?_
  exact ⟨b101, ba113, kb113, cd113, ln113, vs113, rfl, N113, ((((((Keep.refl h0 []).ext E101).ext E104).wr W105 (Or.inr sz_b104)).wr W107 (Or.inr sz_b104)).trans K113 (allS (Or.inr sz_b101) all0)), sz_b101, f115, f116, f117, f118, (own_sl2 f120), (own_sc2_0 hk0 f120), (own_sc2_1 hk1 f120)⟩
theorem own_d1_51 : decode method_3_code 51 = .ok (.iload_n 0, 1) := by decide +kernel
theorem own_d1_52 : decode method_3_code 52 = .ok (.iconst 3, 1) := by decide +kernel
theorem own_d1_53 : decode method_3_code 53 = .ok (.if_icmp .ne 26, 3) := by decide +kernel
theorem own_d1_56 : decode method_3_code 56 = .ok (.new 24, 3) := by decide +kernel
theorem own_d1_59 : decode method_3_code 59 = .ok (.dup, 1) := by decide +kernel
theorem own_d1_60 : decode method_3_code 60 = .ok (.iconst 3, 1) := by decide +kernel
theorem own_d1_61 : decode method_3_code 61 = .ok (.newarray .char, 2) := by decide +kernel
theorem own_d1_63 : decode method_3_code 63 = .ok (.dup, 1) := by decide +kernel
theorem own_d1_64 : decode method_3_code 64 = .ok (.iconst 0, 1) := by decide +kernel
theorem own_d1_65 : decode method_3_code 65 = .ok (.iload_n 1, 1) := by decide +kernel
theorem own_d1_66 : decode method_3_code 66 = .ok (.castore, 1) := by decide +kernel
theorem own_d1_67 : decode method_3_code 67 = .ok (.dup, 1) := by decide +kernel
theorem own_d1_68 : decode method_3_code 68 = .ok (.iconst 1, 1) := by decide +kernel
theorem own_d1_69 : decode method_3_code 69 = .ok (.iload_n 2, 1) := by decide +kernel
theorem own_d1_70 : decode method_3_code 70 = .ok (.castore, 1) := by decide +kernel
theorem own_d1_71 : decode method_3_code 71 = .ok (.dup, 1) := by decide +kernel
theorem own_d1_72 : decode method_3_code 72 = .ok (.iconst 2, 1) := by decide +kernel
theorem own_d1_73 : decode method_3_code 73 = .ok (.iload_n 3, 1) := by decide +kernel
theorem own_d1_74 : decode method_3_code 74 = .ok (.castore, 1) := by decide +kernel
theorem own_d1_75 : decode method_3_code 75 = .ok (.invokespecial 26, 3) := by decide +kernel
theorem own_d1_78 : decode method_3_code 78 = .ok (.areturn, 1) := by decide +kernel
def Q_own_str_3 (Z : State) (x0 : Int32) (x1 : Int32) (x2 : Int32) (x3 : Int32) (zcs : Int32) (h0 : Heap) (n0 : Nat) (v : Option Value) (h : Heap) (L : List Loc) : Prop := ∃ (ro : Addr), ∃ (ba : Addr), ∃ (kb : ClassId), ∃ (cd : Int32), ∃ (ln : Int32), ∃ (vs : List Value), v = some (.ref ro) ∧ Fr n0 L ∧ Keep h0 h [] ∧ h0.size ≤ ro ∧ Exa Z h ro "java/lang/String" ∧ Fld Z h ro "java/lang/String" "value" "[B" (.ref ba) ∧ Fld Z h ro "java/lang/String" "coder" "B" (.int cd) ∧ Arv Z h ba kb .byte ln vs (.int (0 : Int32)) ∧ own_len (3 : Int32) (6 : Int32) cd ln ∧ own_cA0 x0 cd ln vs ∧ own_cA1 x1 cd ln vs ∧ own_cA2 x2 cd ln vs
theorem own_ef_own_str_3 (m : MethodId) (x0 : Int32) (x1 : Int32) (x2 : Int32) (x3 : Int32) : entryFrame m #[(.int (3 : Int32)), (.int x0), (.int x1), (.int x2), (.int x3)] 5 = mkF m 0 #[iv (3 : Int32), iv x0, iv x1, iv x2, iv x3] [] := by first | (simp [entryFrame, mkF, argsToLocals, Value.category]; done) | rfl
set_option maxRecDepth 65536 in
set_option maxHeartbeats 40000000 in
theorem own_str_3 (l : Launch) (Z : State) (a0 : Array Value) (hw : ∀ d ∈ tables_1, d.before a0 Z = true) (ws : List Jvm.Cond) (x0 : Int32) (x1 : Int32) (x2 : Int32) (x3 : Int32) (zcs : Int32) (h0 : Heap) (n0 : Nat) (Z0 : n0 ≤ h0.size) (O0 : Old Z n0 h0) (S_cs : Sta Z Z.heap "java/lang/String" "COMPACT_STRINGS" "Z" (.int zcs)) (hcs : ¬ zcs = (0 : Int32)) (S_ad : Sta Z Z.heap "java/lang/StringUTF16" "$assertionsDisabled" "Z" (.int (1 : Int32))) (S_hi : Sta Z Z.heap "java/lang/StringUTF16" "HI_BYTE_SHIFT" "I" (.int (0 : Int32))) (S_lo : Sta Z Z.heap "java/lang/StringUTF16" "LO_BYTE_SHIFT" "I" (.int (8 : Int32))) (hk0 : own_ch x0) (hk1 : own_ch x1) (hk2 : own_ch x2) (hk3 : own_ch x3) :
    own_Ctr l Z (⟨"com/example/tallysieve/tallysieve/KeyIndexTagPinLaw", "str", "(ICCCC)Ljava/lang/String;"⟩ : MethodName) method_3_code 5 (some (.object "java/lang/String")) ws ({ frames := 6, cells := 4, slots := 16, locals := 88 } : Room) (({ frames := 6, cells := 4, slots := 16, locals := 88 } : Room)).cells (({ frames := 6, cells := 4, slots := 16, locals := 88 } : Room)).slots #[(.int (3 : Int32)), (.int x0), (.int x1), (.int x2), (.int x3)] h0 (Q_own_str_3 Z x0 x1 x2 x3 zcs h0 n0) := by
  refine own_enter (plainFor_of_name own_pn5) ?_
  intro p e s m below meth c s₁ X0 hx hZ hby hml hown hnm hlk hret e0
  have N0 := Fr.nil n0
  refine own_cast (own_ef_own_str_3 m x0 x1 x2 x3) ?_
  refine own_by (g' := (mkF m 51 #[iv (3 : Int32), iv x0, iv x1, iv x2, iv x3] [])) (fun t k => XS.iloadN X0.here hx rfl (hb hby own_d1_0) rfl (XS.ifYes X0.here hx rfl (pc0 := 1) (pc' := 7) rfl (hb hby own_d1_1) rfl ((if0 _ _).trans (tlt (by decide : (0 : Int32) < (3 : Int32))).2.2.1) (by decide) (by decide) (XS.iloadN X0.here hx rfl (hb hby own_d1_7) rfl (XS.iconst X0.here hx rfl (hb hby own_d1_8) (XS.icmpYes X0.here hx rfl (pc0 := 9) (pc' := 27) rfl (hb hby own_d1_9) rfl (feq (by decide : ¬ ((3 : Int32) = (1 : Int32)))).2 (by decide) (by decide) (XS.iloadN X0.here hx rfl (hb hby own_d1_27) rfl (XS.iconst X0.here hx rfl (hb hby own_d1_28) (XS.icmpYes X0.here hx rfl (pc0 := 29) (pc' := 51) rfl (hb hby own_d1_29) rfl (feq (by decide : ¬ ((3 : Int32) = (2 : Int32)))).2 (by decide) (by decide) k)))))))) ?_
  refine own_by (g' := (mkF m 56 #[iv (3 : Int32), iv x0, iv x1, iv x2, iv x3] [])) (fun t k => XS.iloadN X0.here hx rfl (hb hby own_d1_51) rfl (XS.iconst X0.here hx rfl (hb hby own_d1_52) (XS.icmpNo X0.here hx rfl (hb hby own_d1_53) rfl (teq (by decide : (3 : Int32) = (3 : Int32))).2 k))) ?_
  obtain ⟨T101, h101, X101, e101, E101, A101, D101, U101, st101⟩ := newO X0 hx hZ hown (hw _ (List.mem_of_getElem? (i := 5) rfl)) (hw _ (List.mem_of_getElem? (i := 6) rfl)) (hw _ (List.mem_of_getElem? (i := 7) rfl)) e0 (g := (mkF m 56 #[iv (3 : Int32), iv x0, iv x1, iv x2, iv x3] [])) rfl (hb hby own_d1_56) (by decide) (by decide)
  obtain ⟨b101, g101⟩ : ∃ z, z = h0.size := ⟨_, rfl⟩
  rw [← g101] at A101 D101 U101 st101
  have sz_b101 : h0.size ≤ b101 := Nat.le_trans (Nat.le_refl _) (Nat.le_of_eq g101.symm)
  have g_b101 : n0 ≤ b101 := Nat.le_trans Z0 sz_b101
  have f102 : Fld Z h101 b101 "java/lang/String" "coder" "B" (.int (0 : Int32)) := D101 (Or.inr (hw _ (List.mem_of_getElem? (i := 32) rfl))) (ty := .byte) (by decide)
  have f103 : Fld Z h101 b101 "java/lang/String" "value" "[B" .null := D101 (Or.inr (hw _ (List.mem_of_getElem? (i := 34) rfl))) (ty := (.array .byte)) (by decide)
  refine own_by (g' := (mkF m 59 #[iv (3 : Int32), iv x0, iv x1, iv x2, iv x3] [(.ref b101)])) st101 ?_
  refine own_by (g' := (mkF m 61 #[iv (3 : Int32), iv x0, iv x1, iv x2, iv x3] [(.int (3 : Int32)), (.ref b101), (.ref b101)])) (fun t k => XS.dup X101.here hx rfl (hb hby own_d1_59) rfl rfl (XS.iconst X101.here hx rfl (hb hby own_d1_60) k)) ?_
  obtain ⟨T104, h104, k104, X104, e104, E104, A104, Y104, st104⟩ := newPE X101 hx hZ (hw _ (List.mem_of_getElem? (i := 8) rfl)) e101 (g := (mkF m 61 #[iv (3 : Int32), iv x0, iv x1, iv x2, iv x3] [(.int (3 : Int32)), (.ref b101), (.ref b101)])) rfl (hb hby own_d1_61) rfl (by decide) (cap := 3) (by decide) (by decide) (by decide) (by decide) (ad := "[C") own_ad_char
  obtain ⟨b104, g104⟩ : ∃ z, z = h101.size := ⟨_, rfl⟩
  rw [← g104] at A104 Y104 st104
  have sz_b104 : h0.size ≤ b104 := Nat.le_trans E101.1 (Nat.le_of_eq g104.symm)
  have g_b104 : n0 ≤ b104 := Nat.le_trans Z0 sz_b104
  have V104 : Arv Z h104 b104 k104 .char (3 : Int32) [(.int (0 : Int32)), (.int (0 : Int32)), (.int (0 : Int32))] (.int (0 : Int32)) := (Arv.new A104 (by decide)).pad (pad_rep [] (.int (0 : Int32)) 3)
  refine own_by (g' := (mkF m 63 #[iv (3 : Int32), iv x0, iv x1, iv x2, iv x3] [(.ref b104), (.ref b101), (.ref b101)])) st104 ?_
  refine own_by (g' := (mkF m 66 #[iv (3 : Int32), iv x0, iv x1, iv x2, iv x3] [(.int x0), (.int (0 : Int32)), (.ref b104), (.ref b104), (.ref b101), (.ref b101)])) (fun t k => XS.dup X104.here hx rfl (hb hby own_d1_63) rfl rfl (XS.iconst X104.here hx rfl (hb hby own_d1_64) (XS.iloadN X104.here hx rfl (hb hby own_d1_65) rfl k))) ?_
  obtain ⟨c105, Ar105, q105, S105, G105, H105, F105⟩ := id V104
  have hin105 : ¬ ((0 : Int32) < 0 ∨ c105.slots.size ≤ ((0 : Int32)).toNatClampNeg) := inb_of S105 ⟨by decide, by decide⟩
  obtain ⟨T105, h105, X105, e105, W105, st105⟩ := stC X104 hx hZ e104 Ar105 (j := (0 : Int32)) hin105 (g := (mkF m 66 #[iv (3 : Int32), iv x0, iv x1, iv x2, iv x3] [(.int x0), (.int (0 : Int32)), (.ref b104), (.ref b104), (.ref b101), (.ref b101)])) rfl rfl (hb hby own_d1_66)
  have V106 : Arv Z h105 b104 k104 .char (3 : Int32) [(.int x0), (.int (0 : Int32)), (.int (0 : Int32))] (.int (0 : Int32)) := Arv.set Ar105 q105 S105 G105 H105 F105 (by have q := fits_nar_char x0; rw [show nar .char x0 = x0 from hk0] at q; exact q) (own_wr W105 (congrArg Value.int hk0)) 0 rfl (Nat.le_of_ble_eq_true rfl)
  have N105 := Fr.snoc X105 N0 g_b104
  refine own_by (g' := (mkF m 67 #[iv (3 : Int32), iv x0, iv x1, iv x2, iv x3] [(.ref b104), (.ref b101), (.ref b101)])) st105 ?_
  refine own_by (g' := (mkF m 70 #[iv (3 : Int32), iv x0, iv x1, iv x2, iv x3] [(.int x1), (.int (1 : Int32)), (.ref b104), (.ref b104), (.ref b101), (.ref b101)])) (fun t k => XS.dup X105.here hx rfl (hb hby own_d1_67) rfl rfl (XS.iconst X105.here hx rfl (hb hby own_d1_68) (XS.iloadN X105.here hx rfl (hb hby own_d1_69) rfl k))) ?_
  obtain ⟨c107, Ar107, q107, S107, G107, H107, F107⟩ := id V106
  have hin107 : ¬ ((1 : Int32) < 0 ∨ c107.slots.size ≤ ((1 : Int32)).toNatClampNeg) := inb_of S107 ⟨by decide, by decide⟩
  obtain ⟨T107, h107, X107, e107, W107, st107⟩ := stC X105 hx hZ e105 Ar107 (j := (1 : Int32)) hin107 (g := (mkF m 70 #[iv (3 : Int32), iv x0, iv x1, iv x2, iv x3] [(.int x1), (.int (1 : Int32)), (.ref b104), (.ref b104), (.ref b101), (.ref b101)])) rfl rfl (hb hby own_d1_70)
  have V108 : Arv Z h107 b104 k104 .char (3 : Int32) [(.int x0), (.int x1), (.int (0 : Int32))] (.int (0 : Int32)) := Arv.set Ar107 q107 S107 G107 H107 F107 (by have q := fits_nar_char x1; rw [show nar .char x1 = x1 from hk1] at q; exact q) (own_wr W107 (congrArg Value.int hk1)) 1 rfl (Nat.le_of_ble_eq_true rfl)
  have N107 := Fr.snoc X107 N105 g_b104
  refine own_by (g' := (mkF m 71 #[iv (3 : Int32), iv x0, iv x1, iv x2, iv x3] [(.ref b104), (.ref b101), (.ref b101)])) st107 ?_
  refine own_by (g' := (mkF m 74 #[iv (3 : Int32), iv x0, iv x1, iv x2, iv x3] [(.int x2), (.int (2 : Int32)), (.ref b104), (.ref b104), (.ref b101), (.ref b101)])) (fun t k => XS.dup X107.here hx rfl (hb hby own_d1_71) rfl rfl (XS.iconst X107.here hx rfl (hb hby own_d1_72) (XS.iloadN X107.here hx rfl (hb hby own_d1_73) rfl k))) ?_
  obtain ⟨c109, Ar109, q109, S109, G109, H109, F109⟩ := id V108
  have hin109 : ¬ ((2 : Int32) < 0 ∨ c109.slots.size ≤ ((2 : Int32)).toNatClampNeg) := inb_of S109 ⟨by decide, by decide⟩
  obtain ⟨T109, h109, X109, e109, W109, st109⟩ := stC X107 hx hZ e107 Ar109 (j := (2 : Int32)) hin109 (g := (mkF m 74 #[iv (3 : Int32), iv x0, iv x1, iv x2, iv x3] [(.int x2), (.int (2 : Int32)), (.ref b104), (.ref b104), (.ref b101), (.ref b101)])) rfl rfl (hb hby own_d1_74)
  have V110 : Arv Z h109 b104 k104 .char (3 : Int32) [(.int x0), (.int x1), (.int x2)] (.int (0 : Int32)) := Arv.set Ar109 q109 S109 G109 H109 F109 (by have q := fits_nar_char x2; rw [show nar .char x2 = x2 from hk2] at q; exact q) (own_wr W109 (congrArg Value.int hk2)) 2 rfl (Nat.le_of_ble_eq_true rfl)
  have N109 := Fr.snoc X109 N107 g_b104
  refine own_by (g' := (mkF m 75 #[iv (3 : Int32), iv x0, iv x1, iv x2, iv x3] [(.ref b104), (.ref b101), (.ref b101)])) st109 ?_
  have f111 := (((((O0.ext E101).ext E104).wr W105 g_b104).wr W107 g_b104).wr W109 g_b104)
  have f112 := ((((A101.ext E104).wr W105).wr W107).wr W109)
  have f113 := ((((f103.ext E104).other W105 (Or.inl (Nat.ne_of_lt (Nat.lt_of_lt_of_le (Nat.lt_of_lt_of_le A101.lt (Nat.le_refl _)) (Nat.le_of_eq g104.symm))))).other W107 (Or.inl (Nat.ne_of_lt (Nat.lt_of_lt_of_le (Nat.lt_of_lt_of_le A101.lt (Nat.le_refl _)) (Nat.le_of_eq g104.symm))))).other W109 (Or.inl (Nat.ne_of_lt (Nat.lt_of_lt_of_le (Nat.lt_of_lt_of_le A101.lt (Nat.le_refl _)) (Nat.le_of_eq g104.symm)))))
  have f114 := ((((f102.ext E104).other W105 (Or.inl (Nat.ne_of_lt (Nat.lt_of_lt_of_le (Nat.lt_of_lt_of_le A101.lt (Nat.le_refl _)) (Nat.le_of_eq g104.symm))))).other W107 (Or.inl (Nat.ne_of_lt (Nat.lt_of_lt_of_le (Nat.lt_of_lt_of_le A101.lt (Nat.le_refl _)) (Nat.le_of_eq g104.symm))))).other W109 (Or.inl (Nat.ne_of_lt (Nat.lt_of_lt_of_le (Nat.lt_of_lt_of_le A101.lt (Nat.le_refl _)) (Nat.le_of_eq g104.symm)))))
  refine own_callI X109 hx hZ hown rfl (hw _ (List.mem_of_getElem? (i := 9) rfl)) (hw _ (List.mem_of_getElem? (i := 10) rfl)) (hw _ (List.mem_of_getElem? (i := 7) rfl)) (hw _ (List.mem_of_getElem? (i := 11) rfl)) (by decide) (a := b101) (own_ini1_3 l Z a0 hw [] (b101) (b104) (k104) (x0) (x1) (x2) (zcs) h109 n0 (Nat.le_trans Z0 (Nat.le_trans (Nat.le_trans (Nat.le_trans (Nat.le_trans E101.1 E104.1) (Nat.le_of_eq W105.size.symm)) (Nat.le_of_eq W107.size.symm)) (Nat.le_of_eq W109.size.symm))) f111 S_cs (by first | assumption | decide) S_ad S_hi S_lo (by first | assumption | decide) (by first | assumption | decide) (by first | assumption | decide) f112 f113 f114 g_b101 V110) 1 (by decide) (by decide) (by decide) (by decide) e109 (g := (mkF m 75 #[iv (3 : Int32), iv x0, iv x1, iv x2, iv x3] [(.ref b104), (.ref b101), (.ref b101)])) rfl (by rw [hml]; rfl) (argsL := [(.ref b104)]) (rest := [(.ref b101)]) (lenOf own_pd16 rfl) rfl (by show 2 * 0 + _ ≤ _; exact Nat.le_of_eq rfl) (hb hby own_d1_75) ?_
  intro v115 T115 L115 X115 q115
  obtain ⟨ba115, kb115, cd115, ln115, vs115, rfl, N115q, K115, f116, f117, f118, f119, f120, f121, f122⟩ := q115
  have N115 := Fr.app N109 N115q
  show own_Goes p e below s _ _ _ T115 (mkF m 78 #[iv (3 : Int32), iv x0, iv x1, iv x2, iv x3] [(.ref b101)])
  refine own_retA X115 hx hlk hret rfl rfl (hb hby own_d1_78) (by decide) (by decide) ?_
  exact ⟨b101, ba115, kb115, cd115, ln115, vs115, rfl, N115, (((((((Keep.refl h0 []).ext E101).ext E104).wr W105 (Or.inr sz_b104)).wr W107 (Or.inr sz_b104)).wr W109 (Or.inr sz_b104)).trans K115 (allS (Or.inr sz_b101) all0)), sz_b101, f117, f118, f119, f120, (own_sl3 f122), (own_sc3_0 hk0 f122), (own_sc3_1 hk1 f122), (own_sc3_2 hk2 f122)⟩
theorem own_d1_79 : decode method_3_code 79 = .ok (.new 24, 3) := by decide +kernel
theorem own_d1_82 : decode method_3_code 82 = .ok (.dup, 1) := by decide +kernel
theorem own_d1_83 : decode method_3_code 83 = .ok (.iconst 4, 1) := by decide +kernel
theorem own_d1_84 : decode method_3_code 84 = .ok (.newarray .char, 2) := by decide +kernel
theorem own_d1_86 : decode method_3_code 86 = .ok (.dup, 1) := by decide +kernel
theorem own_d1_87 : decode method_3_code 87 = .ok (.iconst 0, 1) := by decide +kernel
theorem own_d1_88 : decode method_3_code 88 = .ok (.iload_n 1, 1) := by decide +kernel
theorem own_d1_89 : decode method_3_code 89 = .ok (.castore, 1) := by decide +kernel
theorem own_d1_90 : decode method_3_code 90 = .ok (.dup, 1) := by decide +kernel
theorem own_d1_91 : decode method_3_code 91 = .ok (.iconst 1, 1) := by decide +kernel
theorem own_d1_92 : decode method_3_code 92 = .ok (.iload_n 2, 1) := by decide +kernel
theorem own_d1_93 : decode method_3_code 93 = .ok (.castore, 1) := by decide +kernel
theorem own_d1_94 : decode method_3_code 94 = .ok (.dup, 1) := by decide +kernel
theorem own_d1_95 : decode method_3_code 95 = .ok (.iconst 2, 1) := by decide +kernel
theorem own_d1_96 : decode method_3_code 96 = .ok (.iload_n 3, 1) := by decide +kernel
theorem own_d1_97 : decode method_3_code 97 = .ok (.castore, 1) := by decide +kernel
theorem own_d1_98 : decode method_3_code 98 = .ok (.dup, 1) := by decide +kernel
theorem own_d1_99 : decode method_3_code 99 = .ok (.iconst 3, 1) := by decide +kernel
theorem own_d1_100 : decode method_3_code 100 = .ok (.iload 4, 2) := by decide +kernel
theorem own_d1_102 : decode method_3_code 102 = .ok (.castore, 1) := by decide +kernel
theorem own_d1_103 : decode method_3_code 103 = .ok (.invokespecial 26, 3) := by decide +kernel
theorem own_d1_106 : decode method_3_code 106 = .ok (.areturn, 1) := by decide +kernel
def Q_own_str_4 (Z : State) (x0 : Int32) (x1 : Int32) (x2 : Int32) (x3 : Int32) (zcs : Int32) (h0 : Heap) (n0 : Nat) (v : Option Value) (h : Heap) (L : List Loc) : Prop := ∃ (ro : Addr), ∃ (ba : Addr), ∃ (kb : ClassId), ∃ (cd : Int32), ∃ (ln : Int32), ∃ (vs : List Value), v = some (.ref ro) ∧ Fr n0 L ∧ Keep h0 h [] ∧ h0.size ≤ ro ∧ Exa Z h ro "java/lang/String" ∧ Fld Z h ro "java/lang/String" "value" "[B" (.ref ba) ∧ Fld Z h ro "java/lang/String" "coder" "B" (.int cd) ∧ Arv Z h ba kb .byte ln vs (.int (0 : Int32)) ∧ own_len (4 : Int32) (8 : Int32) cd ln ∧ own_cA0 x0 cd ln vs ∧ own_cA1 x1 cd ln vs ∧ own_cA2 x2 cd ln vs ∧ own_cA3 x3 cd ln vs
theorem own_ef_own_str_4 (m : MethodId) (x0 : Int32) (x1 : Int32) (x2 : Int32) (x3 : Int32) : entryFrame m #[(.int (4 : Int32)), (.int x0), (.int x1), (.int x2), (.int x3)] 5 = mkF m 0 #[iv (4 : Int32), iv x0, iv x1, iv x2, iv x3] [] := by first | (simp [entryFrame, mkF, argsToLocals, Value.category]; done) | rfl
set_option maxRecDepth 65536 in
set_option maxHeartbeats 40000000 in
theorem own_str_4 (l : Launch) (Z : State) (a0 : Array Value) (hw : ∀ d ∈ tables_1, d.before a0 Z = true) (ws : List Jvm.Cond) (x0 : Int32) (x1 : Int32) (x2 : Int32) (x3 : Int32) (zcs : Int32) (h0 : Heap) (n0 : Nat) (Z0 : n0 ≤ h0.size) (O0 : Old Z n0 h0) (S_cs : Sta Z Z.heap "java/lang/String" "COMPACT_STRINGS" "Z" (.int zcs)) (hcs : ¬ zcs = (0 : Int32)) (S_ad : Sta Z Z.heap "java/lang/StringUTF16" "$assertionsDisabled" "Z" (.int (1 : Int32))) (S_hi : Sta Z Z.heap "java/lang/StringUTF16" "HI_BYTE_SHIFT" "I" (.int (0 : Int32))) (S_lo : Sta Z Z.heap "java/lang/StringUTF16" "LO_BYTE_SHIFT" "I" (.int (8 : Int32))) (hk0 : own_ch x0) (hk1 : own_ch x1) (hk2 : own_ch x2) (hk3 : own_ch x3) :
    own_Ctr l Z (⟨"com/example/tallysieve/tallysieve/KeyIndexTagPinLaw", "str", "(ICCCC)Ljava/lang/String;"⟩ : MethodName) method_3_code 5 (some (.object "java/lang/String")) ws ({ frames := 6, cells := 4, slots := 20, locals := 88 } : Room) (({ frames := 6, cells := 4, slots := 20, locals := 88 } : Room)).cells (({ frames := 6, cells := 4, slots := 20, locals := 88 } : Room)).slots #[(.int (4 : Int32)), (.int x0), (.int x1), (.int x2), (.int x3)] h0 (Q_own_str_4 Z x0 x1 x2 x3 zcs h0 n0) := by
  refine own_enter (plainFor_of_name own_pn5) ?_
  intro p e s m below meth c s₁ X0 hx hZ hby hml hown hnm hlk hret e0
  have N0 := Fr.nil n0
  refine own_cast (own_ef_own_str_4 m x0 x1 x2 x3) ?_
  refine own_by (g' := (mkF m 51 #[iv (4 : Int32), iv x0, iv x1, iv x2, iv x3] [])) (fun t k => XS.iloadN X0.here hx rfl (hb hby own_d1_0) rfl (XS.ifYes X0.here hx rfl (pc0 := 1) (pc' := 7) rfl (hb hby own_d1_1) rfl ((if0 _ _).trans (tlt (by decide : (0 : Int32) < (4 : Int32))).2.2.1) (by decide) (by decide) (XS.iloadN X0.here hx rfl (hb hby own_d1_7) rfl (XS.iconst X0.here hx rfl (hb hby own_d1_8) (XS.icmpYes X0.here hx rfl (pc0 := 9) (pc' := 27) rfl (hb hby own_d1_9) rfl (feq (by decide : ¬ ((4 : Int32) = (1 : Int32)))).2 (by decide) (by decide) (XS.iloadN X0.here hx rfl (hb hby own_d1_27) rfl (XS.iconst X0.here hx rfl (hb hby own_d1_28) (XS.icmpYes X0.here hx rfl (pc0 := 29) (pc' := 51) rfl (hb hby own_d1_29) rfl (feq (by decide : ¬ ((4 : Int32) = (2 : Int32)))).2 (by decide) (by decide) k)))))))) ?_
  refine own_by (g' := (mkF m 79 #[iv (4 : Int32), iv x0, iv x1, iv x2, iv x3] [])) (fun t k => XS.iloadN X0.here hx rfl (hb hby own_d1_51) rfl (XS.iconst X0.here hx rfl (hb hby own_d1_52) (XS.icmpYes X0.here hx rfl (pc0 := 53) (pc' := 79) rfl (hb hby own_d1_53) rfl (feq (by decide : ¬ ((4 : Int32) = (3 : Int32)))).2 (by decide) (by decide) k))) ?_
  obtain ⟨T101, h101, X101, e101, E101, A101, D101, U101, st101⟩ := newO X0 hx hZ hown (hw _ (List.mem_of_getElem? (i := 5) rfl)) (hw _ (List.mem_of_getElem? (i := 6) rfl)) (hw _ (List.mem_of_getElem? (i := 7) rfl)) e0 (g := (mkF m 79 #[iv (4 : Int32), iv x0, iv x1, iv x2, iv x3] [])) rfl (hb hby own_d1_79) (by decide) (by decide)
  obtain ⟨b101, g101⟩ : ∃ z, z = h0.size := ⟨_, rfl⟩
  rw [← g101] at A101 D101 U101 st101
  have sz_b101 : h0.size ≤ b101 := Nat.le_trans (Nat.le_refl _) (Nat.le_of_eq g101.symm)
  have g_b101 : n0 ≤ b101 := Nat.le_trans Z0 sz_b101
  have f102 : Fld Z h101 b101 "java/lang/String" "coder" "B" (.int (0 : Int32)) := D101 (Or.inr (hw _ (List.mem_of_getElem? (i := 32) rfl))) (ty := .byte) (by decide)
  have f103 : Fld Z h101 b101 "java/lang/String" "value" "[B" .null := D101 (Or.inr (hw _ (List.mem_of_getElem? (i := 34) rfl))) (ty := (.array .byte)) (by decide)
  refine own_by (g' := (mkF m 82 #[iv (4 : Int32), iv x0, iv x1, iv x2, iv x3] [(.ref b101)])) st101 ?_
  refine own_by (g' := (mkF m 84 #[iv (4 : Int32), iv x0, iv x1, iv x2, iv x3] [(.int (4 : Int32)), (.ref b101), (.ref b101)])) (fun t k => XS.dup X101.here hx rfl (hb hby own_d1_82) rfl rfl (XS.iconst X101.here hx rfl (hb hby own_d1_83) k)) ?_
  obtain ⟨T104, h104, k104, X104, e104, E104, A104, Y104, st104⟩ := newPE X101 hx hZ (hw _ (List.mem_of_getElem? (i := 8) rfl)) e101 (g := (mkF m 84 #[iv (4 : Int32), iv x0, iv x1, iv x2, iv x3] [(.int (4 : Int32)), (.ref b101), (.ref b101)])) rfl (hb hby own_d1_84) rfl (by decide) (cap := 4) (by decide) (by decide) (by decide) (by decide) (ad := "[C") own_ad_char
  obtain ⟨b104, g104⟩ : ∃ z, z = h101.size := ⟨_, rfl⟩
  rw [← g104] at A104 Y104 st104
  have sz_b104 : h0.size ≤ b104 := Nat.le_trans E101.1 (Nat.le_of_eq g104.symm)
  have g_b104 : n0 ≤ b104 := Nat.le_trans Z0 sz_b104
  have V104 : Arv Z h104 b104 k104 .char (4 : Int32) [(.int (0 : Int32)), (.int (0 : Int32)), (.int (0 : Int32)), (.int (0 : Int32))] (.int (0 : Int32)) := (Arv.new A104 (by decide)).pad (pad_rep [] (.int (0 : Int32)) 4)
  refine own_by (g' := (mkF m 86 #[iv (4 : Int32), iv x0, iv x1, iv x2, iv x3] [(.ref b104), (.ref b101), (.ref b101)])) st104 ?_
  refine own_by (g' := (mkF m 89 #[iv (4 : Int32), iv x0, iv x1, iv x2, iv x3] [(.int x0), (.int (0 : Int32)), (.ref b104), (.ref b104), (.ref b101), (.ref b101)])) (fun t k => XS.dup X104.here hx rfl (hb hby own_d1_86) rfl rfl (XS.iconst X104.here hx rfl (hb hby own_d1_87) (XS.iloadN X104.here hx rfl (hb hby own_d1_88) rfl k))) ?_
  obtain ⟨c105, Ar105, q105, S105, G105, H105, F105⟩ := id V104
  have hin105 : ¬ ((0 : Int32) < 0 ∨ c105.slots.size ≤ ((0 : Int32)).toNatClampNeg) := inb_of S105 ⟨by decide, by decide⟩
  obtain ⟨T105, h105, X105, e105, W105, st105⟩ := stC X104 hx hZ e104 Ar105 (j := (0 : Int32)) hin105 (g := (mkF m 89 #[iv (4 : Int32), iv x0, iv x1, iv x2, iv x3] [(.int x0), (.int (0 : Int32)), (.ref b104), (.ref b104), (.ref b101), (.ref b101)])) rfl rfl (hb hby own_d1_89)
  have V106 : Arv Z h105 b104 k104 .char (4 : Int32) [(.int x0), (.int (0 : Int32)), (.int (0 : Int32)), (.int (0 : Int32))] (.int (0 : Int32)) := Arv.set Ar105 q105 S105 G105 H105 F105 (by have q := fits_nar_char x0; rw [show nar .char x0 = x0 from hk0] at q; exact q) (own_wr W105 (congrArg Value.int hk0)) 0 rfl (Nat.le_of_ble_eq_true rfl)
  have N105 := Fr.snoc X105 N0 g_b104
  refine own_by (g' := (mkF m 90 #[iv (4 : Int32), iv x0, iv x1, iv x2, iv x3] [(.ref b104), (.ref b101), (.ref b101)])) st105 ?_
  refine own_by (g' := (mkF m 93 #[iv (4 : Int32), iv x0, iv x1, iv x2, iv x3] [(.int x1), (.int (1 : Int32)), (.ref b104), (.ref b104), (.ref b101), (.ref b101)])) (fun t k => XS.dup X105.here hx rfl (hb hby own_d1_90) rfl rfl (XS.iconst X105.here hx rfl (hb hby own_d1_91) (XS.iloadN X105.here hx rfl (hb hby own_d1_92) rfl k))) ?_
  obtain ⟨c107, Ar107, q107, S107, G107, H107, F107⟩ := id V106
  have hin107 : ¬ ((1 : Int32) < 0 ∨ c107.slots.size ≤ ((1 : Int32)).toNatClampNeg) := inb_of S107 ⟨by decide, by decide⟩
  obtain ⟨T107, h107, X107, e107, W107, st107⟩ := stC X105 hx hZ e105 Ar107 (j := (1 : Int32)) hin107 (g := (mkF m 93 #[iv (4 : Int32), iv x0, iv x1, iv x2, iv x3] [(.int x1), (.int (1 : Int32)), (.ref b104), (.ref b104), (.ref b101), (.ref b101)])) rfl rfl (hb hby own_d1_93)
  have V108 : Arv Z h107 b104 k104 .char (4 : Int32) [(.int x0), (.int x1), (.int (0 : Int32)), (.int (0 : Int32))] (.int (0 : Int32)) := Arv.set Ar107 q107 S107 G107 H107 F107 (by have q := fits_nar_char x1; rw [show nar .char x1 = x1 from hk1] at q; exact q) (own_wr W107 (congrArg Value.int hk1)) 1 rfl (Nat.le_of_ble_eq_true rfl)
  have N107 := Fr.snoc X107 N105 g_b104
  refine own_by (g' := (mkF m 94 #[iv (4 : Int32), iv x0, iv x1, iv x2, iv x3] [(.ref b104), (.ref b101), (.ref b101)])) st107 ?_
  refine own_by (g' := (mkF m 97 #[iv (4 : Int32), iv x0, iv x1, iv x2, iv x3] [(.int x2), (.int (2 : Int32)), (.ref b104), (.ref b104), (.ref b101), (.ref b101)])) (fun t k => XS.dup X107.here hx rfl (hb hby own_d1_94) rfl rfl (XS.iconst X107.here hx rfl (hb hby own_d1_95) (XS.iloadN X107.here hx rfl (hb hby own_d1_96) rfl k))) ?_
  obtain ⟨c109, Ar109, q109, S109, G109, H109, F109⟩ := id V108
  have hin109 : ¬ ((2 : Int32) < 0 ∨ c109.slots.size ≤ ((2 : Int32)).toNatClampNeg) := inb_of S109 ⟨by decide, by decide⟩
  obtain ⟨T109, h109, X109, e109, W109, st109⟩ := stC X107 hx hZ e107 Ar109 (j := (2 : Int32)) hin109 (g := (mkF m 97 #[iv (4 : Int32), iv x0, iv x1, iv x2, iv x3] [(.int x2), (.int (2 : Int32)), (.ref b104), (.ref b104), (.ref b101), (.ref b101)])) rfl rfl (hb hby own_d1_97)
  have V110 : Arv Z h109 b104 k104 .char (4 : Int32) [(.int x0), (.int x1), (.int x2), (.int (0 : Int32))] (.int (0 : Int32)) := Arv.set Ar109 q109 S109 G109 H109 F109 (by have q := fits_nar_char x2; rw [show nar .char x2 = x2 from hk2] at q; exact q) (own_wr W109 (congrArg Value.int hk2)) 2 rfl (Nat.le_of_ble_eq_true rfl)
  have N109 := Fr.snoc X109 N107 g_b104
  refine own_by (g' := (mkF m 98 #[iv (4 : Int32), iv x0, iv x1, iv x2, iv x3] [(.ref b104), (.ref b101), (.ref b101)])) st109 ?_
  refine own_by (g' := (mkF m 102 #[iv (4 : Int32), iv x0, iv x1, iv x2, iv x3] [(.int x3), (.int (3 : Int32)), (.ref b104), (.ref b104), (.ref b101), (.ref b101)])) (fun t k => XS.dup X109.here hx rfl (hb hby own_d1_98) rfl rfl (XS.iconst X109.here hx rfl (hb hby own_d1_99) (XS.iload X109.here hx rfl (hb hby own_d1_100) rfl k))) ?_
  obtain ⟨c111, Ar111, q111, S111, G111, H111, F111⟩ := id V110
  have hin111 : ¬ ((3 : Int32) < 0 ∨ c111.slots.size ≤ ((3 : Int32)).toNatClampNeg) := inb_of S111 ⟨by decide, by decide⟩
  obtain ⟨T111, h111, X111, e111, W111, st111⟩ := stC X109 hx hZ e109 Ar111 (j := (3 : Int32)) hin111 (g := (mkF m 102 #[iv (4 : Int32), iv x0, iv x1, iv x2, iv x3] [(.int x3), (.int (3 : Int32)), (.ref b104), (.ref b104), (.ref b101), (.ref b101)])) rfl rfl (hb hby own_d1_102)
  have V112 : Arv Z h111 b104 k104 .char (4 : Int32) [(.int x0), (.int x1), (.int x2), (.int x3)] (.int (0 : Int32)) := Arv.set Ar111 q111 S111 G111 H111 F111 (by have q := fits_nar_char x3; rw [show nar .char x3 = x3 from hk3] at q; exact q) (own_wr W111 (congrArg Value.int hk3)) 3 rfl (Nat.le_of_ble_eq_true rfl)
  have N111 := Fr.snoc X111 N109 g_b104
  refine own_by (g' := (mkF m 103 #[iv (4 : Int32), iv x0, iv x1, iv x2, iv x3] [(.ref b104), (.ref b101), (.ref b101)])) st111 ?_
  have f113 := ((((((O0.ext E101).ext E104).wr W105 g_b104).wr W107 g_b104).wr W109 g_b104).wr W111 g_b104)
  have f114 := (((((A101.ext E104).wr W105).wr W107).wr W109).wr W111)
  have f115 := (((((f103.ext E104).other W105 (Or.inl (Nat.ne_of_lt (Nat.lt_of_lt_of_le (Nat.lt_of_lt_of_le A101.lt (Nat.le_refl _)) (Nat.le_of_eq g104.symm))))).other W107 (Or.inl (Nat.ne_of_lt (Nat.lt_of_lt_of_le (Nat.lt_of_lt_of_le A101.lt (Nat.le_refl _)) (Nat.le_of_eq g104.symm))))).other W109 (Or.inl (Nat.ne_of_lt (Nat.lt_of_lt_of_le (Nat.lt_of_lt_of_le A101.lt (Nat.le_refl _)) (Nat.le_of_eq g104.symm))))).other W111 (Or.inl (Nat.ne_of_lt (Nat.lt_of_lt_of_le (Nat.lt_of_lt_of_le A101.lt (Nat.le_refl _)) (Nat.le_of_eq g104.symm)))))
  have f116 := (((((f102.ext E104).other W105 (Or.inl (Nat.ne_of_lt (Nat.lt_of_lt_of_le (Nat.lt_of_lt_of_le A101.lt (Nat.le_refl _)) (Nat.le_of_eq g104.symm))))).other W107 (Or.inl (Nat.ne_of_lt (Nat.lt_of_lt_of_le (Nat.lt_of_lt_of_le A101.lt (Nat.le_refl _)) (Nat.le_of_eq g104.symm))))).other W109 (Or.inl (Nat.ne_of_lt (Nat.lt_of_lt_of_le (Nat.lt_of_lt_of_le A101.lt (Nat.le_refl _)) (Nat.le_of_eq g104.symm))))).other W111 (Or.inl (Nat.ne_of_lt (Nat.lt_of_lt_of_le (Nat.lt_of_lt_of_le A101.lt (Nat.le_refl _)) (Nat.le_of_eq g104.symm)))))
  refine own_callI X111 hx hZ hown rfl (hw _ (List.mem_of_getElem? (i := 9) rfl)) (hw _ (List.mem_of_getElem? (i := 10) rfl)) (hw _ (List.mem_of_getElem? (i := 7) rfl)) (hw _ (List.mem_of_getElem? (i := 11) rfl)) (by decide) (a := b101) (own_ini1_4 l Z a0 hw [] (b101) (b104) (k104) (x0) (x1) (x2) (x3) (zcs) h111 n0 (Nat.le_trans Z0 (Nat.le_trans (Nat.le_trans (Nat.le_trans (Nat.le_trans (Nat.le_trans E101.1 E104.1) (Nat.le_of_eq W105.size.symm)) (Nat.le_of_eq W107.size.symm)) (Nat.le_of_eq W109.size.symm)) (Nat.le_of_eq W111.size.symm))) f113 S_cs (by first | assumption | decide) S_ad S_hi S_lo (by first | assumption | decide) (by first | assumption | decide) (by first | assumption | decide) (by first | assumption | decide) f114 f115 f116 g_b101 V112) 1 (by decide) (by decide) (by decide) (by decide) e111 (g := (mkF m 103 #[iv (4 : Int32), iv x0, iv x1, iv x2, iv x3] [(.ref b104), (.ref b101), (.ref b101)])) rfl (by rw [hml]; rfl) (argsL := [(.ref b104)]) (rest := [(.ref b101)]) (lenOf own_pd16 rfl) rfl (by show 2 * 0 + _ ≤ _; exact Nat.le_of_eq rfl) (hb hby own_d1_103) ?_
  intro v117 T117 L117 X117 q117
  obtain ⟨ba117, kb117, cd117, ln117, vs117, rfl, N117q, K117, f118, f119, f120, f121, f122, f123, f124⟩ := q117
  have N117 := Fr.app N111 N117q
  show own_Goes p e below s _ _ _ T117 (mkF m 106 #[iv (4 : Int32), iv x0, iv x1, iv x2, iv x3] [(.ref b101)])
  refine own_retA X117 hx hlk hret rfl rfl (hb hby own_d1_106) (by decide) (by decide) ?_
  exact ⟨b101, ba117, kb117, cd117, ln117, vs117, rfl, N117, ((((((((Keep.refl h0 []).ext E101).ext E104).wr W105 (Or.inr sz_b104)).wr W107 (Or.inr sz_b104)).wr W109 (Or.inr sz_b104)).wr W111 (Or.inr sz_b104)).trans K117 (allS (Or.inr sz_b101) all0)), sz_b101, f119, f120, f121, f122, (own_sl4 f124), (own_sc4_0 hk0 f124), (own_sc4_1 hk1 f124), (own_sc4_2 hk2 f124), (own_sc4_3 hk3 f124)⟩
theorem own_d1_4 : decode method_3_code 4 = .ok (.ldc 16, 2) := by decide +kernel
theorem own_atoms {Z : State} {a0 : Array Value} (hw : ∀ d ∈ tables_1, d.before a0 Z = true) : ∀ a ∈ Bundle.stringAtoms, a.before a0 Z = true := by
  intro a ha
  simp only [Bundle.stringAtoms, Bundle.sN, List.mem_cons, List.not_mem_nil, or_false] at ha
  rcases ha with rfl | rfl | rfl | rfl | rfl | rfl | rfl
  · exact (hw _ (List.mem_of_getElem? (i := 7) rfl))
  · exact (hw _ (List.mem_of_getElem? (i := 6) rfl))
  · exact (hw _ (List.mem_of_getElem? (i := 24) rfl))
  · exact (hw _ (List.mem_of_getElem? (i := 34) rfl))
  · exact (hw _ (List.mem_of_getElem? (i := 32) rfl))
  · exact (hw _ (List.mem_of_getElem? (i := 36) rfl))
  · exact (hw _ (List.mem_of_getElem? (i := 37) rfl))
theorem own_frS {k0 k1 : Nat} {L : List Loc} (N : Fr k0 L) (q : k1 ≤ k0) : Fr k1 L := fun y hy => Nat.le_trans q (N y hy)
theorem own_d1_6 : decode method_3_code 6 = .ok (.areturn, 1) := by decide +kernel
def Q_own_str_0 (Z : State) (x0 : Int32) (x1 : Int32) (x2 : Int32) (x3 : Int32) (h0 : Heap) (n0 : Nat) (v : Option Value) (u : Vm) (h : Heap) (L : List Loc) : Prop := ∃ (ro : Addr), ∃ (ba : Addr), ∃ (kb : ClassId), v = some (.ref ro) ∧ Fr n0 L ∧ Keep h0 h [] ∧ Exa Z h ro "java/lang/String" ∧ Fld Z h ro "java/lang/String" "value" "[B" (.ref ba) ∧ Fld Z h ro "java/lang/String" "coder" "B" (.int (0 : Int32)) ∧ Arv Z h ba kb .byte (0 : Int32) [] (.int (0 : Int32)) ∧ Lit (Z.setVm u) "com/example/tallysieve/tallysieve/KeyIndexTagPinLaw" 16 ro
theorem own_ef_own_str_0 (m : MethodId) (x0 : Int32) (x1 : Int32) (x2 : Int32) (x3 : Int32) : entryFrame m #[(.int (0 : Int32)), (.int x0), (.int x1), (.int x2), (.int x3)] 5 = mkF m 0 #[iv (0 : Int32), iv x0, iv x1, iv x2, iv x3] [] := by first | (simp [entryFrame, mkF, argsToLocals, Value.category]; done) | rfl
set_option maxRecDepth 65536 in
set_option maxHeartbeats 40000000 in
theorem own_str_0 (l : Launch) (Z : State) (a0 : Array Value) (hw : ∀ d ∈ tables_1, d.before a0 Z = true) (ws : List Jvm.Cond) (x0 : Int32) (x1 : Int32) (x2 : Int32) (x3 : Int32) (h0 : Heap) (n0 : Nat) (Z0 : n0 ≤ h0.size) (O0 : Old Z n0 h0) (hcw : Jvm.Lit.compactW.before a0 Z = true) (hch : Jvm.Lit.constHeld Z "com/example/tallysieve/tallysieve/KeyIndexTagPinLaw" 16) :
    ownW_Ctr l Z (⟨"com/example/tallysieve/tallysieve/KeyIndexTagPinLaw", "str", "(ICCCC)Ljava/lang/String;"⟩ : MethodName) method_3_code 5 (some (.object "java/lang/String")) ws ({ frames := 0, cells := 2, slots := 4, locals := 0 } : Room) (({ frames := 0, cells := 2, slots := 4, locals := 0 } : Room)).cells (({ frames := 0, cells := 2, slots := 4, locals := 0 } : Room)).slots #[(.int (0 : Int32)), (.int x0), (.int x1), (.int x2), (.int x3)] h0 (fun u => IB Z u []) (Q_own_str_0 Z x0 x1 x2 x3 h0 n0) := by
  refine ownW_enter (plainFor_of_name own_pn5) ?_
  intro p e s0 s m below meth c s₁ hsv hsh S0 X0 hx hZ hby hml hown hnm hlk hret e0 hJ
  have hib := hJ
  have N0 := Fr.nil n0
  refine ownW_cast (own_ef_own_str_0 m x0 x1 x2 x3) ?_
  refine ownW_by (g' := (mkF m 4 #[iv (0 : Int32), iv x0, iv x1, iv x2, iv x3] [])) (fun t k => XS.iloadN X0.here hx rfl (hb hby own_d1_0) rfl (XS.ifNo X0.here hx rfl (hb hby own_d1_1) rfl ((if0 _ _).trans (flt (by decide : ¬ ((0 : Int32) < (0 : Int32)))).2.2.1) k)) ?_
  refine ownW_ldc X0 hx hZ hsv hsh S0 (Nat.zero_le _) hown (hw _ (List.mem_of_getElem? (i := 35) rfl)) (own_atoms hw) e0 O0 (Fr.nil _) hib (by decide) hch hcw (vs := []) (zl := (0 : Int32)) ⟨by decide, rfl⟩ (by decide) (by decide) (g := (mkF m 4 #[iv (0 : Int32), iv x0, iv x1, iv x2, iv x3] [])) rfl (hb hby own_d1_4) (k0 := 0) (by decide) (by decide) (by decide) (by decide) ?_
  intro s T101 h101 a101 b101 k101 X101 hsv hsh S101 hZ hown e101 E101 ex101 fc101 fv101 av101 ib101 li101
  show ownW_Goes p e below s0 _ _ _ T101 (mkF m 6 #[iv (0 : Int32), iv x0, iv x1, iv x2, iv x3] [(.ref a101)])
  refine ownW_retA X101 hsv S101 (Nat.le_trans (Nat.le_refl _) (Nat.le_of_eq (congrArg Array.size e101).symm)) hx hlk hret rfl rfl (hb hby own_d1_6) (by decide) (by decide) ?_
  intro u hu
  rw [e101]
  exact ⟨a101, b101, k101, rfl, N0, ((Keep.refl h0 []).ext E101), ex101, fv101, fc101, av101, (own_litW li101 hu)⟩
theorem own_n4 (a : Int32) : (1 : Int32) + (a &&& (3 : Int32)) = 1 ∨ (1 : Int32) + (a &&& (3 : Int32)) = 2 ∨ (1 : Int32) + (a &&& (3 : Int32)) = 3 ∨ (1 : Int32) + (a &&& (3 : Int32)) = 4 := by
  have m := c_mask a 3 2 (by decide) (by decide)
  have : (a &&& 3).toInt = 0 ∨ (a &&& 3).toInt = 1 ∨ (a &&& 3).toInt = 2 ∨ (a &&& 3).toInt = 3 := by omega
  rcases this with h | h | h | h
  · exact Or.inl (by rw [(Int32.toInt_inj.mp h : a &&& 3 = 0)]; rfl)
  · exact Or.inr (Or.inl (by rw [(Int32.toInt_inj.mp h : a &&& 3 = 1)]; rfl))
  · exact Or.inr (Or.inr (Or.inl (by rw [(Int32.toInt_inj.mp h : a &&& 3 = 2)]; rfl)))
  · exact Or.inr (Or.inr (Or.inr (by rw [(Int32.toInt_inj.mp h : a &&& 3 = 3)]; rfl)))
theorem own_ch_of {x y : Int32} (q : (x).toUInt32.toUInt16.toUInt32.toInt32 = y) : own_ch y := by rw [← q]; exact own_c16 x
theorem own_pd17 : parseMethodDescriptor "(ICCCC)Ljava/lang/String;" = some ⟨[.int, .char, .char, .char, .char], some (.object "java/lang/String")⟩ := by decide +kernel
theorem own_pd18 : parseMethodDescriptor "(JLjava/lang/String;)I" = some ⟨[.long, (.object "java/lang/String")], some .int⟩ := by decide +kernel
def Q_own_law (Z : State) (u1 : Int64) (u2 : Int32) (u3 : Int32) (u4 : Int32) (zcs : Int32) (vsf : Value) (h0 : Heap) (n0 : Nat) (v : Option Value) (u : Vm) (h : Heap) (L : List Loc) : Prop := v = some (.int (1 : Int32)) ∧ Fr n0 L ∧ Keep h0 h []
theorem own_ef_own_law (m : MethodId) (u1 : Int64) (u2 : Int32) (u3 : Int32) (u4 : Int32) : entryFrame m #[(.long u1), (.int u2), (.int u3), (.int u4)] maxLocals = mkF m 0 #[.val (.long u1), .second, iv u2, iv u3, iv u4, .unset, .unset, .unset, .unset, .unset, .unset, .unset, .unset, .unset, .unset, .unset, .unset, .unset] [] := by first | (simp [entryFrame, mkF, argsToLocals, Value.category, maxLocals]; done) | rfl
set_option maxRecDepth 65536 in
set_option maxHeartbeats 40000000 in
theorem own_law (l : Launch) (Z : State) (a0 : Array Value) (hw : ∀ d ∈ tables_1, d.before a0 Z = true) (ws : List Jvm.Cond) (u1 : Int64) (u2 : Int32) (u3 : Int32) (u4 : Int32) (zcs : Int32) (vsf : Value) (h0 : Heap) (n0 : Nat) (Z0 : n0 ≤ h0.size) (O0 : Old Z n0 h0) (S_cs : Sta Z Z.heap "java/lang/String" "COMPACT_STRINGS" "Z" (.int zcs)) (hcs : ¬ zcs = (0 : Int32)) (S_ad : Sta Z Z.heap "java/lang/StringUTF16" "$assertionsDisabled" "Z" (.int (1 : Int32))) (S_hi : Sta Z Z.heap "java/lang/StringUTF16" "HI_BYTE_SHIFT" "I" (.int (0 : Int32))) (S_lo : Sta Z Z.heap "java/lang/StringUTF16" "LO_BYTE_SHIFT" "I" (.int (8 : Int32))) (S_sf : Sta Z Z.heap "jdk/internal/util/Preconditions" "SIOOBE_FORMATTER" "Ljava/util/function/BiFunction;" vsf) (r_sf : (vsf).isRef = true) (hcw : Jvm.Lit.compactW.before a0 Z = true) (hch : Jvm.Lit.constHeld Z "com/example/tallysieve/tallysieve/KeyIndexTagPinLaw" 16) (hsz0 : h0.size ≤ n0) :
    ownW_Ctr l Z x code maxLocals ret ws room_1 10 40 #[(.long u1), (.int u2), (.int u3), (.int u4)] h0 (fun u => IB Z u []) (Q_own_law Z u1 u2 u3 u4 zcs vsf h0 n0) := by
  refine ownW_enter (plainFor_of_name own_pn5) ?_
  intro p e s0 s m below meth c s₁ hsv hsh S0 X0 hx hZ hby hml hown hnm hlk hret e0 hJ
  have hib := hJ
  have N0 := Fr.nil n0
  refine ownW_cast (own_ef_own_law m u1 u2 u3 u4) ?_
  refine ownW_by (g' := (mkF m 6 #[.val (.long u1), .second, iv u2, iv u3, iv u4, .unset, .unset, .unset, .unset, .unset, .unset, .unset, .unset, .unset, .unset, .unset, .unset, .unset] [(.int ((1 : Int32) + (u4 &&& (3 : Int32))))])) (fun t k => XS.iconst X0.here hx rfl (hb hby at_0) (XS.iload X0.here hx rfl (hb hby at_1) rfl (XS.iconst X0.here hx rfl (hb hby at_3) (XS.iand X0.here hx rfl (hb hby at_4) rfl (XS.iadd X0.here hx rfl (hb hby at_5) rfl k))))) ?_
  rcases own_n4 u4 with q101 | q101 | q101 | q101
  ·
    rw [q101]
    refine ownW_by (g' := (mkF m 13 #[.val (.long u1), .second, iv u2, iv u3, iv u4, iv (1 : Int32), .unset, .unset, .unset, .unset, .unset, .unset, .unset, .unset, .unset, .unset, .unset, .unset] [(.int ((u2 &&& (65535 : Int32))).toUInt32.toUInt16.toUInt32.toInt32)])) (fun t k => XS.istore X0.here hx rfl (hb hby at_6) rfl (l' := #[.val (.long u1), .second, iv u2, iv u3, iv u4, iv (1 : Int32), .unset, .unset, .unset, .unset, .unset, .unset, .unset, .unset, .unset, .unset, .unset, .unset]) rfl (XS.iloadN X0.here hx rfl (hb hby at_8) rfl (X0.ldcInt hx hown (mvT hZ (hw _ (List.mem_of_getElem? (i := 0) rfl))) (g := (mkF m 9 #[.val (.long u1), .second, iv u2, iv u3, iv u4, iv (1 : Int32), .unset, .unset, .unset, .unset, .unset, .unset, .unset, .unset, .unset, .unset, .unset, .unset] [(.int u2)])) rfl (hb hby at_9) t (XS.iand X0.here hx rfl (hb hby at_11) rfl (XS.i2c X0.here hx rfl (hb hby at_12) rfl k))))) ?_
    generalize hv102 : ((u2 &&& (65535 : Int32))).toUInt32.toUInt16.toUInt32.toInt32 = v102
    refine ownW_by (g' := (mkF m 23 #[.val (.long u1), .second, iv u2, iv u3, iv u4, iv (1 : Int32), iv v102, .unset, .unset, .unset, .unset, .unset, .unset, .unset, .unset, .unset, .unset, .unset] [(.int ((((u2).toUInt32 >>> ((16 : Int32) &&& 31).toUInt32).toInt32 &&& (65535 : Int32))).toUInt32.toUInt16.toUInt32.toInt32)])) (fun t k => XS.istore X0.here hx rfl (hb hby at_13) rfl (l' := #[.val (.long u1), .second, iv u2, iv u3, iv u4, iv (1 : Int32), iv v102, .unset, .unset, .unset, .unset, .unset, .unset, .unset, .unset, .unset, .unset, .unset]) rfl (XS.iloadN X0.here hx rfl (hb hby at_15) rfl (XS.bipush X0.here hx rfl (hb hby at_16) (XS.iushr X0.here hx rfl (hb hby at_18) rfl (X0.ldcInt hx hown (mvT hZ (hw _ (List.mem_of_getElem? (i := 0) rfl))) (g := (mkF m 19 #[.val (.long u1), .second, iv u2, iv u3, iv u4, iv (1 : Int32), iv v102, .unset, .unset, .unset, .unset, .unset, .unset, .unset, .unset, .unset, .unset, .unset] [(.int ((u2).toUInt32 >>> ((16 : Int32) &&& 31).toUInt32).toInt32)])) rfl (hb hby at_19) t (XS.iand X0.here hx rfl (hb hby at_21) rfl (XS.i2c X0.here hx rfl (hb hby at_22) rfl k))))))) ?_
    generalize hv103 : ((((u2).toUInt32 >>> ((16 : Int32) &&& 31).toUInt32).toInt32 &&& (65535 : Int32))).toUInt32.toUInt16.toUInt32.toInt32 = v103
    refine ownW_by (g' := (mkF m 30 #[.val (.long u1), .second, iv u2, iv u3, iv u4, iv (1 : Int32), iv v102, iv v103, .unset, .unset, .unset, .unset, .unset, .unset, .unset, .unset, .unset, .unset] [(.int ((u3 &&& (65535 : Int32))).toUInt32.toUInt16.toUInt32.toInt32)])) (fun t k => XS.istore X0.here hx rfl (hb hby at_23) rfl (l' := #[.val (.long u1), .second, iv u2, iv u3, iv u4, iv (1 : Int32), iv v102, iv v103, .unset, .unset, .unset, .unset, .unset, .unset, .unset, .unset, .unset, .unset]) rfl (XS.iloadN X0.here hx rfl (hb hby at_25) rfl (X0.ldcInt hx hown (mvT hZ (hw _ (List.mem_of_getElem? (i := 0) rfl))) (g := (mkF m 26 #[.val (.long u1), .second, iv u2, iv u3, iv u4, iv (1 : Int32), iv v102, iv v103, .unset, .unset, .unset, .unset, .unset, .unset, .unset, .unset, .unset, .unset] [(.int u3)])) rfl (hb hby at_26) t (XS.iand X0.here hx rfl (hb hby at_28) rfl (XS.i2c X0.here hx rfl (hb hby at_29) rfl k))))) ?_
    generalize hv104 : ((u3 &&& (65535 : Int32))).toUInt32.toUInt16.toUInt32.toInt32 = v104
    refine ownW_by (g' := (mkF m 40 #[.val (.long u1), .second, iv u2, iv u3, iv u4, iv (1 : Int32), iv v102, iv v103, iv v104, .unset, .unset, .unset, .unset, .unset, .unset, .unset, .unset, .unset] [(.int ((((u3).toUInt32 >>> ((16 : Int32) &&& 31).toUInt32).toInt32 &&& (65535 : Int32))).toUInt32.toUInt16.toUInt32.toInt32)])) (fun t k => XS.istore X0.here hx rfl (hb hby at_30) rfl (l' := #[.val (.long u1), .second, iv u2, iv u3, iv u4, iv (1 : Int32), iv v102, iv v103, iv v104, .unset, .unset, .unset, .unset, .unset, .unset, .unset, .unset, .unset]) rfl (XS.iloadN X0.here hx rfl (hb hby at_32) rfl (XS.bipush X0.here hx rfl (hb hby at_33) (XS.iushr X0.here hx rfl (hb hby at_35) rfl (X0.ldcInt hx hown (mvT hZ (hw _ (List.mem_of_getElem? (i := 0) rfl))) (g := (mkF m 36 #[.val (.long u1), .second, iv u2, iv u3, iv u4, iv (1 : Int32), iv v102, iv v103, iv v104, .unset, .unset, .unset, .unset, .unset, .unset, .unset, .unset, .unset] [(.int ((u3).toUInt32 >>> ((16 : Int32) &&& 31).toUInt32).toInt32)])) rfl (hb hby at_36) t (XS.iand X0.here hx rfl (hb hby at_38) rfl (XS.i2c X0.here hx rfl (hb hby at_39) rfl k))))))) ?_
    generalize hv105 : ((((u3).toUInt32 >>> ((16 : Int32) &&& 31).toUInt32).toInt32 &&& (65535 : Int32))).toUInt32.toUInt16.toUInt32.toInt32 = v105
    refine ownW_by (g' := (mkF m 52 #[.val (.long u1), .second, iv u2, iv u3, iv u4, iv (1 : Int32), iv v102, iv v103, iv v104, iv v105, .unset, .unset, .unset, .unset, .unset, .unset, .unset, .unset] [(.int v105), (.int v104), (.int v103), (.int v102), (.int (1 : Int32))])) (fun t k => XS.istore X0.here hx rfl (hb hby at_40) rfl (l' := #[.val (.long u1), .second, iv u2, iv u3, iv u4, iv (1 : Int32), iv v102, iv v103, iv v104, iv v105, .unset, .unset, .unset, .unset, .unset, .unset, .unset, .unset]) rfl (XS.iload X0.here hx rfl (hb hby at_42) rfl (XS.iload X0.here hx rfl (hb hby at_44) rfl (XS.iload X0.here hx rfl (hb hby at_46) rfl (XS.iload X0.here hx rfl (hb hby at_48) rfl (XS.iload X0.here hx rfl (hb hby at_50) rfl k)))))) ?_
    refine ownW_callS X0 hx hZ hown (hw _ (List.mem_of_getElem? (i := 1) rfl)) (hw _ (List.mem_of_getElem? (i := 2) rfl)) (hw _ (List.mem_of_getElem? (i := 3) rfl)) (hw _ (List.mem_of_getElem? (i := 4) rfl)) (by decide) (own_str_1 l Z a0 hw [] (v102) (v103) (v104) (v105) (zcs) h0 n0 Z0 O0 S_cs (by first | assumption | decide) S_ad S_hi S_lo (own_ch_of hv102) (own_ch_of hv103) (own_ch_of hv104) (own_ch_of hv105)) 0 (by decide) (by decide) (by decide) (by decide) e0 (g := (mkF m 52 #[.val (.long u1), .second, iv u2, iv u3, iv u4, iv (1 : Int32), iv v102, iv v103, iv v104, iv v105, .unset, .unset, .unset, .unset, .unset, .unset, .unset, .unset] [(.int v105), (.int v104), (.int v103), (.int v102), (.int (1 : Int32))])) rfl (by rw [hml]; rfl) (argsL := [(.int (1 : Int32)), (.int v102), (.int v103), (.int v104), (.int v105)]) (rest := []) (lenOf own_pd17 rfl) rfl (by show 2 * 0 + _ ≤ _; exact Nat.le_of_eq rfl) (hb hby at_52) ?_
    intro v106 T106 L106 X106 q106
    obtain ⟨ro106, ba106, kb106, cd106, ln106, vs106, rfl, N106q, K106, f107, f108, f109, f110, f111, f112, f113⟩ := q106
    have N106 := Fr.app N0 N106q
    show ownW_Goes p e below s0 _ _ _ T106 (mkF m 55 #[.val (.long u1), .second, iv u2, iv u3, iv u4, iv (1 : Int32), iv v102, iv v103, iv v104, iv v105, .unset, .unset, .unset, .unset, .unset, .unset, .unset, .unset] [(.ref ro106)])
    refine ownW_by (g' := (mkF m 69 #[.val (.long u1), .second, iv u2, iv u3, iv u4, iv (1 : Int32), iv v102, iv v103, iv v104, iv v105, rv ro106, .unset, .unset, .unset, .unset, .unset, .unset, .unset] [(.int v105), (.int v105), (.int v104), (.int v103), (.int (0 : Int32))])) (fun t k => XS.astore X106.here hx rfl (hb hby at_55) rfl rfl (l' := #[.val (.long u1), .second, iv u2, iv u3, iv u4, iv (1 : Int32), iv v102, iv v103, iv v104, iv v105, rv ro106, .unset, .unset, .unset, .unset, .unset, .unset, .unset]) rfl (XS.iload X106.here hx rfl (hb hby at_57) rfl (XS.iconst X106.here hx rfl (hb hby at_59) (XS.isub X106.here hx rfl (hb hby at_60) rfl (XS.iload X106.here hx rfl (hb hby at_61) rfl (XS.iload X106.here hx rfl (hb hby at_63) rfl (XS.iload X106.here hx rfl (hb hby at_65) rfl (XS.iload X106.here hx rfl (hb hby at_67) rfl k)))))))) ?_
    have f114 := (O0.keep K106 all0)
    refine ownW_callSW X106 hx hZ hsv hsh S0 (Nat.zero_le _) hown (hw _ (List.mem_of_getElem? (i := 1) rfl)) (hw _ (List.mem_of_getElem? (i := 2) rfl)) (hw _ (List.mem_of_getElem? (i := 3) rfl)) (hw _ (List.mem_of_getElem? (i := 4) rfl)) (by decide) (own_str_0 l Z a0 hw [] (v103) (v104) (v105) (v105) T106.heap n0 (Nat.le_trans Z0 K106.1) f114 (by first | assumption | decide) (by first | assumption | decide)) (fun u hu => own_ibW hib hu) 0 (by decide) (by decide) (by decide) (by decide) rfl (g := (mkF m 69 #[.val (.long u1), .second, iv u2, iv u3, iv u4, iv (1 : Int32), iv v102, iv v103, iv v104, iv v105, rv ro106, .unset, .unset, .unset, .unset, .unset, .unset, .unset] [(.int v105), (.int v105), (.int v104), (.int v103), (.int (0 : Int32))])) rfl (by rw [hml]; rfl) (argsL := [(.int (0 : Int32)), (.int v103), (.int v104), (.int v105), (.int v105)]) (rest := []) (lenOf own_pd17 rfl) rfl (by show 2 * 0 + _ ≤ _; exact Nat.le_of_eq rfl) (hb hby at_69) ?_
    intro s v115 T115 L115 X115 hsv hsh S115 hZ hown q115
    obtain ⟨ro115, ba115, kb115, rfl, N115q, K115, f116, f117, f118, f119, u120⟩ := q115
    have N115 := Fr.app N106 N115q
    show ownW_Goes p e below s0 _ _ _ T115 (mkF m 72 #[.val (.long u1), .second, iv u2, iv u3, iv u4, iv (1 : Int32), iv v102, iv v103, iv v104, iv v105, rv ro106, .unset, .unset, .unset, .unset, .unset, .unset, .unset] [(.ref ro115)])
    refine ownW_by (g' := (mkF m 86 #[.val (.long u1), .second, iv u2, iv u3, iv u4, iv (1 : Int32), iv v102, iv v103, iv v104, iv v105, rv ro106, rv ro115, .val (.long (-7046029254386353131 : Int64)), .second, .unset, .unset, .unset, .unset] [(.long (-7046029254386353131 : Int64)), (.long (u1 ^^^ (v102).toInt64))])) (fun t k => XS.astore X115.here hx rfl (hb hby at_72) rfl rfl (l' := #[.val (.long u1), .second, iv u2, iv u3, iv u4, iv (1 : Int32), iv v102, iv v103, iv v104, iv v105, rv ro106, rv ro115, .unset, .unset, .unset, .unset, .unset, .unset]) rfl (X115.ldc2Long hx hown (mvT hZ (hw _ (List.mem_of_getElem? (i := 38) rfl))) (g := (mkF m 74 #[.val (.long u1), .second, iv u2, iv u3, iv u4, iv (1 : Int32), iv v102, iv v103, iv v104, iv v105, rv ro106, rv ro115, .unset, .unset, .unset, .unset, .unset, .unset] [])) rfl (hb hby at_74) t (XS.lstore X115.here hx rfl (hb hby at_77) rfl (l' := #[.val (.long u1), .second, iv u2, iv u3, iv u4, iv (1 : Int32), iv v102, iv v103, iv v104, iv v105, rv ro106, rv ro115, .val (.long (-7046029254386353131 : Int64)), .second, .unset, .unset, .unset, .unset]) rfl (XS.lloadN X115.here hx rfl (hb hby at_79) rfl (XS.iload X115.here hx rfl (hb hby at_80) rfl (XS.i2l X115.here hx rfl (hb hby at_82) rfl (XS.lxor X115.here hx rfl (hb hby at_83) rfl (XS.lload X115.here hx rfl (hb hby at_84) rfl k)))))))) ?_
    refine ownW_by (g' := (mkF m 92 #[.val (.long u1), .second, iv u2, iv u3, iv u4, iv (1 : Int32), iv v102, iv v103, iv v104, iv v105, rv ro106, rv ro115, .val (.long (-7046029254386353131 : Int64)), .second, .val (.long ((u1 ^^^ (v102).toInt64) * (-7046029254386353131 : Int64))), .second, .unset, .unset] [(.ref ro115), (.long u1)])) (fun t k => XS.lmul X115.here hx rfl (hb hby at_86) rfl (XS.lstore X115.here hx rfl (hb hby at_87) rfl (l' := #[.val (.long u1), .second, iv u2, iv u3, iv u4, iv (1 : Int32), iv v102, iv v103, iv v104, iv v105, rv ro106, rv ro115, .val (.long (-7046029254386353131 : Int64)), .second, .val (.long ((u1 ^^^ (v102).toInt64) * (-7046029254386353131 : Int64))), .second, .unset, .unset]) rfl (XS.lloadN X115.here hx rfl (hb hby at_89) rfl (own_again X115 hx hZ hown (hw _ (List.mem_of_getElem? (i := 35) rfl)) u120 (g := (mkF m 90 #[.val (.long u1), .second, iv u2, iv u3, iv u4, iv (1 : Int32), iv v102, iv v103, iv v104, iv v105, rv ro106, rv ro115, .val (.long (-7046029254386353131 : Int64)), .second, .val (.long ((u1 ^^^ (v102).toInt64) * (-7046029254386353131 : Int64))), .second, .unset, .unset] [(.long u1)])) rfl (hb hby at_90) t k)))) ?_
    have f121 := (f114.keep K115 all0)
    refine ownW_callS X115 hx hZ hown (hw _ (List.mem_of_getElem? (i := 39) rfl)) (hw _ (List.mem_of_getElem? (i := 40) rfl)) (hw _ (List.mem_of_getElem? (i := 41) rfl)) (hw _ (List.mem_of_getElem? (i := 42) rfl)) (by decide) (own_tag0 l Z a0 hw [] (ro115) (ba115) (kb115) ((0 : Int32)) ((0 : Int32)) ([]) (u1) (zcs) (vsf) T115.heap n0 (Nat.le_trans Z0 (Nat.le_trans K106.1 K115.1)) f121 S_cs (by first | assumption | decide) S_ad S_hi S_lo S_sf r_sf f116 f117 f118 f119 (Or.inl ⟨rfl, rfl⟩)) 0 (by decide) (by decide) (by decide) (by decide) rfl (g := (mkF m 92 #[.val (.long u1), .second, iv u2, iv u3, iv u4, iv (1 : Int32), iv v102, iv v103, iv v104, iv v105, rv ro106, rv ro115, .val (.long (-7046029254386353131 : Int64)), .second, .val (.long ((u1 ^^^ (v102).toInt64) * (-7046029254386353131 : Int64))), .second, .unset, .unset] [(.ref ro115), (.long u1)])) rfl (by rw [hml]; rfl) (argsL := [(.long u1), (.ref ro115)]) (rest := []) (lenOf own_pd18 rfl) rfl (by show 2 * 0 + _ ≤ _; exact Nat.le_of_eq rfl) (hb hby at_92) ?_
    intro v122 T122 L122 X122 q122
    obtain ⟨rfl, N122q, e122⟩ := q122
    have N122 := Fr.app N115 N122q
    show ownW_Goes p e below s0 _ _ _ T122 (mkF m 95 #[.val (.long u1), .second, iv u2, iv u3, iv u4, iv (1 : Int32), iv v102, iv v103, iv v104, iv v105, rv ro106, rv ro115, .val (.long (-7046029254386353131 : Int64)), .second, .val (.long ((u1 ^^^ (v102).toInt64) * (-7046029254386353131 : Int64))), .second, .unset, .unset] [(.int ((((u1).toUInt64 >>> ((32 : Int32) &&& 0x3f).toInt64.toUInt64).toInt64).toInt32 ||| (1 : Int32)))])
    refine ownW_by (g' := (mkF m 106 #[.val (.long u1), .second, iv u2, iv u3, iv u4, iv (1 : Int32), iv v102, iv v103, iv v104, iv v105, rv ro106, rv ro115, .val (.long (-7046029254386353131 : Int64)), .second, .val (.long ((u1 ^^^ (v102).toInt64) * (-7046029254386353131 : Int64))), .second, .unset, .unset] [(.int (1 : Int32))])) (fun t k => XS.lloadN X122.here hx rfl (hb hby at_95) rfl (XS.bipush X122.here hx rfl (hb hby at_96) (XS.lushr X122.here hx rfl (hb hby at_98) rfl (XS.l2i X122.here hx rfl (hb hby at_99) rfl (XS.iconst X122.here hx rfl (hb hby at_100) (XS.ior X122.here hx rfl (hb hby at_101) rfl (XS.icmpNo X122.here hx rfl (hb hby at_102) rfl (teq (rfl : ((((u1).toUInt64 >>> ((32 : Int32) &&& 0x3f).toInt64.toUInt64).toInt64).toInt32 ||| (1 : Int32)) = ((((u1).toUInt64 >>> ((32 : Int32) &&& 0x3f).toInt64.toUInt64).toInt64).toInt32 ||| (1 : Int32)))).2 (XS.iconst X122.here hx rfl (hb hby at_105) k)))))))) ?_
    refine ownW_by (g' := (mkF m 115 #[.val (.long u1), .second, iv u2, iv u3, iv u4, iv (1 : Int32), iv v102, iv v103, iv v104, iv v105, rv ro106, rv ro115, .val (.long (-7046029254386353131 : Int64)), .second, .val (.long ((u1 ^^^ (v102).toInt64) * (-7046029254386353131 : Int64))), .second, iv (1 : Int32), .unset] [(.ref ro106), (.long u1)])) (fun t k => XS.goto X122.here hx rfl (pc0 := 106) (pc' := 110) rfl (hb hby at_106) (by decide) (by decide) (XS.istore X122.here hx rfl (hb hby at_110) rfl (l' := #[.val (.long u1), .second, iv u2, iv u3, iv u4, iv (1 : Int32), iv v102, iv v103, iv v104, iv v105, rv ro106, rv ro115, .val (.long (-7046029254386353131 : Int64)), .second, .val (.long ((u1 ^^^ (v102).toInt64) * (-7046029254386353131 : Int64))), .second, iv (1 : Int32), .unset]) rfl (XS.lloadN X122.here hx rfl (hb hby at_112) rfl (XS.aload X122.here hx rfl (hb hby at_113) rfl rfl k)))) ?_
    have f123 := (f108.keep K115)
    have f124 := (f109.keep K115 nin0)
    have f125 := (f110.keep K115 nin0)
    have f126 := (f111.keep K115 nin0)
    refine ownW_callS X122 hx hZ hown (hw _ (List.mem_of_getElem? (i := 39) rfl)) (hw _ (List.mem_of_getElem? (i := 40) rfl)) (hw _ (List.mem_of_getElem? (i := 41) rfl)) (hw _ (List.mem_of_getElem? (i := 42) rfl)) (by decide) (own_tag1 l Z a0 hw [] (ro106) (ba106) (kb106) (cd106) (ln106) (vs106) (u1) (v102) (zcs) (vsf) T115.heap n0 (Nat.le_trans Z0 (Nat.le_trans K106.1 K115.1)) f121 S_cs (by first | assumption | decide) S_ad S_hi S_lo S_sf r_sf f123 f124 f125 f126 f112 (own_ch_of hv102) f113) 0 (by decide) (by decide) (by decide) (by decide) e122 (g := (mkF m 115 #[.val (.long u1), .second, iv u2, iv u3, iv u4, iv (1 : Int32), iv v102, iv v103, iv v104, iv v105, rv ro106, rv ro115, .val (.long (-7046029254386353131 : Int64)), .second, .val (.long ((u1 ^^^ (v102).toInt64) * (-7046029254386353131 : Int64))), .second, iv (1 : Int32), .unset] [(.ref ro106), (.long u1)])) rfl (by rw [hml]; rfl) (argsL := [(.long u1), (.ref ro106)]) (rest := []) (lenOf own_pd18 rfl) rfl (by show 2 * 0 + _ ≤ _; exact Nat.le_of_eq rfl) (hb hby at_115) ?_
    intro v127 T127 L127 X127 q127
    obtain ⟨rfl, N127q, e127⟩ := q127
    have N127 := Fr.app N122 N127q
    show ownW_Goes p e below s0 _ _ _ T127 (mkF m 118 #[.val (.long u1), .second, iv u2, iv u3, iv u4, iv (1 : Int32), iv v102, iv v103, iv v104, iv v105, rv ro106, rv ro115, .val (.long (-7046029254386353131 : Int64)), .second, .val (.long ((u1 ^^^ (v102).toInt64) * (-7046029254386353131 : Int64))), .second, iv (1 : Int32), .unset] [(.int ((((((u1 ^^^ (v102).toInt64) * (-7046029254386353131 : Int64))).toUInt64 >>> ((32 : Int32) &&& 0x3f).toInt64.toUInt64).toInt64).toInt32 ||| (1 : Int32)))])
    refine ownW_by (g' := (mkF m 122 #[.val (.long u1), .second, iv u2, iv u3, iv u4, iv (1 : Int32), iv v102, iv v103, iv v104, iv v105, rv ro106, rv ro115, .val (.long (-7046029254386353131 : Int64)), .second, .val (.long ((u1 ^^^ (v102).toInt64) * (-7046029254386353131 : Int64))), .second, iv (1 : Int32), .unset] [(.ref ro115), (.long ((u1 ^^^ (v102).toInt64) * (-7046029254386353131 : Int64))), (.int ((((((u1 ^^^ (v102).toInt64) * (-7046029254386353131 : Int64))).toUInt64 >>> ((32 : Int32) &&& 0x3f).toInt64.toUInt64).toInt64).toInt32 ||| (1 : Int32)))])) (fun t k => XS.lload X127.here hx rfl (hb hby at_118) rfl (XS.aload X127.here hx rfl (hb hby at_120) rfl rfl k)) ?_
    refine ownW_callS X127 hx hZ hown (hw _ (List.mem_of_getElem? (i := 39) rfl)) (hw _ (List.mem_of_getElem? (i := 40) rfl)) (hw _ (List.mem_of_getElem? (i := 41) rfl)) (hw _ (List.mem_of_getElem? (i := 42) rfl)) (by decide) (own_tag0 l Z a0 hw [] (ro115) (ba115) (kb115) ((0 : Int32)) ((0 : Int32)) ([]) (((u1 ^^^ (v102).toInt64) * (-7046029254386353131 : Int64))) (zcs) (vsf) T115.heap n0 (Nat.le_trans Z0 (Nat.le_trans K106.1 K115.1)) f121 S_cs (by first | assumption | decide) S_ad S_hi S_lo S_sf r_sf f116 f117 f118 f119 (Or.inl ⟨rfl, rfl⟩)) 1 (by decide) (by decide) (by decide) (by decide) e127 (g := (mkF m 122 #[.val (.long u1), .second, iv u2, iv u3, iv u4, iv (1 : Int32), iv v102, iv v103, iv v104, iv v105, rv ro106, rv ro115, .val (.long (-7046029254386353131 : Int64)), .second, .val (.long ((u1 ^^^ (v102).toInt64) * (-7046029254386353131 : Int64))), .second, iv (1 : Int32), .unset] [(.ref ro115), (.long ((u1 ^^^ (v102).toInt64) * (-7046029254386353131 : Int64))), (.int ((((((u1 ^^^ (v102).toInt64) * (-7046029254386353131 : Int64))).toUInt64 >>> ((32 : Int32) &&& 0x3f).toInt64.toUInt64).toInt64).toInt32 ||| (1 : Int32)))])) rfl (by rw [hml]; rfl) (argsL := [(.long ((u1 ^^^ (v102).toInt64) * (-7046029254386353131 : Int64))), (.ref ro115)]) (rest := [(.int ((((((u1 ^^^ (v102).toInt64) * (-7046029254386353131 : Int64))).toUInt64 >>> ((32 : Int32) &&& 0x3f).toInt64.toUInt64).toInt64).toInt32 ||| (1 : Int32)))]) (lenOf own_pd18 rfl) rfl (by show 2 * 0 + _ ≤ _; exact Nat.le_of_eq rfl) (hb hby at_122) ?_
    intro v128 T128 L128 X128 q128
    obtain ⟨rfl, N128q, e128⟩ := q128
    have N128 := Fr.app N127 N128q
    show ownW_Goes p e below s0 _ _ _ T128 (mkF m 125 #[.val (.long u1), .second, iv u2, iv u3, iv u4, iv (1 : Int32), iv v102, iv v103, iv v104, iv v105, rv ro106, rv ro115, .val (.long (-7046029254386353131 : Int64)), .second, .val (.long ((u1 ^^^ (v102).toInt64) * (-7046029254386353131 : Int64))), .second, iv (1 : Int32), .unset] [(.int ((((((u1 ^^^ (v102).toInt64) * (-7046029254386353131 : Int64))).toUInt64 >>> ((32 : Int32) &&& 0x3f).toInt64.toUInt64).toInt64).toInt32 ||| (1 : Int32))), (.int ((((((u1 ^^^ (v102).toInt64) * (-7046029254386353131 : Int64))).toUInt64 >>> ((32 : Int32) &&& 0x3f).toInt64.toUInt64).toInt64).toInt32 ||| (1 : Int32)))])
    refine ownW_by (g' := (mkF m 145 #[.val (.long u1), .second, iv u2, iv u3, iv u4, iv (1 : Int32), iv v102, iv v103, iv v104, iv v105, rv ro106, rv ro115, .val (.long (-7046029254386353131 : Int64)), .second, .val (.long ((u1 ^^^ (v102).toInt64) * (-7046029254386353131 : Int64))), .second, iv (1 : Int32), iv (1 : Int32)] [])) (fun t k => XS.icmpNo X128.here hx rfl (hb hby at_125) rfl (teq (rfl : ((((((u1 ^^^ (v102).toInt64) * (-7046029254386353131 : Int64))).toUInt64 >>> ((32 : Int32) &&& 0x3f).toInt64.toUInt64).toInt64).toInt32 ||| (1 : Int32)) = ((((((u1 ^^^ (v102).toInt64) * (-7046029254386353131 : Int64))).toUInt64 >>> ((32 : Int32) &&& 0x3f).toInt64.toUInt64).toInt64).toInt32 ||| (1 : Int32)))).2 (XS.iconst X128.here hx rfl (hb hby at_128) (XS.goto X128.here hx rfl (pc0 := 129) (pc' := 133) rfl (hb hby at_129) (by decide) (by decide) (XS.istore X128.here hx rfl (hb hby at_133) rfl (l' := #[.val (.long u1), .second, iv u2, iv u3, iv u4, iv (1 : Int32), iv v102, iv v103, iv v104, iv v105, rv ro106, rv ro115, .val (.long (-7046029254386353131 : Int64)), .second, .val (.long ((u1 ^^^ (v102).toInt64) * (-7046029254386353131 : Int64))), .second, iv (1 : Int32), iv (1 : Int32)]) rfl (XS.iload X128.here hx rfl (hb hby at_135) rfl (XS.ifNo X128.here hx rfl (hb hby at_137) rfl ((if0 _ _).trans (feq (by decide : ¬ ((1 : Int32) = (0 : Int32)))).1) (XS.iload X128.here hx rfl (hb hby at_140) rfl (XS.ifNo X128.here hx rfl (hb hby at_142) rfl ((if0 _ _).trans (feq (by decide : ¬ ((1 : Int32) = (0 : Int32)))).1) k)))))))) ?_
    refine ownW_by (g' := (mkF m 150 #[.val (.long u1), .second, iv u2, iv u3, iv u4, iv (1 : Int32), iv v102, iv v103, iv v104, iv v105, rv ro106, rv ro115, .val (.long (-7046029254386353131 : Int64)), .second, .val (.long ((u1 ^^^ (v102).toInt64) * (-7046029254386353131 : Int64))), .second, iv (1 : Int32), iv (1 : Int32)] [(.int (1 : Int32))])) (fun t k => XS.iconst X128.here hx rfl (hb hby at_145) (XS.goto X128.here hx rfl (pc0 := 146) (pc' := 150) rfl (hb hby at_146) (by decide) (by decide) k)) ?_
    refine ownW_retN X128 hsv S115 (Nat.le_trans (Nat.le_refl _) (Nat.le_of_eq (congrArg Array.size e128).symm)) hx hlk hret (t := .boolean) (by simp) (hb hby at_150) (by decide) (by decide) ?_
    intro u hu
    rw [e128]
    exact ⟨rfl, N128, (((Keep.refl h0 []).trans K106 all0).trans K115 all0)⟩
  ·
    rw [q101]
    refine ownW_by (g' := (mkF m 13 #[.val (.long u1), .second, iv u2, iv u3, iv u4, iv (2 : Int32), .unset, .unset, .unset, .unset, .unset, .unset, .unset, .unset, .unset, .unset, .unset, .unset] [(.int ((u2 &&& (65535 : Int32))).toUInt32.toUInt16.toUInt32.toInt32)])) (fun t k => XS.istore X0.here hx rfl (hb hby at_6) rfl (l' := #[.val (.long u1), .second, iv u2, iv u3, iv u4, iv (2 : Int32), .unset, .unset, .unset, .unset, .unset, .unset, .unset, .unset, .unset, .unset, .unset, .unset]) rfl (XS.iloadN X0.here hx rfl (hb hby at_8) rfl (X0.ldcInt hx hown (mvT hZ (hw _ (List.mem_of_getElem? (i := 0) rfl))) (g := (mkF m 9 #[.val (.long u1), .second, iv u2, iv u3, iv u4, iv (2 : Int32), .unset, .unset, .unset, .unset, .unset, .unset, .unset, .unset, .unset, .unset, .unset, .unset] [(.int u2)])) rfl (hb hby at_9) t (XS.iand X0.here hx rfl (hb hby at_11) rfl (XS.i2c X0.here hx rfl (hb hby at_12) rfl k))))) ?_
    generalize hv129 : ((u2 &&& (65535 : Int32))).toUInt32.toUInt16.toUInt32.toInt32 = v129
    refine ownW_by (g' := (mkF m 23 #[.val (.long u1), .second, iv u2, iv u3, iv u4, iv (2 : Int32), iv v129, .unset, .unset, .unset, .unset, .unset, .unset, .unset, .unset, .unset, .unset, .unset] [(.int ((((u2).toUInt32 >>> ((16 : Int32) &&& 31).toUInt32).toInt32 &&& (65535 : Int32))).toUInt32.toUInt16.toUInt32.toInt32)])) (fun t k => XS.istore X0.here hx rfl (hb hby at_13) rfl (l' := #[.val (.long u1), .second, iv u2, iv u3, iv u4, iv (2 : Int32), iv v129, .unset, .unset, .unset, .unset, .unset, .unset, .unset, .unset, .unset, .unset, .unset]) rfl (XS.iloadN X0.here hx rfl (hb hby at_15) rfl (XS.bipush X0.here hx rfl (hb hby at_16) (XS.iushr X0.here hx rfl (hb hby at_18) rfl (X0.ldcInt hx hown (mvT hZ (hw _ (List.mem_of_getElem? (i := 0) rfl))) (g := (mkF m 19 #[.val (.long u1), .second, iv u2, iv u3, iv u4, iv (2 : Int32), iv v129, .unset, .unset, .unset, .unset, .unset, .unset, .unset, .unset, .unset, .unset, .unset] [(.int ((u2).toUInt32 >>> ((16 : Int32) &&& 31).toUInt32).toInt32)])) rfl (hb hby at_19) t (XS.iand X0.here hx rfl (hb hby at_21) rfl (XS.i2c X0.here hx rfl (hb hby at_22) rfl k))))))) ?_
    generalize hv130 : ((((u2).toUInt32 >>> ((16 : Int32) &&& 31).toUInt32).toInt32 &&& (65535 : Int32))).toUInt32.toUInt16.toUInt32.toInt32 = v130
    refine ownW_by (g' := (mkF m 30 #[.val (.long u1), .second, iv u2, iv u3, iv u4, iv (2 : Int32), iv v129, iv v130, .unset, .unset, .unset, .unset, .unset, .unset, .unset, .unset, .unset, .unset] [(.int ((u3 &&& (65535 : Int32))).toUInt32.toUInt16.toUInt32.toInt32)])) (fun t k => XS.istore X0.here hx rfl (hb hby at_23) rfl (l' := #[.val (.long u1), .second, iv u2, iv u3, iv u4, iv (2 : Int32), iv v129, iv v130, .unset, .unset, .unset, .unset, .unset, .unset, .unset, .unset, .unset, .unset]) rfl (XS.iloadN X0.here hx rfl (hb hby at_25) rfl (X0.ldcInt hx hown (mvT hZ (hw _ (List.mem_of_getElem? (i := 0) rfl))) (g := (mkF m 26 #[.val (.long u1), .second, iv u2, iv u3, iv u4, iv (2 : Int32), iv v129, iv v130, .unset, .unset, .unset, .unset, .unset, .unset, .unset, .unset, .unset, .unset] [(.int u3)])) rfl (hb hby at_26) t (XS.iand X0.here hx rfl (hb hby at_28) rfl (XS.i2c X0.here hx rfl (hb hby at_29) rfl k))))) ?_
    generalize hv131 : ((u3 &&& (65535 : Int32))).toUInt32.toUInt16.toUInt32.toInt32 = v131
    refine ownW_by (g' := (mkF m 40 #[.val (.long u1), .second, iv u2, iv u3, iv u4, iv (2 : Int32), iv v129, iv v130, iv v131, .unset, .unset, .unset, .unset, .unset, .unset, .unset, .unset, .unset] [(.int ((((u3).toUInt32 >>> ((16 : Int32) &&& 31).toUInt32).toInt32 &&& (65535 : Int32))).toUInt32.toUInt16.toUInt32.toInt32)])) (fun t k => XS.istore X0.here hx rfl (hb hby at_30) rfl (l' := #[.val (.long u1), .second, iv u2, iv u3, iv u4, iv (2 : Int32), iv v129, iv v130, iv v131, .unset, .unset, .unset, .unset, .unset, .unset, .unset, .unset, .unset]) rfl (XS.iloadN X0.here hx rfl (hb hby at_32) rfl (XS.bipush X0.here hx rfl (hb hby at_33) (XS.iushr X0.here hx rfl (hb hby at_35) rfl (X0.ldcInt hx hown (mvT hZ (hw _ (List.mem_of_getElem? (i := 0) rfl))) (g := (mkF m 36 #[.val (.long u1), .second, iv u2, iv u3, iv u4, iv (2 : Int32), iv v129, iv v130, iv v131, .unset, .unset, .unset, .unset, .unset, .unset, .unset, .unset, .unset] [(.int ((u3).toUInt32 >>> ((16 : Int32) &&& 31).toUInt32).toInt32)])) rfl (hb hby at_36) t (XS.iand X0.here hx rfl (hb hby at_38) rfl (XS.i2c X0.here hx rfl (hb hby at_39) rfl k))))))) ?_
    generalize hv132 : ((((u3).toUInt32 >>> ((16 : Int32) &&& 31).toUInt32).toInt32 &&& (65535 : Int32))).toUInt32.toUInt16.toUInt32.toInt32 = v132
    refine ownW_by (g' := (mkF m 52 #[.val (.long u1), .second, iv u2, iv u3, iv u4, iv (2 : Int32), iv v129, iv v130, iv v131, iv v132, .unset, .unset, .unset, .unset, .unset, .unset, .unset, .unset] [(.int v132), (.int v131), (.int v130), (.int v129), (.int (2 : Int32))])) (fun t k => XS.istore X0.here hx rfl (hb hby at_40) rfl (l' := #[.val (.long u1), .second, iv u2, iv u3, iv u4, iv (2 : Int32), iv v129, iv v130, iv v131, iv v132, .unset, .unset, .unset, .unset, .unset, .unset, .unset, .unset]) rfl (XS.iload X0.here hx rfl (hb hby at_42) rfl (XS.iload X0.here hx rfl (hb hby at_44) rfl (XS.iload X0.here hx rfl (hb hby at_46) rfl (XS.iload X0.here hx rfl (hb hby at_48) rfl (XS.iload X0.here hx rfl (hb hby at_50) rfl k)))))) ?_
    refine ownW_callS X0 hx hZ hown (hw _ (List.mem_of_getElem? (i := 1) rfl)) (hw _ (List.mem_of_getElem? (i := 2) rfl)) (hw _ (List.mem_of_getElem? (i := 3) rfl)) (hw _ (List.mem_of_getElem? (i := 4) rfl)) (by decide) (own_str_2 l Z a0 hw [] (v129) (v130) (v131) (v132) (zcs) h0 n0 Z0 O0 S_cs (by first | assumption | decide) S_ad S_hi S_lo (own_ch_of hv129) (own_ch_of hv130) (own_ch_of hv131) (own_ch_of hv132)) 0 (by decide) (by decide) (by decide) (by decide) e0 (g := (mkF m 52 #[.val (.long u1), .second, iv u2, iv u3, iv u4, iv (2 : Int32), iv v129, iv v130, iv v131, iv v132, .unset, .unset, .unset, .unset, .unset, .unset, .unset, .unset] [(.int v132), (.int v131), (.int v130), (.int v129), (.int (2 : Int32))])) rfl (by rw [hml]; rfl) (argsL := [(.int (2 : Int32)), (.int v129), (.int v130), (.int v131), (.int v132)]) (rest := []) (lenOf own_pd17 rfl) rfl (by show 2 * 0 + _ ≤ _; exact Nat.le_of_eq rfl) (hb hby at_52) ?_
    intro v133 T133 L133 X133 q133
    obtain ⟨ro133, ba133, kb133, cd133, ln133, vs133, rfl, N133q, K133, f134, f135, f136, f137, f138, f139, f140, f141⟩ := q133
    have N133 := Fr.app N0 N133q
    show ownW_Goes p e below s0 _ _ _ T133 (mkF m 55 #[.val (.long u1), .second, iv u2, iv u3, iv u4, iv (2 : Int32), iv v129, iv v130, iv v131, iv v132, .unset, .unset, .unset, .unset, .unset, .unset, .unset, .unset] [(.ref ro133)])
    refine ownW_by (g' := (mkF m 69 #[.val (.long u1), .second, iv u2, iv u3, iv u4, iv (2 : Int32), iv v129, iv v130, iv v131, iv v132, rv ro133, .unset, .unset, .unset, .unset, .unset, .unset, .unset] [(.int v132), (.int v132), (.int v131), (.int v130), (.int (1 : Int32))])) (fun t k => XS.astore X133.here hx rfl (hb hby at_55) rfl rfl (l' := #[.val (.long u1), .second, iv u2, iv u3, iv u4, iv (2 : Int32), iv v129, iv v130, iv v131, iv v132, rv ro133, .unset, .unset, .unset, .unset, .unset, .unset, .unset]) rfl (XS.iload X133.here hx rfl (hb hby at_57) rfl (XS.iconst X133.here hx rfl (hb hby at_59) (XS.isub X133.here hx rfl (hb hby at_60) rfl (XS.iload X133.here hx rfl (hb hby at_61) rfl (XS.iload X133.here hx rfl (hb hby at_63) rfl (XS.iload X133.here hx rfl (hb hby at_65) rfl (XS.iload X133.here hx rfl (hb hby at_67) rfl k)))))))) ?_
    have f142 := (O0.keep K133 all0)
    refine ownW_callS X133 hx hZ hown (hw _ (List.mem_of_getElem? (i := 1) rfl)) (hw _ (List.mem_of_getElem? (i := 2) rfl)) (hw _ (List.mem_of_getElem? (i := 3) rfl)) (hw _ (List.mem_of_getElem? (i := 4) rfl)) (by decide) (own_str_1 l Z a0 hw [] (v130) (v131) (v132) (v132) (zcs) T133.heap n0 (Nat.le_trans Z0 K133.1) f142 S_cs (by first | assumption | decide) S_ad S_hi S_lo (own_ch_of hv130) (own_ch_of hv131) (own_ch_of hv132) (own_ch_of hv132)) 0 (by decide) (by decide) (by decide) (by decide) rfl (g := (mkF m 69 #[.val (.long u1), .second, iv u2, iv u3, iv u4, iv (2 : Int32), iv v129, iv v130, iv v131, iv v132, rv ro133, .unset, .unset, .unset, .unset, .unset, .unset, .unset] [(.int v132), (.int v132), (.int v131), (.int v130), (.int (1 : Int32))])) rfl (by rw [hml]; rfl) (argsL := [(.int (1 : Int32)), (.int v130), (.int v131), (.int v132), (.int v132)]) (rest := []) (lenOf own_pd17 rfl) rfl (by show 2 * 0 + _ ≤ _; exact Nat.le_of_eq rfl) (hb hby at_69) ?_
    intro v143 T143 L143 X143 q143
    obtain ⟨ro143, ba143, kb143, cd143, ln143, vs143, rfl, N143q, K143, f144, f145, f146, f147, f148, f149, f150⟩ := q143
    have N143 := Fr.app N133 N143q
    show ownW_Goes p e below s0 _ _ _ T143 (mkF m 72 #[.val (.long u1), .second, iv u2, iv u3, iv u4, iv (2 : Int32), iv v129, iv v130, iv v131, iv v132, rv ro133, .unset, .unset, .unset, .unset, .unset, .unset, .unset] [(.ref ro143)])
    refine ownW_by (g' := (mkF m 86 #[.val (.long u1), .second, iv u2, iv u3, iv u4, iv (2 : Int32), iv v129, iv v130, iv v131, iv v132, rv ro133, rv ro143, .val (.long (-7046029254386353131 : Int64)), .second, .unset, .unset, .unset, .unset] [(.long (-7046029254386353131 : Int64)), (.long (u1 ^^^ (v129).toInt64))])) (fun t k => XS.astore X143.here hx rfl (hb hby at_72) rfl rfl (l' := #[.val (.long u1), .second, iv u2, iv u3, iv u4, iv (2 : Int32), iv v129, iv v130, iv v131, iv v132, rv ro133, rv ro143, .unset, .unset, .unset, .unset, .unset, .unset]) rfl (X143.ldc2Long hx hown (mvT hZ (hw _ (List.mem_of_getElem? (i := 38) rfl))) (g := (mkF m 74 #[.val (.long u1), .second, iv u2, iv u3, iv u4, iv (2 : Int32), iv v129, iv v130, iv v131, iv v132, rv ro133, rv ro143, .unset, .unset, .unset, .unset, .unset, .unset] [])) rfl (hb hby at_74) t (XS.lstore X143.here hx rfl (hb hby at_77) rfl (l' := #[.val (.long u1), .second, iv u2, iv u3, iv u4, iv (2 : Int32), iv v129, iv v130, iv v131, iv v132, rv ro133, rv ro143, .val (.long (-7046029254386353131 : Int64)), .second, .unset, .unset, .unset, .unset]) rfl (XS.lloadN X143.here hx rfl (hb hby at_79) rfl (XS.iload X143.here hx rfl (hb hby at_80) rfl (XS.i2l X143.here hx rfl (hb hby at_82) rfl (XS.lxor X143.here hx rfl (hb hby at_83) rfl (XS.lload X143.here hx rfl (hb hby at_84) rfl k)))))))) ?_
    refine ownW_by (g' := (mkF m 90 #[.val (.long u1), .second, iv u2, iv u3, iv u4, iv (2 : Int32), iv v129, iv v130, iv v131, iv v132, rv ro133, rv ro143, .val (.long (-7046029254386353131 : Int64)), .second, .val (.long ((u1 ^^^ (v129).toInt64) * (-7046029254386353131 : Int64))), .second, .unset, .unset] [(.long u1)])) (fun t k => XS.lmul X143.here hx rfl (hb hby at_86) rfl (XS.lstore X143.here hx rfl (hb hby at_87) rfl (l' := #[.val (.long u1), .second, iv u2, iv u3, iv u4, iv (2 : Int32), iv v129, iv v130, iv v131, iv v132, rv ro133, rv ro143, .val (.long (-7046029254386353131 : Int64)), .second, .val (.long ((u1 ^^^ (v129).toInt64) * (-7046029254386353131 : Int64))), .second, .unset, .unset]) rfl (XS.lloadN X143.here hx rfl (hb hby at_89) rfl k))) ?_
    refine ownW_ldc X143 hx hZ hsv hsh S0 (Nat.zero_le _) hown (hw _ (List.mem_of_getElem? (i := 35) rfl)) (own_atoms hw) rfl O0 (own_frS N143 hsz0) hib (by decide) hch hcw (vs := []) (zl := (0 : Int32)) ⟨by decide, rfl⟩ (by decide) (by decide) (g := (mkF m 90 #[.val (.long u1), .second, iv u2, iv u3, iv u4, iv (2 : Int32), iv v129, iv v130, iv v131, iv v132, rv ro133, rv ro143, .val (.long (-7046029254386353131 : Int64)), .second, .val (.long ((u1 ^^^ (v129).toInt64) * (-7046029254386353131 : Int64))), .second, .unset, .unset] [(.long u1)])) rfl (hb hby at_90) (k0 := 0) (by decide) (by decide) (by decide) (by decide) ?_
    intro s T151 h151 a151 b151 k151 X151 hsv hsh S151 hZ hown e151 E151 ex151 fc151 fv151 av151 ib151 li151
    show ownW_Goes p e below s0 _ _ _ T151 (mkF m 92 #[.val (.long u1), .second, iv u2, iv u3, iv u4, iv (2 : Int32), iv v129, iv v130, iv v131, iv v132, rv ro133, rv ro143, .val (.long (-7046029254386353131 : Int64)), .second, .val (.long ((u1 ^^^ (v129).toInt64) * (-7046029254386353131 : Int64))), .second, .unset, .unset] [(.ref a151), (.long u1)])
    have f152 := ((f142.keep K143 all0).ext E151)
    refine ownW_callS X151 hx hZ hown (hw _ (List.mem_of_getElem? (i := 39) rfl)) (hw _ (List.mem_of_getElem? (i := 40) rfl)) (hw _ (List.mem_of_getElem? (i := 41) rfl)) (hw _ (List.mem_of_getElem? (i := 42) rfl)) (by decide) (own_tag0 l Z a0 hw [] (a151) (b151) (k151) ((0 : Int32)) ((0 : Int32)) ([]) (u1) (zcs) (vsf) h151 n0 (Nat.le_trans Z0 (Nat.le_trans (Nat.le_trans K133.1 K143.1) E151.1)) f152 S_cs (by first | assumption | decide) S_ad S_hi S_lo S_sf r_sf ex151 fv151 fc151 av151 (Or.inl ⟨rfl, rfl⟩)) 0 (by decide) (by decide) (by decide) (by decide) e151 (g := (mkF m 92 #[.val (.long u1), .second, iv u2, iv u3, iv u4, iv (2 : Int32), iv v129, iv v130, iv v131, iv v132, rv ro133, rv ro143, .val (.long (-7046029254386353131 : Int64)), .second, .val (.long ((u1 ^^^ (v129).toInt64) * (-7046029254386353131 : Int64))), .second, .unset, .unset] [(.ref a151), (.long u1)])) rfl (by rw [hml]; rfl) (argsL := [(.long u1), (.ref a151)]) (rest := []) (lenOf own_pd18 rfl) rfl (by show 2 * 0 + _ ≤ _; exact Nat.le_of_eq rfl) (hb hby at_92) ?_
    intro v153 T153 L153 X153 q153
    obtain ⟨rfl, N153q, e153⟩ := q153
    have N153 := Fr.app N143 N153q
    show ownW_Goes p e below s0 _ _ _ T153 (mkF m 95 #[.val (.long u1), .second, iv u2, iv u3, iv u4, iv (2 : Int32), iv v129, iv v130, iv v131, iv v132, rv ro133, rv ro143, .val (.long (-7046029254386353131 : Int64)), .second, .val (.long ((u1 ^^^ (v129).toInt64) * (-7046029254386353131 : Int64))), .second, .unset, .unset] [(.int ((((u1).toUInt64 >>> ((32 : Int32) &&& 0x3f).toInt64.toUInt64).toInt64).toInt32 ||| (1 : Int32)))])
    refine ownW_by (g' := (mkF m 106 #[.val (.long u1), .second, iv u2, iv u3, iv u4, iv (2 : Int32), iv v129, iv v130, iv v131, iv v132, rv ro133, rv ro143, .val (.long (-7046029254386353131 : Int64)), .second, .val (.long ((u1 ^^^ (v129).toInt64) * (-7046029254386353131 : Int64))), .second, .unset, .unset] [(.int (1 : Int32))])) (fun t k => XS.lloadN X153.here hx rfl (hb hby at_95) rfl (XS.bipush X153.here hx rfl (hb hby at_96) (XS.lushr X153.here hx rfl (hb hby at_98) rfl (XS.l2i X153.here hx rfl (hb hby at_99) rfl (XS.iconst X153.here hx rfl (hb hby at_100) (XS.ior X153.here hx rfl (hb hby at_101) rfl (XS.icmpNo X153.here hx rfl (hb hby at_102) rfl (teq (rfl : ((((u1).toUInt64 >>> ((32 : Int32) &&& 0x3f).toInt64.toUInt64).toInt64).toInt32 ||| (1 : Int32)) = ((((u1).toUInt64 >>> ((32 : Int32) &&& 0x3f).toInt64.toUInt64).toInt64).toInt32 ||| (1 : Int32)))).2 (XS.iconst X153.here hx rfl (hb hby at_105) k)))))))) ?_
    refine ownW_by (g' := (mkF m 115 #[.val (.long u1), .second, iv u2, iv u3, iv u4, iv (2 : Int32), iv v129, iv v130, iv v131, iv v132, rv ro133, rv ro143, .val (.long (-7046029254386353131 : Int64)), .second, .val (.long ((u1 ^^^ (v129).toInt64) * (-7046029254386353131 : Int64))), .second, iv (1 : Int32), .unset] [(.ref ro133), (.long u1)])) (fun t k => XS.goto X153.here hx rfl (pc0 := 106) (pc' := 110) rfl (hb hby at_106) (by decide) (by decide) (XS.istore X153.here hx rfl (hb hby at_110) rfl (l' := #[.val (.long u1), .second, iv u2, iv u3, iv u4, iv (2 : Int32), iv v129, iv v130, iv v131, iv v132, rv ro133, rv ro143, .val (.long (-7046029254386353131 : Int64)), .second, .val (.long ((u1 ^^^ (v129).toInt64) * (-7046029254386353131 : Int64))), .second, iv (1 : Int32), .unset]) rfl (XS.lloadN X153.here hx rfl (hb hby at_112) rfl (XS.aload X153.here hx rfl (hb hby at_113) rfl rfl k)))) ?_
    have f154 := ((f135.keep K143).ext E151)
    have f155 := ((f136.keep K143 nin0).ext E151)
    have f156 := ((f137.keep K143 nin0).ext E151)
    have f157 := ((f138.keep K143 nin0).ext E151)
    refine ownW_callS X153 hx hZ hown (hw _ (List.mem_of_getElem? (i := 39) rfl)) (hw _ (List.mem_of_getElem? (i := 40) rfl)) (hw _ (List.mem_of_getElem? (i := 41) rfl)) (hw _ (List.mem_of_getElem? (i := 42) rfl)) (by decide) (own_tag2 l Z a0 hw [] (ro133) (ba133) (kb133) (cd133) (ln133) (vs133) (u1) (v129) (v130) (zcs) (vsf) h151 n0 (Nat.le_trans Z0 (Nat.le_trans (Nat.le_trans K133.1 K143.1) E151.1)) f152 S_cs (by first | assumption | decide) S_ad S_hi S_lo S_sf r_sf f154 f155 f156 f157 f139 (own_ch_of hv129) (own_ch_of hv130) f140 f141) 0 (by decide) (by decide) (by decide) (by decide) e153 (g := (mkF m 115 #[.val (.long u1), .second, iv u2, iv u3, iv u4, iv (2 : Int32), iv v129, iv v130, iv v131, iv v132, rv ro133, rv ro143, .val (.long (-7046029254386353131 : Int64)), .second, .val (.long ((u1 ^^^ (v129).toInt64) * (-7046029254386353131 : Int64))), .second, iv (1 : Int32), .unset] [(.ref ro133), (.long u1)])) rfl (by rw [hml]; rfl) (argsL := [(.long u1), (.ref ro133)]) (rest := []) (lenOf own_pd18 rfl) rfl (by show 2 * 0 + _ ≤ _; exact Nat.le_of_eq rfl) (hb hby at_115) ?_
    intro v158 T158 L158 X158 q158
    obtain ⟨rfl, N158q, e158⟩ := q158
    have N158 := Fr.app N153 N158q
    show ownW_Goes p e below s0 _ _ _ T158 (mkF m 118 #[.val (.long u1), .second, iv u2, iv u3, iv u4, iv (2 : Int32), iv v129, iv v130, iv v131, iv v132, rv ro133, rv ro143, .val (.long (-7046029254386353131 : Int64)), .second, .val (.long ((u1 ^^^ (v129).toInt64) * (-7046029254386353131 : Int64))), .second, iv (1 : Int32), .unset] [(.int ((((((((u1 ^^^ (v129).toInt64) * (-7046029254386353131 : Int64)) ^^^ (v130).toInt64) * (-7046029254386353131 : Int64))).toUInt64 >>> ((32 : Int32) &&& 0x3f).toInt64.toUInt64).toInt64).toInt32 ||| (1 : Int32)))])
    refine ownW_by (g' := (mkF m 122 #[.val (.long u1), .second, iv u2, iv u3, iv u4, iv (2 : Int32), iv v129, iv v130, iv v131, iv v132, rv ro133, rv ro143, .val (.long (-7046029254386353131 : Int64)), .second, .val (.long ((u1 ^^^ (v129).toInt64) * (-7046029254386353131 : Int64))), .second, iv (1 : Int32), .unset] [(.ref ro143), (.long ((u1 ^^^ (v129).toInt64) * (-7046029254386353131 : Int64))), (.int ((((((((u1 ^^^ (v129).toInt64) * (-7046029254386353131 : Int64)) ^^^ (v130).toInt64) * (-7046029254386353131 : Int64))).toUInt64 >>> ((32 : Int32) &&& 0x3f).toInt64.toUInt64).toInt64).toInt32 ||| (1 : Int32)))])) (fun t k => XS.lload X158.here hx rfl (hb hby at_118) rfl (XS.aload X158.here hx rfl (hb hby at_120) rfl rfl k)) ?_
    have f159 := (f145.ext E151)
    have f160 := (f146.ext E151)
    have f161 := (f147.ext E151)
    have f162 := (f148.ext E151)
    refine ownW_callS X158 hx hZ hown (hw _ (List.mem_of_getElem? (i := 39) rfl)) (hw _ (List.mem_of_getElem? (i := 40) rfl)) (hw _ (List.mem_of_getElem? (i := 41) rfl)) (hw _ (List.mem_of_getElem? (i := 42) rfl)) (by decide) (own_tag1 l Z a0 hw [] (ro143) (ba143) (kb143) (cd143) (ln143) (vs143) (((u1 ^^^ (v129).toInt64) * (-7046029254386353131 : Int64))) (v130) (zcs) (vsf) h151 n0 (Nat.le_trans Z0 (Nat.le_trans (Nat.le_trans K133.1 K143.1) E151.1)) f152 S_cs (by first | assumption | decide) S_ad S_hi S_lo S_sf r_sf f159 f160 f161 f162 f149 (own_ch_of hv130) f150) 1 (by decide) (by decide) (by decide) (by decide) e158 (g := (mkF m 122 #[.val (.long u1), .second, iv u2, iv u3, iv u4, iv (2 : Int32), iv v129, iv v130, iv v131, iv v132, rv ro133, rv ro143, .val (.long (-7046029254386353131 : Int64)), .second, .val (.long ((u1 ^^^ (v129).toInt64) * (-7046029254386353131 : Int64))), .second, iv (1 : Int32), .unset] [(.ref ro143), (.long ((u1 ^^^ (v129).toInt64) * (-7046029254386353131 : Int64))), (.int ((((((((u1 ^^^ (v129).toInt64) * (-7046029254386353131 : Int64)) ^^^ (v130).toInt64) * (-7046029254386353131 : Int64))).toUInt64 >>> ((32 : Int32) &&& 0x3f).toInt64.toUInt64).toInt64).toInt32 ||| (1 : Int32)))])) rfl (by rw [hml]; rfl) (argsL := [(.long ((u1 ^^^ (v129).toInt64) * (-7046029254386353131 : Int64))), (.ref ro143)]) (rest := [(.int ((((((((u1 ^^^ (v129).toInt64) * (-7046029254386353131 : Int64)) ^^^ (v130).toInt64) * (-7046029254386353131 : Int64))).toUInt64 >>> ((32 : Int32) &&& 0x3f).toInt64.toUInt64).toInt64).toInt32 ||| (1 : Int32)))]) (lenOf own_pd18 rfl) rfl (by show 2 * 0 + _ ≤ _; exact Nat.le_of_eq rfl) (hb hby at_122) ?_
    intro v163 T163 L163 X163 q163
    obtain ⟨rfl, N163q, e163⟩ := q163
    have N163 := Fr.app N158 N163q
    show ownW_Goes p e below s0 _ _ _ T163 (mkF m 125 #[.val (.long u1), .second, iv u2, iv u3, iv u4, iv (2 : Int32), iv v129, iv v130, iv v131, iv v132, rv ro133, rv ro143, .val (.long (-7046029254386353131 : Int64)), .second, .val (.long ((u1 ^^^ (v129).toInt64) * (-7046029254386353131 : Int64))), .second, iv (1 : Int32), .unset] [(.int ((((((((u1 ^^^ (v129).toInt64) * (-7046029254386353131 : Int64)) ^^^ (v130).toInt64) * (-7046029254386353131 : Int64))).toUInt64 >>> ((32 : Int32) &&& 0x3f).toInt64.toUInt64).toInt64).toInt32 ||| (1 : Int32))), (.int ((((((((u1 ^^^ (v129).toInt64) * (-7046029254386353131 : Int64)) ^^^ (v130).toInt64) * (-7046029254386353131 : Int64))).toUInt64 >>> ((32 : Int32) &&& 0x3f).toInt64.toUInt64).toInt64).toInt32 ||| (1 : Int32)))])
    refine ownW_by (g' := (mkF m 145 #[.val (.long u1), .second, iv u2, iv u3, iv u4, iv (2 : Int32), iv v129, iv v130, iv v131, iv v132, rv ro133, rv ro143, .val (.long (-7046029254386353131 : Int64)), .second, .val (.long ((u1 ^^^ (v129).toInt64) * (-7046029254386353131 : Int64))), .second, iv (1 : Int32), iv (1 : Int32)] [])) (fun t k => XS.icmpNo X163.here hx rfl (hb hby at_125) rfl (teq (rfl : ((((((((u1 ^^^ (v129).toInt64) * (-7046029254386353131 : Int64)) ^^^ (v130).toInt64) * (-7046029254386353131 : Int64))).toUInt64 >>> ((32 : Int32) &&& 0x3f).toInt64.toUInt64).toInt64).toInt32 ||| (1 : Int32)) = ((((((((u1 ^^^ (v129).toInt64) * (-7046029254386353131 : Int64)) ^^^ (v130).toInt64) * (-7046029254386353131 : Int64))).toUInt64 >>> ((32 : Int32) &&& 0x3f).toInt64.toUInt64).toInt64).toInt32 ||| (1 : Int32)))).2 (XS.iconst X163.here hx rfl (hb hby at_128) (XS.goto X163.here hx rfl (pc0 := 129) (pc' := 133) rfl (hb hby at_129) (by decide) (by decide) (XS.istore X163.here hx rfl (hb hby at_133) rfl (l' := #[.val (.long u1), .second, iv u2, iv u3, iv u4, iv (2 : Int32), iv v129, iv v130, iv v131, iv v132, rv ro133, rv ro143, .val (.long (-7046029254386353131 : Int64)), .second, .val (.long ((u1 ^^^ (v129).toInt64) * (-7046029254386353131 : Int64))), .second, iv (1 : Int32), iv (1 : Int32)]) rfl (XS.iload X163.here hx rfl (hb hby at_135) rfl (XS.ifNo X163.here hx rfl (hb hby at_137) rfl ((if0 _ _).trans (feq (by decide : ¬ ((1 : Int32) = (0 : Int32)))).1) (XS.iload X163.here hx rfl (hb hby at_140) rfl (XS.ifNo X163.here hx rfl (hb hby at_142) rfl ((if0 _ _).trans (feq (by decide : ¬ ((1 : Int32) = (0 : Int32)))).1) k)))))))) ?_
    refine ownW_by (g' := (mkF m 150 #[.val (.long u1), .second, iv u2, iv u3, iv u4, iv (2 : Int32), iv v129, iv v130, iv v131, iv v132, rv ro133, rv ro143, .val (.long (-7046029254386353131 : Int64)), .second, .val (.long ((u1 ^^^ (v129).toInt64) * (-7046029254386353131 : Int64))), .second, iv (1 : Int32), iv (1 : Int32)] [(.int (1 : Int32))])) (fun t k => XS.iconst X163.here hx rfl (hb hby at_145) (XS.goto X163.here hx rfl (pc0 := 146) (pc' := 150) rfl (hb hby at_146) (by decide) (by decide) k)) ?_
    refine ownW_retN X163 hsv S151 (Nat.le_trans (Nat.le_refl _) (Nat.le_of_eq (congrArg Array.size e163).symm)) hx hlk hret (t := .boolean) (by simp) (hb hby at_150) (by decide) (by decide) ?_
    intro u hu
    rw [e163]
    exact ⟨rfl, N163, ((((Keep.refl h0 []).trans K133 all0).trans K143 all0).ext E151)⟩
  ·
    rw [q101]
    refine ownW_by (g' := (mkF m 13 #[.val (.long u1), .second, iv u2, iv u3, iv u4, iv (3 : Int32), .unset, .unset, .unset, .unset, .unset, .unset, .unset, .unset, .unset, .unset, .unset, .unset] [(.int ((u2 &&& (65535 : Int32))).toUInt32.toUInt16.toUInt32.toInt32)])) (fun t k => XS.istore X0.here hx rfl (hb hby at_6) rfl (l' := #[.val (.long u1), .second, iv u2, iv u3, iv u4, iv (3 : Int32), .unset, .unset, .unset, .unset, .unset, .unset, .unset, .unset, .unset, .unset, .unset, .unset]) rfl (XS.iloadN X0.here hx rfl (hb hby at_8) rfl (X0.ldcInt hx hown (mvT hZ (hw _ (List.mem_of_getElem? (i := 0) rfl))) (g := (mkF m 9 #[.val (.long u1), .second, iv u2, iv u3, iv u4, iv (3 : Int32), .unset, .unset, .unset, .unset, .unset, .unset, .unset, .unset, .unset, .unset, .unset, .unset] [(.int u2)])) rfl (hb hby at_9) t (XS.iand X0.here hx rfl (hb hby at_11) rfl (XS.i2c X0.here hx rfl (hb hby at_12) rfl k))))) ?_
    generalize hv164 : ((u2 &&& (65535 : Int32))).toUInt32.toUInt16.toUInt32.toInt32 = v164
    refine ownW_by (g' := (mkF m 23 #[.val (.long u1), .second, iv u2, iv u3, iv u4, iv (3 : Int32), iv v164, .unset, .unset, .unset, .unset, .unset, .unset, .unset, .unset, .unset, .unset, .unset] [(.int ((((u2).toUInt32 >>> ((16 : Int32) &&& 31).toUInt32).toInt32 &&& (65535 : Int32))).toUInt32.toUInt16.toUInt32.toInt32)])) (fun t k => XS.istore X0.here hx rfl (hb hby at_13) rfl (l' := #[.val (.long u1), .second, iv u2, iv u3, iv u4, iv (3 : Int32), iv v164, .unset, .unset, .unset, .unset, .unset, .unset, .unset, .unset, .unset, .unset, .unset]) rfl (XS.iloadN X0.here hx rfl (hb hby at_15) rfl (XS.bipush X0.here hx rfl (hb hby at_16) (XS.iushr X0.here hx rfl (hb hby at_18) rfl (X0.ldcInt hx hown (mvT hZ (hw _ (List.mem_of_getElem? (i := 0) rfl))) (g := (mkF m 19 #[.val (.long u1), .second, iv u2, iv u3, iv u4, iv (3 : Int32), iv v164, .unset, .unset, .unset, .unset, .unset, .unset, .unset, .unset, .unset, .unset, .unset] [(.int ((u2).toUInt32 >>> ((16 : Int32) &&& 31).toUInt32).toInt32)])) rfl (hb hby at_19) t (XS.iand X0.here hx rfl (hb hby at_21) rfl (XS.i2c X0.here hx rfl (hb hby at_22) rfl k))))))) ?_
    generalize hv165 : ((((u2).toUInt32 >>> ((16 : Int32) &&& 31).toUInt32).toInt32 &&& (65535 : Int32))).toUInt32.toUInt16.toUInt32.toInt32 = v165
    refine ownW_by (g' := (mkF m 30 #[.val (.long u1), .second, iv u2, iv u3, iv u4, iv (3 : Int32), iv v164, iv v165, .unset, .unset, .unset, .unset, .unset, .unset, .unset, .unset, .unset, .unset] [(.int ((u3 &&& (65535 : Int32))).toUInt32.toUInt16.toUInt32.toInt32)])) (fun t k => XS.istore X0.here hx rfl (hb hby at_23) rfl (l' := #[.val (.long u1), .second, iv u2, iv u3, iv u4, iv (3 : Int32), iv v164, iv v165, .unset, .unset, .unset, .unset, .unset, .unset, .unset, .unset, .unset, .unset]) rfl (XS.iloadN X0.here hx rfl (hb hby at_25) rfl (X0.ldcInt hx hown (mvT hZ (hw _ (List.mem_of_getElem? (i := 0) rfl))) (g := (mkF m 26 #[.val (.long u1), .second, iv u2, iv u3, iv u4, iv (3 : Int32), iv v164, iv v165, .unset, .unset, .unset, .unset, .unset, .unset, .unset, .unset, .unset, .unset] [(.int u3)])) rfl (hb hby at_26) t (XS.iand X0.here hx rfl (hb hby at_28) rfl (XS.i2c X0.here hx rfl (hb hby at_29) rfl k))))) ?_
    generalize hv166 : ((u3 &&& (65535 : Int32))).toUInt32.toUInt16.toUInt32.toInt32 = v166
    refine ownW_by (g' := (mkF m 40 #[.val (.long u1), .second, iv u2, iv u3, iv u4, iv (3 : Int32), iv v164, iv v165, iv v166, .unset, .unset, .unset, .unset, .unset, .unset, .unset, .unset, .unset] [(.int ((((u3).toUInt32 >>> ((16 : Int32) &&& 31).toUInt32).toInt32 &&& (65535 : Int32))).toUInt32.toUInt16.toUInt32.toInt32)])) (fun t k => XS.istore X0.here hx rfl (hb hby at_30) rfl (l' := #[.val (.long u1), .second, iv u2, iv u3, iv u4, iv (3 : Int32), iv v164, iv v165, iv v166, .unset, .unset, .unset, .unset, .unset, .unset, .unset, .unset, .unset]) rfl (XS.iloadN X0.here hx rfl (hb hby at_32) rfl (XS.bipush X0.here hx rfl (hb hby at_33) (XS.iushr X0.here hx rfl (hb hby at_35) rfl (X0.ldcInt hx hown (mvT hZ (hw _ (List.mem_of_getElem? (i := 0) rfl))) (g := (mkF m 36 #[.val (.long u1), .second, iv u2, iv u3, iv u4, iv (3 : Int32), iv v164, iv v165, iv v166, .unset, .unset, .unset, .unset, .unset, .unset, .unset, .unset, .unset] [(.int ((u3).toUInt32 >>> ((16 : Int32) &&& 31).toUInt32).toInt32)])) rfl (hb hby at_36) t (XS.iand X0.here hx rfl (hb hby at_38) rfl (XS.i2c X0.here hx rfl (hb hby at_39) rfl k))))))) ?_
    generalize hv167 : ((((u3).toUInt32 >>> ((16 : Int32) &&& 31).toUInt32).toInt32 &&& (65535 : Int32))).toUInt32.toUInt16.toUInt32.toInt32 = v167
    refine ownW_by (g' := (mkF m 52 #[.val (.long u1), .second, iv u2, iv u3, iv u4, iv (3 : Int32), iv v164, iv v165, iv v166, iv v167, .unset, .unset, .unset, .unset, .unset, .unset, .unset, .unset] [(.int v167), (.int v166), (.int v165), (.int v164), (.int (3 : Int32))])) (fun t k => XS.istore X0.here hx rfl (hb hby at_40) rfl (l' := #[.val (.long u1), .second, iv u2, iv u3, iv u4, iv (3 : Int32), iv v164, iv v165, iv v166, iv v167, .unset, .unset, .unset, .unset, .unset, .unset, .unset, .unset]) rfl (XS.iload X0.here hx rfl (hb hby at_42) rfl (XS.iload X0.here hx rfl (hb hby at_44) rfl (XS.iload X0.here hx rfl (hb hby at_46) rfl (XS.iload X0.here hx rfl (hb hby at_48) rfl (XS.iload X0.here hx rfl (hb hby at_50) rfl k)))))) ?_
    refine ownW_callS X0 hx hZ hown (hw _ (List.mem_of_getElem? (i := 1) rfl)) (hw _ (List.mem_of_getElem? (i := 2) rfl)) (hw _ (List.mem_of_getElem? (i := 3) rfl)) (hw _ (List.mem_of_getElem? (i := 4) rfl)) (by decide) (own_str_3 l Z a0 hw [] (v164) (v165) (v166) (v167) (zcs) h0 n0 Z0 O0 S_cs (by first | assumption | decide) S_ad S_hi S_lo (own_ch_of hv164) (own_ch_of hv165) (own_ch_of hv166) (own_ch_of hv167)) 0 (by decide) (by decide) (by decide) (by decide) e0 (g := (mkF m 52 #[.val (.long u1), .second, iv u2, iv u3, iv u4, iv (3 : Int32), iv v164, iv v165, iv v166, iv v167, .unset, .unset, .unset, .unset, .unset, .unset, .unset, .unset] [(.int v167), (.int v166), (.int v165), (.int v164), (.int (3 : Int32))])) rfl (by rw [hml]; rfl) (argsL := [(.int (3 : Int32)), (.int v164), (.int v165), (.int v166), (.int v167)]) (rest := []) (lenOf own_pd17 rfl) rfl (by show 2 * 0 + _ ≤ _; exact Nat.le_of_eq rfl) (hb hby at_52) ?_
    intro v168 T168 L168 X168 q168
    obtain ⟨ro168, ba168, kb168, cd168, ln168, vs168, rfl, N168q, K168, f169, f170, f171, f172, f173, f174, f175, f176, f177⟩ := q168
    have N168 := Fr.app N0 N168q
    show ownW_Goes p e below s0 _ _ _ T168 (mkF m 55 #[.val (.long u1), .second, iv u2, iv u3, iv u4, iv (3 : Int32), iv v164, iv v165, iv v166, iv v167, .unset, .unset, .unset, .unset, .unset, .unset, .unset, .unset] [(.ref ro168)])
    refine ownW_by (g' := (mkF m 69 #[.val (.long u1), .second, iv u2, iv u3, iv u4, iv (3 : Int32), iv v164, iv v165, iv v166, iv v167, rv ro168, .unset, .unset, .unset, .unset, .unset, .unset, .unset] [(.int v167), (.int v167), (.int v166), (.int v165), (.int (2 : Int32))])) (fun t k => XS.astore X168.here hx rfl (hb hby at_55) rfl rfl (l' := #[.val (.long u1), .second, iv u2, iv u3, iv u4, iv (3 : Int32), iv v164, iv v165, iv v166, iv v167, rv ro168, .unset, .unset, .unset, .unset, .unset, .unset, .unset]) rfl (XS.iload X168.here hx rfl (hb hby at_57) rfl (XS.iconst X168.here hx rfl (hb hby at_59) (XS.isub X168.here hx rfl (hb hby at_60) rfl (XS.iload X168.here hx rfl (hb hby at_61) rfl (XS.iload X168.here hx rfl (hb hby at_63) rfl (XS.iload X168.here hx rfl (hb hby at_65) rfl (XS.iload X168.here hx rfl (hb hby at_67) rfl k)))))))) ?_
    have f178 := (O0.keep K168 all0)
    refine ownW_callS X168 hx hZ hown (hw _ (List.mem_of_getElem? (i := 1) rfl)) (hw _ (List.mem_of_getElem? (i := 2) rfl)) (hw _ (List.mem_of_getElem? (i := 3) rfl)) (hw _ (List.mem_of_getElem? (i := 4) rfl)) (by decide) (own_str_2 l Z a0 hw [] (v165) (v166) (v167) (v167) (zcs) T168.heap n0 (Nat.le_trans Z0 K168.1) f178 S_cs (by first | assumption | decide) S_ad S_hi S_lo (own_ch_of hv165) (own_ch_of hv166) (own_ch_of hv167) (own_ch_of hv167)) 0 (by decide) (by decide) (by decide) (by decide) rfl (g := (mkF m 69 #[.val (.long u1), .second, iv u2, iv u3, iv u4, iv (3 : Int32), iv v164, iv v165, iv v166, iv v167, rv ro168, .unset, .unset, .unset, .unset, .unset, .unset, .unset] [(.int v167), (.int v167), (.int v166), (.int v165), (.int (2 : Int32))])) rfl (by rw [hml]; rfl) (argsL := [(.int (2 : Int32)), (.int v165), (.int v166), (.int v167), (.int v167)]) (rest := []) (lenOf own_pd17 rfl) rfl (by show 2 * 0 + _ ≤ _; exact Nat.le_of_eq rfl) (hb hby at_69) ?_
    intro v179 T179 L179 X179 q179
    obtain ⟨ro179, ba179, kb179, cd179, ln179, vs179, rfl, N179q, K179, f180, f181, f182, f183, f184, f185, f186, f187⟩ := q179
    have N179 := Fr.app N168 N179q
    show ownW_Goes p e below s0 _ _ _ T179 (mkF m 72 #[.val (.long u1), .second, iv u2, iv u3, iv u4, iv (3 : Int32), iv v164, iv v165, iv v166, iv v167, rv ro168, .unset, .unset, .unset, .unset, .unset, .unset, .unset] [(.ref ro179)])
    refine ownW_by (g' := (mkF m 86 #[.val (.long u1), .second, iv u2, iv u3, iv u4, iv (3 : Int32), iv v164, iv v165, iv v166, iv v167, rv ro168, rv ro179, .val (.long (-7046029254386353131 : Int64)), .second, .unset, .unset, .unset, .unset] [(.long (-7046029254386353131 : Int64)), (.long (u1 ^^^ (v164).toInt64))])) (fun t k => XS.astore X179.here hx rfl (hb hby at_72) rfl rfl (l' := #[.val (.long u1), .second, iv u2, iv u3, iv u4, iv (3 : Int32), iv v164, iv v165, iv v166, iv v167, rv ro168, rv ro179, .unset, .unset, .unset, .unset, .unset, .unset]) rfl (X179.ldc2Long hx hown (mvT hZ (hw _ (List.mem_of_getElem? (i := 38) rfl))) (g := (mkF m 74 #[.val (.long u1), .second, iv u2, iv u3, iv u4, iv (3 : Int32), iv v164, iv v165, iv v166, iv v167, rv ro168, rv ro179, .unset, .unset, .unset, .unset, .unset, .unset] [])) rfl (hb hby at_74) t (XS.lstore X179.here hx rfl (hb hby at_77) rfl (l' := #[.val (.long u1), .second, iv u2, iv u3, iv u4, iv (3 : Int32), iv v164, iv v165, iv v166, iv v167, rv ro168, rv ro179, .val (.long (-7046029254386353131 : Int64)), .second, .unset, .unset, .unset, .unset]) rfl (XS.lloadN X179.here hx rfl (hb hby at_79) rfl (XS.iload X179.here hx rfl (hb hby at_80) rfl (XS.i2l X179.here hx rfl (hb hby at_82) rfl (XS.lxor X179.here hx rfl (hb hby at_83) rfl (XS.lload X179.here hx rfl (hb hby at_84) rfl k)))))))) ?_
    refine ownW_by (g' := (mkF m 90 #[.val (.long u1), .second, iv u2, iv u3, iv u4, iv (3 : Int32), iv v164, iv v165, iv v166, iv v167, rv ro168, rv ro179, .val (.long (-7046029254386353131 : Int64)), .second, .val (.long ((u1 ^^^ (v164).toInt64) * (-7046029254386353131 : Int64))), .second, .unset, .unset] [(.long u1)])) (fun t k => XS.lmul X179.here hx rfl (hb hby at_86) rfl (XS.lstore X179.here hx rfl (hb hby at_87) rfl (l' := #[.val (.long u1), .second, iv u2, iv u3, iv u4, iv (3 : Int32), iv v164, iv v165, iv v166, iv v167, rv ro168, rv ro179, .val (.long (-7046029254386353131 : Int64)), .second, .val (.long ((u1 ^^^ (v164).toInt64) * (-7046029254386353131 : Int64))), .second, .unset, .unset]) rfl (XS.lloadN X179.here hx rfl (hb hby at_89) rfl k))) ?_
    refine ownW_ldc X179 hx hZ hsv hsh S0 (Nat.zero_le _) hown (hw _ (List.mem_of_getElem? (i := 35) rfl)) (own_atoms hw) rfl O0 (own_frS N179 hsz0) hib (by decide) hch hcw (vs := []) (zl := (0 : Int32)) ⟨by decide, rfl⟩ (by decide) (by decide) (g := (mkF m 90 #[.val (.long u1), .second, iv u2, iv u3, iv u4, iv (3 : Int32), iv v164, iv v165, iv v166, iv v167, rv ro168, rv ro179, .val (.long (-7046029254386353131 : Int64)), .second, .val (.long ((u1 ^^^ (v164).toInt64) * (-7046029254386353131 : Int64))), .second, .unset, .unset] [(.long u1)])) rfl (hb hby at_90) (k0 := 0) (by decide) (by decide) (by decide) (by decide) ?_
    intro s T188 h188 a188 b188 k188 X188 hsv hsh S188 hZ hown e188 E188 ex188 fc188 fv188 av188 ib188 li188
    show ownW_Goes p e below s0 _ _ _ T188 (mkF m 92 #[.val (.long u1), .second, iv u2, iv u3, iv u4, iv (3 : Int32), iv v164, iv v165, iv v166, iv v167, rv ro168, rv ro179, .val (.long (-7046029254386353131 : Int64)), .second, .val (.long ((u1 ^^^ (v164).toInt64) * (-7046029254386353131 : Int64))), .second, .unset, .unset] [(.ref a188), (.long u1)])
    have f189 := ((f178.keep K179 all0).ext E188)
    refine ownW_callS X188 hx hZ hown (hw _ (List.mem_of_getElem? (i := 39) rfl)) (hw _ (List.mem_of_getElem? (i := 40) rfl)) (hw _ (List.mem_of_getElem? (i := 41) rfl)) (hw _ (List.mem_of_getElem? (i := 42) rfl)) (by decide) (own_tag0 l Z a0 hw [] (a188) (b188) (k188) ((0 : Int32)) ((0 : Int32)) ([]) (u1) (zcs) (vsf) h188 n0 (Nat.le_trans Z0 (Nat.le_trans (Nat.le_trans K168.1 K179.1) E188.1)) f189 S_cs (by first | assumption | decide) S_ad S_hi S_lo S_sf r_sf ex188 fv188 fc188 av188 (Or.inl ⟨rfl, rfl⟩)) 0 (by decide) (by decide) (by decide) (by decide) e188 (g := (mkF m 92 #[.val (.long u1), .second, iv u2, iv u3, iv u4, iv (3 : Int32), iv v164, iv v165, iv v166, iv v167, rv ro168, rv ro179, .val (.long (-7046029254386353131 : Int64)), .second, .val (.long ((u1 ^^^ (v164).toInt64) * (-7046029254386353131 : Int64))), .second, .unset, .unset] [(.ref a188), (.long u1)])) rfl (by rw [hml]; rfl) (argsL := [(.long u1), (.ref a188)]) (rest := []) (lenOf own_pd18 rfl) rfl (by show 2 * 0 + _ ≤ _; exact Nat.le_of_eq rfl) (hb hby at_92) ?_
    intro v190 T190 L190 X190 q190
    obtain ⟨rfl, N190q, e190⟩ := q190
    have N190 := Fr.app N179 N190q
    show ownW_Goes p e below s0 _ _ _ T190 (mkF m 95 #[.val (.long u1), .second, iv u2, iv u3, iv u4, iv (3 : Int32), iv v164, iv v165, iv v166, iv v167, rv ro168, rv ro179, .val (.long (-7046029254386353131 : Int64)), .second, .val (.long ((u1 ^^^ (v164).toInt64) * (-7046029254386353131 : Int64))), .second, .unset, .unset] [(.int ((((u1).toUInt64 >>> ((32 : Int32) &&& 0x3f).toInt64.toUInt64).toInt64).toInt32 ||| (1 : Int32)))])
    refine ownW_by (g' := (mkF m 106 #[.val (.long u1), .second, iv u2, iv u3, iv u4, iv (3 : Int32), iv v164, iv v165, iv v166, iv v167, rv ro168, rv ro179, .val (.long (-7046029254386353131 : Int64)), .second, .val (.long ((u1 ^^^ (v164).toInt64) * (-7046029254386353131 : Int64))), .second, .unset, .unset] [(.int (1 : Int32))])) (fun t k => XS.lloadN X190.here hx rfl (hb hby at_95) rfl (XS.bipush X190.here hx rfl (hb hby at_96) (XS.lushr X190.here hx rfl (hb hby at_98) rfl (XS.l2i X190.here hx rfl (hb hby at_99) rfl (XS.iconst X190.here hx rfl (hb hby at_100) (XS.ior X190.here hx rfl (hb hby at_101) rfl (XS.icmpNo X190.here hx rfl (hb hby at_102) rfl (teq (rfl : ((((u1).toUInt64 >>> ((32 : Int32) &&& 0x3f).toInt64.toUInt64).toInt64).toInt32 ||| (1 : Int32)) = ((((u1).toUInt64 >>> ((32 : Int32) &&& 0x3f).toInt64.toUInt64).toInt64).toInt32 ||| (1 : Int32)))).2 (XS.iconst X190.here hx rfl (hb hby at_105) k)))))))) ?_
    refine ownW_by (g' := (mkF m 115 #[.val (.long u1), .second, iv u2, iv u3, iv u4, iv (3 : Int32), iv v164, iv v165, iv v166, iv v167, rv ro168, rv ro179, .val (.long (-7046029254386353131 : Int64)), .second, .val (.long ((u1 ^^^ (v164).toInt64) * (-7046029254386353131 : Int64))), .second, iv (1 : Int32), .unset] [(.ref ro168), (.long u1)])) (fun t k => XS.goto X190.here hx rfl (pc0 := 106) (pc' := 110) rfl (hb hby at_106) (by decide) (by decide) (XS.istore X190.here hx rfl (hb hby at_110) rfl (l' := #[.val (.long u1), .second, iv u2, iv u3, iv u4, iv (3 : Int32), iv v164, iv v165, iv v166, iv v167, rv ro168, rv ro179, .val (.long (-7046029254386353131 : Int64)), .second, .val (.long ((u1 ^^^ (v164).toInt64) * (-7046029254386353131 : Int64))), .second, iv (1 : Int32), .unset]) rfl (XS.lloadN X190.here hx rfl (hb hby at_112) rfl (XS.aload X190.here hx rfl (hb hby at_113) rfl rfl k)))) ?_
    have f191 := ((f170.keep K179).ext E188)
    have f192 := ((f171.keep K179 nin0).ext E188)
    have f193 := ((f172.keep K179 nin0).ext E188)
    have f194 := ((f173.keep K179 nin0).ext E188)
    refine ownW_callS X190 hx hZ hown (hw _ (List.mem_of_getElem? (i := 39) rfl)) (hw _ (List.mem_of_getElem? (i := 40) rfl)) (hw _ (List.mem_of_getElem? (i := 41) rfl)) (hw _ (List.mem_of_getElem? (i := 42) rfl)) (by decide) (own_tag3 l Z a0 hw [] (ro168) (ba168) (kb168) (cd168) (ln168) (vs168) (u1) (v164) (v165) (v166) (zcs) (vsf) h188 n0 (Nat.le_trans Z0 (Nat.le_trans (Nat.le_trans K168.1 K179.1) E188.1)) f189 S_cs (by first | assumption | decide) S_ad S_hi S_lo S_sf r_sf f191 f192 f193 f194 f174 (own_ch_of hv164) (own_ch_of hv165) (own_ch_of hv166) f175 f176 f177) 0 (by decide) (by decide) (by decide) (by decide) e190 (g := (mkF m 115 #[.val (.long u1), .second, iv u2, iv u3, iv u4, iv (3 : Int32), iv v164, iv v165, iv v166, iv v167, rv ro168, rv ro179, .val (.long (-7046029254386353131 : Int64)), .second, .val (.long ((u1 ^^^ (v164).toInt64) * (-7046029254386353131 : Int64))), .second, iv (1 : Int32), .unset] [(.ref ro168), (.long u1)])) rfl (by rw [hml]; rfl) (argsL := [(.long u1), (.ref ro168)]) (rest := []) (lenOf own_pd18 rfl) rfl (by show 2 * 0 + _ ≤ _; exact Nat.le_of_eq rfl) (hb hby at_115) ?_
    intro v195 T195 L195 X195 q195
    obtain ⟨rfl, N195q, e195⟩ := q195
    have N195 := Fr.app N190 N195q
    show ownW_Goes p e below s0 _ _ _ T195 (mkF m 118 #[.val (.long u1), .second, iv u2, iv u3, iv u4, iv (3 : Int32), iv v164, iv v165, iv v166, iv v167, rv ro168, rv ro179, .val (.long (-7046029254386353131 : Int64)), .second, .val (.long ((u1 ^^^ (v164).toInt64) * (-7046029254386353131 : Int64))), .second, iv (1 : Int32), .unset] [(.int ((((((((((u1 ^^^ (v164).toInt64) * (-7046029254386353131 : Int64)) ^^^ (v165).toInt64) * (-7046029254386353131 : Int64)) ^^^ (v166).toInt64) * (-7046029254386353131 : Int64))).toUInt64 >>> ((32 : Int32) &&& 0x3f).toInt64.toUInt64).toInt64).toInt32 ||| (1 : Int32)))])
    refine ownW_by (g' := (mkF m 122 #[.val (.long u1), .second, iv u2, iv u3, iv u4, iv (3 : Int32), iv v164, iv v165, iv v166, iv v167, rv ro168, rv ro179, .val (.long (-7046029254386353131 : Int64)), .second, .val (.long ((u1 ^^^ (v164).toInt64) * (-7046029254386353131 : Int64))), .second, iv (1 : Int32), .unset] [(.ref ro179), (.long ((u1 ^^^ (v164).toInt64) * (-7046029254386353131 : Int64))), (.int ((((((((((u1 ^^^ (v164).toInt64) * (-7046029254386353131 : Int64)) ^^^ (v165).toInt64) * (-7046029254386353131 : Int64)) ^^^ (v166).toInt64) * (-7046029254386353131 : Int64))).toUInt64 >>> ((32 : Int32) &&& 0x3f).toInt64.toUInt64).toInt64).toInt32 ||| (1 : Int32)))])) (fun t k => XS.lload X195.here hx rfl (hb hby at_118) rfl (XS.aload X195.here hx rfl (hb hby at_120) rfl rfl k)) ?_
    have f196 := (f181.ext E188)
    have f197 := (f182.ext E188)
    have f198 := (f183.ext E188)
    have f199 := (f184.ext E188)
    refine ownW_callS X195 hx hZ hown (hw _ (List.mem_of_getElem? (i := 39) rfl)) (hw _ (List.mem_of_getElem? (i := 40) rfl)) (hw _ (List.mem_of_getElem? (i := 41) rfl)) (hw _ (List.mem_of_getElem? (i := 42) rfl)) (by decide) (own_tag2 l Z a0 hw [] (ro179) (ba179) (kb179) (cd179) (ln179) (vs179) (((u1 ^^^ (v164).toInt64) * (-7046029254386353131 : Int64))) (v165) (v166) (zcs) (vsf) h188 n0 (Nat.le_trans Z0 (Nat.le_trans (Nat.le_trans K168.1 K179.1) E188.1)) f189 S_cs (by first | assumption | decide) S_ad S_hi S_lo S_sf r_sf f196 f197 f198 f199 f185 (own_ch_of hv165) (own_ch_of hv166) f186 f187) 1 (by decide) (by decide) (by decide) (by decide) e195 (g := (mkF m 122 #[.val (.long u1), .second, iv u2, iv u3, iv u4, iv (3 : Int32), iv v164, iv v165, iv v166, iv v167, rv ro168, rv ro179, .val (.long (-7046029254386353131 : Int64)), .second, .val (.long ((u1 ^^^ (v164).toInt64) * (-7046029254386353131 : Int64))), .second, iv (1 : Int32), .unset] [(.ref ro179), (.long ((u1 ^^^ (v164).toInt64) * (-7046029254386353131 : Int64))), (.int ((((((((((u1 ^^^ (v164).toInt64) * (-7046029254386353131 : Int64)) ^^^ (v165).toInt64) * (-7046029254386353131 : Int64)) ^^^ (v166).toInt64) * (-7046029254386353131 : Int64))).toUInt64 >>> ((32 : Int32) &&& 0x3f).toInt64.toUInt64).toInt64).toInt32 ||| (1 : Int32)))])) rfl (by rw [hml]; rfl) (argsL := [(.long ((u1 ^^^ (v164).toInt64) * (-7046029254386353131 : Int64))), (.ref ro179)]) (rest := [(.int ((((((((((u1 ^^^ (v164).toInt64) * (-7046029254386353131 : Int64)) ^^^ (v165).toInt64) * (-7046029254386353131 : Int64)) ^^^ (v166).toInt64) * (-7046029254386353131 : Int64))).toUInt64 >>> ((32 : Int32) &&& 0x3f).toInt64.toUInt64).toInt64).toInt32 ||| (1 : Int32)))]) (lenOf own_pd18 rfl) rfl (by show 2 * 0 + _ ≤ _; exact Nat.le_of_eq rfl) (hb hby at_122) ?_
    intro v200 T200 L200 X200 q200
    obtain ⟨rfl, N200q, e200⟩ := q200
    have N200 := Fr.app N195 N200q
    show ownW_Goes p e below s0 _ _ _ T200 (mkF m 125 #[.val (.long u1), .second, iv u2, iv u3, iv u4, iv (3 : Int32), iv v164, iv v165, iv v166, iv v167, rv ro168, rv ro179, .val (.long (-7046029254386353131 : Int64)), .second, .val (.long ((u1 ^^^ (v164).toInt64) * (-7046029254386353131 : Int64))), .second, iv (1 : Int32), .unset] [(.int ((((((((((u1 ^^^ (v164).toInt64) * (-7046029254386353131 : Int64)) ^^^ (v165).toInt64) * (-7046029254386353131 : Int64)) ^^^ (v166).toInt64) * (-7046029254386353131 : Int64))).toUInt64 >>> ((32 : Int32) &&& 0x3f).toInt64.toUInt64).toInt64).toInt32 ||| (1 : Int32))), (.int ((((((((((u1 ^^^ (v164).toInt64) * (-7046029254386353131 : Int64)) ^^^ (v165).toInt64) * (-7046029254386353131 : Int64)) ^^^ (v166).toInt64) * (-7046029254386353131 : Int64))).toUInt64 >>> ((32 : Int32) &&& 0x3f).toInt64.toUInt64).toInt64).toInt32 ||| (1 : Int32)))])
    refine ownW_by (g' := (mkF m 145 #[.val (.long u1), .second, iv u2, iv u3, iv u4, iv (3 : Int32), iv v164, iv v165, iv v166, iv v167, rv ro168, rv ro179, .val (.long (-7046029254386353131 : Int64)), .second, .val (.long ((u1 ^^^ (v164).toInt64) * (-7046029254386353131 : Int64))), .second, iv (1 : Int32), iv (1 : Int32)] [])) (fun t k => XS.icmpNo X200.here hx rfl (hb hby at_125) rfl (teq (rfl : ((((((((((u1 ^^^ (v164).toInt64) * (-7046029254386353131 : Int64)) ^^^ (v165).toInt64) * (-7046029254386353131 : Int64)) ^^^ (v166).toInt64) * (-7046029254386353131 : Int64))).toUInt64 >>> ((32 : Int32) &&& 0x3f).toInt64.toUInt64).toInt64).toInt32 ||| (1 : Int32)) = ((((((((((u1 ^^^ (v164).toInt64) * (-7046029254386353131 : Int64)) ^^^ (v165).toInt64) * (-7046029254386353131 : Int64)) ^^^ (v166).toInt64) * (-7046029254386353131 : Int64))).toUInt64 >>> ((32 : Int32) &&& 0x3f).toInt64.toUInt64).toInt64).toInt32 ||| (1 : Int32)))).2 (XS.iconst X200.here hx rfl (hb hby at_128) (XS.goto X200.here hx rfl (pc0 := 129) (pc' := 133) rfl (hb hby at_129) (by decide) (by decide) (XS.istore X200.here hx rfl (hb hby at_133) rfl (l' := #[.val (.long u1), .second, iv u2, iv u3, iv u4, iv (3 : Int32), iv v164, iv v165, iv v166, iv v167, rv ro168, rv ro179, .val (.long (-7046029254386353131 : Int64)), .second, .val (.long ((u1 ^^^ (v164).toInt64) * (-7046029254386353131 : Int64))), .second, iv (1 : Int32), iv (1 : Int32)]) rfl (XS.iload X200.here hx rfl (hb hby at_135) rfl (XS.ifNo X200.here hx rfl (hb hby at_137) rfl ((if0 _ _).trans (feq (by decide : ¬ ((1 : Int32) = (0 : Int32)))).1) (XS.iload X200.here hx rfl (hb hby at_140) rfl (XS.ifNo X200.here hx rfl (hb hby at_142) rfl ((if0 _ _).trans (feq (by decide : ¬ ((1 : Int32) = (0 : Int32)))).1) k)))))))) ?_
    refine ownW_by (g' := (mkF m 150 #[.val (.long u1), .second, iv u2, iv u3, iv u4, iv (3 : Int32), iv v164, iv v165, iv v166, iv v167, rv ro168, rv ro179, .val (.long (-7046029254386353131 : Int64)), .second, .val (.long ((u1 ^^^ (v164).toInt64) * (-7046029254386353131 : Int64))), .second, iv (1 : Int32), iv (1 : Int32)] [(.int (1 : Int32))])) (fun t k => XS.iconst X200.here hx rfl (hb hby at_145) (XS.goto X200.here hx rfl (pc0 := 146) (pc' := 150) rfl (hb hby at_146) (by decide) (by decide) k)) ?_
    refine ownW_retN X200 hsv S188 (Nat.le_trans (Nat.le_refl _) (Nat.le_of_eq (congrArg Array.size e200).symm)) hx hlk hret (t := .boolean) (by simp) (hb hby at_150) (by decide) (by decide) ?_
    intro u hu
    rw [e200]
    exact ⟨rfl, N200, ((((Keep.refl h0 []).trans K168 all0).trans K179 all0).ext E188)⟩
  ·
    rw [q101]
    refine ownW_by (g' := (mkF m 13 #[.val (.long u1), .second, iv u2, iv u3, iv u4, iv (4 : Int32), .unset, .unset, .unset, .unset, .unset, .unset, .unset, .unset, .unset, .unset, .unset, .unset] [(.int ((u2 &&& (65535 : Int32))).toUInt32.toUInt16.toUInt32.toInt32)])) (fun t k => XS.istore X0.here hx rfl (hb hby at_6) rfl (l' := #[.val (.long u1), .second, iv u2, iv u3, iv u4, iv (4 : Int32), .unset, .unset, .unset, .unset, .unset, .unset, .unset, .unset, .unset, .unset, .unset, .unset]) rfl (XS.iloadN X0.here hx rfl (hb hby at_8) rfl (X0.ldcInt hx hown (mvT hZ (hw _ (List.mem_of_getElem? (i := 0) rfl))) (g := (mkF m 9 #[.val (.long u1), .second, iv u2, iv u3, iv u4, iv (4 : Int32), .unset, .unset, .unset, .unset, .unset, .unset, .unset, .unset, .unset, .unset, .unset, .unset] [(.int u2)])) rfl (hb hby at_9) t (XS.iand X0.here hx rfl (hb hby at_11) rfl (XS.i2c X0.here hx rfl (hb hby at_12) rfl k))))) ?_
    generalize hv201 : ((u2 &&& (65535 : Int32))).toUInt32.toUInt16.toUInt32.toInt32 = v201
    refine ownW_by (g' := (mkF m 23 #[.val (.long u1), .second, iv u2, iv u3, iv u4, iv (4 : Int32), iv v201, .unset, .unset, .unset, .unset, .unset, .unset, .unset, .unset, .unset, .unset, .unset] [(.int ((((u2).toUInt32 >>> ((16 : Int32) &&& 31).toUInt32).toInt32 &&& (65535 : Int32))).toUInt32.toUInt16.toUInt32.toInt32)])) (fun t k => XS.istore X0.here hx rfl (hb hby at_13) rfl (l' := #[.val (.long u1), .second, iv u2, iv u3, iv u4, iv (4 : Int32), iv v201, .unset, .unset, .unset, .unset, .unset, .unset, .unset, .unset, .unset, .unset, .unset]) rfl (XS.iloadN X0.here hx rfl (hb hby at_15) rfl (XS.bipush X0.here hx rfl (hb hby at_16) (XS.iushr X0.here hx rfl (hb hby at_18) rfl (X0.ldcInt hx hown (mvT hZ (hw _ (List.mem_of_getElem? (i := 0) rfl))) (g := (mkF m 19 #[.val (.long u1), .second, iv u2, iv u3, iv u4, iv (4 : Int32), iv v201, .unset, .unset, .unset, .unset, .unset, .unset, .unset, .unset, .unset, .unset, .unset] [(.int ((u2).toUInt32 >>> ((16 : Int32) &&& 31).toUInt32).toInt32)])) rfl (hb hby at_19) t (XS.iand X0.here hx rfl (hb hby at_21) rfl (XS.i2c X0.here hx rfl (hb hby at_22) rfl k))))))) ?_
    generalize hv202 : ((((u2).toUInt32 >>> ((16 : Int32) &&& 31).toUInt32).toInt32 &&& (65535 : Int32))).toUInt32.toUInt16.toUInt32.toInt32 = v202
    refine ownW_by (g' := (mkF m 30 #[.val (.long u1), .second, iv u2, iv u3, iv u4, iv (4 : Int32), iv v201, iv v202, .unset, .unset, .unset, .unset, .unset, .unset, .unset, .unset, .unset, .unset] [(.int ((u3 &&& (65535 : Int32))).toUInt32.toUInt16.toUInt32.toInt32)])) (fun t k => XS.istore X0.here hx rfl (hb hby at_23) rfl (l' := #[.val (.long u1), .second, iv u2, iv u3, iv u4, iv (4 : Int32), iv v201, iv v202, .unset, .unset, .unset, .unset, .unset, .unset, .unset, .unset, .unset, .unset]) rfl (XS.iloadN X0.here hx rfl (hb hby at_25) rfl (X0.ldcInt hx hown (mvT hZ (hw _ (List.mem_of_getElem? (i := 0) rfl))) (g := (mkF m 26 #[.val (.long u1), .second, iv u2, iv u3, iv u4, iv (4 : Int32), iv v201, iv v202, .unset, .unset, .unset, .unset, .unset, .unset, .unset, .unset, .unset, .unset] [(.int u3)])) rfl (hb hby at_26) t (XS.iand X0.here hx rfl (hb hby at_28) rfl (XS.i2c X0.here hx rfl (hb hby at_29) rfl k))))) ?_
    generalize hv203 : ((u3 &&& (65535 : Int32))).toUInt32.toUInt16.toUInt32.toInt32 = v203
    refine ownW_by (g' := (mkF m 40 #[.val (.long u1), .second, iv u2, iv u3, iv u4, iv (4 : Int32), iv v201, iv v202, iv v203, .unset, .unset, .unset, .unset, .unset, .unset, .unset, .unset, .unset] [(.int ((((u3).toUInt32 >>> ((16 : Int32) &&& 31).toUInt32).toInt32 &&& (65535 : Int32))).toUInt32.toUInt16.toUInt32.toInt32)])) (fun t k => XS.istore X0.here hx rfl (hb hby at_30) rfl (l' := #[.val (.long u1), .second, iv u2, iv u3, iv u4, iv (4 : Int32), iv v201, iv v202, iv v203, .unset, .unset, .unset, .unset, .unset, .unset, .unset, .unset, .unset]) rfl (XS.iloadN X0.here hx rfl (hb hby at_32) rfl (XS.bipush X0.here hx rfl (hb hby at_33) (XS.iushr X0.here hx rfl (hb hby at_35) rfl (X0.ldcInt hx hown (mvT hZ (hw _ (List.mem_of_getElem? (i := 0) rfl))) (g := (mkF m 36 #[.val (.long u1), .second, iv u2, iv u3, iv u4, iv (4 : Int32), iv v201, iv v202, iv v203, .unset, .unset, .unset, .unset, .unset, .unset, .unset, .unset, .unset] [(.int ((u3).toUInt32 >>> ((16 : Int32) &&& 31).toUInt32).toInt32)])) rfl (hb hby at_36) t (XS.iand X0.here hx rfl (hb hby at_38) rfl (XS.i2c X0.here hx rfl (hb hby at_39) rfl k))))))) ?_
    generalize hv204 : ((((u3).toUInt32 >>> ((16 : Int32) &&& 31).toUInt32).toInt32 &&& (65535 : Int32))).toUInt32.toUInt16.toUInt32.toInt32 = v204
    refine ownW_by (g' := (mkF m 52 #[.val (.long u1), .second, iv u2, iv u3, iv u4, iv (4 : Int32), iv v201, iv v202, iv v203, iv v204, .unset, .unset, .unset, .unset, .unset, .unset, .unset, .unset] [(.int v204), (.int v203), (.int v202), (.int v201), (.int (4 : Int32))])) (fun t k => XS.istore X0.here hx rfl (hb hby at_40) rfl (l' := #[.val (.long u1), .second, iv u2, iv u3, iv u4, iv (4 : Int32), iv v201, iv v202, iv v203, iv v204, .unset, .unset, .unset, .unset, .unset, .unset, .unset, .unset]) rfl (XS.iload X0.here hx rfl (hb hby at_42) rfl (XS.iload X0.here hx rfl (hb hby at_44) rfl (XS.iload X0.here hx rfl (hb hby at_46) rfl (XS.iload X0.here hx rfl (hb hby at_48) rfl (XS.iload X0.here hx rfl (hb hby at_50) rfl k)))))) ?_
    refine ownW_callS X0 hx hZ hown (hw _ (List.mem_of_getElem? (i := 1) rfl)) (hw _ (List.mem_of_getElem? (i := 2) rfl)) (hw _ (List.mem_of_getElem? (i := 3) rfl)) (hw _ (List.mem_of_getElem? (i := 4) rfl)) (by decide) (own_str_4 l Z a0 hw [] (v201) (v202) (v203) (v204) (zcs) h0 n0 Z0 O0 S_cs (by first | assumption | decide) S_ad S_hi S_lo (own_ch_of hv201) (own_ch_of hv202) (own_ch_of hv203) (own_ch_of hv204)) 0 (by decide) (by decide) (by decide) (by decide) e0 (g := (mkF m 52 #[.val (.long u1), .second, iv u2, iv u3, iv u4, iv (4 : Int32), iv v201, iv v202, iv v203, iv v204, .unset, .unset, .unset, .unset, .unset, .unset, .unset, .unset] [(.int v204), (.int v203), (.int v202), (.int v201), (.int (4 : Int32))])) rfl (by rw [hml]; rfl) (argsL := [(.int (4 : Int32)), (.int v201), (.int v202), (.int v203), (.int v204)]) (rest := []) (lenOf own_pd17 rfl) rfl (by show 2 * 0 + _ ≤ _; exact Nat.le_of_eq rfl) (hb hby at_52) ?_
    intro v205 T205 L205 X205 q205
    obtain ⟨ro205, ba205, kb205, cd205, ln205, vs205, rfl, N205q, K205, f206, f207, f208, f209, f210, f211, f212, f213, f214, f215⟩ := q205
    have N205 := Fr.app N0 N205q
    show ownW_Goes p e below s0 _ _ _ T205 (mkF m 55 #[.val (.long u1), .second, iv u2, iv u3, iv u4, iv (4 : Int32), iv v201, iv v202, iv v203, iv v204, .unset, .unset, .unset, .unset, .unset, .unset, .unset, .unset] [(.ref ro205)])
    refine ownW_by (g' := (mkF m 69 #[.val (.long u1), .second, iv u2, iv u3, iv u4, iv (4 : Int32), iv v201, iv v202, iv v203, iv v204, rv ro205, .unset, .unset, .unset, .unset, .unset, .unset, .unset] [(.int v204), (.int v204), (.int v203), (.int v202), (.int (3 : Int32))])) (fun t k => XS.astore X205.here hx rfl (hb hby at_55) rfl rfl (l' := #[.val (.long u1), .second, iv u2, iv u3, iv u4, iv (4 : Int32), iv v201, iv v202, iv v203, iv v204, rv ro205, .unset, .unset, .unset, .unset, .unset, .unset, .unset]) rfl (XS.iload X205.here hx rfl (hb hby at_57) rfl (XS.iconst X205.here hx rfl (hb hby at_59) (XS.isub X205.here hx rfl (hb hby at_60) rfl (XS.iload X205.here hx rfl (hb hby at_61) rfl (XS.iload X205.here hx rfl (hb hby at_63) rfl (XS.iload X205.here hx rfl (hb hby at_65) rfl (XS.iload X205.here hx rfl (hb hby at_67) rfl k)))))))) ?_
    have f216 := (O0.keep K205 all0)
    refine ownW_callS X205 hx hZ hown (hw _ (List.mem_of_getElem? (i := 1) rfl)) (hw _ (List.mem_of_getElem? (i := 2) rfl)) (hw _ (List.mem_of_getElem? (i := 3) rfl)) (hw _ (List.mem_of_getElem? (i := 4) rfl)) (by decide) (own_str_3 l Z a0 hw [] (v202) (v203) (v204) (v204) (zcs) T205.heap n0 (Nat.le_trans Z0 K205.1) f216 S_cs (by first | assumption | decide) S_ad S_hi S_lo (own_ch_of hv202) (own_ch_of hv203) (own_ch_of hv204) (own_ch_of hv204)) 0 (by decide) (by decide) (by decide) (by decide) rfl (g := (mkF m 69 #[.val (.long u1), .second, iv u2, iv u3, iv u4, iv (4 : Int32), iv v201, iv v202, iv v203, iv v204, rv ro205, .unset, .unset, .unset, .unset, .unset, .unset, .unset] [(.int v204), (.int v204), (.int v203), (.int v202), (.int (3 : Int32))])) rfl (by rw [hml]; rfl) (argsL := [(.int (3 : Int32)), (.int v202), (.int v203), (.int v204), (.int v204)]) (rest := []) (lenOf own_pd17 rfl) rfl (by show 2 * 0 + _ ≤ _; exact Nat.le_of_eq rfl) (hb hby at_69) ?_
    intro v217 T217 L217 X217 q217
    obtain ⟨ro217, ba217, kb217, cd217, ln217, vs217, rfl, N217q, K217, f218, f219, f220, f221, f222, f223, f224, f225, f226⟩ := q217
    have N217 := Fr.app N205 N217q
    show ownW_Goes p e below s0 _ _ _ T217 (mkF m 72 #[.val (.long u1), .second, iv u2, iv u3, iv u4, iv (4 : Int32), iv v201, iv v202, iv v203, iv v204, rv ro205, .unset, .unset, .unset, .unset, .unset, .unset, .unset] [(.ref ro217)])
    refine ownW_by (g' := (mkF m 86 #[.val (.long u1), .second, iv u2, iv u3, iv u4, iv (4 : Int32), iv v201, iv v202, iv v203, iv v204, rv ro205, rv ro217, .val (.long (-7046029254386353131 : Int64)), .second, .unset, .unset, .unset, .unset] [(.long (-7046029254386353131 : Int64)), (.long (u1 ^^^ (v201).toInt64))])) (fun t k => XS.astore X217.here hx rfl (hb hby at_72) rfl rfl (l' := #[.val (.long u1), .second, iv u2, iv u3, iv u4, iv (4 : Int32), iv v201, iv v202, iv v203, iv v204, rv ro205, rv ro217, .unset, .unset, .unset, .unset, .unset, .unset]) rfl (X217.ldc2Long hx hown (mvT hZ (hw _ (List.mem_of_getElem? (i := 38) rfl))) (g := (mkF m 74 #[.val (.long u1), .second, iv u2, iv u3, iv u4, iv (4 : Int32), iv v201, iv v202, iv v203, iv v204, rv ro205, rv ro217, .unset, .unset, .unset, .unset, .unset, .unset] [])) rfl (hb hby at_74) t (XS.lstore X217.here hx rfl (hb hby at_77) rfl (l' := #[.val (.long u1), .second, iv u2, iv u3, iv u4, iv (4 : Int32), iv v201, iv v202, iv v203, iv v204, rv ro205, rv ro217, .val (.long (-7046029254386353131 : Int64)), .second, .unset, .unset, .unset, .unset]) rfl (XS.lloadN X217.here hx rfl (hb hby at_79) rfl (XS.iload X217.here hx rfl (hb hby at_80) rfl (XS.i2l X217.here hx rfl (hb hby at_82) rfl (XS.lxor X217.here hx rfl (hb hby at_83) rfl (XS.lload X217.here hx rfl (hb hby at_84) rfl k)))))))) ?_
    refine ownW_by (g' := (mkF m 90 #[.val (.long u1), .second, iv u2, iv u3, iv u4, iv (4 : Int32), iv v201, iv v202, iv v203, iv v204, rv ro205, rv ro217, .val (.long (-7046029254386353131 : Int64)), .second, .val (.long ((u1 ^^^ (v201).toInt64) * (-7046029254386353131 : Int64))), .second, .unset, .unset] [(.long u1)])) (fun t k => XS.lmul X217.here hx rfl (hb hby at_86) rfl (XS.lstore X217.here hx rfl (hb hby at_87) rfl (l' := #[.val (.long u1), .second, iv u2, iv u3, iv u4, iv (4 : Int32), iv v201, iv v202, iv v203, iv v204, rv ro205, rv ro217, .val (.long (-7046029254386353131 : Int64)), .second, .val (.long ((u1 ^^^ (v201).toInt64) * (-7046029254386353131 : Int64))), .second, .unset, .unset]) rfl (XS.lloadN X217.here hx rfl (hb hby at_89) rfl k))) ?_
    refine ownW_ldc X217 hx hZ hsv hsh S0 (Nat.zero_le _) hown (hw _ (List.mem_of_getElem? (i := 35) rfl)) (own_atoms hw) rfl O0 (own_frS N217 hsz0) hib (by decide) hch hcw (vs := []) (zl := (0 : Int32)) ⟨by decide, rfl⟩ (by decide) (by decide) (g := (mkF m 90 #[.val (.long u1), .second, iv u2, iv u3, iv u4, iv (4 : Int32), iv v201, iv v202, iv v203, iv v204, rv ro205, rv ro217, .val (.long (-7046029254386353131 : Int64)), .second, .val (.long ((u1 ^^^ (v201).toInt64) * (-7046029254386353131 : Int64))), .second, .unset, .unset] [(.long u1)])) rfl (hb hby at_90) (k0 := 0) (by decide) (by decide) (by decide) (by decide) ?_
    intro s T227 h227 a227 b227 k227 X227 hsv hsh S227 hZ hown e227 E227 ex227 fc227 fv227 av227 ib227 li227
    show ownW_Goes p e below s0 _ _ _ T227 (mkF m 92 #[.val (.long u1), .second, iv u2, iv u3, iv u4, iv (4 : Int32), iv v201, iv v202, iv v203, iv v204, rv ro205, rv ro217, .val (.long (-7046029254386353131 : Int64)), .second, .val (.long ((u1 ^^^ (v201).toInt64) * (-7046029254386353131 : Int64))), .second, .unset, .unset] [(.ref a227), (.long u1)])
    have f228 := ((f216.keep K217 all0).ext E227)
    refine ownW_callS X227 hx hZ hown (hw _ (List.mem_of_getElem? (i := 39) rfl)) (hw _ (List.mem_of_getElem? (i := 40) rfl)) (hw _ (List.mem_of_getElem? (i := 41) rfl)) (hw _ (List.mem_of_getElem? (i := 42) rfl)) (by decide) (own_tag0 l Z a0 hw [] (a227) (b227) (k227) ((0 : Int32)) ((0 : Int32)) ([]) (u1) (zcs) (vsf) h227 n0 (Nat.le_trans Z0 (Nat.le_trans (Nat.le_trans K205.1 K217.1) E227.1)) f228 S_cs (by first | assumption | decide) S_ad S_hi S_lo S_sf r_sf ex227 fv227 fc227 av227 (Or.inl ⟨rfl, rfl⟩)) 0 (by decide) (by decide) (by decide) (by decide) e227 (g := (mkF m 92 #[.val (.long u1), .second, iv u2, iv u3, iv u4, iv (4 : Int32), iv v201, iv v202, iv v203, iv v204, rv ro205, rv ro217, .val (.long (-7046029254386353131 : Int64)), .second, .val (.long ((u1 ^^^ (v201).toInt64) * (-7046029254386353131 : Int64))), .second, .unset, .unset] [(.ref a227), (.long u1)])) rfl (by rw [hml]; rfl) (argsL := [(.long u1), (.ref a227)]) (rest := []) (lenOf own_pd18 rfl) rfl (by show 2 * 0 + _ ≤ _; exact Nat.le_of_eq rfl) (hb hby at_92) ?_
    intro v229 T229 L229 X229 q229
    obtain ⟨rfl, N229q, e229⟩ := q229
    have N229 := Fr.app N217 N229q
    show ownW_Goes p e below s0 _ _ _ T229 (mkF m 95 #[.val (.long u1), .second, iv u2, iv u3, iv u4, iv (4 : Int32), iv v201, iv v202, iv v203, iv v204, rv ro205, rv ro217, .val (.long (-7046029254386353131 : Int64)), .second, .val (.long ((u1 ^^^ (v201).toInt64) * (-7046029254386353131 : Int64))), .second, .unset, .unset] [(.int ((((u1).toUInt64 >>> ((32 : Int32) &&& 0x3f).toInt64.toUInt64).toInt64).toInt32 ||| (1 : Int32)))])
    refine ownW_by (g' := (mkF m 106 #[.val (.long u1), .second, iv u2, iv u3, iv u4, iv (4 : Int32), iv v201, iv v202, iv v203, iv v204, rv ro205, rv ro217, .val (.long (-7046029254386353131 : Int64)), .second, .val (.long ((u1 ^^^ (v201).toInt64) * (-7046029254386353131 : Int64))), .second, .unset, .unset] [(.int (1 : Int32))])) (fun t k => XS.lloadN X229.here hx rfl (hb hby at_95) rfl (XS.bipush X229.here hx rfl (hb hby at_96) (XS.lushr X229.here hx rfl (hb hby at_98) rfl (XS.l2i X229.here hx rfl (hb hby at_99) rfl (XS.iconst X229.here hx rfl (hb hby at_100) (XS.ior X229.here hx rfl (hb hby at_101) rfl (XS.icmpNo X229.here hx rfl (hb hby at_102) rfl (teq (rfl : ((((u1).toUInt64 >>> ((32 : Int32) &&& 0x3f).toInt64.toUInt64).toInt64).toInt32 ||| (1 : Int32)) = ((((u1).toUInt64 >>> ((32 : Int32) &&& 0x3f).toInt64.toUInt64).toInt64).toInt32 ||| (1 : Int32)))).2 (XS.iconst X229.here hx rfl (hb hby at_105) k)))))))) ?_
    refine ownW_by (g' := (mkF m 115 #[.val (.long u1), .second, iv u2, iv u3, iv u4, iv (4 : Int32), iv v201, iv v202, iv v203, iv v204, rv ro205, rv ro217, .val (.long (-7046029254386353131 : Int64)), .second, .val (.long ((u1 ^^^ (v201).toInt64) * (-7046029254386353131 : Int64))), .second, iv (1 : Int32), .unset] [(.ref ro205), (.long u1)])) (fun t k => XS.goto X229.here hx rfl (pc0 := 106) (pc' := 110) rfl (hb hby at_106) (by decide) (by decide) (XS.istore X229.here hx rfl (hb hby at_110) rfl (l' := #[.val (.long u1), .second, iv u2, iv u3, iv u4, iv (4 : Int32), iv v201, iv v202, iv v203, iv v204, rv ro205, rv ro217, .val (.long (-7046029254386353131 : Int64)), .second, .val (.long ((u1 ^^^ (v201).toInt64) * (-7046029254386353131 : Int64))), .second, iv (1 : Int32), .unset]) rfl (XS.lloadN X229.here hx rfl (hb hby at_112) rfl (XS.aload X229.here hx rfl (hb hby at_113) rfl rfl k)))) ?_
    have f230 := ((f207.keep K217).ext E227)
    have f231 := ((f208.keep K217 nin0).ext E227)
    have f232 := ((f209.keep K217 nin0).ext E227)
    have f233 := ((f210.keep K217 nin0).ext E227)
    refine ownW_callS X229 hx hZ hown (hw _ (List.mem_of_getElem? (i := 39) rfl)) (hw _ (List.mem_of_getElem? (i := 40) rfl)) (hw _ (List.mem_of_getElem? (i := 41) rfl)) (hw _ (List.mem_of_getElem? (i := 42) rfl)) (by decide) (own_tag4 l Z a0 hw [] (ro205) (ba205) (kb205) (cd205) (ln205) (vs205) (u1) (v201) (v202) (v203) (v204) (zcs) (vsf) h227 n0 (Nat.le_trans Z0 (Nat.le_trans (Nat.le_trans K205.1 K217.1) E227.1)) f228 S_cs (by first | assumption | decide) S_ad S_hi S_lo S_sf r_sf f230 f231 f232 f233 f211 (own_ch_of hv201) (own_ch_of hv202) (own_ch_of hv203) (own_ch_of hv204) f212 f213 f214 f215) 0 (by decide) (by decide) (by decide) (by decide) e229 (g := (mkF m 115 #[.val (.long u1), .second, iv u2, iv u3, iv u4, iv (4 : Int32), iv v201, iv v202, iv v203, iv v204, rv ro205, rv ro217, .val (.long (-7046029254386353131 : Int64)), .second, .val (.long ((u1 ^^^ (v201).toInt64) * (-7046029254386353131 : Int64))), .second, iv (1 : Int32), .unset] [(.ref ro205), (.long u1)])) rfl (by rw [hml]; rfl) (argsL := [(.long u1), (.ref ro205)]) (rest := []) (lenOf own_pd18 rfl) rfl (by show 2 * 0 + _ ≤ _; exact Nat.le_of_eq rfl) (hb hby at_115) ?_
    intro v234 T234 L234 X234 q234
    obtain ⟨rfl, N234q, e234⟩ := q234
    have N234 := Fr.app N229 N234q
    show ownW_Goes p e below s0 _ _ _ T234 (mkF m 118 #[.val (.long u1), .second, iv u2, iv u3, iv u4, iv (4 : Int32), iv v201, iv v202, iv v203, iv v204, rv ro205, rv ro217, .val (.long (-7046029254386353131 : Int64)), .second, .val (.long ((u1 ^^^ (v201).toInt64) * (-7046029254386353131 : Int64))), .second, iv (1 : Int32), .unset] [(.int ((((((((((((u1 ^^^ (v201).toInt64) * (-7046029254386353131 : Int64)) ^^^ (v202).toInt64) * (-7046029254386353131 : Int64)) ^^^ (v203).toInt64) * (-7046029254386353131 : Int64)) ^^^ (v204).toInt64) * (-7046029254386353131 : Int64))).toUInt64 >>> ((32 : Int32) &&& 0x3f).toInt64.toUInt64).toInt64).toInt32 ||| (1 : Int32)))])
    refine ownW_by (g' := (mkF m 122 #[.val (.long u1), .second, iv u2, iv u3, iv u4, iv (4 : Int32), iv v201, iv v202, iv v203, iv v204, rv ro205, rv ro217, .val (.long (-7046029254386353131 : Int64)), .second, .val (.long ((u1 ^^^ (v201).toInt64) * (-7046029254386353131 : Int64))), .second, iv (1 : Int32), .unset] [(.ref ro217), (.long ((u1 ^^^ (v201).toInt64) * (-7046029254386353131 : Int64))), (.int ((((((((((((u1 ^^^ (v201).toInt64) * (-7046029254386353131 : Int64)) ^^^ (v202).toInt64) * (-7046029254386353131 : Int64)) ^^^ (v203).toInt64) * (-7046029254386353131 : Int64)) ^^^ (v204).toInt64) * (-7046029254386353131 : Int64))).toUInt64 >>> ((32 : Int32) &&& 0x3f).toInt64.toUInt64).toInt64).toInt32 ||| (1 : Int32)))])) (fun t k => XS.lload X234.here hx rfl (hb hby at_118) rfl (XS.aload X234.here hx rfl (hb hby at_120) rfl rfl k)) ?_
    have f235 := (f219.ext E227)
    have f236 := (f220.ext E227)
    have f237 := (f221.ext E227)
    have f238 := (f222.ext E227)
    refine ownW_callS X234 hx hZ hown (hw _ (List.mem_of_getElem? (i := 39) rfl)) (hw _ (List.mem_of_getElem? (i := 40) rfl)) (hw _ (List.mem_of_getElem? (i := 41) rfl)) (hw _ (List.mem_of_getElem? (i := 42) rfl)) (by decide) (own_tag3 l Z a0 hw [] (ro217) (ba217) (kb217) (cd217) (ln217) (vs217) (((u1 ^^^ (v201).toInt64) * (-7046029254386353131 : Int64))) (v202) (v203) (v204) (zcs) (vsf) h227 n0 (Nat.le_trans Z0 (Nat.le_trans (Nat.le_trans K205.1 K217.1) E227.1)) f228 S_cs (by first | assumption | decide) S_ad S_hi S_lo S_sf r_sf f235 f236 f237 f238 f223 (own_ch_of hv202) (own_ch_of hv203) (own_ch_of hv204) f224 f225 f226) 1 (by decide) (by decide) (by decide) (by decide) e234 (g := (mkF m 122 #[.val (.long u1), .second, iv u2, iv u3, iv u4, iv (4 : Int32), iv v201, iv v202, iv v203, iv v204, rv ro205, rv ro217, .val (.long (-7046029254386353131 : Int64)), .second, .val (.long ((u1 ^^^ (v201).toInt64) * (-7046029254386353131 : Int64))), .second, iv (1 : Int32), .unset] [(.ref ro217), (.long ((u1 ^^^ (v201).toInt64) * (-7046029254386353131 : Int64))), (.int ((((((((((((u1 ^^^ (v201).toInt64) * (-7046029254386353131 : Int64)) ^^^ (v202).toInt64) * (-7046029254386353131 : Int64)) ^^^ (v203).toInt64) * (-7046029254386353131 : Int64)) ^^^ (v204).toInt64) * (-7046029254386353131 : Int64))).toUInt64 >>> ((32 : Int32) &&& 0x3f).toInt64.toUInt64).toInt64).toInt32 ||| (1 : Int32)))])) rfl (by rw [hml]; rfl) (argsL := [(.long ((u1 ^^^ (v201).toInt64) * (-7046029254386353131 : Int64))), (.ref ro217)]) (rest := [(.int ((((((((((((u1 ^^^ (v201).toInt64) * (-7046029254386353131 : Int64)) ^^^ (v202).toInt64) * (-7046029254386353131 : Int64)) ^^^ (v203).toInt64) * (-7046029254386353131 : Int64)) ^^^ (v204).toInt64) * (-7046029254386353131 : Int64))).toUInt64 >>> ((32 : Int32) &&& 0x3f).toInt64.toUInt64).toInt64).toInt32 ||| (1 : Int32)))]) (lenOf own_pd18 rfl) rfl (by show 2 * 0 + _ ≤ _; exact Nat.le_of_eq rfl) (hb hby at_122) ?_
    intro v239 T239 L239 X239 q239
    obtain ⟨rfl, N239q, e239⟩ := q239
    have N239 := Fr.app N234 N239q
    show ownW_Goes p e below s0 _ _ _ T239 (mkF m 125 #[.val (.long u1), .second, iv u2, iv u3, iv u4, iv (4 : Int32), iv v201, iv v202, iv v203, iv v204, rv ro205, rv ro217, .val (.long (-7046029254386353131 : Int64)), .second, .val (.long ((u1 ^^^ (v201).toInt64) * (-7046029254386353131 : Int64))), .second, iv (1 : Int32), .unset] [(.int ((((((((((((u1 ^^^ (v201).toInt64) * (-7046029254386353131 : Int64)) ^^^ (v202).toInt64) * (-7046029254386353131 : Int64)) ^^^ (v203).toInt64) * (-7046029254386353131 : Int64)) ^^^ (v204).toInt64) * (-7046029254386353131 : Int64))).toUInt64 >>> ((32 : Int32) &&& 0x3f).toInt64.toUInt64).toInt64).toInt32 ||| (1 : Int32))), (.int ((((((((((((u1 ^^^ (v201).toInt64) * (-7046029254386353131 : Int64)) ^^^ (v202).toInt64) * (-7046029254386353131 : Int64)) ^^^ (v203).toInt64) * (-7046029254386353131 : Int64)) ^^^ (v204).toInt64) * (-7046029254386353131 : Int64))).toUInt64 >>> ((32 : Int32) &&& 0x3f).toInt64.toUInt64).toInt64).toInt32 ||| (1 : Int32)))])
    refine ownW_by (g' := (mkF m 145 #[.val (.long u1), .second, iv u2, iv u3, iv u4, iv (4 : Int32), iv v201, iv v202, iv v203, iv v204, rv ro205, rv ro217, .val (.long (-7046029254386353131 : Int64)), .second, .val (.long ((u1 ^^^ (v201).toInt64) * (-7046029254386353131 : Int64))), .second, iv (1 : Int32), iv (1 : Int32)] [])) (fun t k => XS.icmpNo X239.here hx rfl (hb hby at_125) rfl (teq (rfl : ((((((((((((u1 ^^^ (v201).toInt64) * (-7046029254386353131 : Int64)) ^^^ (v202).toInt64) * (-7046029254386353131 : Int64)) ^^^ (v203).toInt64) * (-7046029254386353131 : Int64)) ^^^ (v204).toInt64) * (-7046029254386353131 : Int64))).toUInt64 >>> ((32 : Int32) &&& 0x3f).toInt64.toUInt64).toInt64).toInt32 ||| (1 : Int32)) = ((((((((((((u1 ^^^ (v201).toInt64) * (-7046029254386353131 : Int64)) ^^^ (v202).toInt64) * (-7046029254386353131 : Int64)) ^^^ (v203).toInt64) * (-7046029254386353131 : Int64)) ^^^ (v204).toInt64) * (-7046029254386353131 : Int64))).toUInt64 >>> ((32 : Int32) &&& 0x3f).toInt64.toUInt64).toInt64).toInt32 ||| (1 : Int32)))).2 (XS.iconst X239.here hx rfl (hb hby at_128) (XS.goto X239.here hx rfl (pc0 := 129) (pc' := 133) rfl (hb hby at_129) (by decide) (by decide) (XS.istore X239.here hx rfl (hb hby at_133) rfl (l' := #[.val (.long u1), .second, iv u2, iv u3, iv u4, iv (4 : Int32), iv v201, iv v202, iv v203, iv v204, rv ro205, rv ro217, .val (.long (-7046029254386353131 : Int64)), .second, .val (.long ((u1 ^^^ (v201).toInt64) * (-7046029254386353131 : Int64))), .second, iv (1 : Int32), iv (1 : Int32)]) rfl (XS.iload X239.here hx rfl (hb hby at_135) rfl (XS.ifNo X239.here hx rfl (hb hby at_137) rfl ((if0 _ _).trans (feq (by decide : ¬ ((1 : Int32) = (0 : Int32)))).1) (XS.iload X239.here hx rfl (hb hby at_140) rfl (XS.ifNo X239.here hx rfl (hb hby at_142) rfl ((if0 _ _).trans (feq (by decide : ¬ ((1 : Int32) = (0 : Int32)))).1) k)))))))) ?_
    refine ownW_by (g' := (mkF m 150 #[.val (.long u1), .second, iv u2, iv u3, iv u4, iv (4 : Int32), iv v201, iv v202, iv v203, iv v204, rv ro205, rv ro217, .val (.long (-7046029254386353131 : Int64)), .second, .val (.long ((u1 ^^^ (v201).toInt64) * (-7046029254386353131 : Int64))), .second, iv (1 : Int32), iv (1 : Int32)] [(.int (1 : Int32))])) (fun t k => XS.iconst X239.here hx rfl (hb hby at_145) (XS.goto X239.here hx rfl (pc0 := 146) (pc' := 150) rfl (hb hby at_146) (by decide) (by decide) k)) ?_
    refine ownW_retN X239 hsv S227 (Nat.le_trans (Nat.le_refl _) (Nat.le_of_eq (congrArg Array.size e239).symm)) hx hlk hret (t := .boolean) (by simp) (hb hby at_150) (by decide) (by decide) ?_
    intro u hu
    rw [e239]
    exact ⟨rfl, N239, ((((Keep.refl h0 []).trans K205 all0).trans K217 all0).ext E227)⟩
theorem own_cst {args : Array Value} {s : State} {C n d : String} (h1 : (Cond.initializedFor C n d).before args s = true) (h2 : (Cond.isInt (Term.static C n d)).before args s = true) (h3 : (Cond.not (Cond.eq (Term.static C n d) (Term.int (0 : Int32)))).before args s = true) : ∃ z : Int32, Sta s s.heap C n d (.int z) ∧ ¬ z = (0 : Int32) := by
  obtain ⟨z, ev⟩ := is_v (Cond.before_iff.mp h2)
  refine ⟨z, Sta.start ev (Or.inl h1), fun q => ?_⟩
  have h4 := own_eqI (b := Term.int (0 : Int32)) (y := 0) ev rfl
  exact gotF h4 (not_v (Cond.before_iff.mp h3)) q
theorem own_staI {args : Array Value} {s : State} {C n d : String} {z : Int32} (h1 : (Cond.initializedFor C n d).before args s = true) (h2 : (Cond.eq (Term.static C n d) (Term.int z)).before args s = true) : Sta s s.heap C n d (.int z) :=
  Sta.start (Cond.eq_int h2 rfl) (Or.inl h1)
theorem own_staR {args : Array Value} {s : State} {C n d : String} (h1 : (Cond.initializedFor C n d).before args s = true) (h2 : (Cond.isRef (Term.static C n d)).before args s = true) : ∃ v : Value, Sta s s.heap C n d v ∧ v.isRef = true := by
  obtain ⟨v, ev, hr⟩ := Cond.isRef_spec h2
  exact ⟨v, Sta.start ev (Or.inl h1), hr⟩
set_option maxRecDepth 65536 in
set_option maxHeartbeats 40000000 in
theorem comes_1 {Post : Tables → Env → Array Value → State → Outcome → State → Prop} (hpost : ∀ tb e args s v u, (limb_1_1.after args s (.returned v) u = true ∧ limb_1_2.after args s (.returned v) u = true ∧ True) → ReturnedEndW s (.returned v) u (Jvm.fieldLocs frame_1_writes args s ++ Jvm.arrayLocs frame_1_arrays args s ++ Jvm.staticLocs frame_1_statics s) 32 1216 → Post tb e args s (.returned v) u) :
    ArmFor flags0 classFile x code maxLocals ret World_1 tables_1 room_1 Calls_1 rest_1 Pre_1 Post := by
  intro l hfl _ _ p e ha hc hk s m args below hf hA hF happ hP
  obtain ⟨hcalls, hrest, hpre⟩ := hP
  obtain ⟨-, -, -, hnamed, -, -, -, hat⟩ := (Spec.applies_iff hf).mp happ
  obtain ⟨hg, hn⟩ := and_e (Cond.before_iff.mp (show (Jvm.Cond.and given_1 narrow_1).before args s = true from hpre))
  obtain ⟨ga1, gb1⟩ := and_e hg
  obtain ⟨ga2, gb2⟩ := and_e gb1
  obtain ⟨ga3, gb3⟩ := and_e gb2
  obtain ⟨ga4, gb4⟩ := and_e gb3
  obtain ⟨w0, w1, w2, w3, rfl⟩ : ∃ w0 w1 w2 w3 : Value, args = #[w0, w1, w2, w3] := by
    have hs : args.size = 4 := by simpa [Cond.value, given_1] using ga1
    obtain ⟨L⟩ := args
    match L, hs with
    | [w0, w1, w2, w3], _ => exact ⟨w0, w1, w2, w3, rfl⟩
  have hw := fun d (hd : d ∈ tables_1) => atoms_spec (ws := Jvm.Cond.code x code maxLocals ret :: tables_1) hat d (List.mem_cons_of_mem _ hd)
  have hfit : Fit s := fun {y c} hc i hi => by
    obtain ⟨ha, rfl⟩ := Array.getElem?_eq_some_iff.mp hc
    have q := List.all_eq_true.mp ((Array.all_eq_true_iff_forall_mem.mp hF) _ (Array.getElem_mem ha)) i (List.mem_range.mpr hi)
    simpa [Array.getElem?_eq_getElem hi] using q
  obtain ⟨hsets, hown0⟩ := atoms_of _ (rest_1_c_eq ▸ (show rest_1_c.before _ s = true from hrest))
  have hr0 := Cond.before_iff.mp hown0
  obtain ⟨i0, ei0⟩ := isL_v ga2
  obtain rfl : w0 = (.long i0) := Option.some.inj ei0
  obtain ⟨i1, ei1⟩ := is_v ga3
  obtain rfl : w1 = (.int i1) := Option.some.inj ei1
  obtain ⟨i2, ei2⟩ := is_v ga4
  obtain rfl : w2 = (.int i2) := Option.some.inj ei2
  obtain ⟨i3, ei3⟩ := is_v gb4
  obtain rfl : w3 = (.int i3) := Option.some.inj ei3
  obtain ⟨zcs, Scs, hcs0⟩ := own_cst (hsets _ (List.mem_of_getElem? (i := 0) rfl)) (hsets _ (List.mem_of_getElem? (i := 1) rfl)) (hsets _ (List.mem_of_getElem? (i := 2) rfl))
  obtain ⟨vsf, Ssf, rsf⟩ := own_staR (hsets _ (List.mem_of_getElem? (i := 7) rfl)) (hsets _ (List.mem_of_getElem? (i := 8) rfl))
  obtain ⟨n, o, h1, h2, h3, _, L, rfl, ⟨rfl, N, -⟩, hq⟩ := own_law l s _ hw tables_1 i0 i1 i2 i3 (zcs) (vsf) s.heap s.heap.size (Nat.le_refl _) (Old.start s) Scs hcs0 (own_staI (hsets _ (List.mem_of_getElem? (i := 11) rfl)) (hsets _ (List.mem_of_getElem? (i := 12) rfl))) (own_staI (hsets _ (List.mem_of_getElem? (i := 14) rfl)) (hsets _ (List.mem_of_getElem? (i := 15) rfl))) (own_staI (hsets _ (List.mem_of_getElem? (i := 17) rfl)) (hsets _ (List.mem_of_getElem? (i := 18) rfl))) Ssf rsf (hsets _ (List.mem_of_getElem? (i := 2) rfl)) (hcalls.1 ("com/example/tallysieve/tallysieve/KeyIndexTagPinLaw", 16) (by simp [consts_1])) (Nat.le_refl _) p e ha hc hk s m _ below hf ((Spec.applies_iff_loose hf).mp happ).1 ⟨rfl, State.Warmed39.refl s, rfl, IB.start⟩ trivial
  exact ⟨n, _, h1, h2, h3, hpost _ _ _ _ _ _ ⟨Cond.after_iff.mpr rfl, Cond.after_iff.mpr (eq_i res_at (Term.int_eval (1)) rfl), trivial⟩ ⟨hq.1, hq.2.1, hq.2.2.1, (hq.2.2.2.sift fun y hy => Or.inr (N y hy)).mono (by decide) (by decide)⟩⟩
theorem main_1_1 : Claimed_1_1 := comes_1 fun _ _ _ _ _ _ h hF => ⟨h.1, hF⟩
theorem main_1_2 : Claimed_1_2 := comes_1 fun _ _ _ _ _ _ h hF => ⟨h.2.1, hF⟩
end Jvm.Pilot.@@N@@
namespace Jvm.Pilot.@@N@@
open Jvm Jvm.ClassFile Sem Op Lib Jvm.Free Jvm.Stand Jvm.Pilot.@@N@@.Jvm.D
/-! MADE BY PROGRAM (witnessworld.py) out of the Statement's table words and the real class files: 20 classes; the members and pool entries that the words name. The judged class is class 1, her method 1. -/
namespace start1
open Jvm.ClassFile
def u (s : String) : CpInfo := .utf8 (stringToUtf16 s)
/-- a pool by its gaps: so many unusable entries, then the entry; so many at the end -/
def gap : Nat → List CpInfo → List CpInfo
  | 0, r => r
  | n + 1, r => .unusable :: gap n r
def poolList (es : List (Nat × CpInfo)) (last : Nat) : List CpInfo := es.foldr (fun e r => gap e.1 (e.2 :: r)) (gap last [])
def pool (es : List (Nat × CpInfo)) (last : Nat) : Array CpInfo := ⟨poolList es last⟩
def fileOf (pool : Array CpInfo) (this : Nat) (attrs : Array Attribute := #[]) (ms : Array MethodInfo := #[]) (fl : Nat := 33) (sup : Nat := 0) (ifs : Array Nat := #[]) (fds : Array FieldInfo := #[]) : ClassFile where
  minorVersion := 0
  majorVersion := 65
  constantPool := pool
  accessFlags := fl
  thisClass := this
  superClass := sup
  interfaces := ifs
  fields := fds
  methods := ms
  attributes := attrs
def plain (name : String) (sup : Option ClassId) : Class where
  name := name
  kind := .ordinary
  loader := none
  accessFlags := 33
  super := sup
  interfaces := #[]
  cf := none
  fields := #[]
  methods := #[]
  instanceTypes := #[]
  staticTypes := #[]
  resolved := #[]
  callSites := []
  init := .initialized
  statics := none
  mirror := none

def pool0 : Array CpInfo := pool [(5, u "<init>"), (0, u "()V"), (1, .class_ 10), (1, u "java/lang/Object")] 113

def k0c0 : Code := { maxStack := 0, maxLocals := 1, code := object_method_1_code, exceptionTable := #[], attributes := #[] }
def k0m0 : Method := { name := "<init>", desc := "()V", sig := { parameters := [], returnType := none }, accessFlags := 1, code := some k0c0 }
/-- java/lang/Object -/
def k0 : Class := { plain "java/lang/Object" none with
  accessFlags := 33
  interfaces := #[]
  cf := some (fileOf pool0 8 #[] #[{ accessFlags := 1, nameIndex := 5, descriptorIndex := 6, attributes := #[] }] 33 0 #[] #[])
  fields := #[]
  methods := #[k0m0]
  instanceTypes := #[]
  staticTypes := #[]
  resolved := Array.replicate 124 none
  statics := none }

def pool1 : Array CpInfo := pool [(2, .class_ 4), (1, u "java/lang/Object"), (0, u "<init>"), (0, u "()V"), (0, .integer 65535), (0, .methodref 9 10), (0, .class_ 11), (0, .nameAndType 12 13), (0, u "com/example/tallysieve/tallysieve/KeyIndexTagPinLaw"), (0, u "str"), (0, u "(ICCCC)Ljava/lang/String;"), (0, .long 11400714819323198485), (1, .string 17), (0, u ""), (0, .methodref 19 20), (0, .class_ 21), (0, .nameAndType 22 23), (0, u "com/example/tallysieve/tallysieve/KeyIndex"), (0, u "tag"), (0, u "(JLjava/lang/String;)I"), (0, .class_ 25), (0, u "java/lang/String"), (0, .methodref 24 27), (0, .nameAndType 5 28), (0, u "([C)V"), (2, u "law"), (0, u "(JIII)Z")] 3

def k1m0 : Method := { name := "<init>", desc := "()V", sig := { parameters := [], returnType := none }, accessFlags := 1, code := none }
def k1c1 : Code := { maxStack := 5, maxLocals := 18, code := code, exceptionTable := #[], attributes := #[] }
def k1m1 : Method := { name := "law", desc := "(JIII)Z", sig := { parameters := [.long, .int, .int, .int], returnType := some .boolean }, accessFlags := 9, code := some k1c1 }
def k1c2 : Code := { maxStack := 6, maxLocals := 5, code := method_3_code, exceptionTable := #[], attributes := #[] }
def k1m2 : Method := { name := "str", desc := "(ICCCC)Ljava/lang/String;", sig := { parameters := [.int, .char, .char, .char, .char], returnType := some (.object "java/lang/String") }, accessFlags := 10, code := some k1c2 }
/-- com/example/tallysieve/tallysieve/KeyIndexTagPinLaw -/
def k1 : Class := { plain "com/example/tallysieve/tallysieve/KeyIndexTagPinLaw" (some 0) with
  accessFlags := 49
  interfaces := #[]
  cf := some (fileOf pool1 9 #[] #[{ accessFlags := 1, nameIndex := 5, descriptorIndex := 6, attributes := #[] }, { accessFlags := 9, nameIndex := 31, descriptorIndex := 32, attributes := #[] }, { accessFlags := 10, nameIndex := 12, descriptorIndex := 13, attributes := #[] }] 49 2 #[] #[])
  fields := #[]
  methods := #[k1m0, k1m1, k1m2]
  instanceTypes := #[]
  staticTypes := #[]
  resolved := Array.replicate 36 none
  statics := none }

def pool2 : Array CpInfo := pool [(1, .class_ 2), (0, u "java/io/Serializable"), (0, .class_ 4), (0, u "java/lang/Object")] 2

/-- java/io/Serializable -/
def k2 : Class := { plain "java/io/Serializable" (some 0) with
  accessFlags := 1537
  interfaces := #[]
  cf := some (fileOf pool2 1 #[] #[] 1537 3 #[] #[])
  fields := #[]
  methods := #[]
  instanceTypes := #[]
  staticTypes := #[]
  resolved := Array.replicate 7 none
  statics := none }

def pool3 : Array CpInfo := pool [(1, .class_ 2), (0, u "java/lang/Comparable"), (0, .class_ 4), (0, u "java/lang/Object")] 7

/-- java/lang/Comparable -/
def k3 : Class := { plain "java/lang/Comparable" (some 0) with
  accessFlags := 1537
  interfaces := #[]
  cf := some (fileOf pool3 1 #[] #[] 1537 3 #[] #[])
  fields := #[]
  methods := #[]
  instanceTypes := #[]
  staticTypes := #[]
  resolved := Array.replicate 12 none
  statics := none }

def pool4 : Array CpInfo := pool [(2, .class_ 4), (1, u "java/lang/CharSequence"), (42, .class_ 48), (0, u "java/lang/CharSequence$1CodePointIterator"), (10, .class_ 60), (0, u "java/lang/CharSequence$1CharIterator"), (5, .class_ 67), (0, u "java/lang/Object")] 63

/-- java/lang/CharSequence -/
def k4 : Class := { plain "java/lang/CharSequence" (some 0) with
  accessFlags := 1537
  interfaces := #[]
  cf := some (fileOf pool4 2 #[.nestMembers #[47, 59]] #[] 1537 66 #[] #[])
  fields := #[]
  methods := #[]
  instanceTypes := #[]
  staticTypes := #[]
  resolved := Array.replicate 131 none
  statics := none }

def pool5 : Array CpInfo := pool [(1, .class_ 2), (0, u "java/lang/constant/Constable"), (0, .class_ 4), (0, u "java/lang/Object")] 6

/-- java/lang/constant/Constable -/
def k5 : Class := { plain "java/lang/constant/Constable" (some 0) with
  accessFlags := 1537
  interfaces := #[]
  cf := some (fileOf pool5 1 #[] #[] 1537 3 #[] #[])
  fields := #[]
  methods := #[]
  instanceTypes := #[]
  staticTypes := #[]
  resolved := Array.replicate 11 none
  statics := none }

def pool6 : Array CpInfo := pool [(1, .class_ 2), (0, u "java/lang/constant/ConstantDesc"), (0, .class_ 4), (0, u "java/lang/Object")] 32

/-- java/lang/constant/ConstantDesc -/
def k6 : Class := { plain "java/lang/constant/ConstantDesc" (some 0) with
  accessFlags := 1537
  interfaces := #[]
  cf := some (fileOf pool6 1 #[] #[] 1537 3 #[] #[])
  fields := #[]
  methods := #[]
  instanceTypes := #[]
  staticTypes := #[]
  resolved := Array.replicate 37 none
  statics := none }

def pool7 : Array CpInfo := pool [(1, .methodref 2 3), (0, .class_ 4), (0, .nameAndType 5 6), (0, u "java/lang/Object"), (0, u "<init>"), (0, u "()V"), (2, .fieldref 10 11), (0, .class_ 12), (0, .nameAndType 13 14), (0, u "java/lang/String"), (0, u "value"), (0, u "[B"), (0, .fieldref 10 16), (0, .nameAndType 17 18), (0, u "coder"), (0, u "B"), (2, u "hash"), (0, u "I"), (2, u "hashIsZero"), (0, u "Z"), (0, .methodref 10 28), (0, .nameAndType 5 29), (0, u "([CIILjava/lang/Void;)V"), (8, .fieldref 10 39), (0, .nameAndType 40 26), (0, u "COMPACT_STRINGS"), (1, .class_ 44), (1, u "java/lang/StringUTF16"), (0, u "compress"), (1, .methodref 42 48), (0, .nameAndType 49 50), (0, u "coderFromArrayLen"), (0, u "([BI)B"), (56, .class_ 109), (1, u "java/lang/StringLatin1"), (32, u "()Z"), (34, .methodref 42 178), (0, .nameAndType 45 179), (0, u "([CII)[B"), (154, u "()I"), (0, .methodref 10 336), (0, .nameAndType 17 337), (0, u "()B"), (25, u "([BI)C"), (27, u "(II)V"), (35, u "(I)C"), (64, .methodref 10 493), (0, .nameAndType 494 142), (0, u "isLatin1"), (0, .methodref 107 496), (0, .nameAndType 497 363), (0, u "charAt"), (0, .methodref 42 496), (2, u "checkIndex"), (5, u "length"), (67, .class_ 576), (0, u "java/lang/CharSequence"), (22, u "CASE_INSENSITIVE_ORDER"), (0, u "Ljava/util/Comparator;"), (409, u "([C)V"), (42, .fieldref 1054 1055), (0, .class_ 1056), (0, .nameAndType 1057 1058), (0, u "jdk/internal/util/Preconditions"), (0, u "SIOOBE_FORMATTER"), (0, u "Ljava/util/function/BiFunction;"), (0, .methodref 1054 1060), (0, .nameAndType 501 1061), (0, u "(IILjava/util/function/BiFunction;)I"), (39, u "serialPersistentFields"), (0, u "[Ljava/io/ObjectStreamField;"), (0, .class_ 1104), (0, u "java/lang/String$CaseInsensitiveComparator"), (1, .class_ 1107), (0, u "java/io/Serializable"), (0, .class_ 1109), (0, u "java/lang/Comparable"), (0, .class_ 1111), (0, u "java/lang/constant/Constable"), (0, .class_ 1113), (0, u "java/lang/constant/ConstantDesc"), (2, u "serialVersionUID"), (0, u "J"), (3, u "REPL"), (0, u "C"), (2, u "LATIN1"), (1, u "UTF16")] 323

def k7m0 : Method := { name := "<init>", desc := "()V", sig := { parameters := [], returnType := none }, accessFlags := 1, code := none }
def k7c1 : Code := { maxStack := 5, maxLocals := 2, code := jdk_42_method_3_code, exceptionTable := #[], attributes := #[] }
def k7m1 : Method := { name := "<init>", desc := "([C)V", sig := { parameters := [(.array .char)], returnType := none }, accessFlags := 1, code := some k7c1 }
def k7c2 : Code := { maxStack := 2, maxLocals := 1, code := jdk_42_method_54_code, exceptionTable := #[], attributes := #[] }
def k7m2 : Method := { name := "length", desc := "()I", sig := { parameters := [], returnType := some .int }, accessFlags := 1, code := some k7c2 }
def k7c3 : Code := { maxStack := 2, maxLocals := 2, code := jdk_42_method_56_code, exceptionTable := #[], attributes := #[] }
def k7m3 : Method := { name := "charAt", desc := "(I)C", sig := { parameters := [.int], returnType := some .char }, accessFlags := 1, code := some k7c3 }
def k7c4 : Code := { maxStack := 4, maxLocals := 6, code := jdk_42_method_149_code, exceptionTable := #[], attributes := #[] }
def k7m4 : Method := { name := "<init>", desc := "([CIILjava/lang/Void;)V", sig := { parameters := [(.array .char), .int, .int, (.object "java/lang/Void")], returnType := none }, accessFlags := 2, code := some k7c4 }
def k7c5 : Code := { maxStack := 1, maxLocals := 1, code := jdk_42_method_152_code, exceptionTable := #[], attributes := #[] }
def k7m5 : Method := { name := "coder", desc := "()B", sig := { parameters := [], returnType := some .byte }, accessFlags := 0, code := some k7c5 }
def k7c6 : Code := { maxStack := 1, maxLocals := 1, code := jdk_42_method_154_code, exceptionTable := #[], attributes := #[] }
def k7m6 : Method := { name := "isLatin1", desc := "()Z", sig := { parameters := [], returnType := some .boolean }, accessFlags := 0, code := some k7c6 }
def k7c7 : Code := { maxStack := 3, maxLocals := 2, code := jdk_42_method_155_code, exceptionTable := #[], attributes := #[] }
def k7m7 : Method := { name := "checkIndex", desc := "(II)V", sig := { parameters := [.int, .int], returnType := none }, accessFlags := 8, code := some k7c7 }
/-- java/lang/String -/
def k7 : Class := { plain "java/lang/String" (some 0) with
  accessFlags := 49
  interfaces := #[2, 3, 4, 5, 6]
  cf := some (fileOf pool7 10 #[.nestMembers #[1103]] #[{ accessFlags := 1, nameIndex := 5, descriptorIndex := 6, attributes := #[] }, { accessFlags := 1, nameIndex := 5, descriptorIndex := 1010, attributes := #[] }, { accessFlags := 1, nameIndex := 507, descriptorIndex := 334, attributes := #[] }, { accessFlags := 1, nameIndex := 497, descriptorIndex := 427, attributes := #[] }, { accessFlags := 2, nameIndex := 5, descriptorIndex := 29, attributes := #[] }, { accessFlags := 0, nameIndex := 17, descriptorIndex := 337, attributes := #[] }, { accessFlags := 0, nameIndex := 494, descriptorIndex := 142, attributes := #[] }, { accessFlags := 8, nameIndex := 501, descriptorIndex := 391, attributes := #[] }] 49 2 #[1106, 1108, 575, 1110, 1112] #[{ accessFlags := 18, nameIndex := 13, descriptorIndex := 14, attributes := #[] }, { accessFlags := 18, nameIndex := 17, descriptorIndex := 18, attributes := #[] }, { accessFlags := 2, nameIndex := 21, descriptorIndex := 22, attributes := #[] }, { accessFlags := 2, nameIndex := 25, descriptorIndex := 26, attributes := #[] }, { accessFlags := 26, nameIndex := 1116, descriptorIndex := 1117, attributes := #[] }, { accessFlags := 24, nameIndex := 40, descriptorIndex := 26, attributes := #[] }, { accessFlags := 26, nameIndex := 1101, descriptorIndex := 1102, attributes := #[] }, { accessFlags := 26, nameIndex := 1121, descriptorIndex := 1122, attributes := #[] }, { accessFlags := 25, nameIndex := 599, descriptorIndex := 600, attributes := #[] }, { accessFlags := 24, nameIndex := 1125, descriptorIndex := 18, attributes := #[] }, { accessFlags := 24, nameIndex := 1127, descriptorIndex := 18, attributes := #[] }])
  fields := #[{ name := "value", type := (.array .byte), accessFlags := 18, slot := 0, constantValue := 0 }, { name := "coder", type := .byte, accessFlags := 18, slot := 1, constantValue := 0 }, { name := "hash", type := .int, accessFlags := 2, slot := 2, constantValue := 0 }, { name := "hashIsZero", type := .boolean, accessFlags := 2, slot := 3, constantValue := 0 }, { name := "serialVersionUID", type := .long, accessFlags := 26, slot := 0, constantValue := 0 }, { name := "COMPACT_STRINGS", type := .boolean, accessFlags := 24, slot := 1, constantValue := 0 }, { name := "serialPersistentFields", type := (.array (.object "java/io/ObjectStreamField")), accessFlags := 26, slot := 2, constantValue := 0 }, { name := "REPL", type := .char, accessFlags := 26, slot := 3, constantValue := 0 }, { name := "CASE_INSENSITIVE_ORDER", type := (.object "java/util/Comparator"), accessFlags := 25, slot := 4, constantValue := 0 }, { name := "LATIN1", type := .byte, accessFlags := 24, slot := 5, constantValue := 0 }, { name := "UTF16", type := .byte, accessFlags := 24, slot := 6, constantValue := 0 }]
  methods := #[k7m0, k7m1, k7m2, k7m3, k7m4, k7m5, k7m6, k7m7]
  instanceTypes := #[(.array .byte), .byte, .int, .boolean]
  staticTypes := #[.long, .boolean, (.array (.object "java/io/ObjectStreamField")), .char, (.object "java/util/Comparator"), .byte, .byte]
  resolved := Array.replicate 1451 none
  statics := some 0 }

def pool8 : Array CpInfo := pool [(3, .class_ 4), (0, u "java/lang/String"), (1, .class_ 8), (1, u "java/lang/Object"), (0, u "<init>"), (0, u "()V"), (0, .methodref 12 13), (0, .class_ 14), (0, .nameAndType 15 16), (0, u "java/lang/StringUTF16"), (0, u "newBytesLength"), (0, u "(I)I"), (3, .integer 1073741823), (23, .fieldref 12 45), (0, .nameAndType 46 47), (0, u "$assertionsDisabled"), (0, u "Z"), (0, .methodref 12 49), (0, .nameAndType 50 51), (0, u "length"), (0, u "([B)I"), (7, .fieldref 12 60), (0, .nameAndType 61 62), (0, u "HI_BYTE_SHIFT"), (0, u "I"), (0, .fieldref 12 64), (0, .nameAndType 65 62), (0, u "LO_BYTE_SHIFT"), (1, .methodref 12 68), (0, .nameAndType 69 70), (0, u "checkIndex"), (0, u "(I[B)V"), (0, .methodref 12 72), (0, .nameAndType 73 74), (0, u "getChar"), (0, u "([BI)C"), (32, .methodref 12 108), (0, .nameAndType 109 110), (0, u "newBytesFor"), (0, u "(I)[B"), (0, .methodref 12 112), (0, .nameAndType 113 114), (0, u "putChar"), (0, u "([BII)V"), (0, .methodref 12 116), (0, .nameAndType 117 118), (0, u "compress"), (0, u "([CI[BII)I"), (0, .methodref 12 120), (0, .nameAndType 121 122), (0, u "toBytes"), (0, u "([CII)[B"), (138, u "coderFromArrayLen"), (0, u "([BI)B"), (106, .class_ 371), (1, u "java/lang/StringUTF16$LinesSpliterator"), (20, u "charAt"), (21, .methodref 3 415), (0, .nameAndType 69 416), (0, u "(II)V"), (13, u "MAX_LENGTH"), (196, .class_ 628), (0, u "java/lang/StringUTF16$CodePointsSpliterator"), (0, .class_ 630), (0, u "java/lang/StringUTF16$CharsSpliterator")] 4

def k8m0 : Method := { name := "<init>", desc := "()V", sig := { parameters := [], returnType := none }, accessFlags := 0, code := none }
def k8c1 : Code := { maxStack := 1, maxLocals := 1, code := jdk_52_method_2_code, exceptionTable := #[], attributes := #[] }
def k8m1 : Method := { name := "newBytesFor", desc := "(I)[B", sig := { parameters := [.int], returnType := some (.array .byte) }, accessFlags := 9, code := some k8c1 }
def k8c2 : Code := { maxStack := 4, maxLocals := 1, code := jdk_52_method_3_code, exceptionTable := #[], attributes := #[] }
def k8m2 : Method := { name := "newBytesLength", desc := "(I)I", sig := { parameters := [.int], returnType := some .int }, accessFlags := 9, code := some k8c2 }
def k8c3 : Code := { maxStack := 4, maxLocals := 3, code := jdk_52_method_4_code, exceptionTable := #[], attributes := #[] }
def k8m3 : Method := { name := "putChar", desc := "([BII)V", sig := { parameters := [(.array .byte), .int, .int], returnType := none }, accessFlags := 8, code := some k8c3 }
def k8c4 : Code := { maxStack := 3, maxLocals := 2, code := jdk_52_method_5_code, exceptionTable := #[], attributes := #[] }
def k8m4 : Method := { name := "getChar", desc := "([BI)C", sig := { parameters := [(.array .byte), .int], returnType := some .char }, accessFlags := 8, code := some k8c4 }
def k8c5 : Code := { maxStack := 2, maxLocals := 1, code := jdk_52_method_6_code, exceptionTable := #[], attributes := #[] }
def k8m5 : Method := { name := "length", desc := "([B)I", sig := { parameters := [(.array .byte)], returnType := some .int }, accessFlags := 9, code := some k8c5 }
def k8c6 : Code := { maxStack := 4, maxLocals := 5, code := jdk_52_method_14_code, exceptionTable := #[], attributes := #[] }
def k8m6 : Method := { name := "toBytes", desc := "([CII)[B", sig := { parameters := [(.array .char), .int, .int], returnType := some (.array .byte) }, accessFlags := 9, code := some k8c6 }
def k8c7 : Code := { maxStack := 2, maxLocals := 2, code := jdk_52_method_15_code, exceptionTable := #[], attributes := #[] }
def k8m7 : Method := { name := "coderFromArrayLen", desc := "([BI)B", sig := { parameters := [(.array .byte), .int], returnType := some .byte }, accessFlags := 8, code := some k8c7 }
def k8c8 : Code := { maxStack := 5, maxLocals := 6, code := jdk_52_method_16_code, exceptionTable := #[], attributes := #[] }
def k8m8 : Method := { name := "compress", desc := "([CII)[B", sig := { parameters := [(.array .char), .int, .int], returnType := some (.array .byte) }, accessFlags := 9, code := some k8c8 }
def k8c9 : Code := { maxStack := 3, maxLocals := 7, code := jdk_52_method_21_code, exceptionTable := #[], attributes := #[] }
def k8m9 : Method := { name := "compress", desc := "([CI[BII)I", sig := { parameters := [(.array .char), .int, (.array .byte), .int, .int], returnType := some .int }, accessFlags := 9, code := some k8c9 }
def k8c10 : Code := { maxStack := 2, maxLocals := 2, code := jdk_52_method_83_code, exceptionTable := #[], attributes := #[] }
def k8m10 : Method := { name := "charAt", desc := "([BI)C", sig := { parameters := [(.array .byte), .int], returnType := some .char }, accessFlags := 9, code := some k8c10 }
def k8c11 : Code := { maxStack := 2, maxLocals := 2, code := jdk_52_method_91_code, exceptionTable := #[], attributes := #[] }
def k8m11 : Method := { name := "checkIndex", desc := "(I[B)V", sig := { parameters := [.int, (.array .byte)], returnType := none }, accessFlags := 9, code := some k8c11 }
/-- java/lang/StringUTF16 -/
def k8 : Class := { plain "java/lang/StringUTF16" (some 0) with
  accessFlags := 48
  interfaces := #[]
  cf := some (fileOf pool8 12 #[.nestMembers #[627, 629, 369]] #[{ accessFlags := 0, nameIndex := 9, descriptorIndex := 10, attributes := #[] }, { accessFlags := 9, nameIndex := 109, descriptorIndex := 110, attributes := #[] }, { accessFlags := 9, nameIndex := 15, descriptorIndex := 16, attributes := #[] }, { accessFlags := 8, nameIndex := 113, descriptorIndex := 114, attributes := #[] }, { accessFlags := 8, nameIndex := 73, descriptorIndex := 74, attributes := #[] }, { accessFlags := 9, nameIndex := 50, descriptorIndex := 51, attributes := #[] }, { accessFlags := 9, nameIndex := 121, descriptorIndex := 122, attributes := #[] }, { accessFlags := 8, nameIndex := 261, descriptorIndex := 262, attributes := #[] }, { accessFlags := 9, nameIndex := 117, descriptorIndex := 122, attributes := #[] }, { accessFlags := 9, nameIndex := 117, descriptorIndex := 118, attributes := #[] }, { accessFlags := 9, nameIndex := 392, descriptorIndex := 74, attributes := #[] }, { accessFlags := 9, nameIndex := 69, descriptorIndex := 70, attributes := #[] }] 48 6 #[] #[{ accessFlags := 26, nameIndex := 61, descriptorIndex := 62, attributes := #[] }, { accessFlags := 26, nameIndex := 65, descriptorIndex := 62, attributes := #[] }, { accessFlags := 24, nameIndex := 430, descriptorIndex := 62, attributes := #[] }, { accessFlags := 4120, nameIndex := 46, descriptorIndex := 47, attributes := #[] }])
  fields := #[{ name := "HI_BYTE_SHIFT", type := .int, accessFlags := 26, slot := 0, constantValue := 0 }, { name := "LO_BYTE_SHIFT", type := .int, accessFlags := 26, slot := 1, constantValue := 0 }, { name := "MAX_LENGTH", type := .int, accessFlags := 24, slot := 2, constantValue := 0 }, { name := "$assertionsDisabled", type := .boolean, accessFlags := 4120, slot := 3, constantValue := 0 }]
  methods := #[k8m0, k8m1, k8m2, k8m3, k8m4, k8m5, k8m6, k8m7, k8m8, k8m9, k8m10, k8m11]
  instanceTypes := #[]
  staticTypes := #[.int, .int, .int, .boolean]
  resolved := Array.replicate 635 none
  statics := some 1 }

def pool9 : Array CpInfo := pool [(12, .class_ 14), (1, u "com/example/tallysieve/tallysieve/KeyIndex"), (0, u "<init>"), (2, .class_ 20), (1, u "java/lang/Object"), (0, u "()V"), (2, u "seed"), (0, u "J"), (10, u "numbers"), (0, u "[I"), (16, u "size"), (0, u "I"), (2, u "tags"), (11, u "tag"), (0, u "(JLjava/lang/String;)I"), (7, u "shift"), (2, u "keys"), (0, u "[Ljava/lang/String;"), (1, .class_ 87), (1, u "java/lang/String"), (2, .methodref 85 91), (0, .nameAndType 92 93), (0, u "length"), (0, u "()I"), (0, .methodref 85 95), (0, .nameAndType 96 97), (0, u "charAt"), (0, u "(I)C"), (0, .long 11400714819323198485), (7, u "ABSENT"), (2, u "MAX_CAPACITY"), (0, u "SPREAD")] 28

def k9m0 : Method := { name := "<init>", desc := "()V", sig := { parameters := [], returnType := none }, accessFlags := 0, code := none }
def k9c1 : Code := { maxStack := 4, maxLocals := 6, code := prog_3_method_7_code, exceptionTable := #[], attributes := #[] }
def k9m1 : Method := { name := "tag", desc := "(JLjava/lang/String;)I", sig := { parameters := [.long, (.object "java/lang/String")], returnType := some .int }, accessFlags := 8, code := some k9c1 }
/-- com/example/tallysieve/tallysieve/KeyIndex -/
def k9 : Class := { plain "com/example/tallysieve/tallysieve/KeyIndex" (some 0) with
  accessFlags := 48
  interfaces := #[]
  cf := some (fileOf pool9 12 #[] #[{ accessFlags := 0, nameIndex := 15, descriptorIndex := 21, attributes := #[] }, { accessFlags := 8, nameIndex := 70, descriptorIndex := 71, attributes := #[] }] 48 18 #[] #[{ accessFlags := 24, nameIndex := 106, descriptorIndex := 55, attributes := #[] }, { accessFlags := 26, nameIndex := 109, descriptorIndex := 55, attributes := #[] }, { accessFlags := 26, nameIndex := 110, descriptorIndex := 25, attributes := #[] }, { accessFlags := 18, nameIndex := 24, descriptorIndex := 25, attributes := #[] }, { accessFlags := 2, nameIndex := 58, descriptorIndex := 37, attributes := #[] }, { accessFlags := 2, nameIndex := 82, descriptorIndex := 83, attributes := #[] }, { accessFlags := 2, nameIndex := 36, descriptorIndex := 37, attributes := #[] }, { accessFlags := 2, nameIndex := 79, descriptorIndex := 55, attributes := #[] }, { accessFlags := 2, nameIndex := 54, descriptorIndex := 55, attributes := #[] }])
  fields := #[{ name := "ABSENT", type := .int, accessFlags := 24, slot := 0, constantValue := 0 }, { name := "MAX_CAPACITY", type := .int, accessFlags := 26, slot := 1, constantValue := 0 }, { name := "SPREAD", type := .long, accessFlags := 26, slot := 2, constantValue := 0 }, { name := "seed", type := .long, accessFlags := 18, slot := 0, constantValue := 0 }, { name := "tags", type := (.array .int), accessFlags := 2, slot := 1, constantValue := 0 }, { name := "keys", type := (.array (.object "java/lang/String")), accessFlags := 2, slot := 2, constantValue := 0 }, { name := "numbers", type := (.array .int), accessFlags := 2, slot := 3, constantValue := 0 }, { name := "shift", type := .int, accessFlags := 2, slot := 4, constantValue := 0 }, { name := "size", type := .int, accessFlags := 2, slot := 5, constantValue := 0 }]
  methods := #[k9m0, k9m1]
  instanceTypes := #[.long, (.array .int), (.array (.object "java/lang/String")), (.array .int), .int, .int]
  staticTypes := #[.int, .int, .long]
  resolved := Array.replicate 139 none
  statics := none }

def pool10 : Array CpInfo := pool [(1, .class_ 2), (0, u "java/lang/String"), (1, .class_ 6), (1, u "java/lang/Object"), (0, u "<init>"), (0, u "()V"), (0, .methodref 1 10), (0, .nameAndType 11 12), (0, u "checkIndex"), (0, u "(II)V"), (1, .class_ 16), (1, u "java/lang/StringLatin1"), (36, u "([BI)C"), (67, u "$assertionsDisabled"), (0, u "Z"), (98, .class_ 223), (1, u "java/lang/StringLatin1$LinesSpliterator"), (28, u "charAt"), (137, .class_ 391), (0, u "java/lang/StringLatin1$CharsSpliterator")] 3

def k10m0 : Method := { name := "<init>", desc := "()V", sig := { parameters := [], returnType := none }, accessFlags := 0, code := none }
def k10c1 : Code := { maxStack := 2, maxLocals := 2, code := jdk_43_method_2_code, exceptionTable := #[], attributes := #[] }
def k10m1 : Method := { name := "charAt", desc := "([BI)C", sig := { parameters := [(.array .byte), .int], returnType := some .char }, accessFlags := 9, code := some k10c1 }
/-- java/lang/StringLatin1 -/
def k10 : Class := { plain "java/lang/StringLatin1" (some 0) with
  accessFlags := 48
  interfaces := #[]
  cf := some (fileOf pool10 14 #[.nestMembers #[390, 221]] #[{ accessFlags := 0, nameIndex := 7, descriptorIndex := 8, attributes := #[] }, { accessFlags := 9, nameIndex := 252, descriptorIndex := 53, attributes := #[] }] 48 4 #[] #[{ accessFlags := 4120, nameIndex := 121, descriptorIndex := 122, attributes := #[] }])
  fields := #[{ name := "$assertionsDisabled", type := .boolean, accessFlags := 4120, slot := 0, constantValue := 0 }]
  methods := #[k10m0, k10m1]
  instanceTypes := #[]
  staticTypes := #[.boolean]
  resolved := Array.replicate 395 none
  statics := none }

def pool11 : Array CpInfo := pool [(2, .class_ 4), (1, u "java/lang/Object"), (0, u "<init>"), (0, u "()V"), (17, .class_ 26), (1, u "jdk/internal/util/Preconditions"), (6, u "checkIndex"), (21, .class_ 56), (0, u "jdk/internal/util/Preconditions$4"), (57, .class_ 115), (0, u "jdk/internal/util/Preconditions$1"), (7, u "SIOOBE_FORMATTER"), (0, u "Ljava/util/function/BiFunction;"), (0, .class_ 126), (0, u "jdk/internal/util/Preconditions$2"), (3, u "AIOOBE_FORMATTER"), (0, .class_ 132), (0, u "jdk/internal/util/Preconditions$3"), (3, u "IOOBE_FORMATTER"), (41, u "(IILjava/util/function/BiFunction;)I")] 15

def k11m0 : Method := { name := "<init>", desc := "()V", sig := { parameters := [], returnType := none }, accessFlags := 1, code := none }
def k11c1 : Code := { maxStack := 3, maxLocals := 3, code := jdk_41_method_11_code, exceptionTable := #[], attributes := #[] }
def k11m1 : Method := { name := "checkIndex", desc := "(IILjava/util/function/BiFunction;)I", sig := { parameters := [.int, .int, (.object "java/util/function/BiFunction")], returnType := some .int }, accessFlags := 9, code := some k11c1 }
/-- jdk/internal/util/Preconditions -/
def k11 : Class := { plain "jdk/internal/util/Preconditions" (some 0) with
  accessFlags := 33
  interfaces := #[]
  cf := some (fileOf pool11 24 #[.nestMembers #[55, 131, 125, 114]] #[{ accessFlags := 1, nameIndex := 5, descriptorIndex := 6, attributes := #[] }, { accessFlags := 9, nameIndex := 33, descriptorIndex := 178, attributes := #[] }] 33 2 #[] #[{ accessFlags := 25, nameIndex := 123, descriptorIndex := 124, attributes := #[] }, { accessFlags := 25, nameIndex := 130, descriptorIndex := 124, attributes := #[] }, { accessFlags := 25, nameIndex := 136, descriptorIndex := 124, attributes := #[] }])
  fields := #[{ name := "SIOOBE_FORMATTER", type := (.object "java/util/function/BiFunction"), accessFlags := 25, slot := 0, constantValue := 0 }, { name := "AIOOBE_FORMATTER", type := (.object "java/util/function/BiFunction"), accessFlags := 25, slot := 1, constantValue := 0 }, { name := "IOOBE_FORMATTER", type := (.object "java/util/function/BiFunction"), accessFlags := 25, slot := 2, constantValue := 0 }]
  methods := #[k11m0, k11m1]
  instanceTypes := #[]
  staticTypes := #[(.object "java/util/function/BiFunction"), (.object "java/util/function/BiFunction"), (.object "java/util/function/BiFunction")]
  resolved := Array.replicate 194 none
  statics := some 2 }

def pool12 : Array CpInfo := pool [(9, u "<init>"), (6, .class_ 18), (1, u "java/lang/Object"), (0, u "()V"), (1, .class_ 23), (1, u "jdk/internal/util/ArraysSupport"), (0, u "LOG2_ARRAY_LONG_INDEX_SCALE"), (0, u "I"), (2, u "U"), (0, u "Ljdk/internal/misc/Unsafe;"), (8, u "BIG_ENDIAN"), (0, u "Z"), (8, u "LOG2_BYTE_BIT_SIZE"), (4, u "LOG2_ARRAY_INT_INDEX_SCALE"), (54, u "JLA"), (0, u "Ljdk/internal/access/JavaLangAccess;"), (11, u "LOG2_ARRAY_BOOLEAN_INDEX_SCALE"), (9, u "LOG2_ARRAY_BYTE_INDEX_SCALE"), (5, u "LOG2_ARRAY_CHAR_INDEX_SCALE"), (5, u "LOG2_ARRAY_SHORT_INDEX_SCALE"), (18, u "LOG2_ARRAY_FLOAT_INDEX_SCALE"), (24, u "LOG2_ARRAY_DOUBLE_INDEX_SCALE"), (89, u "T_BOOLEAN"), (2, u "T_CHAR"), (1, u "T_FLOAT"), (1, u "T_DOUBLE"), (1, u "T_BYTE"), (1, u "T_SHORT"), (1, u "T_INT"), (1, u "T_LONG"), (1, u "SOFT_MAX_ARRAY_LENGTH")] 83

def k12m0 : Method := { name := "<init>", desc := "()V", sig := { parameters := [], returnType := none }, accessFlags := 2, code := none }
/-- jdk/internal/util/ArraysSupport -/
def k12 : Class := { plain "jdk/internal/util/ArraysSupport" (some 0) with
  accessFlags := 33
  interfaces := #[]
  cf := some (fileOf pool12 21 #[] #[{ accessFlags := 2, nameIndex := 9, descriptorIndex := 19, attributes := #[] }] 33 16 #[] #[{ accessFlags := 24, nameIndex := 28, descriptorIndex := 29, attributes := #[] }, { accessFlags := 26, nameIndex := 38, descriptorIndex := 39, attributes := #[] }, { accessFlags := 25, nameIndex := 121, descriptorIndex := 25, attributes := #[] }, { accessFlags := 25, nameIndex := 131, descriptorIndex := 25, attributes := #[] }, { accessFlags := 25, nameIndex := 137, descriptorIndex := 25, attributes := #[] }, { accessFlags := 25, nameIndex := 143, descriptorIndex := 25, attributes := #[] }, { accessFlags := 25, nameIndex := 53, descriptorIndex := 25, attributes := #[] }, { accessFlags := 25, nameIndex := 24, descriptorIndex := 25, attributes := #[] }, { accessFlags := 25, nameIndex := 162, descriptorIndex := 25, attributes := #[] }, { accessFlags := 25, nameIndex := 187, descriptorIndex := 25, attributes := #[] }, { accessFlags := 26, nameIndex := 48, descriptorIndex := 25, attributes := #[] }, { accessFlags := 25, nameIndex := 277, descriptorIndex := 25, attributes := #[] }, { accessFlags := 25, nameIndex := 280, descriptorIndex := 25, attributes := #[] }, { accessFlags := 25, nameIndex := 282, descriptorIndex := 25, attributes := #[] }, { accessFlags := 25, nameIndex := 284, descriptorIndex := 25, attributes := #[] }, { accessFlags := 25, nameIndex := 286, descriptorIndex := 25, attributes := #[] }, { accessFlags := 25, nameIndex := 288, descriptorIndex := 25, attributes := #[] }, { accessFlags := 25, nameIndex := 290, descriptorIndex := 25, attributes := #[] }, { accessFlags := 25, nameIndex := 292, descriptorIndex := 25, attributes := #[] }, { accessFlags := 26, nameIndex := 108, descriptorIndex := 109, attributes := #[] }, { accessFlags := 25, nameIndex := 294, descriptorIndex := 25, attributes := #[] }])
  fields := #[{ name := "U", type := (.object "jdk/internal/misc/Unsafe"), accessFlags := 24, slot := 0, constantValue := 0 }, { name := "BIG_ENDIAN", type := .boolean, accessFlags := 26, slot := 1, constantValue := 0 }, { name := "LOG2_ARRAY_BOOLEAN_INDEX_SCALE", type := .int, accessFlags := 25, slot := 2, constantValue := 0 }, { name := "LOG2_ARRAY_BYTE_INDEX_SCALE", type := .int, accessFlags := 25, slot := 3, constantValue := 0 }, { name := "LOG2_ARRAY_CHAR_INDEX_SCALE", type := .int, accessFlags := 25, slot := 4, constantValue := 0 }, { name := "LOG2_ARRAY_SHORT_INDEX_SCALE", type := .int, accessFlags := 25, slot := 5, constantValue := 0 }, { name := "LOG2_ARRAY_INT_INDEX_SCALE", type := .int, accessFlags := 25, slot := 6, constantValue := 0 }, { name := "LOG2_ARRAY_LONG_INDEX_SCALE", type := .int, accessFlags := 25, slot := 7, constantValue := 0 }, { name := "LOG2_ARRAY_FLOAT_INDEX_SCALE", type := .int, accessFlags := 25, slot := 8, constantValue := 0 }, { name := "LOG2_ARRAY_DOUBLE_INDEX_SCALE", type := .int, accessFlags := 25, slot := 9, constantValue := 0 }, { name := "LOG2_BYTE_BIT_SIZE", type := .int, accessFlags := 26, slot := 10, constantValue := 0 }, { name := "T_BOOLEAN", type := .int, accessFlags := 25, slot := 11, constantValue := 0 }, { name := "T_CHAR", type := .int, accessFlags := 25, slot := 12, constantValue := 0 }, { name := "T_FLOAT", type := .int, accessFlags := 25, slot := 13, constantValue := 0 }, { name := "T_DOUBLE", type := .int, accessFlags := 25, slot := 14, constantValue := 0 }, { name := "T_BYTE", type := .int, accessFlags := 25, slot := 15, constantValue := 0 }, { name := "T_SHORT", type := .int, accessFlags := 25, slot := 16, constantValue := 0 }, { name := "T_INT", type := .int, accessFlags := 25, slot := 17, constantValue := 0 }, { name := "T_LONG", type := .int, accessFlags := 25, slot := 18, constantValue := 0 }, { name := "JLA", type := (.object "jdk/internal/access/JavaLangAccess"), accessFlags := 26, slot := 19, constantValue := 0 }, { name := "SOFT_MAX_ARRAY_LENGTH", type := .int, accessFlags := 25, slot := 20, constantValue := 0 }]
  methods := #[k12m0]
  instanceTypes := #[]
  staticTypes := #[(.object "jdk/internal/misc/Unsafe"), .boolean, .int, .int, .int, .int, .int, .int, .int, .int, .int, .int, .int, .int, .int, .int, .int, .int, .int, (.object "jdk/internal/access/JavaLangAccess"), .int]
  resolved := Array.replicate 378 none
  statics := none }

def pool13 : Array CpInfo := pool [(1, u "java/lang/Cloneable"), (0, .class_ 1), (0, u "java/lang/Object"), (0, .class_ 3)] 3

/-- java/lang/Cloneable -/
def k13 : Class := { plain "java/lang/Cloneable" (some 0) with
  accessFlags := 1537
  interfaces := #[]
  cf := some (fileOf pool13 2 #[] #[] 1537 4 #[] #[])
  fields := #[]
  methods := #[]
  instanceTypes := #[]
  staticTypes := #[]
  resolved := Array.replicate 8 none
  statics := none }

/-- the primitive byte -/
def k14 : Class := { plain "byte" none with kind := .primitive 'B', accessFlags := 0x411 }
/-- [B -/
def k15 : Class := { plain "[B" (some 0) with kind := .array 14 .byte, interfaces := #[13, 2], accessFlags := 1041 }

/-- the primitive char -/
def k16 : Class := { plain "char" none with kind := .primitive 'C', accessFlags := 0x411 }
/-- [C -/
def k17 : Class := { plain "[C" (some 0) with kind := .array 16 .char, interfaces := #[13, 2], accessFlags := 1041 }

/-- the primitive int -/
def k18 : Class := { plain "int" none with kind := .primitive 'I', accessFlags := 0x411 }
/-- [I -/
def k19 : Class := { plain "[I" (some 0) with kind := .array 18 .int, interfaces := #[13, 2], accessFlags := 1041 }

def heap : Heap := #[{ cls := 7, slots := #[.long 0, .int 1, .null, .int 0, .null, .int 0, .int 0], vm := .statics 7 },
  { cls := 8, slots := #[.int 0, .int 8, .int 0, .int 1], vm := .statics 8 },
  { cls := 11, slots := #[.null, .null, .null], vm := .statics 11 }]
def classes : Array Class := #[k0, k1, k2, k3, k4, k5, k6, k7, k8, k9, k10, k11, k12, k13, k14, k15, k16, k17, k18, k19]
def interned : List (Array UInt16 × Addr) := []
def slotsUsed : Nat := 14
def theMethod : MethodId := ⟨1, 1⟩
def args0 : Array Value := #[.long 5, .int 6, .int 7, .int 2]
def aboutOver (below : List Frame) : State where
  vm := { classes := classes, interned := interned.toArray }
  heap := heap
  slotsUsed := slotsUsed
  threads := #[{ frames := .invoking theMethod args0 :: below }]
def below0 : List Frame := [.native { method := ⟨0, 0⟩, args := #[] }]
def about1 : State := aboutOver below0
def p0 : Program := .bare "" "" ""
def e0 : Env := launch0.env 0 0 0
theorem w_frames : about1.frames = Frame.invoking theMethod args0 :: below0 := rfl
set_option maxRecDepth 65536 in
theorem w_args : argsFit about1.vm theMethod args0 = true := by decide +kernel
set_option maxRecDepth 65536 in
theorem w_heap : heapFits about1 = true := by decide +kernel
set_option maxRecDepth 65536 in
theorem w_runnable : about1.curStatus? = some .runnable := by decide +kernel
set_option maxRecDepth 65536 in
theorem w_alone : about1.alone = true := by decide +kernel
set_option maxRecDepth 65536 in
theorem w_named : about1.methodNamed? x = some theMethod := by decide +kernel
set_option maxRecDepth 65536 in
theorem w_hears : about1.hears theMethod below0 = true := by decide +kernel
set_option maxRecDepth 65536 in
theorem w_ripe : about1.ripe theMethod args0 below0 = true := by decide +kernel
theorem w_running : about1.status = .running := rfl
set_option maxRecDepth 65536 in
theorem w_room : about1.hasRoom e0.platform room_1 = true :=
  launch0.hasRoom_least _ room_1 (by decide +kernel) (by decide +kernel) (by decide +kernel) (by decide +kernel) (by decide +kernel) (by decide +kernel)
theorem allAtoms_all (ts : List Jvm.Cond) (a : Array Jvm.Value) (st : Jvm.State) : (allAtoms ts).before a st = ts.all (fun c => c.before a st) := by
  induction ts with
  | nil => rfl
  | cons c t ih =>
    show (Jvm.Cond.and c (allAtoms t)).before a st = _
    rw [Jvm.Cond.before_and, ih, List.all_cons]
def words1 : List Jvm.Cond := Jvm.Cond.code x code maxLocals ret :: tables_1
/-- a 'code' word, met by the world's own term for the bytes: nothing is compared byte by byte -/
theorem code_word {y : MethodName} {bytes : ByteArray} {mx : Nat} {rt : Option FieldType} {a : Array Value} {s : State} {m : MethodId} {meth : Method} {c : Code} (h1 : s.methodNamed? y = some m) (h2 : s.vm.method? m = some meth) (h3 : meth.code = some c) (h4 : c.code = bytes)
    (h5 : (c.maxLocals == mx && c.exceptionTable.isEmpty && decide (c.maxStack ≤ mostOperands) && decide (meth.sig.returnType = rt) && !meth.locks && decide (parseMethodDescriptor y.desc = some meth.sig)) = true) : (Jvm.Cond.code y bytes mx rt).before a s = true := by
  simp only [Bool.and_eq_true, beq_iff_eq, Bool.not_eq_true', decide_eq_true_eq] at h5
  obtain ⟨⟨⟨⟨⟨g1, g2⟩, g3⟩, g4⟩, g5⟩, g6⟩ := h5
  simp [Cond.before, Cond.holds, Cond.value, h1, h2, h3, h4, g1, g2, g3, g4, g5, g6]
def isCode : Jvm.Cond → Bool
  | .code _ _ _ _ => true
  | _ => false
theorem all_split {L : List Jvm.Cond} {P : Jvm.Cond → Bool} (h1 : L.all (fun c => isCode c || P c) = true) (h2 : ∀ c ∈ L.filter isCode, P c = true) : L.all P = true := by
  refine List.all_eq_true.mpr fun c hc => ?_
  have h := List.all_eq_true.mp h1 c hc
  rcases Bool.eq_false_or_eq_true (isCode c) with hi | hi
  · exact h2 c (List.mem_filter.mpr ⟨hc, hi⟩)
  · simpa [hi] using h
set_option maxRecDepth 65536 in
theorem w_c0 : (Jvm.Cond.code x code maxLocals ret).before args0 about1 = true := code_word (m := ⟨1, 1⟩) (meth := k1m1) (c := k1c1) (by decide +kernel) rfl rfl rfl (by decide +kernel)
set_option maxRecDepth 65536 in
theorem w_c1 : (Jvm.Cond.code ({ cls := "com/example/tallysieve/tallysieve/KeyIndexTagPinLaw", name := "str", desc := "(ICCCC)Ljava/lang/String;" } : Jvm.MethodName) method_3_code (5 : Nat) (Option.some (Jvm.ClassFile.FieldType.object "java/lang/String"))).before args0 about1 = true := code_word (m := ⟨1, 2⟩) (meth := k1m2) (c := k1c2) (by decide +kernel) rfl rfl rfl (by decide +kernel)
set_option maxRecDepth 65536 in
theorem w_c2 : (Jvm.Cond.code ({ cls := "java/lang/String", name := "<init>", desc := "([C)V" } : Jvm.MethodName) jdk_42_method_3_code (2 : Nat) (Option.none : Option Jvm.ClassFile.FieldType)).before args0 about1 = true := code_word (m := ⟨7, 1⟩) (meth := k7m1) (c := k7c1) (by decide +kernel) rfl rfl rfl (by decide +kernel)
set_option maxRecDepth 65536 in
theorem w_c3 : (Jvm.Cond.code ({ cls := "java/lang/String", name := "<init>", desc := "([CIILjava/lang/Void;)V" } : Jvm.MethodName) jdk_42_method_149_code (6 : Nat) (Option.none : Option Jvm.ClassFile.FieldType)).before args0 about1 = true := code_word (m := ⟨7, 4⟩) (meth := k7m4) (c := k7c4) (by decide +kernel) rfl rfl rfl (by decide +kernel)
set_option maxRecDepth 65536 in
theorem w_c4 : (Jvm.Cond.code ({ cls := "java/lang/Object", name := "<init>", desc := "()V" } : Jvm.MethodName) object_method_1_code (1 : Nat) (Option.none : Option Jvm.ClassFile.FieldType)).before args0 about1 = true := code_word (m := ⟨0, 0⟩) (meth := k0m0) (c := k0c0) (by decide +kernel) rfl rfl rfl (by decide +kernel)
set_option maxRecDepth 65536 in
theorem w_c5 : (Jvm.Cond.code ({ cls := "java/lang/StringUTF16", name := "compress", desc := "([CII)[B" } : Jvm.MethodName) jdk_52_method_16_code (6 : Nat) (Option.some (Jvm.ClassFile.FieldType.array Jvm.ClassFile.FieldType.byte))).before args0 about1 = true := code_word (m := ⟨8, 8⟩) (meth := k8m8) (c := k8c8) (by decide +kernel) rfl rfl rfl (by decide +kernel)
set_option maxRecDepth 65536 in
theorem w_c6 : (Jvm.Cond.code ({ cls := "java/lang/StringUTF16", name := "compress", desc := "([CI[BII)I" } : Jvm.MethodName) jdk_52_method_21_code (7 : Nat) (Option.some Jvm.ClassFile.FieldType.int)).before args0 about1 = true := code_word (m := ⟨8, 9⟩) (meth := k8m9) (c := k8c9) (by decide +kernel) rfl rfl rfl (by decide +kernel)
set_option maxRecDepth 65536 in
theorem w_c7 : (Jvm.Cond.code ({ cls := "java/lang/StringUTF16", name := "coderFromArrayLen", desc := "([BI)B" } : Jvm.MethodName) jdk_52_method_15_code (2 : Nat) (Option.some Jvm.ClassFile.FieldType.byte)).before args0 about1 = true := code_word (m := ⟨8, 7⟩) (meth := k8m7) (c := k8c7) (by decide +kernel) rfl rfl rfl (by decide +kernel)
set_option maxRecDepth 65536 in
theorem w_c8 : (Jvm.Cond.code ({ cls := "com/example/tallysieve/tallysieve/KeyIndex", name := "tag", desc := "(JLjava/lang/String;)I" } : Jvm.MethodName) prog_3_method_7_code (6 : Nat) (Option.some Jvm.ClassFile.FieldType.int)).before args0 about1 = true := code_word (m := ⟨9, 1⟩) (meth := k9m1) (c := k9c1) (by decide +kernel) rfl rfl rfl (by decide +kernel)
set_option maxRecDepth 65536 in
theorem w_c9 : (Jvm.Cond.code ({ cls := "java/lang/String", name := "length", desc := "()I" } : Jvm.MethodName) jdk_42_method_54_code (1 : Nat) (Option.some Jvm.ClassFile.FieldType.int)).before args0 about1 = true := code_word (m := ⟨7, 2⟩) (meth := k7m2) (c := k7c2) (by decide +kernel) rfl rfl rfl (by decide +kernel)
set_option maxRecDepth 65536 in
theorem w_c10 : (Jvm.Cond.code ({ cls := "java/lang/String", name := "coder", desc := "()B" } : Jvm.MethodName) jdk_42_method_152_code (1 : Nat) (Option.some Jvm.ClassFile.FieldType.byte)).before args0 about1 = true := code_word (m := ⟨7, 5⟩) (meth := k7m5) (c := k7c5) (by decide +kernel) rfl rfl rfl (by decide +kernel)
set_option maxRecDepth 65536 in
theorem w_c11 : (Jvm.Cond.code ({ cls := "java/lang/String", name := "charAt", desc := "(I)C" } : Jvm.MethodName) jdk_42_method_56_code (2 : Nat) (Option.some Jvm.ClassFile.FieldType.char)).before args0 about1 = true := code_word (m := ⟨7, 3⟩) (meth := k7m3) (c := k7c3) (by decide +kernel) rfl rfl rfl (by decide +kernel)
set_option maxRecDepth 65536 in
theorem w_c12 : (Jvm.Cond.code ({ cls := "java/lang/String", name := "isLatin1", desc := "()Z" } : Jvm.MethodName) jdk_42_method_154_code (1 : Nat) (Option.some Jvm.ClassFile.FieldType.boolean)).before args0 about1 = true := code_word (m := ⟨7, 6⟩) (meth := k7m6) (c := k7c6) (by decide +kernel) rfl rfl rfl (by decide +kernel)
set_option maxRecDepth 65536 in
theorem w_c13 : (Jvm.Cond.code ({ cls := "java/lang/StringLatin1", name := "charAt", desc := "([BI)C" } : Jvm.MethodName) jdk_43_method_2_code (2 : Nat) (Option.some Jvm.ClassFile.FieldType.char)).before args0 about1 = true := code_word (m := ⟨10, 1⟩) (meth := k10m1) (c := k10c1) (by decide +kernel) rfl rfl rfl (by decide +kernel)
set_option maxRecDepth 65536 in
theorem w_c14 : (Jvm.Cond.code ({ cls := "java/lang/String", name := "checkIndex", desc := "(II)V" } : Jvm.MethodName) jdk_42_method_155_code (2 : Nat) (Option.none : Option Jvm.ClassFile.FieldType)).before args0 about1 = true := code_word (m := ⟨7, 7⟩) (meth := k7m7) (c := k7c7) (by decide +kernel) rfl rfl rfl (by decide +kernel)
set_option maxRecDepth 65536 in
theorem w_c15 : (Jvm.Cond.code ({ cls := "jdk/internal/util/Preconditions", name := "checkIndex", desc := "(IILjava/util/function/BiFunction;)I" } : Jvm.MethodName) jdk_41_method_11_code (3 : Nat) (Option.some Jvm.ClassFile.FieldType.int)).before args0 about1 = true := code_word (m := ⟨11, 1⟩) (meth := k11m1) (c := k11c1) (by decide +kernel) rfl rfl rfl (by decide +kernel)
set_option maxRecDepth 65536 in
theorem w_c16 : (Jvm.Cond.code ({ cls := "java/lang/StringUTF16", name := "toBytes", desc := "([CII)[B" } : Jvm.MethodName) jdk_52_method_14_code (5 : Nat) (Option.some (Jvm.ClassFile.FieldType.array Jvm.ClassFile.FieldType.byte))).before args0 about1 = true := code_word (m := ⟨8, 6⟩) (meth := k8m6) (c := k8c6) (by decide +kernel) rfl rfl rfl (by decide +kernel)
set_option maxRecDepth 65536 in
theorem w_c17 : (Jvm.Cond.code ({ cls := "java/lang/StringUTF16", name := "newBytesFor", desc := "(I)[B" } : Jvm.MethodName) jdk_52_method_2_code (1 : Nat) (Option.some (Jvm.ClassFile.FieldType.array Jvm.ClassFile.FieldType.byte))).before args0 about1 = true := code_word (m := ⟨8, 1⟩) (meth := k8m1) (c := k8c1) (by decide +kernel) rfl rfl rfl (by decide +kernel)
set_option maxRecDepth 65536 in
theorem w_c18 : (Jvm.Cond.code ({ cls := "java/lang/StringUTF16", name := "newBytesLength", desc := "(I)I" } : Jvm.MethodName) jdk_52_method_3_code (1 : Nat) (Option.some Jvm.ClassFile.FieldType.int)).before args0 about1 = true := code_word (m := ⟨8, 2⟩) (meth := k8m2) (c := k8c2) (by decide +kernel) rfl rfl rfl (by decide +kernel)
set_option maxRecDepth 65536 in
theorem w_c19 : (Jvm.Cond.code ({ cls := "java/lang/StringUTF16", name := "putChar", desc := "([BII)V" } : Jvm.MethodName) jdk_52_method_4_code (3 : Nat) (Option.none : Option Jvm.ClassFile.FieldType)).before args0 about1 = true := code_word (m := ⟨8, 3⟩) (meth := k8m3) (c := k8c3) (by decide +kernel) rfl rfl rfl (by decide +kernel)
set_option maxRecDepth 65536 in
theorem w_c20 : (Jvm.Cond.code ({ cls := "java/lang/StringUTF16", name := "getChar", desc := "([BI)C" } : Jvm.MethodName) jdk_52_method_5_code (2 : Nat) (Option.some Jvm.ClassFile.FieldType.char)).before args0 about1 = true := code_word (m := ⟨8, 4⟩) (meth := k8m4) (c := k8c4) (by decide +kernel) rfl rfl rfl (by decide +kernel)
set_option maxRecDepth 65536 in
theorem w_c21 : (Jvm.Cond.code ({ cls := "java/lang/StringUTF16", name := "charAt", desc := "([BI)C" } : Jvm.MethodName) jdk_52_method_83_code (2 : Nat) (Option.some Jvm.ClassFile.FieldType.char)).before args0 about1 = true := code_word (m := ⟨8, 10⟩) (meth := k8m10) (c := k8c10) (by decide +kernel) rfl rfl rfl (by decide +kernel)
set_option maxRecDepth 65536 in
theorem w_c22 : (Jvm.Cond.code ({ cls := "java/lang/StringUTF16", name := "checkIndex", desc := "(I[B)V" } : Jvm.MethodName) jdk_52_method_91_code (2 : Nat) (Option.none : Option Jvm.ClassFile.FieldType)).before args0 about1 = true := code_word (m := ⟨8, 11⟩) (meth := k8m11) (c := k8c11) (by decide +kernel) rfl rfl rfl (by decide +kernel)
set_option maxRecDepth 65536 in
theorem w_c23 : (Jvm.Cond.code ({ cls := "java/lang/StringUTF16", name := "length", desc := "([B)I" } : Jvm.MethodName) jdk_52_method_6_code (1 : Nat) (Option.some Jvm.ClassFile.FieldType.int)).before args0 about1 = true := code_word (m := ⟨8, 5⟩) (meth := k8m5) (c := k8c5) (by decide +kernel) rfl rfl rfl (by decide +kernel)
def codes1 : List Jvm.Cond := [Jvm.Cond.code x code maxLocals ret, Jvm.Cond.code ({ cls := "com/example/tallysieve/tallysieve/KeyIndexTagPinLaw", name := "str", desc := "(ICCCC)Ljava/lang/String;" } : Jvm.MethodName) method_3_code (5 : Nat) (Option.some (Jvm.ClassFile.FieldType.object "java/lang/String")), Jvm.Cond.code ({ cls := "java/lang/String", name := "<init>", desc := "([C)V" } : Jvm.MethodName) jdk_42_method_3_code (2 : Nat) (Option.none : Option Jvm.ClassFile.FieldType), Jvm.Cond.code ({ cls := "java/lang/String", name := "<init>", desc := "([CIILjava/lang/Void;)V" } : Jvm.MethodName) jdk_42_method_149_code (6 : Nat) (Option.none : Option Jvm.ClassFile.FieldType), Jvm.Cond.code ({ cls := "java/lang/Object", name := "<init>", desc := "()V" } : Jvm.MethodName) object_method_1_code (1 : Nat) (Option.none : Option Jvm.ClassFile.FieldType), Jvm.Cond.code ({ cls := "java/lang/StringUTF16", name := "compress", desc := "([CII)[B" } : Jvm.MethodName) jdk_52_method_16_code (6 : Nat) (Option.some (Jvm.ClassFile.FieldType.array Jvm.ClassFile.FieldType.byte)), Jvm.Cond.code ({ cls := "java/lang/StringUTF16", name := "compress", desc := "([CI[BII)I" } : Jvm.MethodName) jdk_52_method_21_code (7 : Nat) (Option.some Jvm.ClassFile.FieldType.int), Jvm.Cond.code ({ cls := "java/lang/StringUTF16", name := "coderFromArrayLen", desc := "([BI)B" } : Jvm.MethodName) jdk_52_method_15_code (2 : Nat) (Option.some Jvm.ClassFile.FieldType.byte), Jvm.Cond.code ({ cls := "com/example/tallysieve/tallysieve/KeyIndex", name := "tag", desc := "(JLjava/lang/String;)I" } : Jvm.MethodName) prog_3_method_7_code (6 : Nat) (Option.some Jvm.ClassFile.FieldType.int), Jvm.Cond.code ({ cls := "java/lang/String", name := "length", desc := "()I" } : Jvm.MethodName) jdk_42_method_54_code (1 : Nat) (Option.some Jvm.ClassFile.FieldType.int), Jvm.Cond.code ({ cls := "java/lang/String", name := "coder", desc := "()B" } : Jvm.MethodName) jdk_42_method_152_code (1 : Nat) (Option.some Jvm.ClassFile.FieldType.byte), Jvm.Cond.code ({ cls := "java/lang/String", name := "charAt", desc := "(I)C" } : Jvm.MethodName) jdk_42_method_56_code (2 : Nat) (Option.some Jvm.ClassFile.FieldType.char), Jvm.Cond.code ({ cls := "java/lang/String", name := "isLatin1", desc := "()Z" } : Jvm.MethodName) jdk_42_method_154_code (1 : Nat) (Option.some Jvm.ClassFile.FieldType.boolean), Jvm.Cond.code ({ cls := "java/lang/StringLatin1", name := "charAt", desc := "([BI)C" } : Jvm.MethodName) jdk_43_method_2_code (2 : Nat) (Option.some Jvm.ClassFile.FieldType.char), Jvm.Cond.code ({ cls := "java/lang/String", name := "checkIndex", desc := "(II)V" } : Jvm.MethodName) jdk_42_method_155_code (2 : Nat) (Option.none : Option Jvm.ClassFile.FieldType), Jvm.Cond.code ({ cls := "jdk/internal/util/Preconditions", name := "checkIndex", desc := "(IILjava/util/function/BiFunction;)I" } : Jvm.MethodName) jdk_41_method_11_code (3 : Nat) (Option.some Jvm.ClassFile.FieldType.int), Jvm.Cond.code ({ cls := "java/lang/StringUTF16", name := "toBytes", desc := "([CII)[B" } : Jvm.MethodName) jdk_52_method_14_code (5 : Nat) (Option.some (Jvm.ClassFile.FieldType.array Jvm.ClassFile.FieldType.byte)), Jvm.Cond.code ({ cls := "java/lang/StringUTF16", name := "newBytesFor", desc := "(I)[B" } : Jvm.MethodName) jdk_52_method_2_code (1 : Nat) (Option.some (Jvm.ClassFile.FieldType.array Jvm.ClassFile.FieldType.byte)), Jvm.Cond.code ({ cls := "java/lang/StringUTF16", name := "newBytesLength", desc := "(I)I" } : Jvm.MethodName) jdk_52_method_3_code (1 : Nat) (Option.some Jvm.ClassFile.FieldType.int), Jvm.Cond.code ({ cls := "java/lang/StringUTF16", name := "putChar", desc := "([BII)V" } : Jvm.MethodName) jdk_52_method_4_code (3 : Nat) (Option.none : Option Jvm.ClassFile.FieldType), Jvm.Cond.code ({ cls := "java/lang/StringUTF16", name := "getChar", desc := "([BI)C" } : Jvm.MethodName) jdk_52_method_5_code (2 : Nat) (Option.some Jvm.ClassFile.FieldType.char), Jvm.Cond.code ({ cls := "java/lang/StringUTF16", name := "charAt", desc := "([BI)C" } : Jvm.MethodName) jdk_52_method_83_code (2 : Nat) (Option.some Jvm.ClassFile.FieldType.char), Jvm.Cond.code ({ cls := "java/lang/StringUTF16", name := "checkIndex", desc := "(I[B)V" } : Jvm.MethodName) jdk_52_method_91_code (2 : Nat) (Option.none : Option Jvm.ClassFile.FieldType), Jvm.Cond.code ({ cls := "java/lang/StringUTF16", name := "length", desc := "([B)I" } : Jvm.MethodName) jdk_52_method_6_code (1 : Nat) (Option.some Jvm.ClassFile.FieldType.int)]
set_option maxRecDepth 65536 in
theorem codes_eq : words1.filter isCode = codes1 := rfl
theorem w_codes : ∀ c ∈ words1.filter isCode, c.before args0 about1 = true := by
  rw [codes_eq]
  intro c hc
  simp only [codes1, List.mem_cons, List.not_mem_nil, or_false] at hc
  rcases hc with rfl | rfl | rfl | rfl | rfl | rfl | rfl | rfl | rfl | rfl | rfl | rfl | rfl | rfl | rfl | rfl | rfl | rfl | rfl | rfl | rfl | rfl | rfl | rfl
  · exact w_c0
  · exact w_c1
  · exact w_c2
  · exact w_c3
  · exact w_c4
  · exact w_c5
  · exact w_c6
  · exact w_c7
  · exact w_c8
  · exact w_c9
  · exact w_c10
  · exact w_c11
  · exact w_c12
  · exact w_c13
  · exact w_c14
  · exact w_c15
  · exact w_c16
  · exact w_c17
  · exact w_c18
  · exact w_c19
  · exact w_c20
  · exact w_c21
  · exact w_c22
  · exact w_c23
set_option maxRecDepth 65536 in
theorem w_t1 : (words1.take 24).all (fun c => isCode c || c.before args0 about1) = true := by decide +kernel
set_option maxRecDepth 65536 in
theorem w_t2 : ((words1.drop 24).take 24).all (fun c => isCode c || c.before args0 about1) = true := by decide +kernel
set_option maxRecDepth 65536 in
theorem w_t3 : (((words1.drop 24).drop 24).take 24).all (fun c => isCode c || c.before args0 about1) = true := by decide +kernel
set_option maxRecDepth 65536 in
theorem w_t4 : ((((words1.drop 24).drop 24).drop 24).take 24).all (fun c => isCode c || c.before args0 about1) = true := by decide +kernel
set_option maxRecDepth 65536 in
theorem w_t5 : ((((words1.drop 24).drop 24).drop 24).drop 24).all (fun c => isCode c || c.before args0 about1) = true := by decide +kernel
theorem w_tables : (allAtoms (Jvm.Cond.code x code maxLocals ret :: tables_1)).before args0 about1 = true := by
  rw [allAtoms_all]
  show words1.all (fun c => c.before args0 about1) = true
  refine all_split ?_ w_codes
  rw [← List.take_append_drop 24 words1, List.all_append, w_t1, ← List.take_append_drop 24 (words1.drop 24), List.all_append, w_t2, ← List.take_append_drop 24 ((words1.drop 24).drop 24), List.all_append, w_t3, ← List.take_append_drop 24 (((words1.drop 24).drop 24).drop 24), List.all_append, w_t4, w_t5]
  rfl
set_option maxRecDepth 65536 in
theorem w_rest : rest_1_c.before args0 about1 = true := by decide +kernel
set_option maxRecDepth 65536 in
theorem w_case : (Jvm.Cond.and given_1 narrow_1).before args0 about1 = true := by decide +kernel
set_option maxRecDepth 65536 in
theorem w_consts : constsHeld consts_1 about1 := Jvm.Lit.constsHeldB_iff.mp (by decide +kernel)
theorem w_applies : (headSpec (Jvm.Cond.code x code maxLocals ret :: tables_1) room_1).applies x e0.platform about1 = true :=
  (Spec.applies_iff w_frames).mpr ⟨w_running, w_runnable, w_alone, w_named, w_hears, w_ripe, w_room, w_tables⟩
theorem atStart : AtStart classFile x code maxLocals ret World_1 tables_1 room_1 Calls_1 rest_1 Pre_1 launch0 p0 e0 about1 theMethod args0 below0 :=
  ⟨lists_1, trivial, launch0.admits_env _ _ _, launch0.least_env, fairChoices_fair.cas, fairChoices_fair.clock, w_frames, w_args, w_heap, w_applies, ⟨w_consts, trivial⟩, w_rest, w_case⟩
end start1
theorem witness_1 : WitnessClaimed_1 := ⟨start1.p0, start1.e0, start1.about1, start1.theMethod, start1.args0, start1.below0, start1.atStart⟩
end Jvm.Pilot.@@N@@
