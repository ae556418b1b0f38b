import JvmDerived
import JvmDerived.Pilot.@@N@@Statement
import JvmDerived.Pilot.@@N@@Code
set_option linter.unusedVariables false
set_option linter.unusedSimpArgs false
namespace Jvm.Pilot.@@N@@
open Jvm Jvm.ClassFile Sem Op Lib Jvm.Free Jvm.Stand Jvm.LawKit Jvm.RoadKit Bundle Jvm.Pilot.@@N@@.Jvm.D
/-! own prelude: 'own_Goes' says that from state T with top frame g the invocation comes to its end with what Q says -/
section OwnPrelude
variable {p : Program} {l : Launch} {e : Env} {R : Room} {s : State} {m : MethodId} {args : Array Value} {below : List Frame} {meth : Method} {c : Code} {T T' : State} {locs : List Loc} {cells slots : Nat} {Z : State} {a0 : Array Value} {h : Heap} {kc ks : Nat} {Q : Option Value → Heap → List Loc → Prop} {g g' : JFrame}
def own_Goes (p : Program) (e : Env) (below : List Frame) (s : State) (kc ks : Nat) (Q : Option Value → Heap → List Loc → Prop) (T : State) (g : JFrame) : Prop :=
  ∃ t o, Steps p.tables e below (T.setTop g) t ∧ t.status = .running ∧ Ended t below o ∧ ∃ v L, o = .returned v ∧ Q v t.heap L ∧ FrameEnd s o t L kc ks
abbrev own_Ctr (l : Launch) (Z : State) (y : MethodName) (bytes : ByteArray) (maxL : Nat) (ret : Option FieldType) (ws : List Jvm.Cond) (rm : Room) (kc ks : Nat) (as' : Array Value) (h : Heap) (Q : Option Value → Heap → List Loc → Prop) : Prop :=
  MetFree l y (head1 (Jvm.Cond.code y bytes maxL ret :: ws) rm) (fun a U => a = as' ∧ Z.Warmed39 U.vm ∧ U.heap = h) (fun _ _ _ _ _ => True) (fun _ U o U' => ∃ v L, o = .returned v ∧ Q v U'.heap L ∧ FrameEnd U o U' L kc ks)
theorem own_by (st : ∀ t, Steps p.tables e below (T'.setTop g') t → Steps p.tables e below (T.setTop g) t) (k : own_Goes p e below s kc ks Q T' g') : own_Goes p e below s kc ks Q T g := by
  obtain ⟨t, o, h1, r⟩ := k; exact ⟨t, o, st t h1, r⟩
theorem own_cast (q : g = g') (k : own_Goes p e below s kc ks Q T g') : own_Goes p e below s kc ks Q T g := q ▸ k
theorem own_enter {y : MethodName} {bytes : ByteArray} {maxL : Nat} {ret : Option FieldType} {ws : List Jvm.Cond} {rm : Room} {as' : Array Value} (hpl : plainFor y = true)
    (k : ∀ p e s m below meth c s₁, Stand p l e rm s m as' below meth c s₁ [] 0 0 → p.tables.exec = Jvm.exec → Z.Warmed39 s.vm → c.code = bytes → c.maxLocals = maxL → s.vm.findClass y.cls = some m.cls → meth.name = y.name → meth.locks = false → meth.sig.returnType = ret → s₁.heap = h → own_Goes p e below s kc ks Q s₁ (entryFrame m as' maxL)) :
    own_Ctr l Z y bytes maxL ret ws rm kc ks as' h Q := by
  refine MetFree.of_bodySF hpl hisR ?_
  intro p e s m args below meth c s₁ Bd hml0 hP hK
  obtain ⟨rfl, hZ, hh⟩ := hP
  exact k p e s m below meth c s₁ (Stand.of_body Bd) Bd.exec hZ Bd.bytes hml0 (findClass_of_methodNamed Bd.named) (name_of_methodNamed Bd.named Bd.method).1 Bd.notSynchronized Bd.returns (by rw [← hh, Bd.state]; rfl)
theorem own_mono (X : Stand p l e R s m args below meth c T locs cells slots) {c' n' : Nat} (h1 : cells ≤ c') (h2 : slots ≤ n') : Stand p l e R s m args below meth c T locs c' n' :=
  { X with same := X.same.mono h1 h2 }
theorem own_out (X : Stand p l e R s m args below meth c T locs cells slots) (hlk : meth.locks = false) {v : Option Value} (hv : meth.sig.returnType = none → v = none)
    (st : ∀ fs, (∀ (f : JFrame) (acts : List Action), f.method = m → f.locked = none → f.entered = [] → (doReturn e (T.setTop f) acts v).1 = T.setFrames fs) → Steps p.tables e below (T.setTop g) (T.setFrames fs))
    (hc : cells ≤ kc) (hs : slots ≤ ks) (hQ : Q v T.heap locs) : own_Goes p e below s kc ks Q T g := by
  obtain ⟨fs, hr, hrun, hended, hW, hsame⟩ := X.leave (v := v) hv hlk
  exact ⟨_, _, st fs hr, hrun, hended, v, locs, rfl, hQ, ⟨_, rfl⟩, hW, hsame.mono hc hs⟩
theorem own_ret {w : Value} {t : FieldType} {i : Instr} {pc : Nat} {Ls : Array Slot} {rest : List Value} (X : Stand p l e R s m args below meth c T locs cells slots) (hx : p.tables.exec = Jvm.exec) (hlk : meth.locks = false) (hret : meth.sig.returnType = some t) (hn : narrow t w = w)
    (hi : (i = .ireturn ∧ (t = .int ∨ t = .boolean ∨ t = .byte ∨ t = .char ∨ t = .short) ∧ ∃ z, w = .int z) ∨ (i = .lreturn ∧ t = .long ∧ ∃ z, w = .long z) ∨ (i = .dreturn ∧ t = .double ∧ ∃ z, w = .double z) ∨ (i = .freturn ∧ t = .float ∧ ∃ z, w = .float z) ∨ (i = .areturn ∧ t.isReference = true ∧ w.isRef = true))
    (hd : decode c.code pc = .ok (i, 1)) (hc : cells ≤ kc) (hs : slots ≤ ks) (hQ : Q (some w) T.heap locs) : own_Goes p e below s kc ks Q T (mkF m pc Ls (w :: rest)) :=
  own_out X hlk (fun h => by rw [hret] at h; cases h) (fun fs hr => retOut X hx hret hn hi hd hr) hc hs hQ
theorem own_retI {z : Int32} {pc : Nat} {Ls : Array Slot} {rest : List Value} (X : Stand p l e R s m args below meth c T locs cells slots) (hx : p.tables.exec = Jvm.exec) (hlk : meth.locks = false) (hret : meth.sig.returnType = some .int)
    (hd : decode c.code pc = .ok (.ireturn, 1)) (hc : cells ≤ kc) (hs : slots ≤ ks) (hQ : Q (some (.int z)) T.heap locs) : own_Goes p e below s kc ks Q T (mkF m pc Ls (.int z :: rest)) :=
  own_ret X hx hlk hret rfl (Or.inl ⟨rfl, Or.inl rfl, z, rfl⟩) hd hc hs hQ
theorem own_retJ {z : Int64} {pc : Nat} {Ls : Array Slot} {rest : List Value} (X : Stand p l e R s m args below meth c T locs cells slots) (hx : p.tables.exec = Jvm.exec) (hlk : meth.locks = false) (hret : meth.sig.returnType = some .long)
    (hd : decode c.code pc = .ok (.lreturn, 1)) (hc : cells ≤ kc) (hs : slots ≤ ks) (hQ : Q (some (.long z)) T.heap locs) : own_Goes p e below s kc ks Q T (mkF m pc Ls (.long z :: rest)) :=
  own_ret X hx hlk hret rfl (Or.inr (Or.inl ⟨rfl, rfl, z, rfl⟩)) hd hc hs hQ
theorem own_retD {z : UInt64} {pc : Nat} {Ls : Array Slot} {rest : List Value} (X : Stand p l e R s m args below meth c T locs cells slots) (hx : p.tables.exec = Jvm.exec) (hlk : meth.locks = false) (hret : meth.sig.returnType = some .double)
    (hd : decode c.code pc = .ok (.dreturn, 1)) (hc : cells ≤ kc) (hs : slots ≤ ks) (hQ : Q (some (.double z)) T.heap locs) : own_Goes p e below s kc ks Q T (mkF m pc Ls (.double z :: rest)) :=
  own_ret X hx hlk hret rfl (Or.inr (Or.inr (Or.inl ⟨rfl, rfl, z, rfl⟩))) hd hc hs hQ
theorem own_b8 (x : Int32) : ((x).toInt8.toInt32).toInt8.toInt32 = x.toInt8.toInt32 := by simp
theorem own_c16 (x : Int32) : ((x).toUInt32.toUInt16.toUInt32.toInt32).toUInt32.toUInt16.toUInt32.toInt32 = x.toUInt32.toUInt16.toUInt32.toInt32 := by
  have h : ∀ u : UInt16, (u.toUInt32.toInt32).toUInt32.toUInt16 = u := fun u => by
    show (u.toUInt32).toUInt16 = u
    simp
  rw [h]
theorem own_at_ {a : Addr} {cl : Cell} (q : T.heap = h) (A : h[a]? = some cl) : T.heap[a]? = some cl := q ▸ A
theorem own_wr {h' : Heap} {a : Addr} {sl : Nat} {v v' : Value} (W : Wr h h' a sl v) (q : v = v') : Wr h h' a sl v' := q ▸ W
theorem own_eqI {first : State} {o : Option Outcome} {idx : List Nat} {a b : Term} {x y : Int32} (ha : a.eval args first o idx s = some (.int x)) (hb : b.eval args first o idx s = some (.int y)) : (Cond.eq a b).value args first o s idx = some (decide (x = y)) := by simp [Cond.value, ha, hb]
theorem own_fitR {t : FieldType} {w : Value} (ht : t.isReference = true) (hw : w.isRef = true) : fits t w = true := by cases t <;> simp [FieldType.isReference] at ht <;> rcases ref_cases hw with rfl | ⟨a, rfl⟩ <;> rfl
theorem own_cat1 {w : Value} (hw : w.isRef = true) : w.category = 1 := by rcases ref_cases hw with rfl | ⟨a, rfl⟩ <;> rfl
theorem own_stG {ls l' : Array Slot} {i : Nat} {v : Value} {o : Slot} (hold : ls[i]? = some o) (ho : o = .unset ∨ ∃ w, o = .val w ∧ w.category = 1) (hv : v.category = 1) (q : ls.setIfInBounds i (.val v) = l') : storeLocals ls i v = some l' := q ▸ XS.store1 hold ho hv
theorem own_narR {t : FieldType} {w : Value} (ht : t.isReference = true) : narrow t w = w := by cases t <;> simp [FieldType.isReference] at ht <;> cases w <;> rfl
theorem own_retA {w : Value} {t : FieldType} {pc : Nat} {Ls : Array Slot} {rest : List Value} (X : Stand p l e R s m args below meth c T locs cells slots) (hx : p.tables.exec = Jvm.exec) (hlk : meth.locks = false) (hret : meth.sig.returnType = some t) (ht : t.isReference = true) (hw : w.isRef = true)
    (hd : decode c.code pc = .ok (.areturn, 1)) (hc : cells ≤ kc) (hs : slots ≤ ks) (hQ : Q (some w) T.heap locs) : own_Goes p e below s kc ks Q T (mkF m pc Ls (w :: rest)) :=
  own_ret X hx hlk hret (own_narR ht) (Or.inr (Or.inr (Or.inr (Or.inr ⟨rfl, ht, hw⟩)))) hd hc hs hQ
theorem own_retN {z : Int32} {t : FieldType} {pc : Nat} {Ls : Array Slot} {rest : List Value} (X : Stand p l e R s m args below meth c T locs cells slots) (hx : p.tables.exec = Jvm.exec) (hlk : meth.locks = false) (hret : meth.sig.returnType = some t) (ht : t = .boolean ∨ t = .byte ∨ t = .char ∨ t = .short)
    (hd : decode c.code pc = .ok (.ireturn, 1)) (hc : cells ≤ kc) (hs : slots ≤ ks) (hQ : Q (some (.int (nar t z))) T.heap locs) : own_Goes p e below s kc ks Q T (mkF m pc Ls (.int z :: rest)) :=
  own_out X hlk (fun h => by rw [hret] at h; cases h) (fun fs hr => retN X hx hret ht hd hr) hc hs hQ
theorem own_retV {pc : Nat} {Ls : Array Slot} (X : Stand p l e R s m args below meth c T locs cells slots) (hx : p.tables.exec = Jvm.exec) (hlk : meth.locks = false) (hret : meth.sig.returnType = none)
    (hd : decode c.code pc = .ok (.return_, 1)) (hc : cells ≤ kc) (hs : slots ≤ ks) (hQ : Q none T.heap locs) : own_Goes p e below s kc ks Q T (mkF m pc Ls []) :=
  own_out X hlk (fun _ => rfl) (fun fs hr => X.returnOut hx hret hd hr) hc hs hQ
/-- an array of that type and length, whatever it holds -/
def own_Arz (Z : State) (h : Heap) (a : Addr) (ty : FieldType) (z : Int32) : Prop := ∃ c : Cell, Arr Z h a c ty ∧ c.slots.size = z.toNatClampNeg ∧ ¬ z < 0
theorem own_Arz.of {a : Addr} {k : ClassId} {ty : FieldType} {z : Int32} {vs : List Value} {dv : Value} (F : Arv Z h a k ty z vs dv) : own_Arz Z h a ty z := by obtain ⟨c, A, -, S, q, -⟩ := F; exact ⟨c, A, S, q⟩
theorem own_Arz.lt {a : Addr} {ty : FieldType} {z : Int32} (F : own_Arz Z h a ty z) : a < h.size := by obtain ⟨c, A, -⟩ := F; exact A.lt
theorem own_Arz.ext {h' : Heap} {a : Addr} {ty : FieldType} {z : Int32} (F : own_Arz Z h a ty z) (E : Ext h h') : own_Arz Z h' a ty z := by obtain ⟨c, A, r⟩ := F; exact ⟨c, A.ext E, r⟩
theorem own_Arz.other {h' : Heap} {a b : Addr} {ty : FieldType} {z : Int32} {sl : Nat} {v : Value} (F : own_Arz Z h b ty z) (W : Wr h h' a sl v) (q : b ≠ a) : own_Arz Z h' b ty z := by obtain ⟨c, A, r⟩ := F; exact ⟨c, A.other W q, r⟩
theorem own_Arz.same {h' : Heap} {a : Addr} {ty : FieldType} {z : Int32} {sl : Nat} {v : Value} (F : own_Arz Z h a ty z) (W : Wr h h' a sl v) : own_Arz Z h' a ty z := by obtain ⟨c, A, r1, r2⟩ := F; exact ⟨_, A.same W, by rw [sz_set]; exact r1, r2⟩
theorem own_Arz.keep {h' : Heap} {a : Addr} {ty : FieldType} {z : Int32} {ws : List Addr} (F : own_Arz Z h a ty z) (K : Keep h h' ws) (q : a ∉ ws) : own_Arz Z h' a ty z := by obtain ⟨c, A, r⟩ := F; exact ⟨c, ⟨K.2.1 a c A.1 q, A.2⟩, r⟩
theorem own_neY {a b : Addr} {C : String} {n : Nat} {ty : FieldType} {z : Int32} (E : Exa Z h a C) (w : (Cond.instantiable C n).before a0 Z = true) (F : own_Arz Z h b ty z) : a ≠ b := by obtain ⟨c, A, -⟩ := F; exact ne_arr E w A
section OwnCalls
variable {own : String} {index : Nat} {y z : MethodName} {bytes : ByteArray} {maxL : Nat} {ret : Option FieldType} {rm : Room} {Q' : Option Value → Heap → List Loc → Prop} {argsL rest : List Value}
theorem own_callS (X : Stand p l e R s m args below meth c T locs cells slots) (hx : p.tables.exec = Jvm.exec) (hZ : Z.Warmed39 s.vm) (hown : s.vm.findClass own = some m.cls)
    (w1 : (Cond.methodLink own index y).before a0 Z = true) (w2 : (Cond.static y).before a0 Z = true) (w3 : (Cond.initialized y.cls).before a0 Z = true) (w4 : (Cond.code y bytes maxL ret).before a0 Z = true)
    (hy : y.cls ≠ "java/lang/invoke/MethodHandle" ∧ y.cls ≠ "java/lang/invoke/VarHandle") (hM : own_Ctr l Z y bytes maxL ret [] rm rm.cells rm.slots argsL.toArray h Q') (W : Nat)
    (hf : rm.frames + 1 ≤ R.frames) (hl : W + (maxL + 11) + rm.locals ≤ R.locals) (hc : cells + rm.cells ≤ R.cells) (hs : slots + rm.slots ≤ R.slots) (eT : T.heap = h)
    (hg : g.method = m) (hsize : g.locals.size = c.maxLocals) (hlen : ∀ sig, parseMethodDescriptor y.desc = some sig → argsL.length = sig.parameters.length) (hstack : g.stack = argsL.reverse ++ rest)
    (hW : 2 * g.monitorRoom + (rest.map fun v => v.category).sum ≤ W) (hd : decode c.code g.pc = .ok (.invokestatic index, 3))
    (k : ∀ v T' L, Stand p l e R s m args below meth c T' (locs ++ L) (cells + rm.cells) (slots + rm.slots) → Q' v T'.heap L → own_Goes p e below s kc ks Q T' { g with pc := g.pc + 3, stack := v.toList ++ rest }) : own_Goes p e below s kc ks Q T g := by
  obtain ⟨v, _, ⟨T', L', k', n'⟩, -, X', ⟨Lc, hQ, l1, y1, z1⟩, st⟩ := Jvm.LawKit.callS X hx hown (mvT hZ w1) (mvT hZ w2) (mvT hZ w3) (mvT hZ w4) hy (backOf (W := W) hM hZ w4 w3 hf hl) hg hsize hlen hstack hW hd (fun _ _ => ⟨rfl, eT, hc, hs⟩)
  dsimp only [Pt.U, Pt.locs, Pt.cells, Pt.slots] at X' l1 y1 z1 st hQ
  subst l1 y1 z1
  exact own_by st (k v T' Lc X' hQ)
theorem own_callI (X : Stand p l e R s m args below meth c T locs cells slots) (hx : p.tables.exec = Jvm.exec) (hZ : Z.Warmed39 s.vm) (hown : s.vm.findClass own = some m.cls) (hy1 : y.name = "<init>")
    (w1 : (Cond.methodLink own index y).before a0 Z = true) (w2 : (Cond.instanceMethod y).before a0 Z = true) (w3 : (Cond.initialized y.cls).before a0 Z = true) (w4 : (Cond.code y bytes maxL none).before a0 Z = true)
    (hy : y.cls ≠ "java/lang/invoke/MethodHandle" ∧ y.cls ≠ "java/lang/invoke/VarHandle") {a : Addr} (hM : own_Ctr l Z y bytes maxL none [] rm rm.cells rm.slots (.ref a :: argsL).toArray h Q') (W : Nat)
    (hf : rm.frames + 1 ≤ R.frames) (hl : W + (maxL + 11) + rm.locals ≤ R.locals) (hc : cells + rm.cells ≤ R.cells) (hs : slots + rm.slots ≤ R.slots) (eT : T.heap = h)
    (hg : g.method = m) (hsize : g.locals.size = c.maxLocals) (hlen : ∀ sig, parseMethodDescriptor y.desc = some sig → argsL.length = sig.parameters.length) (hstack : g.stack = argsL.reverse ++ .ref a :: rest)
    (hW : 2 * g.monitorRoom + (rest.map fun v => v.category).sum ≤ W) (hd : decode c.code g.pc = .ok (.invokespecial index, 3))
    (k : ∀ v T' L, Stand p l e R s m args below meth c T' (locs ++ L) (cells + rm.cells) (slots + rm.slots) → Q' v T'.heap L → own_Goes p e below s kc ks Q T' { g with pc := g.pc + 3, stack := v.toList ++ rest }) : own_Goes p e below s kc ks Q T g := by
  obtain ⟨v, _, ⟨T', L', k', n'⟩, -, X', ⟨Lc, hQ, l1, y1, z1⟩, st⟩ := X.specialBack hx hy1 hown (mvT hZ w1) (mvT hZ w2) (mvT hZ w4) hy (backOf (W := W) hM hZ w4 w3 hf hl) hg hsize (Steps.refl _) hlen hstack hW hd (fun _ _ => ⟨rfl, eT, hc, hs⟩)
  dsimp only [Pt.U, Pt.locs, Pt.cells, Pt.slots] at X' l1 y1 z1 st hQ
  subst l1 y1 z1
  exact own_by (fun t kt => st.trans kt) (k v T' Lc X' hQ)
theorem own_callIN {host : String} (X : Stand p l e R s m args below meth c T locs cells slots) (hx : p.tables.exec = Jvm.exec) (hZ : Z.Warmed39 s.vm) (hown : s.vm.findClass own = some m.cls) (hy1 : y.name = "<init>")
    (w1 : (Cond.methodLinkNest own index y host).before a0 Z = true) (w2 : (Cond.instanceMethod y).before a0 Z = true) (w3 : (Cond.initialized y.cls).before a0 Z = true) (w4 : (Cond.code y bytes maxL none).before a0 Z = true)
    (hy : y.cls ≠ "java/lang/invoke/MethodHandle" ∧ y.cls ≠ "java/lang/invoke/VarHandle") {a : Addr} (hM : own_Ctr l Z y bytes maxL none [] rm rm.cells rm.slots (.ref a :: argsL).toArray h Q') (W : Nat)
    (hf : rm.frames + 1 ≤ R.frames) (hl : W + (maxL + 11) + rm.locals ≤ R.locals) (hc : cells + rm.cells ≤ R.cells) (hs : slots + rm.slots ≤ R.slots) (eT : T.heap = h)
    (hg : g.method = m) (hsize : g.locals.size = c.maxLocals) (hlen : ∀ sig, parseMethodDescriptor y.desc = some sig → argsL.length = sig.parameters.length) (hstack : g.stack = argsL.reverse ++ .ref a :: rest)
    (hW : 2 * g.monitorRoom + (rest.map fun v => v.category).sum ≤ W) (hd : decode c.code g.pc = .ok (.invokespecial index, 3))
    (k : ∀ v T' L, Stand p l e R s m args below meth c T' (locs ++ L) (cells + rm.cells) (slots + rm.slots) → Q' v T'.heap L → own_Goes p e below s kc ks Q T' { g with pc := g.pc + 3, stack := v.toList ++ rest }) : own_Goes p e below s kc ks Q T g := by
  obtain ⟨v, _, ⟨T', L', k', n'⟩, -, X', ⟨Lc, hQ, l1, y1, z1⟩, st⟩ := X.specialBackNest hx hy1 hown (Cond.methodLinkNest_wide hZ w1 :) (mvT hZ w2) (mvT hZ w4) hy (backOf (W := W) hM hZ w4 w3 hf hl) hg hsize (Steps.refl _) hlen hstack hW hd (fun _ _ => ⟨rfl, eT, hc, hs⟩)
  dsimp only [Pt.U, Pt.locs, Pt.cells, Pt.slots] at X' l1 y1 z1 st hQ
  subst l1 y1 z1
  exact own_by (fun t kt => st.trans kt) (k v T' Lc X' hQ)
theorem own_callV {C : String} (X : Stand p l e R s m args below meth c T locs cells slots) (hx : p.tables.exec = Jvm.exec) (hZ : Z.Warmed39 s.vm) (hown : s.vm.findClass own = some m.cls)
    (w1 : (Cond.methodLink own index y).before a0 Z = true) (w2 : (Cond.declares y).before a0 Z = true) (hnf : NotFace s y) (w3 : (Cond.selects C y z).before a0 Z = true) (w4 : (Cond.instanceMethod z).before a0 Z = true) (w5 : (Cond.code z bytes maxL ret).before a0 Z = true) (w6 : (Cond.initialized z.cls).before a0 Z = true)
    (hy : y.cls ≠ "java/lang/invoke/MethodHandle" ∧ y.cls ≠ "java/lang/invoke/VarHandle") {a : Addr} (E : Exa Z h a C) (hM : own_Ctr l Z z bytes maxL ret [] rm rm.cells rm.slots (.ref a :: argsL).toArray h Q') (W : Nat)
    (hf : rm.frames + 1 ≤ R.frames) (hl : W + (maxL + 11) + rm.locals ≤ R.locals) (hc : cells + rm.cells ≤ R.cells) (hs : slots + rm.slots ≤ R.slots) (eT : T.heap = h)
    (hg : g.method = m) (hsize : g.locals.size = c.maxLocals) (hlen : ∀ sig, parseMethodDescriptor y.desc = some sig → argsL.length = sig.parameters.length) (hstack : g.stack = argsL.reverse ++ .ref a :: rest)
    (hW : 2 * g.monitorRoom + (rest.map fun v => v.category).sum ≤ W) (hd : decode c.code g.pc = .ok (.invokevirtual index, 3))
    (k : ∀ v T' L, Stand p l e R s m args below meth c T' (locs ++ L) (cells + rm.cells) (slots + rm.slots) → Q' v T'.heap L → own_Goes p e below s kc ks Q T' { g with pc := g.pc + 3, stack := v.toList ++ rest }) : own_Goes p e below s kc ks Q T g := by
  obtain ⟨cq, kq, qa, qb, qc⟩ := isOf hZ eT E
  obtain ⟨v, _, ⟨T', L', k', n'⟩, -, X', ⟨Lc, hQ, l1, y1, z1⟩, st⟩ := X.virtualBack hx hown (mvT hZ w1) (mvT hZ w2) hnf (mvT hZ w3) (mvT hZ w4) hy (backOf (W := W) hM hZ w5 w6 hf hl) qa qc hg hsize (Steps.refl _) hlen hstack hW hd (fun _ _ => ⟨rfl, eT, hc, hs⟩)
  dsimp only [Pt.U, Pt.locs, Pt.cells, Pt.slots] at X' l1 y1 z1 st hQ
  subst l1 y1 z1
  exact own_by (fun t kt => st.trans kt) (k v T' Lc X' hQ)
theorem own_callP (X : Stand p l e R s m args below meth c T locs cells slots) (hx : p.tables.exec = Jvm.exec) (hZ : Z.Warmed39 s.vm) (hown : s.vm.findClass own = some m.cls)
    (w1 : (Cond.methodLink own index y).before a0 Z = true) (w2 : (Cond.instanceMethod y).before a0 Z = true) (w3 : (Cond.selects y.cls y y).before a0 Z = true) (w4 : (Cond.privateMethod y).before a0 Z = true) (w5 : (Cond.code y bytes maxL ret).before a0 Z = true) (w6 : (Cond.initialized y.cls).before a0 Z = true)
    (hy : y.cls ≠ "java/lang/invoke/MethodHandle" ∧ y.cls ≠ "java/lang/invoke/VarHandle") {a : Addr} {C : String} (E : Exa Z h a C) (hM : own_Ctr l Z y bytes maxL ret [] rm rm.cells rm.slots (.ref a :: argsL).toArray h Q') (W : Nat)
    (hf : rm.frames + 1 ≤ R.frames) (hl : W + (maxL + 11) + rm.locals ≤ R.locals) (hc : cells + rm.cells ≤ R.cells) (hs : slots + rm.slots ≤ R.slots) (eT : T.heap = h)
    (hg : g.method = m) (hsize : g.locals.size = c.maxLocals) (hlen : ∀ sig, parseMethodDescriptor y.desc = some sig → argsL.length = sig.parameters.length) (hstack : g.stack = argsL.reverse ++ .ref a :: rest)
    (hW : 2 * g.monitorRoom + (rest.map fun v => v.category).sum ≤ W) (hd : decode c.code g.pc = .ok (.invokevirtual index, 3))
    (k : ∀ v T' L, Stand p l e R s m args below meth c T' (locs ++ L) (cells + rm.cells) (slots + rm.slots) → Q' v T'.heap L → own_Goes p e below s kc ks Q T' { g with pc := g.pc + 3, stack := v.toList ++ rest }) : own_Goes p e below s kc ks Q T g := by
  obtain ⟨cq, q1, q2⟩ := E.cell
  obtain ⟨v, _, ⟨T', L', k', n'⟩, -, X', ⟨Lc, hQ, l1, y1, z1⟩, st⟩ := X.privateBack hx hown (mvT hZ w1) (mvT hZ w2) (mvT hZ w3) (Cond.privateMethod_at (mvP hZ w4 (args := #[]))) (mvT hZ w5) hy (backOf (W := W) hM hZ w5 w6 hf hl) hg hsize (Steps.refl _) (a := a) (by rw [eT]; exact q1) q2 hlen hstack hW hd (fun _ _ => ⟨rfl, eT, hc, hs⟩)
  dsimp only [Pt.U, Pt.locs, Pt.cells, Pt.slots] at X' l1 y1 z1 st hQ
  subst l1 y1 z1
  exact own_by (fun t kt => st.trans kt) (k v T' Lc X' hQ)
theorem own_callF {C : String} {count : Nat} (X : Stand p l e R s m args below meth c T locs cells slots) (hx : p.tables.exec = Jvm.exec) (hZ : Z.Warmed39 s.vm) (hown : s.vm.findClass own = some m.cls)
    (w1 : (Cond.methodLink own index y).before a0 Z = true) (w2 : (Cond.declares y).before a0 Z = true) (w2f : (Cond.interfaceMethod y.cls y.cls y.name y.desc).before a0 Z = true) (w3 : (Cond.selects C y z).before a0 Z = true) (w4 : (Cond.instanceMethod z).before a0 Z = true)
    (wp : (Cond.publicMethod z).before a0 Z = true) (wu : (Cond.unhidden C y.name y.desc).before a0 Z = true) (wk : (Cond.castable C y.cls).before a0 Z = true) (w5 : (Cond.code z bytes maxL ret).before a0 Z = true) (w6 : (Cond.initialized z.cls).before a0 Z = true)
    (hy : y.cls ≠ "java/lang/invoke/MethodHandle" ∧ y.cls ≠ "java/lang/invoke/VarHandle") {a : Addr} (E : Exa Z h a C) (hM : own_Ctr l Z z bytes maxL ret [] rm rm.cells rm.slots (.ref a :: argsL).toArray h Q') (W : Nat)
    (hf : rm.frames + 1 ≤ R.frames) (hl : W + (maxL + 11) + rm.locals ≤ R.locals) (hc : cells + rm.cells ≤ R.cells) (hs : slots + rm.slots ≤ R.slots) (eT : T.heap = h)
    (hg : g.method = m) (hsize : g.locals.size = c.maxLocals) (hlen : ∀ sig, parseMethodDescriptor y.desc = some sig → argsL.length = sig.parameters.length) (hstack : g.stack = argsL.reverse ++ .ref a :: rest)
    (hW : 2 * g.monitorRoom + (rest.map fun v => v.category).sum ≤ W) (hd : decode c.code g.pc = .ok (.invokeinterface index count, 5))
    (k : ∀ v T' L, Stand p l e R s m args below meth c T' (locs ++ L) (cells + rm.cells) (slots + rm.slots) → Q' v T'.heap L → own_Goes p e below s kc ks Q T' { g with pc := g.pc + 5, stack := v.toList ++ rest }) : own_Goes p e below s kc ks Q T g := by
  obtain ⟨cq, kq, qa, qb, qc⟩ := isOf hZ eT E
  have hface : ((Cond.interfaceMethod y.cls y.cls y.name y.desc).onTables && (Cond.interfaceMethod y.cls y.cls y.name y.desc).keepsFace) = true := by simp [Cond.onTables, Cond.keepsFace, Cond.keeps, Cond.steady, Cond.faceAtom, hy.1, hy.2]
  obtain ⟨v, _, ⟨T', L', k', n'⟩, -, X', ⟨Lc, hQ, l1, y1, z1⟩, st⟩ := X.interfaceBack hx hown (mvT hZ w1) (mvT hZ w2) (mvT hZ w2f hface) (mvT hZ w3) (mvT hZ w4) (mvT hZ wp) (mvT hZ wu) (mvT hZ wk) hy (backOf (W := W) hM hZ w5 w6 hf hl) qa qb qc hg hsize (Steps.refl _) hlen hstack hW hd (fun _ _ => ⟨rfl, eT, hc, hs⟩)
  dsimp only [Pt.U, Pt.locs, Pt.cells, Pt.slots] at X' l1 y1 z1 st hQ
  subst l1 y1 z1
  exact own_by (fun t kt => st.trans kt) (k v T' Lc X' hQ)
end OwnCalls
end OwnPrelude
section OwnRef
variable {p : Program} {l : Launch} {e : Env} {R : Room} {s : State} {m : MethodId} {args : Array Value} {below : List Frame} {meth : Method} {c : Code} {T T' : State} {locs : List Loc} {cells slots : Nat} {Z : State} {a0 : Array Value} {h : Heap} {kc ks : Nat} {Q : Option Value → Heap → List Loc → Prop} {g g' : JFrame}
theorem own_selp {y : MethodName} {n : Nat} (wi : (Cond.instantiable y.cls n).before a0 Z = true) (w2 : (Cond.instanceMethod y).before a0 Z = true) (w4 : (Cond.privateMethod y).before a0 Z = true) (hy : y.cls ≠ "java/lang/invoke/MethodHandle" ∧ y.cls ≠ "java/lang/invoke/VarHandle") : (Cond.selects y.cls y y).before a0 Z = true := by
  obtain ⟨c, k, h1, h2, h3, h4, -⟩ := Cond.instantiable_spec wi
  exact selects_self_of_private h1 h2 ((Bool.or_eq_false_iff.mp h4).1) (Cond.privateMethod_at w4) w2 hy
theorem own_ready (X : Stand p l e R s m args below meth c T locs cells slots) (hZ : Z.Warmed39 s.vm) {own O n d : String} {index : Nat} (hown : s.vm.findClass own = some m.cls) (w : (Cond.fieldRef own index O n d).before a0 Z = true) {cf i : Nat} {k : Class} {f : Field} (hf : Z.fieldFound? O n d = some (cf, k, i, f)) : T.vm.fieldReady m.cls index cf f := by
  have hT : Z.Warmed39 T.vm := wtrans hZ X.warmed
  have w' := Cond.fieldRef_warmed39 hT w
  have hc : (Z.setVm T.vm).vm.findClass own = some m.cls := by
    show T.vm.findClass own = some m.cls
    rw [X.warmed.alike.findClass]; exact hown
  obtain ⟨c', k', i', f', h1, h2⟩ := Cond.fieldRef_spec hc w'
  obtain ⟨k'', h3, -⟩ := State.fieldFound?_setVm (s := Z) (vm' := T.vm) hT.alike hf
  cases h1.symm.trans h3
  exact h2
theorem own_getR (X : Stand p l e R s m args below meth c T locs cells slots) (hx : p.tables.exec = Jvm.exec) (hZ : Z.Warmed39 s.vm) {own O n d : String} {index : Nat} (hown : s.vm.findClass own = some m.cls) (w : (Cond.fieldRef own index O n d).before a0 Z = true)
    (eT : T.heap = h) {a : Addr} {v : Value} (F : Fld Z h a O n d v) (hg : g.method = m) {rest : List Value} (hs : g.stack = .ref a :: rest) (hd : decode c.code g.pc = .ok (.getfield index, 3)) : ∃ T', Stand p l e R s m args below meth c T' locs cells slots ∧ T'.heap = h ∧ ∀ target, Steps p.tables e below (T'.setTop { g with pc := g.pc + 3, stack := v :: rest }) target → Steps p.tables e below (T.setTop g) target := by
  obtain ⟨cell, cf, k, i, f, h1, h2, h3, h4, -, -, h7⟩ := F
  have hr := own_ready X hZ hown w h2
  refine ⟨T, X, eT, fun target hrest => ?_⟩
  subst hg
  jvm_step X.here [X.here.top, hx, hd, getfield.wp_ready (e := e) (s := T) (f := g) X.here.top hr h3 hs (by rw [eT]; exact h1) h4 h7]
  exact hrest
theorem own_putR (X : Stand p l e R s m args below meth c T locs cells slots) (hx : p.tables.exec = Jvm.exec) (hZ : Z.Warmed39 s.vm) {own O n d C : String} {index kk : Nat} {ty : FieldType} (hown : s.vm.findClass own = some m.cls) (w : (Cond.fieldRef own index O n d).before a0 Z = true)
    (eT : T.heap = h) {a : Addr} {v old : Value} (F : Fld Z h a O n d old) (E : Exa Z h a C) (L : (Cond.lays C O n d).before a0 Z = true) (wi : (Cond.instantiable C kk).before a0 Z = true)
    (hty : parseFieldDescriptor d = some ty) (hn : narrow ty v = v) (hf : fits ty v = true) (hg : g.method = m) {rest : List Value} (hs : g.stack = v :: .ref a :: rest) (hd : decode c.code g.pc = .ok (.putfield index, 3)) :
    ∃ T' h', Stand p l e R s m args below meth c T' (locs ++ [⟨a, Jvm.RoadKit.slotOf Z O n d⟩]) cells slots ∧ T'.heap = h' ∧ Wr h h' a (Jvm.RoadKit.slotOf Z O n d) v ∧ ∀ target, Steps p.tables e below (T'.setTop { g with pc := g.pc + 3, stack := rest }) target → Steps p.tables e below (T.setTop g) target := by
  obtain ⟨cell, cf, k, i, f, h1, h2, h3, h4, h5, -, h7⟩ := F
  have hr := own_ready X hZ hown w h2
  obtain ⟨cell', kc, e1, e2, e3, -⟩ := E
  cases h1.symm.trans e1
  obtain ⟨c1, k1, cf1, kf1, i1, f1, a1, a2, a3, -, b5, a6, a7, -⟩ := Cond.lays_spec L
  cases h2.symm.trans a3
  cases e2.symm.trans a1
  obtain ⟨c2, k2, i1, i2, i3, -⟩ := Cond.instantiable_spec wi
  cases e2.symm.trans i1
  cases a2.symm.trans i2
  have ht := (State.fieldFound?_type h2 hty).2
  have hfit : Z.fitsSlot cell.cls cell.vm f.slot v = true := by
    have q : Z.slotType? cell.cls cell.vm f.slot = some ty := by
      simp only [State.slotType?, a2, Option.bind_eq_bind, Option.bind_some, i3]
      cases hq : cell.vm <;> first | (rw [hq] at h5; exact Bool.noConfusion h5) | (rw [a7, ht])
    simp [State.fitsSlot, q, hf]
  have hfitT : T.fitsSlot cell.cls cell.vm f.slot v = true := by
    have hT : Z.Warmed39 T.vm := wtrans hZ X.warmed
    rw [← State.fitsSlot_setVm hT.alike] at hfit; exact hfit
  have hlt := (Array.getElem?_eq_some_iff.mp h7).1
  have es : Jvm.RoadKit.slotOf Z O n d = f.slot := by simp [Jvm.RoadKit.slotOf, h2]
  have hcT : T.heap[a]? = some cell := by rw [eT]; exact h1
  rw [es]
  refine ⟨_, _, X.stored hcT f.slot v, rfl, ⟨cell, h1, h5, hlt, by rw [← eT]; rfl⟩, fun target hrest => ?_⟩
  subst hg
  jvm_step X.here [X.here.top, hx, hd, putfield.wp_ready (e := e) (s := T) (f := g) X.here.top hr h3 b5 hs hcT h4, show narrow f.type v = v from by rw [ht]; exact hn, hlt, hfitT]
  exact hrest
theorem own_callIR {own : String} {index : Nat} {y : MethodName} {bytes : ByteArray} {maxL : Nat} {rm : Room} {Q' : Option Value → Heap → List Loc → Prop} {argsL rest : List Value} (X : Stand p l e R s m args below meth c T locs cells slots) (hx : p.tables.exec = Jvm.exec) (hZ : Z.Warmed39 s.vm) (hown : s.vm.findClass own = some m.cls) (hy1 : y.name = "<init>")
    (w1 : (Cond.methodRef own index y).before a0 Z = true) (w2 : (Cond.instanceMethod y).before a0 Z = true) (w3 : (Cond.initialized y.cls).before a0 Z = true) (w4 : (Cond.code y bytes maxL none).before a0 Z = true)
    (hy : y.cls ≠ "java/lang/invoke/MethodHandle" ∧ y.cls ≠ "java/lang/invoke/VarHandle") {a : Addr} (hM : own_Ctr l Z y bytes maxL none [] rm rm.cells rm.slots (.ref a :: argsL).toArray h Q') (W : Nat)
    (hf : rm.frames + 1 ≤ R.frames) (hl : W + (maxL + 11) + rm.locals ≤ R.locals) (hc : cells + rm.cells ≤ R.cells) (hs : slots + rm.slots ≤ R.slots) (eT : T.heap = h)
    (hg : g.method = m) (hsize : g.locals.size = c.maxLocals) (hlen : ∀ sig, parseMethodDescriptor y.desc = some sig → argsL.length = sig.parameters.length) (hstack : g.stack = argsL.reverse ++ .ref a :: rest)
    (hW : 2 * g.monitorRoom + (rest.map fun v => v.category).sum ≤ W) (hd : decode c.code g.pc = .ok (.invokespecial index, 3))
    (k : ∀ v T' L, Stand p l e R s m args below meth c T' (locs ++ L) (cells + rm.cells) (slots + rm.slots) → Q' v T'.heap L → own_Goes p e below s kc ks Q T' { g with pc := g.pc + 3, stack := v.toList ++ rest }) : own_Goes p e below s kc ks Q T g := by
  have hT : Z.Warmed39 T.vm := wtrans hZ X.warmed
  obtain ⟨mZ, methZ, hnZ, -, -, -⟩ := Cond.instanceMethod_spec w2
  have w' := Cond.methodRef_warmed39 hT hnZ hy w1
  have hcur : (Z.setVm T.vm).vm.findClass own = some m.cls := by
    show T.vm.findClass own = some m.cls
    rw [X.warmed.alike.findClass]; exact hown
  obtain ⟨m', c', hm', hready, hfind, hres⟩ := Cond.methodRef_named e hcur w'
  obtain ⟨mk, methM, hnamed, hmethM, hstM, habM⟩ := Cond.instanceMethod_spec (mvT (args := args) hZ w2)
  obtain ⟨methM', cM, hmethM', -, -, -, -, -, -, hsigM⟩ := Cond.code_spec hnamed (mvT (args := args) hZ w4)
  cases hmethM.symm.trans hmethM'
  obtain ⟨kO, hkO, hnameO⟩ := className_of_methodNamed hnamed
  obtain ⟨hnameMO, hdescO⟩ := name_of_methodNamed hnamed hmethM
  have hnT : (s.setVm T.vm).methodNamed? y = some mk := by rw [State.methodNamed?_setVm X.warmed.alike]; exact hnamed
  have hnT' : (Z.setVm T.vm).methodNamed? y = some mk := hnT
  have em : m' = mk := Option.some.inj (hm'.symm.trans (State.methodFound?_of_named hnT' hy))
  subst em
  have ec : c' = m'.cls := Option.some.inj (hfind.symm.trans (findClass_of_methodNamed hnT'))
  subst ec
  obtain ⟨kO₂, hkO₂, heO₂⟩ := X.warmed.alike.2.2 _ _ hkO
  have hmO₂ : T.vm.method? m' = some methM := by rw [X.warmed.alike.method?]; exact hmethM
  have hfound : lookupSpecial T.vm m'.cls "<init>" methM.desc = .method m' := by
    rw [X.warmed.alike.lookupSpecial, hdescO, ← hy1]; exact lookupSpecial_of_named hnamed hmethM hstM
  obtain ⟨dk, cf, ci, nt, hdk, hcf, hcp, hcr⟩ := hres
  have hstep : ∀ target, (∀ acts, Steps p.tables e below (doInvoke e (T.setTop { g with stack := rest }) acts m' (.ref a :: argsL).toArray).1 target) → Steps p.tables e below (T.setTop g) target := fun target hrest => by
    subst hg
    jvm_step X.here [hx, hd, invokespecial.wp_init (e := e) (s := T) (k := kO₂) (meth := methM) (m := m') (a := a) (args := argsL) (rest := rest) (f := g)
      X.here.top ⟨dk, cf, ci, nt, hdk, hcf, hcp, hcr⟩ hready hkO₂ hmO₂ (by rw [hnameMO]; exact hy1) hstM habM hfound (hlen _ hsigM) hstack]
    exact hrest
  obtain ⟨v, ⟨T', L', k', n'⟩, X', ⟨Lc, hQ, l1, y1, z1⟩, hsteps⟩ := (backOf (W := W) hM hZ w4 w3 hf hl) m meth c ⟨T, locs, cells, slots⟩ { g with stack := rest } (.invokespecial index) m' (.ref a :: argsL).toArray X hg hsize hd hW (X.named hnamed) ⟨rfl, eT, hc, hs⟩
  dsimp only [Pt.U, Pt.locs, Pt.cells, Pt.slots] at X' l1 y1 z1 hsteps hQ
  subst l1 y1 z1
  exact own_by (fun t kt => (hstep _ fun acts => by rw [doInvoke_state]; exact Steps.refl _).trans (hsteps.trans kt)) (k v T' Lc X' hQ)
end OwnRef
def own_ICache (Z : State) (zc : Addr) : Prop := ∃ cl : Cell, Arr Z Z.heap zc cl (.object "java/lang/Integer") ∧ cl.slots.size = 256 ∧ ∀ w : Int32, ¬ w < (-128 : Int32) → ¬ (127 : Int32) < w → ∃ y : Addr, cl.slots[(w + (128 : Int32)).toNatClampNeg]? = some (.ref y) ∧ Exa Z Z.heap y "java/lang/Integer"
theorem own_icache {args : Array Value} {s : State} {B : Cond} (h1 : (Cond.initializedFor "java/lang/Integer$IntegerCache" "high" "I").before args s = true) (hi : (Cond.initialized "java/lang/Integer$IntegerCache").before args s = true) (hl : (Cond.laysStatic "java/lang/Integer$IntegerCache" "cache" "[Ljava/lang/Integer;").before args s = true) (h0 : (Cond.eq (Term.static "java/lang/Integer$IntegerCache" "high" "I") (Term.int (127 : Int32))).before args s = true) (h2 : (Cond.arrayOf (Term.static "java/lang/Integer$IntegerCache" "cache" "[Ljava/lang/Integer;") (.object "java/lang/Integer")).before args s = true)
    (h3 : (Cond.eq (Term.length (Term.static "java/lang/Integer$IntegerCache" "cache" "[Ljava/lang/Integer;")) (Term.int (256 : Int32))).before args s = true)
    (h4 : (Cond.all (Term.static "java/lang/Integer$IntegerCache" "cache" "[Ljava/lang/Integer;") (Cond.and (Cond.exactly (Term.elem (Term.static "java/lang/Integer$IntegerCache" "cache" "[Ljava/lang/Integer;") (Term.index (0 : Nat))) "java/lang/Integer") B)).before args s = true) :
    ∃ zc : Addr, Sta s s.heap "java/lang/Integer$IntegerCache" "high" "I" (.int (127 : Int32)) ∧ Sta s s.heap "java/lang/Integer$IntegerCache" "cache" "[Ljava/lang/Integer;" (.ref zc) ∧ own_ICache s zc := by
  obtain ⟨zc, ev⟩ := arr_v (Cond.before_iff.mp h2)
  obtain ⟨cl, A⟩ := Arr.start ev (Cond.before_iff.mp h2)
  have hat := IntBox.arrayAt_of A.1 A.2.1 A.2.2
  obtain ⟨hsz, hsize⟩ := IntBox.length_fwd h3 ev A.1 A.2.1 A.2.2
  have hn : cl.slots.size = 256 := by
    have e := len_toInt hsz
    rw [hsize, show (256 : Int32).toInt = 256 from by decide] at e
    omega
  have hall := Cond.all_elim ev hat (Cond.before_iff.mp h4)
  obtain ⟨v1, v2, q1, q2, k1, k2⟩ := cmp_v (Or.inl (Cond.before_iff.mp h0))
  have qi : (Term.int (127 : Int32)).eval args s none [] s = some (.int 127) := rfl
  cases q2.symm.trans qi
  obtain ⟨z, rfl⟩ := k2
  have r := gotT (own_eqI q1 qi) (Cond.before_iff.mp h0)
  rw [r] at q1
  refine ⟨zc, Sta.start q1 (Or.inl h1), Sta.start ev (Or.inr ⟨hi, hl⟩), cl, A, hn, fun w hw1 hw2 => ?_⟩
  obtain ⟨hb, hlt⟩ := IntBox.place_ok w hw1 hw2
  have hj := hall _ (by rw [hn]; exact hlt)
  obtain ⟨hex, -⟩ := and_e hj
  obtain ⟨hnn, hback⟩ := IntBox.place_nonneg _ hlt
  obtain ⟨y, c, cell, k, e1, e2, e3, e4, e5, rfl, e7⟩ := Cond.exactly_spec (beq_iff_eq.mpr hex : (Cond.exactly _ _).holds args s none s _ = true)
  have evi : (Term.static "java/lang/Integer$IntegerCache" "cache" "[Ljava/lang/Integer;").eval args s none [(w + 128).toNatClampNeg] s = some (.ref zc) := ev
  have eve : (Term.elem (Term.static "java/lang/Integer$IntegerCache" "cache" "[Ljava/lang/Integer;") (Term.index (0 : Nat))).eval args s none [(w + 128).toNatClampNeg] s = cl.slots[(w + 128).toNatClampNeg]? := by
    have e0 := elem_f (a := Term.index (0 : Nat)) evi (j := (w + 128).toNatClampNeg.toInt32) rfl hat hnn
    rw [hback] at e0
    exact e0
  rw [eve] at e1
  exact ⟨y, e1, ⟨cell, k, e3, e2, e4, e5, e7⟩⟩
theorem own_pn0 : plainName "java/lang/Number" = true := by first | (simp [plainName, overriddenIn]; done) | decide +kernel
theorem own_d27_0 : decode jdk_18_method_1_code 0 = .ok (.aload_n 0, 1) := by decide +kernel
theorem own_d27_1 : decode jdk_18_method_1_code 1 = .ok (.invokespecial 1, 3) := by decide +kernel
theorem own_d27_4 : decode jdk_18_method_1_code 4 = .ok (.return_, 1) := by decide +kernel
def Q_own_number (Z : State) (r1 : Addr) (h0 : Heap) (n0 : Nat) (v : Option Value) (h : Heap) (L : List Loc) : Prop := v = none ∧ Fr n0 L ∧ h = h0
theorem own_ef_own_number (m : MethodId) (r1 : Addr) : entryFrame m #[(.ref r1)] 1 = mkF m 0 #[rv r1] [] := by first | (simp [entryFrame, mkF, argsToLocals, Value.category]; done) | rfl
set_option maxRecDepth 65536 in
set_option maxHeartbeats 40000000 in
theorem own_number (l : Launch) (Z : State) (a0 : Array Value) (hw : ∀ d ∈ tables_1, d.before a0 Z = true) (ws : List Jvm.Cond) (r1 : Addr) (h0 : Heap) (n0 : Nat) (Z0 : n0 ≤ h0.size)  :
    own_Ctr l Z (⟨"java/lang/Number", "<init>", "()V"⟩ : MethodName) jdk_18_method_1_code 1 none ws ({ frames := 1, cells := 0, slots := 0, locals := 12 } : Room) (({ frames := 1, cells := 0, slots := 0, locals := 12 } : Room)).cells (({ frames := 1, cells := 0, slots := 0, locals := 12 } : Room)).slots #[(.ref r1)] h0 (Q_own_number Z r1 h0 n0) := by
  refine own_enter (plainFor_of_name own_pn0) ?_
  intro p e s m below meth c s₁ X0 hx hZ hby hml hown hnm hlk hret e0
  have N0 := Fr.nil n0
  refine own_cast (own_ef_own_number m r1) ?_
  refine own_by (g' := (mkF m 1 #[rv r1] [(.ref r1)])) (fun t k => XS.aloadN X0.here hx rfl (hb hby own_d27_0) rfl rfl k) ?_
  obtain ⟨T101, X101, e101, st101⟩ := initO X0 hx hZ hown (hw _ (List.mem_of_getElem? (i := 201) rfl)) (hw _ (List.mem_of_getElem? (i := 7) rfl)) (hw _ (List.mem_of_getElem? (i := 8) rfl)) e0 (g := (mkF m 1 #[rv r1] [(.ref r1)])) rfl (by rw [hml]; rfl) rfl (hb hby own_d27_1) (by decide) (W := 0) (by show 2 * 0 + _ ≤ _; exact Nat.le_of_eq rfl) (by decide)
  refine own_by (g' := (mkF m 4 #[rv r1] [])) st101 ?_
  refine own_retV X101 hx hlk hret (hb hby own_d27_4) (by decide) (by decide) ?_
  exact ⟨rfl, N0, e101⟩
theorem own_pn1 : plainName "java/lang/Integer" = true := by first | (simp [plainName, overriddenIn]; done) | decide +kernel
theorem own_d26_0 : decode jdk_33_method_23_code 0 = .ok (.aload_n 0, 1) := by decide +kernel
theorem own_d26_1 : decode jdk_33_method_23_code 1 = .ok (.invokespecial 202, 3) := by decide +kernel
theorem own_pd0 : parseMethodDescriptor "()V" = some ⟨[], none⟩ := by decide +kernel
theorem own_d26_4 : decode jdk_33_method_23_code 4 = .ok (.aload_n 0, 1) := by decide +kernel
theorem own_d26_5 : decode jdk_33_method_23_code 5 = .ok (.iload_n 1, 1) := by decide +kernel
theorem own_d26_6 : decode jdk_33_method_23_code 6 = .ok (.putfield 205, 3) := by decide +kernel
theorem own_d26_9 : decode jdk_33_method_23_code 9 = .ok (.return_, 1) := by decide +kernel
def Q_own_iinit (Z : State) (r1 : Addr) (q1 : Int32) (h0 : Heap) (n0 : Nat) (v : Option Value) (h : Heap) (L : List Loc) : Prop := v = none ∧ Fr n0 L ∧ Keep h0 h [r1] ∧ Exa Z h r1 "java/lang/Integer" ∧ Fld Z h r1 "java/lang/Integer" "value" "I" (.int q1)
theorem own_ef_own_iinit (m : MethodId) (r1 : Addr) (q1 : Int32) : entryFrame m #[(.ref r1), (.int q1)] 2 = mkF m 0 #[rv r1, iv q1] [] := by first | (simp [entryFrame, mkF, argsToLocals, Value.category]; done) | rfl
set_option maxRecDepth 65536 in
set_option maxHeartbeats 40000000 in
theorem own_iinit (l : Launch) (Z : State) (a0 : Array Value) (hw : ∀ d ∈ tables_1, d.before a0 Z = true) (ws : List Jvm.Cond) (r1 : Addr) (q1 : Int32) (h0 : Heap) (n0 : Nat) (Z0 : n0 ≤ h0.size) (E1 : Exa Z h0 r1 "java/lang/Integer") (F1 : Fld Z h0 r1 "java/lang/Integer" "value" "I" (.int (0 : Int32))) (g1 : n0 ≤ r1) :
    own_Ctr l Z (⟨"java/lang/Integer", "<init>", "(I)V"⟩ : MethodName) jdk_33_method_23_code 2 none ws ({ frames := 2, cells := 0, slots := 0, locals := 24 } : Room) (({ frames := 2, cells := 0, slots := 0, locals := 24 } : Room)).cells (({ frames := 2, cells := 0, slots := 0, locals := 24 } : Room)).slots #[(.ref r1), (.int q1)] h0 (Q_own_iinit Z r1 q1 h0 n0) := by
  refine own_enter (plainFor_of_name own_pn1) ?_
  intro p e s m below meth c s₁ X0 hx hZ hby hml hown hnm hlk hret e0
  have N0 := Fr.nil n0
  refine own_cast (own_ef_own_iinit m r1 q1) ?_
  refine own_by (g' := (mkF m 1 #[rv r1, iv q1] [(.ref r1)])) (fun t k => XS.aloadN X0.here hx rfl (hb hby own_d26_0) rfl rfl k) ?_
  refine own_callI X0 hx hZ hown rfl (hw _ (List.mem_of_getElem? (i := 195) rfl)) (hw _ (List.mem_of_getElem? (i := 196) rfl)) (hw _ (List.mem_of_getElem? (i := 199) rfl)) (hw _ (List.mem_of_getElem? (i := 200) rfl)) (by decide) (a := r1) (own_number l Z a0 hw [] (r1) h0 n0 Z0 ) 0 (by decide) (by decide) (by decide) (by decide) e0 (g := (mkF m 1 #[rv r1, iv q1] [(.ref r1)])) rfl (by rw [hml]; rfl) (argsL := []) (rest := []) (lenOf own_pd0 rfl) rfl (by show 2 * 0 + _ ≤ _; exact Nat.le_of_eq rfl) (hb hby own_d26_1) ?_
  intro v101 T101 L101 X101 q101
  obtain ⟨rfl, N101q, e101⟩ := q101
  have N101 := Fr.app N0 N101q
  show own_Goes p e below s _ _ _ T101 (mkF m 4 #[rv r1, iv q1] [])
  refine own_by (g' := (mkF m 6 #[rv r1, iv q1] [(.int q1), (.ref r1)])) (fun t k => XS.aloadN X101.here hx rfl (hb hby own_d26_4) rfl rfl (XS.iloadN X101.here hx rfl (hb hby own_d26_5) rfl k)) ?_
  obtain ⟨T102, h102, X102, e102, W102, st102⟩ := putF X101 hx hZ hown (host := "") (Or.inl (hw _ (List.mem_of_getElem? (i := 202) rfl))) Via.refl e101 F1 E1 (Or.inr ⟨(hw _ (List.mem_of_getElem? (i := 203) rfl)), rfl, hnm⟩) (hw _ (List.mem_of_getElem? (i := 190) rfl)) (ty := .int) (by decide) rfl rfl (g := (mkF m 6 #[rv r1, iv q1] [(.int q1), (.ref r1)])) rfl rfl (hb hby own_d26_6)
  have f103 := F1.same W102
  have N102 := Fr.snoc X102 N101 g1
  refine own_by (g' := (mkF m 9 #[rv r1, iv q1] [])) st102 ?_
  have f104 := (E1.wr W102)
  refine own_retV X102 hx hlk hret (hb hby own_d26_9) (by decide) (by decide) ?_
  rw [e102]
  exact ⟨rfl, N102, ((Keep.refl h0 [r1]).wr W102 (Or.inl (List.mem_of_getElem? (i := 0) rfl))), f104, f103⟩
theorem own_d6_0 : decode jdk_33_method_22_code 0 = .ok (.iload_n 0, 1) := by decide +kernel
theorem own_d6_1 : decode jdk_33_method_22_code 1 = .ok (.bipush (-128), 2) := by decide +kernel
theorem own_d6_3 : decode jdk_33_method_22_code 3 = .ok (.if_icmp .lt 20, 3) := by decide +kernel
theorem own_d6_23 : decode jdk_33_method_22_code 23 = .ok (.new 1, 3) := by decide +kernel
theorem own_d6_26 : decode jdk_33_method_22_code 26 = .ok (.dup, 1) := by decide +kernel
theorem own_d6_27 : decode jdk_33_method_22_code 27 = .ok (.iload_n 0, 1) := by decide +kernel
theorem own_d6_28 : decode jdk_33_method_22_code 28 = .ok (.invokespecial 199, 3) := by decide +kernel
theorem own_pd1 : parseMethodDescriptor "(I)V" = some ⟨[.int], none⟩ := by decide +kernel
theorem own_d6_31 : decode jdk_33_method_22_code 31 = .ok (.areturn, 1) := by decide +kernel
theorem own_d6_6 : decode jdk_33_method_22_code 6 = .ok (.iload_n 0, 1) := by decide +kernel
theorem own_d6_7 : decode jdk_33_method_22_code 7 = .ok (.getstatic 191, 3) := by decide +kernel
theorem own_d6_10 : decode jdk_33_method_22_code 10 = .ok (.if_icmp .gt 13, 3) := by decide +kernel
theorem own_d6_13 : decode jdk_33_method_22_code 13 = .ok (.getstatic 195, 3) := by decide +kernel
theorem own_d6_16 : decode jdk_33_method_22_code 16 = .ok (.iload_n 0, 1) := by decide +kernel
theorem own_d6_17 : decode jdk_33_method_22_code 17 = .ok (.sipush 128, 3) := by decide +kernel
theorem own_d6_20 : decode jdk_33_method_22_code 20 = .ok (.iadd, 1) := by decide +kernel
theorem own_d6_21 : decode jdk_33_method_22_code 21 = .ok (.aaload, 1) := by decide +kernel
theorem own_d6_22 : decode jdk_33_method_22_code 22 = .ok (.areturn, 1) := by decide +kernel
def Q_own_valueOf (Z : State) (q1 : Int32) (zc : Addr) (h0 : Heap) (n0 : Nat) (v : Option Value) (h : Heap) (L : List Loc) : Prop := ∃ (bo : Addr), v = some (.ref bo) ∧ Fr n0 L ∧ Keep h0 h [] ∧ Exa Z h bo "java/lang/Integer"
theorem own_ef_own_valueOf (m : MethodId) (q1 : Int32) : entryFrame m #[(.int q1)] 1 = mkF m 0 #[iv q1] [] := by first | (simp [entryFrame, mkF, argsToLocals, Value.category]; done) | rfl
set_option maxRecDepth 65536 in
set_option maxHeartbeats 40000000 in
theorem own_valueOf (l : Launch) (Z : State) (a0 : Array Value) (hw : ∀ d ∈ tables_1, d.before a0 Z = true) (ws : List Jvm.Cond) (q1 : Int32) (zc : Addr) (h0 : Heap) (n0 : Nat) (Z0 : n0 ≤ h0.size) (O0 : Old Z n0 h0) (S_high : Sta Z Z.heap "java/lang/Integer$IntegerCache" "high" "I" (.int (127 : Int32))) (S_cache : Sta Z Z.heap "java/lang/Integer$IntegerCache" "cache" "[Ljava/lang/Integer;" (.ref zc)) (hIC : own_ICache Z zc) :
    own_Ctr l Z (⟨"java/lang/Integer", "valueOf", "(I)Ljava/lang/Integer;"⟩ : MethodName) jdk_33_method_22_code 1 (some (.object "java/lang/Integer")) ws ({ frames := 3, cells := 1, slots := 1, locals := 38 } : Room) (({ frames := 3, cells := 1, slots := 1, locals := 38 } : Room)).cells (({ frames := 3, cells := 1, slots := 1, locals := 38 } : Room)).slots #[(.int q1)] h0 (Q_own_valueOf Z q1 zc h0 n0) := by
  refine own_enter (plainFor_of_name own_pn1) ?_
  intro p e s m below meth c s₁ X0 hx hZ hby hml hown hnm hlk hret e0
  have N0 := Fr.nil n0
  refine own_cast (own_ef_own_valueOf m q1) ?_
  refine own_by (g' := (mkF m 3 #[iv q1] [(.int (-128 : Int32)), (.int q1)])) (fun t k => XS.iloadN X0.here hx rfl (hb hby own_d6_0) rfl (XS.bipush X0.here hx rfl (hb hby own_d6_1) k)) ?_
  by_cases hc101 : q1 < (-128 : Int32)
  ·
    refine own_by (g' := (mkF m 23 #[iv q1] [])) (fun t k => XS.icmpYes X0.here hx rfl (pc0 := 3) (pc' := 23) rfl (hb hby own_d6_3) rfl (tlt hc101).1 (by decide) (by decide) k) ?_
    obtain ⟨T102, h102, X102, e102, E102, A102, D102, U102, st102⟩ := newO X0 hx hZ hown (hw _ (List.mem_of_getElem? (i := 189) rfl)) (hw _ (List.mem_of_getElem? (i := 190) rfl)) (hw _ (List.mem_of_getElem? (i := 35) rfl)) e0 (g := (mkF m 23 #[iv q1] [])) rfl (hb hby own_d6_23) (by decide) (by decide)
    obtain ⟨b102, g102⟩ : ∃ z, z = h0.size := ⟨_, rfl⟩
    rw [← g102] at A102 D102 U102 st102
    have sz_b102 : h0.size ≤ b102 := Nat.le_trans (Nat.le_refl _) (Nat.le_of_eq g102.symm)
    have g_b102 : n0 ≤ b102 := Nat.le_trans Z0 sz_b102
    have f103 : Fld Z h102 b102 "java/lang/Integer" "value" "I" (.int (0 : Int32)) := D102 (Or.inr (hw _ (List.mem_of_getElem? (i := 203) rfl))) (ty := .int) (by decide)
    refine own_by (g' := (mkF m 26 #[iv q1] [(.ref b102)])) st102 ?_
    refine own_by (g' := (mkF m 28 #[iv q1] [(.int q1), (.ref b102), (.ref b102)])) (fun t k => XS.dup X102.here hx rfl (hb hby own_d6_26) rfl rfl (XS.iloadN X102.here hx rfl (hb hby own_d6_27) rfl k)) ?_
    refine own_callI X102 hx hZ hown rfl (hw _ (List.mem_of_getElem? (i := 191) rfl)) (hw _ (List.mem_of_getElem? (i := 192) rfl)) (hw _ (List.mem_of_getElem? (i := 35) rfl)) (hw _ (List.mem_of_getElem? (i := 194) rfl)) (by decide) (a := b102) (own_iinit l Z a0 hw [] (b102) (q1) h102 n0 (Nat.le_trans Z0 E102.1) A102 f103 g_b102) 1 (by decide) (by decide) (by decide) (by decide) e102 (g := (mkF m 28 #[iv q1] [(.int q1), (.ref b102), (.ref b102)])) rfl (by rw [hml]; rfl) (argsL := [(.int q1)]) (rest := [(.ref b102)]) (lenOf own_pd1 rfl) rfl (by show 2 * 0 + _ ≤ _; exact Nat.le_of_eq rfl) (hb hby own_d6_28) ?_
    intro v104 T104 L104 X104 q104
    obtain ⟨rfl, N104q, K104, f105, f106⟩ := q104
    have N104 := Fr.app N0 N104q
    show own_Goes p e below s _ _ _ T104 (mkF m 31 #[iv q1] [(.ref b102)])
    refine own_retA X104 hx hlk hret rfl rfl (hb hby own_d6_31) (by decide) (by decide) ?_
    exact ⟨b102, rfl, N104, (((Keep.refl h0 []).ext E102).trans K104 (allS (Or.inr sz_b102) all0)), f105⟩
  ·
    refine own_by (g' := (mkF m 7 #[iv q1] [(.int q1)])) (fun t k => XS.icmpNo X0.here hx rfl (hb hby own_d6_3) rfl (flt hc101).1 (XS.iloadN X0.here hx rfl (hb hby own_d6_6) rfl k)) ?_
    obtain ⟨T107, X107, e107, st107⟩ := getS2 X0 hx hZ hown (host := "") (Or.inl (hw _ (List.mem_of_getElem? (i := 37) rfl))) Via.refl e0 (S_high.ext O0.2) (g := (mkF m 7 #[iv q1] [(.int q1)])) rfl (hb hby own_d6_7)
    refine own_by (g' := (mkF m 10 #[iv q1] [(.int (127 : Int32)), (.int q1)])) st107 ?_
    by_cases hc108 : (127 : Int32) < q1
    ·
      refine own_by (g' := (mkF m 23 #[iv q1] [])) (fun t k => XS.icmpYes X107.here hx rfl (pc0 := 10) (pc' := 23) rfl (hb hby own_d6_10) rfl (tlt hc108).2.2.1 (by decide) (by decide) k) ?_
      obtain ⟨T109, h109, X109, e109, E109, A109, D109, U109, st109⟩ := newO X107 hx hZ hown (hw _ (List.mem_of_getElem? (i := 189) rfl)) (hw _ (List.mem_of_getElem? (i := 190) rfl)) (hw _ (List.mem_of_getElem? (i := 35) rfl)) e107 (g := (mkF m 23 #[iv q1] [])) rfl (hb hby own_d6_23) (by decide) (by decide)
      obtain ⟨b109, g109⟩ : ∃ z, z = h0.size := ⟨_, rfl⟩
      rw [← g109] at A109 D109 U109 st109
      have sz_b109 : h0.size ≤ b109 := Nat.le_trans (Nat.le_refl _) (Nat.le_of_eq g109.symm)
      have g_b109 : n0 ≤ b109 := Nat.le_trans Z0 sz_b109
      have f110 : Fld Z h109 b109 "java/lang/Integer" "value" "I" (.int (0 : Int32)) := D109 (Or.inr (hw _ (List.mem_of_getElem? (i := 203) rfl))) (ty := .int) (by decide)
      refine own_by (g' := (mkF m 26 #[iv q1] [(.ref b109)])) st109 ?_
      refine own_by (g' := (mkF m 28 #[iv q1] [(.int q1), (.ref b109), (.ref b109)])) (fun t k => XS.dup X109.here hx rfl (hb hby own_d6_26) rfl rfl (XS.iloadN X109.here hx rfl (hb hby own_d6_27) rfl k)) ?_
      refine own_callI X109 hx hZ hown rfl (hw _ (List.mem_of_getElem? (i := 191) rfl)) (hw _ (List.mem_of_getElem? (i := 192) rfl)) (hw _ (List.mem_of_getElem? (i := 35) rfl)) (hw _ (List.mem_of_getElem? (i := 194) rfl)) (by decide) (a := b109) (own_iinit l Z a0 hw [] (b109) (q1) h109 n0 (Nat.le_trans Z0 E109.1) A109 f110 g_b109) 1 (by decide) (by decide) (by decide) (by decide) e109 (g := (mkF m 28 #[iv q1] [(.int q1), (.ref b109), (.ref b109)])) rfl (by rw [hml]; rfl) (argsL := [(.int q1)]) (rest := [(.ref b109)]) (lenOf own_pd1 rfl) rfl (by show 2 * 0 + _ ≤ _; exact Nat.le_of_eq rfl) (hb hby own_d6_28) ?_
      intro v111 T111 L111 X111 q111
      obtain ⟨rfl, N111q, K111, f112, f113⟩ := q111
      have N111 := Fr.app N0 N111q
      show own_Goes p e below s _ _ _ T111 (mkF m 31 #[iv q1] [(.ref b109)])
      refine own_retA X111 hx hlk hret rfl rfl (hb hby own_d6_31) (by decide) (by decide) ?_
      exact ⟨b109, rfl, N111, (((Keep.refl h0 []).ext E109).trans K111 (allS (Or.inr sz_b109) all0)), f112⟩
    ·
      refine own_by (g' := (mkF m 13 #[iv q1] [])) (fun t k => XS.icmpNo X107.here hx rfl (hb hby own_d6_10) rfl (flt hc108).2.2.1 k) ?_
      obtain ⟨T114, X114, e114, st114⟩ := getS2 X107 hx hZ hown (host := "") (Or.inl (hw _ (List.mem_of_getElem? (i := 39) rfl))) Via.refl e107 (S_cache.ext O0.2) (g := (mkF m 13 #[iv q1] [])) rfl (hb hby own_d6_13)
      refine own_by (g' := (mkF m 16 #[iv q1] [(.ref zc)])) st114 ?_
      refine own_by (g' := (mkF m 21 #[iv q1] [(.int (q1 + (128 : Int32))), (.ref zc)])) (fun t k => XS.iloadN X114.here hx rfl (hb hby own_d6_16) rfl (XS.sipush X114.here hx rfl (hb hby own_d6_17) (XS.iadd X114.here hx rfl (hb hby own_d6_20) rfl k))) ?_
      obtain ⟨cl, AL, hz, hAll⟩ := hIC
      obtain ⟨y115, hat, EY⟩ := hAll q1 hc101 hc108
      obtain ⟨hb1, -⟩ := IntBox.place_ok q1 hc101 hc108
      have AL2 := AL.ext O0.2
      have EY2 := EY.ext O0.2
      refine own_by (g' := (mkF m 22 #[iv q1] [(.ref y115)])) (fun t k => X114.aaload hx (j := (q1 + (128 : Int32))) (v := (.ref y115)) (own_at_ e114 AL2.1) (State.isArrayOf_alike hZ.alike AL2.2.1) rfl AL2.2.2 (by rw [hz]; exact hb1) hat (g := (mkF m 21 #[iv q1] [(.int (q1 + (128 : Int32))), (.ref zc)])) rfl rfl (hb hby own_d6_21) t k) ?_
      refine own_retA X114 hx hlk hret rfl rfl (hb hby own_d6_22) (by decide) (by decide) ?_
      rw [e114]
      exact ⟨y115, rfl, N0, (Keep.refl h0 []), EY2⟩
theorem own_arz0 {args : Array Value} {s : State} {C n d : String} (hi : (Cond.initialized C).before args s = true) (hl : (Cond.laysStatic C n d).before args s = true) (h2 : (Cond.arrayOf (Term.static C n d) (.object "java/lang/Object")).before args s = true) (h3 : (Cond.eq (Term.length (Term.static C n d)) (Term.int (0 : Int32))).before args s = true) :
    ∃ zd : Addr, Sta s s.heap C n d (.ref zd) ∧ own_Arz s s.heap zd (.object "java/lang/Object") (0 : Int32) := by
  obtain ⟨zd, ev⟩ := arr_v (Cond.before_iff.mp h2)
  obtain ⟨cl, A⟩ := Arr.start ev (Cond.before_iff.mp h2)
  obtain ⟨hsz, hsize⟩ := IntBox.length_fwd h3 ev A.1 A.2.1 A.2.2
  have hn : cl.slots.size = 0 := by
    have e := len_toInt hsz
    rw [hsize, show (0 : Int32).toInt = 0 from by decide] at e
    omega
  exact ⟨zd, Sta.start ev (Or.inr ⟨hi, hl⟩), cl, A, hn, by decide⟩
theorem own_pn2 : plainName "java/util/AbstractCollection" = true := by first | (simp [plainName, overriddenIn]; done) | decide +kernel
theorem own_d12_0 : decode jdk_22_method_1_code 0 = .ok (.aload_n 0, 1) := by decide +kernel
theorem own_d12_1 : decode jdk_22_method_1_code 1 = .ok (.invokespecial 1, 3) := by decide +kernel
theorem own_d12_4 : decode jdk_22_method_1_code 4 = .ok (.return_, 1) := by decide +kernel
def Q_own_acol (Z : State) (r1 : Addr) (h0 : Heap) (n0 : Nat) (v : Option Value) (h : Heap) (L : List Loc) : Prop := v = none ∧ Fr n0 L ∧ h = h0
theorem own_ef_own_acol (m : MethodId) (r1 : Addr) : entryFrame m #[(.ref r1)] 1 = mkF m 0 #[rv r1] [] := by first | (simp [entryFrame, mkF, argsToLocals, Value.category]; done) | rfl
set_option maxRecDepth 65536 in
set_option maxHeartbeats 40000000 in
theorem own_acol (l : Launch) (Z : State) (a0 : Array Value) (hw : ∀ d ∈ tables_1, d.before a0 Z = true) (ws : List Jvm.Cond) (r1 : Addr) (h0 : Heap) (n0 : Nat) (Z0 : n0 ≤ h0.size)  :
    own_Ctr l Z (⟨"java/util/AbstractCollection", "<init>", "()V"⟩ : MethodName) jdk_22_method_1_code 1 none ws ({ frames := 1, cells := 0, slots := 0, locals := 12 } : Room) (({ frames := 1, cells := 0, slots := 0, locals := 12 } : Room)).cells (({ frames := 1, cells := 0, slots := 0, locals := 12 } : Room)).slots #[(.ref r1)] h0 (Q_own_acol Z r1 h0 n0) := by
  refine own_enter (plainFor_of_name own_pn2) ?_
  intro p e s m below meth c s₁ X0 hx hZ hby hml hown hnm hlk hret e0
  have N0 := Fr.nil n0
  refine own_cast (own_ef_own_acol m r1) ?_
  refine own_by (g' := (mkF m 1 #[rv r1] [(.ref r1)])) (fun t k => XS.aloadN X0.here hx rfl (hb hby own_d12_0) rfl rfl k) ?_
  obtain ⟨T101, X101, e101, st101⟩ := initO X0 hx hZ hown (hw _ (List.mem_of_getElem? (i := 77) rfl)) (hw _ (List.mem_of_getElem? (i := 7) rfl)) (hw _ (List.mem_of_getElem? (i := 8) rfl)) e0 (g := (mkF m 1 #[rv r1] [(.ref r1)])) rfl (by rw [hml]; rfl) rfl (hb hby own_d12_1) (by decide) (W := 0) (by show 2 * 0 + _ ≤ _; exact Nat.le_of_eq rfl) (by decide)
  refine own_by (g' := (mkF m 4 #[rv r1] [])) st101 ?_
  refine own_retV X101 hx hlk hret (hb hby own_d12_4) (by decide) (by decide) ?_
  exact ⟨rfl, N0, e101⟩
theorem own_pn3 : plainName "java/util/AbstractList" = true := by first | (simp [plainName, overriddenIn]; done) | decide +kernel
theorem own_d11_0 : decode jdk_39_method_1_code 0 = .ok (.aload_n 0, 1) := by decide +kernel
theorem own_d11_1 : decode jdk_39_method_1_code 1 = .ok (.invokespecial 1, 3) := by decide +kernel
theorem own_d11_4 : decode jdk_39_method_1_code 4 = .ok (.aload_n 0, 1) := by decide +kernel
theorem own_d11_5 : decode jdk_39_method_1_code 5 = .ok (.iconst 0, 1) := by decide +kernel
theorem own_d11_6 : decode jdk_39_method_1_code 6 = .ok (.putfield 7, 3) := by decide +kernel
theorem own_d11_9 : decode jdk_39_method_1_code 9 = .ok (.return_, 1) := by decide +kernel
def Q_own_alst (Z : State) (r1 : Addr) (h0 : Heap) (n0 : Nat) (v : Option Value) (h : Heap) (L : List Loc) : Prop := v = none ∧ Fr n0 L ∧ Keep h0 h [r1] ∧ Exa Z h r1 "java/util/ArrayList" ∧ Fld Z h r1 "java/util/AbstractList" "modCount" "I" (.int (0 : Int32)) ∧ Fld Z h r1 "java/util/ArrayList" "elementData" "[Ljava/lang/Object;" .null ∧ Fld Z h r1 "java/util/ArrayList" "size" "I" (.int (0 : Int32))
theorem own_ef_own_alst (m : MethodId) (r1 : Addr) : entryFrame m #[(.ref r1)] 1 = mkF m 0 #[rv r1] [] := by first | (simp [entryFrame, mkF, argsToLocals, Value.category]; done) | rfl
set_option maxRecDepth 65536 in
set_option maxHeartbeats 40000000 in
theorem own_alst (l : Launch) (Z : State) (a0 : Array Value) (hw : ∀ d ∈ tables_1, d.before a0 Z = true) (ws : List Jvm.Cond) (r1 : Addr) (h0 : Heap) (n0 : Nat) (Z0 : n0 ≤ h0.size) (Fe : Exa Z h0 r1 "java/util/ArrayList") (Fm : Fld Z h0 r1 "java/util/AbstractList" "modCount" "I" (.int (0 : Int32))) (Fd : Fld Z h0 r1 "java/util/ArrayList" "elementData" "[Ljava/lang/Object;" .null) (Fs : Fld Z h0 r1 "java/util/ArrayList" "size" "I" (.int (0 : Int32))) (g1 : n0 ≤ r1) :
    own_Ctr l Z (⟨"java/util/AbstractList", "<init>", "()V"⟩ : MethodName) jdk_39_method_1_code 1 none ws ({ frames := 2, cells := 0, slots := 0, locals := 24 } : Room) (({ frames := 2, cells := 0, slots := 0, locals := 24 } : Room)).cells (({ frames := 2, cells := 0, slots := 0, locals := 24 } : Room)).slots #[(.ref r1)] h0 (Q_own_alst Z r1 h0 n0) := by
  refine own_enter (plainFor_of_name own_pn3) ?_
  intro p e s m below meth c s₁ X0 hx hZ hby hml hown hnm hlk hret e0
  have N0 := Fr.nil n0
  refine own_cast (own_ef_own_alst m r1) ?_
  refine own_by (g' := (mkF m 1 #[rv r1] [(.ref r1)])) (fun t k => XS.aloadN X0.here hx rfl (hb hby own_d11_0) rfl rfl k) ?_
  refine own_callI X0 hx hZ hown rfl (hw _ (List.mem_of_getElem? (i := 71) rfl)) (hw _ (List.mem_of_getElem? (i := 72) rfl)) (hw _ (List.mem_of_getElem? (i := 75) rfl)) (hw _ (List.mem_of_getElem? (i := 76) rfl)) (by decide) (a := r1) (own_acol l Z a0 hw [] (r1) h0 n0 Z0 ) 0 (by decide) (by decide) (by decide) (by decide) e0 (g := (mkF m 1 #[rv r1] [(.ref r1)])) rfl (by rw [hml]; rfl) (argsL := []) (rest := []) (lenOf own_pd0 rfl) rfl (by show 2 * 0 + _ ≤ _; exact Nat.le_of_eq rfl) (hb hby own_d11_1) ?_
  intro v101 T101 L101 X101 q101
  obtain ⟨rfl, N101q, e101⟩ := q101
  have N101 := Fr.app N0 N101q
  show own_Goes p e below s _ _ _ T101 (mkF m 4 #[rv r1] [])
  refine own_by (g' := (mkF m 6 #[rv r1] [(.int (0 : Int32)), (.ref r1)])) (fun t k => XS.aloadN X101.here hx rfl (hb hby own_d11_4) rfl rfl (XS.iconst X101.here hx rfl (hb hby own_d11_5) k)) ?_
  obtain ⟨T102, h102, X102, e102, W102, st102⟩ := putF X101 hx hZ hown (host := "") (Or.inl (hw _ (List.mem_of_getElem? (i := 78) rfl))) Via.refl e101 Fm Fe (Or.inl (hw _ (List.mem_of_getElem? (i := 79) rfl))) (hw _ (List.mem_of_getElem? (i := 60) rfl)) (ty := .int) (by decide) rfl rfl (g := (mkF m 6 #[rv r1] [(.int (0 : Int32)), (.ref r1)])) rfl rfl (hb hby own_d11_6)
  have f103 := Fm.same W102
  have N102 := Fr.snoc X102 N101 g1
  refine own_by (g' := (mkF m 9 #[rv r1] [])) st102 ?_
  have f104 := (Fe.wr W102)
  have f105 := (Fd.other W102 (Or.inr (slot_ne (Or.inl (hw _ (List.mem_of_getElem? (i := 82) rfl))) (Or.inl (hw _ (List.mem_of_getElem? (i := 79) rfl))) (by decide) (t := (.array (.object "java/lang/Object"))) (t' := .int) (by decide) (by decide))))
  have f106 := (Fs.other W102 (Or.inr (slot_ne (Or.inl (hw _ (List.mem_of_getElem? (i := 95) rfl))) (Or.inl (hw _ (List.mem_of_getElem? (i := 79) rfl))) (by decide) (t := .int) (t' := .int) (by decide) (by decide))))
  refine own_retV X102 hx hlk hret (hb hby own_d11_9) (by decide) (by decide) ?_
  rw [e102]
  exact ⟨rfl, N102, ((Keep.refl h0 [r1]).wr W102 (Or.inl (List.mem_of_getElem? (i := 0) rfl))), f104, f103, f105, f106⟩
theorem own_pn4 : plainName "java/util/ArrayList" = true := by first | (simp [plainName, overriddenIn]; done) | decide +kernel
theorem own_d10_0 : decode jdk_38_method_2_code 0 = .ok (.aload_n 0, 1) := by decide +kernel
theorem own_d10_1 : decode jdk_38_method_2_code 1 = .ok (.invokespecial 1, 3) := by decide +kernel
theorem own_d10_4 : decode jdk_38_method_2_code 4 = .ok (.aload_n 0, 1) := by decide +kernel
theorem own_d10_5 : decode jdk_38_method_2_code 5 = .ok (.getstatic 39, 3) := by decide +kernel
theorem own_d10_8 : decode jdk_38_method_2_code 8 = .ok (.putfield 9, 3) := by decide +kernel
theorem own_d10_11 : decode jdk_38_method_2_code 11 = .ok (.return_, 1) := by decide +kernel
def Q_own_alini (Z : State) (r1 : Addr) (zd : Addr) (h0 : Heap) (n0 : Nat) (v : Option Value) (h : Heap) (L : List Loc) : Prop := v = none ∧ Fr n0 L ∧ Keep h0 h [r1] ∧ Exa Z h r1 "java/util/ArrayList" ∧ Fld Z h r1 "java/util/AbstractList" "modCount" "I" (.int (0 : Int32)) ∧ Fld Z h r1 "java/util/ArrayList" "elementData" "[Ljava/lang/Object;" (.ref zd) ∧ Fld Z h r1 "java/util/ArrayList" "size" "I" (.int (0 : Int32))
theorem own_ef_own_alini (m : MethodId) (r1 : Addr) : entryFrame m #[(.ref r1)] 1 = mkF m 0 #[rv r1] [] := by first | (simp [entryFrame, mkF, argsToLocals, Value.category]; done) | rfl
set_option maxRecDepth 65536 in
set_option maxHeartbeats 40000000 in
theorem own_alini (l : Launch) (Z : State) (a0 : Array Value) (hw : ∀ d ∈ tables_1, d.before a0 Z = true) (ws : List Jvm.Cond) (r1 : Addr) (zd : Addr) (h0 : Heap) (n0 : Nat) (Z0 : n0 ≤ h0.size) (Fe : Exa Z h0 r1 "java/util/ArrayList") (Fm : Fld Z h0 r1 "java/util/AbstractList" "modCount" "I" (.int (0 : Int32))) (Fd : Fld Z h0 r1 "java/util/ArrayList" "elementData" "[Ljava/lang/Object;" .null) (Fs : Fld Z h0 r1 "java/util/ArrayList" "size" "I" (.int (0 : Int32))) (g1 : n0 ≤ r1) (O0 : Old Z n0 h0) (S_dflt : Sta Z Z.heap "java/util/ArrayList" "DEFAULTCAPACITY_EMPTY_ELEMENTDATA" "[Ljava/lang/Object;" (.ref zd)) (Yd : own_Arz Z h0 zd (.object "java/lang/Object") (0 : Int32)) :
    own_Ctr l Z (⟨"java/util/ArrayList", "<init>", "()V"⟩ : MethodName) jdk_38_method_2_code 1 none ws ({ frames := 3, cells := 0, slots := 0, locals := 36 } : Room) (({ frames := 3, cells := 0, slots := 0, locals := 36 } : Room)).cells (({ frames := 3, cells := 0, slots := 0, locals := 36 } : Room)).slots #[(.ref r1)] h0 (Q_own_alini Z r1 zd h0 n0) := by
  refine own_enter (plainFor_of_name own_pn4) ?_
  intro p e s m below meth c s₁ X0 hx hZ hby hml hown hnm hlk hret e0
  have N0 := Fr.nil n0
  refine own_cast (own_ef_own_alini m r1) ?_
  refine own_by (g' := (mkF m 1 #[rv r1] [(.ref r1)])) (fun t k => XS.aloadN X0.here hx rfl (hb hby own_d10_0) rfl rfl k) ?_
  refine own_callI X0 hx hZ hown rfl (hw _ (List.mem_of_getElem? (i := 65) rfl)) (hw _ (List.mem_of_getElem? (i := 66) rfl)) (hw _ (List.mem_of_getElem? (i := 69) rfl)) (hw _ (List.mem_of_getElem? (i := 70) rfl)) (by decide) (a := r1) (own_alst l Z a0 hw [] (r1) h0 n0 Z0 Fe Fm Fd Fs g1) 0 (by decide) (by decide) (by decide) (by decide) e0 (g := (mkF m 1 #[rv r1] [(.ref r1)])) rfl (by rw [hml]; rfl) (argsL := []) (rest := []) (lenOf own_pd0 rfl) rfl (by show 2 * 0 + _ ≤ _; exact Nat.le_of_eq rfl) (hb hby own_d10_1) ?_
  intro v101 T101 L101 X101 q101
  obtain ⟨rfl, N101q, K101, f102, f103, f104, f105⟩ := q101
  have N101 := Fr.app N0 N101q
  show own_Goes p e below s _ _ _ T101 (mkF m 4 #[rv r1] [])
  refine own_by (g' := (mkF m 5 #[rv r1] [(.ref r1)])) (fun t k => XS.aloadN X101.here hx rfl (hb hby own_d10_4) rfl rfl k) ?_
  have f106 := (O0.keep K101 (allS g1 all0))
  obtain ⟨T107, X107, e107, st107⟩ := getS2 X101 hx hZ hown (host := "") (Or.inl (hw _ (List.mem_of_getElem? (i := 80) rfl))) Via.refl rfl (S_dflt.ext f106.2) (g := (mkF m 5 #[rv r1] [(.ref r1)])) rfl (hb hby own_d10_5)
  refine own_by (g' := (mkF m 8 #[rv r1] [(.ref zd), (.ref r1)])) st107 ?_
  obtain ⟨T108, h108, X108, e108, W108, st108⟩ := putF X107 hx hZ hown (host := "") (Or.inl (hw _ (List.mem_of_getElem? (i := 81) rfl))) Via.refl e107 f104 f102 (Or.inl (hw _ (List.mem_of_getElem? (i := 82) rfl))) (hw _ (List.mem_of_getElem? (i := 60) rfl)) (ty := (.array (.object "java/lang/Object"))) (by decide) rfl rfl (g := (mkF m 8 #[rv r1] [(.ref zd), (.ref r1)])) rfl rfl (hb hby own_d10_8)
  have f109 := f104.same W108
  have N108 := Fr.snoc X108 N101 g1
  refine own_by (g' := (mkF m 11 #[rv r1] [])) st108 ?_
  have f110 := (f102.wr W108)
  have f111 := (f103.other W108 (Or.inr (slot_ne (Or.inl (hw _ (List.mem_of_getElem? (i := 79) rfl))) (Or.inl (hw _ (List.mem_of_getElem? (i := 82) rfl))) (by decide) (t := .int) (t' := (.array (.object "java/lang/Object"))) (by decide) (by decide))))
  have f112 := (f105.other W108 (Or.inr (slot_ne (Or.inl (hw _ (List.mem_of_getElem? (i := 95) rfl))) (Or.inl (hw _ (List.mem_of_getElem? (i := 82) rfl))) (by decide) (t := .int) (t' := (.array (.object "java/lang/Object"))) (by decide) (by decide))))
  refine own_retV X108 hx hlk hret (hb hby own_d10_11) (by decide) (by decide) ?_
  rw [e108]
  exact ⟨rfl, N108, (((Keep.refl h0 [r1]).trans K101 (allS (Or.inl (List.mem_of_getElem? (i := 0) rfl)) all0)).wr W108 (Or.inl (List.mem_of_getElem? (i := 0) rfl))), f110, f111, f109, f112⟩
theorem own_d17_0 : decode jdk_29_method_65_code 0 = .ok (.iload_n 0, 1) := by decide +kernel
theorem own_d17_1 : decode jdk_29_method_65_code 1 = .ok (.iload_n 1, 1) := by decide +kernel
theorem own_d17_2 : decode jdk_29_method_65_code 2 = .ok (.if_icmp .lt 7, 3) := by decide +kernel
theorem own_d17_5 : decode jdk_29_method_65_code 5 = .ok (.iload_n 0, 1) := by decide +kernel
theorem own_d17_6 : decode jdk_29_method_65_code 6 = .ok (.goto 4, 3) := by decide +kernel
theorem own_d17_10 : decode jdk_29_method_65_code 10 = .ok (.ireturn, 1) := by decide +kernel
def Q_own_max10 (Z : State)  (h0 : Heap) (n0 : Nat) (v : Option Value) (h : Heap) (L : List Loc) : Prop := v = some (.int (10 : Int32)) ∧ Fr n0 L ∧ h = h0
theorem own_ef_own_max10 (m : MethodId)  : entryFrame m #[(.int (10 : Int32)), (.int (1 : Int32))] 2 = mkF m 0 #[iv (10 : Int32), iv (1 : Int32)] [] := by first | (simp [entryFrame, mkF, argsToLocals, Value.category]; done) | rfl
set_option maxRecDepth 65536 in
set_option maxHeartbeats 40000000 in
theorem own_max10 (l : Launch) (Z : State) (a0 : Array Value) (hw : ∀ d ∈ tables_1, d.before a0 Z = true) (ws : List Jvm.Cond)  (h0 : Heap) (n0 : Nat) (Z0 : n0 ≤ h0.size)  :
    own_Ctr l Z (⟨"java/lang/Math", "max", "(II)I"⟩ : MethodName) jdk_29_method_65_code 2 (some .int) ws ({ frames := 0, cells := 0, slots := 0, locals := 0 } : Room) (({ frames := 0, cells := 0, slots := 0, locals := 0 } : Room)).cells (({ frames := 0, cells := 0, slots := 0, locals := 0 } : Room)).slots #[(.int (10 : Int32)), (.int (1 : Int32))] h0 (Q_own_max10 Z  h0 n0) := by
  refine own_enter (Jvm.Free.JP.mathPlain rfl (by decide +kernel)) ?_
  intro p e s m below meth c s₁ X0 hx hZ hby hml hown hnm hlk hret e0
  have N0 := Fr.nil n0
  refine own_cast (own_ef_own_max10 m ) ?_
  refine own_by (g' := (mkF m 10 #[iv (10 : Int32), iv (1 : Int32)] [(.int (10 : Int32))])) (fun t k => XS.iloadN X0.here hx rfl (hb hby own_d17_0) rfl (XS.iloadN X0.here hx rfl (hb hby own_d17_1) rfl (XS.icmpNo X0.here hx rfl (hb hby own_d17_2) rfl (flt (by decide : ¬ ((10 : Int32) < (1 : Int32)))).1 (XS.iloadN X0.here hx rfl (hb hby own_d17_5) rfl (XS.goto X0.here hx rfl (pc0 := 6) (pc' := 10) rfl (hb hby own_d17_6) (by decide) (by decide) k))))) ?_
  refine own_retI X0 hx hlk hret (hb hby own_d17_10) (by decide) (by decide) ?_
  exact ⟨rfl, N0, e0⟩
theorem own_d16_0 : decode jdk_38_method_6_code 0 = .ok (.aload_n 0, 1) := by decide +kernel
theorem own_d16_1 : decode jdk_38_method_6_code 1 = .ok (.getfield 9, 3) := by decide +kernel
theorem own_d16_4 : decode jdk_38_method_6_code 4 = .ok (.arraylength, 1) := by decide +kernel
theorem own_d16_5 : decode jdk_38_method_6_code 5 = .ok (.istore_n 2, 1) := by decide +kernel
theorem own_d16_6 : decode jdk_38_method_6_code 6 = .ok (.iload_n 2, 1) := by decide +kernel
theorem own_d16_7 : decode jdk_38_method_6_code 7 = .ok (.ifCond .gt 13, 3) := by decide +kernel
theorem own_d16_10 : decode jdk_38_method_6_code 10 = .ok (.aload_n 0, 1) := by decide +kernel
theorem own_d16_11 : decode jdk_38_method_6_code 11 = .ok (.getfield 9, 3) := by decide +kernel
theorem own_d16_14 : decode jdk_38_method_6_code 14 = .ok (.getstatic 39, 3) := by decide +kernel
theorem own_d16_17 : decode jdk_38_method_6_code 17 = .ok (.if_acmp .eq 28, 3) := by decide +kernel
theorem own_d16_45 : decode jdk_38_method_6_code 45 = .ok (.aload_n 0, 1) := by decide +kernel
theorem own_d16_46 : decode jdk_38_method_6_code 46 = .ok (.bipush 10, 2) := by decide +kernel
theorem own_d16_48 : decode jdk_38_method_6_code 48 = .ok (.iload_n 1, 1) := by decide +kernel
theorem own_d16_49 : decode jdk_38_method_6_code 49 = .ok (.invokestatic 79, 3) := by decide +kernel
theorem own_pd2 : parseMethodDescriptor "(II)I" = some ⟨[.int, .int], some .int⟩ := by decide +kernel
theorem own_d16_52 : decode jdk_38_method_6_code 52 = .ok (.anewarray 7, 3) := by decide +kernel
theorem own_ad_java_lang_Object : "[" ++ (FieldType.object "java/lang/Object").toString = "[Ljava/lang/Object;" := by decide +kernel
theorem own_d16_55 : decode jdk_38_method_6_code 55 = .ok (.dup_x1, 1) := by decide +kernel
theorem own_d16_56 : decode jdk_38_method_6_code 56 = .ok (.putfield 9, 3) := by decide +kernel
theorem own_d16_59 : decode jdk_38_method_6_code 59 = .ok (.areturn, 1) := by decide +kernel
def Q_own_grow1 (Z : State) (r1 : Addr) (zd : Addr) (um : Int32) (h0 : Heap) (n0 : Nat) (v : Option Value) (h : Heap) (L : List Loc) : Prop := ∃ (ba : Addr), ∃ (ka : ClassId), v = some (.ref ba) ∧ Fr n0 L ∧ Keep h0 h [r1] ∧ h0.size ≤ ba ∧ Arv Z h ba ka (.object "java/lang/Object") (10 : Int32) [.null, .null, .null, .null, .null, .null, .null, .null, .null, .null] .null ∧ Ovr Z ka "java/lang/Object" ∧ Exa Z h r1 "java/util/ArrayList" ∧ Fld Z h r1 "java/util/AbstractList" "modCount" "I" (.int um) ∧ Fld Z h r1 "java/util/ArrayList" "elementData" "[Ljava/lang/Object;" (.ref ba) ∧ Fld Z h r1 "java/util/ArrayList" "size" "I" (.int (0 : Int32))
theorem own_ef_own_grow1 (m : MethodId) (r1 : Addr) : entryFrame m #[(.ref r1), (.int (1 : Int32))] 4 = mkF m 0 #[rv r1, iv (1 : Int32), .unset, .unset] [] := by first | (simp [entryFrame, mkF, argsToLocals, Value.category]; done) | rfl
set_option maxRecDepth 65536 in
set_option maxHeartbeats 40000000 in
theorem own_grow1 (l : Launch) (Z : State) (a0 : Array Value) (hw : ∀ d ∈ tables_1, d.before a0 Z = true) (ws : List Jvm.Cond) (r1 : Addr) (zd : Addr) (um : Int32) (h0 : Heap) (n0 : Nat) (Z0 : n0 ≤ h0.size) (Fe : Exa Z h0 r1 "java/util/ArrayList") (Fm : Fld Z h0 r1 "java/util/AbstractList" "modCount" "I" (.int um)) (Fd : Fld Z h0 r1 "java/util/ArrayList" "elementData" "[Ljava/lang/Object;" (.ref zd)) (Fs : Fld Z h0 r1 "java/util/ArrayList" "size" "I" (.int (0 : Int32))) (g1 : n0 ≤ r1) (O0 : Old Z n0 h0) (S_dflt : Sta Z Z.heap "java/util/ArrayList" "DEFAULTCAPACITY_EMPTY_ELEMENTDATA" "[Ljava/lang/Object;" (.ref zd)) (Yd : own_Arz Z h0 zd (.object "java/lang/Object") (0 : Int32)) :
    own_Ctr l Z (⟨"java/util/ArrayList", "grow", "(I)[Ljava/lang/Object;"⟩ : MethodName) jdk_38_method_6_code 4 (some (.array (.object "java/lang/Object"))) ws ({ frames := 1, cells := 1, slots := 10, locals := 14 } : Room) (({ frames := 1, cells := 1, slots := 10, locals := 14 } : Room)).cells (({ frames := 1, cells := 1, slots := 10, locals := 14 } : Room)).slots #[(.ref r1), (.int (1 : Int32))] h0 (Q_own_grow1 Z r1 zd um h0 n0) := by
  refine own_enter (plainFor_of_name own_pn4) ?_
  intro p e s m below meth c s₁ X0 hx hZ hby hml hown hnm hlk hret e0
  have N0 := Fr.nil n0
  refine own_cast (own_ef_own_grow1 m r1) ?_
  refine own_by (g' := (mkF m 1 #[rv r1, iv (1 : Int32), .unset, .unset] [(.ref r1)])) (fun t k => XS.aloadN X0.here hx rfl (hb hby own_d16_0) rfl rfl k) ?_
  obtain ⟨T101, X101, e101, st101⟩ := getF X0 hx hZ hown (host := "") (Or.inl (hw _ (List.mem_of_getElem? (i := 81) rfl))) Via.refl e0 Fd (g := (mkF m 1 #[rv r1, iv (1 : Int32), .unset, .unset] [(.ref r1)])) rfl rfl (hb hby own_d16_1)
  refine own_by (g' := (mkF m 4 #[rv r1, iv (1 : Int32), .unset, .unset] [(.ref zd)])) st101 ?_
  obtain ⟨c102, Ar102, S102, G102⟩ := id Yd
  refine own_by (g' := (mkF m 5 #[rv r1, iv (1 : Int32), .unset, .unset] [(.int (0 : Int32))])) (fun t k => X101.arraylength hx (own_at_ e101 Ar102.1) (State.isArrayOf_alike hZ.alike Ar102.2.1) (g := (mkF m 4 #[rv r1, iv (1 : Int32), .unset, .unset] [(.ref zd)])) rfl rfl (hb hby own_d16_4) t (by rw [len_of S102 G102]; exact k)) ?_
  refine own_by (g' := (mkF m 11 #[rv r1, iv (1 : Int32), iv (0 : Int32), .unset] [(.ref r1)])) (fun t k => XS.istoreN X101.here hx rfl (hb hby own_d16_5) rfl (l' := #[rv r1, iv (1 : Int32), iv (0 : Int32), .unset]) rfl (XS.iloadN X101.here hx rfl (hb hby own_d16_6) rfl (XS.ifNo X101.here hx rfl (hb hby own_d16_7) rfl ((if0 _ _).trans (flt (by decide : ¬ ((0 : Int32) < (0 : Int32)))).2.2.1) (XS.aloadN X101.here hx rfl (hb hby own_d16_10) rfl rfl k)))) ?_
  obtain ⟨T103, X103, e103, st103⟩ := getF X101 hx hZ hown (host := "") (Or.inl (hw _ (List.mem_of_getElem? (i := 81) rfl))) Via.refl e101 Fd (g := (mkF m 11 #[rv r1, iv (1 : Int32), iv (0 : Int32), .unset] [(.ref r1)])) rfl rfl (hb hby own_d16_11)
  refine own_by (g' := (mkF m 14 #[rv r1, iv (1 : Int32), iv (0 : Int32), .unset] [(.ref zd)])) st103 ?_
  obtain ⟨T104, X104, e104, st104⟩ := getS2 X103 hx hZ hown (host := "") (Or.inl (hw _ (List.mem_of_getElem? (i := 80) rfl))) Via.refl e103 (S_dflt.ext O0.2) (g := (mkF m 14 #[rv r1, iv (1 : Int32), iv (0 : Int32), .unset] [(.ref zd)])) rfl (hb hby own_d16_14)
  refine own_by (g' := (mkF m 17 #[rv r1, iv (1 : Int32), iv (0 : Int32), .unset] [(.ref zd), (.ref zd)])) st104 ?_
  refine own_by (g' := (mkF m 49 #[rv r1, iv (1 : Int32), iv (0 : Int32), .unset] [(.int (1 : Int32)), (.int (10 : Int32)), (.ref r1)])) (fun t k => Jvm.RoadKit.acmp (g := (mkF m 17 #[rv r1, iv (1 : Int32), iv (0 : Int32), .unset] [(.ref zd), (.ref zd)])) X104 hx rfl rfl rfl (pc0 := 17) (pc' := 45) (same := true) rfl (hb hby own_d16_17) rfl (decide_eq_true rfl) (by decide) (by decide) (XS.aloadN X104.here hx rfl (hb hby own_d16_45) rfl rfl (XS.bipush X104.here hx rfl (hb hby own_d16_46) (XS.iloadN X104.here hx rfl (hb hby own_d16_48) rfl k)))) ?_
  refine own_callS X104 hx hZ hown (hw _ (List.mem_of_getElem? (i := 111) rfl)) (hw _ (List.mem_of_getElem? (i := 112) rfl)) (hw _ (List.mem_of_getElem? (i := 113) rfl)) (hw _ (List.mem_of_getElem? (i := 114) rfl)) (by decide) (own_max10 l Z a0 hw []  h0 n0 Z0 ) 1 (by decide) (by decide) (by decide) (by decide) e104 (g := (mkF m 49 #[rv r1, iv (1 : Int32), iv (0 : Int32), .unset] [(.int (1 : Int32)), (.int (10 : Int32)), (.ref r1)])) rfl (by rw [hml]; rfl) (argsL := [(.int (10 : Int32)), (.int (1 : Int32))]) (rest := [(.ref r1)]) (lenOf own_pd2 rfl) rfl (by show 2 * 0 + _ ≤ _; exact Nat.le_of_eq rfl) (hb hby own_d16_49) ?_
  intro v105 T105 L105 X105 q105
  obtain ⟨rfl, N105q, e105⟩ := q105
  have N105 := Fr.app N0 N105q
  show own_Goes p e below s _ _ _ T105 (mkF m 52 #[rv r1, iv (1 : Int32), iv (0 : Int32), .unset] [(.int (10 : Int32)), (.ref r1)])
  obtain ⟨T106, h106, k106, X106, e106, E106, A106, Y106, O106, st106⟩ := newRE X105 hx hZ hown (hw _ (List.mem_of_getElem? (i := 115) rfl)) (hw _ (List.mem_of_getElem? (i := 28) rfl)) e105 (g := (mkF m 52 #[rv r1, iv (1 : Int32), iv (0 : Int32), .unset] [(.int (10 : Int32)), (.ref r1)])) rfl (hb hby own_d16_52) rfl (by decide) (cap := 10) (by decide) (by decide) (by decide) (by decide) (ad := "[Ljava/lang/Object;") own_ad_java_lang_Object
  obtain ⟨b106, g106⟩ : ∃ z, z = h0.size := ⟨_, rfl⟩
  rw [← g106] at A106 Y106 st106
  have sz_b106 : h0.size ≤ b106 := Nat.le_trans (Nat.le_refl _) (Nat.le_of_eq g106.symm)
  have g_b106 : n0 ≤ b106 := Nat.le_trans Z0 sz_b106
  have V106 : Arv Z h106 b106 k106 (.object "java/lang/Object") (10 : Int32) [.null, .null, .null, .null, .null, .null, .null, .null, .null, .null] .null := (Arv.new A106 (by decide)).pad (pad_rep [] .null 10)
  refine own_by (g' := (mkF m 55 #[rv r1, iv (1 : Int32), iv (0 : Int32), .unset] [(.ref b106), (.ref r1)])) st106 ?_
  refine own_by (g' := (mkF m 56 #[rv r1, iv (1 : Int32), iv (0 : Int32), .unset] [(.ref b106), (.ref r1), (.ref b106)])) (fun t k => XS.dupX1 X106.here hx rfl (hb hby own_d16_55) rfl rfl rfl k) ?_
  have f107 := (Fd.ext E106)
  have f108 := (Fe.ext E106)
  obtain ⟨T109, h109, X109, e109, W109, st109⟩ := putF X106 hx hZ hown (host := "") (Or.inl (hw _ (List.mem_of_getElem? (i := 81) rfl))) Via.refl e106 f107 f108 (Or.inl (hw _ (List.mem_of_getElem? (i := 82) rfl))) (hw _ (List.mem_of_getElem? (i := 60) rfl)) (ty := (.array (.object "java/lang/Object"))) (by decide) rfl rfl (g := (mkF m 56 #[rv r1, iv (1 : Int32), iv (0 : Int32), .unset] [(.ref b106), (.ref r1), (.ref b106)])) rfl rfl (hb hby own_d16_56)
  have f110 := f107.same W109
  have N109 := Fr.snoc X109 N105 g1
  refine own_by (g' := (mkF m 59 #[rv r1, iv (1 : Int32), iv (0 : Int32), .unset] [(.ref b106)])) st109 ?_
  have f111 := (V106.other W109 (Ne.symm (Nat.ne_of_lt (Nat.lt_of_lt_of_le (Nat.lt_of_lt_of_le Fe.lt (Nat.le_refl _)) (Nat.le_of_eq g106.symm)))))
  have f112 := (f108.wr W109)
  have f113 := ((Fm.ext E106).other W109 (Or.inr (slot_ne (Or.inl (hw _ (List.mem_of_getElem? (i := 79) rfl))) (Or.inl (hw _ (List.mem_of_getElem? (i := 82) rfl))) (by decide) (t := .int) (t' := (.array (.object "java/lang/Object"))) (by decide) (by decide))))
  have f114 := ((Fs.ext E106).other W109 (Or.inr (slot_ne (Or.inl (hw _ (List.mem_of_getElem? (i := 95) rfl))) (Or.inl (hw _ (List.mem_of_getElem? (i := 82) rfl))) (by decide) (t := .int) (t' := (.array (.object "java/lang/Object"))) (by decide) (by decide))))
  refine own_retA X109 hx hlk hret rfl rfl (hb hby own_d16_59) (by decide) (by decide) ?_
  rw [e109]
  exact ⟨b106, k106, rfl, N109, (((Keep.refl h0 [r1]).ext E106).wr W109 (Or.inl (List.mem_of_getElem? (i := 0) rfl))), sz_b106, f111, O106, f112, f113, f110, f114⟩
theorem own_d15_0 : decode jdk_38_method_7_code 0 = .ok (.aload_n 0, 1) := by decide +kernel
theorem own_d15_1 : decode jdk_38_method_7_code 1 = .ok (.aload_n 0, 1) := by decide +kernel
theorem own_d15_2 : decode jdk_38_method_7_code 2 = .ok (.getfield 48, 3) := by decide +kernel
theorem own_d15_5 : decode jdk_38_method_7_code 5 = .ok (.iconst 1, 1) := by decide +kernel
theorem own_d15_6 : decode jdk_38_method_7_code 6 = .ok (.iadd, 1) := by decide +kernel
theorem own_d15_7 : decode jdk_38_method_7_code 7 = .ok (.invokevirtual 69, 3) := by decide +kernel
theorem own_pd3 : parseMethodDescriptor "(I)[Ljava/lang/Object;" = some ⟨[.int], some (.array (.object "java/lang/Object"))⟩ := by decide +kernel
theorem own_d15_10 : decode jdk_38_method_7_code 10 = .ok (.areturn, 1) := by decide +kernel
def Q_own_grow0 (Z : State) (r1 : Addr) (zd : Addr) (um : Int32) (h0 : Heap) (n0 : Nat) (v : Option Value) (h : Heap) (L : List Loc) : Prop := ∃ (ba : Addr), ∃ (ka : ClassId), v = some (.ref ba) ∧ Fr n0 L ∧ Keep h0 h [r1] ∧ h0.size ≤ ba ∧ Arv Z h ba ka (.object "java/lang/Object") (10 : Int32) [.null, .null, .null, .null, .null, .null, .null, .null, .null, .null] .null ∧ Ovr Z ka "java/lang/Object" ∧ Exa Z h r1 "java/util/ArrayList" ∧ Fld Z h r1 "java/util/AbstractList" "modCount" "I" (.int um) ∧ Fld Z h r1 "java/util/ArrayList" "elementData" "[Ljava/lang/Object;" (.ref ba) ∧ Fld Z h r1 "java/util/ArrayList" "size" "I" (.int (0 : Int32))
theorem own_ef_own_grow0 (m : MethodId) (r1 : Addr) : entryFrame m #[(.ref r1)] 1 = mkF m 0 #[rv r1] [] := by first | (simp [entryFrame, mkF, argsToLocals, Value.category]; done) | rfl
set_option maxRecDepth 65536 in
set_option maxHeartbeats 40000000 in
theorem own_grow0 (l : Launch) (Z : State) (a0 : Array Value) (hw : ∀ d ∈ tables_1, d.before a0 Z = true) (ws : List Jvm.Cond) (r1 : Addr) (zd : Addr) (um : Int32) (h0 : Heap) (n0 : Nat) (Z0 : n0 ≤ h0.size) (Fe : Exa Z h0 r1 "java/util/ArrayList") (Fm : Fld Z h0 r1 "java/util/AbstractList" "modCount" "I" (.int um)) (Fd : Fld Z h0 r1 "java/util/ArrayList" "elementData" "[Ljava/lang/Object;" (.ref zd)) (Fs : Fld Z h0 r1 "java/util/ArrayList" "size" "I" (.int (0 : Int32))) (g1 : n0 ≤ r1) (O0 : Old Z n0 h0) (S_dflt : Sta Z Z.heap "java/util/ArrayList" "DEFAULTCAPACITY_EMPTY_ELEMENTDATA" "[Ljava/lang/Object;" (.ref zd)) (Yd : own_Arz Z h0 zd (.object "java/lang/Object") (0 : Int32)) :
    own_Ctr l Z (⟨"java/util/ArrayList", "grow", "()[Ljava/lang/Object;"⟩ : MethodName) jdk_38_method_7_code 1 (some (.array (.object "java/lang/Object"))) ws ({ frames := 2, cells := 1, slots := 10, locals := 29 } : Room) (({ frames := 2, cells := 1, slots := 10, locals := 29 } : Room)).cells (({ frames := 2, cells := 1, slots := 10, locals := 29 } : Room)).slots #[(.ref r1)] h0 (Q_own_grow0 Z r1 zd um h0 n0) := by
  refine own_enter (plainFor_of_name own_pn4) ?_
  intro p e s m below meth c s₁ X0 hx hZ hby hml hown hnm hlk hret e0
  have N0 := Fr.nil n0
  refine own_cast (own_ef_own_grow0 m r1) ?_
  refine own_by (g' := (mkF m 2 #[rv r1] [(.ref r1), (.ref r1)])) (fun t k => XS.aloadN X0.here hx rfl (hb hby own_d15_0) rfl rfl (XS.aloadN X0.here hx rfl (hb hby own_d15_1) rfl rfl k)) ?_
  obtain ⟨T101, X101, e101, st101⟩ := getF X0 hx hZ hown (host := "") (Or.inl (hw _ (List.mem_of_getElem? (i := 94) rfl))) Via.refl e0 Fs (g := (mkF m 2 #[rv r1] [(.ref r1), (.ref r1)])) rfl rfl (hb hby own_d15_2)
  refine own_by (g' := (mkF m 5 #[rv r1] [(.int (0 : Int32)), (.ref r1)])) st101 ?_
  refine own_by (g' := (mkF m 7 #[rv r1] [(.int (1 : Int32)), (.ref r1)])) (fun t k => XS.iconst X101.here hx rfl (hb hby own_d15_5) (XS.iadd X101.here hx rfl (hb hby own_d15_6) rfl k)) ?_
  refine own_callP X101 hx hZ hown (hw _ (List.mem_of_getElem? (i := 106) rfl)) (hw _ (List.mem_of_getElem? (i := 107) rfl)) (hw _ (List.mem_of_getElem? (i := 109) rfl)) (hw _ (List.mem_of_getElem? (i := 108) rfl)) (hw _ (List.mem_of_getElem? (i := 110) rfl)) (hw _ (List.mem_of_getElem? (i := 61) rfl)) (by decide) (a := r1) Fe (own_grow1 l Z a0 hw [] (r1) (zd) (um) h0 n0 Z0 Fe Fm Fd Fs g1 O0 S_dflt Yd) 0 (by decide) (by decide) (by decide) (by decide) e101 (g := (mkF m 7 #[rv r1] [(.int (1 : Int32)), (.ref r1)])) rfl (by rw [hml]; rfl) (argsL := [(.int (1 : Int32))]) (rest := []) (lenOf own_pd3 rfl) rfl (by show 2 * 0 + _ ≤ _; exact Nat.le_of_eq rfl) (hb hby own_d15_7) ?_
  intro v102 T102 L102 X102 q102
  obtain ⟨ba102, ka102, rfl, N102q, K102, f103, f104, f105, f106, f107, f108, f109⟩ := q102
  have N102 := Fr.app N0 N102q
  show own_Goes p e below s _ _ _ T102 (mkF m 10 #[rv r1] [(.ref ba102)])
  refine own_retA X102 hx hlk hret rfl rfl (hb hby own_d15_10) (by decide) (by decide) ?_
  exact ⟨ba102, ka102, rfl, N102, ((Keep.refl h0 [r1]).trans K102 (allS (Or.inl (List.mem_of_getElem? (i := 0) rfl)) all0)), (Nat.le_trans (Nat.le_refl _) f103), f104, f105, f106, f107, f108, f109⟩
theorem own_d14_0 : decode jdk_38_method_24_code 0 = .ok (.iload_n 3, 1) := by decide +kernel
theorem own_d14_1 : decode jdk_38_method_24_code 1 = .ok (.aload_n 2, 1) := by decide +kernel
theorem own_d14_2 : decode jdk_38_method_24_code 2 = .ok (.arraylength, 1) := by decide +kernel
theorem own_d14_3 : decode jdk_38_method_24_code 3 = .ok (.if_icmp .ne 8, 3) := by decide +kernel
theorem own_d14_6 : decode jdk_38_method_24_code 6 = .ok (.aload_n 0, 1) := by decide +kernel
theorem own_d14_7 : decode jdk_38_method_24_code 7 = .ok (.invokevirtual 129, 3) := by decide +kernel
theorem own_pd4 : parseMethodDescriptor "()[Ljava/lang/Object;" = some ⟨[], some (.array (.object "java/lang/Object"))⟩ := by decide +kernel
theorem own_d14_10 : decode jdk_38_method_24_code 10 = .ok (.astore_n 2, 1) := by decide +kernel
theorem own_d14_11 : decode jdk_38_method_24_code 11 = .ok (.aload_n 2, 1) := by decide +kernel
theorem own_d14_12 : decode jdk_38_method_24_code 12 = .ok (.iload_n 3, 1) := by decide +kernel
theorem own_d14_13 : decode jdk_38_method_24_code 13 = .ok (.aload_n 1, 1) := by decide +kernel
theorem own_d14_14 : decode jdk_38_method_24_code 14 = .ok (.aastore, 1) := by decide +kernel
theorem own_d14_15 : decode jdk_38_method_24_code 15 = .ok (.aload_n 0, 1) := by decide +kernel
theorem own_d14_16 : decode jdk_38_method_24_code 16 = .ok (.iload_n 3, 1) := by decide +kernel
theorem own_d14_17 : decode jdk_38_method_24_code 17 = .ok (.iconst 1, 1) := by decide +kernel
theorem own_d14_18 : decode jdk_38_method_24_code 18 = .ok (.iadd, 1) := by decide +kernel
theorem own_d14_19 : decode jdk_38_method_24_code 19 = .ok (.putfield 48, 3) := by decide +kernel
theorem own_d14_22 : decode jdk_38_method_24_code 22 = .ok (.return_, 1) := by decide +kernel
def Q_own_add3 (Z : State) (r1 : Addr) (ro : Addr) (zd : Addr) (um : Int32) (h0 : Heap) (n0 : Nat) (v : Option Value) (h : Heap) (L : List Loc) : Prop := ∃ (ba : Addr), ∃ (ka : ClassId), v = none ∧ Fr n0 L ∧ Keep h0 h [r1] ∧ h0.size ≤ ba ∧ Arv Z h ba ka (.object "java/lang/Object") (10 : Int32) [(.ref ro), .null, .null, .null, .null, .null, .null, .null, .null, .null] .null ∧ Exa Z h r1 "java/util/ArrayList" ∧ Fld Z h r1 "java/util/AbstractList" "modCount" "I" (.int um) ∧ Fld Z h r1 "java/util/ArrayList" "elementData" "[Ljava/lang/Object;" (.ref ba) ∧ Fld Z h r1 "java/util/ArrayList" "size" "I" (.int (1 : Int32))
theorem own_ef_own_add3 (m : MethodId) (r1 : Addr) (ro : Addr) (zd : Addr) : entryFrame m #[(.ref r1), (.ref ro), (.ref zd), (.int (0 : Int32))] 4 = mkF m 0 #[rv r1, rv ro, rv zd, iv (0 : Int32)] [] := by first | (simp [entryFrame, mkF, argsToLocals, Value.category]; done) | rfl
set_option maxRecDepth 65536 in
set_option maxHeartbeats 40000000 in
theorem own_add3 (l : Launch) (Z : State) (a0 : Array Value) (hw : ∀ d ∈ tables_1, d.before a0 Z = true) (ws : List Jvm.Cond) (r1 : Addr) (ro : Addr) (zd : Addr) (um : Int32) (h0 : Heap) (n0 : Nat) (Z0 : n0 ≤ h0.size) (Eo : Exa Z h0 ro "java/lang/Integer") (Fe : Exa Z h0 r1 "java/util/ArrayList") (Fm : Fld Z h0 r1 "java/util/AbstractList" "modCount" "I" (.int um)) (Fd : Fld Z h0 r1 "java/util/ArrayList" "elementData" "[Ljava/lang/Object;" (.ref zd)) (Fs : Fld Z h0 r1 "java/util/ArrayList" "size" "I" (.int (0 : Int32))) (g1 : n0 ≤ r1) (O0 : Old Z n0 h0) (S_dflt : Sta Z Z.heap "java/util/ArrayList" "DEFAULTCAPACITY_EMPTY_ELEMENTDATA" "[Ljava/lang/Object;" (.ref zd)) (Yd : own_Arz Z h0 zd (.object "java/lang/Object") (0 : Int32)) :
    own_Ctr l Z (⟨"java/util/ArrayList", "add", "(Ljava/lang/Object;[Ljava/lang/Object;I)V"⟩ : MethodName) jdk_38_method_24_code 4 none ws ({ frames := 3, cells := 1, slots := 10, locals := 41 } : Room) (({ frames := 3, cells := 1, slots := 10, locals := 41 } : Room)).cells (({ frames := 3, cells := 1, slots := 10, locals := 41 } : Room)).slots #[(.ref r1), (.ref ro), (.ref zd), (.int (0 : Int32))] h0 (Q_own_add3 Z r1 ro zd um h0 n0) := by
  refine own_enter (plainFor_of_name own_pn4) ?_
  intro p e s m below meth c s₁ X0 hx hZ hby hml hown hnm hlk hret e0
  have N0 := Fr.nil n0
  refine own_cast (own_ef_own_add3 m r1 ro zd) ?_
  refine own_by (g' := (mkF m 2 #[rv r1, rv ro, rv zd, iv (0 : Int32)] [(.ref zd), (.int (0 : Int32))])) (fun t k => XS.iloadN X0.here hx rfl (hb hby own_d14_0) rfl (XS.aloadN X0.here hx rfl (hb hby own_d14_1) rfl rfl k)) ?_
  obtain ⟨c101, Ar101, S101, G101⟩ := id Yd
  refine own_by (g' := (mkF m 3 #[rv r1, rv ro, rv zd, iv (0 : Int32)] [(.int (0 : Int32)), (.int (0 : Int32))])) (fun t k => X0.arraylength hx (own_at_ e0 Ar101.1) (State.isArrayOf_alike hZ.alike Ar101.2.1) (g := (mkF m 2 #[rv r1, rv ro, rv zd, iv (0 : Int32)] [(.ref zd), (.int (0 : Int32))])) rfl rfl (hb hby own_d14_2) t (by rw [len_of S101 G101]; exact k)) ?_
  refine own_by (g' := (mkF m 7 #[rv r1, rv ro, rv zd, iv (0 : Int32)] [(.ref r1)])) (fun t k => XS.icmpNo X0.here hx rfl (hb hby own_d14_3) rfl (teq (by decide : (0 : Int32) = (0 : Int32))).2 (XS.aloadN X0.here hx rfl (hb hby own_d14_6) rfl rfl k)) ?_
  refine own_callP X0 hx hZ hown (hw _ (List.mem_of_getElem? (i := 101) rfl)) (hw _ (List.mem_of_getElem? (i := 102) rfl)) (hw _ (List.mem_of_getElem? (i := 104) rfl)) (hw _ (List.mem_of_getElem? (i := 103) rfl)) (hw _ (List.mem_of_getElem? (i := 105) rfl)) (hw _ (List.mem_of_getElem? (i := 61) rfl)) (by decide) (a := r1) Fe (own_grow0 l Z a0 hw [] (r1) (zd) (um) h0 n0 Z0 Fe Fm Fd Fs g1 O0 S_dflt Yd) 0 (by decide) (by decide) (by decide) (by decide) e0 (g := (mkF m 7 #[rv r1, rv ro, rv zd, iv (0 : Int32)] [(.ref r1)])) rfl (by rw [hml]; rfl) (argsL := []) (rest := []) (lenOf own_pd4 rfl) rfl (by show 2 * 0 + _ ≤ _; exact Nat.le_of_eq rfl) (hb hby own_d14_7) ?_
  intro v102 T102 L102 X102 q102
  obtain ⟨ba102, ka102, rfl, N102q, K102, f103, f104, f105, f106, f107, f108, f109⟩ := q102
  have N102 := Fr.app N0 N102q
  show own_Goes p e below s _ _ _ T102 (mkF m 10 #[rv r1, rv ro, rv zd, iv (0 : Int32)] [(.ref ba102)])
  refine own_by (g' := (mkF m 14 #[rv r1, rv ro, rv ba102, iv (0 : Int32)] [(.ref ro), (.int (0 : Int32)), (.ref ba102)])) (fun t k => XS.astoreN X102.here hx rfl (hb hby own_d14_10) rfl rfl (l' := #[rv r1, rv ro, rv ba102, iv (0 : Int32)]) rfl (XS.aloadN X102.here hx rfl (hb hby own_d14_11) rfl rfl (XS.iloadN X102.here hx rfl (hb hby own_d14_12) rfl (XS.aloadN X102.here hx rfl (hb hby own_d14_13) rfl rfl k)))) ?_
  obtain ⟨c110, Ar110, q110, S110, G110, H110, F110⟩ := id f104
  have hin110 : ¬ ((0 : Int32) < 0 ∨ c110.slots.size ≤ ((0 : Int32)).toNatClampNeg) := inb_of S110 ⟨by decide, by decide⟩
  have f111 := (Eo.keep K102)
  obtain ⟨T110, h110, X110, e110, W110, st110⟩ := stR X102 hx hZ rfl Ar110 (j := (0 : Int32)) hin110 rfl (Sto.ofV Ar110 q110 f105 (Ins.of_exa f111 (hw _ (List.mem_of_getElem? (i := 116) rfl)))) (g := (mkF m 14 #[rv r1, rv ro, rv ba102, iv (0 : Int32)] [(.ref ro), (.int (0 : Int32)), (.ref ba102)])) rfl rfl (hb hby own_d14_14)
  have V112 : Arv Z h110 ba102 ka102 (.object "java/lang/Object") (10 : Int32) [(.ref ro), .null, .null, .null, .null, .null, .null, .null, .null, .null] .null := Arv.set Ar110 q110 S110 G110 H110 F110 rfl W110 0 rfl (Nat.le_of_ble_eq_true rfl)
  have N110 := Fr.snoc X110 N102 (Nat.le_trans Z0 f103)
  refine own_by (g' := (mkF m 15 #[rv r1, rv ro, rv ba102, iv (0 : Int32)] [])) st110 ?_
  refine own_by (g' := (mkF m 19 #[rv r1, rv ro, rv ba102, iv (0 : Int32)] [(.int (1 : Int32)), (.ref r1)])) (fun t k => XS.aloadN X110.here hx rfl (hb hby own_d14_15) rfl rfl (XS.iloadN X110.here hx rfl (hb hby own_d14_16) rfl (XS.iconst X110.here hx rfl (hb hby own_d14_17) (XS.iadd X110.here hx rfl (hb hby own_d14_18) rfl k)))) ?_
  have f113 := (f109.other W110 (Or.inl (Nat.ne_of_lt (Nat.lt_of_lt_of_le (Nat.lt_of_lt_of_le Fe.lt (Nat.le_refl _)) f103))))
  have f114 := (f106.wr W110)
  obtain ⟨T115, h115, X115, e115, W115, st115⟩ := putF X110 hx hZ hown (host := "") (Or.inl (hw _ (List.mem_of_getElem? (i := 94) rfl))) Via.refl e110 f113 f114 (Or.inl (hw _ (List.mem_of_getElem? (i := 95) rfl))) (hw _ (List.mem_of_getElem? (i := 60) rfl)) (ty := .int) (by decide) rfl rfl (g := (mkF m 19 #[rv r1, rv ro, rv ba102, iv (0 : Int32)] [(.int (1 : Int32)), (.ref r1)])) rfl rfl (hb hby own_d14_19)
  have f116 := f113.same W115
  have N115 := Fr.snoc X115 N110 g1
  refine own_by (g' := (mkF m 22 #[rv r1, rv ro, rv ba102, iv (0 : Int32)] [])) st115 ?_
  have f117 := (V112.other W115 (Ne.symm (Nat.ne_of_lt (Nat.lt_of_lt_of_le (Nat.lt_of_lt_of_le Fe.lt (Nat.le_refl _)) f103))))
  have f118 := (f114.wr W115)
  have f119 := ((f107.other W110 (Or.inl (Nat.ne_of_lt (Nat.lt_of_lt_of_le (Nat.lt_of_lt_of_le Fe.lt (Nat.le_refl _)) f103)))).other W115 (Or.inr (slot_ne (Or.inl (hw _ (List.mem_of_getElem? (i := 79) rfl))) (Or.inl (hw _ (List.mem_of_getElem? (i := 95) rfl))) (by decide) (t := .int) (t' := .int) (by decide) (by decide))))
  have f120 := ((f108.other W110 (Or.inl (Nat.ne_of_lt (Nat.lt_of_lt_of_le (Nat.lt_of_lt_of_le Fe.lt (Nat.le_refl _)) f103)))).other W115 (Or.inr (slot_ne (Or.inl (hw _ (List.mem_of_getElem? (i := 82) rfl))) (Or.inl (hw _ (List.mem_of_getElem? (i := 95) rfl))) (by decide) (t := (.array (.object "java/lang/Object"))) (t' := .int) (by decide) (by decide))))
  refine own_retV X115 hx hlk hret (hb hby own_d14_22) (by decide) (by decide) ?_
  rw [e115]
  exact ⟨ba102, ka102, rfl, N115, ((((Keep.refl h0 [r1]).trans K102 (allS (Or.inl (List.mem_of_getElem? (i := 0) rfl)) all0)).wr W110 (Or.inr (Nat.le_trans (Nat.le_refl _) f103))).wr W115 (Or.inl (List.mem_of_getElem? (i := 0) rfl))), (Nat.le_trans (Nat.le_refl _) f103), f117, f118, f119, f120, f116⟩
theorem own_d13_0 : decode jdk_38_method_25_code 0 = .ok (.aload_n 0, 1) := by decide +kernel
theorem own_d13_1 : decode jdk_38_method_25_code 1 = .ok (.dup, 1) := by decide +kernel
theorem own_d13_2 : decode jdk_38_method_25_code 2 = .ok (.getfield 63, 3) := by decide +kernel
theorem own_d13_5 : decode jdk_38_method_25_code 5 = .ok (.iconst 1, 1) := by decide +kernel
theorem own_d13_6 : decode jdk_38_method_25_code 6 = .ok (.iadd, 1) := by decide +kernel
theorem own_d13_7 : decode jdk_38_method_25_code 7 = .ok (.putfield 63, 3) := by decide +kernel
theorem own_d13_10 : decode jdk_38_method_25_code 10 = .ok (.aload_n 0, 1) := by decide +kernel
theorem own_d13_11 : decode jdk_38_method_25_code 11 = .ok (.aload_n 1, 1) := by decide +kernel
theorem own_d13_12 : decode jdk_38_method_25_code 12 = .ok (.aload_n 0, 1) := by decide +kernel
theorem own_d13_13 : decode jdk_38_method_25_code 13 = .ok (.getfield 9, 3) := by decide +kernel
theorem own_d13_16 : decode jdk_38_method_25_code 16 = .ok (.aload_n 0, 1) := by decide +kernel
theorem own_d13_17 : decode jdk_38_method_25_code 17 = .ok (.getfield 48, 3) := by decide +kernel
theorem own_d13_20 : decode jdk_38_method_25_code 20 = .ok (.invokevirtual 131, 3) := by decide +kernel
theorem own_pd5 : parseMethodDescriptor "(Ljava/lang/Object;[Ljava/lang/Object;I)V" = some ⟨[(.object "java/lang/Object"), (.array (.object "java/lang/Object")), .int], none⟩ := by decide +kernel
theorem own_d13_23 : decode jdk_38_method_25_code 23 = .ok (.iconst 1, 1) := by decide +kernel
theorem own_d13_24 : decode jdk_38_method_25_code 24 = .ok (.ireturn, 1) := by decide +kernel
def Q_own_add1 (Z : State) (r1 : Addr) (ro : Addr) (zd : Addr) (um : Int32) (h0 : Heap) (n0 : Nat) (v : Option Value) (h : Heap) (L : List Loc) : Prop := ∃ (ba : Addr), ∃ (ka : ClassId), v = some (.int (1 : Int32)) ∧ Fr n0 L ∧ Keep h0 h [r1] ∧ h0.size ≤ ba ∧ Arv Z h ba ka (.object "java/lang/Object") (10 : Int32) [(.ref ro), .null, .null, .null, .null, .null, .null, .null, .null, .null] .null ∧ Exa Z h r1 "java/util/ArrayList" ∧ Fld Z h r1 "java/util/AbstractList" "modCount" "I" (.int (um + (1 : Int32))) ∧ Fld Z h r1 "java/util/ArrayList" "elementData" "[Ljava/lang/Object;" (.ref ba) ∧ Fld Z h r1 "java/util/ArrayList" "size" "I" (.int (1 : Int32))
theorem own_ef_own_add1 (m : MethodId) (r1 : Addr) (ro : Addr) : entryFrame m #[(.ref r1), (.ref ro)] 2 = mkF m 0 #[rv r1, rv ro] [] := by first | (simp [entryFrame, mkF, argsToLocals, Value.category]; done) | rfl
set_option maxRecDepth 65536 in
set_option maxHeartbeats 40000000 in
theorem own_add1 (l : Launch) (Z : State) (a0 : Array Value) (hw : ∀ d ∈ tables_1, d.before a0 Z = true) (ws : List Jvm.Cond) (r1 : Addr) (ro : Addr) (zd : Addr) (um : Int32) (h0 : Heap) (n0 : Nat) (Z0 : n0 ≤ h0.size) (Eo : Exa Z h0 ro "java/lang/Integer") (Fe : Exa Z h0 r1 "java/util/ArrayList") (Fm : Fld Z h0 r1 "java/util/AbstractList" "modCount" "I" (.int um)) (Fd : Fld Z h0 r1 "java/util/ArrayList" "elementData" "[Ljava/lang/Object;" (.ref zd)) (Fs : Fld Z h0 r1 "java/util/ArrayList" "size" "I" (.int (0 : Int32))) (g1 : n0 ≤ r1) (O0 : Old Z n0 h0) (S_dflt : Sta Z Z.heap "java/util/ArrayList" "DEFAULTCAPACITY_EMPTY_ELEMENTDATA" "[Ljava/lang/Object;" (.ref zd)) (Yd : own_Arz Z h0 zd (.object "java/lang/Object") (0 : Int32)) :
    own_Ctr l Z (⟨"java/util/ArrayList", "add", "(Ljava/lang/Object;)Z"⟩ : MethodName) jdk_38_method_25_code 2 (some .boolean) ws ({ frames := 4, cells := 1, slots := 10, locals := 56 } : Room) (({ frames := 4, cells := 1, slots := 10, locals := 56 } : Room)).cells (({ frames := 4, cells := 1, slots := 10, locals := 56 } : Room)).slots #[(.ref r1), (.ref ro)] h0 (Q_own_add1 Z r1 ro zd um h0 n0) := by
  refine own_enter (plainFor_of_name own_pn4) ?_
  intro p e s m below meth c s₁ X0 hx hZ hby hml hown hnm hlk hret e0
  have N0 := Fr.nil n0
  refine own_cast (own_ef_own_add1 m r1 ro) ?_
  refine own_by (g' := (mkF m 2 #[rv r1, rv ro] [(.ref r1), (.ref r1)])) (fun t k => XS.aloadN X0.here hx rfl (hb hby own_d13_0) rfl rfl (XS.dup X0.here hx rfl (hb hby own_d13_1) rfl rfl k)) ?_
  obtain ⟨T101, X101, e101, st101⟩ := getF X0 hx hZ hown (host := "") (Or.inl (hw _ (List.mem_of_getElem? (i := 92) rfl))) (Via.of (hw _ (List.mem_of_getElem? (i := 93) rfl))) e0 Fm (g := (mkF m 2 #[rv r1, rv ro] [(.ref r1), (.ref r1)])) rfl rfl (hb hby own_d13_2)
  refine own_by (g' := (mkF m 5 #[rv r1, rv ro] [(.int um), (.ref r1)])) st101 ?_
  refine own_by (g' := (mkF m 7 #[rv r1, rv ro] [(.int (um + (1 : Int32))), (.ref r1)])) (fun t k => XS.iconst X101.here hx rfl (hb hby own_d13_5) (XS.iadd X101.here hx rfl (hb hby own_d13_6) rfl k)) ?_
  obtain ⟨T102, h102, X102, e102, W102, st102⟩ := putF X101 hx hZ hown (host := "") (Or.inl (hw _ (List.mem_of_getElem? (i := 92) rfl))) (Via.of (hw _ (List.mem_of_getElem? (i := 93) rfl))) e101 Fm Fe (Or.inl (hw _ (List.mem_of_getElem? (i := 79) rfl))) (hw _ (List.mem_of_getElem? (i := 60) rfl)) (ty := .int) (by decide) rfl rfl (g := (mkF m 7 #[rv r1, rv ro] [(.int (um + (1 : Int32))), (.ref r1)])) rfl rfl (hb hby own_d13_7)
  have f103 := Fm.same W102
  have N102 := Fr.snoc X102 N0 g1
  refine own_by (g' := (mkF m 10 #[rv r1, rv ro] [])) st102 ?_
  refine own_by (g' := (mkF m 13 #[rv r1, rv ro] [(.ref r1), (.ref ro), (.ref r1)])) (fun t k => XS.aloadN X102.here hx rfl (hb hby own_d13_10) rfl rfl (XS.aloadN X102.here hx rfl (hb hby own_d13_11) rfl rfl (XS.aloadN X102.here hx rfl (hb hby own_d13_12) rfl rfl k))) ?_
  have f104 := (Fd.other W102 (Or.inr (slot_ne (Or.inl (hw _ (List.mem_of_getElem? (i := 82) rfl))) (Or.inl (hw _ (List.mem_of_getElem? (i := 79) rfl))) (by decide) (t := (.array (.object "java/lang/Object"))) (t' := .int) (by decide) (by decide))))
  obtain ⟨T105, X105, e105, st105⟩ := getF X102 hx hZ hown (host := "") (Or.inl (hw _ (List.mem_of_getElem? (i := 81) rfl))) Via.refl e102 f104 (g := (mkF m 13 #[rv r1, rv ro] [(.ref r1), (.ref ro), (.ref r1)])) rfl rfl (hb hby own_d13_13)
  refine own_by (g' := (mkF m 16 #[rv r1, rv ro] [(.ref zd), (.ref ro), (.ref r1)])) st105 ?_
  refine own_by (g' := (mkF m 17 #[rv r1, rv ro] [(.ref r1), (.ref zd), (.ref ro), (.ref r1)])) (fun t k => XS.aloadN X105.here hx rfl (hb hby own_d13_16) rfl rfl k) ?_
  have f106 := (Fs.other W102 (Or.inr (slot_ne (Or.inl (hw _ (List.mem_of_getElem? (i := 95) rfl))) (Or.inl (hw _ (List.mem_of_getElem? (i := 79) rfl))) (by decide) (t := .int) (t' := .int) (by decide) (by decide))))
  obtain ⟨T107, X107, e107, st107⟩ := getF X105 hx hZ hown (host := "") (Or.inl (hw _ (List.mem_of_getElem? (i := 94) rfl))) Via.refl e105 f106 (g := (mkF m 17 #[rv r1, rv ro] [(.ref r1), (.ref zd), (.ref ro), (.ref r1)])) rfl rfl (hb hby own_d13_17)
  refine own_by (g' := (mkF m 20 #[rv r1, rv ro] [(.int (0 : Int32)), (.ref zd), (.ref ro), (.ref r1)])) st107 ?_
  have f108 := (Eo.wr W102)
  have f109 := (Fe.wr W102)
  have f110 := (O0.wr W102 g1)
  have f111 := (Yd.other W102 (Ne.symm (own_neY Fe (hw _ (List.mem_of_getElem? (i := 60) rfl)) Yd)))
  refine own_callP X107 hx hZ hown (hw _ (List.mem_of_getElem? (i := 96) rfl)) (hw _ (List.mem_of_getElem? (i := 97) rfl)) (hw _ (List.mem_of_getElem? (i := 99) rfl)) (hw _ (List.mem_of_getElem? (i := 98) rfl)) (hw _ (List.mem_of_getElem? (i := 100) rfl)) (hw _ (List.mem_of_getElem? (i := 61) rfl)) (by decide) (a := r1) f109 (own_add3 l Z a0 hw [] (r1) (ro) (zd) ((um + (1 : Int32))) h102 n0 (Nat.le_trans Z0 (Nat.le_of_eq W102.size.symm)) f108 f109 f103 f104 f106 g1 f110 S_dflt f111) 0 (by decide) (by decide) (by decide) (by decide) e107 (g := (mkF m 20 #[rv r1, rv ro] [(.int (0 : Int32)), (.ref zd), (.ref ro), (.ref r1)])) rfl (by rw [hml]; rfl) (argsL := [(.ref ro), (.ref zd), (.int (0 : Int32))]) (rest := []) (lenOf own_pd5 rfl) rfl (by show 2 * 0 + _ ≤ _; exact Nat.le_of_eq rfl) (hb hby own_d13_20) ?_
  intro v112 T112 L112 X112 q112
  obtain ⟨ba112, ka112, rfl, N112q, K112, f113, f114, f115, f116, f117, f118⟩ := q112
  have N112 := Fr.app N102 N112q
  show own_Goes p e below s _ _ _ T112 (mkF m 23 #[rv r1, rv ro] [])
  refine own_by (g' := (mkF m 24 #[rv r1, rv ro] [(.int (1 : Int32))])) (fun t k => XS.iconst X112.here hx rfl (hb hby own_d13_23) k) ?_
  refine own_retN X112 hx hlk hret (t := .boolean) (by simp) (hb hby own_d13_24) (by decide) (by decide) ?_
  exact ⟨ba112, ka112, rfl, N112, (((Keep.refl h0 [r1]).wr W102 (Or.inl (List.mem_of_getElem? (i := 0) rfl))).trans K112 (allS (Or.inl (List.mem_of_getElem? (i := 0) rfl)) all0)), (Nat.le_trans (Nat.le_of_eq W102.size.symm) f113), f114, f115, f116, f117, f118⟩
theorem own_pn5 : plainName "java/util/AbstractMap" = true := by first | (simp [plainName, overriddenIn]; done) | decide +kernel
theorem own_d4_0 : decode jdk_71_method_1_code 0 = .ok (.aload_n 0, 1) := by decide +kernel
theorem own_d4_1 : decode jdk_71_method_1_code 1 = .ok (.invokespecial 1, 3) := by decide +kernel
theorem own_d4_4 : decode jdk_71_method_1_code 4 = .ok (.return_, 1) := by decide +kernel
def Q_own_am (Z : State) (r1 : Addr) (h0 : Heap) (n0 : Nat) (v : Option Value) (h : Heap) (L : List Loc) : Prop := v = none ∧ Fr n0 L ∧ h = h0
theorem own_ef_own_am (m : MethodId) (r1 : Addr) : entryFrame m #[(.ref r1)] 1 = mkF m 0 #[rv r1] [] := by first | (simp [entryFrame, mkF, argsToLocals, Value.category]; done) | rfl
set_option maxRecDepth 65536 in
set_option maxHeartbeats 40000000 in
theorem own_am (l : Launch) (Z : State) (a0 : Array Value) (hw : ∀ d ∈ tables_1, d.before a0 Z = true) (ws : List Jvm.Cond) (r1 : Addr) (h0 : Heap) (n0 : Nat) (Z0 : n0 ≤ h0.size)  :
    own_Ctr l Z (⟨"java/util/AbstractMap", "<init>", "()V"⟩ : MethodName) jdk_71_method_1_code 1 none ws ({ frames := 1, cells := 0, slots := 0, locals := 12 } : Room) (({ frames := 1, cells := 0, slots := 0, locals := 12 } : Room)).cells (({ frames := 1, cells := 0, slots := 0, locals := 12 } : Room)).slots #[(.ref r1)] h0 (Q_own_am Z r1 h0 n0) := by
  refine own_enter (plainFor_of_name own_pn5) ?_
  intro p e s m below meth c s₁ X0 hx hZ hby hml hown hnm hlk hret e0
  have N0 := Fr.nil n0
  refine own_cast (own_ef_own_am m r1) ?_
  refine own_by (g' := (mkF m 1 #[rv r1] [(.ref r1)])) (fun t k => XS.aloadN X0.here hx rfl (hb hby own_d4_0) rfl rfl k) ?_
  obtain ⟨T101, X101, e101, st101⟩ := initO X0 hx hZ hown (hw _ (List.mem_of_getElem? (i := 21) rfl)) (hw _ (List.mem_of_getElem? (i := 7) rfl)) (hw _ (List.mem_of_getElem? (i := 8) rfl)) e0 (g := (mkF m 1 #[rv r1] [(.ref r1)])) rfl (by rw [hml]; rfl) rfl (hb hby own_d4_1) (by decide) (W := 0) (by show 2 * 0 + _ ≤ _; exact Nat.le_of_eq rfl) (by decide)
  refine own_by (g' := (mkF m 4 #[rv r1] [])) st101 ?_
  refine own_retV X101 hx hlk hret (hb hby own_d4_4) (by decide) (by decide) ?_
  exact ⟨rfl, N0, e101⟩
theorem own_pn6 : plainName "java/util/IdentityHashMap" = true := by first | (simp [plainName, overriddenIn]; done) | decide +kernel
theorem own_d5_0 : decode jdk_2581_method_6_code 0 = .ok (.aload_n 0, 1) := by decide +kernel
theorem own_d5_1 : decode jdk_2581_method_6_code 1 = .ok (.iconst 2, 1) := by decide +kernel
theorem own_d5_2 : decode jdk_2581_method_6_code 2 = .ok (.iload_n 1, 1) := by decide +kernel
theorem own_d5_3 : decode jdk_2581_method_6_code 3 = .ok (.imul, 1) := by decide +kernel
theorem own_d5_4 : decode jdk_2581_method_6_code 4 = .ok (.anewarray 49, 3) := by decide +kernel
theorem own_d5_7 : decode jdk_2581_method_6_code 7 = .ok (.putfield 51, 3) := by decide +kernel
theorem own_d5_10 : decode jdk_2581_method_6_code 10 = .ok (.return_, 1) := by decide +kernel
def Q_own_it (Z : State) (r1 : Addr) (h0 : Heap) (n0 : Nat) (v : Option Value) (h : Heap) (L : List Loc) : Prop := ∃ (bt : Addr), ∃ (kt : ClassId), v = none ∧ Fr n0 L ∧ Keep h0 h [r1] ∧ h0.size ≤ bt ∧ Exa Z h r1 "java/util/IdentityHashMap" ∧ Fld Z h r1 "java/util/IdentityHashMap" "table" "[Ljava/lang/Object;" (.ref bt) ∧ Arv Z h bt kt (.object "java/lang/Object") (64 : Int32) [] .null ∧ Fld Z h r1 "java/util/IdentityHashMap" "size" "I" (.int (0 : Int32)) ∧ Fld Z h r1 "java/util/IdentityHashMap" "modCount" "I" (.int (0 : Int32)) ∧ Fld Z h r1 "java/util/AbstractMap" "keySet" "Ljava/util/Set;" .null
theorem own_ef_own_it (m : MethodId) (r1 : Addr) : entryFrame m #[(.ref r1), (.int (32 : Int32))] 2 = mkF m 0 #[rv r1, iv (32 : Int32)] [] := by first | (simp [entryFrame, mkF, argsToLocals, Value.category]; done) | rfl
set_option maxRecDepth 65536 in
set_option maxHeartbeats 40000000 in
theorem own_it (l : Launch) (Z : State) (a0 : Array Value) (hw : ∀ d ∈ tables_1, d.before a0 Z = true) (ws : List Jvm.Cond) (r1 : Addr) (h0 : Heap) (n0 : Nat) (Z0 : n0 ≤ h0.size) (E1 : Exa Z h0 r1 "java/util/IdentityHashMap") (F1 : Fld Z h0 r1 "java/util/IdentityHashMap" "table" "[Ljava/lang/Object;" .null) (F1sm0 : Fld Z h0 r1 "java/util/IdentityHashMap" "size" "I" (.int (0 : Int32))) (F1sm1 : Fld Z h0 r1 "java/util/IdentityHashMap" "modCount" "I" (.int (0 : Int32))) (F1sm2 : Fld Z h0 r1 "java/util/AbstractMap" "keySet" "Ljava/util/Set;" .null) (g1 : n0 ≤ r1) :
    own_Ctr l Z (⟨"java/util/IdentityHashMap", "init", "(I)V"⟩ : MethodName) jdk_2581_method_6_code 2 none ws ({ frames := 0, cells := 1, slots := 64, locals := 0 } : Room) (({ frames := 0, cells := 1, slots := 64, locals := 0 } : Room)).cells (({ frames := 0, cells := 1, slots := 64, locals := 0 } : Room)).slots #[(.ref r1), (.int (32 : Int32))] h0 (Q_own_it Z r1 h0 n0) := by
  refine own_enter (plainFor_of_name own_pn6) ?_
  intro p e s m below meth c s₁ X0 hx hZ hby hml hown hnm hlk hret e0
  have N0 := Fr.nil n0
  refine own_cast (own_ef_own_it m r1) ?_
  refine own_by (g' := (mkF m 4 #[rv r1, iv (32 : Int32)] [(.int (64 : Int32)), (.ref r1)])) (fun t k => XS.aloadN X0.here hx rfl (hb hby own_d5_0) rfl rfl (XS.iconst X0.here hx rfl (hb hby own_d5_1) (XS.iloadN X0.here hx rfl (hb hby own_d5_2) rfl (XS.imul X0.here hx rfl (hb hby own_d5_3) rfl k)))) ?_
  obtain ⟨T101, h101, k101, X101, e101, E101, A101, Y101, O101, st101⟩ := newRE X0 hx hZ hown (hw _ (List.mem_of_getElem? (i := 27) rfl)) (hw _ (List.mem_of_getElem? (i := 28) rfl)) e0 (g := (mkF m 4 #[rv r1, iv (32 : Int32)] [(.int (64 : Int32)), (.ref r1)])) rfl (hb hby own_d5_4) rfl (by decide) (cap := 64) (by decide) (by decide) (by decide) (by decide) (ad := "[Ljava/lang/Object;") own_ad_java_lang_Object
  obtain ⟨b101, g101⟩ : ∃ z, z = h0.size := ⟨_, rfl⟩
  rw [← g101] at A101 Y101 st101
  have sz_b101 : h0.size ≤ b101 := Nat.le_trans (Nat.le_refl _) (Nat.le_of_eq g101.symm)
  have g_b101 : n0 ≤ b101 := Nat.le_trans Z0 sz_b101
  have V101 : Arv Z h101 b101 k101 (.object "java/lang/Object") (64 : Int32) [] .null := Arv.new A101 (by decide)
  refine own_by (g' := (mkF m 7 #[rv r1, iv (32 : Int32)] [(.ref b101), (.ref r1)])) st101 ?_
  have f102 := (F1.ext E101)
  have f103 := (E1.ext E101)
  obtain ⟨T104, h104, X104, e104, W104, st104⟩ := putF X101 hx hZ hown (host := "") (Or.inl (hw _ (List.mem_of_getElem? (i := 29) rfl))) Via.refl e101 f102 f103 (Or.inl (hw _ (List.mem_of_getElem? (i := 30) rfl))) (hw _ (List.mem_of_getElem? (i := 10) rfl)) (ty := (.array (.object "java/lang/Object"))) (by decide) rfl rfl (g := (mkF m 7 #[rv r1, iv (32 : Int32)] [(.ref b101), (.ref r1)])) rfl rfl (hb hby own_d5_7)
  have f105 := f102.same W104
  have N104 := Fr.snoc X104 N0 g1
  refine own_by (g' := (mkF m 10 #[rv r1, iv (32 : Int32)] [])) st104 ?_
  have f106 := (f103.wr W104)
  have f107 := (V101.other W104 (Ne.symm (Nat.ne_of_lt (Nat.lt_of_lt_of_le (Nat.lt_of_lt_of_le E1.lt (Nat.le_refl _)) (Nat.le_of_eq g101.symm)))))
  have f108 := ((F1sm0.ext E101).other W104 (Or.inr (slot_ne (Or.inl (hw _ (List.mem_of_getElem? (i := 177) rfl))) (Or.inl (hw _ (List.mem_of_getElem? (i := 30) rfl))) (by decide) (t := .int) (t' := (.array (.object "java/lang/Object"))) (by decide) (by decide))))
  have f109 := ((F1sm1.ext E101).other W104 (Or.inr (slot_ne (Or.inl (hw _ (List.mem_of_getElem? (i := 170) rfl))) (Or.inl (hw _ (List.mem_of_getElem? (i := 30) rfl))) (by decide) (t := .int) (t' := (.array (.object "java/lang/Object"))) (by decide) (by decide))))
  have f110 := ((F1sm2.ext E101).other W104 (Or.inr (slot_ne (Or.inl (hw _ (List.mem_of_getElem? (i := 128) rfl))) (Or.inl (hw _ (List.mem_of_getElem? (i := 30) rfl))) (by decide) (t := (.object "java/util/Set")) (t' := (.array (.object "java/lang/Object"))) (by decide) (by decide))))
  refine own_retV X104 hx hlk hret (hb hby own_d5_10) (by decide) (by decide) ?_
  rw [e104]
  exact ⟨b101, k101, rfl, N104, (((Keep.refl h0 [r1]).ext E101).wr W104 (Or.inl (List.mem_of_getElem? (i := 0) rfl))), sz_b101, f106, f105, f107, f108, f109, f110⟩
theorem own_d3_0 : decode jdk_2581_method_3_code 0 = .ok (.aload_n 0, 1) := by decide +kernel
theorem own_d3_1 : decode jdk_2581_method_3_code 1 = .ok (.invokespecial 7, 3) := by decide +kernel
theorem own_d3_4 : decode jdk_2581_method_3_code 4 = .ok (.aload_n 0, 1) := by decide +kernel
theorem own_d3_5 : decode jdk_2581_method_3_code 5 = .ok (.bipush 32, 2) := by decide +kernel
theorem own_d3_7 : decode jdk_2581_method_3_code 7 = .ok (.invokevirtual 13, 3) := by decide +kernel
theorem own_d3_10 : decode jdk_2581_method_3_code 10 = .ok (.return_, 1) := by decide +kernel
def Q_own_im (Z : State) (r1 : Addr) (h0 : Heap) (n0 : Nat) (v : Option Value) (h : Heap) (L : List Loc) : Prop := ∃ (bt : Addr), ∃ (kt : ClassId), v = none ∧ Fr n0 L ∧ Keep h0 h [r1] ∧ h0.size ≤ bt ∧ Exa Z h r1 "java/util/IdentityHashMap" ∧ Fld Z h r1 "java/util/IdentityHashMap" "table" "[Ljava/lang/Object;" (.ref bt) ∧ Arv Z h bt kt (.object "java/lang/Object") (64 : Int32) [] .null ∧ Fld Z h r1 "java/util/IdentityHashMap" "size" "I" (.int (0 : Int32)) ∧ Fld Z h r1 "java/util/IdentityHashMap" "modCount" "I" (.int (0 : Int32)) ∧ Fld Z h r1 "java/util/AbstractMap" "keySet" "Ljava/util/Set;" .null
theorem own_ef_own_im (m : MethodId) (r1 : Addr) : entryFrame m #[(.ref r1)] 1 = mkF m 0 #[rv r1] [] := by first | (simp [entryFrame, mkF, argsToLocals, Value.category]; done) | rfl
set_option maxRecDepth 65536 in
set_option maxHeartbeats 40000000 in
theorem own_im (l : Launch) (Z : State) (a0 : Array Value) (hw : ∀ d ∈ tables_1, d.before a0 Z = true) (ws : List Jvm.Cond) (r1 : Addr) (h0 : Heap) (n0 : Nat) (Z0 : n0 ≤ h0.size) (E1 : Exa Z h0 r1 "java/util/IdentityHashMap") (F1 : Fld Z h0 r1 "java/util/IdentityHashMap" "table" "[Ljava/lang/Object;" .null) (F1sm0 : Fld Z h0 r1 "java/util/IdentityHashMap" "size" "I" (.int (0 : Int32))) (F1sm1 : Fld Z h0 r1 "java/util/IdentityHashMap" "modCount" "I" (.int (0 : Int32))) (F1sm2 : Fld Z h0 r1 "java/util/AbstractMap" "keySet" "Ljava/util/Set;" .null) (g1 : n0 ≤ r1) :
    own_Ctr l Z (⟨"java/util/IdentityHashMap", "<init>", "()V"⟩ : MethodName) jdk_2581_method_3_code 1 none ws ({ frames := 2, cells := 1, slots := 64, locals := 24 } : Room) (({ frames := 2, cells := 1, slots := 64, locals := 24 } : Room)).cells (({ frames := 2, cells := 1, slots := 64, locals := 24 } : Room)).slots #[(.ref r1)] h0 (Q_own_im Z r1 h0 n0) := by
  refine own_enter (plainFor_of_name own_pn6) ?_
  intro p e s m below meth c s₁ X0 hx hZ hby hml hown hnm hlk hret e0
  have N0 := Fr.nil n0
  refine own_cast (own_ef_own_im m r1) ?_
  refine own_by (g' := (mkF m 1 #[rv r1] [(.ref r1)])) (fun t k => XS.aloadN X0.here hx rfl (hb hby own_d3_0) rfl rfl k) ?_
  refine own_callI X0 hx hZ hown rfl (hw _ (List.mem_of_getElem? (i := 15) rfl)) (hw _ (List.mem_of_getElem? (i := 16) rfl)) (hw _ (List.mem_of_getElem? (i := 19) rfl)) (hw _ (List.mem_of_getElem? (i := 20) rfl)) (by decide) (a := r1) (own_am l Z a0 hw [] (r1) h0 n0 Z0 ) 0 (by decide) (by decide) (by decide) (by decide) e0 (g := (mkF m 1 #[rv r1] [(.ref r1)])) rfl (by rw [hml]; rfl) (argsL := []) (rest := []) (lenOf own_pd0 rfl) rfl (by show 2 * 0 + _ ≤ _; exact Nat.le_of_eq rfl) (hb hby own_d3_1) ?_
  intro v101 T101 L101 X101 q101
  obtain ⟨rfl, N101q, e101⟩ := q101
  have N101 := Fr.app N0 N101q
  show own_Goes p e below s _ _ _ T101 (mkF m 4 #[rv r1] [])
  refine own_by (g' := (mkF m 7 #[rv r1] [(.int (32 : Int32)), (.ref r1)])) (fun t k => XS.aloadN X101.here hx rfl (hb hby own_d3_4) rfl rfl (XS.bipush X101.here hx rfl (hb hby own_d3_5) k)) ?_
  refine own_callP X101 hx hZ hown (hw _ (List.mem_of_getElem? (i := 22) rfl)) (hw _ (List.mem_of_getElem? (i := 23) rfl)) (hw _ (List.mem_of_getElem? (i := 25) rfl)) (hw _ (List.mem_of_getElem? (i := 24) rfl)) (hw _ (List.mem_of_getElem? (i := 26) rfl)) (hw _ (List.mem_of_getElem? (i := 11) rfl)) (by decide) (a := r1) E1 (own_it l Z a0 hw [] (r1) h0 n0 Z0 E1 F1 F1sm0 F1sm1 F1sm2 g1) 0 (by decide) (by decide) (by decide) (by decide) e101 (g := (mkF m 7 #[rv r1] [(.int (32 : Int32)), (.ref r1)])) rfl (by rw [hml]; rfl) (argsL := [(.int (32 : Int32))]) (rest := []) (lenOf own_pd1 rfl) rfl (by show 2 * 0 + _ ≤ _; exact Nat.le_of_eq rfl) (hb hby own_d3_7) ?_
  intro v102 T102 L102 X102 q102
  obtain ⟨bt102, kt102, rfl, N102q, K102, f103, f104, f105, f106, f107, f108, f109⟩ := q102
  have N102 := Fr.app N101 N102q
  show own_Goes p e below s _ _ _ T102 (mkF m 10 #[rv r1] [])
  refine own_retV X102 hx hlk hret (hb hby own_d3_10) (by decide) (by decide) ?_
  exact ⟨bt102, kt102, rfl, N102, ((Keep.refl h0 [r1]).trans K102 (allS (Or.inl (List.mem_of_getElem? (i := 0) rfl)) all0)), (Nat.le_trans (Nat.le_refl _) f103), f104, f105, f106, f107, f108, f109⟩
theorem own_pn7 : plainName "com/example/purlin/purlin/framework/ServiceUse" = true := by first | (simp [plainName, overriddenIn]; done) | decide +kernel
theorem own_d1_0 : decode prog_4_method_1_code 0 = .ok (.aload_n 0, 1) := by decide +kernel
theorem own_d1_1 : decode prog_4_method_1_code 1 = .ok (.invokespecial 1, 3) := by decide +kernel
theorem own_d1_4 : decode prog_4_method_1_code 4 = .ok (.aload_n 0, 1) := by decide +kernel
theorem own_d1_5 : decode prog_4_method_1_code 5 = .ok (.new 7, 3) := by decide +kernel
theorem own_d1_8 : decode prog_4_method_1_code 8 = .ok (.dup, 1) := by decide +kernel
theorem own_d1_9 : decode prog_4_method_1_code 9 = .ok (.invokespecial 9, 3) := by decide +kernel
theorem own_d1_12 : decode prog_4_method_1_code 12 = .ok (.putfield 10, 3) := by decide +kernel
theorem own_d1_15 : decode prog_4_method_1_code 15 = .ok (.return_, 1) := by decide +kernel
def Q_own_si (Z : State) (r1 : Addr) (h0 : Heap) (n0 : Nat) (v : Option Value) (h : Heap) (L : List Loc) : Prop := ∃ (bm : Addr), ∃ (bt : Addr), ∃ (kt : ClassId), v = none ∧ Fr n0 L ∧ Keep h0 h [r1] ∧ Exa Z h r1 "com/example/purlin/purlin/framework/ServiceUse" ∧ Fld Z h r1 "com/example/purlin/purlin/framework/ServiceUse" "prototypes" "Ljava/util/Map;" (.ref bm) ∧ Fld Z h r1 "com/example/purlin/purlin/framework/ServiceUse" "object" "Ljava/lang/Object;" .null ∧ Fld Z h r1 "com/example/purlin/purlin/framework/ServiceUse" "count" "I" (.int (0 : Int32)) ∧ h0.size ≤ bm ∧ Exa Z h bm "java/util/IdentityHashMap" ∧ Fld Z h bm "java/util/IdentityHashMap" "size" "I" (.int (0 : Int32)) ∧ Fld Z h bm "java/util/IdentityHashMap" "modCount" "I" (.int (0 : Int32)) ∧ Fld Z h bm "java/util/AbstractMap" "keySet" "Ljava/util/Set;" .null ∧ h0.size ≤ bt ∧ Fld Z h bm "java/util/IdentityHashMap" "table" "[Ljava/lang/Object;" (.ref bt) ∧ Arv Z h bt kt (.object "java/lang/Object") (64 : Int32) [] .null
theorem own_ef_own_si (m : MethodId) (r1 : Addr) : entryFrame m #[(.ref r1)] 1 = mkF m 0 #[rv r1] [] := by first | (simp [entryFrame, mkF, argsToLocals, Value.category]; done) | rfl
set_option maxRecDepth 65536 in
set_option maxHeartbeats 40000000 in
theorem own_si (l : Launch) (Z : State) (a0 : Array Value) (hw : ∀ d ∈ tables_1, d.before a0 Z = true) (ws : List Jvm.Cond) (r1 : Addr) (h0 : Heap) (n0 : Nat) (Z0 : n0 ≤ h0.size) (E1 : Exa Z h0 r1 "com/example/purlin/purlin/framework/ServiceUse") (F1 : Fld Z h0 r1 "com/example/purlin/purlin/framework/ServiceUse" "prototypes" "Ljava/util/Map;" .null) (F2 : Fld Z h0 r1 "com/example/purlin/purlin/framework/ServiceUse" "object" "Ljava/lang/Object;" .null) (F3 : Fld Z h0 r1 "com/example/purlin/purlin/framework/ServiceUse" "count" "I" (.int (0 : Int32))) (g1 : n0 ≤ r1) :
    own_Ctr l Z (⟨"com/example/purlin/purlin/framework/ServiceUse", "<init>", "()V"⟩ : MethodName) prog_4_method_1_code 1 none ws ({ frames := 3, cells := 2, slots := 70, locals := 38 } : Room) (({ frames := 3, cells := 2, slots := 70, locals := 38 } : Room)).cells (({ frames := 3, cells := 2, slots := 70, locals := 38 } : Room)).slots #[(.ref r1)] h0 (Q_own_si Z r1 h0 n0) := by
  refine own_enter (plainFor_of_name own_pn7) ?_
  intro p e s m below meth c s₁ X0 hx hZ hby hml hown hnm hlk hret e0
  have N0 := Fr.nil n0
  refine own_cast (own_ef_own_si m r1) ?_
  refine own_by (g' := (mkF m 1 #[rv r1] [(.ref r1)])) (fun t k => XS.aloadN X0.here hx rfl (hb hby own_d1_0) rfl rfl k) ?_
  obtain ⟨T101, X101, e101, st101⟩ := initO X0 hx hZ hown (hw _ (List.mem_of_getElem? (i := 6) rfl)) (hw _ (List.mem_of_getElem? (i := 7) rfl)) (hw _ (List.mem_of_getElem? (i := 8) rfl)) e0 (g := (mkF m 1 #[rv r1] [(.ref r1)])) rfl (by rw [hml]; rfl) rfl (hb hby own_d1_1) (by decide) (W := 0) (by show 2 * 0 + _ ≤ _; exact Nat.le_of_eq rfl) (by decide)
  refine own_by (g' := (mkF m 4 #[rv r1] [])) st101 ?_
  refine own_by (g' := (mkF m 5 #[rv r1] [(.ref r1)])) (fun t k => XS.aloadN X101.here hx rfl (hb hby own_d1_4) rfl rfl k) ?_
  obtain ⟨T102, h102, X102, e102, E102, A102, D102, U102, st102⟩ := newO X101 hx hZ hown (hw _ (List.mem_of_getElem? (i := 9) rfl)) (hw _ (List.mem_of_getElem? (i := 10) rfl)) (hw _ (List.mem_of_getElem? (i := 11) rfl)) e101 (g := (mkF m 5 #[rv r1] [(.ref r1)])) rfl (hb hby own_d1_5) (by decide) (by decide)
  obtain ⟨b102, g102⟩ : ∃ z, z = h0.size := ⟨_, rfl⟩
  rw [← g102] at A102 D102 U102 st102
  have sz_b102 : h0.size ≤ b102 := Nat.le_trans (Nat.le_refl _) (Nat.le_of_eq g102.symm)
  have g_b102 : n0 ≤ b102 := Nat.le_trans Z0 sz_b102
  have f103 : Fld Z h102 b102 "java/util/IdentityHashMap" "table" "[Ljava/lang/Object;" .null := D102 (Or.inl (hw _ (List.mem_of_getElem? (i := 30) rfl))) (ty := (.array (.object "java/lang/Object"))) (by decide)
  have f104 : Fld Z h102 b102 "java/util/AbstractMap" "keySet" "Ljava/util/Set;" .null := D102 (Or.inl (hw _ (List.mem_of_getElem? (i := 128) rfl))) (ty := (.object "java/util/Set")) (by decide)
  have f105 : Fld Z h102 b102 "java/util/IdentityHashMap" "modCount" "I" (.int (0 : Int32)) := D102 (Or.inl (hw _ (List.mem_of_getElem? (i := 170) rfl))) (ty := .int) (by decide)
  have f106 : Fld Z h102 b102 "java/util/IdentityHashMap" "size" "I" (.int (0 : Int32)) := D102 (Or.inl (hw _ (List.mem_of_getElem? (i := 177) rfl))) (ty := .int) (by decide)
  refine own_by (g' := (mkF m 8 #[rv r1] [(.ref b102), (.ref r1)])) st102 ?_
  refine own_by (g' := (mkF m 9 #[rv r1] [(.ref b102), (.ref b102), (.ref r1)])) (fun t k => XS.dup X102.here hx rfl (hb hby own_d1_8) rfl rfl k) ?_
  refine own_callI X102 hx hZ hown rfl (hw _ (List.mem_of_getElem? (i := 12) rfl)) (hw _ (List.mem_of_getElem? (i := 13) rfl)) (hw _ (List.mem_of_getElem? (i := 11) rfl)) (hw _ (List.mem_of_getElem? (i := 14) rfl)) (by decide) (a := b102) (own_im l Z a0 hw [] (b102) h102 n0 (Nat.le_trans Z0 E102.1) A102 f103 f106 f105 f104 g_b102) 2 (by decide) (by decide) (by decide) (by decide) e102 (g := (mkF m 9 #[rv r1] [(.ref b102), (.ref b102), (.ref r1)])) rfl (by rw [hml]; rfl) (argsL := []) (rest := [(.ref b102), (.ref r1)]) (lenOf own_pd0 rfl) rfl (by show 2 * 0 + _ ≤ _; exact Nat.le_of_eq rfl) (hb hby own_d1_9) ?_
  intro v107 T107 L107 X107 q107
  obtain ⟨bt107, kt107, rfl, N107q, K107, f108, f109, f110, f111, f112, f113, f114⟩ := q107
  have N107 := Fr.app N0 N107q
  show own_Goes p e below s _ _ _ T107 (mkF m 12 #[rv r1] [(.ref b102), (.ref r1)])
  have f115 := ((F1.ext E102).keep K107 (ninS (Nat.ne_of_lt (Nat.lt_of_lt_of_le (Nat.lt_of_lt_of_le E1.lt (Nat.le_refl _)) (Nat.le_of_eq g102.symm))) nin0))
  have f116 := ((E1.ext E102).keep K107)
  obtain ⟨T117, h117, X117, e117, W117, st117⟩ := putF X107 hx hZ hown (host := "") (Or.inl (hw _ (List.mem_of_getElem? (i := 31) rfl))) Via.refl rfl f115 f116 (Or.inr ⟨(hw _ (List.mem_of_getElem? (i := 32) rfl)), rfl, hnm⟩) (hw _ (List.mem_of_getElem? (i := 1) rfl)) (ty := (.object "java/util/Map")) (by decide) rfl rfl (g := (mkF m 12 #[rv r1] [(.ref b102), (.ref r1)])) rfl rfl (hb hby own_d1_12)
  have f118 := f115.same W117
  have N117 := Fr.snoc X117 N107 g1
  refine own_by (g' := (mkF m 15 #[rv r1] [])) st117 ?_
  have f119 := (f116.wr W117)
  have f120 := (((F2.ext E102).keep K107 (ninS (Nat.ne_of_lt (Nat.lt_of_lt_of_le (Nat.lt_of_lt_of_le E1.lt (Nat.le_refl _)) (Nat.le_of_eq g102.symm))) nin0)).other W117 (Or.inr (slot_ne (Or.inl (hw _ (List.mem_of_getElem? (i := 53) rfl))) (Or.inr (hw _ (List.mem_of_getElem? (i := 32) rfl))) (by decide) (t := (.object "java/lang/Object")) (t' := (.object "java/util/Map")) (by decide) (by decide))))
  have f121 := (((F3.ext E102).keep K107 (ninS (Nat.ne_of_lt (Nat.lt_of_lt_of_le (Nat.lt_of_lt_of_le E1.lt (Nat.le_refl _)) (Nat.le_of_eq g102.symm))) nin0)).other W117 (Or.inr (slot_ne (Or.inl (hw _ (List.mem_of_getElem? (i := 46) rfl))) (Or.inr (hw _ (List.mem_of_getElem? (i := 32) rfl))) (by decide) (t := .int) (t' := (.object "java/util/Map")) (by decide) (by decide))))
  have f122 := (f109.wr W117)
  have f123 := (f112.other W117 (Or.inl (Ne.symm (Nat.ne_of_lt (Nat.lt_of_lt_of_le (Nat.lt_of_lt_of_le E1.lt (Nat.le_refl _)) (Nat.le_of_eq g102.symm))))))
  have f124 := (f113.other W117 (Or.inl (Ne.symm (Nat.ne_of_lt (Nat.lt_of_lt_of_le (Nat.lt_of_lt_of_le E1.lt (Nat.le_refl _)) (Nat.le_of_eq g102.symm))))))
  have f125 := (f114.other W117 (Or.inl (Ne.symm (Nat.ne_of_lt (Nat.lt_of_lt_of_le (Nat.lt_of_lt_of_le E1.lt (Nat.le_refl _)) (Nat.le_of_eq g102.symm))))))
  have f126 := (f110.other W117 (Or.inl (Ne.symm (Nat.ne_of_lt (Nat.lt_of_lt_of_le (Nat.lt_of_lt_of_le E1.lt (Nat.le_refl _)) (Nat.le_of_eq g102.symm))))))
  have f127 := (f111.other W117 (Ne.symm (Nat.ne_of_lt (Nat.lt_of_lt_of_le (Nat.lt_of_lt_of_le E1.lt E102.1) f108))))
  refine own_retV X117 hx hlk hret (hb hby own_d1_15) (by decide) (by decide) ?_
  rw [e117]
  exact ⟨b102, bt107, kt107, rfl, N117, ((((Keep.refl h0 [r1]).ext E102).trans K107 (allS (Or.inr sz_b102) all0)).wr W117 (Or.inl (List.mem_of_getElem? (i := 0) rfl))), f119, f118, f120, f121, sz_b102, f122, f123, f124, f125, (Nat.le_trans E102.1 f108), f126, f127⟩
theorem own_d7_0 : decode prog_4_method_7_code 0 = .ok (.aload_n 0, 1) := by decide +kernel
theorem own_d7_1 : decode prog_4_method_7_code 1 = .ok (.getfield 24, 3) := by decide +kernel
theorem own_d7_4 : decode prog_4_method_7_code 4 = .ok (.ifCond .le 7, 3) := by decide +kernel
theorem own_d7_7 : decode prog_4_method_7_code 7 = .ok (.iconst 1, 1) := by decide +kernel
theorem own_d7_8 : decode prog_4_method_7_code 8 = .ok (.goto 4, 3) := by decide +kernel
theorem own_d7_12 : decode prog_4_method_7_code 12 = .ok (.ireturn, 1) := by decide +kernel
def Q_own_ic1 (Z : State) (r1 : Addr) (u1 : Int32) (h0 : Heap) (n0 : Nat) (v : Option Value) (h : Heap) (L : List Loc) : Prop := v = some (.int (1 : Int32)) ∧ Fr n0 L ∧ h = h0
theorem own_ef_own_ic1 (m : MethodId) (r1 : Addr) : entryFrame m #[(.ref r1)] 1 = mkF m 0 #[rv r1] [] := by first | (simp [entryFrame, mkF, argsToLocals, Value.category]; done) | rfl
set_option maxRecDepth 65536 in
set_option maxHeartbeats 40000000 in
theorem own_ic1 (l : Launch) (Z : State) (a0 : Array Value) (hw : ∀ d ∈ tables_1, d.before a0 Z = true) (ws : List Jvm.Cond) (r1 : Addr) (u1 : Int32) (h0 : Heap) (n0 : Nat) (Z0 : n0 ≤ h0.size) (F1 : Fld Z h0 r1 "com/example/purlin/purlin/framework/ServiceUse" "count" "I" (.int u1)) (hp : (0 : Int32) < u1) :
    own_Ctr l Z (⟨"com/example/purlin/purlin/framework/ServiceUse", "isCounted", "()Z"⟩ : MethodName) prog_4_method_7_code 1 (some .boolean) ws ({ frames := 0, cells := 0, slots := 0, locals := 0 } : Room) (({ frames := 0, cells := 0, slots := 0, locals := 0 } : Room)).cells (({ frames := 0, cells := 0, slots := 0, locals := 0 } : Room)).slots #[(.ref r1)] h0 (Q_own_ic1 Z r1 u1 h0 n0) := by
  refine own_enter (plainFor_of_name own_pn7) ?_
  intro p e s m below meth c s₁ X0 hx hZ hby hml hown hnm hlk hret e0
  have N0 := Fr.nil n0
  refine own_cast (own_ef_own_ic1 m r1) ?_
  refine own_by (g' := (mkF m 1 #[rv r1] [(.ref r1)])) (fun t k => XS.aloadN X0.here hx rfl (hb hby own_d7_0) rfl rfl k) ?_
  obtain ⟨T101, X101, e101, st101⟩ := getF X0 hx hZ hown (host := "") (Or.inl (hw _ (List.mem_of_getElem? (i := 45) rfl))) Via.refl e0 F1 (g := (mkF m 1 #[rv r1] [(.ref r1)])) rfl rfl (hb hby own_d7_1)
  refine own_by (g' := (mkF m 4 #[rv r1] [(.int u1)])) st101 ?_
  refine own_by (g' := (mkF m 12 #[rv r1] [(.int (1 : Int32))])) (fun t k => XS.ifNo X101.here hx rfl (hb hby own_d7_4) rfl ((if0 _ _).trans (tlt hp).2.2.2) (XS.iconst X101.here hx rfl (hb hby own_d7_7) (XS.goto X101.here hx rfl (pc0 := 8) (pc' := 12) rfl (hb hby own_d7_8) (by decide) (by decide) k))) ?_
  refine own_retN X101 hx hlk hret (t := .boolean) (by simp) (hb hby own_d7_12) (by decide) (by decide) ?_
  exact ⟨rfl, N0, e101⟩
theorem own_d7_11 : decode prog_4_method_7_code 11 = .ok (.iconst 0, 1) := by decide +kernel
def Q_own_ic0 (Z : State) (r1 : Addr) (u1 : Int32) (h0 : Heap) (n0 : Nat) (v : Option Value) (h : Heap) (L : List Loc) : Prop := v = some (.int (0 : Int32)) ∧ Fr n0 L ∧ h = h0
theorem own_ef_own_ic0 (m : MethodId) (r1 : Addr) : entryFrame m #[(.ref r1)] 1 = mkF m 0 #[rv r1] [] := by first | (simp [entryFrame, mkF, argsToLocals, Value.category]; done) | rfl
set_option maxRecDepth 65536 in
set_option maxHeartbeats 40000000 in
theorem own_ic0 (l : Launch) (Z : State) (a0 : Array Value) (hw : ∀ d ∈ tables_1, d.before a0 Z = true) (ws : List Jvm.Cond) (r1 : Addr) (u1 : Int32) (h0 : Heap) (n0 : Nat) (Z0 : n0 ≤ h0.size) (F1 : Fld Z h0 r1 "com/example/purlin/purlin/framework/ServiceUse" "count" "I" (.int u1)) (hp : ¬ (0 : Int32) < u1) :
    own_Ctr l Z (⟨"com/example/purlin/purlin/framework/ServiceUse", "isCounted", "()Z"⟩ : MethodName) prog_4_method_7_code 1 (some .boolean) ws ({ frames := 0, cells := 0, slots := 0, locals := 0 } : Room) (({ frames := 0, cells := 0, slots := 0, locals := 0 } : Room)).cells (({ frames := 0, cells := 0, slots := 0, locals := 0 } : Room)).slots #[(.ref r1)] h0 (Q_own_ic0 Z r1 u1 h0 n0) := by
  refine own_enter (plainFor_of_name own_pn7) ?_
  intro p e s m below meth c s₁ X0 hx hZ hby hml hown hnm hlk hret e0
  have N0 := Fr.nil n0
  refine own_cast (own_ef_own_ic0 m r1) ?_
  refine own_by (g' := (mkF m 1 #[rv r1] [(.ref r1)])) (fun t k => XS.aloadN X0.here hx rfl (hb hby own_d7_0) rfl rfl k) ?_
  obtain ⟨T101, X101, e101, st101⟩ := getF X0 hx hZ hown (host := "") (Or.inl (hw _ (List.mem_of_getElem? (i := 45) rfl))) Via.refl e0 F1 (g := (mkF m 1 #[rv r1] [(.ref r1)])) rfl rfl (hb hby own_d7_1)
  refine own_by (g' := (mkF m 4 #[rv r1] [(.int u1)])) st101 ?_
  refine own_by (g' := (mkF m 12 #[rv r1] [(.int (0 : Int32))])) (fun t k => XS.ifYes X101.here hx rfl (pc0 := 4) (pc' := 11) rfl (hb hby own_d7_4) rfl ((if0 _ _).trans (flt hp).2.2.2) (by decide) (by decide) (XS.iconst X101.here hx rfl (hb hby own_d7_11) k)) ?_
  refine own_retN X101 hx hlk hret (t := .boolean) (by simp) (hb hby own_d7_12) (by decide) (by decide) ?_
  exact ⟨rfl, N0, e101⟩
theorem own_d8_0 : decode prog_4_method_5_code 0 = .ok (.aload_n 0, 1) := by decide +kernel
theorem own_d8_1 : decode prog_4_method_5_code 1 = .ok (.getfield 24, 3) := by decide +kernel
theorem own_d8_4 : decode prog_4_method_5_code 4 = .ok (.ifCond .ne 8, 3) := by decide +kernel
theorem own_d8_7 : decode prog_4_method_5_code 7 = .ok (.aload_n 0, 1) := by decide +kernel
theorem own_d8_8 : decode prog_4_method_5_code 8 = .ok (.aload_n 1, 1) := by decide +kernel
theorem own_d8_9 : decode prog_4_method_5_code 9 = .ok (.putfield 16, 3) := by decide +kernel
theorem own_d8_12 : decode prog_4_method_5_code 12 = .ok (.aload_n 0, 1) := by decide +kernel
theorem own_d8_13 : decode prog_4_method_5_code 13 = .ok (.dup, 1) := by decide +kernel
theorem own_d8_14 : decode prog_4_method_5_code 14 = .ok (.getfield 24, 3) := by decide +kernel
theorem own_d8_17 : decode prog_4_method_5_code 17 = .ok (.iconst 1, 1) := by decide +kernel
theorem own_d8_18 : decode prog_4_method_5_code 18 = .ok (.iadd, 1) := by decide +kernel
theorem own_d8_19 : decode prog_4_method_5_code 19 = .ok (.putfield 24, 3) := by decide +kernel
theorem own_d8_22 : decode prog_4_method_5_code 22 = .ok (.return_, 1) := by decide +kernel
def Q_own_use0 (Z : State) (r1 : Addr) (w2 : Value) (w1 : Value) (u1 : Int32) (rm : Addr) (h0 : Heap) (n0 : Nat) (v : Option Value) (h : Heap) (L : List Loc) : Prop := v = none ∧ Fr n0 L ∧ Keep h0 h [r1] ∧ Exa Z h r1 "com/example/purlin/purlin/framework/ServiceUse" ∧ Fld Z h r1 "com/example/purlin/purlin/framework/ServiceUse" "object" "Ljava/lang/Object;" w2 ∧ Fld Z h r1 "com/example/purlin/purlin/framework/ServiceUse" "count" "I" (.int (u1 + (1 : Int32))) ∧ Fld Z h r1 "com/example/purlin/purlin/framework/ServiceUse" "prototypes" "Ljava/util/Map;" (.ref rm)
theorem own_ef_own_use0 (m : MethodId) (r1 : Addr) (w2 : Value) (hr2 : (w2).isRef = true) : entryFrame m #[(.ref r1), w2] 2 = mkF m 0 #[rv r1, .val w2] [] := by
  rcases ref_cases hr2 with rfl | ⟨_, rfl⟩ <;>
  first | (simp [entryFrame, mkF, argsToLocals, Value.category]; done) | rfl
set_option maxRecDepth 65536 in
set_option maxHeartbeats 40000000 in
theorem own_use0 (l : Launch) (Z : State) (a0 : Array Value) (hw : ∀ d ∈ tables_1, d.before a0 Z = true) (ws : List Jvm.Cond) (r1 : Addr) (w2 : Value) (w1 : Value) (u1 : Int32) (rm : Addr) (h0 : Heap) (n0 : Nat) (Z0 : n0 ≤ h0.size) (E1 : Exa Z h0 r1 "com/example/purlin/purlin/framework/ServiceUse") (Fkm : Fld Z h0 r1 "com/example/purlin/purlin/framework/ServiceUse" "prototypes" "Ljava/util/Map;" (.ref rm)) (F1 : Fld Z h0 r1 "com/example/purlin/purlin/framework/ServiceUse" "object" "Ljava/lang/Object;" w1) (F2 : Fld Z h0 r1 "com/example/purlin/purlin/framework/ServiceUse" "count" "I" (.int u1)) (hr1 : (w1).isRef = true) (g1 : n0 ≤ r1) (hr2 : (w2).isRef = true) (hp : u1 = (0 : Int32)) :
    own_Ctr l Z (⟨"com/example/purlin/purlin/framework/ServiceUse", "use", "(Ljava/lang/Object;)V"⟩ : MethodName) prog_4_method_5_code 2 none ws ({ frames := 0, cells := 0, slots := 0, locals := 0 } : Room) (({ frames := 0, cells := 0, slots := 0, locals := 0 } : Room)).cells (({ frames := 0, cells := 0, slots := 0, locals := 0 } : Room)).slots #[(.ref r1), w2] h0 (Q_own_use0 Z r1 w2 w1 u1 rm h0 n0) := by
  refine own_enter (plainFor_of_name own_pn7) ?_
  intro p e s m below meth c s₁ X0 hx hZ hby hml hown hnm hlk hret e0
  have N0 := Fr.nil n0
  refine own_cast (own_ef_own_use0 m r1 w2 hr2) ?_
  refine own_by (g' := (mkF m 1 #[rv r1, .val w2] [(.ref r1)])) (fun t k => XS.aloadN X0.here hx rfl (hb hby own_d8_0) rfl rfl k) ?_
  obtain ⟨T101, X101, e101, st101⟩ := getF X0 hx hZ hown (host := "") (Or.inl (hw _ (List.mem_of_getElem? (i := 45) rfl))) Via.refl e0 F2 (g := (mkF m 1 #[rv r1, .val w2] [(.ref r1)])) rfl rfl (hb hby own_d8_1)
  refine own_by (g' := (mkF m 4 #[rv r1, .val w2] [(.int u1)])) st101 ?_
  refine own_by (g' := (mkF m 9 #[rv r1, .val w2] [w2, (.ref r1)])) (fun t k => XS.ifNo X101.here hx rfl (hb hby own_d8_4) rfl ((if0 _ _).trans (teq hp).2) (XS.aloadN X101.here hx rfl (hb hby own_d8_7) rfl rfl (XS.aloadN X101.here hx rfl (hb hby own_d8_8) rfl hr2 k))) ?_
  obtain ⟨T102, h102, X102, e102, W102, st102⟩ := putF X101 hx hZ hown (host := "") (Or.inl (hw _ (List.mem_of_getElem? (i := 52) rfl))) Via.refl e101 F1 E1 (Or.inl (hw _ (List.mem_of_getElem? (i := 53) rfl))) (hw _ (List.mem_of_getElem? (i := 1) rfl)) (ty := (.object "java/lang/Object")) (by decide) (own_narR rfl) (own_fitR rfl hr2) (g := (mkF m 9 #[rv r1, .val w2] [w2, (.ref r1)])) rfl rfl (hb hby own_d8_9)
  have f103 := F1.same W102
  have N102 := Fr.snoc X102 N0 g1
  refine own_by (g' := (mkF m 12 #[rv r1, .val w2] [])) st102 ?_
  refine own_by (g' := (mkF m 14 #[rv r1, .val w2] [(.ref r1), (.ref r1)])) (fun t k => XS.aloadN X102.here hx rfl (hb hby own_d8_12) rfl rfl (XS.dup X102.here hx rfl (hb hby own_d8_13) rfl rfl k)) ?_
  have f104 := (F2.other W102 (Or.inr (slot_ne (Or.inl (hw _ (List.mem_of_getElem? (i := 46) rfl))) (Or.inl (hw _ (List.mem_of_getElem? (i := 53) rfl))) (by decide) (t := .int) (t' := (.object "java/lang/Object")) (by decide) (by decide))))
  obtain ⟨T105, X105, e105, st105⟩ := getF X102 hx hZ hown (host := "") (Or.inl (hw _ (List.mem_of_getElem? (i := 45) rfl))) Via.refl e102 f104 (g := (mkF m 14 #[rv r1, .val w2] [(.ref r1), (.ref r1)])) rfl rfl (hb hby own_d8_14)
  refine own_by (g' := (mkF m 17 #[rv r1, .val w2] [(.int u1), (.ref r1)])) st105 ?_
  refine own_by (g' := (mkF m 19 #[rv r1, .val w2] [(.int (u1 + (1 : Int32))), (.ref r1)])) (fun t k => XS.iconst X105.here hx rfl (hb hby own_d8_17) (XS.iadd X105.here hx rfl (hb hby own_d8_18) rfl k)) ?_
  have f106 := (E1.wr W102)
  obtain ⟨T107, h107, X107, e107, W107, st107⟩ := putF X105 hx hZ hown (host := "") (Or.inl (hw _ (List.mem_of_getElem? (i := 45) rfl))) Via.refl e105 f104 f106 (Or.inl (hw _ (List.mem_of_getElem? (i := 46) rfl))) (hw _ (List.mem_of_getElem? (i := 1) rfl)) (ty := .int) (by decide) rfl rfl (g := (mkF m 19 #[rv r1, .val w2] [(.int (u1 + (1 : Int32))), (.ref r1)])) rfl rfl (hb hby own_d8_19)
  have f108 := f104.same W107
  have N107 := Fr.snoc X107 N102 g1
  refine own_by (g' := (mkF m 22 #[rv r1, .val w2] [])) st107 ?_
  have f109 := (f106.wr W107)
  have f110 := (f103.other W107 (Or.inr (slot_ne (Or.inl (hw _ (List.mem_of_getElem? (i := 53) rfl))) (Or.inl (hw _ (List.mem_of_getElem? (i := 46) rfl))) (by decide) (t := (.object "java/lang/Object")) (t' := .int) (by decide) (by decide))))
  have f111 := ((Fkm.other W102 (Or.inr (slot_ne (Or.inr (hw _ (List.mem_of_getElem? (i := 32) rfl))) (Or.inl (hw _ (List.mem_of_getElem? (i := 53) rfl))) (by decide) (t := (.object "java/util/Map")) (t' := (.object "java/lang/Object")) (by decide) (by decide)))).other W107 (Or.inr (slot_ne (Or.inr (hw _ (List.mem_of_getElem? (i := 32) rfl))) (Or.inl (hw _ (List.mem_of_getElem? (i := 46) rfl))) (by decide) (t := (.object "java/util/Map")) (t' := .int) (by decide) (by decide))))
  refine own_retV X107 hx hlk hret (hb hby own_d8_22) (by decide) (by decide) ?_
  rw [e107]
  exact ⟨rfl, N107, (((Keep.refl h0 [r1]).wr W102 (Or.inl (List.mem_of_getElem? (i := 0) rfl))).wr W107 (Or.inl (List.mem_of_getElem? (i := 0) rfl))), f109, f110, f108, f111⟩
def Q_own_use1 (Z : State) (r1 : Addr) (w2 : Value) (w1 : Value) (u1 : Int32) (rm : Addr) (h0 : Heap) (n0 : Nat) (v : Option Value) (h : Heap) (L : List Loc) : Prop := v = none ∧ Fr n0 L ∧ Keep h0 h [r1] ∧ Exa Z h r1 "com/example/purlin/purlin/framework/ServiceUse" ∧ Fld Z h r1 "com/example/purlin/purlin/framework/ServiceUse" "object" "Ljava/lang/Object;" w1 ∧ Fld Z h r1 "com/example/purlin/purlin/framework/ServiceUse" "count" "I" (.int (u1 + (1 : Int32))) ∧ Fld Z h r1 "com/example/purlin/purlin/framework/ServiceUse" "prototypes" "Ljava/util/Map;" (.ref rm)
theorem own_ef_own_use1 (m : MethodId) (r1 : Addr) (w2 : Value) (hr2 : (w2).isRef = true) : entryFrame m #[(.ref r1), w2] 2 = mkF m 0 #[rv r1, .val w2] [] := by
  rcases ref_cases hr2 with rfl | ⟨_, rfl⟩ <;>
  first | (simp [entryFrame, mkF, argsToLocals, Value.category]; done) | rfl
set_option maxRecDepth 65536 in
set_option maxHeartbeats 40000000 in
theorem own_use1 (l : Launch) (Z : State) (a0 : Array Value) (hw : ∀ d ∈ tables_1, d.before a0 Z = true) (ws : List Jvm.Cond) (r1 : Addr) (w2 : Value) (w1 : Value) (u1 : Int32) (rm : Addr) (h0 : Heap) (n0 : Nat) (Z0 : n0 ≤ h0.size) (E1 : Exa Z h0 r1 "com/example/purlin/purlin/framework/ServiceUse") (Fkm : Fld Z h0 r1 "com/example/purlin/purlin/framework/ServiceUse" "prototypes" "Ljava/util/Map;" (.ref rm)) (F1 : Fld Z h0 r1 "com/example/purlin/purlin/framework/ServiceUse" "object" "Ljava/lang/Object;" w1) (F2 : Fld Z h0 r1 "com/example/purlin/purlin/framework/ServiceUse" "count" "I" (.int u1)) (hr1 : (w1).isRef = true) (g1 : n0 ≤ r1) (hr2 : (w2).isRef = true) (hp : ¬ u1 = (0 : Int32)) :
    own_Ctr l Z (⟨"com/example/purlin/purlin/framework/ServiceUse", "use", "(Ljava/lang/Object;)V"⟩ : MethodName) prog_4_method_5_code 2 none ws ({ frames := 0, cells := 0, slots := 0, locals := 0 } : Room) (({ frames := 0, cells := 0, slots := 0, locals := 0 } : Room)).cells (({ frames := 0, cells := 0, slots := 0, locals := 0 } : Room)).slots #[(.ref r1), w2] h0 (Q_own_use1 Z r1 w2 w1 u1 rm h0 n0) := by
  refine own_enter (plainFor_of_name own_pn7) ?_
  intro p e s m below meth c s₁ X0 hx hZ hby hml hown hnm hlk hret e0
  have N0 := Fr.nil n0
  refine own_cast (own_ef_own_use1 m r1 w2 hr2) ?_
  refine own_by (g' := (mkF m 1 #[rv r1, .val w2] [(.ref r1)])) (fun t k => XS.aloadN X0.here hx rfl (hb hby own_d8_0) rfl rfl k) ?_
  obtain ⟨T101, X101, e101, st101⟩ := getF X0 hx hZ hown (host := "") (Or.inl (hw _ (List.mem_of_getElem? (i := 45) rfl))) Via.refl e0 F2 (g := (mkF m 1 #[rv r1, .val w2] [(.ref r1)])) rfl rfl (hb hby own_d8_1)
  refine own_by (g' := (mkF m 4 #[rv r1, .val w2] [(.int u1)])) st101 ?_
  refine own_by (g' := (mkF m 14 #[rv r1, .val w2] [(.ref r1), (.ref r1)])) (fun t k => XS.ifYes X101.here hx rfl (pc0 := 4) (pc' := 12) rfl (hb hby own_d8_4) rfl ((if0 _ _).trans (feq hp).2) (by decide) (by decide) (XS.aloadN X101.here hx rfl (hb hby own_d8_12) rfl rfl (XS.dup X101.here hx rfl (hb hby own_d8_13) rfl rfl k))) ?_
  obtain ⟨T102, X102, e102, st102⟩ := getF X101 hx hZ hown (host := "") (Or.inl (hw _ (List.mem_of_getElem? (i := 45) rfl))) Via.refl e101 F2 (g := (mkF m 14 #[rv r1, .val w2] [(.ref r1), (.ref r1)])) rfl rfl (hb hby own_d8_14)
  refine own_by (g' := (mkF m 17 #[rv r1, .val w2] [(.int u1), (.ref r1)])) st102 ?_
  refine own_by (g' := (mkF m 19 #[rv r1, .val w2] [(.int (u1 + (1 : Int32))), (.ref r1)])) (fun t k => XS.iconst X102.here hx rfl (hb hby own_d8_17) (XS.iadd X102.here hx rfl (hb hby own_d8_18) rfl k)) ?_
  obtain ⟨T103, h103, X103, e103, W103, st103⟩ := putF X102 hx hZ hown (host := "") (Or.inl (hw _ (List.mem_of_getElem? (i := 45) rfl))) Via.refl e102 F2 E1 (Or.inl (hw _ (List.mem_of_getElem? (i := 46) rfl))) (hw _ (List.mem_of_getElem? (i := 1) rfl)) (ty := .int) (by decide) rfl rfl (g := (mkF m 19 #[rv r1, .val w2] [(.int (u1 + (1 : Int32))), (.ref r1)])) rfl rfl (hb hby own_d8_19)
  have f104 := F2.same W103
  have N103 := Fr.snoc X103 N0 g1
  refine own_by (g' := (mkF m 22 #[rv r1, .val w2] [])) st103 ?_
  have f105 := (E1.wr W103)
  have f106 := (F1.other W103 (Or.inr (slot_ne (Or.inl (hw _ (List.mem_of_getElem? (i := 53) rfl))) (Or.inl (hw _ (List.mem_of_getElem? (i := 46) rfl))) (by decide) (t := (.object "java/lang/Object")) (t' := .int) (by decide) (by decide))))
  have f107 := (Fkm.other W103 (Or.inr (slot_ne (Or.inr (hw _ (List.mem_of_getElem? (i := 32) rfl))) (Or.inl (hw _ (List.mem_of_getElem? (i := 46) rfl))) (by decide) (t := (.object "java/util/Map")) (t' := .int) (by decide) (by decide))))
  refine own_retV X103 hx hlk hret (hb hby own_d8_22) (by decide) (by decide) ?_
  rw [e103]
  exact ⟨rfl, N103, ((Keep.refl h0 [r1]).wr W103 (Or.inl (List.mem_of_getElem? (i := 0) rfl))), f105, f106, f104, f107⟩
theorem own_d28_0 : decode prog_4_method_6_code 0 = .ok (.aload_n 0, 1) := by decide +kernel
theorem own_d28_1 : decode prog_4_method_6_code 1 = .ok (.dup, 1) := by decide +kernel
theorem own_d28_2 : decode prog_4_method_6_code 2 = .ok (.getfield 24, 3) := by decide +kernel
theorem own_d28_5 : decode prog_4_method_6_code 5 = .ok (.iconst 1, 1) := by decide +kernel
theorem own_d28_6 : decode prog_4_method_6_code 6 = .ok (.isub, 1) := by decide +kernel
theorem own_d28_7 : decode prog_4_method_6_code 7 = .ok (.dup_x1, 1) := by decide +kernel
theorem own_d28_8 : decode prog_4_method_6_code 8 = .ok (.putfield 24, 3) := by decide +kernel
theorem own_d28_11 : decode prog_4_method_6_code 11 = .ok (.ifCond .le 5, 3) := by decide +kernel
theorem own_d28_14 : decode prog_4_method_6_code 14 = .ok (.aconst_null, 1) := by decide +kernel
theorem own_d28_15 : decode prog_4_method_6_code 15 = .ok (.areturn, 1) := by decide +kernel
def Q_own_un1 (Z : State) (r1 : Addr) (w1 : Value) (u1 : Int32) (rm : Addr) (h0 : Heap) (n0 : Nat) (v : Option Value) (h : Heap) (L : List Loc) : Prop := v = some .null ∧ Fr n0 L ∧ Keep h0 h [r1] ∧ Exa Z h r1 "com/example/purlin/purlin/framework/ServiceUse" ∧ Fld Z h r1 "com/example/purlin/purlin/framework/ServiceUse" "object" "Ljava/lang/Object;" w1 ∧ Fld Z h r1 "com/example/purlin/purlin/framework/ServiceUse" "count" "I" (.int (u1 - (1 : Int32))) ∧ Fld Z h r1 "com/example/purlin/purlin/framework/ServiceUse" "prototypes" "Ljava/util/Map;" (.ref rm)
theorem own_ef_own_un1 (m : MethodId) (r1 : Addr) : entryFrame m #[(.ref r1)] 2 = mkF m 0 #[rv r1, .unset] [] := by first | (simp [entryFrame, mkF, argsToLocals, Value.category]; done) | rfl
set_option maxRecDepth 65536 in
set_option maxHeartbeats 40000000 in
theorem own_un1 (l : Launch) (Z : State) (a0 : Array Value) (hw : ∀ d ∈ tables_1, d.before a0 Z = true) (ws : List Jvm.Cond) (r1 : Addr) (w1 : Value) (u1 : Int32) (rm : Addr) (h0 : Heap) (n0 : Nat) (Z0 : n0 ≤ h0.size) (E1 : Exa Z h0 r1 "com/example/purlin/purlin/framework/ServiceUse") (Fkm : Fld Z h0 r1 "com/example/purlin/purlin/framework/ServiceUse" "prototypes" "Ljava/util/Map;" (.ref rm)) (F1 : Fld Z h0 r1 "com/example/purlin/purlin/framework/ServiceUse" "object" "Ljava/lang/Object;" w1) (F2 : Fld Z h0 r1 "com/example/purlin/purlin/framework/ServiceUse" "count" "I" (.int u1)) (hr1 : (w1).isRef = true) (g1 : n0 ≤ r1) (hp : (0 : Int32) < (u1 - (1 : Int32))) :
    own_Ctr l Z (⟨"com/example/purlin/purlin/framework/ServiceUse", "unuse", "()Ljava/lang/Object;"⟩ : MethodName) prog_4_method_6_code 2 (some (.object "java/lang/Object")) ws ({ frames := 0, cells := 0, slots := 0, locals := 0 } : Room) (({ frames := 0, cells := 0, slots := 0, locals := 0 } : Room)).cells (({ frames := 0, cells := 0, slots := 0, locals := 0 } : Room)).slots #[(.ref r1)] h0 (Q_own_un1 Z r1 w1 u1 rm h0 n0) := by
  refine own_enter (plainFor_of_name own_pn7) ?_
  intro p e s m below meth c s₁ X0 hx hZ hby hml hown hnm hlk hret e0
  have N0 := Fr.nil n0
  refine own_cast (own_ef_own_un1 m r1) ?_
  refine own_by (g' := (mkF m 2 #[rv r1, .unset] [(.ref r1), (.ref r1)])) (fun t k => XS.aloadN X0.here hx rfl (hb hby own_d28_0) rfl rfl (XS.dup X0.here hx rfl (hb hby own_d28_1) rfl rfl k)) ?_
  obtain ⟨T101, X101, e101, st101⟩ := getF X0 hx hZ hown (host := "") (Or.inl (hw _ (List.mem_of_getElem? (i := 45) rfl))) Via.refl e0 F2 (g := (mkF m 2 #[rv r1, .unset] [(.ref r1), (.ref r1)])) rfl rfl (hb hby own_d28_2)
  refine own_by (g' := (mkF m 5 #[rv r1, .unset] [(.int u1), (.ref r1)])) st101 ?_
  refine own_by (g' := (mkF m 8 #[rv r1, .unset] [(.int (u1 - (1 : Int32))), (.ref r1), (.int (u1 - (1 : Int32)))])) (fun t k => XS.iconst X101.here hx rfl (hb hby own_d28_5) (XS.isub X101.here hx rfl (hb hby own_d28_6) rfl (XS.dupX1 X101.here hx rfl (hb hby own_d28_7) rfl rfl rfl k))) ?_
  obtain ⟨T102, h102, X102, e102, W102, st102⟩ := putF X101 hx hZ hown (host := "") (Or.inl (hw _ (List.mem_of_getElem? (i := 45) rfl))) Via.refl e101 F2 E1 (Or.inl (hw _ (List.mem_of_getElem? (i := 46) rfl))) (hw _ (List.mem_of_getElem? (i := 1) rfl)) (ty := .int) (by decide) rfl rfl (g := (mkF m 8 #[rv r1, .unset] [(.int (u1 - (1 : Int32))), (.ref r1), (.int (u1 - (1 : Int32)))])) rfl rfl (hb hby own_d28_8)
  have f103 := F2.same W102
  have N102 := Fr.snoc X102 N0 g1
  refine own_by (g' := (mkF m 11 #[rv r1, .unset] [(.int (u1 - (1 : Int32)))])) st102 ?_
  refine own_by (g' := (mkF m 15 #[rv r1, .unset] [.null])) (fun t k => XS.ifNo X102.here hx rfl (hb hby own_d28_11) rfl ((if0 _ _).trans (tlt hp).2.2.2) (XS.aconstNull X102.here hx rfl (hb hby own_d28_14) k)) ?_
  have f104 := (E1.wr W102)
  have f105 := (F1.other W102 (Or.inr (slot_ne (Or.inl (hw _ (List.mem_of_getElem? (i := 53) rfl))) (Or.inl (hw _ (List.mem_of_getElem? (i := 46) rfl))) (by decide) (t := (.object "java/lang/Object")) (t' := .int) (by decide) (by decide))))
  have f106 := (Fkm.other W102 (Or.inr (slot_ne (Or.inr (hw _ (List.mem_of_getElem? (i := 32) rfl))) (Or.inl (hw _ (List.mem_of_getElem? (i := 46) rfl))) (by decide) (t := (.object "java/util/Map")) (t' := .int) (by decide) (by decide))))
  refine own_retA X102 hx hlk hret rfl rfl (hb hby own_d28_15) (by decide) (by decide) ?_
  rw [e102]
  exact ⟨rfl, N102, ((Keep.refl h0 [r1]).wr W102 (Or.inl (List.mem_of_getElem? (i := 0) rfl))), f104, f105, f103, f106⟩
theorem own_d28_16 : decode prog_4_method_6_code 16 = .ok (.aload_n 0, 1) := by decide +kernel
theorem own_d28_17 : decode prog_4_method_6_code 17 = .ok (.getfield 16, 3) := by decide +kernel
theorem own_d28_20 : decode prog_4_method_6_code 20 = .ok (.astore_n 1, 1) := by decide +kernel
theorem own_d28_21 : decode prog_4_method_6_code 21 = .ok (.aload_n 0, 1) := by decide +kernel
theorem own_d28_22 : decode prog_4_method_6_code 22 = .ok (.aconst_null, 1) := by decide +kernel
theorem own_d28_23 : decode prog_4_method_6_code 23 = .ok (.putfield 16, 3) := by decide +kernel
theorem own_d28_26 : decode prog_4_method_6_code 26 = .ok (.aload_n 1, 1) := by decide +kernel
theorem own_d28_27 : decode prog_4_method_6_code 27 = .ok (.areturn, 1) := by decide +kernel
def Q_own_un0 (Z : State) (r1 : Addr) (w1 : Value) (u1 : Int32) (rm : Addr) (h0 : Heap) (n0 : Nat) (v : Option Value) (h : Heap) (L : List Loc) : Prop := v = some w1 ∧ Fr n0 L ∧ Keep h0 h [r1] ∧ Exa Z h r1 "com/example/purlin/purlin/framework/ServiceUse" ∧ Fld Z h r1 "com/example/purlin/purlin/framework/ServiceUse" "object" "Ljava/lang/Object;" .null ∧ Fld Z h r1 "com/example/purlin/purlin/framework/ServiceUse" "count" "I" (.int (u1 - (1 : Int32))) ∧ Fld Z h r1 "com/example/purlin/purlin/framework/ServiceUse" "prototypes" "Ljava/util/Map;" (.ref rm)
theorem own_ef_own_un0 (m : MethodId) (r1 : Addr) : entryFrame m #[(.ref r1)] 2 = mkF m 0 #[rv r1, .unset] [] := by first | (simp [entryFrame, mkF, argsToLocals, Value.category]; done) | rfl
set_option maxRecDepth 65536 in
set_option maxHeartbeats 40000000 in
theorem own_un0 (l : Launch) (Z : State) (a0 : Array Value) (hw : ∀ d ∈ tables_1, d.before a0 Z = true) (ws : List Jvm.Cond) (r1 : Addr) (w1 : Value) (u1 : Int32) (rm : Addr) (h0 : Heap) (n0 : Nat) (Z0 : n0 ≤ h0.size) (E1 : Exa Z h0 r1 "com/example/purlin/purlin/framework/ServiceUse") (Fkm : Fld Z h0 r1 "com/example/purlin/purlin/framework/ServiceUse" "prototypes" "Ljava/util/Map;" (.ref rm)) (F1 : Fld Z h0 r1 "com/example/purlin/purlin/framework/ServiceUse" "object" "Ljava/lang/Object;" w1) (F2 : Fld Z h0 r1 "com/example/purlin/purlin/framework/ServiceUse" "count" "I" (.int u1)) (hr1 : (w1).isRef = true) (g1 : n0 ≤ r1) (hp : ¬ (0 : Int32) < (u1 - (1 : Int32))) :
    own_Ctr l Z (⟨"com/example/purlin/purlin/framework/ServiceUse", "unuse", "()Ljava/lang/Object;"⟩ : MethodName) prog_4_method_6_code 2 (some (.object "java/lang/Object")) ws ({ frames := 0, cells := 0, slots := 0, locals := 0 } : Room) (({ frames := 0, cells := 0, slots := 0, locals := 0 } : Room)).cells (({ frames := 0, cells := 0, slots := 0, locals := 0 } : Room)).slots #[(.ref r1)] h0 (Q_own_un0 Z r1 w1 u1 rm h0 n0) := by
  refine own_enter (plainFor_of_name own_pn7) ?_
  intro p e s m below meth c s₁ X0 hx hZ hby hml hown hnm hlk hret e0
  have N0 := Fr.nil n0
  refine own_cast (own_ef_own_un0 m r1) ?_
  refine own_by (g' := (mkF m 2 #[rv r1, .unset] [(.ref r1), (.ref r1)])) (fun t k => XS.aloadN X0.here hx rfl (hb hby own_d28_0) rfl rfl (XS.dup X0.here hx rfl (hb hby own_d28_1) rfl rfl k)) ?_
  obtain ⟨T101, X101, e101, st101⟩ := getF X0 hx hZ hown (host := "") (Or.inl (hw _ (List.mem_of_getElem? (i := 45) rfl))) Via.refl e0 F2 (g := (mkF m 2 #[rv r1, .unset] [(.ref r1), (.ref r1)])) rfl rfl (hb hby own_d28_2)
  refine own_by (g' := (mkF m 5 #[rv r1, .unset] [(.int u1), (.ref r1)])) st101 ?_
  refine own_by (g' := (mkF m 8 #[rv r1, .unset] [(.int (u1 - (1 : Int32))), (.ref r1), (.int (u1 - (1 : Int32)))])) (fun t k => XS.iconst X101.here hx rfl (hb hby own_d28_5) (XS.isub X101.here hx rfl (hb hby own_d28_6) rfl (XS.dupX1 X101.here hx rfl (hb hby own_d28_7) rfl rfl rfl k))) ?_
  obtain ⟨T102, h102, X102, e102, W102, st102⟩ := putF X101 hx hZ hown (host := "") (Or.inl (hw _ (List.mem_of_getElem? (i := 45) rfl))) Via.refl e101 F2 E1 (Or.inl (hw _ (List.mem_of_getElem? (i := 46) rfl))) (hw _ (List.mem_of_getElem? (i := 1) rfl)) (ty := .int) (by decide) rfl rfl (g := (mkF m 8 #[rv r1, .unset] [(.int (u1 - (1 : Int32))), (.ref r1), (.int (u1 - (1 : Int32)))])) rfl rfl (hb hby own_d28_8)
  have f103 := F2.same W102
  have N102 := Fr.snoc X102 N0 g1
  refine own_by (g' := (mkF m 11 #[rv r1, .unset] [(.int (u1 - (1 : Int32)))])) st102 ?_
  refine own_by (g' := (mkF m 17 #[rv r1, .unset] [(.ref r1)])) (fun t k => XS.ifYes X102.here hx rfl (pc0 := 11) (pc' := 16) rfl (hb hby own_d28_11) rfl ((if0 _ _).trans (flt hp).2.2.2) (by decide) (by decide) (XS.aloadN X102.here hx rfl (hb hby own_d28_16) rfl rfl k)) ?_
  have f104 := (F1.other W102 (Or.inr (slot_ne (Or.inl (hw _ (List.mem_of_getElem? (i := 53) rfl))) (Or.inl (hw _ (List.mem_of_getElem? (i := 46) rfl))) (by decide) (t := (.object "java/lang/Object")) (t' := .int) (by decide) (by decide))))
  obtain ⟨T105, X105, e105, st105⟩ := getF X102 hx hZ hown (host := "") (Or.inl (hw _ (List.mem_of_getElem? (i := 52) rfl))) Via.refl e102 f104 (g := (mkF m 17 #[rv r1, .unset] [(.ref r1)])) rfl rfl (hb hby own_d28_17)
  refine own_by (g' := (mkF m 20 #[rv r1, .unset] [w1])) st105 ?_
  refine own_by (g' := (mkF m 23 #[rv r1, .val w1] [.null, (.ref r1)])) (fun t k => XS.astoreN X105.here hx rfl (hb hby own_d28_20) rfl hr1 (l' := #[rv r1, .val w1]) (own_stG (o := .unset) rfl (Or.inl rfl) (own_cat1 hr1) rfl) (XS.aloadN X105.here hx rfl (hb hby own_d28_21) rfl rfl (XS.aconstNull X105.here hx rfl (hb hby own_d28_22) k))) ?_
  have f106 := (E1.wr W102)
  obtain ⟨T107, h107, X107, e107, W107, st107⟩ := putF X105 hx hZ hown (host := "") (Or.inl (hw _ (List.mem_of_getElem? (i := 52) rfl))) Via.refl e105 f104 f106 (Or.inl (hw _ (List.mem_of_getElem? (i := 53) rfl))) (hw _ (List.mem_of_getElem? (i := 1) rfl)) (ty := (.object "java/lang/Object")) (by decide) rfl rfl (g := (mkF m 23 #[rv r1, .val w1] [.null, (.ref r1)])) rfl rfl (hb hby own_d28_23)
  have f108 := f104.same W107
  have N107 := Fr.snoc X107 N102 g1
  refine own_by (g' := (mkF m 26 #[rv r1, .val w1] [])) st107 ?_
  refine own_by (g' := (mkF m 27 #[rv r1, .val w1] [w1])) (fun t k => XS.aloadN X107.here hx rfl (hb hby own_d28_26) rfl hr1 k) ?_
  have f109 := (f106.wr W107)
  have f110 := (f103.other W107 (Or.inr (slot_ne (Or.inl (hw _ (List.mem_of_getElem? (i := 46) rfl))) (Or.inl (hw _ (List.mem_of_getElem? (i := 53) rfl))) (by decide) (t := .int) (t' := (.object "java/lang/Object")) (by decide) (by decide))))
  have f111 := ((Fkm.other W102 (Or.inr (slot_ne (Or.inr (hw _ (List.mem_of_getElem? (i := 32) rfl))) (Or.inl (hw _ (List.mem_of_getElem? (i := 46) rfl))) (by decide) (t := (.object "java/util/Map")) (t' := .int) (by decide) (by decide)))).other W107 (Or.inr (slot_ne (Or.inr (hw _ (List.mem_of_getElem? (i := 32) rfl))) (Or.inl (hw _ (List.mem_of_getElem? (i := 53) rfl))) (by decide) (t := (.object "java/util/Map")) (t' := (.object "java/lang/Object")) (by decide) (by decide))))
  refine own_retA X107 hx hlk hret rfl hr1 (hb hby own_d28_27) (by decide) (by decide) ?_
  rw [e107]
  exact ⟨rfl, N107, (((Keep.refl h0 [r1]).wr W102 (Or.inl (List.mem_of_getElem? (i := 0) rfl))).wr W107 (Or.inl (List.mem_of_getElem? (i := 0) rfl))), f109, f108, f110, f111⟩
theorem own_pn8 : plainName "java/util/AbstractSet" = true := by first | (simp [plainName, overriddenIn]; done) | decide +kernel
theorem own_d20_0 : decode jdk_91_method_1_code 0 = .ok (.aload_n 0, 1) := by decide +kernel
theorem own_d20_1 : decode jdk_91_method_1_code 1 = .ok (.invokespecial 1, 3) := by decide +kernel
theorem own_d20_4 : decode jdk_91_method_1_code 4 = .ok (.return_, 1) := by decide +kernel
def Q_own_aset (Z : State) (r1 : Addr) (h0 : Heap) (n0 : Nat) (v : Option Value) (h : Heap) (L : List Loc) : Prop := v = none ∧ Fr n0 L ∧ h = h0
theorem own_ef_own_aset (m : MethodId) (r1 : Addr) : entryFrame m #[(.ref r1)] 1 = mkF m 0 #[rv r1] [] := by first | (simp [entryFrame, mkF, argsToLocals, Value.category]; done) | rfl
set_option maxRecDepth 65536 in
set_option maxHeartbeats 40000000 in
theorem own_aset (l : Launch) (Z : State) (a0 : Array Value) (hw : ∀ d ∈ tables_1, d.before a0 Z = true) (ws : List Jvm.Cond) (r1 : Addr) (h0 : Heap) (n0 : Nat) (Z0 : n0 ≤ h0.size)  :
    own_Ctr l Z (⟨"java/util/AbstractSet", "<init>", "()V"⟩ : MethodName) jdk_91_method_1_code 1 none ws ({ frames := 2, cells := 0, slots := 0, locals := 24 } : Room) (({ frames := 2, cells := 0, slots := 0, locals := 24 } : Room)).cells (({ frames := 2, cells := 0, slots := 0, locals := 24 } : Room)).slots #[(.ref r1)] h0 (Q_own_aset Z r1 h0 n0) := by
  refine own_enter (plainFor_of_name own_pn8) ?_
  intro p e s m below meth c s₁ X0 hx hZ hby hml hown hnm hlk hret e0
  have N0 := Fr.nil n0
  refine own_cast (own_ef_own_aset m r1) ?_
  refine own_by (g' := (mkF m 1 #[rv r1] [(.ref r1)])) (fun t k => XS.aloadN X0.here hx rfl (hb hby own_d20_0) rfl rfl k) ?_
  refine own_callI X0 hx hZ hown rfl (hw _ (List.mem_of_getElem? (i := 144) rfl)) (hw _ (List.mem_of_getElem? (i := 72) rfl)) (hw _ (List.mem_of_getElem? (i := 75) rfl)) (hw _ (List.mem_of_getElem? (i := 76) rfl)) (by decide) (a := r1) (own_acol l Z a0 hw [] (r1) h0 n0 Z0 ) 0 (by decide) (by decide) (by decide) (by decide) e0 (g := (mkF m 1 #[rv r1] [(.ref r1)])) rfl (by rw [hml]; rfl) (argsL := []) (rest := []) (lenOf own_pd0 rfl) rfl (by show 2 * 0 + _ ≤ _; exact Nat.le_of_eq rfl) (hb hby own_d20_1) ?_
  intro v101 T101 L101 X101 q101
  obtain ⟨rfl, N101q, e101⟩ := q101
  have N101 := Fr.app N0 N101q
  show own_Goes p e below s _ _ _ T101 (mkF m 4 #[rv r1] [])
  refine own_retV X101 hx hlk hret (hb hby own_d20_4) (by decide) (by decide) ?_
  exact ⟨rfl, N101, e101⟩
theorem own_pn9 : plainName "java/util/IdentityHashMap$KeySet" = true := by first | (simp [plainName, overriddenIn]; done) | decide +kernel
theorem own_d19_0 : decode jdk_2589_method_1_code 0 = .ok (.aload_n 0, 1) := by decide +kernel
theorem own_d19_1 : decode jdk_2589_method_1_code 1 = .ok (.aload_n 1, 1) := by decide +kernel
theorem own_d19_2 : decode jdk_2589_method_1_code 2 = .ok (.putfield 1, 3) := by decide +kernel
theorem own_d19_5 : decode jdk_2589_method_1_code 5 = .ok (.aload_n 0, 1) := by decide +kernel
theorem own_d19_6 : decode jdk_2589_method_1_code 6 = .ok (.invokespecial 7, 3) := by decide +kernel
theorem own_d19_9 : decode jdk_2589_method_1_code 9 = .ok (.return_, 1) := by decide +kernel
def Q_own_ksini (Z : State) (r1 : Addr) (rm : Addr) (h0 : Heap) (n0 : Nat) (v : Option Value) (h : Heap) (L : List Loc) : Prop := v = none ∧ Fr n0 L ∧ Keep h0 h [r1] ∧ Exa Z h r1 "java/util/IdentityHashMap$KeySet" ∧ Fld Z h r1 "java/util/IdentityHashMap$KeySet" "this$0" "Ljava/util/IdentityHashMap;" (.ref rm)
theorem own_ef_own_ksini (m : MethodId) (r1 : Addr) (rm : Addr) : entryFrame m #[(.ref r1), (.ref rm)] 2 = mkF m 0 #[rv r1, rv rm] [] := by first | (simp [entryFrame, mkF, argsToLocals, Value.category]; done) | rfl
set_option maxRecDepth 65536 in
set_option maxHeartbeats 40000000 in
theorem own_ksini (l : Launch) (Z : State) (a0 : Array Value) (hw : ∀ d ∈ tables_1, d.before a0 Z = true) (ws : List Jvm.Cond) (r1 : Addr) (rm : Addr) (h0 : Heap) (n0 : Nat) (Z0 : n0 ≤ h0.size) (E1 : Exa Z h0 r1 "java/util/IdentityHashMap$KeySet") (F1 : Fld Z h0 r1 "java/util/IdentityHashMap$KeySet" "this$0" "Ljava/util/IdentityHashMap;" .null) (g1 : n0 ≤ r1) :
    own_Ctr l Z (⟨"java/util/IdentityHashMap$KeySet", "<init>", "(Ljava/util/IdentityHashMap;)V"⟩ : MethodName) jdk_2589_method_1_code 2 none ws ({ frames := 3, cells := 0, slots := 0, locals := 36 } : Room) (({ frames := 3, cells := 0, slots := 0, locals := 36 } : Room)).cells (({ frames := 3, cells := 0, slots := 0, locals := 36 } : Room)).slots #[(.ref r1), (.ref rm)] h0 (Q_own_ksini Z r1 rm h0 n0) := by
  refine own_enter (plainFor_of_name own_pn9) ?_
  intro p e s m below meth c s₁ X0 hx hZ hby hml hown hnm hlk hret e0
  have N0 := Fr.nil n0
  refine own_cast (own_ef_own_ksini m r1 rm) ?_
  refine own_by (g' := (mkF m 2 #[rv r1, rv rm] [(.ref rm), (.ref r1)])) (fun t k => XS.aloadN X0.here hx rfl (hb hby own_d19_0) rfl rfl (XS.aloadN X0.here hx rfl (hb hby own_d19_1) rfl rfl k)) ?_
  obtain ⟨T101, h101, X101, e101, W101, st101⟩ := putF X0 hx hZ hown (host := "") (Or.inl (hw _ (List.mem_of_getElem? (i := 136) rfl))) Via.refl e0 F1 E1 (Or.inr ⟨(hw _ (List.mem_of_getElem? (i := 137) rfl)), rfl, hnm⟩) (hw _ (List.mem_of_getElem? (i := 130) rfl)) (ty := (.object "java/util/IdentityHashMap")) (by decide) rfl rfl (g := (mkF m 2 #[rv r1, rv rm] [(.ref rm), (.ref r1)])) rfl rfl (hb hby own_d19_2)
  have f102 := F1.same W101
  have N101 := Fr.snoc X101 N0 g1
  refine own_by (g' := (mkF m 5 #[rv r1, rv rm] [])) st101 ?_
  refine own_by (g' := (mkF m 6 #[rv r1, rv rm] [(.ref r1)])) (fun t k => XS.aloadN X101.here hx rfl (hb hby own_d19_5) rfl rfl k) ?_
  refine own_callI X101 hx hZ hown rfl (hw _ (List.mem_of_getElem? (i := 138) rfl)) (hw _ (List.mem_of_getElem? (i := 139) rfl)) (hw _ (List.mem_of_getElem? (i := 142) rfl)) (hw _ (List.mem_of_getElem? (i := 143) rfl)) (by decide) (a := r1) (own_aset l Z a0 hw [] (r1) h101 n0 (Nat.le_trans Z0 (Nat.le_of_eq W101.size.symm)) ) 0 (by decide) (by decide) (by decide) (by decide) e101 (g := (mkF m 6 #[rv r1, rv rm] [(.ref r1)])) rfl (by rw [hml]; rfl) (argsL := []) (rest := []) (lenOf own_pd0 rfl) rfl (by show 2 * 0 + _ ≤ _; exact Nat.le_of_eq rfl) (hb hby own_d19_6) ?_
  intro v103 T103 L103 X103 q103
  obtain ⟨rfl, N103q, e103⟩ := q103
  have N103 := Fr.app N101 N103q
  show own_Goes p e below s _ _ _ T103 (mkF m 9 #[rv r1, rv rm] [])
  have f104 := (E1.wr W101)
  refine own_retV X103 hx hlk hret (hb hby own_d19_9) (by decide) (by decide) ?_
  rw [e103]
  exact ⟨rfl, N103, ((Keep.refl h0 [r1]).wr W101 (Or.inl (List.mem_of_getElem? (i := 0) rfl))), f104, f102⟩
theorem own_d18_0 : decode jdk_2581_method_26_code 0 = .ok (.aload_n 0, 1) := by decide +kernel
theorem own_d18_1 : decode jdk_2581_method_26_code 1 = .ok (.getfield 167, 3) := by decide +kernel
theorem own_d18_4 : decode jdk_2581_method_26_code 4 = .ok (.astore_n 1, 1) := by decide +kernel
theorem own_d18_5 : decode jdk_2581_method_26_code 5 = .ok (.aload_n 1, 1) := by decide +kernel
theorem own_d18_6 : decode jdk_2581_method_26_code 6 = .ok (.ifnonnull 17, 3) := by decide +kernel
theorem own_d18_9 : decode jdk_2581_method_26_code 9 = .ok (.new 170, 3) := by decide +kernel
theorem own_d18_12 : decode jdk_2581_method_26_code 12 = .ok (.dup, 1) := by decide +kernel
theorem own_d18_13 : decode jdk_2581_method_26_code 13 = .ok (.aload_n 0, 1) := by decide +kernel
theorem own_d18_14 : decode jdk_2581_method_26_code 14 = .ok (.invokespecial 172, 3) := by decide +kernel
theorem own_pd6 : parseMethodDescriptor "(Ljava/util/IdentityHashMap;)V" = some ⟨[(.object "java/util/IdentityHashMap")], none⟩ := by decide +kernel
theorem own_d18_17 : decode jdk_2581_method_26_code 17 = .ok (.astore_n 1, 1) := by decide +kernel
theorem own_d18_18 : decode jdk_2581_method_26_code 18 = .ok (.aload_n 0, 1) := by decide +kernel
theorem own_d18_19 : decode jdk_2581_method_26_code 19 = .ok (.aload_n 1, 1) := by decide +kernel
theorem own_d18_20 : decode jdk_2581_method_26_code 20 = .ok (.putfield 167, 3) := by decide +kernel
theorem own_d18_23 : decode jdk_2581_method_26_code 23 = .ok (.aload_n 1, 1) := by decide +kernel
theorem own_d18_24 : decode jdk_2581_method_26_code 24 = .ok (.areturn, 1) := by decide +kernel
def Q_own_keys (Z : State) (rm : Addr) (rt : Addr) (h0 : Heap) (n0 : Nat) (v : Option Value) (h : Heap) (L : List Loc) : Prop := ∃ (bk : Addr), v = some (.ref bk) ∧ Fr n0 L ∧ Keep h0 h [rm] ∧ h0.size ≤ bk ∧ Exa Z h bk "java/util/IdentityHashMap$KeySet" ∧ Fld Z h bk "java/util/IdentityHashMap$KeySet" "this$0" "Ljava/util/IdentityHashMap;" (.ref rm) ∧ Exa Z h rm "java/util/IdentityHashMap" ∧ Fld Z h rm "java/util/IdentityHashMap" "size" "I" (.int (0 : Int32)) ∧ Fld Z h rm "java/util/IdentityHashMap" "modCount" "I" (.int (0 : Int32)) ∧ Fld Z h rm "java/util/AbstractMap" "keySet" "Ljava/util/Set;" (.ref bk) ∧ Fld Z h rm "java/util/IdentityHashMap" "table" "[Ljava/lang/Object;" (.ref rt)
theorem own_ef_own_keys (m : MethodId) (rm : Addr) : entryFrame m #[(.ref rm)] 2 = mkF m 0 #[rv rm, .unset] [] := by first | (simp [entryFrame, mkF, argsToLocals, Value.category]; done) | rfl
set_option maxRecDepth 65536 in
set_option maxHeartbeats 40000000 in
theorem own_keys (l : Launch) (Z : State) (a0 : Array Value) (hw : ∀ d ∈ tables_1, d.before a0 Z = true) (ws : List Jvm.Cond) (rm : Addr) (rt : Addr) (h0 : Heap) (n0 : Nat) (Z0 : n0 ≤ h0.size) (Fe : Exa Z h0 rm "java/util/IdentityHashMap") (Fz : Fld Z h0 rm "java/util/IdentityHashMap" "size" "I" (.int (0 : Int32))) (Fm : Fld Z h0 rm "java/util/IdentityHashMap" "modCount" "I" (.int (0 : Int32))) (Fk : Fld Z h0 rm "java/util/AbstractMap" "keySet" "Ljava/util/Set;" .null) (Ft : Fld Z h0 rm "java/util/IdentityHashMap" "table" "[Ljava/lang/Object;" (.ref rt)) (g1 : n0 ≤ rm) :
    own_Ctr l Z (⟨"java/util/IdentityHashMap", "keySet", "()Ljava/util/Set;"⟩ : MethodName) jdk_2581_method_26_code 2 (some (.object "java/util/Set")) ws ({ frames := 4, cells := 1, slots := 1, locals := 50 } : Room) (({ frames := 4, cells := 1, slots := 1, locals := 50 } : Room)).cells (({ frames := 4, cells := 1, slots := 1, locals := 50 } : Room)).slots #[(.ref rm)] h0 (Q_own_keys Z rm rt h0 n0) := by
  refine own_enter (plainFor_of_name own_pn6) ?_
  intro p e s m below meth c s₁ X0 hx hZ hby hml hown hnm hlk hret e0
  have N0 := Fr.nil n0
  refine own_cast (own_ef_own_keys m rm) ?_
  refine own_by (g' := (mkF m 1 #[rv rm, .unset] [(.ref rm)])) (fun t k => XS.aloadN X0.here hx rfl (hb hby own_d18_0) rfl rfl k) ?_
  obtain ⟨T101, X101, e101, st101⟩ := getF X0 hx hZ hown (host := "") (Or.inl (hw _ (List.mem_of_getElem? (i := 126) rfl))) (Via.of (hw _ (List.mem_of_getElem? (i := 127) rfl))) e0 Fk (g := (mkF m 1 #[rv rm, .unset] [(.ref rm)])) rfl rfl (hb hby own_d18_1)
  refine own_by (g' := (mkF m 4 #[rv rm, .unset] [.null])) st101 ?_
  refine own_by (g' := (mkF m 9 #[rv rm, .val .null] [])) (fun t k => XS.astoreN X101.here hx rfl (hb hby own_d18_4) rfl rfl (l' := #[rv rm, .val .null]) rfl (XS.aloadN X101.here hx rfl (hb hby own_d18_5) rfl rfl (XS.ifnonnullNo X101.here hx rfl (hb hby own_d18_6) rfl k))) ?_
  obtain ⟨T102, h102, X102, e102, E102, A102, D102, U102, st102⟩ := newO X101 hx hZ hown (hw _ (List.mem_of_getElem? (i := 129) rfl)) (hw _ (List.mem_of_getElem? (i := 130) rfl)) (hw _ (List.mem_of_getElem? (i := 131) rfl)) e101 (g := (mkF m 9 #[rv rm, .val .null] [])) rfl (hb hby own_d18_9) (by decide) (by decide)
  obtain ⟨b102, g102⟩ : ∃ z, z = h0.size := ⟨_, rfl⟩
  rw [← g102] at A102 D102 U102 st102
  have sz_b102 : h0.size ≤ b102 := Nat.le_trans (Nat.le_refl _) (Nat.le_of_eq g102.symm)
  have g_b102 : n0 ≤ b102 := Nat.le_trans Z0 sz_b102
  have f103 : Fld Z h102 b102 "java/util/IdentityHashMap$KeySet" "this$0" "Ljava/util/IdentityHashMap;" .null := D102 (Or.inr (hw _ (List.mem_of_getElem? (i := 137) rfl))) (ty := (.object "java/util/IdentityHashMap")) (by decide)
  refine own_by (g' := (mkF m 12 #[rv rm, .val .null] [(.ref b102)])) st102 ?_
  refine own_by (g' := (mkF m 14 #[rv rm, .val .null] [(.ref rm), (.ref b102), (.ref b102)])) (fun t k => XS.dup X102.here hx rfl (hb hby own_d18_12) rfl rfl (XS.aloadN X102.here hx rfl (hb hby own_d18_13) rfl rfl k)) ?_
  refine own_callIR X102 hx hZ hown rfl (hw _ (List.mem_of_getElem? (i := 132) rfl)) (hw _ (List.mem_of_getElem? (i := 133) rfl)) (hw _ (List.mem_of_getElem? (i := 131) rfl)) (hw _ (List.mem_of_getElem? (i := 135) rfl)) (by decide) (a := b102) (own_ksini l Z a0 hw [] (b102) (rm) h102 n0 (Nat.le_trans Z0 E102.1) A102 f103 g_b102) 1 (by decide) (by decide) (by decide) (by decide) e102 (g := (mkF m 14 #[rv rm, .val .null] [(.ref rm), (.ref b102), (.ref b102)])) rfl (by rw [hml]; rfl) (argsL := [(.ref rm)]) (rest := [(.ref b102)]) (lenOf own_pd6 rfl) rfl (by show 2 * 0 + _ ≤ _; exact Nat.le_of_eq rfl) (hb hby own_d18_14) ?_
  intro v104 T104 L104 X104 q104
  obtain ⟨rfl, N104q, K104, f105, f106⟩ := q104
  have N104 := Fr.app N0 N104q
  show own_Goes p e below s _ _ _ T104 (mkF m 17 #[rv rm, .val .null] [(.ref b102)])
  refine own_by (g' := (mkF m 20 #[rv rm, rv b102] [(.ref b102), (.ref rm)])) (fun t k => XS.astoreN X104.here hx rfl (hb hby own_d18_17) rfl rfl (l' := #[rv rm, rv b102]) rfl (XS.aloadN X104.here hx rfl (hb hby own_d18_18) rfl rfl (XS.aloadN X104.here hx rfl (hb hby own_d18_19) rfl rfl k))) ?_
  have f107 := ((Fk.ext E102).keep K104 (ninS (Nat.ne_of_lt (Nat.lt_of_lt_of_le (Nat.lt_of_lt_of_le Fe.lt (Nat.le_refl _)) (Nat.le_of_eq g102.symm))) nin0))
  have f108 := ((Fe.ext E102).keep K104)
  obtain ⟨T109, h109, X109, e109, W109, st109⟩ := putF X104 hx hZ hown (host := "") (Or.inl (hw _ (List.mem_of_getElem? (i := 126) rfl))) (Via.of (hw _ (List.mem_of_getElem? (i := 127) rfl))) rfl f107 f108 (Or.inl (hw _ (List.mem_of_getElem? (i := 128) rfl))) (hw _ (List.mem_of_getElem? (i := 10) rfl)) (ty := (.object "java/util/Set")) (by decide) rfl rfl (g := (mkF m 20 #[rv rm, rv b102] [(.ref b102), (.ref rm)])) rfl rfl (hb hby own_d18_20)
  have f110 := f107.same W109
  have N109 := Fr.snoc X109 N104 g1
  refine own_by (g' := (mkF m 23 #[rv rm, rv b102] [])) st109 ?_
  refine own_by (g' := (mkF m 24 #[rv rm, rv b102] [(.ref b102)])) (fun t k => XS.aloadN X109.here hx rfl (hb hby own_d18_23) rfl rfl k) ?_
  have f111 := (f105.wr W109)
  have f112 := (f106.other W109 (Or.inl (Ne.symm (Nat.ne_of_lt (Nat.lt_of_lt_of_le (Nat.lt_of_lt_of_le Fe.lt (Nat.le_refl _)) (Nat.le_of_eq g102.symm))))))
  have f113 := (f108.wr W109)
  have f114 := (((Fz.ext E102).keep K104 (ninS (Nat.ne_of_lt (Nat.lt_of_lt_of_le (Nat.lt_of_lt_of_le Fe.lt (Nat.le_refl _)) (Nat.le_of_eq g102.symm))) nin0)).other W109 (Or.inr (slot_ne (Or.inl (hw _ (List.mem_of_getElem? (i := 177) rfl))) (Or.inl (hw _ (List.mem_of_getElem? (i := 128) rfl))) (by decide) (t := .int) (t' := (.object "java/util/Set")) (by decide) (by decide))))
  have f115 := (((Fm.ext E102).keep K104 (ninS (Nat.ne_of_lt (Nat.lt_of_lt_of_le (Nat.lt_of_lt_of_le Fe.lt (Nat.le_refl _)) (Nat.le_of_eq g102.symm))) nin0)).other W109 (Or.inr (slot_ne (Or.inl (hw _ (List.mem_of_getElem? (i := 170) rfl))) (Or.inl (hw _ (List.mem_of_getElem? (i := 128) rfl))) (by decide) (t := .int) (t' := (.object "java/util/Set")) (by decide) (by decide))))
  have f116 := (((Ft.ext E102).keep K104 (ninS (Nat.ne_of_lt (Nat.lt_of_lt_of_le (Nat.lt_of_lt_of_le Fe.lt (Nat.le_refl _)) (Nat.le_of_eq g102.symm))) nin0)).other W109 (Or.inr (slot_ne (Or.inl (hw _ (List.mem_of_getElem? (i := 30) rfl))) (Or.inl (hw _ (List.mem_of_getElem? (i := 128) rfl))) (by decide) (t := (.array (.object "java/lang/Object"))) (t' := (.object "java/util/Set")) (by decide) (by decide))))
  refine own_retA X109 hx hlk hret rfl rfl (hb hby own_d18_24) (by decide) (by decide) ?_
  rw [e109]
  exact ⟨b102, rfl, N109, ((((Keep.refl h0 [rm]).ext E102).trans K104 (allS (Or.inr sz_b102) all0)).wr W109 (Or.inl (List.mem_of_getElem? (i := 0) rfl))), sz_b102, f111, f112, f113, f114, f115, f110, f116⟩
theorem own_d24_0 : decode jdk_2589_method_3_code 0 = .ok (.aload_n 0, 1) := by decide +kernel
theorem own_d24_1 : decode jdk_2589_method_3_code 1 = .ok (.getfield 1, 3) := by decide +kernel
theorem own_d24_4 : decode jdk_2589_method_3_code 4 = .ok (.getfield 18, 3) := by decide +kernel
theorem own_d24_7 : decode jdk_2589_method_3_code 7 = .ok (.ireturn, 1) := by decide +kernel
def Q_own_kssize (Z : State) (r1 : Addr) (rm : Addr) (h0 : Heap) (n0 : Nat) (v : Option Value) (h : Heap) (L : List Loc) : Prop := v = some (.int (0 : Int32)) ∧ Fr n0 L ∧ h = h0
theorem own_ef_own_kssize (m : MethodId) (r1 : Addr) : entryFrame m #[(.ref r1)] 1 = mkF m 0 #[rv r1] [] := by first | (simp [entryFrame, mkF, argsToLocals, Value.category]; done) | rfl
set_option maxRecDepth 65536 in
set_option maxHeartbeats 40000000 in
theorem own_kssize (l : Launch) (Z : State) (a0 : Array Value) (hw : ∀ d ∈ tables_1, d.before a0 Z = true) (ws : List Jvm.Cond) (r1 : Addr) (rm : Addr) (h0 : Heap) (n0 : Nat) (Z0 : n0 ≤ h0.size) (F1 : Fld Z h0 r1 "java/util/IdentityHashMap$KeySet" "this$0" "Ljava/util/IdentityHashMap;" (.ref rm)) (F2 : Fld Z h0 rm "java/util/IdentityHashMap" "size" "I" (.int (0 : Int32))) :
    own_Ctr l Z (⟨"java/util/IdentityHashMap$KeySet", "size", "()I"⟩ : MethodName) jdk_2589_method_3_code 1 (some .int) ws ({ frames := 0, cells := 0, slots := 0, locals := 0 } : Room) (({ frames := 0, cells := 0, slots := 0, locals := 0 } : Room)).cells (({ frames := 0, cells := 0, slots := 0, locals := 0 } : Room)).slots #[(.ref r1)] h0 (Q_own_kssize Z r1 rm h0 n0) := by
  refine own_enter (plainFor_of_name own_pn9) ?_
  intro p e s m below meth c s₁ X0 hx hZ hby hml hown hnm hlk hret e0
  have N0 := Fr.nil n0
  refine own_cast (own_ef_own_kssize m r1) ?_
  refine own_by (g' := (mkF m 1 #[rv r1] [(.ref r1)])) (fun t k => XS.aloadN X0.here hx rfl (hb hby own_d24_0) rfl rfl k) ?_
  obtain ⟨T101, X101, e101, st101⟩ := getF X0 hx hZ hown (host := "") (Or.inl (hw _ (List.mem_of_getElem? (i := 136) rfl))) Via.refl e0 F1 (g := (mkF m 1 #[rv r1] [(.ref r1)])) rfl rfl (hb hby own_d24_1)
  refine own_by (g' := (mkF m 4 #[rv r1] [(.ref rm)])) st101 ?_
  obtain ⟨T102, X102, e102, st102⟩ := getF X101 hx hZ hown (host := "") (Or.inl (hw _ (List.mem_of_getElem? (i := 176) rfl))) Via.refl e101 F2 (g := (mkF m 4 #[rv r1] [(.ref rm)])) rfl rfl (hb hby own_d24_4)
  refine own_by (g' := (mkF m 7 #[rv r1] [(.int (0 : Int32))])) st102 ?_
  refine own_retI X102 hx hlk hret (hb hby own_d24_7) (by decide) (by decide) ?_
  exact ⟨rfl, N0, e102⟩
theorem own_d23_0 : decode jdk_2589_method_10_code 0 = .ok (.aload_n 0, 1) := by decide +kernel
theorem own_d23_1 : decode jdk_2589_method_10_code 1 = .ok (.getfield 1, 3) := by decide +kernel
theorem own_d23_4 : decode jdk_2589_method_10_code 4 = .ok (.getfield 73, 3) := by decide +kernel
theorem own_d23_7 : decode jdk_2589_method_10_code 7 = .ok (.istore_n 2, 1) := by decide +kernel
theorem own_d23_8 : decode jdk_2589_method_10_code 8 = .ok (.aload_n 0, 1) := by decide +kernel
theorem own_d23_9 : decode jdk_2589_method_10_code 9 = .ok (.invokevirtual 76, 3) := by decide +kernel
theorem own_pd7 : parseMethodDescriptor "()I" = some ⟨[], some .int⟩ := by decide +kernel
theorem own_d23_12 : decode jdk_2589_method_10_code 12 = .ok (.istore_n 3, 1) := by decide +kernel
theorem own_d23_13 : decode jdk_2589_method_10_code 13 = .ok (.aload_n 1, 1) := by decide +kernel
theorem own_d23_14 : decode jdk_2589_method_10_code 14 = .ok (.arraylength, 1) := by decide +kernel
theorem own_d23_15 : decode jdk_2589_method_10_code 15 = .ok (.iload_n 3, 1) := by decide +kernel
theorem own_d23_16 : decode jdk_2589_method_10_code 16 = .ok (.if_icmp .ge 18, 3) := by decide +kernel
theorem own_d23_34 : decode jdk_2589_method_10_code 34 = .ok (.aload_n 0, 1) := by decide +kernel
theorem own_d23_35 : decode jdk_2589_method_10_code 35 = .ok (.getfield 1, 3) := by decide +kernel
theorem own_d23_38 : decode jdk_2589_method_10_code 38 = .ok (.getfield 96, 3) := by decide +kernel
theorem own_d23_41 : decode jdk_2589_method_10_code 41 = .ok (.astore 4, 2) := by decide +kernel
theorem own_d23_43 : decode jdk_2589_method_10_code 43 = .ok (.iconst 0, 1) := by decide +kernel
theorem own_d23_44 : decode jdk_2589_method_10_code 44 = .ok (.istore 5, 2) := by decide +kernel
theorem own_d23_46 : decode jdk_2589_method_10_code 46 = .ok (.iconst 0, 1) := by decide +kernel
theorem own_d23_47 : decode jdk_2589_method_10_code 47 = .ok (.istore 6, 2) := by decide +kernel
theorem own_d23_49 : decode jdk_2589_method_10_code 49 = .ok (.iload 6, 2) := by decide +kernel
theorem own_d23_51 : decode jdk_2589_method_10_code 51 = .ok (.aload 4, 2) := by decide +kernel
theorem own_d23_53 : decode jdk_2589_method_10_code 53 = .ok (.arraylength, 1) := by decide +kernel
theorem own_d23_54 : decode jdk_2589_method_10_code 54 = .ok (.if_icmp .ge 46, 3) := by decide +kernel
theorem own_d23_57 : decode jdk_2589_method_10_code 57 = .ok (.aload 4, 2) := by decide +kernel
theorem own_d23_59 : decode jdk_2589_method_10_code 59 = .ok (.iload 6, 2) := by decide +kernel
theorem own_d23_61 : decode jdk_2589_method_10_code 61 = .ok (.aaload, 1) := by decide +kernel
theorem own_d23_62 : decode jdk_2589_method_10_code 62 = .ok (.dup, 1) := by decide +kernel
theorem own_d23_63 : decode jdk_2589_method_10_code 63 = .ok (.astore 7, 2) := by decide +kernel
theorem own_d23_65 : decode jdk_2589_method_10_code 65 = .ok (.ifnull 29, 3) := by decide +kernel
theorem own_d23_94 : decode jdk_2589_method_10_code 94 = .ok (.iinc 6 2, 3) := by decide +kernel
theorem own_d23_97 : decode jdk_2589_method_10_code 97 = .ok (.goto (-48), 3) := by decide +kernel
theorem own_d23_100 : decode jdk_2589_method_10_code 100 = .ok (.iload 5, 2) := by decide +kernel
theorem own_d23_102 : decode jdk_2589_method_10_code 102 = .ok (.iload_n 3, 1) := by decide +kernel
theorem own_d23_103 : decode jdk_2589_method_10_code 103 = .ok (.if_icmp .lt 14, 3) := by decide +kernel
theorem own_d23_106 : decode jdk_2589_method_10_code 106 = .ok (.iload_n 2, 1) := by decide +kernel
theorem own_d23_107 : decode jdk_2589_method_10_code 107 = .ok (.aload_n 0, 1) := by decide +kernel
theorem own_d23_108 : decode jdk_2589_method_10_code 108 = .ok (.getfield 1, 3) := by decide +kernel
theorem own_d23_111 : decode jdk_2589_method_10_code 111 = .ok (.getfield 73, 3) := by decide +kernel
theorem own_d23_114 : decode jdk_2589_method_10_code 114 = .ok (.if_icmp .eq 11, 3) := by decide +kernel
theorem own_d23_125 : decode jdk_2589_method_10_code 125 = .ok (.iload 5, 2) := by decide +kernel
theorem own_d23_127 : decode jdk_2589_method_10_code 127 = .ok (.aload_n 1, 1) := by decide +kernel
theorem own_d23_128 : decode jdk_2589_method_10_code 128 = .ok (.arraylength, 1) := by decide +kernel
theorem own_d23_129 : decode jdk_2589_method_10_code 129 = .ok (.if_icmp .ge 8, 3) := by decide +kernel
theorem own_d23_137 : decode jdk_2589_method_10_code 137 = .ok (.aload_n 1, 1) := by decide +kernel
theorem own_d23_138 : decode jdk_2589_method_10_code 138 = .ok (.areturn, 1) := by decide +kernel
def Q_own_toarr1 (Z : State) (r1 : Addr) (ra : Addr) (rm : Addr) (rt : Addr) (kt : ClassId) (h0 : Heap) (n0 : Nat) (v : Option Value) (h : Heap) (L : List Loc) : Prop := v = some (.ref ra) ∧ Fr n0 L ∧ h = h0
theorem own_ef_own_toarr1 (m : MethodId) (r1 : Addr) (ra : Addr) : entryFrame m #[(.ref r1), (.ref ra)] 8 = mkF m 0 #[rv r1, rv ra, .unset, .unset, .unset, .unset, .unset, .unset] [] := by first | (simp [entryFrame, mkF, argsToLocals, Value.category]; done) | rfl
set_option maxRecDepth 65536 in
set_option maxHeartbeats 40000000 in
theorem own_toarr1 (l : Launch) (Z : State) (a0 : Array Value) (hw : ∀ d ∈ tables_1, d.before a0 Z = true) (ws : List Jvm.Cond) (r1 : Addr) (ra : Addr) (rm : Addr) (rt : Addr) (kt : ClassId) (h0 : Heap) (n0 : Nat) (Z0 : n0 ≤ h0.size) (E1 : Exa Z h0 r1 "java/util/IdentityHashMap$KeySet") (F1 : Fld Z h0 r1 "java/util/IdentityHashMap$KeySet" "this$0" "Ljava/util/IdentityHashMap;" (.ref rm)) (E2 : Exa Z h0 rm "java/util/IdentityHashMap") (F2 : Fld Z h0 rm "java/util/IdentityHashMap" "size" "I" (.int (0 : Int32))) (F3 : Fld Z h0 rm "java/util/IdentityHashMap" "modCount" "I" (.int (0 : Int32))) (F4 : Fld Z h0 rm "java/util/IdentityHashMap" "table" "[Ljava/lang/Object;" (.ref rt)) (V1 : Arv Z h0 rt kt (.object "java/lang/Object") (64 : Int32) [] .null) (Y1 : own_Arz Z h0 ra (.object "java/lang/Object") (0 : Int32)) :
    own_Ctr l Z (⟨"java/util/IdentityHashMap$KeySet", "toArray", "([Ljava/lang/Object;)[Ljava/lang/Object;"⟩ : MethodName) jdk_2589_method_10_code 8 (some (.array (.object "java/lang/Object"))) ws ({ frames := 1, cells := 0, slots := 0, locals := 12 } : Room) (({ frames := 1, cells := 0, slots := 0, locals := 12 } : Room)).cells (({ frames := 1, cells := 0, slots := 0, locals := 12 } : Room)).slots #[(.ref r1), (.ref ra)] h0 (Q_own_toarr1 Z r1 ra rm rt kt h0 n0) := by
  refine own_enter (plainFor_of_name own_pn9) ?_
  intro p e s m below meth c s₁ X0 hx hZ hby hml hown hnm hlk hret e0
  have N0 := Fr.nil n0
  refine own_cast (own_ef_own_toarr1 m r1 ra) ?_
  have V2 : Arv Z h0 rt kt (.object "java/lang/Object") (64 : Int32) [.null, .null, .null, .null, .null, .null, .null, .null, .null, .null, .null, .null, .null, .null, .null, .null, .null, .null, .null, .null, .null, .null, .null, .null, .null, .null, .null, .null, .null, .null, .null, .null, .null, .null, .null, .null, .null, .null, .null, .null, .null, .null, .null, .null, .null, .null, .null, .null, .null, .null, .null, .null, .null, .null, .null, .null, .null, .null, .null, .null, .null, .null, .null, .null] .null := V1.pad (pad_rep [] .null 64)
  refine own_by (g' := (mkF m 1 #[rv r1, rv ra, .unset, .unset, .unset, .unset, .unset, .unset] [(.ref r1)])) (fun t k => XS.aloadN X0.here hx rfl (hb hby own_d23_0) rfl rfl k) ?_
  obtain ⟨T101, X101, e101, st101⟩ := getF X0 hx hZ hown (host := "") (Or.inl (hw _ (List.mem_of_getElem? (i := 136) rfl))) Via.refl e0 F1 (g := (mkF m 1 #[rv r1, rv ra, .unset, .unset, .unset, .unset, .unset, .unset] [(.ref r1)])) rfl rfl (hb hby own_d23_1)
  refine own_by (g' := (mkF m 4 #[rv r1, rv ra, .unset, .unset, .unset, .unset, .unset, .unset] [(.ref rm)])) st101 ?_
  obtain ⟨T102, X102, e102, st102⟩ := getF X101 hx hZ hown (host := "") (Or.inl (hw _ (List.mem_of_getElem? (i := 169) rfl))) Via.refl e101 F3 (g := (mkF m 4 #[rv r1, rv ra, .unset, .unset, .unset, .unset, .unset, .unset] [(.ref rm)])) rfl rfl (hb hby own_d23_4)
  refine own_by (g' := (mkF m 7 #[rv r1, rv ra, .unset, .unset, .unset, .unset, .unset, .unset] [(.int (0 : Int32))])) st102 ?_
  refine own_by (g' := (mkF m 9 #[rv r1, rv ra, iv (0 : Int32), .unset, .unset, .unset, .unset, .unset] [(.ref r1)])) (fun t k => XS.istoreN X102.here hx rfl (hb hby own_d23_7) rfl (l' := #[rv r1, rv ra, iv (0 : Int32), .unset, .unset, .unset, .unset, .unset]) rfl (XS.aloadN X102.here hx rfl (hb hby own_d23_8) rfl rfl k)) ?_
  refine own_callV X102 hx hZ hown (hw _ (List.mem_of_getElem? (i := 171) rfl)) (hw _ (List.mem_of_getElem? (i := 172) rfl)) (notFace_of_selects (args := #[]) (mvT hZ (hw _ (List.mem_of_getElem? (i := 174) rfl)))) (hw _ (List.mem_of_getElem? (i := 174) rfl)) (hw _ (List.mem_of_getElem? (i := 173) rfl)) (hw _ (List.mem_of_getElem? (i := 175) rfl)) (hw _ (List.mem_of_getElem? (i := 131) rfl)) (by decide) (a := r1) E1 (own_kssize l Z a0 hw [] (r1) (rm) h0 n0 Z0 F1 F2) 0 (by decide) (by decide) (by decide) (by decide) e102 (g := (mkF m 9 #[rv r1, rv ra, iv (0 : Int32), .unset, .unset, .unset, .unset, .unset] [(.ref r1)])) rfl (by rw [hml]; rfl) (argsL := []) (rest := []) (lenOf own_pd7 rfl) rfl (by show 2 * 0 + _ ≤ _; exact Nat.le_of_eq rfl) (hb hby own_d23_9) ?_
  intro v103 T103 L103 X103 q103
  obtain ⟨rfl, N103q, e103⟩ := q103
  have N103 := Fr.app N0 N103q
  show own_Goes p e below s _ _ _ T103 (mkF m 12 #[rv r1, rv ra, iv (0 : Int32), .unset, .unset, .unset, .unset, .unset] [(.int (0 : Int32))])
  refine own_by (g' := (mkF m 14 #[rv r1, rv ra, iv (0 : Int32), iv (0 : Int32), .unset, .unset, .unset, .unset] [(.ref ra)])) (fun t k => XS.istoreN X103.here hx rfl (hb hby own_d23_12) rfl (l' := #[rv r1, rv ra, iv (0 : Int32), iv (0 : Int32), .unset, .unset, .unset, .unset]) rfl (XS.aloadN X103.here hx rfl (hb hby own_d23_13) rfl rfl k)) ?_
  obtain ⟨c104, Ar104, S104, G104⟩ := id Y1
  refine own_by (g' := (mkF m 15 #[rv r1, rv ra, iv (0 : Int32), iv (0 : Int32), .unset, .unset, .unset, .unset] [(.int (0 : Int32))])) (fun t k => X103.arraylength hx (own_at_ e103 Ar104.1) (State.isArrayOf_alike hZ.alike Ar104.2.1) (g := (mkF m 14 #[rv r1, rv ra, iv (0 : Int32), iv (0 : Int32), .unset, .unset, .unset, .unset] [(.ref ra)])) rfl rfl (hb hby own_d23_14) t (by rw [len_of S104 G104]; exact k)) ?_
  refine own_by (g' := (mkF m 35 #[rv r1, rv ra, iv (0 : Int32), iv (0 : Int32), .unset, .unset, .unset, .unset] [(.ref r1)])) (fun t k => XS.iloadN X103.here hx rfl (hb hby own_d23_15) rfl (XS.icmpYes X103.here hx rfl (pc0 := 16) (pc' := 34) rfl (hb hby own_d23_16) rfl (flt (by decide : ¬ ((0 : Int32) < (0 : Int32)))).2.1 (by decide) (by decide) (XS.aloadN X103.here hx rfl (hb hby own_d23_34) rfl rfl k))) ?_
  obtain ⟨T105, X105, e105, st105⟩ := getF X103 hx hZ hown (host := "") (Or.inl (hw _ (List.mem_of_getElem? (i := 136) rfl))) Via.refl e103 F1 (g := (mkF m 35 #[rv r1, rv ra, iv (0 : Int32), iv (0 : Int32), .unset, .unset, .unset, .unset] [(.ref r1)])) rfl rfl (hb hby own_d23_35)
  refine own_by (g' := (mkF m 38 #[rv r1, rv ra, iv (0 : Int32), iv (0 : Int32), .unset, .unset, .unset, .unset] [(.ref rm)])) st105 ?_
  obtain ⟨T106, X106, e106, st106⟩ := getF X105 hx hZ hown (host := "") (Or.inl (hw _ (List.mem_of_getElem? (i := 178) rfl))) Via.refl e105 F4 (g := (mkF m 38 #[rv r1, rv ra, iv (0 : Int32), iv (0 : Int32), .unset, .unset, .unset, .unset] [(.ref rm)])) rfl rfl (hb hby own_d23_38)
  refine own_by (g' := (mkF m 41 #[rv r1, rv ra, iv (0 : Int32), iv (0 : Int32), .unset, .unset, .unset, .unset] [(.ref rt)])) st106 ?_
  refine own_by (g' := (mkF m 53 #[rv r1, rv ra, iv (0 : Int32), iv (0 : Int32), rv rt, iv (0 : Int32), iv (0 : Int32), .unset] [(.ref rt), (.int (0 : Int32))])) (fun t k => XS.astore X106.here hx rfl (hb hby own_d23_41) rfl rfl (l' := #[rv r1, rv ra, iv (0 : Int32), iv (0 : Int32), rv rt, .unset, .unset, .unset]) rfl (XS.iconst X106.here hx rfl (hb hby own_d23_43) (XS.istore X106.here hx rfl (hb hby own_d23_44) rfl (l' := #[rv r1, rv ra, iv (0 : Int32), iv (0 : Int32), rv rt, iv (0 : Int32), .unset, .unset]) rfl (XS.iconst X106.here hx rfl (hb hby own_d23_46) (XS.istore X106.here hx rfl (hb hby own_d23_47) rfl (l' := #[rv r1, rv ra, iv (0 : Int32), iv (0 : Int32), rv rt, iv (0 : Int32), iv (0 : Int32), .unset]) rfl (XS.iload X106.here hx rfl (hb hby own_d23_49) rfl (XS.aload X106.here hx rfl (hb hby own_d23_51) rfl rfl k))))))) ?_
  obtain ⟨c107, Ar107, -, S107, G107, -, -⟩ := id V2
  refine own_by (g' := (mkF m 54 #[rv r1, rv ra, iv (0 : Int32), iv (0 : Int32), rv rt, iv (0 : Int32), iv (0 : Int32), .unset] [(.int (64 : Int32)), (.int (0 : Int32))])) (fun t k => X106.arraylength hx (own_at_ e106 Ar107.1) (State.isArrayOf_alike hZ.alike Ar107.2.1) (g := (mkF m 53 #[rv r1, rv ra, iv (0 : Int32), iv (0 : Int32), rv rt, iv (0 : Int32), iv (0 : Int32), .unset] [(.ref rt), (.int (0 : Int32))])) rfl rfl (hb hby own_d23_53) t (by rw [len_of S107 G107]; exact k)) ?_
  refine own_by (g' := (mkF m 61 #[rv r1, rv ra, iv (0 : Int32), iv (0 : Int32), rv rt, iv (0 : Int32), iv (0 : Int32), .unset] [(.int (0 : Int32)), (.ref rt)])) (fun t k => XS.icmpNo X106.here hx rfl (hb hby own_d23_54) rfl (tlt (by decide : (0 : Int32) < (64 : Int32))).2.1 (XS.aload X106.here hx rfl (hb hby own_d23_57) rfl rfl (XS.iload X106.here hx rfl (hb hby own_d23_59) rfl k))) ?_
  obtain ⟨c108, Ar108, q108, S108, G108, H108, F108⟩ := id V2
  have hin108 : ¬ ((0 : Int32) < 0 ∨ c108.slots.size ≤ ((0 : Int32)).toNatClampNeg) := inb_of S108 ⟨by decide, by decide⟩
  have hat108 : c108.slots[((0 : Int32)).toNatClampNeg]? = some .null := H108.at hin108 rfl
  refine own_by (g' := (mkF m 53 #[rv r1, rv ra, iv (0 : Int32), iv (0 : Int32), rv rt, iv (0 : Int32), iv (2 : Int32), .val .null] [(.ref rt), (.int (2 : Int32))])) (fun t k => X106.aaload hx (j := (0 : Int32)) (v := .null) (own_at_ e106 Ar108.1) (State.isArrayOf_alike hZ.alike Ar108.2.1) rfl Ar108.2.2 hin108 hat108 (g := (mkF m 61 #[rv r1, rv ra, iv (0 : Int32), iv (0 : Int32), rv rt, iv (0 : Int32), iv (0 : Int32), .unset] [(.int (0 : Int32)), (.ref rt)])) rfl rfl (hb hby own_d23_61) t (XS.dup X106.here hx rfl (hb hby own_d23_62) rfl rfl (XS.astore X106.here hx rfl (hb hby own_d23_63) rfl rfl (l' := #[rv r1, rv ra, iv (0 : Int32), iv (0 : Int32), rv rt, iv (0 : Int32), iv (0 : Int32), .val .null]) rfl (XS.ifnullYes X106.here hx rfl (pc0 := 65) (pc' := 94) rfl (hb hby own_d23_65) rfl (by decide) (by decide) (XS.iinc X106.here hx rfl (hb hby own_d23_94) rfl (l' := #[rv r1, rv ra, iv (0 : Int32), iv (0 : Int32), rv rt, iv (0 : Int32), iv (2 : Int32), .val .null]) rfl (XS.goto X106.here hx rfl (pc0 := 97) (pc' := 49) rfl (hb hby own_d23_97) (by decide) (by decide) (XS.iload X106.here hx rfl (hb hby own_d23_49) rfl (XS.aload X106.here hx rfl (hb hby own_d23_51) rfl rfl k)))))))) ?_
  obtain ⟨c109, Ar109, -, S109, G109, -, -⟩ := id V2
  refine own_by (g' := (mkF m 54 #[rv r1, rv ra, iv (0 : Int32), iv (0 : Int32), rv rt, iv (0 : Int32), iv (2 : Int32), .val .null] [(.int (64 : Int32)), (.int (2 : Int32))])) (fun t k => X106.arraylength hx (own_at_ e106 Ar109.1) (State.isArrayOf_alike hZ.alike Ar109.2.1) (g := (mkF m 53 #[rv r1, rv ra, iv (0 : Int32), iv (0 : Int32), rv rt, iv (0 : Int32), iv (2 : Int32), .val .null] [(.ref rt), (.int (2 : Int32))])) rfl rfl (hb hby own_d23_53) t (by rw [len_of S109 G109]; exact k)) ?_
  refine own_by (g' := (mkF m 61 #[rv r1, rv ra, iv (0 : Int32), iv (0 : Int32), rv rt, iv (0 : Int32), iv (2 : Int32), .val .null] [(.int (2 : Int32)), (.ref rt)])) (fun t k => XS.icmpNo X106.here hx rfl (hb hby own_d23_54) rfl (tlt (by decide : (2 : Int32) < (64 : Int32))).2.1 (XS.aload X106.here hx rfl (hb hby own_d23_57) rfl rfl (XS.iload X106.here hx rfl (hb hby own_d23_59) rfl k))) ?_
  obtain ⟨c110, Ar110, q110, S110, G110, H110, F110⟩ := id V2
  have hin110 : ¬ ((2 : Int32) < 0 ∨ c110.slots.size ≤ ((2 : Int32)).toNatClampNeg) := inb_of S110 ⟨by decide, by decide⟩
  have hat110 : c110.slots[((2 : Int32)).toNatClampNeg]? = some .null := H110.at hin110 rfl
  refine own_by (g' := (mkF m 53 #[rv r1, rv ra, iv (0 : Int32), iv (0 : Int32), rv rt, iv (0 : Int32), iv (4 : Int32), .val .null] [(.ref rt), (.int (4 : Int32))])) (fun t k => X106.aaload hx (j := (2 : Int32)) (v := .null) (own_at_ e106 Ar110.1) (State.isArrayOf_alike hZ.alike Ar110.2.1) rfl Ar110.2.2 hin110 hat110 (g := (mkF m 61 #[rv r1, rv ra, iv (0 : Int32), iv (0 : Int32), rv rt, iv (0 : Int32), iv (2 : Int32), .val .null] [(.int (2 : Int32)), (.ref rt)])) rfl rfl (hb hby own_d23_61) t (XS.dup X106.here hx rfl (hb hby own_d23_62) rfl rfl (XS.astore X106.here hx rfl (hb hby own_d23_63) rfl rfl (l' := #[rv r1, rv ra, iv (0 : Int32), iv (0 : Int32), rv rt, iv (0 : Int32), iv (2 : Int32), .val .null]) rfl (XS.ifnullYes X106.here hx rfl (pc0 := 65) (pc' := 94) rfl (hb hby own_d23_65) rfl (by decide) (by decide) (XS.iinc X106.here hx rfl (hb hby own_d23_94) rfl (l' := #[rv r1, rv ra, iv (0 : Int32), iv (0 : Int32), rv rt, iv (0 : Int32), iv (4 : Int32), .val .null]) rfl (XS.goto X106.here hx rfl (pc0 := 97) (pc' := 49) rfl (hb hby own_d23_97) (by decide) (by decide) (XS.iload X106.here hx rfl (hb hby own_d23_49) rfl (XS.aload X106.here hx rfl (hb hby own_d23_51) rfl rfl k)))))))) ?_
  obtain ⟨c111, Ar111, -, S111, G111, -, -⟩ := id V2
  refine own_by (g' := (mkF m 54 #[rv r1, rv ra, iv (0 : Int32), iv (0 : Int32), rv rt, iv (0 : Int32), iv (4 : Int32), .val .null] [(.int (64 : Int32)), (.int (4 : Int32))])) (fun t k => X106.arraylength hx (own_at_ e106 Ar111.1) (State.isArrayOf_alike hZ.alike Ar111.2.1) (g := (mkF m 53 #[rv r1, rv ra, iv (0 : Int32), iv (0 : Int32), rv rt, iv (0 : Int32), iv (4 : Int32), .val .null] [(.ref rt), (.int (4 : Int32))])) rfl rfl (hb hby own_d23_53) t (by rw [len_of S111 G111]; exact k)) ?_
  refine own_by (g' := (mkF m 61 #[rv r1, rv ra, iv (0 : Int32), iv (0 : Int32), rv rt, iv (0 : Int32), iv (4 : Int32), .val .null] [(.int (4 : Int32)), (.ref rt)])) (fun t k => XS.icmpNo X106.here hx rfl (hb hby own_d23_54) rfl (tlt (by decide : (4 : Int32) < (64 : Int32))).2.1 (XS.aload X106.here hx rfl (hb hby own_d23_57) rfl rfl (XS.iload X106.here hx rfl (hb hby own_d23_59) rfl k))) ?_
  obtain ⟨c112, Ar112, q112, S112, G112, H112, F112⟩ := id V2
  have hin112 : ¬ ((4 : Int32) < 0 ∨ c112.slots.size ≤ ((4 : Int32)).toNatClampNeg) := inb_of S112 ⟨by decide, by decide⟩
  have hat112 : c112.slots[((4 : Int32)).toNatClampNeg]? = some .null := H112.at hin112 rfl
  refine own_by (g' := (mkF m 53 #[rv r1, rv ra, iv (0 : Int32), iv (0 : Int32), rv rt, iv (0 : Int32), iv (6 : Int32), .val .null] [(.ref rt), (.int (6 : Int32))])) (fun t k => X106.aaload hx (j := (4 : Int32)) (v := .null) (own_at_ e106 Ar112.1) (State.isArrayOf_alike hZ.alike Ar112.2.1) rfl Ar112.2.2 hin112 hat112 (g := (mkF m 61 #[rv r1, rv ra, iv (0 : Int32), iv (0 : Int32), rv rt, iv (0 : Int32), iv (4 : Int32), .val .null] [(.int (4 : Int32)), (.ref rt)])) rfl rfl (hb hby own_d23_61) t (XS.dup X106.here hx rfl (hb hby own_d23_62) rfl rfl (XS.astore X106.here hx rfl (hb hby own_d23_63) rfl rfl (l' := #[rv r1, rv ra, iv (0 : Int32), iv (0 : Int32), rv rt, iv (0 : Int32), iv (4 : Int32), .val .null]) rfl (XS.ifnullYes X106.here hx rfl (pc0 := 65) (pc' := 94) rfl (hb hby own_d23_65) rfl (by decide) (by decide) (XS.iinc X106.here hx rfl (hb hby own_d23_94) rfl (l' := #[rv r1, rv ra, iv (0 : Int32), iv (0 : Int32), rv rt, iv (0 : Int32), iv (6 : Int32), .val .null]) rfl (XS.goto X106.here hx rfl (pc0 := 97) (pc' := 49) rfl (hb hby own_d23_97) (by decide) (by decide) (XS.iload X106.here hx rfl (hb hby own_d23_49) rfl (XS.aload X106.here hx rfl (hb hby own_d23_51) rfl rfl k)))))))) ?_
  obtain ⟨c113, Ar113, -, S113, G113, -, -⟩ := id V2
  refine own_by (g' := (mkF m 54 #[rv r1, rv ra, iv (0 : Int32), iv (0 : Int32), rv rt, iv (0 : Int32), iv (6 : Int32), .val .null] [(.int (64 : Int32)), (.int (6 : Int32))])) (fun t k => X106.arraylength hx (own_at_ e106 Ar113.1) (State.isArrayOf_alike hZ.alike Ar113.2.1) (g := (mkF m 53 #[rv r1, rv ra, iv (0 : Int32), iv (0 : Int32), rv rt, iv (0 : Int32), iv (6 : Int32), .val .null] [(.ref rt), (.int (6 : Int32))])) rfl rfl (hb hby own_d23_53) t (by rw [len_of S113 G113]; exact k)) ?_
  refine own_by (g' := (mkF m 61 #[rv r1, rv ra, iv (0 : Int32), iv (0 : Int32), rv rt, iv (0 : Int32), iv (6 : Int32), .val .null] [(.int (6 : Int32)), (.ref rt)])) (fun t k => XS.icmpNo X106.here hx rfl (hb hby own_d23_54) rfl (tlt (by decide : (6 : Int32) < (64 : Int32))).2.1 (XS.aload X106.here hx rfl (hb hby own_d23_57) rfl rfl (XS.iload X106.here hx rfl (hb hby own_d23_59) rfl k))) ?_
  obtain ⟨c114, Ar114, q114, S114, G114, H114, F114⟩ := id V2
  have hin114 : ¬ ((6 : Int32) < 0 ∨ c114.slots.size ≤ ((6 : Int32)).toNatClampNeg) := inb_of S114 ⟨by decide, by decide⟩
  have hat114 : c114.slots[((6 : Int32)).toNatClampNeg]? = some .null := H114.at hin114 rfl
  refine own_by (g' := (mkF m 53 #[rv r1, rv ra, iv (0 : Int32), iv (0 : Int32), rv rt, iv (0 : Int32), iv (8 : Int32), .val .null] [(.ref rt), (.int (8 : Int32))])) (fun t k => X106.aaload hx (j := (6 : Int32)) (v := .null) (own_at_ e106 Ar114.1) (State.isArrayOf_alike hZ.alike Ar114.2.1) rfl Ar114.2.2 hin114 hat114 (g := (mkF m 61 #[rv r1, rv ra, iv (0 : Int32), iv (0 : Int32), rv rt, iv (0 : Int32), iv (6 : Int32), .val .null] [(.int (6 : Int32)), (.ref rt)])) rfl rfl (hb hby own_d23_61) t (XS.dup X106.here hx rfl (hb hby own_d23_62) rfl rfl (XS.astore X106.here hx rfl (hb hby own_d23_63) rfl rfl (l' := #[rv r1, rv ra, iv (0 : Int32), iv (0 : Int32), rv rt, iv (0 : Int32), iv (6 : Int32), .val .null]) rfl (XS.ifnullYes X106.here hx rfl (pc0 := 65) (pc' := 94) rfl (hb hby own_d23_65) rfl (by decide) (by decide) (XS.iinc X106.here hx rfl (hb hby own_d23_94) rfl (l' := #[rv r1, rv ra, iv (0 : Int32), iv (0 : Int32), rv rt, iv (0 : Int32), iv (8 : Int32), .val .null]) rfl (XS.goto X106.here hx rfl (pc0 := 97) (pc' := 49) rfl (hb hby own_d23_97) (by decide) (by decide) (XS.iload X106.here hx rfl (hb hby own_d23_49) rfl (XS.aload X106.here hx rfl (hb hby own_d23_51) rfl rfl k)))))))) ?_
  obtain ⟨c115, Ar115, -, S115, G115, -, -⟩ := id V2
  refine own_by (g' := (mkF m 54 #[rv r1, rv ra, iv (0 : Int32), iv (0 : Int32), rv rt, iv (0 : Int32), iv (8 : Int32), .val .null] [(.int (64 : Int32)), (.int (8 : Int32))])) (fun t k => X106.arraylength hx (own_at_ e106 Ar115.1) (State.isArrayOf_alike hZ.alike Ar115.2.1) (g := (mkF m 53 #[rv r1, rv ra, iv (0 : Int32), iv (0 : Int32), rv rt, iv (0 : Int32), iv (8 : Int32), .val .null] [(.ref rt), (.int (8 : Int32))])) rfl rfl (hb hby own_d23_53) t (by rw [len_of S115 G115]; exact k)) ?_
  refine own_by (g' := (mkF m 61 #[rv r1, rv ra, iv (0 : Int32), iv (0 : Int32), rv rt, iv (0 : Int32), iv (8 : Int32), .val .null] [(.int (8 : Int32)), (.ref rt)])) (fun t k => XS.icmpNo X106.here hx rfl (hb hby own_d23_54) rfl (tlt (by decide : (8 : Int32) < (64 : Int32))).2.1 (XS.aload X106.here hx rfl (hb hby own_d23_57) rfl rfl (XS.iload X106.here hx rfl (hb hby own_d23_59) rfl k))) ?_
  obtain ⟨c116, Ar116, q116, S116, G116, H116, F116⟩ := id V2
  have hin116 : ¬ ((8 : Int32) < 0 ∨ c116.slots.size ≤ ((8 : Int32)).toNatClampNeg) := inb_of S116 ⟨by decide, by decide⟩
  have hat116 : c116.slots[((8 : Int32)).toNatClampNeg]? = some .null := H116.at hin116 rfl
  refine own_by (g' := (mkF m 53 #[rv r1, rv ra, iv (0 : Int32), iv (0 : Int32), rv rt, iv (0 : Int32), iv (10 : Int32), .val .null] [(.ref rt), (.int (10 : Int32))])) (fun t k => X106.aaload hx (j := (8 : Int32)) (v := .null) (own_at_ e106 Ar116.1) (State.isArrayOf_alike hZ.alike Ar116.2.1) rfl Ar116.2.2 hin116 hat116 (g := (mkF m 61 #[rv r1, rv ra, iv (0 : Int32), iv (0 : Int32), rv rt, iv (0 : Int32), iv (8 : Int32), .val .null] [(.int (8 : Int32)), (.ref rt)])) rfl rfl (hb hby own_d23_61) t (XS.dup X106.here hx rfl (hb hby own_d23_62) rfl rfl (XS.astore X106.here hx rfl (hb hby own_d23_63) rfl rfl (l' := #[rv r1, rv ra, iv (0 : Int32), iv (0 : Int32), rv rt, iv (0 : Int32), iv (8 : Int32), .val .null]) rfl (XS.ifnullYes X106.here hx rfl (pc0 := 65) (pc' := 94) rfl (hb hby own_d23_65) rfl (by decide) (by decide) (XS.iinc X106.here hx rfl (hb hby own_d23_94) rfl (l' := #[rv r1, rv ra, iv (0 : Int32), iv (0 : Int32), rv rt, iv (0 : Int32), iv (10 : Int32), .val .null]) rfl (XS.goto X106.here hx rfl (pc0 := 97) (pc' := 49) rfl (hb hby own_d23_97) (by decide) (by decide) (XS.iload X106.here hx rfl (hb hby own_d23_49) rfl (XS.aload X106.here hx rfl (hb hby own_d23_51) rfl rfl k)))))))) ?_
  obtain ⟨c117, Ar117, -, S117, G117, -, -⟩ := id V2
  refine own_by (g' := (mkF m 54 #[rv r1, rv ra, iv (0 : Int32), iv (0 : Int32), rv rt, iv (0 : Int32), iv (10 : Int32), .val .null] [(.int (64 : Int32)), (.int (10 : Int32))])) (fun t k => X106.arraylength hx (own_at_ e106 Ar117.1) (State.isArrayOf_alike hZ.alike Ar117.2.1) (g := (mkF m 53 #[rv r1, rv ra, iv (0 : Int32), iv (0 : Int32), rv rt, iv (0 : Int32), iv (10 : Int32), .val .null] [(.ref rt), (.int (10 : Int32))])) rfl rfl (hb hby own_d23_53) t (by rw [len_of S117 G117]; exact k)) ?_
  refine own_by (g' := (mkF m 61 #[rv r1, rv ra, iv (0 : Int32), iv (0 : Int32), rv rt, iv (0 : Int32), iv (10 : Int32), .val .null] [(.int (10 : Int32)), (.ref rt)])) (fun t k => XS.icmpNo X106.here hx rfl (hb hby own_d23_54) rfl (tlt (by decide : (10 : Int32) < (64 : Int32))).2.1 (XS.aload X106.here hx rfl (hb hby own_d23_57) rfl rfl (XS.iload X106.here hx rfl (hb hby own_d23_59) rfl k))) ?_
  obtain ⟨c118, Ar118, q118, S118, G118, H118, F118⟩ := id V2
  have hin118 : ¬ ((10 : Int32) < 0 ∨ c118.slots.size ≤ ((10 : Int32)).toNatClampNeg) := inb_of S118 ⟨by decide, by decide⟩
  have hat118 : c118.slots[((10 : Int32)).toNatClampNeg]? = some .null := H118.at hin118 rfl
  refine own_by (g' := (mkF m 53 #[rv r1, rv ra, iv (0 : Int32), iv (0 : Int32), rv rt, iv (0 : Int32), iv (12 : Int32), .val .null] [(.ref rt), (.int (12 : Int32))])) (fun t k => X106.aaload hx (j := (10 : Int32)) (v := .null) (own_at_ e106 Ar118.1) (State.isArrayOf_alike hZ.alike Ar118.2.1) rfl Ar118.2.2 hin118 hat118 (g := (mkF m 61 #[rv r1, rv ra, iv (0 : Int32), iv (0 : Int32), rv rt, iv (0 : Int32), iv (10 : Int32), .val .null] [(.int (10 : Int32)), (.ref rt)])) rfl rfl (hb hby own_d23_61) t (XS.dup X106.here hx rfl (hb hby own_d23_62) rfl rfl (XS.astore X106.here hx rfl (hb hby own_d23_63) rfl rfl (l' := #[rv r1, rv ra, iv (0 : Int32), iv (0 : Int32), rv rt, iv (0 : Int32), iv (10 : Int32), .val .null]) rfl (XS.ifnullYes X106.here hx rfl (pc0 := 65) (pc' := 94) rfl (hb hby own_d23_65) rfl (by decide) (by decide) (XS.iinc X106.here hx rfl (hb hby own_d23_94) rfl (l' := #[rv r1, rv ra, iv (0 : Int32), iv (0 : Int32), rv rt, iv (0 : Int32), iv (12 : Int32), .val .null]) rfl (XS.goto X106.here hx rfl (pc0 := 97) (pc' := 49) rfl (hb hby own_d23_97) (by decide) (by decide) (XS.iload X106.here hx rfl (hb hby own_d23_49) rfl (XS.aload X106.here hx rfl (hb hby own_d23_51) rfl rfl k)))))))) ?_
  obtain ⟨c119, Ar119, -, S119, G119, -, -⟩ := id V2
  refine own_by (g' := (mkF m 54 #[rv r1, rv ra, iv (0 : Int32), iv (0 : Int32), rv rt, iv (0 : Int32), iv (12 : Int32), .val .null] [(.int (64 : Int32)), (.int (12 : Int32))])) (fun t k => X106.arraylength hx (own_at_ e106 Ar119.1) (State.isArrayOf_alike hZ.alike Ar119.2.1) (g := (mkF m 53 #[rv r1, rv ra, iv (0 : Int32), iv (0 : Int32), rv rt, iv (0 : Int32), iv (12 : Int32), .val .null] [(.ref rt), (.int (12 : Int32))])) rfl rfl (hb hby own_d23_53) t (by rw [len_of S119 G119]; exact k)) ?_
  refine own_by (g' := (mkF m 61 #[rv r1, rv ra, iv (0 : Int32), iv (0 : Int32), rv rt, iv (0 : Int32), iv (12 : Int32), .val .null] [(.int (12 : Int32)), (.ref rt)])) (fun t k => XS.icmpNo X106.here hx rfl (hb hby own_d23_54) rfl (tlt (by decide : (12 : Int32) < (64 : Int32))).2.1 (XS.aload X106.here hx rfl (hb hby own_d23_57) rfl rfl (XS.iload X106.here hx rfl (hb hby own_d23_59) rfl k))) ?_
  obtain ⟨c120, Ar120, q120, S120, G120, H120, F120⟩ := id V2
  have hin120 : ¬ ((12 : Int32) < 0 ∨ c120.slots.size ≤ ((12 : Int32)).toNatClampNeg) := inb_of S120 ⟨by decide, by decide⟩
  have hat120 : c120.slots[((12 : Int32)).toNatClampNeg]? = some .null := H120.at hin120 rfl
  refine own_by (g' := (mkF m 53 #[rv r1, rv ra, iv (0 : Int32), iv (0 : Int32), rv rt, iv (0 : Int32), iv (14 : Int32), .val .null] [(.ref rt), (.int (14 : Int32))])) (fun t k => X106.aaload hx (j := (12 : Int32)) (v := .null) (own_at_ e106 Ar120.1) (State.isArrayOf_alike hZ.alike Ar120.2.1) rfl Ar120.2.2 hin120 hat120 (g := (mkF m 61 #[rv r1, rv ra, iv (0 : Int32), iv (0 : Int32), rv rt, iv (0 : Int32), iv (12 : Int32), .val .null] [(.int (12 : Int32)), (.ref rt)])) rfl rfl (hb hby own_d23_61) t (XS.dup X106.here hx rfl (hb hby own_d23_62) rfl rfl (XS.astore X106.here hx rfl (hb hby own_d23_63) rfl rfl (l' := #[rv r1, rv ra, iv (0 : Int32), iv (0 : Int32), rv rt, iv (0 : Int32), iv (12 : Int32), .val .null]) rfl (XS.ifnullYes X106.here hx rfl (pc0 := 65) (pc' := 94) rfl (hb hby own_d23_65) rfl (by decide) (by decide) (XS.iinc X106.here hx rfl (hb hby own_d23_94) rfl (l' := #[rv r1, rv ra, iv (0 : Int32), iv (0 : Int32), rv rt, iv (0 : Int32), iv (14 : Int32), .val .null]) rfl (XS.goto X106.here hx rfl (pc0 := 97) (pc' := 49) rfl (hb hby own_d23_97) (by decide) (by decide) (XS.iload X106.here hx rfl (hb hby own_d23_49) rfl (XS.aload X106.here hx rfl (hb hby own_d23_51) rfl rfl k)))))))) ?_
  obtain ⟨c121, Ar121, -, S121, G121, -, -⟩ := id V2
  refine own_by (g' := (mkF m 54 #[rv r1, rv ra, iv (0 : Int32), iv (0 : Int32), rv rt, iv (0 : Int32), iv (14 : Int32), .val .null] [(.int (64 : Int32)), (.int (14 : Int32))])) (fun t k => X106.arraylength hx (own_at_ e106 Ar121.1) (State.isArrayOf_alike hZ.alike Ar121.2.1) (g := (mkF m 53 #[rv r1, rv ra, iv (0 : Int32), iv (0 : Int32), rv rt, iv (0 : Int32), iv (14 : Int32), .val .null] [(.ref rt), (.int (14 : Int32))])) rfl rfl (hb hby own_d23_53) t (by rw [len_of S121 G121]; exact k)) ?_
  refine own_by (g' := (mkF m 61 #[rv r1, rv ra, iv (0 : Int32), iv (0 : Int32), rv rt, iv (0 : Int32), iv (14 : Int32), .val .null] [(.int (14 : Int32)), (.ref rt)])) (fun t k => XS.icmpNo X106.here hx rfl (hb hby own_d23_54) rfl (tlt (by decide : (14 : Int32) < (64 : Int32))).2.1 (XS.aload X106.here hx rfl (hb hby own_d23_57) rfl rfl (XS.iload X106.here hx rfl (hb hby own_d23_59) rfl k))) ?_
  obtain ⟨c122, Ar122, q122, S122, G122, H122, F122⟩ := id V2
  have hin122 : ¬ ((14 : Int32) < 0 ∨ c122.slots.size ≤ ((14 : Int32)).toNatClampNeg) := inb_of S122 ⟨by decide, by decide⟩
  have hat122 : c122.slots[((14 : Int32)).toNatClampNeg]? = some .null := H122.at hin122 rfl
  refine own_by (g' := (mkF m 53 #[rv r1, rv ra, iv (0 : Int32), iv (0 : Int32), rv rt, iv (0 : Int32), iv (16 : Int32), .val .null] [(.ref rt), (.int (16 : Int32))])) (fun t k => X106.aaload hx (j := (14 : Int32)) (v := .null) (own_at_ e106 Ar122.1) (State.isArrayOf_alike hZ.alike Ar122.2.1) rfl Ar122.2.2 hin122 hat122 (g := (mkF m 61 #[rv r1, rv ra, iv (0 : Int32), iv (0 : Int32), rv rt, iv (0 : Int32), iv (14 : Int32), .val .null] [(.int (14 : Int32)), (.ref rt)])) rfl rfl (hb hby own_d23_61) t (XS.dup X106.here hx rfl (hb hby own_d23_62) rfl rfl (XS.astore X106.here hx rfl (hb hby own_d23_63) rfl rfl (l' := #[rv r1, rv ra, iv (0 : Int32), iv (0 : Int32), rv rt, iv (0 : Int32), iv (14 : Int32), .val .null]) rfl (XS.ifnullYes X106.here hx rfl (pc0 := 65) (pc' := 94) rfl (hb hby own_d23_65) rfl (by decide) (by decide) (XS.iinc X106.here hx rfl (hb hby own_d23_94) rfl (l' := #[rv r1, rv ra, iv (0 : Int32), iv (0 : Int32), rv rt, iv (0 : Int32), iv (16 : Int32), .val .null]) rfl (XS.goto X106.here hx rfl (pc0 := 97) (pc' := 49) rfl (hb hby own_d23_97) (by decide) (by decide) (XS.iload X106.here hx rfl (hb hby own_d23_49) rfl (XS.aload X106.here hx rfl (hb hby own_d23_51) rfl rfl k)))))))) ?_
  obtain ⟨c123, Ar123, -, S123, G123, -, -⟩ := id V2
  refine own_by (g' := (mkF m 54 #[rv r1, rv ra, iv (0 : Int32), iv (0 : Int32), rv rt, iv (0 : Int32), iv (16 : Int32), .val .null] [(.int (64 : Int32)), (.int (16 : Int32))])) (fun t k => X106.arraylength hx (own_at_ e106 Ar123.1) (State.isArrayOf_alike hZ.alike Ar123.2.1) (g := (mkF m 53 #[rv r1, rv ra, iv (0 : Int32), iv (0 : Int32), rv rt, iv (0 : Int32), iv (16 : Int32), .val .null] [(.ref rt), (.int (16 : Int32))])) rfl rfl (hb hby own_d23_53) t (by rw [len_of S123 G123]; exact k)) ?_
  refine own_by (g' := (mkF m 61 #[rv r1, rv ra, iv (0 : Int32), iv (0 : Int32), rv rt, iv (0 : Int32), iv (16 : Int32), .val .null] [(.int (16 : Int32)), (.ref rt)])) (fun t k => XS.icmpNo X106.here hx rfl (hb hby own_d23_54) rfl (tlt (by decide : (16 : Int32) < (64 : Int32))).2.1 (XS.aload X106.here hx rfl (hb hby own_d23_57) rfl rfl (XS.iload X106.here hx rfl (hb hby own_d23_59) rfl k))) ?_
  obtain ⟨c124, Ar124, q124, S124, G124, H124, F124⟩ := id V2
  have hin124 : ¬ ((16 : Int32) < 0 ∨ c124.slots.size ≤ ((16 : Int32)).toNatClampNeg) := inb_of S124 ⟨by decide, by decide⟩
  have hat124 : c124.slots[((16 : Int32)).toNatClampNeg]? = some .null := H124.at hin124 rfl
  refine own_by (g' := (mkF m 53 #[rv r1, rv ra, iv (0 : Int32), iv (0 : Int32), rv rt, iv (0 : Int32), iv (18 : Int32), .val .null] [(.ref rt), (.int (18 : Int32))])) (fun t k => X106.aaload hx (j := (16 : Int32)) (v := .null) (own_at_ e106 Ar124.1) (State.isArrayOf_alike hZ.alike Ar124.2.1) rfl Ar124.2.2 hin124 hat124 (g := (mkF m 61 #[rv r1, rv ra, iv (0 : Int32), iv (0 : Int32), rv rt, iv (0 : Int32), iv (16 : Int32), .val .null] [(.int (16 : Int32)), (.ref rt)])) rfl rfl (hb hby own_d23_61) t (XS.dup X106.here hx rfl (hb hby own_d23_62) rfl rfl (XS.astore X106.here hx rfl (hb hby own_d23_63) rfl rfl (l' := #[rv r1, rv ra, iv (0 : Int32), iv (0 : Int32), rv rt, iv (0 : Int32), iv (16 : Int32), .val .null]) rfl (XS.ifnullYes X106.here hx rfl (pc0 := 65) (pc' := 94) rfl (hb hby own_d23_65) rfl (by decide) (by decide) (XS.iinc X106.here hx rfl (hb hby own_d23_94) rfl (l' := #[rv r1, rv ra, iv (0 : Int32), iv (0 : Int32), rv rt, iv (0 : Int32), iv (18 : Int32), .val .null]) rfl (XS.goto X106.here hx rfl (pc0 := 97) (pc' := 49) rfl (hb hby own_d23_97) (by decide) (by decide) (XS.iload X106.here hx rfl (hb hby own_d23_49) rfl (XS.aload X106.here hx rfl (hb hby own_d23_51) rfl rfl k)))))))) ?_
  obtain ⟨c125, Ar125, -, S125, G125, -, -⟩ := id V2
  refine own_by (g' := (mkF m 54 #[rv r1, rv ra, iv (0 : Int32), iv (0 : Int32), rv rt, iv (0 : Int32), iv (18 : Int32), .val .null] [(.int (64 : Int32)), (.int (18 : Int32))])) (fun t k => X106.arraylength hx (own_at_ e106 Ar125.1) (State.isArrayOf_alike hZ.alike Ar125.2.1) (g := (mkF m 53 #[rv r1, rv ra, iv (0 : Int32), iv (0 : Int32), rv rt, iv (0 : Int32), iv (18 : Int32), .val .null] [(.ref rt), (.int (18 : Int32))])) rfl rfl (hb hby own_d23_53) t (by rw [len_of S125 G125]; exact k)) ?_
  refine own_by (g' := (mkF m 61 #[rv r1, rv ra, iv (0 : Int32), iv (0 : Int32), rv rt, iv (0 : Int32), iv (18 : Int32), .val .null] [(.int (18 : Int32)), (.ref rt)])) (fun t k => XS.icmpNo X106.here hx rfl (hb hby own_d23_54) rfl (tlt (by decide : (18 : Int32) < (64 : Int32))).2.1 (XS.aload X106.here hx rfl (hb hby own_d23_57) rfl rfl (XS.iload X106.here hx rfl (hb hby own_d23_59) rfl k))) ?_
  obtain ⟨c126, Ar126, q126, S126, G126, H126, F126⟩ := id V2
  have hin126 : ¬ ((18 : Int32) < 0 ∨ c126.slots.size ≤ ((18 : Int32)).toNatClampNeg) := inb_of S126 ⟨by decide, by decide⟩
  have hat126 : c126.slots[((18 : Int32)).toNatClampNeg]? = some .null := H126.at hin126 rfl
  refine own_by (g' := (mkF m 53 #[rv r1, rv ra, iv (0 : Int32), iv (0 : Int32), rv rt, iv (0 : Int32), iv (20 : Int32), .val .null] [(.ref rt), (.int (20 : Int32))])) (fun t k => X106.aaload hx (j := (18 : Int32)) (v := .null) (own_at_ e106 Ar126.1) (State.isArrayOf_alike hZ.alike Ar126.2.1) rfl Ar126.2.2 hin126 hat126 (g := (mkF m 61 #[rv r1, rv ra, iv (0 : Int32), iv (0 : Int32), rv rt, iv (0 : Int32), iv (18 : Int32), .val .null] [(.int (18 : Int32)), (.ref rt)])) rfl rfl (hb hby own_d23_61) t (XS.dup X106.here hx rfl (hb hby own_d23_62) rfl rfl (XS.astore X106.here hx rfl (hb hby own_d23_63) rfl rfl (l' := #[rv r1, rv ra, iv (0 : Int32), iv (0 : Int32), rv rt, iv (0 : Int32), iv (18 : Int32), .val .null]) rfl (XS.ifnullYes X106.here hx rfl (pc0 := 65) (pc' := 94) rfl (hb hby own_d23_65) rfl (by decide) (by decide) (XS.iinc X106.here hx rfl (hb hby own_d23_94) rfl (l' := #[rv r1, rv ra, iv (0 : Int32), iv (0 : Int32), rv rt, iv (0 : Int32), iv (20 : Int32), .val .null]) rfl (XS.goto X106.here hx rfl (pc0 := 97) (pc' := 49) rfl (hb hby own_d23_97) (by decide) (by decide) (XS.iload X106.here hx rfl (hb hby own_d23_49) rfl (XS.aload X106.here hx rfl (hb hby own_d23_51) rfl rfl k)))))))) ?_
  obtain ⟨c127, Ar127, -, S127, G127, -, -⟩ := id V2
  refine own_by (g' := (mkF m 54 #[rv r1, rv ra, iv (0 : Int32), iv (0 : Int32), rv rt, iv (0 : Int32), iv (20 : Int32), .val .null] [(.int (64 : Int32)), (.int (20 : Int32))])) (fun t k => X106.arraylength hx (own_at_ e106 Ar127.1) (State.isArrayOf_alike hZ.alike Ar127.2.1) (g := (mkF m 53 #[rv r1, rv ra, iv (0 : Int32), iv (0 : Int32), rv rt, iv (0 : Int32), iv (20 : Int32), .val .null] [(.ref rt), (.int (20 : Int32))])) rfl rfl (hb hby own_d23_53) t (by rw [len_of S127 G127]; exact k)) ?_
  refine own_by (g' := (mkF m 61 #[rv r1, rv ra, iv (0 : Int32), iv (0 : Int32), rv rt, iv (0 : Int32), iv (20 : Int32), .val .null] [(.int (20 : Int32)), (.ref rt)])) (fun t k => XS.icmpNo X106.here hx rfl (hb hby own_d23_54) rfl (tlt (by decide : (20 : Int32) < (64 : Int32))).2.1 (XS.aload X106.here hx rfl (hb hby own_d23_57) rfl rfl (XS.iload X106.here hx rfl (hb hby own_d23_59) rfl k))) ?_
  obtain ⟨c128, Ar128, q128, S128, G128, H128, F128⟩ := id V2
  have hin128 : ¬ ((20 : Int32) < 0 ∨ c128.slots.size ≤ ((20 : Int32)).toNatClampNeg) := inb_of S128 ⟨by decide, by decide⟩
  have hat128 : c128.slots[((20 : Int32)).toNatClampNeg]? = some .null := H128.at hin128 rfl
  refine own_by (g' := (mkF m 53 #[rv r1, rv ra, iv (0 : Int32), iv (0 : Int32), rv rt, iv (0 : Int32), iv (22 : Int32), .val .null] [(.ref rt), (.int (22 : Int32))])) (fun t k => X106.aaload hx (j := (20 : Int32)) (v := .null) (own_at_ e106 Ar128.1) (State.isArrayOf_alike hZ.alike Ar128.2.1) rfl Ar128.2.2 hin128 hat128 (g := (mkF m 61 #[rv r1, rv ra, iv (0 : Int32), iv (0 : Int32), rv rt, iv (0 : Int32), iv (20 : Int32), .val .null] [(.int (20 : Int32)), (.ref rt)])) rfl rfl (hb hby own_d23_61) t (XS.dup X106.here hx rfl (hb hby own_d23_62) rfl rfl (XS.astore X106.here hx rfl (hb hby own_d23_63) rfl rfl (l' := #[rv r1, rv ra, iv (0 : Int32), iv (0 : Int32), rv rt, iv (0 : Int32), iv (20 : Int32), .val .null]) rfl (XS.ifnullYes X106.here hx rfl (pc0 := 65) (pc' := 94) rfl (hb hby own_d23_65) rfl (by decide) (by decide) (XS.iinc X106.here hx rfl (hb hby own_d23_94) rfl (l' := #[rv r1, rv ra, iv (0 : Int32), iv (0 : Int32), rv rt, iv (0 : Int32), iv (22 : Int32), .val .null]) rfl (XS.goto X106.here hx rfl (pc0 := 97) (pc' := 49) rfl (hb hby own_d23_97) (by decide) (by decide) (XS.iload X106.here hx rfl (hb hby own_d23_49) rfl (XS.aload X106.here hx rfl (hb hby own_d23_51) rfl rfl k)))))))) ?_
  obtain ⟨c129, Ar129, -, S129, G129, -, -⟩ := id V2
  refine own_by (g' := (mkF m 54 #[rv r1, rv ra, iv (0 : Int32), iv (0 : Int32), rv rt, iv (0 : Int32), iv (22 : Int32), .val .null] [(.int (64 : Int32)), (.int (22 : Int32))])) (fun t k => X106.arraylength hx (own_at_ e106 Ar129.1) (State.isArrayOf_alike hZ.alike Ar129.2.1) (g := (mkF m 53 #[rv r1, rv ra, iv (0 : Int32), iv (0 : Int32), rv rt, iv (0 : Int32), iv (22 : Int32), .val .null] [(.ref rt), (.int (22 : Int32))])) rfl rfl (hb hby own_d23_53) t (by rw [len_of S129 G129]; exact k)) ?_
  refine own_by (g' := (mkF m 61 #[rv r1, rv ra, iv (0 : Int32), iv (0 : Int32), rv rt, iv (0 : Int32), iv (22 : Int32), .val .null] [(.int (22 : Int32)), (.ref rt)])) (fun t k => XS.icmpNo X106.here hx rfl (hb hby own_d23_54) rfl (tlt (by decide : (22 : Int32) < (64 : Int32))).2.1 (XS.aload X106.here hx rfl (hb hby own_d23_57) rfl rfl (XS.iload X106.here hx rfl (hb hby own_d23_59) rfl k))) ?_
  obtain ⟨c130, Ar130, q130, S130, G130, H130, F130⟩ := id V2
  have hin130 : ¬ ((22 : Int32) < 0 ∨ c130.slots.size ≤ ((22 : Int32)).toNatClampNeg) := inb_of S130 ⟨by decide, by decide⟩
  have hat130 : c130.slots[((22 : Int32)).toNatClampNeg]? = some .null := H130.at hin130 rfl
  refine own_by (g' := (mkF m 53 #[rv r1, rv ra, iv (0 : Int32), iv (0 : Int32), rv rt, iv (0 : Int32), iv (24 : Int32), .val .null] [(.ref rt), (.int (24 : Int32))])) (fun t k => X106.aaload hx (j := (22 : Int32)) (v := .null) (own_at_ e106 Ar130.1) (State.isArrayOf_alike hZ.alike Ar130.2.1) rfl Ar130.2.2 hin130 hat130 (g := (mkF m 61 #[rv r1, rv ra, iv (0 : Int32), iv (0 : Int32), rv rt, iv (0 : Int32), iv (22 : Int32), .val .null] [(.int (22 : Int32)), (.ref rt)])) rfl rfl (hb hby own_d23_61) t (XS.dup X106.here hx rfl (hb hby own_d23_62) rfl rfl (XS.astore X106.here hx rfl (hb hby own_d23_63) rfl rfl (l' := #[rv r1, rv ra, iv (0 : Int32), iv (0 : Int32), rv rt, iv (0 : Int32), iv (22 : Int32), .val .null]) rfl (XS.ifnullYes X106.here hx rfl (pc0 := 65) (pc' := 94) rfl (hb hby own_d23_65) rfl (by decide) (by decide) (XS.iinc X106.here hx rfl (hb hby own_d23_94) rfl (l' := #[rv r1, rv ra, iv (0 : Int32), iv (0 : Int32), rv rt, iv (0 : Int32), iv (24 : Int32), .val .null]) rfl (XS.goto X106.here hx rfl (pc0 := 97) (pc' := 49) rfl (hb hby own_d23_97) (by decide) (by decide) (XS.iload X106.here hx rfl (hb hby own_d23_49) rfl (XS.aload X106.here hx rfl (hb hby own_d23_51) rfl rfl k)))))))) ?_
  obtain ⟨c131, Ar131, -, S131, G131, -, -⟩ := id V2
  refine own_by (g' := (mkF m 54 #[rv r1, rv ra, iv (0 : Int32), iv (0 : Int32), rv rt, iv (0 : Int32), iv (24 : Int32), .val .null] [(.int (64 : Int32)), (.int (24 : Int32))])) (fun t k => X106.arraylength hx (own_at_ e106 Ar131.1) (State.isArrayOf_alike hZ.alike Ar131.2.1) (g := (mkF m 53 #[rv r1, rv ra, iv (0 : Int32), iv (0 : Int32), rv rt, iv (0 : Int32), iv (24 : Int32), .val .null] [(.ref rt), (.int (24 : Int32))])) rfl rfl (hb hby own_d23_53) t (by rw [len_of S131 G131]; exact k)) ?_
  refine own_by (g' := (mkF m 61 #[rv r1, rv ra, iv (0 : Int32), iv (0 : Int32), rv rt, iv (0 : Int32), iv (24 : Int32), .val .null] [(.int (24 : Int32)), (.ref rt)])) (fun t k => XS.icmpNo X106.here hx rfl (hb hby own_d23_54) rfl (tlt (by decide : (24 : Int32) < (64 : Int32))).2.1 (XS.aload X106.here hx rfl (hb hby own_d23_57) rfl rfl (XS.iload X106.here hx rfl (hb hby own_d23_59) rfl k))) ?_
  obtain ⟨c132, Ar132, q132, S132, G132, H132, F132⟩ := id V2
  have hin132 : ¬ ((24 : Int32) < 0 ∨ c132.slots.size ≤ ((24 : Int32)).toNatClampNeg) := inb_of S132 ⟨by decide, by decide⟩
  have hat132 : c132.slots[((24 : Int32)).toNatClampNeg]? = some .null := H132.at hin132 rfl
  refine own_by (g' := (mkF m 53 #[rv r1, rv ra, iv (0 : Int32), iv (0 : Int32), rv rt, iv (0 : Int32), iv (26 : Int32), .val .null] [(.ref rt), (.int (26 : Int32))])) (fun t k => X106.aaload hx (j := (24 : Int32)) (v := .null) (own_at_ e106 Ar132.1) (State.isArrayOf_alike hZ.alike Ar132.2.1) rfl Ar132.2.2 hin132 hat132 (g := (mkF m 61 #[rv r1, rv ra, iv (0 : Int32), iv (0 : Int32), rv rt, iv (0 : Int32), iv (24 : Int32), .val .null] [(.int (24 : Int32)), (.ref rt)])) rfl rfl (hb hby own_d23_61) t (XS.dup X106.here hx rfl (hb hby own_d23_62) rfl rfl (XS.astore X106.here hx rfl (hb hby own_d23_63) rfl rfl (l' := #[rv r1, rv ra, iv (0 : Int32), iv (0 : Int32), rv rt, iv (0 : Int32), iv (24 : Int32), .val .null]) rfl (XS.ifnullYes X106.here hx rfl (pc0 := 65) (pc' := 94) rfl (hb hby own_d23_65) rfl (by decide) (by decide) (XS.iinc X106.here hx rfl (hb hby own_d23_94) rfl (l' := #[rv r1, rv ra, iv (0 : Int32), iv (0 : Int32), rv rt, iv (0 : Int32), iv (26 : Int32), .val .null]) rfl (XS.goto X106.here hx rfl (pc0 := 97) (pc' := 49) rfl (hb hby own_d23_97) (by decide) (by decide) (XS.iload X106.here hx rfl (hb hby own_d23_49) rfl (XS.aload X106.here hx rfl (hb hby own_d23_51) rfl rfl k)))))))) ?_
  obtain ⟨c133, Ar133, -, S133, G133, -, -⟩ := id V2
  refine own_by (g' := (mkF m 54 #[rv r1, rv ra, iv (0 : Int32), iv (0 : Int32), rv rt, iv (0 : Int32), iv (26 : Int32), .val .null] [(.int (64 : Int32)), (.int (26 : Int32))])) (fun t k => X106.arraylength hx (own_at_ e106 Ar133.1) (State.isArrayOf_alike hZ.alike Ar133.2.1) (g := (mkF m 53 #[rv r1, rv ra, iv (0 : Int32), iv (0 : Int32), rv rt, iv (0 : Int32), iv (26 : Int32), .val .null] [(.ref rt), (.int (26 : Int32))])) rfl rfl (hb hby own_d23_53) t (by rw [len_of S133 G133]; exact k)) ?_
  refine own_by (g' := (mkF m 61 #[rv r1, rv ra, iv (0 : Int32), iv (0 : Int32), rv rt, iv (0 : Int32), iv (26 : Int32), .val .null] [(.int (26 : Int32)), (.ref rt)])) (fun t k => XS.icmpNo X106.here hx rfl (hb hby own_d23_54) rfl (tlt (by decide : (26 : Int32) < (64 : Int32))).2.1 (XS.aload X106.here hx rfl (hb hby own_d23_57) rfl rfl (XS.iload X106.here hx rfl (hb hby own_d23_59) rfl k))) ?_
  obtain ⟨c134, Ar134, q134, S134, G134, H134, F134⟩ := id V2
  have hin134 : ¬ ((26 : Int32) < 0 ∨ c134.slots.size ≤ ((26 : Int32)).toNatClampNeg) := inb_of S134 ⟨by decide, by decide⟩
  have hat134 : c134.slots[((26 : Int32)).toNatClampNeg]? = some .null := H134.at hin134 rfl
  refine own_by (g' := (mkF m 53 #[rv r1, rv ra, iv (0 : Int32), iv (0 : Int32), rv rt, iv (0 : Int32), iv (28 : Int32), .val .null] [(.ref rt), (.int (28 : Int32))])) (fun t k => X106.aaload hx (j := (26 : Int32)) (v := .null) (own_at_ e106 Ar134.1) (State.isArrayOf_alike hZ.alike Ar134.2.1) rfl Ar134.2.2 hin134 hat134 (g := (mkF m 61 #[rv r1, rv ra, iv (0 : Int32), iv (0 : Int32), rv rt, iv (0 : Int32), iv (26 : Int32), .val .null] [(.int (26 : Int32)), (.ref rt)])) rfl rfl (hb hby own_d23_61) t (XS.dup X106.here hx rfl (hb hby own_d23_62) rfl rfl (XS.astore X106.here hx rfl (hb hby own_d23_63) rfl rfl (l' := #[rv r1, rv ra, iv (0 : Int32), iv (0 : Int32), rv rt, iv (0 : Int32), iv (26 : Int32), .val .null]) rfl (XS.ifnullYes X106.here hx rfl (pc0 := 65) (pc' := 94) rfl (hb hby own_d23_65) rfl (by decide) (by decide) (XS.iinc X106.here hx rfl (hb hby own_d23_94) rfl (l' := #[rv r1, rv ra, iv (0 : Int32), iv (0 : Int32), rv rt, iv (0 : Int32), iv (28 : Int32), .val .null]) rfl (XS.goto X106.here hx rfl (pc0 := 97) (pc' := 49) rfl (hb hby own_d23_97) (by decide) (by decide) (XS.iload X106.here hx rfl (hb hby own_d23_49) rfl (XS.aload X106.here hx rfl (hb hby own_d23_51) rfl rfl k)))))))) ?_
  obtain ⟨c135, Ar135, -, S135, G135, -, -⟩ := id V2
  refine own_by (g' := (mkF m 54 #[rv r1, rv ra, iv (0 : Int32), iv (0 : Int32), rv rt, iv (0 : Int32), iv (28 : Int32), .val .null] [(.int (64 : Int32)), (.int (28 : Int32))])) (fun t k => X106.arraylength hx (own_at_ e106 Ar135.1) (State.isArrayOf_alike hZ.alike Ar135.2.1) (g := (mkF m 53 #[rv r1, rv ra, iv (0 : Int32), iv (0 : Int32), rv rt, iv (0 : Int32), iv (28 : Int32), .val .null] [(.ref rt), (.int (28 : Int32))])) rfl rfl (hb hby own_d23_53) t (by rw [len_of S135 G135]; exact k)) ?_
  refine own_by (g' := (mkF m 61 #[rv r1, rv ra, iv (0 : Int32), iv (0 : Int32), rv rt, iv (0 : Int32), iv (28 : Int32), .val .null] [(.int (28 : Int32)), (.ref rt)])) (fun t k => XS.icmpNo X106.here hx rfl (hb hby own_d23_54) rfl (tlt (by decide : (28 : Int32) < (64 : Int32))).2.1 (XS.aload X106.here hx rfl (hb hby own_d23_57) rfl rfl (XS.iload X106.here hx rfl (hb hby own_d23_59) rfl k))) ?_
  obtain ⟨c136, Ar136, q136, S136, G136, H136, F136⟩ := id V2
  have hin136 : ¬ ((28 : Int32) < 0 ∨ c136.slots.size ≤ ((28 : Int32)).toNatClampNeg) := inb_of S136 ⟨by decide, by decide⟩
  have hat136 : c136.slots[((28 : Int32)).toNatClampNeg]? = some .null := H136.at hin136 rfl
  refine own_by (g' := (mkF m 53 #[rv r1, rv ra, iv (0 : Int32), iv (0 : Int32), rv rt, iv (0 : Int32), iv (30 : Int32), .val .null] [(.ref rt), (.int (30 : Int32))])) (fun t k => X106.aaload hx (j := (28 : Int32)) (v := .null) (own_at_ e106 Ar136.1) (State.isArrayOf_alike hZ.alike Ar136.2.1) rfl Ar136.2.2 hin136 hat136 (g := (mkF m 61 #[rv r1, rv ra, iv (0 : Int32), iv (0 : Int32), rv rt, iv (0 : Int32), iv (28 : Int32), .val .null] [(.int (28 : Int32)), (.ref rt)])) rfl rfl (hb hby own_d23_61) t (XS.dup X106.here hx rfl (hb hby own_d23_62) rfl rfl (XS.astore X106.here hx rfl (hb hby own_d23_63) rfl rfl (l' := #[rv r1, rv ra, iv (0 : Int32), iv (0 : Int32), rv rt, iv (0 : Int32), iv (28 : Int32), .val .null]) rfl (XS.ifnullYes X106.here hx rfl (pc0 := 65) (pc' := 94) rfl (hb hby own_d23_65) rfl (by decide) (by decide) (XS.iinc X106.here hx rfl (hb hby own_d23_94) rfl (l' := #[rv r1, rv ra, iv (0 : Int32), iv (0 : Int32), rv rt, iv (0 : Int32), iv (30 : Int32), .val .null]) rfl (XS.goto X106.here hx rfl (pc0 := 97) (pc' := 49) rfl (hb hby own_d23_97) (by decide) (by decide) (XS.iload X106.here hx rfl (hb hby own_d23_49) rfl (XS.aload X106.here hx rfl (hb hby own_d23_51) rfl rfl k)))))))) ?_
  obtain ⟨c137, Ar137, -, S137, G137, -, -⟩ := id V2
  refine own_by (g' := (mkF m 54 #[rv r1, rv ra, iv (0 : Int32), iv (0 : Int32), rv rt, iv (0 : Int32), iv (30 : Int32), .val .null] [(.int (64 : Int32)), (.int (30 : Int32))])) (fun t k => X106.arraylength hx (own_at_ e106 Ar137.1) (State.isArrayOf_alike hZ.alike Ar137.2.1) (g := (mkF m 53 #[rv r1, rv ra, iv (0 : Int32), iv (0 : Int32), rv rt, iv (0 : Int32), iv (30 : Int32), .val .null] [(.ref rt), (.int (30 : Int32))])) rfl rfl (hb hby own_d23_53) t (by rw [len_of S137 G137]; exact k)) ?_
  refine own_by (g' := (mkF m 61 #[rv r1, rv ra, iv (0 : Int32), iv (0 : Int32), rv rt, iv (0 : Int32), iv (30 : Int32), .val .null] [(.int (30 : Int32)), (.ref rt)])) (fun t k => XS.icmpNo X106.here hx rfl (hb hby own_d23_54) rfl (tlt (by decide : (30 : Int32) < (64 : Int32))).2.1 (XS.aload X106.here hx rfl (hb hby own_d23_57) rfl rfl (XS.iload X106.here hx rfl (hb hby own_d23_59) rfl k))) ?_
  obtain ⟨c138, Ar138, q138, S138, G138, H138, F138⟩ := id V2
  have hin138 : ¬ ((30 : Int32) < 0 ∨ c138.slots.size ≤ ((30 : Int32)).toNatClampNeg) := inb_of S138 ⟨by decide, by decide⟩
  have hat138 : c138.slots[((30 : Int32)).toNatClampNeg]? = some .null := H138.at hin138 rfl
  refine own_by (g' := (mkF m 53 #[rv r1, rv ra, iv (0 : Int32), iv (0 : Int32), rv rt, iv (0 : Int32), iv (32 : Int32), .val .null] [(.ref rt), (.int (32 : Int32))])) (fun t k => X106.aaload hx (j := (30 : Int32)) (v := .null) (own_at_ e106 Ar138.1) (State.isArrayOf_alike hZ.alike Ar138.2.1) rfl Ar138.2.2 hin138 hat138 (g := (mkF m 61 #[rv r1, rv ra, iv (0 : Int32), iv (0 : Int32), rv rt, iv (0 : Int32), iv (30 : Int32), .val .null] [(.int (30 : Int32)), (.ref rt)])) rfl rfl (hb hby own_d23_61) t (XS.dup X106.here hx rfl (hb hby own_d23_62) rfl rfl (XS.astore X106.here hx rfl (hb hby own_d23_63) rfl rfl (l' := #[rv r1, rv ra, iv (0 : Int32), iv (0 : Int32), rv rt, iv (0 : Int32), iv (30 : Int32), .val .null]) rfl (XS.ifnullYes X106.here hx rfl (pc0 := 65) (pc' := 94) rfl (hb hby own_d23_65) rfl (by decide) (by decide) (XS.iinc X106.here hx rfl (hb hby own_d23_94) rfl (l' := #[rv r1, rv ra, iv (0 : Int32), iv (0 : Int32), rv rt, iv (0 : Int32), iv (32 : Int32), .val .null]) rfl (XS.goto X106.here hx rfl (pc0 := 97) (pc' := 49) rfl (hb hby own_d23_97) (by decide) (by decide) (XS.iload X106.here hx rfl (hb hby own_d23_49) rfl (XS.aload X106.here hx rfl (hb hby own_d23_51) rfl rfl k)))))))) ?_
  obtain ⟨c139, Ar139, -, S139, G139, -, -⟩ := id V2
  refine own_by (g' := (mkF m 54 #[rv r1, rv ra, iv (0 : Int32), iv (0 : Int32), rv rt, iv (0 : Int32), iv (32 : Int32), .val .null] [(.int (64 : Int32)), (.int (32 : Int32))])) (fun t k => X106.arraylength hx (own_at_ e106 Ar139.1) (State.isArrayOf_alike hZ.alike Ar139.2.1) (g := (mkF m 53 #[rv r1, rv ra, iv (0 : Int32), iv (0 : Int32), rv rt, iv (0 : Int32), iv (32 : Int32), .val .null] [(.ref rt), (.int (32 : Int32))])) rfl rfl (hb hby own_d23_53) t (by rw [len_of S139 G139]; exact k)) ?_
  refine own_by (g' := (mkF m 61 #[rv r1, rv ra, iv (0 : Int32), iv (0 : Int32), rv rt, iv (0 : Int32), iv (32 : Int32), .val .null] [(.int (32 : Int32)), (.ref rt)])) (fun t k => XS.icmpNo X106.here hx rfl (hb hby own_d23_54) rfl (tlt (by decide : (32 : Int32) < (64 : Int32))).2.1 (XS.aload X106.here hx rfl (hb hby own_d23_57) rfl rfl (XS.iload X106.here hx rfl (hb hby own_d23_59) rfl k))) ?_
  obtain ⟨c140, Ar140, q140, S140, G140, H140, F140⟩ := id V2
  have hin140 : ¬ ((32 : Int32) < 0 ∨ c140.slots.size ≤ ((32 : Int32)).toNatClampNeg) := inb_of S140 ⟨by decide, by decide⟩
  have hat140 : c140.slots[((32 : Int32)).toNatClampNeg]? = some .null := H140.at hin140 rfl
  refine own_by (g' := (mkF m 53 #[rv r1, rv ra, iv (0 : Int32), iv (0 : Int32), rv rt, iv (0 : Int32), iv (34 : Int32), .val .null] [(.ref rt), (.int (34 : Int32))])) (fun t k => X106.aaload hx (j := (32 : Int32)) (v := .null) (own_at_ e106 Ar140.1) (State.isArrayOf_alike hZ.alike Ar140.2.1) rfl Ar140.2.2 hin140 hat140 (g := (mkF m 61 #[rv r1, rv ra, iv (0 : Int32), iv (0 : Int32), rv rt, iv (0 : Int32), iv (32 : Int32), .val .null] [(.int (32 : Int32)), (.ref rt)])) rfl rfl (hb hby own_d23_61) t (XS.dup X106.here hx rfl (hb hby own_d23_62) rfl rfl (XS.astore X106.here hx rfl (hb hby own_d23_63) rfl rfl (l' := #[rv r1, rv ra, iv (0 : Int32), iv (0 : Int32), rv rt, iv (0 : Int32), iv (32 : Int32), .val .null]) rfl (XS.ifnullYes X106.here hx rfl (pc0 := 65) (pc' := 94) rfl (hb hby own_d23_65) rfl (by decide) (by decide) (XS.iinc X106.here hx rfl (hb hby own_d23_94) rfl (l' := #[rv r1, rv ra, iv (0 : Int32), iv (0 : Int32), rv rt, iv (0 : Int32), iv (34 : Int32), .val .null]) rfl (XS.goto X106.here hx rfl (pc0 := 97) (pc' := 49) rfl (hb hby own_d23_97) (by decide) (by decide) (XS.iload X106.here hx rfl (hb hby own_d23_49) rfl (XS.aload X106.here hx rfl (hb hby own_d23_51) rfl rfl k)))))))) ?_
  obtain ⟨c141, Ar141, -, S141, G141, -, -⟩ := id V2
  refine own_by (g' := (mkF m 54 #[rv r1, rv ra, iv (0 : Int32), iv (0 : Int32), rv rt, iv (0 : Int32), iv (34 : Int32), .val .null] [(.int (64 : Int32)), (.int (34 : Int32))])) (fun t k => X106.arraylength hx (own_at_ e106 Ar141.1) (State.isArrayOf_alike hZ.alike Ar141.2.1) (g := (mkF m 53 #[rv r1, rv ra, iv (0 : Int32), iv (0 : Int32), rv rt, iv (0 : Int32), iv (34 : Int32), .val .null] [(.ref rt), (.int (34 : Int32))])) rfl rfl (hb hby own_d23_53) t (by rw [len_of S141 G141]; exact k)) ?_
  refine own_by (g' := (mkF m 61 #[rv r1, rv ra, iv (0 : Int32), iv (0 : Int32), rv rt, iv (0 : Int32), iv (34 : Int32), .val .null] [(.int (34 : Int32)), (.ref rt)])) (fun t k => XS.icmpNo X106.here hx rfl (hb hby own_d23_54) rfl (tlt (by decide : (34 : Int32) < (64 : Int32))).2.1 (XS.aload X106.here hx rfl (hb hby own_d23_57) rfl rfl (XS.iload X106.here hx rfl (hb hby own_d23_59) rfl k))) ?_
  obtain ⟨c142, Ar142, q142, S142, G142, H142, F142⟩ := id V2
  have hin142 : ¬ ((34 : Int32) < 0 ∨ c142.slots.size ≤ ((34 : Int32)).toNatClampNeg) := inb_of S142 ⟨by decide, by decide⟩
  have hat142 : c142.slots[((34 : Int32)).toNatClampNeg]? = some .null := H142.at hin142 rfl
  refine own_by (g' := (mkF m 53 #[rv r1, rv ra, iv (0 : Int32), iv (0 : Int32), rv rt, iv (0 : Int32), iv (36 : Int32), .val .null] [(.ref rt), (.int (36 : Int32))])) (fun t k => X106.aaload hx (j := (34 : Int32)) (v := .null) (own_at_ e106 Ar142.1) (State.isArrayOf_alike hZ.alike Ar142.2.1) rfl Ar142.2.2 hin142 hat142 (g := (mkF m 61 #[rv r1, rv ra, iv (0 : Int32), iv (0 : Int32), rv rt, iv (0 : Int32), iv (34 : Int32), .val .null] [(.int (34 : Int32)), (.ref rt)])) rfl rfl (hb hby own_d23_61) t (XS.dup X106.here hx rfl (hb hby own_d23_62) rfl rfl (XS.astore X106.here hx rfl (hb hby own_d23_63) rfl rfl (l' := #[rv r1, rv ra, iv (0 : Int32), iv (0 : Int32), rv rt, iv (0 : Int32), iv (34 : Int32), .val .null]) rfl (XS.ifnullYes X106.here hx rfl (pc0 := 65) (pc' := 94) rfl (hb hby own_d23_65) rfl (by decide) (by decide) (XS.iinc X106.here hx rfl (hb hby own_d23_94) rfl (l' := #[rv r1, rv ra, iv (0 : Int32), iv (0 : Int32), rv rt, iv (0 : Int32), iv (36 : Int32), .val .null]) rfl (XS.goto X106.here hx rfl (pc0 := 97) (pc' := 49) rfl (hb hby own_d23_97) (by decide) (by decide) (XS.iload X106.here hx rfl (hb hby own_d23_49) rfl (XS.aload X106.here hx rfl (hb hby own_d23_51) rfl rfl k)))))))) ?_
  obtain ⟨c143, Ar143, -, S143, G143, -, -⟩ := id V2
  refine own_by (g' := (mkF m 54 #[rv r1, rv ra, iv (0 : Int32), iv (0 : Int32), rv rt, iv (0 : Int32), iv (36 : Int32), .val .null] [(.int (64 : Int32)), (.int (36 : Int32))])) (fun t k => X106.arraylength hx (own_at_ e106 Ar143.1) (State.isArrayOf_alike hZ.alike Ar143.2.1) (g := (mkF m 53 #[rv r1, rv ra, iv (0 : Int32), iv (0 : Int32), rv rt, iv (0 : Int32), iv (36 : Int32), .val .null] [(.ref rt), (.int (36 : Int32))])) rfl rfl (hb hby own_d23_53) t (by rw [len_of S143 G143]; exact k)) ?_
  refine own_by (g' := (mkF m 61 #[rv r1, rv ra, iv (0 : Int32), iv (0 : Int32), rv rt, iv (0 : Int32), iv (36 : Int32), .val .null] [(.int (36 : Int32)), (.ref rt)])) (fun t k => XS.icmpNo X106.here hx rfl (hb hby own_d23_54) rfl (tlt (by decide : (36 : Int32) < (64 : Int32))).2.1 (XS.aload X106.here hx rfl (hb hby own_d23_57) rfl rfl (XS.iload X106.here hx rfl (hb hby own_d23_59) rfl k))) ?_
  obtain ⟨c144, Ar144, q144, S144, G144, H144, F144⟩ := id V2
  have hin144 : ¬ ((36 : Int32) < 0 ∨ c144.slots.size ≤ ((36 : Int32)).toNatClampNeg) := inb_of S144 ⟨by decide, by decide⟩
  have hat144 : c144.slots[((36 : Int32)).toNatClampNeg]? = some .null := H144.at hin144 rfl
  refine own_by (g' := (mkF m 53 #[rv r1, rv ra, iv (0 : Int32), iv (0 : Int32), rv rt, iv (0 : Int32), iv (38 : Int32), .val .null] [(.ref rt), (.int (38 : Int32))])) (fun t k => X106.aaload hx (j := (36 : Int32)) (v := .null) (own_at_ e106 Ar144.1) (State.isArrayOf_alike hZ.alike Ar144.2.1) rfl Ar144.2.2 hin144 hat144 (g := (mkF m 61 #[rv r1, rv ra, iv (0 : Int32), iv (0 : Int32), rv rt, iv (0 : Int32), iv (36 : Int32), .val .null] [(.int (36 : Int32)), (.ref rt)])) rfl rfl (hb hby own_d23_61) t (XS.dup X106.here hx rfl (hb hby own_d23_62) rfl rfl (XS.astore X106.here hx rfl (hb hby own_d23_63) rfl rfl (l' := #[rv r1, rv ra, iv (0 : Int32), iv (0 : Int32), rv rt, iv (0 : Int32), iv (36 : Int32), .val .null]) rfl (XS.ifnullYes X106.here hx rfl (pc0 := 65) (pc' := 94) rfl (hb hby own_d23_65) rfl (by decide) (by decide) (XS.iinc X106.here hx rfl (hb hby own_d23_94) rfl (l' := #[rv r1, rv ra, iv (0 : Int32), iv (0 : Int32), rv rt, iv (0 : Int32), iv (38 : Int32), .val .null]) rfl (XS.goto X106.here hx rfl (pc0 := 97) (pc' := 49) rfl (hb hby own_d23_97) (by decide) (by decide) (XS.iload X106.here hx rfl (hb hby own_d23_49) rfl (XS.aload X106.here hx rfl (hb hby own_d23_51) rfl rfl k)))))))) ?_
  obtain ⟨c145, Ar145, -, S145, G145, -, -⟩ := id V2
  refine own_by (g' := (mkF m 54 #[rv r1, rv ra, iv (0 : Int32), iv (0 : Int32), rv rt, iv (0 : Int32), iv (38 : Int32), .val .null] [(.int (64 : Int32)), (.int (38 : Int32))])) (fun t k => X106.arraylength hx (own_at_ e106 Ar145.1) (State.isArrayOf_alike hZ.alike Ar145.2.1) (g := (mkF m 53 #[rv r1, rv ra, iv (0 : Int32), iv (0 : Int32), rv rt, iv (0 : Int32), iv (38 : Int32), .val .null] [(.ref rt), (.int (38 : Int32))])) rfl rfl (hb hby own_d23_53) t (by rw [len_of S145 G145]; exact k)) ?_
  refine own_by (g' := (mkF m 61 #[rv r1, rv ra, iv (0 : Int32), iv (0 : Int32), rv rt, iv (0 : Int32), iv (38 : Int32), .val .null] [(.int (38 : Int32)), (.ref rt)])) (fun t k => XS.icmpNo X106.here hx rfl (hb hby own_d23_54) rfl (tlt (by decide : (38 : Int32) < (64 : Int32))).2.1 (XS.aload X106.here hx rfl (hb hby own_d23_57) rfl rfl (XS.iload X106.here hx rfl (hb hby own_d23_59) rfl k))) ?_
  obtain ⟨c146, Ar146, q146, S146, G146, H146, F146⟩ := id V2
  have hin146 : ¬ ((38 : Int32) < 0 ∨ c146.slots.size ≤ ((38 : Int32)).toNatClampNeg) := inb_of S146 ⟨by decide, by decide⟩
  have hat146 : c146.slots[((38 : Int32)).toNatClampNeg]? = some .null := H146.at hin146 rfl
  refine own_by (g' := (mkF m 53 #[rv r1, rv ra, iv (0 : Int32), iv (0 : Int32), rv rt, iv (0 : Int32), iv (40 : Int32), .val .null] [(.ref rt), (.int (40 : Int32))])) (fun t k => X106.aaload hx (j := (38 : Int32)) (v := .null) (own_at_ e106 Ar146.1) (State.isArrayOf_alike hZ.alike Ar146.2.1) rfl Ar146.2.2 hin146 hat146 (g := (mkF m 61 #[rv r1, rv ra, iv (0 : Int32), iv (0 : Int32), rv rt, iv (0 : Int32), iv (38 : Int32), .val .null] [(.int (38 : Int32)), (.ref rt)])) rfl rfl (hb hby own_d23_61) t (XS.dup X106.here hx rfl (hb hby own_d23_62) rfl rfl (XS.astore X106.here hx rfl (hb hby own_d23_63) rfl rfl (l' := #[rv r1, rv ra, iv (0 : Int32), iv (0 : Int32), rv rt, iv (0 : Int32), iv (38 : Int32), .val .null]) rfl (XS.ifnullYes X106.here hx rfl (pc0 := 65) (pc' := 94) rfl (hb hby own_d23_65) rfl (by decide) (by decide) (XS.iinc X106.here hx rfl (hb hby own_d23_94) rfl (l' := #[rv r1, rv ra, iv (0 : Int32), iv (0 : Int32), rv rt, iv (0 : Int32), iv (40 : Int32), .val .null]) rfl (XS.goto X106.here hx rfl (pc0 := 97) (pc' := 49) rfl (hb hby own_d23_97) (by decide) (by decide) (XS.iload X106.here hx rfl (hb hby own_d23_49) rfl (XS.aload X106.here hx rfl (hb hby own_d23_51) rfl rfl k)))))))) ?_
  obtain ⟨c147, Ar147, -, S147, G147, -, -⟩ := id V2
  refine own_by (g' := (mkF m 54 #[rv r1, rv ra, iv (0 : Int32), iv (0 : Int32), rv rt, iv (0 : Int32), iv (40 : Int32), .val .null] [(.int (64 : Int32)), (.int (40 : Int32))])) (fun t k => X106.arraylength hx (own_at_ e106 Ar147.1) (State.isArrayOf_alike hZ.alike Ar147.2.1) (g := (mkF m 53 #[rv r1, rv ra, iv (0 : Int32), iv (0 : Int32), rv rt, iv (0 : Int32), iv (40 : Int32), .val .null] [(.ref rt), (.int (40 : Int32))])) rfl rfl (hb hby own_d23_53) t (by rw [len_of S147 G147]; exact k)) ?_
  refine own_by (g' := (mkF m 61 #[rv r1, rv ra, iv (0 : Int32), iv (0 : Int32), rv rt, iv (0 : Int32), iv (40 : Int32), .val .null] [(.int (40 : Int32)), (.ref rt)])) (fun t k => XS.icmpNo X106.here hx rfl (hb hby own_d23_54) rfl (tlt (by decide : (40 : Int32) < (64 : Int32))).2.1 (XS.aload X106.here hx rfl (hb hby own_d23_57) rfl rfl (XS.iload X106.here hx rfl (hb hby own_d23_59) rfl k))) ?_
  obtain ⟨c148, Ar148, q148, S148, G148, H148, F148⟩ := id V2
  have hin148 : ¬ ((40 : Int32) < 0 ∨ c148.slots.size ≤ ((40 : Int32)).toNatClampNeg) := inb_of S148 ⟨by decide, by decide⟩
  have hat148 : c148.slots[((40 : Int32)).toNatClampNeg]? = some .null := H148.at hin148 rfl
  refine own_by (g' := (mkF m 53 #[rv r1, rv ra, iv (0 : Int32), iv (0 : Int32), rv rt, iv (0 : Int32), iv (42 : Int32), .val .null] [(.ref rt), (.int (42 : Int32))])) (fun t k => X106.aaload hx (j := (40 : Int32)) (v := .null) (own_at_ e106 Ar148.1) (State.isArrayOf_alike hZ.alike Ar148.2.1) rfl Ar148.2.2 hin148 hat148 (g := (mkF m 61 #[rv r1, rv ra, iv (0 : Int32), iv (0 : Int32), rv rt, iv (0 : Int32), iv (40 : Int32), .val .null] [(.int (40 : Int32)), (.ref rt)])) rfl rfl (hb hby own_d23_61) t (XS.dup X106.here hx rfl (hb hby own_d23_62) rfl rfl (XS.astore X106.here hx rfl (hb hby own_d23_63) rfl rfl (l' := #[rv r1, rv ra, iv (0 : Int32), iv (0 : Int32), rv rt, iv (0 : Int32), iv (40 : Int32), .val .null]) rfl (XS.ifnullYes X106.here hx rfl (pc0 := 65) (pc' := 94) rfl (hb hby own_d23_65) rfl (by decide) (by decide) (XS.iinc X106.here hx rfl (hb hby own_d23_94) rfl (l' := #[rv r1, rv ra, iv (0 : Int32), iv (0 : Int32), rv rt, iv (0 : Int32), iv (42 : Int32), .val .null]) rfl (XS.goto X106.here hx rfl (pc0 := 97) (pc' := 49) rfl (hb hby own_d23_97) (by decide) (by decide) (XS.iload X106.here hx rfl (hb hby own_d23_49) rfl (XS.aload X106.here hx rfl (hb hby own_d23_51) rfl rfl k)))))))) ?_
  obtain ⟨c149, Ar149, -, S149, G149, -, -⟩ := id V2
  refine own_by (g' := (mkF m 54 #[rv r1, rv ra, iv (0 : Int32), iv (0 : Int32), rv rt, iv (0 : Int32), iv (42 : Int32), .val .null] [(.int (64 : Int32)), (.int (42 : Int32))])) (fun t k => X106.arraylength hx (own_at_ e106 Ar149.1) (State.isArrayOf_alike hZ.alike Ar149.2.1) (g := (mkF m 53 #[rv r1, rv ra, iv (0 : Int32), iv (0 : Int32), rv rt, iv (0 : Int32), iv (42 : Int32), .val .null] [(.ref rt), (.int (42 : Int32))])) rfl rfl (hb hby own_d23_53) t (by rw [len_of S149 G149]; exact k)) ?_
  refine own_by (g' := (mkF m 61 #[rv r1, rv ra, iv (0 : Int32), iv (0 : Int32), rv rt, iv (0 : Int32), iv (42 : Int32), .val .null] [(.int (42 : Int32)), (.ref rt)])) (fun t k => XS.icmpNo X106.here hx rfl (hb hby own_d23_54) rfl (tlt (by decide : (42 : Int32) < (64 : Int32))).2.1 (XS.aload X106.here hx rfl (hb hby own_d23_57) rfl rfl (XS.iload X106.here hx rfl (hb hby own_d23_59) rfl k))) ?_
  obtain ⟨c150, Ar150, q150, S150, G150, H150, F150⟩ := id V2
  have hin150 : ¬ ((42 : Int32) < 0 ∨ c150.slots.size ≤ ((42 : Int32)).toNatClampNeg) := inb_of S150 ⟨by decide, by decide⟩
  have hat150 : c150.slots[((42 : Int32)).toNatClampNeg]? = some .null := H150.at hin150 rfl
  refine own_by (g' := (mkF m 53 #[rv r1, rv ra, iv (0 : Int32), iv (0 : Int32), rv rt, iv (0 : Int32), iv (44 : Int32), .val .null] [(.ref rt), (.int (44 : Int32))])) (fun t k => X106.aaload hx (j := (42 : Int32)) (v := .null) (own_at_ e106 Ar150.1) (State.isArrayOf_alike hZ.alike Ar150.2.1) rfl Ar150.2.2 hin150 hat150 (g := (mkF m 61 #[rv r1, rv ra, iv (0 : Int32), iv (0 : Int32), rv rt, iv (0 : Int32), iv (42 : Int32), .val .null] [(.int (42 : Int32)), (.ref rt)])) rfl rfl (hb hby own_d23_61) t (XS.dup X106.here hx rfl (hb hby own_d23_62) rfl rfl (XS.astore X106.here hx rfl (hb hby own_d23_63) rfl rfl (l' := #[rv r1, rv ra, iv (0 : Int32), iv (0 : Int32), rv rt, iv (0 : Int32), iv (42 : Int32), .val .null]) rfl (XS.ifnullYes X106.here hx rfl (pc0 := 65) (pc' := 94) rfl (hb hby own_d23_65) rfl (by decide) (by decide) (XS.iinc X106.here hx rfl (hb hby own_d23_94) rfl (l' := #[rv r1, rv ra, iv (0 : Int32), iv (0 : Int32), rv rt, iv (0 : Int32), iv (44 : Int32), .val .null]) rfl (XS.goto X106.here hx rfl (pc0 := 97) (pc' := 49) rfl (hb hby own_d23_97) (by decide) (by decide) (XS.iload X106.here hx rfl (hb hby own_d23_49) rfl (XS.aload X106.here hx rfl (hb hby own_d23_51) rfl rfl k)))))))) ?_
  obtain ⟨c151, Ar151, -, S151, G151, -, -⟩ := id V2
  refine own_by (g' := (mkF m 54 #[rv r1, rv ra, iv (0 : Int32), iv (0 : Int32), rv rt, iv (0 : Int32), iv (44 : Int32), .val .null] [(.int (64 : Int32)), (.int (44 : Int32))])) (fun t k => X106.arraylength hx (own_at_ e106 Ar151.1) (State.isArrayOf_alike hZ.alike Ar151.2.1) (g := (mkF m 53 #[rv r1, rv ra, iv (0 : Int32), iv (0 : Int32), rv rt, iv (0 : Int32), iv (44 : Int32), .val .null] [(.ref rt), (.int (44 : Int32))])) rfl rfl (hb hby own_d23_53) t (by rw [len_of S151 G151]; exact k)) ?_
  refine own_by (g' := (mkF m 61 #[rv r1, rv ra, iv (0 : Int32), iv (0 : Int32), rv rt, iv (0 : Int32), iv (44 : Int32), .val .null] [(.int (44 : Int32)), (.ref rt)])) (fun t k => XS.icmpNo X106.here hx rfl (hb hby own_d23_54) rfl (tlt (by decide : (44 : Int32) < (64 : Int32))).2.1 (XS.aload X106.here hx rfl (hb hby own_d23_57) rfl rfl (XS.iload X106.here hx rfl (hb hby own_d23_59) rfl k))) ?_
  obtain ⟨c152, Ar152, q152, S152, G152, H152, F152⟩ := id V2
  have hin152 : ¬ ((44 : Int32) < 0 ∨ c152.slots.size ≤ ((44 : Int32)).toNatClampNeg) := inb_of S152 ⟨by decide, by decide⟩
  have hat152 : c152.slots[((44 : Int32)).toNatClampNeg]? = some .null := H152.at hin152 rfl
  refine own_by (g' := (mkF m 53 #[rv r1, rv ra, iv (0 : Int32), iv (0 : Int32), rv rt, iv (0 : Int32), iv (46 : Int32), .val .null] [(.ref rt), (.int (46 : Int32))])) (fun t k => X106.aaload hx (j := (44 : Int32)) (v := .null) (own_at_ e106 Ar152.1) (State.isArrayOf_alike hZ.alike Ar152.2.1) rfl Ar152.2.2 hin152 hat152 (g := (mkF m 61 #[rv r1, rv ra, iv (0 : Int32), iv (0 : Int32), rv rt, iv (0 : Int32), iv (44 : Int32), .val .null] [(.int (44 : Int32)), (.ref rt)])) rfl rfl (hb hby own_d23_61) t (XS.dup X106.here hx rfl (hb hby own_d23_62) rfl rfl (XS.astore X106.here hx rfl (hb hby own_d23_63) rfl rfl (l' := #[rv r1, rv ra, iv (0 : Int32), iv (0 : Int32), rv rt, iv (0 : Int32), iv (44 : Int32), .val .null]) rfl (XS.ifnullYes X106.here hx rfl (pc0 := 65) (pc' := 94) rfl (hb hby own_d23_65) rfl (by decide) (by decide) (XS.iinc X106.here hx rfl (hb hby own_d23_94) rfl (l' := #[rv r1, rv ra, iv (0 : Int32), iv (0 : Int32), rv rt, iv (0 : Int32), iv (46 : Int32), .val .null]) rfl (XS.goto X106.here hx rfl (pc0 := 97) (pc' := 49) rfl (hb hby own_d23_97) (by decide) (by decide) (XS.iload X106.here hx rfl (hb hby own_d23_49) rfl (XS.aload X106.here hx rfl (hb hby own_d23_51) rfl rfl k)))))))) ?_
  obtain ⟨c153, Ar153, -, S153, G153, -, -⟩ := id V2
  refine own_by (g' := (mkF m 54 #[rv r1, rv ra, iv (0 : Int32), iv (0 : Int32), rv rt, iv (0 : Int32), iv (46 : Int32), .val .null] [(.int (64 : Int32)), (.int (46 : Int32))])) (fun t k => X106.arraylength hx (own_at_ e106 Ar153.1) (State.isArrayOf_alike hZ.alike Ar153.2.1) (g := (mkF m 53 #[rv r1, rv ra, iv (0 : Int32), iv (0 : Int32), rv rt, iv (0 : Int32), iv (46 : Int32), .val .null] [(.ref rt), (.int (46 : Int32))])) rfl rfl (hb hby own_d23_53) t (by rw [len_of S153 G153]; exact k)) ?_
  refine own_by (g' := (mkF m 61 #[rv r1, rv ra, iv (0 : Int32), iv (0 : Int32), rv rt, iv (0 : Int32), iv (46 : Int32), .val .null] [(.int (46 : Int32)), (.ref rt)])) (fun t k => XS.icmpNo X106.here hx rfl (hb hby own_d23_54) rfl (tlt (by decide : (46 : Int32) < (64 : Int32))).2.1 (XS.aload X106.here hx rfl (hb hby own_d23_57) rfl rfl (XS.iload X106.here hx rfl (hb hby own_d23_59) rfl k))) ?_
  obtain ⟨c154, Ar154, q154, S154, G154, H154, F154⟩ := id V2
  have hin154 : ¬ ((46 : Int32) < 0 ∨ c154.slots.size ≤ ((46 : Int32)).toNatClampNeg) := inb_of S154 ⟨by decide, by decide⟩
  have hat154 : c154.slots[((46 : Int32)).toNatClampNeg]? = some .null := H154.at hin154 rfl
  refine own_by (g' := (mkF m 53 #[rv r1, rv ra, iv (0 : Int32), iv (0 : Int32), rv rt, iv (0 : Int32), iv (48 : Int32), .val .null] [(.ref rt), (.int (48 : Int32))])) (fun t k => X106.aaload hx (j := (46 : Int32)) (v := .null) (own_at_ e106 Ar154.1) (State.isArrayOf_alike hZ.alike Ar154.2.1) rfl Ar154.2.2 hin154 hat154 (g := (mkF m 61 #[rv r1, rv ra, iv (0 : Int32), iv (0 : Int32), rv rt, iv (0 : Int32), iv (46 : Int32), .val .null] [(.int (46 : Int32)), (.ref rt)])) rfl rfl (hb hby own_d23_61) t (XS.dup X106.here hx rfl (hb hby own_d23_62) rfl rfl (XS.astore X106.here hx rfl (hb hby own_d23_63) rfl rfl (l' := #[rv r1, rv ra, iv (0 : Int32), iv (0 : Int32), rv rt, iv (0 : Int32), iv (46 : Int32), .val .null]) rfl (XS.ifnullYes X106.here hx rfl (pc0 := 65) (pc' := 94) rfl (hb hby own_d23_65) rfl (by decide) (by decide) (XS.iinc X106.here hx rfl (hb hby own_d23_94) rfl (l' := #[rv r1, rv ra, iv (0 : Int32), iv (0 : Int32), rv rt, iv (0 : Int32), iv (48 : Int32), .val .null]) rfl (XS.goto X106.here hx rfl (pc0 := 97) (pc' := 49) rfl (hb hby own_d23_97) (by decide) (by decide) (XS.iload X106.here hx rfl (hb hby own_d23_49) rfl (XS.aload X106.here hx rfl (hb hby own_d23_51) rfl rfl k)))))))) ?_
  obtain ⟨c155, Ar155, -, S155, G155, -, -⟩ := id V2
  refine own_by (g' := (mkF m 54 #[rv r1, rv ra, iv (0 : Int32), iv (0 : Int32), rv rt, iv (0 : Int32), iv (48 : Int32), .val .null] [(.int (64 : Int32)), (.int (48 : Int32))])) (fun t k => X106.arraylength hx (own_at_ e106 Ar155.1) (State.isArrayOf_alike hZ.alike Ar155.2.1) (g := (mkF m 53 #[rv r1, rv ra, iv (0 : Int32), iv (0 : Int32), rv rt, iv (0 : Int32), iv (48 : Int32), .val .null] [(.ref rt), (.int (48 : Int32))])) rfl rfl (hb hby own_d23_53) t (by rw [len_of S155 G155]; exact k)) ?_
  refine own_by (g' := (mkF m 61 #[rv r1, rv ra, iv (0 : Int32), iv (0 : Int32), rv rt, iv (0 : Int32), iv (48 : Int32), .val .null] [(.int (48 : Int32)), (.ref rt)])) (fun t k => XS.icmpNo X106.here hx rfl (hb hby own_d23_54) rfl (tlt (by decide : (48 : Int32) < (64 : Int32))).2.1 (XS.aload X106.here hx rfl (hb hby own_d23_57) rfl rfl (XS.iload X106.here hx rfl (hb hby own_d23_59) rfl k))) ?_
  obtain ⟨c156, Ar156, q156, S156, G156, H156, F156⟩ := id V2
  have hin156 : ¬ ((48 : Int32) < 0 ∨ c156.slots.size ≤ ((48 : Int32)).toNatClampNeg) := inb_of S156 ⟨by decide, by decide⟩
  have hat156 : c156.slots[((48 : Int32)).toNatClampNeg]? = some .null := H156.at hin156 rfl
  refine own_by (g' := (mkF m 53 #[rv r1, rv ra, iv (0 : Int32), iv (0 : Int32), rv rt, iv (0 : Int32), iv (50 : Int32), .val .null] [(.ref rt), (.int (50 : Int32))])) (fun t k => X106.aaload hx (j := (48 : Int32)) (v := .null) (own_at_ e106 Ar156.1) (State.isArrayOf_alike hZ.alike Ar156.2.1) rfl Ar156.2.2 hin156 hat156 (g := (mkF m 61 #[rv r1, rv ra, iv (0 : Int32), iv (0 : Int32), rv rt, iv (0 : Int32), iv (48 : Int32), .val .null] [(.int (48 : Int32)), (.ref rt)])) rfl rfl (hb hby own_d23_61) t (XS.dup X106.here hx rfl (hb hby own_d23_62) rfl rfl (XS.astore X106.here hx rfl (hb hby own_d23_63) rfl rfl (l' := #[rv r1, rv ra, iv (0 : Int32), iv (0 : Int32), rv rt, iv (0 : Int32), iv (48 : Int32), .val .null]) rfl (XS.ifnullYes X106.here hx rfl (pc0 := 65) (pc' := 94) rfl (hb hby own_d23_65) rfl (by decide) (by decide) (XS.iinc X106.here hx rfl (hb hby own_d23_94) rfl (l' := #[rv r1, rv ra, iv (0 : Int32), iv (0 : Int32), rv rt, iv (0 : Int32), iv (50 : Int32), .val .null]) rfl (XS.goto X106.here hx rfl (pc0 := 97) (pc' := 49) rfl (hb hby own_d23_97) (by decide) (by decide) (XS.iload X106.here hx rfl (hb hby own_d23_49) rfl (XS.aload X106.here hx rfl (hb hby own_d23_51) rfl rfl k)))))))) ?_
  obtain ⟨c157, Ar157, -, S157, G157, -, -⟩ := id V2
  refine own_by (g' := (mkF m 54 #[rv r1, rv ra, iv (0 : Int32), iv (0 : Int32), rv rt, iv (0 : Int32), iv (50 : Int32), .val .null] [(.int (64 : Int32)), (.int (50 : Int32))])) (fun t k => X106.arraylength hx (own_at_ e106 Ar157.1) (State.isArrayOf_alike hZ.alike Ar157.2.1) (g := (mkF m 53 #[rv r1, rv ra, iv (0 : Int32), iv (0 : Int32), rv rt, iv (0 : Int32), iv (50 : Int32), .val .null] [(.ref rt), (.int (50 : Int32))])) rfl rfl (hb hby own_d23_53) t (by rw [len_of S157 G157]; exact k)) ?_
  refine own_by (g' := (mkF m 61 #[rv r1, rv ra, iv (0 : Int32), iv (0 : Int32), rv rt, iv (0 : Int32), iv (50 : Int32), .val .null] [(.int (50 : Int32)), (.ref rt)])) (fun t k => XS.icmpNo X106.here hx rfl (hb hby own_d23_54) rfl (tlt (by decide : (50 : Int32) < (64 : Int32))).2.1 (XS.aload X106.here hx rfl (hb hby own_d23_57) rfl rfl (XS.iload X106.here hx rfl (hb hby own_d23_59) rfl k))) ?_
  obtain ⟨c158, Ar158, q158, S158, G158, H158, F158⟩ := id V2
  have hin158 : ¬ ((50 : Int32) < 0 ∨ c158.slots.size ≤ ((50 : Int32)).toNatClampNeg) := inb_of S158 ⟨by decide, by decide⟩
  have hat158 : c158.slots[((50 : Int32)).toNatClampNeg]? = some .null := H158.at hin158 rfl
  refine own_by (g' := (mkF m 53 #[rv r1, rv ra, iv (0 : Int32), iv (0 : Int32), rv rt, iv (0 : Int32), iv (52 : Int32), .val .null] [(.ref rt), (.int (52 : Int32))])) (fun t k => X106.aaload hx (j := (50 : Int32)) (v := .null) (own_at_ e106 Ar158.1) (State.isArrayOf_alike hZ.alike Ar158.2.1) rfl Ar158.2.2 hin158 hat158 (g := (mkF m 61 #[rv r1, rv ra, iv (0 : Int32), iv (0 : Int32), rv rt, iv (0 : Int32), iv (50 : Int32), .val .null] [(.int (50 : Int32)), (.ref rt)])) rfl rfl (hb hby own_d23_61) t (XS.dup X106.here hx rfl (hb hby own_d23_62) rfl rfl (XS.astore X106.here hx rfl (hb hby own_d23_63) rfl rfl (l' := #[rv r1, rv ra, iv (0 : Int32), iv (0 : Int32), rv rt, iv (0 : Int32), iv (50 : Int32), .val .null]) rfl (XS.ifnullYes X106.here hx rfl (pc0 := 65) (pc' := 94) rfl (hb hby own_d23_65) rfl (by decide) (by decide) (XS.iinc X106.here hx rfl (hb hby own_d23_94) rfl (l' := #[rv r1, rv ra, iv (0 : Int32), iv (0 : Int32), rv rt, iv (0 : Int32), iv (52 : Int32), .val .null]) rfl (XS.goto X106.here hx rfl (pc0 := 97) (pc' := 49) rfl (hb hby own_d23_97) (by decide) (by decide) (XS.iload X106.here hx rfl (hb hby own_d23_49) rfl (XS.aload X106.here hx rfl (hb hby own_d23_51) rfl rfl k)))))))) ?_
  obtain ⟨c159, Ar159, -, S159, G159, -, -⟩ := id V2
  refine own_by (g' := (mkF m 54 #[rv r1, rv ra, iv (0 : Int32), iv (0 : Int32), rv rt, iv (0 : Int32), iv (52 : Int32), .val .null] [(.int (64 : Int32)), (.int (52 : Int32))])) (fun t k => X106.arraylength hx (own_at_ e106 Ar159.1) (State.isArrayOf_alike hZ.alike Ar159.2.1) (g := (mkF m 53 #[rv r1, rv ra, iv (0 : Int32), iv (0 : Int32), rv rt, iv (0 : Int32), iv (52 : Int32), .val .null] [(.ref rt), (.int (52 : Int32))])) rfl rfl (hb hby own_d23_53) t (by rw [len_of S159 G159]; exact k)) ?_
  refine own_by (g' := (mkF m 61 #[rv r1, rv ra, iv (0 : Int32), iv (0 : Int32), rv rt, iv (0 : Int32), iv (52 : Int32), .val .null] [(.int (52 : Int32)), (.ref rt)])) (fun t k => XS.icmpNo X106.here hx rfl (hb hby own_d23_54) rfl (tlt (by decide : (52 : Int32) < (64 : Int32))).2.1 (XS.aload X106.here hx rfl (hb hby own_d23_57) rfl rfl (XS.iload X106.here hx rfl (hb hby own_d23_59) rfl k))) ?_
  obtain ⟨c160, Ar160, q160, S160, G160, H160, F160⟩ := id V2
  have hin160 : ¬ ((52 : Int32) < 0 ∨ c160.slots.size ≤ ((52 : Int32)).toNatClampNeg) := inb_of S160 ⟨by decide, by decide⟩
  have hat160 : c160.slots[((52 : Int32)).toNatClampNeg]? = some .null := H160.at hin160 rfl
  refine own_by (g' := (mkF m 53 #[rv r1, rv ra, iv (0 : Int32), iv (0 : Int32), rv rt, iv (0 : Int32), iv (54 : Int32), .val .null] [(.ref rt), (.int (54 : Int32))])) (fun t k => X106.aaload hx (j := (52 : Int32)) (v := .null) (own_at_ e106 Ar160.1) (State.isArrayOf_alike hZ.alike Ar160.2.1) rfl Ar160.2.2 hin160 hat160 (g := (mkF m 61 #[rv r1, rv ra, iv (0 : Int32), iv (0 : Int32), rv rt, iv (0 : Int32), iv (52 : Int32), .val .null] [(.int (52 : Int32)), (.ref rt)])) rfl rfl (hb hby own_d23_61) t (XS.dup X106.here hx rfl (hb hby own_d23_62) rfl rfl (XS.astore X106.here hx rfl (hb hby own_d23_63) rfl rfl (l' := #[rv r1, rv ra, iv (0 : Int32), iv (0 : Int32), rv rt, iv (0 : Int32), iv (52 : Int32), .val .null]) rfl (XS.ifnullYes X106.here hx rfl (pc0 := 65) (pc' := 94) rfl (hb hby own_d23_65) rfl (by decide) (by decide) (XS.iinc X106.here hx rfl (hb hby own_d23_94) rfl (l' := #[rv r1, rv ra, iv (0 : Int32), iv (0 : Int32), rv rt, iv (0 : Int32), iv (54 : Int32), .val .null]) rfl (XS.goto X106.here hx rfl (pc0 := 97) (pc' := 49) rfl (hb hby own_d23_97) (by decide) (by decide) (XS.iload X106.here hx rfl (hb hby own_d23_49) rfl (XS.aload X106.here hx rfl (hb hby own_d23_51) rfl rfl k)))))))) ?_
  obtain ⟨c161, Ar161, -, S161, G161, -, -⟩ := id V2
  refine own_by (g' := (mkF m 54 #[rv r1, rv ra, iv (0 : Int32), iv (0 : Int32), rv rt, iv (0 : Int32), iv (54 : Int32), .val .null] [(.int (64 : Int32)), (.int (54 : Int32))])) (fun t k => X106.arraylength hx (own_at_ e106 Ar161.1) (State.isArrayOf_alike hZ.alike Ar161.2.1) (g := (mkF m 53 #[rv r1, rv ra, iv (0 : Int32), iv (0 : Int32), rv rt, iv (0 : Int32), iv (54 : Int32), .val .null] [(.ref rt), (.int (54 : Int32))])) rfl rfl (hb hby own_d23_53) t (by rw [len_of S161 G161]; exact k)) ?_
  refine own_by (g' := (mkF m 61 #[rv r1, rv ra, iv (0 : Int32), iv (0 : Int32), rv rt, iv (0 : Int32), iv (54 : Int32), .val .null] [(.int (54 : Int32)), (.ref rt)])) (fun t k => XS.icmpNo X106.here hx rfl (hb hby own_d23_54) rfl (tlt (by decide : (54 : Int32) < (64 : Int32))).2.1 (XS.aload X106.here hx rfl (hb hby own_d23_57) rfl rfl (XS.iload X106.here hx rfl (hb hby own_d23_59) rfl k))) ?_
  obtain ⟨c162, Ar162, q162, S162, G162, H162, F162⟩ := id V2
  have hin162 : ¬ ((54 : Int32) < 0 ∨ c162.slots.size ≤ ((54 : Int32)).toNatClampNeg) := inb_of S162 ⟨by decide, by decide⟩
  have hat162 : c162.slots[((54 : Int32)).toNatClampNeg]? = some .null := H162.at hin162 rfl
  refine own_by (g' := (mkF m 53 #[rv r1, rv ra, iv (0 : Int32), iv (0 : Int32), rv rt, iv (0 : Int32), iv (56 : Int32), .val .null] [(.ref rt), (.int (56 : Int32))])) (fun t k => X106.aaload hx (j := (54 : Int32)) (v := .null) (own_at_ e106 Ar162.1) (State.isArrayOf_alike hZ.alike Ar162.2.1) rfl Ar162.2.2 hin162 hat162 (g := (mkF m 61 #[rv r1, rv ra, iv (0 : Int32), iv (0 : Int32), rv rt, iv (0 : Int32), iv (54 : Int32), .val .null] [(.int (54 : Int32)), (.ref rt)])) rfl rfl (hb hby own_d23_61) t (XS.dup X106.here hx rfl (hb hby own_d23_62) rfl rfl (XS.astore X106.here hx rfl (hb hby own_d23_63) rfl rfl (l' := #[rv r1, rv ra, iv (0 : Int32), iv (0 : Int32), rv rt, iv (0 : Int32), iv (54 : Int32), .val .null]) rfl (XS.ifnullYes X106.here hx rfl (pc0 := 65) (pc' := 94) rfl (hb hby own_d23_65) rfl (by decide) (by decide) (XS.iinc X106.here hx rfl (hb hby own_d23_94) rfl (l' := #[rv r1, rv ra, iv (0 : Int32), iv (0 : Int32), rv rt, iv (0 : Int32), iv (56 : Int32), .val .null]) rfl (XS.goto X106.here hx rfl (pc0 := 97) (pc' := 49) rfl (hb hby own_d23_97) (by decide) (by decide) (XS.iload X106.here hx rfl (hb hby own_d23_49) rfl (XS.aload X106.here hx rfl (hb hby own_d23_51) rfl rfl k)))))))) ?_
  obtain ⟨c163, Ar163, -, S163, G163, -, -⟩ := id V2
  refine own_by (g' := (mkF m 54 #[rv r1, rv ra, iv (0 : Int32), iv (0 : Int32), rv rt, iv (0 : Int32), iv (56 : Int32), .val .null] [(.int (64 : Int32)), (.int (56 : Int32))])) (fun t k => X106.arraylength hx (own_at_ e106 Ar163.1) (State.isArrayOf_alike hZ.alike Ar163.2.1) (g := (mkF m 53 #[rv r1, rv ra, iv (0 : Int32), iv (0 : Int32), rv rt, iv (0 : Int32), iv (56 : Int32), .val .null] [(.ref rt), (.int (56 : Int32))])) rfl rfl (hb hby own_d23_53) t (by rw [len_of S163 G163]; exact k)) ?_
  refine own_by (g' := (mkF m 61 #[rv r1, rv ra, iv (0 : Int32), iv (0 : Int32), rv rt, iv (0 : Int32), iv (56 : Int32), .val .null] [(.int (56 : Int32)), (.ref rt)])) (fun t k => XS.icmpNo X106.here hx rfl (hb hby own_d23_54) rfl (tlt (by decide : (56 : Int32) < (64 : Int32))).2.1 (XS.aload X106.here hx rfl (hb hby own_d23_57) rfl rfl (XS.iload X106.here hx rfl (hb hby own_d23_59) rfl k))) ?_
  obtain ⟨c164, Ar164, q164, S164, G164, H164, F164⟩ := id V2
  have hin164 : ¬ ((56 : Int32) < 0 ∨ c164.slots.size ≤ ((56 : Int32)).toNatClampNeg) := inb_of S164 ⟨by decide, by decide⟩
  have hat164 : c164.slots[((56 : Int32)).toNatClampNeg]? = some .null := H164.at hin164 rfl
  refine own_by (g' := (mkF m 53 #[rv r1, rv ra, iv (0 : Int32), iv (0 : Int32), rv rt, iv (0 : Int32), iv (58 : Int32), .val .null] [(.ref rt), (.int (58 : Int32))])) (fun t k => X106.aaload hx (j := (56 : Int32)) (v := .null) (own_at_ e106 Ar164.1) (State.isArrayOf_alike hZ.alike Ar164.2.1) rfl Ar164.2.2 hin164 hat164 (g := (mkF m 61 #[rv r1, rv ra, iv (0 : Int32), iv (0 : Int32), rv rt, iv (0 : Int32), iv (56 : Int32), .val .null] [(.int (56 : Int32)), (.ref rt)])) rfl rfl (hb hby own_d23_61) t (XS.dup X106.here hx rfl (hb hby own_d23_62) rfl rfl (XS.astore X106.here hx rfl (hb hby own_d23_63) rfl rfl (l' := #[rv r1, rv ra, iv (0 : Int32), iv (0 : Int32), rv rt, iv (0 : Int32), iv (56 : Int32), .val .null]) rfl (XS.ifnullYes X106.here hx rfl (pc0 := 65) (pc' := 94) rfl (hb hby own_d23_65) rfl (by decide) (by decide) (XS.iinc X106.here hx rfl (hb hby own_d23_94) rfl (l' := #[rv r1, rv ra, iv (0 : Int32), iv (0 : Int32), rv rt, iv (0 : Int32), iv (58 : Int32), .val .null]) rfl (XS.goto X106.here hx rfl (pc0 := 97) (pc' := 49) rfl (hb hby own_d23_97) (by decide) (by decide) (XS.iload X106.here hx rfl (hb hby own_d23_49) rfl (XS.aload X106.here hx rfl (hb hby own_d23_51) rfl rfl k)))))))) ?_
  obtain ⟨c165, Ar165, -, S165, G165, -, -⟩ := id V2
  refine own_by (g' := (mkF m 54 #[rv r1, rv ra, iv (0 : Int32), iv (0 : Int32), rv rt, iv (0 : Int32), iv (58 : Int32), .val .null] [(.int (64 : Int32)), (.int (58 : Int32))])) (fun t k => X106.arraylength hx (own_at_ e106 Ar165.1) (State.isArrayOf_alike hZ.alike Ar165.2.1) (g := (mkF m 53 #[rv r1, rv ra, iv (0 : Int32), iv (0 : Int32), rv rt, iv (0 : Int32), iv (58 : Int32), .val .null] [(.ref rt), (.int (58 : Int32))])) rfl rfl (hb hby own_d23_53) t (by rw [len_of S165 G165]; exact k)) ?_
  refine own_by (g' := (mkF m 61 #[rv r1, rv ra, iv (0 : Int32), iv (0 : Int32), rv rt, iv (0 : Int32), iv (58 : Int32), .val .null] [(.int (58 : Int32)), (.ref rt)])) (fun t k => XS.icmpNo X106.here hx rfl (hb hby own_d23_54) rfl (tlt (by decide : (58 : Int32) < (64 : Int32))).2.1 (XS.aload X106.here hx rfl (hb hby own_d23_57) rfl rfl (XS.iload X106.here hx rfl (hb hby own_d23_59) rfl k))) ?_
  obtain ⟨c166, Ar166, q166, S166, G166, H166, F166⟩ := id V2
  have hin166 : ¬ ((58 : Int32) < 0 ∨ c166.slots.size ≤ ((58 : Int32)).toNatClampNeg) := inb_of S166 ⟨by decide, by decide⟩
  have hat166 : c166.slots[((58 : Int32)).toNatClampNeg]? = some .null := H166.at hin166 rfl
  refine own_by (g' := (mkF m 53 #[rv r1, rv ra, iv (0 : Int32), iv (0 : Int32), rv rt, iv (0 : Int32), iv (60 : Int32), .val .null] [(.ref rt), (.int (60 : Int32))])) (fun t k => X106.aaload hx (j := (58 : Int32)) (v := .null) (own_at_ e106 Ar166.1) (State.isArrayOf_alike hZ.alike Ar166.2.1) rfl Ar166.2.2 hin166 hat166 (g := (mkF m 61 #[rv r1, rv ra, iv (0 : Int32), iv (0 : Int32), rv rt, iv (0 : Int32), iv (58 : Int32), .val .null] [(.int (58 : Int32)), (.ref rt)])) rfl rfl (hb hby own_d23_61) t (XS.dup X106.here hx rfl (hb hby own_d23_62) rfl rfl (XS.astore X106.here hx rfl (hb hby own_d23_63) rfl rfl (l' := #[rv r1, rv ra, iv (0 : Int32), iv (0 : Int32), rv rt, iv (0 : Int32), iv (58 : Int32), .val .null]) rfl (XS.ifnullYes X106.here hx rfl (pc0 := 65) (pc' := 94) rfl (hb hby own_d23_65) rfl (by decide) (by decide) (XS.iinc X106.here hx rfl (hb hby own_d23_94) rfl (l' := #[rv r1, rv ra, iv (0 : Int32), iv (0 : Int32), rv rt, iv (0 : Int32), iv (60 : Int32), .val .null]) rfl (XS.goto X106.here hx rfl (pc0 := 97) (pc' := 49) rfl (hb hby own_d23_97) (by decide) (by decide) (XS.iload X106.here hx rfl (hb hby own_d23_49) rfl (XS.aload X106.here hx rfl (hb hby own_d23_51) rfl rfl k)))))))) ?_
  obtain ⟨c167, Ar167, -, S167, G167, -, -⟩ := id V2
  refine own_by (g' := (mkF m 54 #[rv r1, rv ra, iv (0 : Int32), iv (0 : Int32), rv rt, iv (0 : Int32), iv (60 : Int32), .val .null] [(.int (64 : Int32)), (.int (60 : Int32))])) (fun t k => X106.arraylength hx (own_at_ e106 Ar167.1) (State.isArrayOf_alike hZ.alike Ar167.2.1) (g := (mkF m 53 #[rv r1, rv ra, iv (0 : Int32), iv (0 : Int32), rv rt, iv (0 : Int32), iv (60 : Int32), .val .null] [(.ref rt), (.int (60 : Int32))])) rfl rfl (hb hby own_d23_53) t (by rw [len_of S167 G167]; exact k)) ?_
  refine own_by (g' := (mkF m 61 #[rv r1, rv ra, iv (0 : Int32), iv (0 : Int32), rv rt, iv (0 : Int32), iv (60 : Int32), .val .null] [(.int (60 : Int32)), (.ref rt)])) (fun t k => XS.icmpNo X106.here hx rfl (hb hby own_d23_54) rfl (tlt (by decide : (60 : Int32) < (64 : Int32))).2.1 (XS.aload X106.here hx rfl (hb hby own_d23_57) rfl rfl (XS.iload X106.here hx rfl (hb hby own_d23_59) rfl k))) ?_
  obtain ⟨c168, Ar168, q168, S168, G168, H168, F168⟩ := id V2
  have hin168 : ¬ ((60 : Int32) < 0 ∨ c168.slots.size ≤ ((60 : Int32)).toNatClampNeg) := inb_of S168 ⟨by decide, by decide⟩
  have hat168 : c168.slots[((60 : Int32)).toNatClampNeg]? = some .null := H168.at hin168 rfl
  refine own_by (g' := (mkF m 53 #[rv r1, rv ra, iv (0 : Int32), iv (0 : Int32), rv rt, iv (0 : Int32), iv (62 : Int32), .val .null] [(.ref rt), (.int (62 : Int32))])) (fun t k => X106.aaload hx (j := (60 : Int32)) (v := .null) (own_at_ e106 Ar168.1) (State.isArrayOf_alike hZ.alike Ar168.2.1) rfl Ar168.2.2 hin168 hat168 (g := (mkF m 61 #[rv r1, rv ra, iv (0 : Int32), iv (0 : Int32), rv rt, iv (0 : Int32), iv (60 : Int32), .val .null] [(.int (60 : Int32)), (.ref rt)])) rfl rfl (hb hby own_d23_61) t (XS.dup X106.here hx rfl (hb hby own_d23_62) rfl rfl (XS.astore X106.here hx rfl (hb hby own_d23_63) rfl rfl (l' := #[rv r1, rv ra, iv (0 : Int32), iv (0 : Int32), rv rt, iv (0 : Int32), iv (60 : Int32), .val .null]) rfl (XS.ifnullYes X106.here hx rfl (pc0 := 65) (pc' := 94) rfl (hb hby own_d23_65) rfl (by decide) (by decide) (XS.iinc X106.here hx rfl (hb hby own_d23_94) rfl (l' := #[rv r1, rv ra, iv (0 : Int32), iv (0 : Int32), rv rt, iv (0 : Int32), iv (62 : Int32), .val .null]) rfl (XS.goto X106.here hx rfl (pc0 := 97) (pc' := 49) rfl (hb hby own_d23_97) (by decide) (by decide) (XS.iload X106.here hx rfl (hb hby own_d23_49) rfl (XS.aload X106.here hx rfl (hb hby own_d23_51) rfl rfl k)))))))) ?_
  obtain ⟨c169, Ar169, -, S169, G169, -, -⟩ := id V2
  refine own_by (g' := (mkF m 54 #[rv r1, rv ra, iv (0 : Int32), iv (0 : Int32), rv rt, iv (0 : Int32), iv (62 : Int32), .val .null] [(.int (64 : Int32)), (.int (62 : Int32))])) (fun t k => X106.arraylength hx (own_at_ e106 Ar169.1) (State.isArrayOf_alike hZ.alike Ar169.2.1) (g := (mkF m 53 #[rv r1, rv ra, iv (0 : Int32), iv (0 : Int32), rv rt, iv (0 : Int32), iv (62 : Int32), .val .null] [(.ref rt), (.int (62 : Int32))])) rfl rfl (hb hby own_d23_53) t (by rw [len_of S169 G169]; exact k)) ?_
  refine own_by (g' := (mkF m 61 #[rv r1, rv ra, iv (0 : Int32), iv (0 : Int32), rv rt, iv (0 : Int32), iv (62 : Int32), .val .null] [(.int (62 : Int32)), (.ref rt)])) (fun t k => XS.icmpNo X106.here hx rfl (hb hby own_d23_54) rfl (tlt (by decide : (62 : Int32) < (64 : Int32))).2.1 (XS.aload X106.here hx rfl (hb hby own_d23_57) rfl rfl (XS.iload X106.here hx rfl (hb hby own_d23_59) rfl k))) ?_
  obtain ⟨c170, Ar170, q170, S170, G170, H170, F170⟩ := id V2
  have hin170 : ¬ ((62 : Int32) < 0 ∨ c170.slots.size ≤ ((62 : Int32)).toNatClampNeg) := inb_of S170 ⟨by decide, by decide⟩
  have hat170 : c170.slots[((62 : Int32)).toNatClampNeg]? = some .null := H170.at hin170 rfl
  refine own_by (g' := (mkF m 53 #[rv r1, rv ra, iv (0 : Int32), iv (0 : Int32), rv rt, iv (0 : Int32), iv (64 : Int32), .val .null] [(.ref rt), (.int (64 : Int32))])) (fun t k => X106.aaload hx (j := (62 : Int32)) (v := .null) (own_at_ e106 Ar170.1) (State.isArrayOf_alike hZ.alike Ar170.2.1) rfl Ar170.2.2 hin170 hat170 (g := (mkF m 61 #[rv r1, rv ra, iv (0 : Int32), iv (0 : Int32), rv rt, iv (0 : Int32), iv (62 : Int32), .val .null] [(.int (62 : Int32)), (.ref rt)])) rfl rfl (hb hby own_d23_61) t (XS.dup X106.here hx rfl (hb hby own_d23_62) rfl rfl (XS.astore X106.here hx rfl (hb hby own_d23_63) rfl rfl (l' := #[rv r1, rv ra, iv (0 : Int32), iv (0 : Int32), rv rt, iv (0 : Int32), iv (62 : Int32), .val .null]) rfl (XS.ifnullYes X106.here hx rfl (pc0 := 65) (pc' := 94) rfl (hb hby own_d23_65) rfl (by decide) (by decide) (XS.iinc X106.here hx rfl (hb hby own_d23_94) rfl (l' := #[rv r1, rv ra, iv (0 : Int32), iv (0 : Int32), rv rt, iv (0 : Int32), iv (64 : Int32), .val .null]) rfl (XS.goto X106.here hx rfl (pc0 := 97) (pc' := 49) rfl (hb hby own_d23_97) (by decide) (by decide) (XS.iload X106.here hx rfl (hb hby own_d23_49) rfl (XS.aload X106.here hx rfl (hb hby own_d23_51) rfl rfl k)))))))) ?_
  obtain ⟨c171, Ar171, -, S171, G171, -, -⟩ := id V2
  refine own_by (g' := (mkF m 54 #[rv r1, rv ra, iv (0 : Int32), iv (0 : Int32), rv rt, iv (0 : Int32), iv (64 : Int32), .val .null] [(.int (64 : Int32)), (.int (64 : Int32))])) (fun t k => X106.arraylength hx (own_at_ e106 Ar171.1) (State.isArrayOf_alike hZ.alike Ar171.2.1) (g := (mkF m 53 #[rv r1, rv ra, iv (0 : Int32), iv (0 : Int32), rv rt, iv (0 : Int32), iv (64 : Int32), .val .null] [(.ref rt), (.int (64 : Int32))])) rfl rfl (hb hby own_d23_53) t (by rw [len_of S171 G171]; exact k)) ?_
  refine own_by (g' := (mkF m 108 #[rv r1, rv ra, iv (0 : Int32), iv (0 : Int32), rv rt, iv (0 : Int32), iv (64 : Int32), .val .null] [(.ref r1), (.int (0 : Int32))])) (fun t k => XS.icmpYes X106.here hx rfl (pc0 := 54) (pc' := 100) rfl (hb hby own_d23_54) rfl (flt (by decide : ¬ ((64 : Int32) < (64 : Int32)))).2.1 (by decide) (by decide) (XS.iload X106.here hx rfl (hb hby own_d23_100) rfl (XS.iloadN X106.here hx rfl (hb hby own_d23_102) rfl (XS.icmpNo X106.here hx rfl (hb hby own_d23_103) rfl (flt (by decide : ¬ ((0 : Int32) < (0 : Int32)))).1 (XS.iloadN X106.here hx rfl (hb hby own_d23_106) rfl (XS.aloadN X106.here hx rfl (hb hby own_d23_107) rfl rfl k)))))) ?_
  obtain ⟨T172, X172, e172, st172⟩ := getF X106 hx hZ hown (host := "") (Or.inl (hw _ (List.mem_of_getElem? (i := 136) rfl))) Via.refl e106 F1 (g := (mkF m 108 #[rv r1, rv ra, iv (0 : Int32), iv (0 : Int32), rv rt, iv (0 : Int32), iv (64 : Int32), .val .null] [(.ref r1), (.int (0 : Int32))])) rfl rfl (hb hby own_d23_108)
  refine own_by (g' := (mkF m 111 #[rv r1, rv ra, iv (0 : Int32), iv (0 : Int32), rv rt, iv (0 : Int32), iv (64 : Int32), .val .null] [(.ref rm), (.int (0 : Int32))])) st172 ?_
  obtain ⟨T173, X173, e173, st173⟩ := getF X172 hx hZ hown (host := "") (Or.inl (hw _ (List.mem_of_getElem? (i := 169) rfl))) Via.refl e172 F3 (g := (mkF m 111 #[rv r1, rv ra, iv (0 : Int32), iv (0 : Int32), rv rt, iv (0 : Int32), iv (64 : Int32), .val .null] [(.ref rm), (.int (0 : Int32))])) rfl rfl (hb hby own_d23_111)
  refine own_by (g' := (mkF m 114 #[rv r1, rv ra, iv (0 : Int32), iv (0 : Int32), rv rt, iv (0 : Int32), iv (64 : Int32), .val .null] [(.int (0 : Int32)), (.int (0 : Int32))])) st173 ?_
  refine own_by (g' := (mkF m 128 #[rv r1, rv ra, iv (0 : Int32), iv (0 : Int32), rv rt, iv (0 : Int32), iv (64 : Int32), .val .null] [(.ref ra), (.int (0 : Int32))])) (fun t k => XS.icmpYes X173.here hx rfl (pc0 := 114) (pc' := 125) rfl (hb hby own_d23_114) rfl (teq (by decide : (0 : Int32) = (0 : Int32))).1 (by decide) (by decide) (XS.iload X173.here hx rfl (hb hby own_d23_125) rfl (XS.aloadN X173.here hx rfl (hb hby own_d23_127) rfl rfl k))) ?_
  obtain ⟨c174, Ar174, S174, G174⟩ := id Y1
  refine own_by (g' := (mkF m 129 #[rv r1, rv ra, iv (0 : Int32), iv (0 : Int32), rv rt, iv (0 : Int32), iv (64 : Int32), .val .null] [(.int (0 : Int32)), (.int (0 : Int32))])) (fun t k => X173.arraylength hx (own_at_ e173 Ar174.1) (State.isArrayOf_alike hZ.alike Ar174.2.1) (g := (mkF m 128 #[rv r1, rv ra, iv (0 : Int32), iv (0 : Int32), rv rt, iv (0 : Int32), iv (64 : Int32), .val .null] [(.ref ra), (.int (0 : Int32))])) rfl rfl (hb hby own_d23_128) t (by rw [len_of S174 G174]; exact k)) ?_
  refine own_by (g' := (mkF m 138 #[rv r1, rv ra, iv (0 : Int32), iv (0 : Int32), rv rt, iv (0 : Int32), iv (64 : Int32), .val .null] [(.ref ra)])) (fun t k => XS.icmpYes X173.here hx rfl (pc0 := 129) (pc' := 137) rfl (hb hby own_d23_129) rfl (flt (by decide : ¬ ((0 : Int32) < (0 : Int32)))).2.1 (by decide) (by decide) (XS.aloadN X173.here hx rfl (hb hby own_d23_137) rfl rfl k)) ?_
  refine own_retA X173 hx hlk hret rfl rfl (hb hby own_d23_138) (by decide) (by decide) ?_
  exact ⟨rfl, N103, e173⟩
theorem own_d22_0 : decode jdk_2589_method_9_code 0 = .ok (.aload_n 0, 1) := by decide +kernel
theorem own_d22_1 : decode jdk_2589_method_9_code 1 = .ok (.iconst 0, 1) := by decide +kernel
theorem own_d22_2 : decode jdk_2589_method_9_code 2 = .ok (.anewarray 67, 3) := by decide +kernel
theorem own_d22_5 : decode jdk_2589_method_9_code 5 = .ok (.invokevirtual 69, 3) := by decide +kernel
theorem own_pd8 : parseMethodDescriptor "([Ljava/lang/Object;)[Ljava/lang/Object;" = some ⟨[(.array (.object "java/lang/Object"))], some (.array (.object "java/lang/Object"))⟩ := by decide +kernel
theorem own_d22_8 : decode jdk_2589_method_9_code 8 = .ok (.areturn, 1) := by decide +kernel
def Q_own_toarr0 (Z : State) (r1 : Addr) (rm : Addr) (rt : Addr) (kt : ClassId) (h0 : Heap) (n0 : Nat) (v : Option Value) (h : Heap) (L : List Loc) : Prop := ∃ (ba : Addr), v = some (.ref ba) ∧ Fr n0 L ∧ Keep h0 h [] ∧ h0.size ≤ ba ∧ own_Arz Z h ba (.object "java/lang/Object") (0 : Int32)
theorem own_ef_own_toarr0 (m : MethodId) (r1 : Addr) : entryFrame m #[(.ref r1)] 1 = mkF m 0 #[rv r1] [] := by first | (simp [entryFrame, mkF, argsToLocals, Value.category]; done) | rfl
set_option maxRecDepth 65536 in
set_option maxHeartbeats 40000000 in
theorem own_toarr0 (l : Launch) (Z : State) (a0 : Array Value) (hw : ∀ d ∈ tables_1, d.before a0 Z = true) (ws : List Jvm.Cond) (r1 : Addr) (rm : Addr) (rt : Addr) (kt : ClassId) (h0 : Heap) (n0 : Nat) (Z0 : n0 ≤ h0.size) (E1 : Exa Z h0 r1 "java/util/IdentityHashMap$KeySet") (F1 : Fld Z h0 r1 "java/util/IdentityHashMap$KeySet" "this$0" "Ljava/util/IdentityHashMap;" (.ref rm)) (E2 : Exa Z h0 rm "java/util/IdentityHashMap") (F2 : Fld Z h0 rm "java/util/IdentityHashMap" "size" "I" (.int (0 : Int32))) (F3 : Fld Z h0 rm "java/util/IdentityHashMap" "modCount" "I" (.int (0 : Int32))) (F4 : Fld Z h0 rm "java/util/IdentityHashMap" "table" "[Ljava/lang/Object;" (.ref rt)) (V1 : Arv Z h0 rt kt (.object "java/lang/Object") (64 : Int32) [] .null) :
    own_Ctr l Z (⟨"java/util/IdentityHashMap$KeySet", "toArray", "()[Ljava/lang/Object;"⟩ : MethodName) jdk_2589_method_9_code 1 (some (.array (.object "java/lang/Object"))) ws ({ frames := 2, cells := 1, slots := 0, locals := 31 } : Room) (({ frames := 2, cells := 1, slots := 0, locals := 31 } : Room)).cells (({ frames := 2, cells := 1, slots := 0, locals := 31 } : Room)).slots #[(.ref r1)] h0 (Q_own_toarr0 Z r1 rm rt kt h0 n0) := by
  refine own_enter (plainFor_of_name own_pn9) ?_
  intro p e s m below meth c s₁ X0 hx hZ hby hml hown hnm hlk hret e0
  have N0 := Fr.nil n0
  refine own_cast (own_ef_own_toarr0 m r1) ?_
  refine own_by (g' := (mkF m 2 #[rv r1] [(.int (0 : Int32)), (.ref r1)])) (fun t k => XS.aloadN X0.here hx rfl (hb hby own_d22_0) rfl rfl (XS.iconst X0.here hx rfl (hb hby own_d22_1) k)) ?_
  obtain ⟨T101, h101, k101, X101, e101, E101, A101, Y101, O101, st101⟩ := newRE X0 hx hZ hown (hw _ (List.mem_of_getElem? (i := 163) rfl)) (hw _ (List.mem_of_getElem? (i := 28) rfl)) e0 (g := (mkF m 2 #[rv r1] [(.int (0 : Int32)), (.ref r1)])) rfl (hb hby own_d22_2) rfl (by decide) (cap := 0) (by decide) (by decide) (by decide) (by decide) (ad := "[Ljava/lang/Object;") own_ad_java_lang_Object
  obtain ⟨b101, g101⟩ : ∃ z, z = h0.size := ⟨_, rfl⟩
  rw [← g101] at A101 Y101 st101
  have sz_b101 : h0.size ≤ b101 := Nat.le_trans (Nat.le_refl _) (Nat.le_of_eq g101.symm)
  have g_b101 : n0 ≤ b101 := Nat.le_trans Z0 sz_b101
  have V101 : Arv Z h101 b101 k101 (.object "java/lang/Object") (0 : Int32) [] .null := (Arv.new A101 (by decide)).pad (pad_rep [] .null 0)
  refine own_by (g' := (mkF m 5 #[rv r1] [(.ref b101), (.ref r1)])) st101 ?_
  have f102 := (E1.ext E101)
  have f103 := (F1.ext E101)
  have f104 := (E2.ext E101)
  have f105 := (F2.ext E101)
  have f106 := (F3.ext E101)
  have f107 := (F4.ext E101)
  have f108 := (V1.ext E101)
  have f109 := own_Arz.of V101
  refine own_callV X101 hx hZ hown (hw _ (List.mem_of_getElem? (i := 164) rfl)) (hw _ (List.mem_of_getElem? (i := 165) rfl)) (notFace_of_selects (args := #[]) (mvT hZ (hw _ (List.mem_of_getElem? (i := 167) rfl)))) (hw _ (List.mem_of_getElem? (i := 167) rfl)) (hw _ (List.mem_of_getElem? (i := 166) rfl)) (hw _ (List.mem_of_getElem? (i := 168) rfl)) (hw _ (List.mem_of_getElem? (i := 131) rfl)) (by decide) (a := r1) f102 (own_toarr1 l Z a0 hw [] (r1) (b101) (rm) (rt) (kt) h101 n0 (Nat.le_trans Z0 E101.1) f102 f103 f104 f105 f106 f107 f108 f109) 0 (by decide) (by decide) (by decide) (by decide) e101 (g := (mkF m 5 #[rv r1] [(.ref b101), (.ref r1)])) rfl (by rw [hml]; rfl) (argsL := [(.ref b101)]) (rest := []) (lenOf own_pd8 rfl) rfl (by show 2 * 0 + _ ≤ _; exact Nat.le_of_eq rfl) (hb hby own_d22_5) ?_
  intro v110 T110 L110 X110 q110
  obtain ⟨rfl, N110q, e110⟩ := q110
  have N110 := Fr.app N0 N110q
  show own_Goes p e below s _ _ _ T110 (mkF m 8 #[rv r1] [(.ref b101)])
  refine own_retA X110 hx hlk hret rfl rfl (hb hby own_d22_8) (by decide) (by decide) ?_
  rw [e110]
  exact ⟨b101, rfl, N110, ((Keep.refl h0 []).ext E101), sz_b101, f109⟩
theorem own_d21_0 : decode jdk_38_method_41_code 0 = .ok (.aload_n 1, 1) := by decide +kernel
theorem own_d21_1 : decode jdk_38_method_41_code 1 = .ok (.invokeinterface 42 1, 5) := by decide +kernel
theorem own_d21_6 : decode jdk_38_method_41_code 6 = .ok (.astore_n 2, 1) := by decide +kernel
theorem own_d21_7 : decode jdk_38_method_41_code 7 = .ok (.aload_n 0, 1) := by decide +kernel
theorem own_d21_8 : decode jdk_38_method_41_code 8 = .ok (.dup, 1) := by decide +kernel
theorem own_d21_9 : decode jdk_38_method_41_code 9 = .ok (.getfield 63, 3) := by decide +kernel
theorem own_d21_12 : decode jdk_38_method_41_code 12 = .ok (.iconst 1, 1) := by decide +kernel
theorem own_d21_13 : decode jdk_38_method_41_code 13 = .ok (.iadd, 1) := by decide +kernel
theorem own_d21_14 : decode jdk_38_method_41_code 14 = .ok (.putfield 63, 3) := by decide +kernel
theorem own_d21_17 : decode jdk_38_method_41_code 17 = .ok (.aload_n 2, 1) := by decide +kernel
theorem own_d21_18 : decode jdk_38_method_41_code 18 = .ok (.arraylength, 1) := by decide +kernel
theorem own_d21_19 : decode jdk_38_method_41_code 19 = .ok (.istore_n 3, 1) := by decide +kernel
theorem own_d21_20 : decode jdk_38_method_41_code 20 = .ok (.iload_n 3, 1) := by decide +kernel
theorem own_d21_21 : decode jdk_38_method_41_code 21 = .ok (.ifCond .ne 5, 3) := by decide +kernel
theorem own_d21_24 : decode jdk_38_method_41_code 24 = .ok (.iconst 0, 1) := by decide +kernel
theorem own_d21_25 : decode jdk_38_method_41_code 25 = .ok (.ireturn, 1) := by decide +kernel
def Q_own_addall (Z : State) (r0 : Addr) (r1 : Addr) (rm : Addr) (rt : Addr) (kt : ClassId) (um : Int32) (rd : Addr) (us : Int32) (h0 : Heap) (n0 : Nat) (v : Option Value) (h : Heap) (L : List Loc) : Prop := v = some (.int (0 : Int32)) ∧ Fr n0 L ∧ Keep h0 h [r0]
theorem own_ef_own_addall (m : MethodId) (r0 : Addr) (r1 : Addr) : entryFrame m #[(.ref r0), (.ref r1)] 6 = mkF m 0 #[rv r0, rv r1, .unset, .unset, .unset, .unset] [] := by first | (simp [entryFrame, mkF, argsToLocals, Value.category]; done) | rfl
set_option maxRecDepth 65536 in
set_option maxHeartbeats 40000000 in
theorem own_addall (l : Launch) (Z : State) (a0 : Array Value) (hw : ∀ d ∈ tables_1, d.before a0 Z = true) (ws : List Jvm.Cond) (r0 : Addr) (r1 : Addr) (rm : Addr) (rt : Addr) (kt : ClassId) (um : Int32) (rd : Addr) (us : Int32) (h0 : Heap) (n0 : Nat) (Z0 : n0 ≤ h0.size) (Ae : Exa Z h0 r0 "java/util/ArrayList") (Am : Fld Z h0 r0 "java/util/AbstractList" "modCount" "I" (.int um)) (Ad : Fld Z h0 r0 "java/util/ArrayList" "elementData" "[Ljava/lang/Object;" (.ref rd)) (As : Fld Z h0 r0 "java/util/ArrayList" "size" "I" (.int us)) (g1 : n0 ≤ r0) (E1 : Exa Z h0 r1 "java/util/IdentityHashMap$KeySet") (F1 : Fld Z h0 r1 "java/util/IdentityHashMap$KeySet" "this$0" "Ljava/util/IdentityHashMap;" (.ref rm)) (E2 : Exa Z h0 rm "java/util/IdentityHashMap") (F2 : Fld Z h0 rm "java/util/IdentityHashMap" "size" "I" (.int (0 : Int32))) (F3 : Fld Z h0 rm "java/util/IdentityHashMap" "modCount" "I" (.int (0 : Int32))) (F4 : Fld Z h0 rm "java/util/IdentityHashMap" "table" "[Ljava/lang/Object;" (.ref rt)) (V1 : Arv Z h0 rt kt (.object "java/lang/Object") (64 : Int32) [] .null) :
    own_Ctr l Z (⟨"java/util/ArrayList", "addAll", "(Ljava/util/Collection;)Z"⟩ : MethodName) jdk_38_method_41_code 6 (some .boolean) ws ({ frames := 3, cells := 1, slots := 0, locals := 43 } : Room) (({ frames := 3, cells := 1, slots := 0, locals := 43 } : Room)).cells (({ frames := 3, cells := 1, slots := 0, locals := 43 } : Room)).slots #[(.ref r0), (.ref r1)] h0 (Q_own_addall Z r0 r1 rm rt kt um rd us h0 n0) := by
  refine own_enter (plainFor_of_name own_pn4) ?_
  intro p e s m below meth c s₁ X0 hx hZ hby hml hown hnm hlk hret e0
  have N0 := Fr.nil n0
  refine own_cast (own_ef_own_addall m r0 r1) ?_
  refine own_by (g' := (mkF m 1 #[rv r0, rv r1, .unset, .unset, .unset, .unset] [(.ref r1)])) (fun t k => XS.aloadN X0.here hx rfl (hb hby own_d21_0) rfl rfl k) ?_
  refine own_callF X0 hx hZ hown (hw _ (List.mem_of_getElem? (i := 154) rfl)) (hw _ (List.mem_of_getElem? (i := 155) rfl)) (hw _ (List.mem_of_getElem? (i := 156) rfl)) (hw _ (List.mem_of_getElem? (i := 157) rfl)) (hw _ (List.mem_of_getElem? (i := 158) rfl)) (hw _ (List.mem_of_getElem? (i := 159) rfl)) (hw _ (List.mem_of_getElem? (i := 160) rfl)) (hw _ (List.mem_of_getElem? (i := 161) rfl)) (hw _ (List.mem_of_getElem? (i := 162) rfl)) (hw _ (List.mem_of_getElem? (i := 131) rfl)) (by decide) (a := r1) E1 (own_toarr0 l Z a0 hw [] (r1) (rm) (rt) (kt) h0 n0 Z0 E1 F1 E2 F2 F3 F4 V1) 0 (by decide) (by decide) (by decide) (by decide) e0 (g := (mkF m 1 #[rv r0, rv r1, .unset, .unset, .unset, .unset] [(.ref r1)])) rfl (by rw [hml]; rfl) (argsL := []) (rest := []) (lenOf own_pd4 rfl) rfl (by show 2 * 0 + _ ≤ _; exact Nat.le_of_eq rfl) (hb hby own_d21_1) ?_
  intro v101 T101 L101 X101 q101
  obtain ⟨ba101, rfl, N101q, K101, f102, f103⟩ := q101
  have N101 := Fr.app N0 N101q
  show own_Goes p e below s _ _ _ T101 (mkF m 6 #[rv r0, rv r1, .unset, .unset, .unset, .unset] [(.ref ba101)])
  refine own_by (g' := (mkF m 9 #[rv r0, rv r1, rv ba101, .unset, .unset, .unset] [(.ref r0), (.ref r0)])) (fun t k => XS.astoreN X101.here hx rfl (hb hby own_d21_6) rfl rfl (l' := #[rv r0, rv r1, rv ba101, .unset, .unset, .unset]) rfl (XS.aloadN X101.here hx rfl (hb hby own_d21_7) rfl rfl (XS.dup X101.here hx rfl (hb hby own_d21_8) rfl rfl k))) ?_
  have f104 := (Am.keep K101 nin0)
  obtain ⟨T105, X105, e105, st105⟩ := getF X101 hx hZ hown (host := "") (Or.inl (hw _ (List.mem_of_getElem? (i := 92) rfl))) (Via.of (hw _ (List.mem_of_getElem? (i := 93) rfl))) rfl f104 (g := (mkF m 9 #[rv r0, rv r1, rv ba101, .unset, .unset, .unset] [(.ref r0), (.ref r0)])) rfl rfl (hb hby own_d21_9)
  refine own_by (g' := (mkF m 12 #[rv r0, rv r1, rv ba101, .unset, .unset, .unset] [(.int um), (.ref r0)])) st105 ?_
  refine own_by (g' := (mkF m 14 #[rv r0, rv r1, rv ba101, .unset, .unset, .unset] [(.int (um + (1 : Int32))), (.ref r0)])) (fun t k => XS.iconst X105.here hx rfl (hb hby own_d21_12) (XS.iadd X105.here hx rfl (hb hby own_d21_13) rfl k)) ?_
  have f106 := (Ae.keep K101)
  obtain ⟨T107, h107, X107, e107, W107, st107⟩ := putF X105 hx hZ hown (host := "") (Or.inl (hw _ (List.mem_of_getElem? (i := 92) rfl))) (Via.of (hw _ (List.mem_of_getElem? (i := 93) rfl))) e105 f104 f106 (Or.inl (hw _ (List.mem_of_getElem? (i := 79) rfl))) (hw _ (List.mem_of_getElem? (i := 60) rfl)) (ty := .int) (by decide) rfl rfl (g := (mkF m 14 #[rv r0, rv r1, rv ba101, .unset, .unset, .unset] [(.int (um + (1 : Int32))), (.ref r0)])) rfl rfl (hb hby own_d21_14)
  have f108 := f104.same W107
  have N107 := Fr.snoc X107 N101 g1
  refine own_by (g' := (mkF m 17 #[rv r0, rv r1, rv ba101, .unset, .unset, .unset] [])) st107 ?_
  refine own_by (g' := (mkF m 18 #[rv r0, rv r1, rv ba101, .unset, .unset, .unset] [(.ref ba101)])) (fun t k => XS.aloadN X107.here hx rfl (hb hby own_d21_17) rfl rfl k) ?_
  have f110 := (f103.other W107 (Ne.symm (Nat.ne_of_lt (Nat.lt_of_lt_of_le (Nat.lt_of_lt_of_le Ae.lt (Nat.le_refl _)) f102))))
  obtain ⟨c109, Ar109, S109, G109⟩ := id f110
  refine own_by (g' := (mkF m 19 #[rv r0, rv r1, rv ba101, .unset, .unset, .unset] [(.int (0 : Int32))])) (fun t k => X107.arraylength hx (own_at_ e107 Ar109.1) (State.isArrayOf_alike hZ.alike Ar109.2.1) (g := (mkF m 18 #[rv r0, rv r1, rv ba101, .unset, .unset, .unset] [(.ref ba101)])) rfl rfl (hb hby own_d21_18) t (by rw [len_of S109 G109]; exact k)) ?_
  refine own_by (g' := (mkF m 25 #[rv r0, rv r1, rv ba101, iv (0 : Int32), .unset, .unset] [(.int (0 : Int32))])) (fun t k => XS.istoreN X107.here hx rfl (hb hby own_d21_19) rfl (l' := #[rv r0, rv r1, rv ba101, iv (0 : Int32), .unset, .unset]) rfl (XS.iloadN X107.here hx rfl (hb hby own_d21_20) rfl (XS.ifNo X107.here hx rfl (hb hby own_d21_21) rfl ((if0 _ _).trans (teq (by decide : (0 : Int32) = (0 : Int32))).2) (XS.iconst X107.here hx rfl (hb hby own_d21_24) k)))) ?_
  refine own_retN X107 hx hlk hret (t := .boolean) (by simp) (hb hby own_d21_25) (by decide) (by decide) ?_
  rw [e107]
  exact ⟨rfl, N107, (((Keep.refl h0 [r0]).trans K101 all0).wr W107 (Or.inl (List.mem_of_getElem? (i := 0) rfl)))⟩
theorem own_d25_0 : decode jdk_2581_method_22_code 0 = .ok (.aload_n 0, 1) := by decide +kernel
theorem own_d25_1 : decode jdk_2581_method_22_code 1 = .ok (.dup, 1) := by decide +kernel
theorem own_d25_2 : decode jdk_2581_method_22_code 2 = .ok (.getfield 94, 3) := by decide +kernel
theorem own_d25_5 : decode jdk_2581_method_22_code 5 = .ok (.iconst 1, 1) := by decide +kernel
theorem own_d25_6 : decode jdk_2581_method_22_code 6 = .ok (.iadd, 1) := by decide +kernel
theorem own_d25_7 : decode jdk_2581_method_22_code 7 = .ok (.putfield 94, 3) := by decide +kernel
theorem own_d25_10 : decode jdk_2581_method_22_code 10 = .ok (.aload_n 0, 1) := by decide +kernel
theorem own_d25_11 : decode jdk_2581_method_22_code 11 = .ok (.getfield 51, 3) := by decide +kernel
theorem own_d25_14 : decode jdk_2581_method_22_code 14 = .ok (.astore_n 1, 1) := by decide +kernel
theorem own_d25_15 : decode jdk_2581_method_22_code 15 = .ok (.iconst 0, 1) := by decide +kernel
theorem own_d25_16 : decode jdk_2581_method_22_code 16 = .ok (.istore_n 2, 1) := by decide +kernel
theorem own_d25_17 : decode jdk_2581_method_22_code 17 = .ok (.iload_n 2, 1) := by decide +kernel
theorem own_d25_18 : decode jdk_2581_method_22_code 18 = .ok (.aload_n 1, 1) := by decide +kernel
theorem own_d25_19 : decode jdk_2581_method_22_code 19 = .ok (.arraylength, 1) := by decide +kernel
theorem own_d25_20 : decode jdk_2581_method_22_code 20 = .ok (.if_icmp .ge 13, 3) := by decide +kernel
theorem own_d25_23 : decode jdk_2581_method_22_code 23 = .ok (.aload_n 1, 1) := by decide +kernel
theorem own_d25_24 : decode jdk_2581_method_22_code 24 = .ok (.iload_n 2, 1) := by decide +kernel
theorem own_d25_25 : decode jdk_2581_method_22_code 25 = .ok (.aconst_null, 1) := by decide +kernel
theorem own_d25_26 : decode jdk_2581_method_22_code 26 = .ok (.aastore, 1) := by decide +kernel
theorem own_d25_27 : decode jdk_2581_method_22_code 27 = .ok (.iinc 2 1, 3) := by decide +kernel
theorem own_d25_30 : decode jdk_2581_method_22_code 30 = .ok (.goto (-13), 3) := by decide +kernel
theorem own_d25_33 : decode jdk_2581_method_22_code 33 = .ok (.aload_n 0, 1) := by decide +kernel
theorem own_d25_34 : decode jdk_2581_method_22_code 34 = .ok (.iconst 0, 1) := by decide +kernel
theorem own_d25_35 : decode jdk_2581_method_22_code 35 = .ok (.putfield 69, 3) := by decide +kernel
theorem own_d25_38 : decode jdk_2581_method_22_code 38 = .ok (.return_, 1) := by decide +kernel
def Q_own_mclear (Z : State) (rm : Addr) (rt : Addr) (h0 : Heap) (n0 : Nat) (v : Option Value) (h : Heap) (L : List Loc) : Prop := v = none ∧ Fr n0 L ∧ Keep h0 h [rm, rt]
theorem own_ef_own_mclear (m : MethodId) (rm : Addr) : entryFrame m #[(.ref rm)] 3 = mkF m 0 #[rv rm, .unset, .unset] [] := by first | (simp [entryFrame, mkF, argsToLocals, Value.category]; done) | rfl
set_option maxRecDepth 65536 in
set_option maxHeartbeats 40000000 in
theorem own_mclear (l : Launch) (Z : State) (a0 : Array Value) (hw : ∀ d ∈ tables_1, d.before a0 Z = true) (ws : List Jvm.Cond) (rm : Addr) (rt : Addr) (h0 : Heap) (n0 : Nat) (Z0 : n0 ≤ h0.size) (E1 : Exa Z h0 rm "java/util/IdentityHashMap") (F2 : Fld Z h0 rm "java/util/IdentityHashMap" "size" "I" (.int (0 : Int32))) (F3 : Fld Z h0 rm "java/util/IdentityHashMap" "modCount" "I" (.int (0 : Int32))) (F4 : Fld Z h0 rm "java/util/IdentityHashMap" "table" "[Ljava/lang/Object;" (.ref rt)) (Y1 : own_Arz Z h0 rt (.object "java/lang/Object") (64 : Int32)) (g1 : n0 ≤ rm) (g2 : n0 ≤ rt) :
    own_Ctr l Z (⟨"java/util/IdentityHashMap", "clear", "()V"⟩ : MethodName) jdk_2581_method_22_code 3 none ws ({ frames := 0, cells := 0, slots := 0, locals := 0 } : Room) (({ frames := 0, cells := 0, slots := 0, locals := 0 } : Room)).cells (({ frames := 0, cells := 0, slots := 0, locals := 0 } : Room)).slots #[(.ref rm)] h0 (Q_own_mclear Z rm rt h0 n0) := by
  refine own_enter (plainFor_of_name own_pn6) ?_
  intro p e s m below meth c s₁ X0 hx hZ hby hml hown hnm hlk hret e0
  have N0 := Fr.nil n0
  refine own_cast (own_ef_own_mclear m rm) ?_
  refine own_by (g' := (mkF m 2 #[rv rm, .unset, .unset] [(.ref rm), (.ref rm)])) (fun t k => XS.aloadN X0.here hx rfl (hb hby own_d25_0) rfl rfl (XS.dup X0.here hx rfl (hb hby own_d25_1) rfl rfl k)) ?_
  obtain ⟨T101, X101, e101, st101⟩ := getF X0 hx hZ hown (host := "") (Or.inl (hw _ (List.mem_of_getElem? (i := 187) rfl))) Via.refl e0 F3 (g := (mkF m 2 #[rv rm, .unset, .unset] [(.ref rm), (.ref rm)])) rfl rfl (hb hby own_d25_2)
  refine own_by (g' := (mkF m 5 #[rv rm, .unset, .unset] [(.int (0 : Int32)), (.ref rm)])) st101 ?_
  refine own_by (g' := (mkF m 7 #[rv rm, .unset, .unset] [(.int (1 : Int32)), (.ref rm)])) (fun t k => XS.iconst X101.here hx rfl (hb hby own_d25_5) (XS.iadd X101.here hx rfl (hb hby own_d25_6) rfl k)) ?_
  obtain ⟨T102, h102, X102, e102, W102, st102⟩ := putF X101 hx hZ hown (host := "") (Or.inl (hw _ (List.mem_of_getElem? (i := 187) rfl))) Via.refl e101 F3 E1 (Or.inl (hw _ (List.mem_of_getElem? (i := 170) rfl))) (hw _ (List.mem_of_getElem? (i := 10) rfl)) (ty := .int) (by decide) rfl rfl (g := (mkF m 7 #[rv rm, .unset, .unset] [(.int (1 : Int32)), (.ref rm)])) rfl rfl (hb hby own_d25_7)
  have f103 := F3.same W102
  have N102 := Fr.snoc X102 N0 g1
  refine own_by (g' := (mkF m 10 #[rv rm, .unset, .unset] [])) st102 ?_
  refine own_by (g' := (mkF m 11 #[rv rm, .unset, .unset] [(.ref rm)])) (fun t k => XS.aloadN X102.here hx rfl (hb hby own_d25_10) rfl rfl k) ?_
  have f104 := (F4.other W102 (Or.inr (slot_ne (Or.inl (hw _ (List.mem_of_getElem? (i := 30) rfl))) (Or.inl (hw _ (List.mem_of_getElem? (i := 170) rfl))) (by decide) (t := (.array (.object "java/lang/Object"))) (t' := .int) (by decide) (by decide))))
  obtain ⟨T105, X105, e105, st105⟩ := getF X102 hx hZ hown (host := "") (Or.inl (hw _ (List.mem_of_getElem? (i := 29) rfl))) Via.refl e102 f104 (g := (mkF m 11 #[rv rm, .unset, .unset] [(.ref rm)])) rfl rfl (hb hby own_d25_11)
  refine own_by (g' := (mkF m 14 #[rv rm, .unset, .unset] [(.ref rt)])) st105 ?_
  refine own_by (g' := (mkF m 17 #[rv rm, rv rt, iv (0 : Int32)] [])) (fun t k => XS.astoreN X105.here hx rfl (hb hby own_d25_14) rfl rfl (l' := #[rv rm, rv rt, .unset]) rfl (XS.iconst X105.here hx rfl (hb hby own_d25_15) (XS.istoreN X105.here hx rfl (hb hby own_d25_16) rfl (l' := #[rv rm, rv rt, iv (0 : Int32)]) rfl k))) ?_
  have f106 := (E1.wr W102)
  have f107 := (F2.other W102 (Or.inr (slot_ne (Or.inl (hw _ (List.mem_of_getElem? (i := 177) rfl))) (Or.inl (hw _ (List.mem_of_getElem? (i := 170) rfl))) (by decide) (t := .int) (t' := .int) (by decide) (by decide))))
  refine own_by (g' := (mkF m 19 #[rv rm, rv rt, iv (0 : Int32)] [(.ref rt), (.int (0 : Int32))])) (fun t k => XS.iloadN X105.here hx rfl (hb hby own_d25_17) rfl (XS.aloadN X105.here hx rfl (hb hby own_d25_18) rfl rfl k)) ?_
  have f109 := (Y1.other W102 (Ne.symm (own_neY E1 (hw _ (List.mem_of_getElem? (i := 10) rfl)) Y1)))
  obtain ⟨c108, Ar108, S108, G108⟩ := id f109
  refine own_by (g' := (mkF m 20 #[rv rm, rv rt, iv (0 : Int32)] [(.int (64 : Int32)), (.int (0 : Int32))])) (fun t k => X105.arraylength hx (own_at_ e105 Ar108.1) (State.isArrayOf_alike hZ.alike Ar108.2.1) (g := (mkF m 19 #[rv rm, rv rt, iv (0 : Int32)] [(.ref rt), (.int (0 : Int32))])) rfl rfl (hb hby own_d25_19) t (by rw [len_of S108 G108]; exact k)) ?_
  refine own_by (g' := (mkF m 26 #[rv rm, rv rt, iv (0 : Int32)] [.null, (.int (0 : Int32)), (.ref rt)])) (fun t k => XS.icmpNo X105.here hx rfl (hb hby own_d25_20) rfl (tlt (by decide : (0 : Int32) < (64 : Int32))).2.1 (XS.aloadN X105.here hx rfl (hb hby own_d25_23) rfl rfl (XS.iloadN X105.here hx rfl (hb hby own_d25_24) rfl (XS.aconstNull X105.here hx rfl (hb hby own_d25_25) k)))) ?_
  obtain ⟨c110, Ar110, S110, G110⟩ := id f109
  have hin110 : ¬ ((0 : Int32) < 0 ∨ c110.slots.size ≤ ((0 : Int32)).toNatClampNeg) := inb_of S110 ⟨by decide, by decide⟩
  obtain ⟨T110, h110, X110, e110, W110, st110⟩ := stR X105 hx hZ e105 Ar110 (j := (0 : Int32)) hin110 rfl (Or.inl rfl) (g := (mkF m 26 #[rv rm, rv rt, iv (0 : Int32)] [.null, (.int (0 : Int32)), (.ref rt)])) rfl rfl (hb hby own_d25_26)
  have Al110 := own_Arz.same (⟨c110, Ar110, S110, G110⟩ : own_Arz Z _ rt (.object "java/lang/Object") (64 : Int32)) W110
  have N110 := Fr.snoc X110 N102 g2
  refine own_by (g' := (mkF m 27 #[rv rm, rv rt, iv (0 : Int32)] [])) st110 ?_
  refine own_by (g' := (mkF m 17 #[rv rm, rv rt, iv (1 : Int32)] [])) (fun t k => XS.iinc X110.here hx rfl (hb hby own_d25_27) rfl (l' := #[rv rm, rv rt, iv (1 : Int32)]) rfl (XS.goto X110.here hx rfl (pc0 := 30) (pc' := 17) rfl (hb hby own_d25_30) (by decide) (by decide) k)) ?_
  have f111 := (f106.wr W110)
  have f112 := (f107.other W110 (Or.inl (own_neY E1 (hw _ (List.mem_of_getElem? (i := 10) rfl)) Y1)))
  have f113 := (f104.other W110 (Or.inl (own_neY E1 (hw _ (List.mem_of_getElem? (i := 10) rfl)) Y1)))
  refine own_by (g' := (mkF m 19 #[rv rm, rv rt, iv (1 : Int32)] [(.ref rt), (.int (1 : Int32))])) (fun t k => XS.iloadN X110.here hx rfl (hb hby own_d25_17) rfl (XS.aloadN X110.here hx rfl (hb hby own_d25_18) rfl rfl k)) ?_
  obtain ⟨c114, Ar114, S114, G114⟩ := id Al110
  refine own_by (g' := (mkF m 20 #[rv rm, rv rt, iv (1 : Int32)] [(.int (64 : Int32)), (.int (1 : Int32))])) (fun t k => X110.arraylength hx (own_at_ e110 Ar114.1) (State.isArrayOf_alike hZ.alike Ar114.2.1) (g := (mkF m 19 #[rv rm, rv rt, iv (1 : Int32)] [(.ref rt), (.int (1 : Int32))])) rfl rfl (hb hby own_d25_19) t (by rw [len_of S114 G114]; exact k)) ?_
  refine own_by (g' := (mkF m 26 #[rv rm, rv rt, iv (1 : Int32)] [.null, (.int (1 : Int32)), (.ref rt)])) (fun t k => XS.icmpNo X110.here hx rfl (hb hby own_d25_20) rfl (tlt (by decide : (1 : Int32) < (64 : Int32))).2.1 (XS.aloadN X110.here hx rfl (hb hby own_d25_23) rfl rfl (XS.iloadN X110.here hx rfl (hb hby own_d25_24) rfl (XS.aconstNull X110.here hx rfl (hb hby own_d25_25) k)))) ?_
  obtain ⟨c115, Ar115, S115, G115⟩ := id Al110
  have hin115 : ¬ ((1 : Int32) < 0 ∨ c115.slots.size ≤ ((1 : Int32)).toNatClampNeg) := inb_of S115 ⟨by decide, by decide⟩
  obtain ⟨T115, h115, X115, e115, W115, st115⟩ := stR X110 hx hZ e110 Ar115 (j := (1 : Int32)) hin115 rfl (Or.inl rfl) (g := (mkF m 26 #[rv rm, rv rt, iv (1 : Int32)] [.null, (.int (1 : Int32)), (.ref rt)])) rfl rfl (hb hby own_d25_26)
  have Al115 := own_Arz.same (⟨c115, Ar115, S115, G115⟩ : own_Arz Z _ rt (.object "java/lang/Object") (64 : Int32)) W115
  have N115 := Fr.snoc X115 N110 g2
  refine own_by (g' := (mkF m 27 #[rv rm, rv rt, iv (1 : Int32)] [])) st115 ?_
  refine own_by (g' := (mkF m 17 #[rv rm, rv rt, iv (2 : Int32)] [])) (fun t k => XS.iinc X115.here hx rfl (hb hby own_d25_27) rfl (l' := #[rv rm, rv rt, iv (2 : Int32)]) rfl (XS.goto X115.here hx rfl (pc0 := 30) (pc' := 17) rfl (hb hby own_d25_30) (by decide) (by decide) k)) ?_
  have f116 := (f111.wr W115)
  have f117 := (f112.other W115 (Or.inl (own_neY E1 (hw _ (List.mem_of_getElem? (i := 10) rfl)) Y1)))
  have f118 := (f113.other W115 (Or.inl (own_neY E1 (hw _ (List.mem_of_getElem? (i := 10) rfl)) Y1)))
  refine own_by (g' := (mkF m 19 #[rv rm, rv rt, iv (2 : Int32)] [(.ref rt), (.int (2 : Int32))])) (fun t k => XS.iloadN X115.here hx rfl (hb hby own_d25_17) rfl (XS.aloadN X115.here hx rfl (hb hby own_d25_18) rfl rfl k)) ?_
  obtain ⟨c119, Ar119, S119, G119⟩ := id Al115
  refine own_by (g' := (mkF m 20 #[rv rm, rv rt, iv (2 : Int32)] [(.int (64 : Int32)), (.int (2 : Int32))])) (fun t k => X115.arraylength hx (own_at_ e115 Ar119.1) (State.isArrayOf_alike hZ.alike Ar119.2.1) (g := (mkF m 19 #[rv rm, rv rt, iv (2 : Int32)] [(.ref rt), (.int (2 : Int32))])) rfl rfl (hb hby own_d25_19) t (by rw [len_of S119 G119]; exact k)) ?_
  refine own_by (g' := (mkF m 26 #[rv rm, rv rt, iv (2 : Int32)] [.null, (.int (2 : Int32)), (.ref rt)])) (fun t k => XS.icmpNo X115.here hx rfl (hb hby own_d25_20) rfl (tlt (by decide : (2 : Int32) < (64 : Int32))).2.1 (XS.aloadN X115.here hx rfl (hb hby own_d25_23) rfl rfl (XS.iloadN X115.here hx rfl (hb hby own_d25_24) rfl (XS.aconstNull X115.here hx rfl (hb hby own_d25_25) k)))) ?_
  obtain ⟨c120, Ar120, S120, G120⟩ := id Al115
  have hin120 : ¬ ((2 : Int32) < 0 ∨ c120.slots.size ≤ ((2 : Int32)).toNatClampNeg) := inb_of S120 ⟨by decide, by decide⟩
  obtain ⟨T120, h120, X120, e120, W120, st120⟩ := stR X115 hx hZ e115 Ar120 (j := (2 : Int32)) hin120 rfl (Or.inl rfl) (g := (mkF m 26 #[rv rm, rv rt, iv (2 : Int32)] [.null, (.int (2 : Int32)), (.ref rt)])) rfl rfl (hb hby own_d25_26)
  have Al120 := own_Arz.same (⟨c120, Ar120, S120, G120⟩ : own_Arz Z _ rt (.object "java/lang/Object") (64 : Int32)) W120
  have N120 := Fr.snoc X120 N115 g2
  refine own_by (g' := (mkF m 27 #[rv rm, rv rt, iv (2 : Int32)] [])) st120 ?_
  refine own_by (g' := (mkF m 17 #[rv rm, rv rt, iv (3 : Int32)] [])) (fun t k => XS.iinc X120.here hx rfl (hb hby own_d25_27) rfl (l' := #[rv rm, rv rt, iv (3 : Int32)]) rfl (XS.goto X120.here hx rfl (pc0 := 30) (pc' := 17) rfl (hb hby own_d25_30) (by decide) (by decide) k)) ?_
  have f121 := (f116.wr W120)
  have f122 := (f117.other W120 (Or.inl (own_neY E1 (hw _ (List.mem_of_getElem? (i := 10) rfl)) Y1)))
  have f123 := (f118.other W120 (Or.inl (own_neY E1 (hw _ (List.mem_of_getElem? (i := 10) rfl)) Y1)))
  refine own_by (g' := (mkF m 19 #[rv rm, rv rt, iv (3 : Int32)] [(.ref rt), (.int (3 : Int32))])) (fun t k => XS.iloadN X120.here hx rfl (hb hby own_d25_17) rfl (XS.aloadN X120.here hx rfl (hb hby own_d25_18) rfl rfl k)) ?_
  obtain ⟨c124, Ar124, S124, G124⟩ := id Al120
  refine own_by (g' := (mkF m 20 #[rv rm, rv rt, iv (3 : Int32)] [(.int (64 : Int32)), (.int (3 : Int32))])) (fun t k => X120.arraylength hx (own_at_ e120 Ar124.1) (State.isArrayOf_alike hZ.alike Ar124.2.1) (g := (mkF m 19 #[rv rm, rv rt, iv (3 : Int32)] [(.ref rt), (.int (3 : Int32))])) rfl rfl (hb hby own_d25_19) t (by rw [len_of S124 G124]; exact k)) ?_
  refine own_by (g' := (mkF m 26 #[rv rm, rv rt, iv (3 : Int32)] [.null, (.int (3 : Int32)), (.ref rt)])) (fun t k => XS.icmpNo X120.here hx rfl (hb hby own_d25_20) rfl (tlt (by decide : (3 : Int32) < (64 : Int32))).2.1 (XS.aloadN X120.here hx rfl (hb hby own_d25_23) rfl rfl (XS.iloadN X120.here hx rfl (hb hby own_d25_24) rfl (XS.aconstNull X120.here hx rfl (hb hby own_d25_25) k)))) ?_
  obtain ⟨c125, Ar125, S125, G125⟩ := id Al120
  have hin125 : ¬ ((3 : Int32) < 0 ∨ c125.slots.size ≤ ((3 : Int32)).toNatClampNeg) := inb_of S125 ⟨by decide, by decide⟩
  obtain ⟨T125, h125, X125, e125, W125, st125⟩ := stR X120 hx hZ e120 Ar125 (j := (3 : Int32)) hin125 rfl (Or.inl rfl) (g := (mkF m 26 #[rv rm, rv rt, iv (3 : Int32)] [.null, (.int (3 : Int32)), (.ref rt)])) rfl rfl (hb hby own_d25_26)
  have Al125 := own_Arz.same (⟨c125, Ar125, S125, G125⟩ : own_Arz Z _ rt (.object "java/lang/Object") (64 : Int32)) W125
  have N125 := Fr.snoc X125 N120 g2
  refine own_by (g' := (mkF m 27 #[rv rm, rv rt, iv (3 : Int32)] [])) st125 ?_
  refine own_by (g' := (mkF m 17 #[rv rm, rv rt, iv (4 : Int32)] [])) (fun t k => XS.iinc X125.here hx rfl (hb hby own_d25_27) rfl (l' := #[rv rm, rv rt, iv (4 : Int32)]) rfl (XS.goto X125.here hx rfl (pc0 := 30) (pc' := 17) rfl (hb hby own_d25_30) (by decide) (by decide) k)) ?_
  have f126 := (f121.wr W125)
  have f127 := (f122.other W125 (Or.inl (own_neY E1 (hw _ (List.mem_of_getElem? (i := 10) rfl)) Y1)))
  have f128 := (f123.other W125 (Or.inl (own_neY E1 (hw _ (List.mem_of_getElem? (i := 10) rfl)) Y1)))
  refine own_by (g' := (mkF m 19 #[rv rm, rv rt, iv (4 : Int32)] [(.ref rt), (.int (4 : Int32))])) (fun t k => XS.iloadN X125.here hx rfl (hb hby own_d25_17) rfl (XS.aloadN X125.here hx rfl (hb hby own_d25_18) rfl rfl k)) ?_
  obtain ⟨c129, Ar129, S129, G129⟩ := id Al125
  refine own_by (g' := (mkF m 20 #[rv rm, rv rt, iv (4 : Int32)] [(.int (64 : Int32)), (.int (4 : Int32))])) (fun t k => X125.arraylength hx (own_at_ e125 Ar129.1) (State.isArrayOf_alike hZ.alike Ar129.2.1) (g := (mkF m 19 #[rv rm, rv rt, iv (4 : Int32)] [(.ref rt), (.int (4 : Int32))])) rfl rfl (hb hby own_d25_19) t (by rw [len_of S129 G129]; exact k)) ?_
  refine own_by (g' := (mkF m 26 #[rv rm, rv rt, iv (4 : Int32)] [.null, (.int (4 : Int32)), (.ref rt)])) (fun t k => XS.icmpNo X125.here hx rfl (hb hby own_d25_20) rfl (tlt (by decide : (4 : Int32) < (64 : Int32))).2.1 (XS.aloadN X125.here hx rfl (hb hby own_d25_23) rfl rfl (XS.iloadN X125.here hx rfl (hb hby own_d25_24) rfl (XS.aconstNull X125.here hx rfl (hb hby own_d25_25) k)))) ?_
  obtain ⟨c130, Ar130, S130, G130⟩ := id Al125
  have hin130 : ¬ ((4 : Int32) < 0 ∨ c130.slots.size ≤ ((4 : Int32)).toNatClampNeg) := inb_of S130 ⟨by decide, by decide⟩
  obtain ⟨T130, h130, X130, e130, W130, st130⟩ := stR X125 hx hZ e125 Ar130 (j := (4 : Int32)) hin130 rfl (Or.inl rfl) (g := (mkF m 26 #[rv rm, rv rt, iv (4 : Int32)] [.null, (.int (4 : Int32)), (.ref rt)])) rfl rfl (hb hby own_d25_26)
  have Al130 := own_Arz.same (⟨c130, Ar130, S130, G130⟩ : own_Arz Z _ rt (.object "java/lang/Object") (64 : Int32)) W130
  have N130 := Fr.snoc X130 N125 g2
  refine own_by (g' := (mkF m 27 #[rv rm, rv rt, iv (4 : Int32)] [])) st130 ?_
  refine own_by (g' := (mkF m 17 #[rv rm, rv rt, iv (5 : Int32)] [])) (fun t k => XS.iinc X130.here hx rfl (hb hby own_d25_27) rfl (l' := #[rv rm, rv rt, iv (5 : Int32)]) rfl (XS.goto X130.here hx rfl (pc0 := 30) (pc' := 17) rfl (hb hby own_d25_30) (by decide) (by decide) k)) ?_
  have f131 := (f126.wr W130)
  have f132 := (f127.other W130 (Or.inl (own_neY E1 (hw _ (List.mem_of_getElem? (i := 10) rfl)) Y1)))
  have f133 := (f128.other W130 (Or.inl (own_neY E1 (hw _ (List.mem_of_getElem? (i := 10) rfl)) Y1)))
  refine own_by (g' := (mkF m 19 #[rv rm, rv rt, iv (5 : Int32)] [(.ref rt), (.int (5 : Int32))])) (fun t k => XS.iloadN X130.here hx rfl (hb hby own_d25_17) rfl (XS.aloadN X130.here hx rfl (hb hby own_d25_18) rfl rfl k)) ?_
  obtain ⟨c134, Ar134, S134, G134⟩ := id Al130
  refine own_by (g' := (mkF m 20 #[rv rm, rv rt, iv (5 : Int32)] [(.int (64 : Int32)), (.int (5 : Int32))])) (fun t k => X130.arraylength hx (own_at_ e130 Ar134.1) (State.isArrayOf_alike hZ.alike Ar134.2.1) (g := (mkF m 19 #[rv rm, rv rt, iv (5 : Int32)] [(.ref rt), (.int (5 : Int32))])) rfl rfl (hb hby own_d25_19) t (by rw [len_of S134 G134]; exact k)) ?_
  refine own_by (g' := (mkF m 26 #[rv rm, rv rt, iv (5 : Int32)] [.null, (.int (5 : Int32)), (.ref rt)])) (fun t k => XS.icmpNo X130.here hx rfl (hb hby own_d25_20) rfl (tlt (by decide : (5 : Int32) < (64 : Int32))).2.1 (XS.aloadN X130.here hx rfl (hb hby own_d25_23) rfl rfl (XS.iloadN X130.here hx rfl (hb hby own_d25_24) rfl (XS.aconstNull X130.here hx rfl (hb hby own_d25_25) k)))) ?_
  obtain ⟨c135, Ar135, S135, G135⟩ := id Al130
  have hin135 : ¬ ((5 : Int32) < 0 ∨ c135.slots.size ≤ ((5 : Int32)).toNatClampNeg) := inb_of S135 ⟨by decide, by decide⟩
  obtain ⟨T135, h135, X135, e135, W135, st135⟩ := stR X130 hx hZ e130 Ar135 (j := (5 : Int32)) hin135 rfl (Or.inl rfl) (g := (mkF m 26 #[rv rm, rv rt, iv (5 : Int32)] [.null, (.int (5 : Int32)), (.ref rt)])) rfl rfl (hb hby own_d25_26)
  have Al135 := own_Arz.same (⟨c135, Ar135, S135, G135⟩ : own_Arz Z _ rt (.object "java/lang/Object") (64 : Int32)) W135
  have N135 := Fr.snoc X135 N130 g2
  refine own_by (g' := (mkF m 27 #[rv rm, rv rt, iv (5 : Int32)] [])) st135 ?_
  refine own_by (g' := (mkF m 17 #[rv rm, rv rt, iv (6 : Int32)] [])) (fun t k => XS.iinc X135.here hx rfl (hb hby own_d25_27) rfl (l' := #[rv rm, rv rt, iv (6 : Int32)]) rfl (XS.goto X135.here hx rfl (pc0 := 30) (pc' := 17) rfl (hb hby own_d25_30) (by decide) (by decide) k)) ?_
  have f136 := (f131.wr W135)
  have f137 := (f132.other W135 (Or.inl (own_neY E1 (hw _ (List.mem_of_getElem? (i := 10) rfl)) Y1)))
  have f138 := (f133.other W135 (Or.inl (own_neY E1 (hw _ (List.mem_of_getElem? (i := 10) rfl)) Y1)))
  refine own_by (g' := (mkF m 19 #[rv rm, rv rt, iv (6 : Int32)] [(.ref rt), (.int (6 : Int32))])) (fun t k => XS.iloadN X135.here hx rfl (hb hby own_d25_17) rfl (XS.aloadN X135.here hx rfl (hb hby own_d25_18) rfl rfl k)) ?_
  obtain ⟨c139, Ar139, S139, G139⟩ := id Al135
  refine own_by (g' := (mkF m 20 #[rv rm, rv rt, iv (6 : Int32)] [(.int (64 : Int32)), (.int (6 : Int32))])) (fun t k => X135.arraylength hx (own_at_ e135 Ar139.1) (State.isArrayOf_alike hZ.alike Ar139.2.1) (g := (mkF m 19 #[rv rm, rv rt, iv (6 : Int32)] [(.ref rt), (.int (6 : Int32))])) rfl rfl (hb hby own_d25_19) t (by rw [len_of S139 G139]; exact k)) ?_
  refine own_by (g' := (mkF m 26 #[rv rm, rv rt, iv (6 : Int32)] [.null, (.int (6 : Int32)), (.ref rt)])) (fun t k => XS.icmpNo X135.here hx rfl (hb hby own_d25_20) rfl (tlt (by decide : (6 : Int32) < (64 : Int32))).2.1 (XS.aloadN X135.here hx rfl (hb hby own_d25_23) rfl rfl (XS.iloadN X135.here hx rfl (hb hby own_d25_24) rfl (XS.aconstNull X135.here hx rfl (hb hby own_d25_25) k)))) ?_
  obtain ⟨c140, Ar140, S140, G140⟩ := id Al135
  have hin140 : ¬ ((6 : Int32) < 0 ∨ c140.slots.size ≤ ((6 : Int32)).toNatClampNeg) := inb_of S140 ⟨by decide, by decide⟩
  obtain ⟨T140, h140, X140, e140, W140, st140⟩ := stR X135 hx hZ e135 Ar140 (j := (6 : Int32)) hin140 rfl (Or.inl rfl) (g := (mkF m 26 #[rv rm, rv rt, iv (6 : Int32)] [.null, (.int (6 : Int32)), (.ref rt)])) rfl rfl (hb hby own_d25_26)
  have Al140 := own_Arz.same (⟨c140, Ar140, S140, G140⟩ : own_Arz Z _ rt (.object "java/lang/Object") (64 : Int32)) W140
  have N140 := Fr.snoc X140 N135 g2
  refine own_by (g' := (mkF m 27 #[rv rm, rv rt, iv (6 : Int32)] [])) st140 ?_
  refine own_by (g' := (mkF m 17 #[rv rm, rv rt, iv (7 : Int32)] [])) (fun t k => XS.iinc X140.here hx rfl (hb hby own_d25_27) rfl (l' := #[rv rm, rv rt, iv (7 : Int32)]) rfl (XS.goto X140.here hx rfl (pc0 := 30) (pc' := 17) rfl (hb hby own_d25_30) (by decide) (by decide) k)) ?_
  have f141 := (f136.wr W140)
  have f142 := (f137.other W140 (Or.inl (own_neY E1 (hw _ (List.mem_of_getElem? (i := 10) rfl)) Y1)))
  have f143 := (f138.other W140 (Or.inl (own_neY E1 (hw _ (List.mem_of_getElem? (i := 10) rfl)) Y1)))
  refine own_by (g' := (mkF m 19 #[rv rm, rv rt, iv (7 : Int32)] [(.ref rt), (.int (7 : Int32))])) (fun t k => XS.iloadN X140.here hx rfl (hb hby own_d25_17) rfl (XS.aloadN X140.here hx rfl (hb hby own_d25_18) rfl rfl k)) ?_
  obtain ⟨c144, Ar144, S144, G144⟩ := id Al140
  refine own_by (g' := (mkF m 20 #[rv rm, rv rt, iv (7 : Int32)] [(.int (64 : Int32)), (.int (7 : Int32))])) (fun t k => X140.arraylength hx (own_at_ e140 Ar144.1) (State.isArrayOf_alike hZ.alike Ar144.2.1) (g := (mkF m 19 #[rv rm, rv rt, iv (7 : Int32)] [(.ref rt), (.int (7 : Int32))])) rfl rfl (hb hby own_d25_19) t (by rw [len_of S144 G144]; exact k)) ?_
  refine own_by (g' := (mkF m 26 #[rv rm, rv rt, iv (7 : Int32)] [.null, (.int (7 : Int32)), (.ref rt)])) (fun t k => XS.icmpNo X140.here hx rfl (hb hby own_d25_20) rfl (tlt (by decide : (7 : Int32) < (64 : Int32))).2.1 (XS.aloadN X140.here hx rfl (hb hby own_d25_23) rfl rfl (XS.iloadN X140.here hx rfl (hb hby own_d25_24) rfl (XS.aconstNull X140.here hx rfl (hb hby own_d25_25) k)))) ?_
  obtain ⟨c145, Ar145, S145, G145⟩ := id Al140
  have hin145 : ¬ ((7 : Int32) < 0 ∨ c145.slots.size ≤ ((7 : Int32)).toNatClampNeg) := inb_of S145 ⟨by decide, by decide⟩
  obtain ⟨T145, h145, X145, e145, W145, st145⟩ := stR X140 hx hZ e140 Ar145 (j := (7 : Int32)) hin145 rfl (Or.inl rfl) (g := (mkF m 26 #[rv rm, rv rt, iv (7 : Int32)] [.null, (.int (7 : Int32)), (.ref rt)])) rfl rfl (hb hby own_d25_26)
  have Al145 := own_Arz.same (⟨c145, Ar145, S145, G145⟩ : own_Arz Z _ rt (.object "java/lang/Object") (64 : Int32)) W145
  have N145 := Fr.snoc X145 N140 g2
  refine own_by (g' := (mkF m 27 #[rv rm, rv rt, iv (7 : Int32)] [])) st145 ?_
  refine own_by (g' := (mkF m 17 #[rv rm, rv rt, iv (8 : Int32)] [])) (fun t k => XS.iinc X145.here hx rfl (hb hby own_d25_27) rfl (l' := #[rv rm, rv rt, iv (8 : Int32)]) rfl (XS.goto X145.here hx rfl (pc0 := 30) (pc' := 17) rfl (hb hby own_d25_30) (by decide) (by decide) k)) ?_
  have f146 := (f141.wr W145)
  have f147 := (f142.other W145 (Or.inl (own_neY E1 (hw _ (List.mem_of_getElem? (i := 10) rfl)) Y1)))
  have f148 := (f143.other W145 (Or.inl (own_neY E1 (hw _ (List.mem_of_getElem? (i := 10) rfl)) Y1)))
  refine own_by (g' := (mkF m 19 #[rv rm, rv rt, iv (8 : Int32)] [(.ref rt), (.int (8 : Int32))])) (fun t k => XS.iloadN X145.here hx rfl (hb hby own_d25_17) rfl (XS.aloadN X145.here hx rfl (hb hby own_d25_18) rfl rfl k)) ?_
  obtain ⟨c149, Ar149, S149, G149⟩ := id Al145
  refine own_by (g' := (mkF m 20 #[rv rm, rv rt, iv (8 : Int32)] [(.int (64 : Int32)), (.int (8 : Int32))])) (fun t k => X145.arraylength hx (own_at_ e145 Ar149.1) (State.isArrayOf_alike hZ.alike Ar149.2.1) (g := (mkF m 19 #[rv rm, rv rt, iv (8 : Int32)] [(.ref rt), (.int (8 : Int32))])) rfl rfl (hb hby own_d25_19) t (by rw [len_of S149 G149]; exact k)) ?_
  refine own_by (g' := (mkF m 26 #[rv rm, rv rt, iv (8 : Int32)] [.null, (.int (8 : Int32)), (.ref rt)])) (fun t k => XS.icmpNo X145.here hx rfl (hb hby own_d25_20) rfl (tlt (by decide : (8 : Int32) < (64 : Int32))).2.1 (XS.aloadN X145.here hx rfl (hb hby own_d25_23) rfl rfl (XS.iloadN X145.here hx rfl (hb hby own_d25_24) rfl (XS.aconstNull X145.here hx rfl (hb hby own_d25_25) k)))) ?_
  obtain ⟨c150, Ar150, S150, G150⟩ := id Al145
  have hin150 : ¬ ((8 : Int32) < 0 ∨ c150.slots.size ≤ ((8 : Int32)).toNatClampNeg) := inb_of S150 ⟨by decide, by decide⟩
  obtain ⟨T150, h150, X150, e150, W150, st150⟩ := stR X145 hx hZ e145 Ar150 (j := (8 : Int32)) hin150 rfl (Or.inl rfl) (g := (mkF m 26 #[rv rm, rv rt, iv (8 : Int32)] [.null, (.int (8 : Int32)), (.ref rt)])) rfl rfl (hb hby own_d25_26)
  have Al150 := own_Arz.same (⟨c150, Ar150, S150, G150⟩ : own_Arz Z _ rt (.object "java/lang/Object") (64 : Int32)) W150
  have N150 := Fr.snoc X150 N145 g2
  refine own_by (g' := (mkF m 27 #[rv rm, rv rt, iv (8 : Int32)] [])) st150 ?_
  refine own_by (g' := (mkF m 17 #[rv rm, rv rt, iv (9 : Int32)] [])) (fun t k => XS.iinc X150.here hx rfl (hb hby own_d25_27) rfl (l' := #[rv rm, rv rt, iv (9 : Int32)]) rfl (XS.goto X150.here hx rfl (pc0 := 30) (pc' := 17) rfl (hb hby own_d25_30) (by decide) (by decide) k)) ?_
  have f151 := (f146.wr W150)
  have f152 := (f147.other W150 (Or.inl (own_neY E1 (hw _ (List.mem_of_getElem? (i := 10) rfl)) Y1)))
  have f153 := (f148.other W150 (Or.inl (own_neY E1 (hw _ (List.mem_of_getElem? (i := 10) rfl)) Y1)))
  refine own_by (g' := (mkF m 19 #[rv rm, rv rt, iv (9 : Int32)] [(.ref rt), (.int (9 : Int32))])) (fun t k => XS.iloadN X150.here hx rfl (hb hby own_d25_17) rfl (XS.aloadN X150.here hx rfl (hb hby own_d25_18) rfl rfl k)) ?_
  obtain ⟨c154, Ar154, S154, G154⟩ := id Al150
  refine own_by (g' := (mkF m 20 #[rv rm, rv rt, iv (9 : Int32)] [(.int (64 : Int32)), (.int (9 : Int32))])) (fun t k => X150.arraylength hx (own_at_ e150 Ar154.1) (State.isArrayOf_alike hZ.alike Ar154.2.1) (g := (mkF m 19 #[rv rm, rv rt, iv (9 : Int32)] [(.ref rt), (.int (9 : Int32))])) rfl rfl (hb hby own_d25_19) t (by rw [len_of S154 G154]; exact k)) ?_
  refine own_by (g' := (mkF m 26 #[rv rm, rv rt, iv (9 : Int32)] [.null, (.int (9 : Int32)), (.ref rt)])) (fun t k => XS.icmpNo X150.here hx rfl (hb hby own_d25_20) rfl (tlt (by decide : (9 : Int32) < (64 : Int32))).2.1 (XS.aloadN X150.here hx rfl (hb hby own_d25_23) rfl rfl (XS.iloadN X150.here hx rfl (hb hby own_d25_24) rfl (XS.aconstNull X150.here hx rfl (hb hby own_d25_25) k)))) ?_
  obtain ⟨c155, Ar155, S155, G155⟩ := id Al150
  have hin155 : ¬ ((9 : Int32) < 0 ∨ c155.slots.size ≤ ((9 : Int32)).toNatClampNeg) := inb_of S155 ⟨by decide, by decide⟩
  obtain ⟨T155, h155, X155, e155, W155, st155⟩ := stR X150 hx hZ e150 Ar155 (j := (9 : Int32)) hin155 rfl (Or.inl rfl) (g := (mkF m 26 #[rv rm, rv rt, iv (9 : Int32)] [.null, (.int (9 : Int32)), (.ref rt)])) rfl rfl (hb hby own_d25_26)
  have Al155 := own_Arz.same (⟨c155, Ar155, S155, G155⟩ : own_Arz Z _ rt (.object "java/lang/Object") (64 : Int32)) W155
  have N155 := Fr.snoc X155 N150 g2
  refine own_by (g' := (mkF m 27 #[rv rm, rv rt, iv (9 : Int32)] [])) st155 ?_
  refine own_by (g' := (mkF m 17 #[rv rm, rv rt, iv (10 : Int32)] [])) (fun t k => XS.iinc X155.here hx rfl (hb hby own_d25_27) rfl (l' := #[rv rm, rv rt, iv (10 : Int32)]) rfl (XS.goto X155.here hx rfl (pc0 := 30) (pc' := 17) rfl (hb hby own_d25_30) (by decide) (by decide) k)) ?_
  have f156 := (f151.wr W155)
  have f157 := (f152.other W155 (Or.inl (own_neY E1 (hw _ (List.mem_of_getElem? (i := 10) rfl)) Y1)))
  have f158 := (f153.other W155 (Or.inl (own_neY E1 (hw _ (List.mem_of_getElem? (i := 10) rfl)) Y1)))
  refine own_by (g' := (mkF m 19 #[rv rm, rv rt, iv (10 : Int32)] [(.ref rt), (.int (10 : Int32))])) (fun t k => XS.iloadN X155.here hx rfl (hb hby own_d25_17) rfl (XS.aloadN X155.here hx rfl (hb hby own_d25_18) rfl rfl k)) ?_
  obtain ⟨c159, Ar159, S159, G159⟩ := id Al155
  refine own_by (g' := (mkF m 20 #[rv rm, rv rt, iv (10 : Int32)] [(.int (64 : Int32)), (.int (10 : Int32))])) (fun t k => X155.arraylength hx (own_at_ e155 Ar159.1) (State.isArrayOf_alike hZ.alike Ar159.2.1) (g := (mkF m 19 #[rv rm, rv rt, iv (10 : Int32)] [(.ref rt), (.int (10 : Int32))])) rfl rfl (hb hby own_d25_19) t (by rw [len_of S159 G159]; exact k)) ?_
  refine own_by (g' := (mkF m 26 #[rv rm, rv rt, iv (10 : Int32)] [.null, (.int (10 : Int32)), (.ref rt)])) (fun t k => XS.icmpNo X155.here hx rfl (hb hby own_d25_20) rfl (tlt (by decide : (10 : Int32) < (64 : Int32))).2.1 (XS.aloadN X155.here hx rfl (hb hby own_d25_23) rfl rfl (XS.iloadN X155.here hx rfl (hb hby own_d25_24) rfl (XS.aconstNull X155.here hx rfl (hb hby own_d25_25) k)))) ?_
  obtain ⟨c160, Ar160, S160, G160⟩ := id Al155
  have hin160 : ¬ ((10 : Int32) < 0 ∨ c160.slots.size ≤ ((10 : Int32)).toNatClampNeg) := inb_of S160 ⟨by decide, by decide⟩
  obtain ⟨T160, h160, X160, e160, W160, st160⟩ := stR X155 hx hZ e155 Ar160 (j := (10 : Int32)) hin160 rfl (Or.inl rfl) (g := (mkF m 26 #[rv rm, rv rt, iv (10 : Int32)] [.null, (.int (10 : Int32)), (.ref rt)])) rfl rfl (hb hby own_d25_26)
  have Al160 := own_Arz.same (⟨c160, Ar160, S160, G160⟩ : own_Arz Z _ rt (.object "java/lang/Object") (64 : Int32)) W160
  have N160 := Fr.snoc X160 N155 g2
  refine own_by (g' := (mkF m 27 #[rv rm, rv rt, iv (10 : Int32)] [])) st160 ?_
  refine own_by (g' := (mkF m 17 #[rv rm, rv rt, iv (11 : Int32)] [])) (fun t k => XS.iinc X160.here hx rfl (hb hby own_d25_27) rfl (l' := #[rv rm, rv rt, iv (11 : Int32)]) rfl (XS.goto X160.here hx rfl (pc0 := 30) (pc' := 17) rfl (hb hby own_d25_30) (by decide) (by decide) k)) ?_
  have f161 := (f156.wr W160)
  have f162 := (f157.other W160 (Or.inl (own_neY E1 (hw _ (List.mem_of_getElem? (i := 10) rfl)) Y1)))
  have f163 := (f158.other W160 (Or.inl (own_neY E1 (hw _ (List.mem_of_getElem? (i := 10) rfl)) Y1)))
  refine own_by (g' := (mkF m 19 #[rv rm, rv rt, iv (11 : Int32)] [(.ref rt), (.int (11 : Int32))])) (fun t k => XS.iloadN X160.here hx rfl (hb hby own_d25_17) rfl (XS.aloadN X160.here hx rfl (hb hby own_d25_18) rfl rfl k)) ?_
  obtain ⟨c164, Ar164, S164, G164⟩ := id Al160
  refine own_by (g' := (mkF m 20 #[rv rm, rv rt, iv (11 : Int32)] [(.int (64 : Int32)), (.int (11 : Int32))])) (fun t k => X160.arraylength hx (own_at_ e160 Ar164.1) (State.isArrayOf_alike hZ.alike Ar164.2.1) (g := (mkF m 19 #[rv rm, rv rt, iv (11 : Int32)] [(.ref rt), (.int (11 : Int32))])) rfl rfl (hb hby own_d25_19) t (by rw [len_of S164 G164]; exact k)) ?_
  refine own_by (g' := (mkF m 26 #[rv rm, rv rt, iv (11 : Int32)] [.null, (.int (11 : Int32)), (.ref rt)])) (fun t k => XS.icmpNo X160.here hx rfl (hb hby own_d25_20) rfl (tlt (by decide : (11 : Int32) < (64 : Int32))).2.1 (XS.aloadN X160.here hx rfl (hb hby own_d25_23) rfl rfl (XS.iloadN X160.here hx rfl (hb hby own_d25_24) rfl (XS.aconstNull X160.here hx rfl (hb hby own_d25_25) k)))) ?_
  obtain ⟨c165, Ar165, S165, G165⟩ := id Al160
  have hin165 : ¬ ((11 : Int32) < 0 ∨ c165.slots.size ≤ ((11 : Int32)).toNatClampNeg) := inb_of S165 ⟨by decide, by decide⟩
  obtain ⟨T165, h165, X165, e165, W165, st165⟩ := stR X160 hx hZ e160 Ar165 (j := (11 : Int32)) hin165 rfl (Or.inl rfl) (g := (mkF m 26 #[rv rm, rv rt, iv (11 : Int32)] [.null, (.int (11 : Int32)), (.ref rt)])) rfl rfl (hb hby own_d25_26)
  have Al165 := own_Arz.same (⟨c165, Ar165, S165, G165⟩ : own_Arz Z _ rt (.object "java/lang/Object") (64 : Int32)) W165
  have N165 := Fr.snoc X165 N160 g2
  refine own_by (g' := (mkF m 27 #[rv rm, rv rt, iv (11 : Int32)] [])) st165 ?_
  refine own_by (g' := (mkF m 17 #[rv rm, rv rt, iv (12 : Int32)] [])) (fun t k => XS.iinc X165.here hx rfl (hb hby own_d25_27) rfl (l' := #[rv rm, rv rt, iv (12 : Int32)]) rfl (XS.goto X165.here hx rfl (pc0 := 30) (pc' := 17) rfl (hb hby own_d25_30) (by decide) (by decide) k)) ?_
  have f166 := (f161.wr W165)
  have f167 := (f162.other W165 (Or.inl (own_neY E1 (hw _ (List.mem_of_getElem? (i := 10) rfl)) Y1)))
  have f168 := (f163.other W165 (Or.inl (own_neY E1 (hw _ (List.mem_of_getElem? (i := 10) rfl)) Y1)))
  refine own_by (g' := (mkF m 19 #[rv rm, rv rt, iv (12 : Int32)] [(.ref rt), (.int (12 : Int32))])) (fun t k => XS.iloadN X165.here hx rfl (hb hby own_d25_17) rfl (XS.aloadN X165.here hx rfl (hb hby own_d25_18) rfl rfl k)) ?_
  obtain ⟨c169, Ar169, S169, G169⟩ := id Al165
  refine own_by (g' := (mkF m 20 #[rv rm, rv rt, iv (12 : Int32)] [(.int (64 : Int32)), (.int (12 : Int32))])) (fun t k => X165.arraylength hx (own_at_ e165 Ar169.1) (State.isArrayOf_alike hZ.alike Ar169.2.1) (g := (mkF m 19 #[rv rm, rv rt, iv (12 : Int32)] [(.ref rt), (.int (12 : Int32))])) rfl rfl (hb hby own_d25_19) t (by rw [len_of S169 G169]; exact k)) ?_
  refine own_by (g' := (mkF m 26 #[rv rm, rv rt, iv (12 : Int32)] [.null, (.int (12 : Int32)), (.ref rt)])) (fun t k => XS.icmpNo X165.here hx rfl (hb hby own_d25_20) rfl (tlt (by decide : (12 : Int32) < (64 : Int32))).2.1 (XS.aloadN X165.here hx rfl (hb hby own_d25_23) rfl rfl (XS.iloadN X165.here hx rfl (hb hby own_d25_24) rfl (XS.aconstNull X165.here hx rfl (hb hby own_d25_25) k)))) ?_
  obtain ⟨c170, Ar170, S170, G170⟩ := id Al165
  have hin170 : ¬ ((12 : Int32) < 0 ∨ c170.slots.size ≤ ((12 : Int32)).toNatClampNeg) := inb_of S170 ⟨by decide, by decide⟩
  obtain ⟨T170, h170, X170, e170, W170, st170⟩ := stR X165 hx hZ e165 Ar170 (j := (12 : Int32)) hin170 rfl (Or.inl rfl) (g := (mkF m 26 #[rv rm, rv rt, iv (12 : Int32)] [.null, (.int (12 : Int32)), (.ref rt)])) rfl rfl (hb hby own_d25_26)
  have Al170 := own_Arz.same (⟨c170, Ar170, S170, G170⟩ : own_Arz Z _ rt (.object "java/lang/Object") (64 : Int32)) W170
  have N170 := Fr.snoc X170 N165 g2
  refine own_by (g' := (mkF m 27 #[rv rm, rv rt, iv (12 : Int32)] [])) st170 ?_
  refine own_by (g' := (mkF m 17 #[rv rm, rv rt, iv (13 : Int32)] [])) (fun t k => XS.iinc X170.here hx rfl (hb hby own_d25_27) rfl (l' := #[rv rm, rv rt, iv (13 : Int32)]) rfl (XS.goto X170.here hx rfl (pc0 := 30) (pc' := 17) rfl (hb hby own_d25_30) (by decide) (by decide) k)) ?_
  have f171 := (f166.wr W170)
  have f172 := (f167.other W170 (Or.inl (own_neY E1 (hw _ (List.mem_of_getElem? (i := 10) rfl)) Y1)))
  have f173 := (f168.other W170 (Or.inl (own_neY E1 (hw _ (List.mem_of_getElem? (i := 10) rfl)) Y1)))
  refine own_by (g' := (mkF m 19 #[rv rm, rv rt, iv (13 : Int32)] [(.ref rt), (.int (13 : Int32))])) (fun t k => XS.iloadN X170.here hx rfl (hb hby own_d25_17) rfl (XS.aloadN X170.here hx rfl (hb hby own_d25_18) rfl rfl k)) ?_
  obtain ⟨c174, Ar174, S174, G174⟩ := id Al170
  refine own_by (g' := (mkF m 20 #[rv rm, rv rt, iv (13 : Int32)] [(.int (64 : Int32)), (.int (13 : Int32))])) (fun t k => X170.arraylength hx (own_at_ e170 Ar174.1) (State.isArrayOf_alike hZ.alike Ar174.2.1) (g := (mkF m 19 #[rv rm, rv rt, iv (13 : Int32)] [(.ref rt), (.int (13 : Int32))])) rfl rfl (hb hby own_d25_19) t (by rw [len_of S174 G174]; exact k)) ?_
  refine own_by (g' := (mkF m 26 #[rv rm, rv rt, iv (13 : Int32)] [.null, (.int (13 : Int32)), (.ref rt)])) (fun t k => XS.icmpNo X170.here hx rfl (hb hby own_d25_20) rfl (tlt (by decide : (13 : Int32) < (64 : Int32))).2.1 (XS.aloadN X170.here hx rfl (hb hby own_d25_23) rfl rfl (XS.iloadN X170.here hx rfl (hb hby own_d25_24) rfl (XS.aconstNull X170.here hx rfl (hb hby own_d25_25) k)))) ?_
  obtain ⟨c175, Ar175, S175, G175⟩ := id Al170
  have hin175 : ¬ ((13 : Int32) < 0 ∨ c175.slots.size ≤ ((13 : Int32)).toNatClampNeg) := inb_of S175 ⟨by decide, by decide⟩
  obtain ⟨T175, h175, X175, e175, W175, st175⟩ := stR X170 hx hZ e170 Ar175 (j := (13 : Int32)) hin175 rfl (Or.inl rfl) (g := (mkF m 26 #[rv rm, rv rt, iv (13 : Int32)] [.null, (.int (13 : Int32)), (.ref rt)])) rfl rfl (hb hby own_d25_26)
  have Al175 := own_Arz.same (⟨c175, Ar175, S175, G175⟩ : own_Arz Z _ rt (.object "java/lang/Object") (64 : Int32)) W175
  have N175 := Fr.snoc X175 N170 g2
  refine own_by (g' := (mkF m 27 #[rv rm, rv rt, iv (13 : Int32)] [])) st175 ?_
  refine own_by (g' := (mkF m 17 #[rv rm, rv rt, iv (14 : Int32)] [])) (fun t k => XS.iinc X175.here hx rfl (hb hby own_d25_27) rfl (l' := #[rv rm, rv rt, iv (14 : Int32)]) rfl (XS.goto X175.here hx rfl (pc0 := 30) (pc' := 17) rfl (hb hby own_d25_30) (by decide) (by decide) k)) ?_
  have f176 := (f171.wr W175)
  have f177 := (f172.other W175 (Or.inl (own_neY E1 (hw _ (List.mem_of_getElem? (i := 10) rfl)) Y1)))
  have f178 := (f173.other W175 (Or.inl (own_neY E1 (hw _ (List.mem_of_getElem? (i := 10) rfl)) Y1)))
  refine own_by (g' := (mkF m 19 #[rv rm, rv rt, iv (14 : Int32)] [(.ref rt), (.int (14 : Int32))])) (fun t k => XS.iloadN X175.here hx rfl (hb hby own_d25_17) rfl (XS.aloadN X175.here hx rfl (hb hby own_d25_18) rfl rfl k)) ?_
  obtain ⟨c179, Ar179, S179, G179⟩ := id Al175
  refine own_by (g' := (mkF m 20 #[rv rm, rv rt, iv (14 : Int32)] [(.int (64 : Int32)), (.int (14 : Int32))])) (fun t k => X175.arraylength hx (own_at_ e175 Ar179.1) (State.isArrayOf_alike hZ.alike Ar179.2.1) (g := (mkF m 19 #[rv rm, rv rt, iv (14 : Int32)] [(.ref rt), (.int (14 : Int32))])) rfl rfl (hb hby own_d25_19) t (by rw [len_of S179 G179]; exact k)) ?_
  refine own_by (g' := (mkF m 26 #[rv rm, rv rt, iv (14 : Int32)] [.null, (.int (14 : Int32)), (.ref rt)])) (fun t k => XS.icmpNo X175.here hx rfl (hb hby own_d25_20) rfl (tlt (by decide : (14 : Int32) < (64 : Int32))).2.1 (XS.aloadN X175.here hx rfl (hb hby own_d25_23) rfl rfl (XS.iloadN X175.here hx rfl (hb hby own_d25_24) rfl (XS.aconstNull X175.here hx rfl (hb hby own_d25_25) k)))) ?_
  obtain ⟨c180, Ar180, S180, G180⟩ := id Al175
  have hin180 : ¬ ((14 : Int32) < 0 ∨ c180.slots.size ≤ ((14 : Int32)).toNatClampNeg) := inb_of S180 ⟨by decide, by decide⟩
  obtain ⟨T180, h180, X180, e180, W180, st180⟩ := stR X175 hx hZ e175 Ar180 (j := (14 : Int32)) hin180 rfl (Or.inl rfl) (g := (mkF m 26 #[rv rm, rv rt, iv (14 : Int32)] [.null, (.int (14 : Int32)), (.ref rt)])) rfl rfl (hb hby own_d25_26)
  have Al180 := own_Arz.same (⟨c180, Ar180, S180, G180⟩ : own_Arz Z _ rt (.object "java/lang/Object") (64 : Int32)) W180
  have N180 := Fr.snoc X180 N175 g2
  refine own_by (g' := (mkF m 27 #[rv rm, rv rt, iv (14 : Int32)] [])) st180 ?_
  refine own_by (g' := (mkF m 17 #[rv rm, rv rt, iv (15 : Int32)] [])) (fun t k => XS.iinc X180.here hx rfl (hb hby own_d25_27) rfl (l' := #[rv rm, rv rt, iv (15 : Int32)]) rfl (XS.goto X180.here hx rfl (pc0 := 30) (pc' := 17) rfl (hb hby own_d25_30) (by decide) (by decide) k)) ?_
  have f181 := (f176.wr W180)
  have f182 := (f177.other W180 (Or.inl (own_neY E1 (hw _ (List.mem_of_getElem? (i := 10) rfl)) Y1)))
  have f183 := (f178.other W180 (Or.inl (own_neY E1 (hw _ (List.mem_of_getElem? (i := 10) rfl)) Y1)))
  refine own_by (g' := (mkF m 19 #[rv rm, rv rt, iv (15 : Int32)] [(.ref rt), (.int (15 : Int32))])) (fun t k => XS.iloadN X180.here hx rfl (hb hby own_d25_17) rfl (XS.aloadN X180.here hx rfl (hb hby own_d25_18) rfl rfl k)) ?_
  obtain ⟨c184, Ar184, S184, G184⟩ := id Al180
  refine own_by (g' := (mkF m 20 #[rv rm, rv rt, iv (15 : Int32)] [(.int (64 : Int32)), (.int (15 : Int32))])) (fun t k => X180.arraylength hx (own_at_ e180 Ar184.1) (State.isArrayOf_alike hZ.alike Ar184.2.1) (g := (mkF m 19 #[rv rm, rv rt, iv (15 : Int32)] [(.ref rt), (.int (15 : Int32))])) rfl rfl (hb hby own_d25_19) t (by rw [len_of S184 G184]; exact k)) ?_
  refine own_by (g' := (mkF m 26 #[rv rm, rv rt, iv (15 : Int32)] [.null, (.int (15 : Int32)), (.ref rt)])) (fun t k => XS.icmpNo X180.here hx rfl (hb hby own_d25_20) rfl (tlt (by decide : (15 : Int32) < (64 : Int32))).2.1 (XS.aloadN X180.here hx rfl (hb hby own_d25_23) rfl rfl (XS.iloadN X180.here hx rfl (hb hby own_d25_24) rfl (XS.aconstNull X180.here hx rfl (hb hby own_d25_25) k)))) ?_
  obtain ⟨c185, Ar185, S185, G185⟩ := id Al180
  have hin185 : ¬ ((15 : Int32) < 0 ∨ c185.slots.size ≤ ((15 : Int32)).toNatClampNeg) := inb_of S185 ⟨by decide, by decide⟩
  obtain ⟨T185, h185, X185, e185, W185, st185⟩ := stR X180 hx hZ e180 Ar185 (j := (15 : Int32)) hin185 rfl (Or.inl rfl) (g := (mkF m 26 #[rv rm, rv rt, iv (15 : Int32)] [.null, (.int (15 : Int32)), (.ref rt)])) rfl rfl (hb hby own_d25_26)
  have Al185 := own_Arz.same (⟨c185, Ar185, S185, G185⟩ : own_Arz Z _ rt (.object "java/lang/Object") (64 : Int32)) W185
  have N185 := Fr.snoc X185 N180 g2
  refine own_by (g' := (mkF m 27 #[rv rm, rv rt, iv (15 : Int32)] [])) st185 ?_
  refine own_by (g' := (mkF m 17 #[rv rm, rv rt, iv (16 : Int32)] [])) (fun t k => XS.iinc X185.here hx rfl (hb hby own_d25_27) rfl (l' := #[rv rm, rv rt, iv (16 : Int32)]) rfl (XS.goto X185.here hx rfl (pc0 := 30) (pc' := 17) rfl (hb hby own_d25_30) (by decide) (by decide) k)) ?_
  have f186 := (f181.wr W185)
  have f187 := (f182.other W185 (Or.inl (own_neY E1 (hw _ (List.mem_of_getElem? (i := 10) rfl)) Y1)))
  have f188 := (f183.other W185 (Or.inl (own_neY E1 (hw _ (List.mem_of_getElem? (i := 10) rfl)) Y1)))
  refine own_by (g' := (mkF m 19 #[rv rm, rv rt, iv (16 : Int32)] [(.ref rt), (.int (16 : Int32))])) (fun t k => XS.iloadN X185.here hx rfl (hb hby own_d25_17) rfl (XS.aloadN X185.here hx rfl (hb hby own_d25_18) rfl rfl k)) ?_
  obtain ⟨c189, Ar189, S189, G189⟩ := id Al185
  refine own_by (g' := (mkF m 20 #[rv rm, rv rt, iv (16 : Int32)] [(.int (64 : Int32)), (.int (16 : Int32))])) (fun t k => X185.arraylength hx (own_at_ e185 Ar189.1) (State.isArrayOf_alike hZ.alike Ar189.2.1) (g := (mkF m 19 #[rv rm, rv rt, iv (16 : Int32)] [(.ref rt), (.int (16 : Int32))])) rfl rfl (hb hby own_d25_19) t (by rw [len_of S189 G189]; exact k)) ?_
  refine own_by (g' := (mkF m 26 #[rv rm, rv rt, iv (16 : Int32)] [.null, (.int (16 : Int32)), (.ref rt)])) (fun t k => XS.icmpNo X185.here hx rfl (hb hby own_d25_20) rfl (tlt (by decide : (16 : Int32) < (64 : Int32))).2.1 (XS.aloadN X185.here hx rfl (hb hby own_d25_23) rfl rfl (XS.iloadN X185.here hx rfl (hb hby own_d25_24) rfl (XS.aconstNull X185.here hx rfl (hb hby own_d25_25) k)))) ?_
  obtain ⟨c190, Ar190, S190, G190⟩ := id Al185
  have hin190 : ¬ ((16 : Int32) < 0 ∨ c190.slots.size ≤ ((16 : Int32)).toNatClampNeg) := inb_of S190 ⟨by decide, by decide⟩
  obtain ⟨T190, h190, X190, e190, W190, st190⟩ := stR X185 hx hZ e185 Ar190 (j := (16 : Int32)) hin190 rfl (Or.inl rfl) (g := (mkF m 26 #[rv rm, rv rt, iv (16 : Int32)] [.null, (.int (16 : Int32)), (.ref rt)])) rfl rfl (hb hby own_d25_26)
  have Al190 := own_Arz.same (⟨c190, Ar190, S190, G190⟩ : own_Arz Z _ rt (.object "java/lang/Object") (64 : Int32)) W190
  have N190 := Fr.snoc X190 N185 g2
  refine own_by (g' := (mkF m 27 #[rv rm, rv rt, iv (16 : Int32)] [])) st190 ?_
  refine own_by (g' := (mkF m 17 #[rv rm, rv rt, iv (17 : Int32)] [])) (fun t k => XS.iinc X190.here hx rfl (hb hby own_d25_27) rfl (l' := #[rv rm, rv rt, iv (17 : Int32)]) rfl (XS.goto X190.here hx rfl (pc0 := 30) (pc' := 17) rfl (hb hby own_d25_30) (by decide) (by decide) k)) ?_
  have f191 := (f186.wr W190)
  have f192 := (f187.other W190 (Or.inl (own_neY E1 (hw _ (List.mem_of_getElem? (i := 10) rfl)) Y1)))
  have f193 := (f188.other W190 (Or.inl (own_neY E1 (hw _ (List.mem_of_getElem? (i := 10) rfl)) Y1)))
  refine own_by (g' := (mkF m 19 #[rv rm, rv rt, iv (17 : Int32)] [(.ref rt), (.int (17 : Int32))])) (fun t k => XS.iloadN X190.here hx rfl (hb hby own_d25_17) rfl (XS.aloadN X190.here hx rfl (hb hby own_d25_18) rfl rfl k)) ?_
  obtain ⟨c194, Ar194, S194, G194⟩ := id Al190
  refine own_by (g' := (mkF m 20 #[rv rm, rv rt, iv (17 : Int32)] [(.int (64 : Int32)), (.int (17 : Int32))])) (fun t k => X190.arraylength hx (own_at_ e190 Ar194.1) (State.isArrayOf_alike hZ.alike Ar194.2.1) (g := (mkF m 19 #[rv rm, rv rt, iv (17 : Int32)] [(.ref rt), (.int (17 : Int32))])) rfl rfl (hb hby own_d25_19) t (by rw [len_of S194 G194]; exact k)) ?_
  refine own_by (g' := (mkF m 26 #[rv rm, rv rt, iv (17 : Int32)] [.null, (.int (17 : Int32)), (.ref rt)])) (fun t k => XS.icmpNo X190.here hx rfl (hb hby own_d25_20) rfl (tlt (by decide : (17 : Int32) < (64 : Int32))).2.1 (XS.aloadN X190.here hx rfl (hb hby own_d25_23) rfl rfl (XS.iloadN X190.here hx rfl (hb hby own_d25_24) rfl (XS.aconstNull X190.here hx rfl (hb hby own_d25_25) k)))) ?_
  obtain ⟨c195, Ar195, S195, G195⟩ := id Al190
  have hin195 : ¬ ((17 : Int32) < 0 ∨ c195.slots.size ≤ ((17 : Int32)).toNatClampNeg) := inb_of S195 ⟨by decide, by decide⟩
  obtain ⟨T195, h195, X195, e195, W195, st195⟩ := stR X190 hx hZ e190 Ar195 (j := (17 : Int32)) hin195 rfl (Or.inl rfl) (g := (mkF m 26 #[rv rm, rv rt, iv (17 : Int32)] [.null, (.int (17 : Int32)), (.ref rt)])) rfl rfl (hb hby own_d25_26)
  have Al195 := own_Arz.same (⟨c195, Ar195, S195, G195⟩ : own_Arz Z _ rt (.object "java/lang/Object") (64 : Int32)) W195
  have N195 := Fr.snoc X195 N190 g2
  refine own_by (g' := (mkF m 27 #[rv rm, rv rt, iv (17 : Int32)] [])) st195 ?_
  refine own_by (g' := (mkF m 17 #[rv rm, rv rt, iv (18 : Int32)] [])) (fun t k => XS.iinc X195.here hx rfl (hb hby own_d25_27) rfl (l' := #[rv rm, rv rt, iv (18 : Int32)]) rfl (XS.goto X195.here hx rfl (pc0 := 30) (pc' := 17) rfl (hb hby own_d25_30) (by decide) (by decide) k)) ?_
  have f196 := (f191.wr W195)
  have f197 := (f192.other W195 (Or.inl (own_neY E1 (hw _ (List.mem_of_getElem? (i := 10) rfl)) Y1)))
  have f198 := (f193.other W195 (Or.inl (own_neY E1 (hw _ (List.mem_of_getElem? (i := 10) rfl)) Y1)))
  refine own_by (g' := (mkF m 19 #[rv rm, rv rt, iv (18 : Int32)] [(.ref rt), (.int (18 : Int32))])) (fun t k => XS.iloadN X195.here hx rfl (hb hby own_d25_17) rfl (XS.aloadN X195.here hx rfl (hb hby own_d25_18) rfl rfl k)) ?_
  obtain ⟨c199, Ar199, S199, G199⟩ := id Al195
  refine own_by (g' := (mkF m 20 #[rv rm, rv rt, iv (18 : Int32)] [(.int (64 : Int32)), (.int (18 : Int32))])) (fun t k => X195.arraylength hx (own_at_ e195 Ar199.1) (State.isArrayOf_alike hZ.alike Ar199.2.1) (g := (mkF m 19 #[rv rm, rv rt, iv (18 : Int32)] [(.ref rt), (.int (18 : Int32))])) rfl rfl (hb hby own_d25_19) t (by rw [len_of S199 G199]; exact k)) ?_
  refine own_by (g' := (mkF m 26 #[rv rm, rv rt, iv (18 : Int32)] [.null, (.int (18 : Int32)), (.ref rt)])) (fun t k => XS.icmpNo X195.here hx rfl (hb hby own_d25_20) rfl (tlt (by decide : (18 : Int32) < (64 : Int32))).2.1 (XS.aloadN X195.here hx rfl (hb hby own_d25_23) rfl rfl (XS.iloadN X195.here hx rfl (hb hby own_d25_24) rfl (XS.aconstNull X195.here hx rfl (hb hby own_d25_25) k)))) ?_
  obtain ⟨c200, Ar200, S200, G200⟩ := id Al195
  have hin200 : ¬ ((18 : Int32) < 0 ∨ c200.slots.size ≤ ((18 : Int32)).toNatClampNeg) := inb_of S200 ⟨by decide, by decide⟩
  obtain ⟨T200, h200, X200, e200, W200, st200⟩ := stR X195 hx hZ e195 Ar200 (j := (18 : Int32)) hin200 rfl (Or.inl rfl) (g := (mkF m 26 #[rv rm, rv rt, iv (18 : Int32)] [.null, (.int (18 : Int32)), (.ref rt)])) rfl rfl (hb hby own_d25_26)
  have Al200 := own_Arz.same (⟨c200, Ar200, S200, G200⟩ : own_Arz Z _ rt (.object "java/lang/Object") (64 : Int32)) W200
  have N200 := Fr.snoc X200 N195 g2
  refine own_by (g' := (mkF m 27 #[rv rm, rv rt, iv (18 : Int32)] [])) st200 ?_
  refine own_by (g' := (mkF m 17 #[rv rm, rv rt, iv (19 : Int32)] [])) (fun t k => XS.iinc X200.here hx rfl (hb hby own_d25_27) rfl (l' := #[rv rm, rv rt, iv (19 : Int32)]) rfl (XS.goto X200.here hx rfl (pc0 := 30) (pc' := 17) rfl (hb hby own_d25_30) (by decide) (by decide) k)) ?_
  have f201 := (f196.wr W200)
  have f202 := (f197.other W200 (Or.inl (own_neY E1 (hw _ (List.mem_of_getElem? (i := 10) rfl)) Y1)))
  have f203 := (f198.other W200 (Or.inl (own_neY E1 (hw _ (List.mem_of_getElem? (i := 10) rfl)) Y1)))
  refine own_by (g' := (mkF m 19 #[rv rm, rv rt, iv (19 : Int32)] [(.ref rt), (.int (19 : Int32))])) (fun t k => XS.iloadN X200.here hx rfl (hb hby own_d25_17) rfl (XS.aloadN X200.here hx rfl (hb hby own_d25_18) rfl rfl k)) ?_
  obtain ⟨c204, Ar204, S204, G204⟩ := id Al200
  refine own_by (g' := (mkF m 20 #[rv rm, rv rt, iv (19 : Int32)] [(.int (64 : Int32)), (.int (19 : Int32))])) (fun t k => X200.arraylength hx (own_at_ e200 Ar204.1) (State.isArrayOf_alike hZ.alike Ar204.2.1) (g := (mkF m 19 #[rv rm, rv rt, iv (19 : Int32)] [(.ref rt), (.int (19 : Int32))])) rfl rfl (hb hby own_d25_19) t (by rw [len_of S204 G204]; exact k)) ?_
  refine own_by (g' := (mkF m 26 #[rv rm, rv rt, iv (19 : Int32)] [.null, (.int (19 : Int32)), (.ref rt)])) (fun t k => XS.icmpNo X200.here hx rfl (hb hby own_d25_20) rfl (tlt (by decide : (19 : Int32) < (64 : Int32))).2.1 (XS.aloadN X200.here hx rfl (hb hby own_d25_23) rfl rfl (XS.iloadN X200.here hx rfl (hb hby own_d25_24) rfl (XS.aconstNull X200.here hx rfl (hb hby own_d25_25) k)))) ?_
  obtain ⟨c205, Ar205, S205, G205⟩ := id Al200
  have hin205 : ¬ ((19 : Int32) < 0 ∨ c205.slots.size ≤ ((19 : Int32)).toNatClampNeg) := inb_of S205 ⟨by decide, by decide⟩
  obtain ⟨T205, h205, X205, e205, W205, st205⟩ := stR X200 hx hZ e200 Ar205 (j := (19 : Int32)) hin205 rfl (Or.inl rfl) (g := (mkF m 26 #[rv rm, rv rt, iv (19 : Int32)] [.null, (.int (19 : Int32)), (.ref rt)])) rfl rfl (hb hby own_d25_26)
  have Al205 := own_Arz.same (⟨c205, Ar205, S205, G205⟩ : own_Arz Z _ rt (.object "java/lang/Object") (64 : Int32)) W205
  have N205 := Fr.snoc X205 N200 g2
  refine own_by (g' := (mkF m 27 #[rv rm, rv rt, iv (19 : Int32)] [])) st205 ?_
  refine own_by (g' := (mkF m 17 #[rv rm, rv rt, iv (20 : Int32)] [])) (fun t k => XS.iinc X205.here hx rfl (hb hby own_d25_27) rfl (l' := #[rv rm, rv rt, iv (20 : Int32)]) rfl (XS.goto X205.here hx rfl (pc0 := 30) (pc' := 17) rfl (hb hby own_d25_30) (by decide) (by decide) k)) ?_
  have f206 := (f201.wr W205)
  have f207 := (f202.other W205 (Or.inl (own_neY E1 (hw _ (List.mem_of_getElem? (i := 10) rfl)) Y1)))
  have f208 := (f203.other W205 (Or.inl (own_neY E1 (hw _ (List.mem_of_getElem? (i := 10) rfl)) Y1)))
  refine own_by (g' := (mkF m 19 #[rv rm, rv rt, iv (20 : Int32)] [(.ref rt), (.int (20 : Int32))])) (fun t k => XS.iloadN X205.here hx rfl (hb hby own_d25_17) rfl (XS.aloadN X205.here hx rfl (hb hby own_d25_18) rfl rfl k)) ?_
  obtain ⟨c209, Ar209, S209, G209⟩ := id Al205
  refine own_by (g' := (mkF m 20 #[rv rm, rv rt, iv (20 : Int32)] [(.int (64 : Int32)), (.int (20 : Int32))])) (fun t k => X205.arraylength hx (own_at_ e205 Ar209.1) (State.isArrayOf_alike hZ.alike Ar209.2.1) (g := (mkF m 19 #[rv rm, rv rt, iv (20 : Int32)] [(.ref rt), (.int (20 : Int32))])) rfl rfl (hb hby own_d25_19) t (by rw [len_of S209 G209]; exact k)) ?_
  refine own_by (g' := (mkF m 26 #[rv rm, rv rt, iv (20 : Int32)] [.null, (.int (20 : Int32)), (.ref rt)])) (fun t k => XS.icmpNo X205.here hx rfl (hb hby own_d25_20) rfl (tlt (by decide : (20 : Int32) < (64 : Int32))).2.1 (XS.aloadN X205.here hx rfl (hb hby own_d25_23) rfl rfl (XS.iloadN X205.here hx rfl (hb hby own_d25_24) rfl (XS.aconstNull X205.here hx rfl (hb hby own_d25_25) k)))) ?_
  obtain ⟨c210, Ar210, S210, G210⟩ := id Al205
  have hin210 : ¬ ((20 : Int32) < 0 ∨ c210.slots.size ≤ ((20 : Int32)).toNatClampNeg) := inb_of S210 ⟨by decide, by decide⟩
  obtain ⟨T210, h210, X210, e210, W210, st210⟩ := stR X205 hx hZ e205 Ar210 (j := (20 : Int32)) hin210 rfl (Or.inl rfl) (g := (mkF m 26 #[rv rm, rv rt, iv (20 : Int32)] [.null, (.int (20 : Int32)), (.ref rt)])) rfl rfl (hb hby own_d25_26)
  have Al210 := own_Arz.same (⟨c210, Ar210, S210, G210⟩ : own_Arz Z _ rt (.object "java/lang/Object") (64 : Int32)) W210
  have N210 := Fr.snoc X210 N205 g2
  refine own_by (g' := (mkF m 27 #[rv rm, rv rt, iv (20 : Int32)] [])) st210 ?_
  refine own_by (g' := (mkF m 17 #[rv rm, rv rt, iv (21 : Int32)] [])) (fun t k => XS.iinc X210.here hx rfl (hb hby own_d25_27) rfl (l' := #[rv rm, rv rt, iv (21 : Int32)]) rfl (XS.goto X210.here hx rfl (pc0 := 30) (pc' := 17) rfl (hb hby own_d25_30) (by decide) (by decide) k)) ?_
  have f211 := (f206.wr W210)
  have f212 := (f207.other W210 (Or.inl (own_neY E1 (hw _ (List.mem_of_getElem? (i := 10) rfl)) Y1)))
  have f213 := (f208.other W210 (Or.inl (own_neY E1 (hw _ (List.mem_of_getElem? (i := 10) rfl)) Y1)))
  refine own_by (g' := (mkF m 19 #[rv rm, rv rt, iv (21 : Int32)] [(.ref rt), (.int (21 : Int32))])) (fun t k => XS.iloadN X210.here hx rfl (hb hby own_d25_17) rfl (XS.aloadN X210.here hx rfl (hb hby own_d25_18) rfl rfl k)) ?_
  obtain ⟨c214, Ar214, S214, G214⟩ := id Al210
  refine own_by (g' := (mkF m 20 #[rv rm, rv rt, iv (21 : Int32)] [(.int (64 : Int32)), (.int (21 : Int32))])) (fun t k => X210.arraylength hx (own_at_ e210 Ar214.1) (State.isArrayOf_alike hZ.alike Ar214.2.1) (g := (mkF m 19 #[rv rm, rv rt, iv (21 : Int32)] [(.ref rt), (.int (21 : Int32))])) rfl rfl (hb hby own_d25_19) t (by rw [len_of S214 G214]; exact k)) ?_
  refine own_by (g' := (mkF m 26 #[rv rm, rv rt, iv (21 : Int32)] [.null, (.int (21 : Int32)), (.ref rt)])) (fun t k => XS.icmpNo X210.here hx rfl (hb hby own_d25_20) rfl (tlt (by decide : (21 : Int32) < (64 : Int32))).2.1 (XS.aloadN X210.here hx rfl (hb hby own_d25_23) rfl rfl (XS.iloadN X210.here hx rfl (hb hby own_d25_24) rfl (XS.aconstNull X210.here hx rfl (hb hby own_d25_25) k)))) ?_
  obtain ⟨c215, Ar215, S215, G215⟩ := id Al210
  have hin215 : ¬ ((21 : Int32) < 0 ∨ c215.slots.size ≤ ((21 : Int32)).toNatClampNeg) := inb_of S215 ⟨by decide, by decide⟩
  obtain ⟨T215, h215, X215, e215, W215, st215⟩ := stR X210 hx hZ e210 Ar215 (j := (21 : Int32)) hin215 rfl (Or.inl rfl) (g := (mkF m 26 #[rv rm, rv rt, iv (21 : Int32)] [.null, (.int (21 : Int32)), (.ref rt)])) rfl rfl (hb hby own_d25_26)
  have Al215 := own_Arz.same (⟨c215, Ar215, S215, G215⟩ : own_Arz Z _ rt (.object "java/lang/Object") (64 : Int32)) W215
  have N215 := Fr.snoc X215 N210 g2
  refine own_by (g' := (mkF m 27 #[rv rm, rv rt, iv (21 : Int32)] [])) st215 ?_
  refine own_by (g' := (mkF m 17 #[rv rm, rv rt, iv (22 : Int32)] [])) (fun t k => XS.iinc X215.here hx rfl (hb hby own_d25_27) rfl (l' := #[rv rm, rv rt, iv (22 : Int32)]) rfl (XS.goto X215.here hx rfl (pc0 := 30) (pc' := 17) rfl (hb hby own_d25_30) (by decide) (by decide) k)) ?_
  have f216 := (f211.wr W215)
  have f217 := (f212.other W215 (Or.inl (own_neY E1 (hw _ (List.mem_of_getElem? (i := 10) rfl)) Y1)))
  have f218 := (f213.other W215 (Or.inl (own_neY E1 (hw _ (List.mem_of_getElem? (i := 10) rfl)) Y1)))
  refine own_by (g' := (mkF m 19 #[rv rm, rv rt, iv (22 : Int32)] [(.ref rt), (.int (22 : Int32))])) (fun t k => XS.iloadN X215.here hx rfl (hb hby own_d25_17) rfl (XS.aloadN X215.here hx rfl (hb hby own_d25_18) rfl rfl k)) ?_
  obtain ⟨c219, Ar219, S219, G219⟩ := id Al215
  refine own_by (g' := (mkF m 20 #[rv rm, rv rt, iv (22 : Int32)] [(.int (64 : Int32)), (.int (22 : Int32))])) (fun t k => X215.arraylength hx (own_at_ e215 Ar219.1) (State.isArrayOf_alike hZ.alike Ar219.2.1) (g := (mkF m 19 #[rv rm, rv rt, iv (22 : Int32)] [(.ref rt), (.int (22 : Int32))])) rfl rfl (hb hby own_d25_19) t (by rw [len_of S219 G219]; exact k)) ?_
  refine own_by (g' := (mkF m 26 #[rv rm, rv rt, iv (22 : Int32)] [.null, (.int (22 : Int32)), (.ref rt)])) (fun t k => XS.icmpNo X215.here hx rfl (hb hby own_d25_20) rfl (tlt (by decide : (22 : Int32) < (64 : Int32))).2.1 (XS.aloadN X215.here hx rfl (hb hby own_d25_23) rfl rfl (XS.iloadN X215.here hx rfl (hb hby own_d25_24) rfl (XS.aconstNull X215.here hx rfl (hb hby own_d25_25) k)))) ?_
  obtain ⟨c220, Ar220, S220, G220⟩ := id Al215
  have hin220 : ¬ ((22 : Int32) < 0 ∨ c220.slots.size ≤ ((22 : Int32)).toNatClampNeg) := inb_of S220 ⟨by decide, by decide⟩
  obtain ⟨T220, h220, X220, e220, W220, st220⟩ := stR X215 hx hZ e215 Ar220 (j := (22 : Int32)) hin220 rfl (Or.inl rfl) (g := (mkF m 26 #[rv rm, rv rt, iv (22 : Int32)] [.null, (.int (22 : Int32)), (.ref rt)])) rfl rfl (hb hby own_d25_26)
  have Al220 := own_Arz.same (⟨c220, Ar220, S220, G220⟩ : own_Arz Z _ rt (.object "java/lang/Object") (64 : Int32)) W220
  have N220 := Fr.snoc X220 N215 g2
  refine own_by (g' := (mkF m 27 #[rv rm, rv rt, iv (22 : Int32)] [])) st220 ?_
  refine own_by (g' := (mkF m 17 #[rv rm, rv rt, iv (23 : Int32)] [])) (fun t k => XS.iinc X220.here hx rfl (hb hby own_d25_27) rfl (l' := #[rv rm, rv rt, iv (23 : Int32)]) rfl (XS.goto X220.here hx rfl (pc0 := 30) (pc' := 17) rfl (hb hby own_d25_30) (by decide) (by decide) k)) ?_
  have f221 := (f216.wr W220)
  have f222 := (f217.other W220 (Or.inl (own_neY E1 (hw _ (List.mem_of_getElem? (i := 10) rfl)) Y1)))
  have f223 := (f218.other W220 (Or.inl (own_neY E1 (hw _ (List.mem_of_getElem? (i := 10) rfl)) Y1)))
  refine own_by (g' := (mkF m 19 #[rv rm, rv rt, iv (23 : Int32)] [(.ref rt), (.int (23 : Int32))])) (fun t k => XS.iloadN X220.here hx rfl (hb hby own_d25_17) rfl (XS.aloadN X220.here hx rfl (hb hby own_d25_18) rfl rfl k)) ?_
  obtain ⟨c224, Ar224, S224, G224⟩ := id Al220
  refine own_by (g' := (mkF m 20 #[rv rm, rv rt, iv (23 : Int32)] [(.int (64 : Int32)), (.int (23 : Int32))])) (fun t k => X220.arraylength hx (own_at_ e220 Ar224.1) (State.isArrayOf_alike hZ.alike Ar224.2.1) (g := (mkF m 19 #[rv rm, rv rt, iv (23 : Int32)] [(.ref rt), (.int (23 : Int32))])) rfl rfl (hb hby own_d25_19) t (by rw [len_of S224 G224]; exact k)) ?_
  refine own_by (g' := (mkF m 26 #[rv rm, rv rt, iv (23 : Int32)] [.null, (.int (23 : Int32)), (.ref rt)])) (fun t k => XS.icmpNo X220.here hx rfl (hb hby own_d25_20) rfl (tlt (by decide : (23 : Int32) < (64 : Int32))).2.1 (XS.aloadN X220.here hx rfl (hb hby own_d25_23) rfl rfl (XS.iloadN X220.here hx rfl (hb hby own_d25_24) rfl (XS.aconstNull X220.here hx rfl (hb hby own_d25_25) k)))) ?_
  obtain ⟨c225, Ar225, S225, G225⟩ := id Al220
  have hin225 : ¬ ((23 : Int32) < 0 ∨ c225.slots.size ≤ ((23 : Int32)).toNatClampNeg) := inb_of S225 ⟨by decide, by decide⟩
  obtain ⟨T225, h225, X225, e225, W225, st225⟩ := stR X220 hx hZ e220 Ar225 (j := (23 : Int32)) hin225 rfl (Or.inl rfl) (g := (mkF m 26 #[rv rm, rv rt, iv (23 : Int32)] [.null, (.int (23 : Int32)), (.ref rt)])) rfl rfl (hb hby own_d25_26)
  have Al225 := own_Arz.same (⟨c225, Ar225, S225, G225⟩ : own_Arz Z _ rt (.object "java/lang/Object") (64 : Int32)) W225
  have N225 := Fr.snoc X225 N220 g2
  refine own_by (g' := (mkF m 27 #[rv rm, rv rt, iv (23 : Int32)] [])) st225 ?_
  refine own_by (g' := (mkF m 17 #[rv rm, rv rt, iv (24 : Int32)] [])) (fun t k => XS.iinc X225.here hx rfl (hb hby own_d25_27) rfl (l' := #[rv rm, rv rt, iv (24 : Int32)]) rfl (XS.goto X225.here hx rfl (pc0 := 30) (pc' := 17) rfl (hb hby own_d25_30) (by decide) (by decide) k)) ?_
  have f226 := (f221.wr W225)
  have f227 := (f222.other W225 (Or.inl (own_neY E1 (hw _ (List.mem_of_getElem? (i := 10) rfl)) Y1)))
  have f228 := (f223.other W225 (Or.inl (own_neY E1 (hw _ (List.mem_of_getElem? (i := 10) rfl)) Y1)))
  refine own_by (g' := (mkF m 19 #[rv rm, rv rt, iv (24 : Int32)] [(.ref rt), (.int (24 : Int32))])) (fun t k => XS.iloadN X225.here hx rfl (hb hby own_d25_17) rfl (XS.aloadN X225.here hx rfl (hb hby own_d25_18) rfl rfl k)) ?_
  obtain ⟨c229, Ar229, S229, G229⟩ := id Al225
  refine own_by (g' := (mkF m 20 #[rv rm, rv rt, iv (24 : Int32)] [(.int (64 : Int32)), (.int (24 : Int32))])) (fun t k => X225.arraylength hx (own_at_ e225 Ar229.1) (State.isArrayOf_alike hZ.alike Ar229.2.1) (g := (mkF m 19 #[rv rm, rv rt, iv (24 : Int32)] [(.ref rt), (.int (24 : Int32))])) rfl rfl (hb hby own_d25_19) t (by rw [len_of S229 G229]; exact k)) ?_
  refine own_by (g' := (mkF m 26 #[rv rm, rv rt, iv (24 : Int32)] [.null, (.int (24 : Int32)), (.ref rt)])) (fun t k => XS.icmpNo X225.here hx rfl (hb hby own_d25_20) rfl (tlt (by decide : (24 : Int32) < (64 : Int32))).2.1 (XS.aloadN X225.here hx rfl (hb hby own_d25_23) rfl rfl (XS.iloadN X225.here hx rfl (hb hby own_d25_24) rfl (XS.aconstNull X225.here hx rfl (hb hby own_d25_25) k)))) ?_
  obtain ⟨c230, Ar230, S230, G230⟩ := id Al225
  have hin230 : ¬ ((24 : Int32) < 0 ∨ c230.slots.size ≤ ((24 : Int32)).toNatClampNeg) := inb_of S230 ⟨by decide, by decide⟩
  obtain ⟨T230, h230, X230, e230, W230, st230⟩ := stR X225 hx hZ e225 Ar230 (j := (24 : Int32)) hin230 rfl (Or.inl rfl) (g := (mkF m 26 #[rv rm, rv rt, iv (24 : Int32)] [.null, (.int (24 : Int32)), (.ref rt)])) rfl rfl (hb hby own_d25_26)
  have Al230 := own_Arz.same (⟨c230, Ar230, S230, G230⟩ : own_Arz Z _ rt (.object "java/lang/Object") (64 : Int32)) W230
  have N230 := Fr.snoc X230 N225 g2
  refine own_by (g' := (mkF m 27 #[rv rm, rv rt, iv (24 : Int32)] [])) st230 ?_
  refine own_by (g' := (mkF m 17 #[rv rm, rv rt, iv (25 : Int32)] [])) (fun t k => XS.iinc X230.here hx rfl (hb hby own_d25_27) rfl (l' := #[rv rm, rv rt, iv (25 : Int32)]) rfl (XS.goto X230.here hx rfl (pc0 := 30) (pc' := 17) rfl (hb hby own_d25_30) (by decide) (by decide) k)) ?_
  have f231 := (f226.wr W230)
  have f232 := (f227.other W230 (Or.inl (own_neY E1 (hw _ (List.mem_of_getElem? (i := 10) rfl)) Y1)))
  have f233 := (f228.other W230 (Or.inl (own_neY E1 (hw _ (List.mem_of_getElem? (i := 10) rfl)) Y1)))
  refine own_by (g' := (mkF m 19 #[rv rm, rv rt, iv (25 : Int32)] [(.ref rt), (.int (25 : Int32))])) (fun t k => XS.iloadN X230.here hx rfl (hb hby own_d25_17) rfl (XS.aloadN X230.here hx rfl (hb hby own_d25_18) rfl rfl k)) ?_
  obtain ⟨c234, Ar234, S234, G234⟩ := id Al230
  refine own_by (g' := (mkF m 20 #[rv rm, rv rt, iv (25 : Int32)] [(.int (64 : Int32)), (.int (25 : Int32))])) (fun t k => X230.arraylength hx (own_at_ e230 Ar234.1) (State.isArrayOf_alike hZ.alike Ar234.2.1) (g := (mkF m 19 #[rv rm, rv rt, iv (25 : Int32)] [(.ref rt), (.int (25 : Int32))])) rfl rfl (hb hby own_d25_19) t (by rw [len_of S234 G234]; exact k)) ?_
  refine own_by (g' := (mkF m 26 #[rv rm, rv rt, iv (25 : Int32)] [.null, (.int (25 : Int32)), (.ref rt)])) (fun t k => XS.icmpNo X230.here hx rfl (hb hby own_d25_20) rfl (tlt (by decide : (25 : Int32) < (64 : Int32))).2.1 (XS.aloadN X230.here hx rfl (hb hby own_d25_23) rfl rfl (XS.iloadN X230.here hx rfl (hb hby own_d25_24) rfl (XS.aconstNull X230.here hx rfl (hb hby own_d25_25) k)))) ?_
  obtain ⟨c235, Ar235, S235, G235⟩ := id Al230
  have hin235 : ¬ ((25 : Int32) < 0 ∨ c235.slots.size ≤ ((25 : Int32)).toNatClampNeg) := inb_of S235 ⟨by decide, by decide⟩
  obtain ⟨T235, h235, X235, e235, W235, st235⟩ := stR X230 hx hZ e230 Ar235 (j := (25 : Int32)) hin235 rfl (Or.inl rfl) (g := (mkF m 26 #[rv rm, rv rt, iv (25 : Int32)] [.null, (.int (25 : Int32)), (.ref rt)])) rfl rfl (hb hby own_d25_26)
  have Al235 := own_Arz.same (⟨c235, Ar235, S235, G235⟩ : own_Arz Z _ rt (.object "java/lang/Object") (64 : Int32)) W235
  have N235 := Fr.snoc X235 N230 g2
  refine own_by (g' := (mkF m 27 #[rv rm, rv rt, iv (25 : Int32)] [])) st235 ?_
  refine own_by (g' := (mkF m 17 #[rv rm, rv rt, iv (26 : Int32)] [])) (fun t k => XS.iinc X235.here hx rfl (hb hby own_d25_27) rfl (l' := #[rv rm, rv rt, iv (26 : Int32)]) rfl (XS.goto X235.here hx rfl (pc0 := 30) (pc' := 17) rfl (hb hby own_d25_30) (by decide) (by decide) k)) ?_
  have f236 := (f231.wr W235)
  have f237 := (f232.other W235 (Or.inl (own_neY E1 (hw _ (List.mem_of_getElem? (i := 10) rfl)) Y1)))
  have f238 := (f233.other W235 (Or.inl (own_neY E1 (hw _ (List.mem_of_getElem? (i := 10) rfl)) Y1)))
  refine own_by (g' := (mkF m 19 #[rv rm, rv rt, iv (26 : Int32)] [(.ref rt), (.int (26 : Int32))])) (fun t k => XS.iloadN X235.here hx rfl (hb hby own_d25_17) rfl (XS.aloadN X235.here hx rfl (hb hby own_d25_18) rfl rfl k)) ?_
  obtain ⟨c239, Ar239, S239, G239⟩ := id Al235
  refine own_by (g' := (mkF m 20 #[rv rm, rv rt, iv (26 : Int32)] [(.int (64 : Int32)), (.int (26 : Int32))])) (fun t k => X235.arraylength hx (own_at_ e235 Ar239.1) (State.isArrayOf_alike hZ.alike Ar239.2.1) (g := (mkF m 19 #[rv rm, rv rt, iv (26 : Int32)] [(.ref rt), (.int (26 : Int32))])) rfl rfl (hb hby own_d25_19) t (by rw [len_of S239 G239]; exact k)) ?_
  refine own_by (g' := (mkF m 26 #[rv rm, rv rt, iv (26 : Int32)] [.null, (.int (26 : Int32)), (.ref rt)])) (fun t k => XS.icmpNo X235.here hx rfl (hb hby own_d25_20) rfl (tlt (by decide : (26 : Int32) < (64 : Int32))).2.1 (XS.aloadN X235.here hx rfl (hb hby own_d25_23) rfl rfl (XS.iloadN X235.here hx rfl (hb hby own_d25_24) rfl (XS.aconstNull X235.here hx rfl (hb hby own_d25_25) k)))) ?_
  obtain ⟨c240, Ar240, S240, G240⟩ := id Al235
  have hin240 : ¬ ((26 : Int32) < 0 ∨ c240.slots.size ≤ ((26 : Int32)).toNatClampNeg) := inb_of S240 ⟨by decide, by decide⟩
  obtain ⟨T240, h240, X240, e240, W240, st240⟩ := stR X235 hx hZ e235 Ar240 (j := (26 : Int32)) hin240 rfl (Or.inl rfl) (g := (mkF m 26 #[rv rm, rv rt, iv (26 : Int32)] [.null, (.int (26 : Int32)), (.ref rt)])) rfl rfl (hb hby own_d25_26)
  have Al240 := own_Arz.same (⟨c240, Ar240, S240, G240⟩ : own_Arz Z _ rt (.object "java/lang/Object") (64 : Int32)) W240
  have N240 := Fr.snoc X240 N235 g2
  refine own_by (g' := (mkF m 27 #[rv rm, rv rt, iv (26 : Int32)] [])) st240 ?_
  refine own_by (g' := (mkF m 17 #[rv rm, rv rt, iv (27 : Int32)] [])) (fun t k => XS.iinc X240.here hx rfl (hb hby own_d25_27) rfl (l' := #[rv rm, rv rt, iv (27 : Int32)]) rfl (XS.goto X240.here hx rfl (pc0 := 30) (pc' := 17) rfl (hb hby own_d25_30) (by decide) (by decide) k)) ?_
  have f241 := (f236.wr W240)
  have f242 := (f237.other W240 (Or.inl (own_neY E1 (hw _ (List.mem_of_getElem? (i := 10) rfl)) Y1)))
  have f243 := (f238.other W240 (Or.inl (own_neY E1 (hw _ (List.mem_of_getElem? (i := 10) rfl)) Y1)))
  refine own_by (g' := (mkF m 19 #[rv rm, rv rt, iv (27 : Int32)] [(.ref rt), (.int (27 : Int32))])) (fun t k => XS.iloadN X240.here hx rfl (hb hby own_d25_17) rfl (XS.aloadN X240.here hx rfl (hb hby own_d25_18) rfl rfl k)) ?_
  obtain ⟨c244, Ar244, S244, G244⟩ := id Al240
  refine own_by (g' := (mkF m 20 #[rv rm, rv rt, iv (27 : Int32)] [(.int (64 : Int32)), (.int (27 : Int32))])) (fun t k => X240.arraylength hx (own_at_ e240 Ar244.1) (State.isArrayOf_alike hZ.alike Ar244.2.1) (g := (mkF m 19 #[rv rm, rv rt, iv (27 : Int32)] [(.ref rt), (.int (27 : Int32))])) rfl rfl (hb hby own_d25_19) t (by rw [len_of S244 G244]; exact k)) ?_
  refine own_by (g' := (mkF m 26 #[rv rm, rv rt, iv (27 : Int32)] [.null, (.int (27 : Int32)), (.ref rt)])) (fun t k => XS.icmpNo X240.here hx rfl (hb hby own_d25_20) rfl (tlt (by decide : (27 : Int32) < (64 : Int32))).2.1 (XS.aloadN X240.here hx rfl (hb hby own_d25_23) rfl rfl (XS.iloadN X240.here hx rfl (hb hby own_d25_24) rfl (XS.aconstNull X240.here hx rfl (hb hby own_d25_25) k)))) ?_
  obtain ⟨c245, Ar245, S245, G245⟩ := id Al240
  have hin245 : ¬ ((27 : Int32) < 0 ∨ c245.slots.size ≤ ((27 : Int32)).toNatClampNeg) := inb_of S245 ⟨by decide, by decide⟩
  obtain ⟨T245, h245, X245, e245, W245, st245⟩ := stR X240 hx hZ e240 Ar245 (j := (27 : Int32)) hin245 rfl (Or.inl rfl) (g := (mkF m 26 #[rv rm, rv rt, iv (27 : Int32)] [.null, (.int (27 : Int32)), (.ref rt)])) rfl rfl (hb hby own_d25_26)
  have Al245 := own_Arz.same (⟨c245, Ar245, S245, G245⟩ : own_Arz Z _ rt (.object "java/lang/Object") (64 : Int32)) W245
  have N245 := Fr.snoc X245 N240 g2
  refine own_by (g' := (mkF m 27 #[rv rm, rv rt, iv (27 : Int32)] [])) st245 ?_
  refine own_by (g' := (mkF m 17 #[rv rm, rv rt, iv (28 : Int32)] [])) (fun t k => XS.iinc X245.here hx rfl (hb hby own_d25_27) rfl (l' := #[rv rm, rv rt, iv (28 : Int32)]) rfl (XS.goto X245.here hx rfl (pc0 := 30) (pc' := 17) rfl (hb hby own_d25_30) (by decide) (by decide) k)) ?_
  have f246 := (f241.wr W245)
  have f247 := (f242.other W245 (Or.inl (own_neY E1 (hw _ (List.mem_of_getElem? (i := 10) rfl)) Y1)))
  have f248 := (f243.other W245 (Or.inl (own_neY E1 (hw _ (List.mem_of_getElem? (i := 10) rfl)) Y1)))
  refine own_by (g' := (mkF m 19 #[rv rm, rv rt, iv (28 : Int32)] [(.ref rt), (.int (28 : Int32))])) (fun t k => XS.iloadN X245.here hx rfl (hb hby own_d25_17) rfl (XS.aloadN X245.here hx rfl (hb hby own_d25_18) rfl rfl k)) ?_
  obtain ⟨c249, Ar249, S249, G249⟩ := id Al245
  refine own_by (g' := (mkF m 20 #[rv rm, rv rt, iv (28 : Int32)] [(.int (64 : Int32)), (.int (28 : Int32))])) (fun t k => X245.arraylength hx (own_at_ e245 Ar249.1) (State.isArrayOf_alike hZ.alike Ar249.2.1) (g := (mkF m 19 #[rv rm, rv rt, iv (28 : Int32)] [(.ref rt), (.int (28 : Int32))])) rfl rfl (hb hby own_d25_19) t (by rw [len_of S249 G249]; exact k)) ?_
  refine own_by (g' := (mkF m 26 #[rv rm, rv rt, iv (28 : Int32)] [.null, (.int (28 : Int32)), (.ref rt)])) (fun t k => XS.icmpNo X245.here hx rfl (hb hby own_d25_20) rfl (tlt (by decide : (28 : Int32) < (64 : Int32))).2.1 (XS.aloadN X245.here hx rfl (hb hby own_d25_23) rfl rfl (XS.iloadN X245.here hx rfl (hb hby own_d25_24) rfl (XS.aconstNull X245.here hx rfl (hb hby own_d25_25) k)))) ?_
  obtain ⟨c250, Ar250, S250, G250⟩ := id Al245
  have hin250 : ¬ ((28 : Int32) < 0 ∨ c250.slots.size ≤ ((28 : Int32)).toNatClampNeg) := inb_of S250 ⟨by decide, by decide⟩
  obtain ⟨T250, h250, X250, e250, W250, st250⟩ := stR X245 hx hZ e245 Ar250 (j := (28 : Int32)) hin250 rfl (Or.inl rfl) (g := (mkF m 26 #[rv rm, rv rt, iv (28 : Int32)] [.null, (.int (28 : Int32)), (.ref rt)])) rfl rfl (hb hby own_d25_26)
  have Al250 := own_Arz.same (⟨c250, Ar250, S250, G250⟩ : own_Arz Z _ rt (.object "java/lang/Object") (64 : Int32)) W250
  have N250 := Fr.snoc X250 N245 g2
  refine own_by (g' := (mkF m 27 #[rv rm, rv rt, iv (28 : Int32)] [])) st250 ?_
  refine own_by (g' := (mkF m 17 #[rv rm, rv rt, iv (29 : Int32)] [])) (fun t k => XS.iinc X250.here hx rfl (hb hby own_d25_27) rfl (l' := #[rv rm, rv rt, iv (29 : Int32)]) rfl (XS.goto X250.here hx rfl (pc0 := 30) (pc' := 17) rfl (hb hby own_d25_30) (by decide) (by decide) k)) ?_
  have f251 := (f246.wr W250)
  have f252 := (f247.other W250 (Or.inl (own_neY E1 (hw _ (List.mem_of_getElem? (i := 10) rfl)) Y1)))
  have f253 := (f248.other W250 (Or.inl (own_neY E1 (hw _ (List.mem_of_getElem? (i := 10) rfl)) Y1)))
  refine own_by (g' := (mkF m 19 #[rv rm, rv rt, iv (29 : Int32)] [(.ref rt), (.int (29 : Int32))])) (fun t k => XS.iloadN X250.here hx rfl (hb hby own_d25_17) rfl (XS.aloadN X250.here hx rfl (hb hby own_d25_18) rfl rfl k)) ?_
  obtain ⟨c254, Ar254, S254, G254⟩ := id Al250
  refine own_by (g' := (mkF m 20 #[rv rm, rv rt, iv (29 : Int32)] [(.int (64 : Int32)), (.int (29 : Int32))])) (fun t k => X250.arraylength hx (own_at_ e250 Ar254.1) (State.isArrayOf_alike hZ.alike Ar254.2.1) (g := (mkF m 19 #[rv rm, rv rt, iv (29 : Int32)] [(.ref rt), (.int (29 : Int32))])) rfl rfl (hb hby own_d25_19) t (by rw [len_of S254 G254]; exact k)) ?_
  refine own_by (g' := (mkF m 26 #[rv rm, rv rt, iv (29 : Int32)] [.null, (.int (29 : Int32)), (.ref rt)])) (fun t k => XS.icmpNo X250.here hx rfl (hb hby own_d25_20) rfl (tlt (by decide : (29 : Int32) < (64 : Int32))).2.1 (XS.aloadN X250.here hx rfl (hb hby own_d25_23) rfl rfl (XS.iloadN X250.here hx rfl (hb hby own_d25_24) rfl (XS.aconstNull X250.here hx rfl (hb hby own_d25_25) k)))) ?_
  obtain ⟨c255, Ar255, S255, G255⟩ := id Al250
  have hin255 : ¬ ((29 : Int32) < 0 ∨ c255.slots.size ≤ ((29 : Int32)).toNatClampNeg) := inb_of S255 ⟨by decide, by decide⟩
  obtain ⟨T255, h255, X255, e255, W255, st255⟩ := stR X250 hx hZ e250 Ar255 (j := (29 : Int32)) hin255 rfl (Or.inl rfl) (g := (mkF m 26 #[rv rm, rv rt, iv (29 : Int32)] [.null, (.int (29 : Int32)), (.ref rt)])) rfl rfl (hb hby own_d25_26)
  have Al255 := own_Arz.same (⟨c255, Ar255, S255, G255⟩ : own_Arz Z _ rt (.object "java/lang/Object") (64 : Int32)) W255
  have N255 := Fr.snoc X255 N250 g2
  refine own_by (g' := (mkF m 27 #[rv rm, rv rt, iv (29 : Int32)] [])) st255 ?_
  refine own_by (g' := (mkF m 17 #[rv rm, rv rt, iv (30 : Int32)] [])) (fun t k => XS.iinc X255.here hx rfl (hb hby own_d25_27) rfl (l' := #[rv rm, rv rt, iv (30 : Int32)]) rfl (XS.goto X255.here hx rfl (pc0 := 30) (pc' := 17) rfl (hb hby own_d25_30) (by decide) (by decide) k)) ?_
  have f256 := (f251.wr W255)
  have f257 := (f252.other W255 (Or.inl (own_neY E1 (hw _ (List.mem_of_getElem? (i := 10) rfl)) Y1)))
  have f258 := (f253.other W255 (Or.inl (own_neY E1 (hw _ (List.mem_of_getElem? (i := 10) rfl)) Y1)))
  refine own_by (g' := (mkF m 19 #[rv rm, rv rt, iv (30 : Int32)] [(.ref rt), (.int (30 : Int32))])) (fun t k => XS.iloadN X255.here hx rfl (hb hby own_d25_17) rfl (XS.aloadN X255.here hx rfl (hb hby own_d25_18) rfl rfl k)) ?_
  obtain ⟨c259, Ar259, S259, G259⟩ := id Al255
  refine own_by (g' := (mkF m 20 #[rv rm, rv rt, iv (30 : Int32)] [(.int (64 : Int32)), (.int (30 : Int32))])) (fun t k => X255.arraylength hx (own_at_ e255 Ar259.1) (State.isArrayOf_alike hZ.alike Ar259.2.1) (g := (mkF m 19 #[rv rm, rv rt, iv (30 : Int32)] [(.ref rt), (.int (30 : Int32))])) rfl rfl (hb hby own_d25_19) t (by rw [len_of S259 G259]; exact k)) ?_
  refine own_by (g' := (mkF m 26 #[rv rm, rv rt, iv (30 : Int32)] [.null, (.int (30 : Int32)), (.ref rt)])) (fun t k => XS.icmpNo X255.here hx rfl (hb hby own_d25_20) rfl (tlt (by decide : (30 : Int32) < (64 : Int32))).2.1 (XS.aloadN X255.here hx rfl (hb hby own_d25_23) rfl rfl (XS.iloadN X255.here hx rfl (hb hby own_d25_24) rfl (XS.aconstNull X255.here hx rfl (hb hby own_d25_25) k)))) ?_
  obtain ⟨c260, Ar260, S260, G260⟩ := id Al255
  have hin260 : ¬ ((30 : Int32) < 0 ∨ c260.slots.size ≤ ((30 : Int32)).toNatClampNeg) := inb_of S260 ⟨by decide, by decide⟩
  obtain ⟨T260, h260, X260, e260, W260, st260⟩ := stR X255 hx hZ e255 Ar260 (j := (30 : Int32)) hin260 rfl (Or.inl rfl) (g := (mkF m 26 #[rv rm, rv rt, iv (30 : Int32)] [.null, (.int (30 : Int32)), (.ref rt)])) rfl rfl (hb hby own_d25_26)
  have Al260 := own_Arz.same (⟨c260, Ar260, S260, G260⟩ : own_Arz Z _ rt (.object "java/lang/Object") (64 : Int32)) W260
  have N260 := Fr.snoc X260 N255 g2
  refine own_by (g' := (mkF m 27 #[rv rm, rv rt, iv (30 : Int32)] [])) st260 ?_
  refine own_by (g' := (mkF m 17 #[rv rm, rv rt, iv (31 : Int32)] [])) (fun t k => XS.iinc X260.here hx rfl (hb hby own_d25_27) rfl (l' := #[rv rm, rv rt, iv (31 : Int32)]) rfl (XS.goto X260.here hx rfl (pc0 := 30) (pc' := 17) rfl (hb hby own_d25_30) (by decide) (by decide) k)) ?_
  have f261 := (f256.wr W260)
  have f262 := (f257.other W260 (Or.inl (own_neY E1 (hw _ (List.mem_of_getElem? (i := 10) rfl)) Y1)))
  have f263 := (f258.other W260 (Or.inl (own_neY E1 (hw _ (List.mem_of_getElem? (i := 10) rfl)) Y1)))
  refine own_by (g' := (mkF m 19 #[rv rm, rv rt, iv (31 : Int32)] [(.ref rt), (.int (31 : Int32))])) (fun t k => XS.iloadN X260.here hx rfl (hb hby own_d25_17) rfl (XS.aloadN X260.here hx rfl (hb hby own_d25_18) rfl rfl k)) ?_
  obtain ⟨c264, Ar264, S264, G264⟩ := id Al260
  refine own_by (g' := (mkF m 20 #[rv rm, rv rt, iv (31 : Int32)] [(.int (64 : Int32)), (.int (31 : Int32))])) (fun t k => X260.arraylength hx (own_at_ e260 Ar264.1) (State.isArrayOf_alike hZ.alike Ar264.2.1) (g := (mkF m 19 #[rv rm, rv rt, iv (31 : Int32)] [(.ref rt), (.int (31 : Int32))])) rfl rfl (hb hby own_d25_19) t (by rw [len_of S264 G264]; exact k)) ?_
  refine own_by (g' := (mkF m 26 #[rv rm, rv rt, iv (31 : Int32)] [.null, (.int (31 : Int32)), (.ref rt)])) (fun t k => XS.icmpNo X260.here hx rfl (hb hby own_d25_20) rfl (tlt (by decide : (31 : Int32) < (64 : Int32))).2.1 (XS.aloadN X260.here hx rfl (hb hby own_d25_23) rfl rfl (XS.iloadN X260.here hx rfl (hb hby own_d25_24) rfl (XS.aconstNull X260.here hx rfl (hb hby own_d25_25) k)))) ?_
  obtain ⟨c265, Ar265, S265, G265⟩ := id Al260
  have hin265 : ¬ ((31 : Int32) < 0 ∨ c265.slots.size ≤ ((31 : Int32)).toNatClampNeg) := inb_of S265 ⟨by decide, by decide⟩
  obtain ⟨T265, h265, X265, e265, W265, st265⟩ := stR X260 hx hZ e260 Ar265 (j := (31 : Int32)) hin265 rfl (Or.inl rfl) (g := (mkF m 26 #[rv rm, rv rt, iv (31 : Int32)] [.null, (.int (31 : Int32)), (.ref rt)])) rfl rfl (hb hby own_d25_26)
  have Al265 := own_Arz.same (⟨c265, Ar265, S265, G265⟩ : own_Arz Z _ rt (.object "java/lang/Object") (64 : Int32)) W265
  have N265 := Fr.snoc X265 N260 g2
  refine own_by (g' := (mkF m 27 #[rv rm, rv rt, iv (31 : Int32)] [])) st265 ?_
  refine own_by (g' := (mkF m 17 #[rv rm, rv rt, iv (32 : Int32)] [])) (fun t k => XS.iinc X265.here hx rfl (hb hby own_d25_27) rfl (l' := #[rv rm, rv rt, iv (32 : Int32)]) rfl (XS.goto X265.here hx rfl (pc0 := 30) (pc' := 17) rfl (hb hby own_d25_30) (by decide) (by decide) k)) ?_
  have f266 := (f261.wr W265)
  have f267 := (f262.other W265 (Or.inl (own_neY E1 (hw _ (List.mem_of_getElem? (i := 10) rfl)) Y1)))
  have f268 := (f263.other W265 (Or.inl (own_neY E1 (hw _ (List.mem_of_getElem? (i := 10) rfl)) Y1)))
  refine own_by (g' := (mkF m 19 #[rv rm, rv rt, iv (32 : Int32)] [(.ref rt), (.int (32 : Int32))])) (fun t k => XS.iloadN X265.here hx rfl (hb hby own_d25_17) rfl (XS.aloadN X265.here hx rfl (hb hby own_d25_18) rfl rfl k)) ?_
  obtain ⟨c269, Ar269, S269, G269⟩ := id Al265
  refine own_by (g' := (mkF m 20 #[rv rm, rv rt, iv (32 : Int32)] [(.int (64 : Int32)), (.int (32 : Int32))])) (fun t k => X265.arraylength hx (own_at_ e265 Ar269.1) (State.isArrayOf_alike hZ.alike Ar269.2.1) (g := (mkF m 19 #[rv rm, rv rt, iv (32 : Int32)] [(.ref rt), (.int (32 : Int32))])) rfl rfl (hb hby own_d25_19) t (by rw [len_of S269 G269]; exact k)) ?_
  refine own_by (g' := (mkF m 26 #[rv rm, rv rt, iv (32 : Int32)] [.null, (.int (32 : Int32)), (.ref rt)])) (fun t k => XS.icmpNo X265.here hx rfl (hb hby own_d25_20) rfl (tlt (by decide : (32 : Int32) < (64 : Int32))).2.1 (XS.aloadN X265.here hx rfl (hb hby own_d25_23) rfl rfl (XS.iloadN X265.here hx rfl (hb hby own_d25_24) rfl (XS.aconstNull X265.here hx rfl (hb hby own_d25_25) k)))) ?_
  obtain ⟨c270, Ar270, S270, G270⟩ := id Al265
  have hin270 : ¬ ((32 : Int32) < 0 ∨ c270.slots.size ≤ ((32 : Int32)).toNatClampNeg) := inb_of S270 ⟨by decide, by decide⟩
  obtain ⟨T270, h270, X270, e270, W270, st270⟩ := stR X265 hx hZ e265 Ar270 (j := (32 : Int32)) hin270 rfl (Or.inl rfl) (g := (mkF m 26 #[rv rm, rv rt, iv (32 : Int32)] [.null, (.int (32 : Int32)), (.ref rt)])) rfl rfl (hb hby own_d25_26)
  have Al270 := own_Arz.same (⟨c270, Ar270, S270, G270⟩ : own_Arz Z _ rt (.object "java/lang/Object") (64 : Int32)) W270
  have N270 := Fr.snoc X270 N265 g2
  refine own_by (g' := (mkF m 27 #[rv rm, rv rt, iv (32 : Int32)] [])) st270 ?_
  refine own_by (g' := (mkF m 17 #[rv rm, rv rt, iv (33 : Int32)] [])) (fun t k => XS.iinc X270.here hx rfl (hb hby own_d25_27) rfl (l' := #[rv rm, rv rt, iv (33 : Int32)]) rfl (XS.goto X270.here hx rfl (pc0 := 30) (pc' := 17) rfl (hb hby own_d25_30) (by decide) (by decide) k)) ?_
  have f271 := (f266.wr W270)
  have f272 := (f267.other W270 (Or.inl (own_neY E1 (hw _ (List.mem_of_getElem? (i := 10) rfl)) Y1)))
  have f273 := (f268.other W270 (Or.inl (own_neY E1 (hw _ (List.mem_of_getElem? (i := 10) rfl)) Y1)))
  refine own_by (g' := (mkF m 19 #[rv rm, rv rt, iv (33 : Int32)] [(.ref rt), (.int (33 : Int32))])) (fun t k => XS.iloadN X270.here hx rfl (hb hby own_d25_17) rfl (XS.aloadN X270.here hx rfl (hb hby own_d25_18) rfl rfl k)) ?_
  obtain ⟨c274, Ar274, S274, G274⟩ := id Al270
  refine own_by (g' := (mkF m 20 #[rv rm, rv rt, iv (33 : Int32)] [(.int (64 : Int32)), (.int (33 : Int32))])) (fun t k => X270.arraylength hx (own_at_ e270 Ar274.1) (State.isArrayOf_alike hZ.alike Ar274.2.1) (g := (mkF m 19 #[rv rm, rv rt, iv (33 : Int32)] [(.ref rt), (.int (33 : Int32))])) rfl rfl (hb hby own_d25_19) t (by rw [len_of S274 G274]; exact k)) ?_
  refine own_by (g' := (mkF m 26 #[rv rm, rv rt, iv (33 : Int32)] [.null, (.int (33 : Int32)), (.ref rt)])) (fun t k => XS.icmpNo X270.here hx rfl (hb hby own_d25_20) rfl (tlt (by decide : (33 : Int32) < (64 : Int32))).2.1 (XS.aloadN X270.here hx rfl (hb hby own_d25_23) rfl rfl (XS.iloadN X270.here hx rfl (hb hby own_d25_24) rfl (XS.aconstNull X270.here hx rfl (hb hby own_d25_25) k)))) ?_
  obtain ⟨c275, Ar275, S275, G275⟩ := id Al270
  have hin275 : ¬ ((33 : Int32) < 0 ∨ c275.slots.size ≤ ((33 : Int32)).toNatClampNeg) := inb_of S275 ⟨by decide, by decide⟩
  obtain ⟨T275, h275, X275, e275, W275, st275⟩ := stR X270 hx hZ e270 Ar275 (j := (33 : Int32)) hin275 rfl (Or.inl rfl) (g := (mkF m 26 #[rv rm, rv rt, iv (33 : Int32)] [.null, (.int (33 : Int32)), (.ref rt)])) rfl rfl (hb hby own_d25_26)
  have Al275 := own_Arz.same (⟨c275, Ar275, S275, G275⟩ : own_Arz Z _ rt (.object "java/lang/Object") (64 : Int32)) W275
  have N275 := Fr.snoc X275 N270 g2
  refine own_by (g' := (mkF m 27 #[rv rm, rv rt, iv (33 : Int32)] [])) st275 ?_
  refine own_by (g' := (mkF m 17 #[rv rm, rv rt, iv (34 : Int32)] [])) (fun t k => XS.iinc X275.here hx rfl (hb hby own_d25_27) rfl (l' := #[rv rm, rv rt, iv (34 : Int32)]) rfl (XS.goto X275.here hx rfl (pc0 := 30) (pc' := 17) rfl (hb hby own_d25_30) (by decide) (by decide) k)) ?_
  have f276 := (f271.wr W275)
  have f277 := (f272.other W275 (Or.inl (own_neY E1 (hw _ (List.mem_of_getElem? (i := 10) rfl)) Y1)))
  have f278 := (f273.other W275 (Or.inl (own_neY E1 (hw _ (List.mem_of_getElem? (i := 10) rfl)) Y1)))
  refine own_by (g' := (mkF m 19 #[rv rm, rv rt, iv (34 : Int32)] [(.ref rt), (.int (34 : Int32))])) (fun t k => XS.iloadN X275.here hx rfl (hb hby own_d25_17) rfl (XS.aloadN X275.here hx rfl (hb hby own_d25_18) rfl rfl k)) ?_
  obtain ⟨c279, Ar279, S279, G279⟩ := id Al275
  refine own_by (g' := (mkF m 20 #[rv rm, rv rt, iv (34 : Int32)] [(.int (64 : Int32)), (.int (34 : Int32))])) (fun t k => X275.arraylength hx (own_at_ e275 Ar279.1) (State.isArrayOf_alike hZ.alike Ar279.2.1) (g := (mkF m 19 #[rv rm, rv rt, iv (34 : Int32)] [(.ref rt), (.int (34 : Int32))])) rfl rfl (hb hby own_d25_19) t (by rw [len_of S279 G279]; exact k)) ?_
  refine own_by (g' := (mkF m 26 #[rv rm, rv rt, iv (34 : Int32)] [.null, (.int (34 : Int32)), (.ref rt)])) (fun t k => XS.icmpNo X275.here hx rfl (hb hby own_d25_20) rfl (tlt (by decide : (34 : Int32) < (64 : Int32))).2.1 (XS.aloadN X275.here hx rfl (hb hby own_d25_23) rfl rfl (XS.iloadN X275.here hx rfl (hb hby own_d25_24) rfl (XS.aconstNull X275.here hx rfl (hb hby own_d25_25) k)))) ?_
  obtain ⟨c280, Ar280, S280, G280⟩ := id Al275
  have hin280 : ¬ ((34 : Int32) < 0 ∨ c280.slots.size ≤ ((34 : Int32)).toNatClampNeg) := inb_of S280 ⟨by decide, by decide⟩
  obtain ⟨T280, h280, X280, e280, W280, st280⟩ := stR X275 hx hZ e275 Ar280 (j := (34 : Int32)) hin280 rfl (Or.inl rfl) (g := (mkF m 26 #[rv rm, rv rt, iv (34 : Int32)] [.null, (.int (34 : Int32)), (.ref rt)])) rfl rfl (hb hby own_d25_26)
  have Al280 := own_Arz.same (⟨c280, Ar280, S280, G280⟩ : own_Arz Z _ rt (.object "java/lang/Object") (64 : Int32)) W280
  have N280 := Fr.snoc X280 N275 g2
  refine own_by (g' := (mkF m 27 #[rv rm, rv rt, iv (34 : Int32)] [])) st280 ?_
  refine own_by (g' := (mkF m 17 #[rv rm, rv rt, iv (35 : Int32)] [])) (fun t k => XS.iinc X280.here hx rfl (hb hby own_d25_27) rfl (l' := #[rv rm, rv rt, iv (35 : Int32)]) rfl (XS.goto X280.here hx rfl (pc0 := 30) (pc' := 17) rfl (hb hby own_d25_30) (by decide) (by decide) k)) ?_
  have f281 := (f276.wr W280)
  have f282 := (f277.other W280 (Or.inl (own_neY E1 (hw _ (List.mem_of_getElem? (i := 10) rfl)) Y1)))
  have f283 := (f278.other W280 (Or.inl (own_neY E1 (hw _ (List.mem_of_getElem? (i := 10) rfl)) Y1)))
  refine own_by (g' := (mkF m 19 #[rv rm, rv rt, iv (35 : Int32)] [(.ref rt), (.int (35 : Int32))])) (fun t k => XS.iloadN X280.here hx rfl (hb hby own_d25_17) rfl (XS.aloadN X280.here hx rfl (hb hby own_d25_18) rfl rfl k)) ?_
  obtain ⟨c284, Ar284, S284, G284⟩ := id Al280
  refine own_by (g' := (mkF m 20 #[rv rm, rv rt, iv (35 : Int32)] [(.int (64 : Int32)), (.int (35 : Int32))])) (fun t k => X280.arraylength hx (own_at_ e280 Ar284.1) (State.isArrayOf_alike hZ.alike Ar284.2.1) (g := (mkF m 19 #[rv rm, rv rt, iv (35 : Int32)] [(.ref rt), (.int (35 : Int32))])) rfl rfl (hb hby own_d25_19) t (by rw [len_of S284 G284]; exact k)) ?_
  refine own_by (g' := (mkF m 26 #[rv rm, rv rt, iv (35 : Int32)] [.null, (.int (35 : Int32)), (.ref rt)])) (fun t k => XS.icmpNo X280.here hx rfl (hb hby own_d25_20) rfl (tlt (by decide : (35 : Int32) < (64 : Int32))).2.1 (XS.aloadN X280.here hx rfl (hb hby own_d25_23) rfl rfl (XS.iloadN X280.here hx rfl (hb hby own_d25_24) rfl (XS.aconstNull X280.here hx rfl (hb hby own_d25_25) k)))) ?_
  obtain ⟨c285, Ar285, S285, G285⟩ := id Al280
  have hin285 : ¬ ((35 : Int32) < 0 ∨ c285.slots.size ≤ ((35 : Int32)).toNatClampNeg) := inb_of S285 ⟨by decide, by decide⟩
  obtain ⟨T285, h285, X285, e285, W285, st285⟩ := stR X280 hx hZ e280 Ar285 (j := (35 : Int32)) hin285 rfl (Or.inl rfl) (g := (mkF m 26 #[rv rm, rv rt, iv (35 : Int32)] [.null, (.int (35 : Int32)), (.ref rt)])) rfl rfl (hb hby own_d25_26)
  have Al285 := own_Arz.same (⟨c285, Ar285, S285, G285⟩ : own_Arz Z _ rt (.object "java/lang/Object") (64 : Int32)) W285
  have N285 := Fr.snoc X285 N280 g2
  refine own_by (g' := (mkF m 27 #[rv rm, rv rt, iv (35 : Int32)] [])) st285 ?_
  refine own_by (g' := (mkF m 17 #[rv rm, rv rt, iv (36 : Int32)] [])) (fun t k => XS.iinc X285.here hx rfl (hb hby own_d25_27) rfl (l' := #[rv rm, rv rt, iv (36 : Int32)]) rfl (XS.goto X285.here hx rfl (pc0 := 30) (pc' := 17) rfl (hb hby own_d25_30) (by decide) (by decide) k)) ?_
  have f286 := (f281.wr W285)
  have f287 := (f282.other W285 (Or.inl (own_neY E1 (hw _ (List.mem_of_getElem? (i := 10) rfl)) Y1)))
  have f288 := (f283.other W285 (Or.inl (own_neY E1 (hw _ (List.mem_of_getElem? (i := 10) rfl)) Y1)))
  refine own_by (g' := (mkF m 19 #[rv rm, rv rt, iv (36 : Int32)] [(.ref rt), (.int (36 : Int32))])) (fun t k => XS.iloadN X285.here hx rfl (hb hby own_d25_17) rfl (XS.aloadN X285.here hx rfl (hb hby own_d25_18) rfl rfl k)) ?_
  obtain ⟨c289, Ar289, S289, G289⟩ := id Al285
  refine own_by (g' := (mkF m 20 #[rv rm, rv rt, iv (36 : Int32)] [(.int (64 : Int32)), (.int (36 : Int32))])) (fun t k => X285.arraylength hx (own_at_ e285 Ar289.1) (State.isArrayOf_alike hZ.alike Ar289.2.1) (g := (mkF m 19 #[rv rm, rv rt, iv (36 : Int32)] [(.ref rt), (.int (36 : Int32))])) rfl rfl (hb hby own_d25_19) t (by rw [len_of S289 G289]; exact k)) ?_
  refine own_by (g' := (mkF m 26 #[rv rm, rv rt, iv (36 : Int32)] [.null, (.int (36 : Int32)), (.ref rt)])) (fun t k => XS.icmpNo X285.here hx rfl (hb hby own_d25_20) rfl (tlt (by decide : (36 : Int32) < (64 : Int32))).2.1 (XS.aloadN X285.here hx rfl (hb hby own_d25_23) rfl rfl (XS.iloadN X285.here hx rfl (hb hby own_d25_24) rfl (XS.aconstNull X285.here hx rfl (hb hby own_d25_25) k)))) ?_
  obtain ⟨c290, Ar290, S290, G290⟩ := id Al285
  have hin290 : ¬ ((36 : Int32) < 0 ∨ c290.slots.size ≤ ((36 : Int32)).toNatClampNeg) := inb_of S290 ⟨by decide, by decide⟩
  obtain ⟨T290, h290, X290, e290, W290, st290⟩ := stR X285 hx hZ e285 Ar290 (j := (36 : Int32)) hin290 rfl (Or.inl rfl) (g := (mkF m 26 #[rv rm, rv rt, iv (36 : Int32)] [.null, (.int (36 : Int32)), (.ref rt)])) rfl rfl (hb hby own_d25_26)
  have Al290 := own_Arz.same (⟨c290, Ar290, S290, G290⟩ : own_Arz Z _ rt (.object "java/lang/Object") (64 : Int32)) W290
  have N290 := Fr.snoc X290 N285 g2
  refine own_by (g' := (mkF m 27 #[rv rm, rv rt, iv (36 : Int32)] [])) st290 ?_
  refine own_by (g' := (mkF m 17 #[rv rm, rv rt, iv (37 : Int32)] [])) (fun t k => XS.iinc X290.here hx rfl (hb hby own_d25_27) rfl (l' := #[rv rm, rv rt, iv (37 : Int32)]) rfl (XS.goto X290.here hx rfl (pc0 := 30) (pc' := 17) rfl (hb hby own_d25_30) (by decide) (by decide) k)) ?_
  have f291 := (f286.wr W290)
  have f292 := (f287.other W290 (Or.inl (own_neY E1 (hw _ (List.mem_of_getElem? (i := 10) rfl)) Y1)))
  have f293 := (f288.other W290 (Or.inl (own_neY E1 (hw _ (List.mem_of_getElem? (i := 10) rfl)) Y1)))
  refine own_by (g' := (mkF m 19 #[rv rm, rv rt, iv (37 : Int32)] [(.ref rt), (.int (37 : Int32))])) (fun t k => XS.iloadN X290.here hx rfl (hb hby own_d25_17) rfl (XS.aloadN X290.here hx rfl (hb hby own_d25_18) rfl rfl k)) ?_
  obtain ⟨c294, Ar294, S294, G294⟩ := id Al290
  refine own_by (g' := (mkF m 20 #[rv rm, rv rt, iv (37 : Int32)] [(.int (64 : Int32)), (.int (37 : Int32))])) (fun t k => X290.arraylength hx (own_at_ e290 Ar294.1) (State.isArrayOf_alike hZ.alike Ar294.2.1) (g := (mkF m 19 #[rv rm, rv rt, iv (37 : Int32)] [(.ref rt), (.int (37 : Int32))])) rfl rfl (hb hby own_d25_19) t (by rw [len_of S294 G294]; exact k)) ?_
  refine own_by (g' := (mkF m 26 #[rv rm, rv rt, iv (37 : Int32)] [.null, (.int (37 : Int32)), (.ref rt)])) (fun t k => XS.icmpNo X290.here hx rfl (hb hby own_d25_20) rfl (tlt (by decide : (37 : Int32) < (64 : Int32))).2.1 (XS.aloadN X290.here hx rfl (hb hby own_d25_23) rfl rfl (XS.iloadN X290.here hx rfl (hb hby own_d25_24) rfl (XS.aconstNull X290.here hx rfl (hb hby own_d25_25) k)))) ?_
  obtain ⟨c295, Ar295, S295, G295⟩ := id Al290
  have hin295 : ¬ ((37 : Int32) < 0 ∨ c295.slots.size ≤ ((37 : Int32)).toNatClampNeg) := inb_of S295 ⟨by decide, by decide⟩
  obtain ⟨T295, h295, X295, e295, W295, st295⟩ := stR X290 hx hZ e290 Ar295 (j := (37 : Int32)) hin295 rfl (Or.inl rfl) (g := (mkF m 26 #[rv rm, rv rt, iv (37 : Int32)] [.null, (.int (37 : Int32)), (.ref rt)])) rfl rfl (hb hby own_d25_26)
  have Al295 := own_Arz.same (⟨c295, Ar295, S295, G295⟩ : own_Arz Z _ rt (.object "java/lang/Object") (64 : Int32)) W295
  have N295 := Fr.snoc X295 N290 g2
  refine own_by (g' := (mkF m 27 #[rv rm, rv rt, iv (37 : Int32)] [])) st295 ?_
  refine own_by (g' := (mkF m 17 #[rv rm, rv rt, iv (38 : Int32)] [])) (fun t k => XS.iinc X295.here hx rfl (hb hby own_d25_27) rfl (l' := #[rv rm, rv rt, iv (38 : Int32)]) rfl (XS.goto X295.here hx rfl (pc0 := 30) (pc' := 17) rfl (hb hby own_d25_30) (by decide) (by decide) k)) ?_
  have f296 := (f291.wr W295)
  have f297 := (f292.other W295 (Or.inl (own_neY E1 (hw _ (List.mem_of_getElem? (i := 10) rfl)) Y1)))
  have f298 := (f293.other W295 (Or.inl (own_neY E1 (hw _ (List.mem_of_getElem? (i := 10) rfl)) Y1)))
  refine own_by (g' := (mkF m 19 #[rv rm, rv rt, iv (38 : Int32)] [(.ref rt), (.int (38 : Int32))])) (fun t k => XS.iloadN X295.here hx rfl (hb hby own_d25_17) rfl (XS.aloadN X295.here hx rfl (hb hby own_d25_18) rfl rfl k)) ?_
  obtain ⟨c299, Ar299, S299, G299⟩ := id Al295
  refine own_by (g' := (mkF m 20 #[rv rm, rv rt, iv (38 : Int32)] [(.int (64 : Int32)), (.int (38 : Int32))])) (fun t k => X295.arraylength hx (own_at_ e295 Ar299.1) (State.isArrayOf_alike hZ.alike Ar299.2.1) (g := (mkF m 19 #[rv rm, rv rt, iv (38 : Int32)] [(.ref rt), (.int (38 : Int32))])) rfl rfl (hb hby own_d25_19) t (by rw [len_of S299 G299]; exact k)) ?_
  refine own_by (g' := (mkF m 26 #[rv rm, rv rt, iv (38 : Int32)] [.null, (.int (38 : Int32)), (.ref rt)])) (fun t k => XS.icmpNo X295.here hx rfl (hb hby own_d25_20) rfl (tlt (by decide : (38 : Int32) < (64 : Int32))).2.1 (XS.aloadN X295.here hx rfl (hb hby own_d25_23) rfl rfl (XS.iloadN X295.here hx rfl (hb hby own_d25_24) rfl (XS.aconstNull X295.here hx rfl (hb hby own_d25_25) k)))) ?_
  obtain ⟨c300, Ar300, S300, G300⟩ := id Al295
  have hin300 : ¬ ((38 : Int32) < 0 ∨ c300.slots.size ≤ ((38 : Int32)).toNatClampNeg) := inb_of S300 ⟨by decide, by decide⟩
  obtain ⟨T300, h300, X300, e300, W300, st300⟩ := stR X295 hx hZ e295 Ar300 (j := (38 : Int32)) hin300 rfl (Or.inl rfl) (g := (mkF m 26 #[rv rm, rv rt, iv (38 : Int32)] [.null, (.int (38 : Int32)), (.ref rt)])) rfl rfl (hb hby own_d25_26)
  have Al300 := own_Arz.same (⟨c300, Ar300, S300, G300⟩ : own_Arz Z _ rt (.object "java/lang/Object") (64 : Int32)) W300
  have N300 := Fr.snoc X300 N295 g2
  refine own_by (g' := (mkF m 27 #[rv rm, rv rt, iv (38 : Int32)] [])) st300 ?_
  refine own_by (g' := (mkF m 17 #[rv rm, rv rt, iv (39 : Int32)] [])) (fun t k => XS.iinc X300.here hx rfl (hb hby own_d25_27) rfl (l' := #[rv rm, rv rt, iv (39 : Int32)]) rfl (XS.goto X300.here hx rfl (pc0 := 30) (pc' := 17) rfl (hb hby own_d25_30) (by decide) (by decide) k)) ?_
  have f301 := (f296.wr W300)
  have f302 := (f297.other W300 (Or.inl (own_neY E1 (hw _ (List.mem_of_getElem? (i := 10) rfl)) Y1)))
  have f303 := (f298.other W300 (Or.inl (own_neY E1 (hw _ (List.mem_of_getElem? (i := 10) rfl)) Y1)))
  refine own_by (g' := (mkF m 19 #[rv rm, rv rt, iv (39 : Int32)] [(.ref rt), (.int (39 : Int32))])) (fun t k => XS.iloadN X300.here hx rfl (hb hby own_d25_17) rfl (XS.aloadN X300.here hx rfl (hb hby own_d25_18) rfl rfl k)) ?_
  obtain ⟨c304, Ar304, S304, G304⟩ := id Al300
  refine own_by (g' := (mkF m 20 #[rv rm, rv rt, iv (39 : Int32)] [(.int (64 : Int32)), (.int (39 : Int32))])) (fun t k => X300.arraylength hx (own_at_ e300 Ar304.1) (State.isArrayOf_alike hZ.alike Ar304.2.1) (g := (mkF m 19 #[rv rm, rv rt, iv (39 : Int32)] [(.ref rt), (.int (39 : Int32))])) rfl rfl (hb hby own_d25_19) t (by rw [len_of S304 G304]; exact k)) ?_
  refine own_by (g' := (mkF m 26 #[rv rm, rv rt, iv (39 : Int32)] [.null, (.int (39 : Int32)), (.ref rt)])) (fun t k => XS.icmpNo X300.here hx rfl (hb hby own_d25_20) rfl (tlt (by decide : (39 : Int32) < (64 : Int32))).2.1 (XS.aloadN X300.here hx rfl (hb hby own_d25_23) rfl rfl (XS.iloadN X300.here hx rfl (hb hby own_d25_24) rfl (XS.aconstNull X300.here hx rfl (hb hby own_d25_25) k)))) ?_
  obtain ⟨c305, Ar305, S305, G305⟩ := id Al300
  have hin305 : ¬ ((39 : Int32) < 0 ∨ c305.slots.size ≤ ((39 : Int32)).toNatClampNeg) := inb_of S305 ⟨by decide, by decide⟩
  obtain ⟨T305, h305, X305, e305, W305, st305⟩ := stR X300 hx hZ e300 Ar305 (j := (39 : Int32)) hin305 rfl (Or.inl rfl) (g := (mkF m 26 #[rv rm, rv rt, iv (39 : Int32)] [.null, (.int (39 : Int32)), (.ref rt)])) rfl rfl (hb hby own_d25_26)
  have Al305 := own_Arz.same (⟨c305, Ar305, S305, G305⟩ : own_Arz Z _ rt (.object "java/lang/Object") (64 : Int32)) W305
  have N305 := Fr.snoc X305 N300 g2
  refine own_by (g' := (mkF m 27 #[rv rm, rv rt, iv (39 : Int32)] [])) st305 ?_
  refine own_by (g' := (mkF m 17 #[rv rm, rv rt, iv (40 : Int32)] [])) (fun t k => XS.iinc X305.here hx rfl (hb hby own_d25_27) rfl (l' := #[rv rm, rv rt, iv (40 : Int32)]) rfl (XS.goto X305.here hx rfl (pc0 := 30) (pc' := 17) rfl (hb hby own_d25_30) (by decide) (by decide) k)) ?_
  have f306 := (f301.wr W305)
  have f307 := (f302.other W305 (Or.inl (own_neY E1 (hw _ (List.mem_of_getElem? (i := 10) rfl)) Y1)))
  have f308 := (f303.other W305 (Or.inl (own_neY E1 (hw _ (List.mem_of_getElem? (i := 10) rfl)) Y1)))
  refine own_by (g' := (mkF m 19 #[rv rm, rv rt, iv (40 : Int32)] [(.ref rt), (.int (40 : Int32))])) (fun t k => XS.iloadN X305.here hx rfl (hb hby own_d25_17) rfl (XS.aloadN X305.here hx rfl (hb hby own_d25_18) rfl rfl k)) ?_
  obtain ⟨c309, Ar309, S309, G309⟩ := id Al305
  refine own_by (g' := (mkF m 20 #[rv rm, rv rt, iv (40 : Int32)] [(.int (64 : Int32)), (.int (40 : Int32))])) (fun t k => X305.arraylength hx (own_at_ e305 Ar309.1) (State.isArrayOf_alike hZ.alike Ar309.2.1) (g := (mkF m 19 #[rv rm, rv rt, iv (40 : Int32)] [(.ref rt), (.int (40 : Int32))])) rfl rfl (hb hby own_d25_19) t (by rw [len_of S309 G309]; exact k)) ?_
  refine own_by (g' := (mkF m 26 #[rv rm, rv rt, iv (40 : Int32)] [.null, (.int (40 : Int32)), (.ref rt)])) (fun t k => XS.icmpNo X305.here hx rfl (hb hby own_d25_20) rfl (tlt (by decide : (40 : Int32) < (64 : Int32))).2.1 (XS.aloadN X305.here hx rfl (hb hby own_d25_23) rfl rfl (XS.iloadN X305.here hx rfl (hb hby own_d25_24) rfl (XS.aconstNull X305.here hx rfl (hb hby own_d25_25) k)))) ?_
  obtain ⟨c310, Ar310, S310, G310⟩ := id Al305
  have hin310 : ¬ ((40 : Int32) < 0 ∨ c310.slots.size ≤ ((40 : Int32)).toNatClampNeg) := inb_of S310 ⟨by decide, by decide⟩
  obtain ⟨T310, h310, X310, e310, W310, st310⟩ := stR X305 hx hZ e305 Ar310 (j := (40 : Int32)) hin310 rfl (Or.inl rfl) (g := (mkF m 26 #[rv rm, rv rt, iv (40 : Int32)] [.null, (.int (40 : Int32)), (.ref rt)])) rfl rfl (hb hby own_d25_26)
  have Al310 := own_Arz.same (⟨c310, Ar310, S310, G310⟩ : own_Arz Z _ rt (.object "java/lang/Object") (64 : Int32)) W310
  have N310 := Fr.snoc X310 N305 g2
  refine own_by (g' := (mkF m 27 #[rv rm, rv rt, iv (40 : Int32)] [])) st310 ?_
  refine own_by (g' := (mkF m 17 #[rv rm, rv rt, iv (41 : Int32)] [])) (fun t k => XS.iinc X310.here hx rfl (hb hby own_d25_27) rfl (l' := #[rv rm, rv rt, iv (41 : Int32)]) rfl (XS.goto X310.here hx rfl (pc0 := 30) (pc' := 17) rfl (hb hby own_d25_30) (by decide) (by decide) k)) ?_
  have f311 := (f306.wr W310)
  have f312 := (f307.other W310 (Or.inl (own_neY E1 (hw _ (List.mem_of_getElem? (i := 10) rfl)) Y1)))
  have f313 := (f308.other W310 (Or.inl (own_neY E1 (hw _ (List.mem_of_getElem? (i := 10) rfl)) Y1)))
  refine own_by (g' := (mkF m 19 #[rv rm, rv rt, iv (41 : Int32)] [(.ref rt), (.int (41 : Int32))])) (fun t k => XS.iloadN X310.here hx rfl (hb hby own_d25_17) rfl (XS.aloadN X310.here hx rfl (hb hby own_d25_18) rfl rfl k)) ?_
  obtain ⟨c314, Ar314, S314, G314⟩ := id Al310
  refine own_by (g' := (mkF m 20 #[rv rm, rv rt, iv (41 : Int32)] [(.int (64 : Int32)), (.int (41 : Int32))])) (fun t k => X310.arraylength hx (own_at_ e310 Ar314.1) (State.isArrayOf_alike hZ.alike Ar314.2.1) (g := (mkF m 19 #[rv rm, rv rt, iv (41 : Int32)] [(.ref rt), (.int (41 : Int32))])) rfl rfl (hb hby own_d25_19) t (by rw [len_of S314 G314]; exact k)) ?_
  refine own_by (g' := (mkF m 26 #[rv rm, rv rt, iv (41 : Int32)] [.null, (.int (41 : Int32)), (.ref rt)])) (fun t k => XS.icmpNo X310.here hx rfl (hb hby own_d25_20) rfl (tlt (by decide : (41 : Int32) < (64 : Int32))).2.1 (XS.aloadN X310.here hx rfl (hb hby own_d25_23) rfl rfl (XS.iloadN X310.here hx rfl (hb hby own_d25_24) rfl (XS.aconstNull X310.here hx rfl (hb hby own_d25_25) k)))) ?_
  obtain ⟨c315, Ar315, S315, G315⟩ := id Al310
  have hin315 : ¬ ((41 : Int32) < 0 ∨ c315.slots.size ≤ ((41 : Int32)).toNatClampNeg) := inb_of S315 ⟨by decide, by decide⟩
  obtain ⟨T315, h315, X315, e315, W315, st315⟩ := stR X310 hx hZ e310 Ar315 (j := (41 : Int32)) hin315 rfl (Or.inl rfl) (g := (mkF m 26 #[rv rm, rv rt, iv (41 : Int32)] [.null, (.int (41 : Int32)), (.ref rt)])) rfl rfl (hb hby own_d25_26)
  have Al315 := own_Arz.same (⟨c315, Ar315, S315, G315⟩ : own_Arz Z _ rt (.object "java/lang/Object") (64 : Int32)) W315
  have N315 := Fr.snoc X315 N310 g2
  refine own_by (g' := (mkF m 27 #[rv rm, rv rt, iv (41 : Int32)] [])) st315 ?_
  refine own_by (g' := (mkF m 17 #[rv rm, rv rt, iv (42 : Int32)] [])) (fun t k => XS.iinc X315.here hx rfl (hb hby own_d25_27) rfl (l' := #[rv rm, rv rt, iv (42 : Int32)]) rfl (XS.goto X315.here hx rfl (pc0 := 30) (pc' := 17) rfl (hb hby own_d25_30) (by decide) (by decide) k)) ?_
  have f316 := (f311.wr W315)
  have f317 := (f312.other W315 (Or.inl (own_neY E1 (hw _ (List.mem_of_getElem? (i := 10) rfl)) Y1)))
  have f318 := (f313.other W315 (Or.inl (own_neY E1 (hw _ (List.mem_of_getElem? (i := 10) rfl)) Y1)))
  refine own_by (g' := (mkF m 19 #[rv rm, rv rt, iv (42 : Int32)] [(.ref rt), (.int (42 : Int32))])) (fun t k => XS.iloadN X315.here hx rfl (hb hby own_d25_17) rfl (XS.aloadN X315.here hx rfl (hb hby own_d25_18) rfl rfl k)) ?_
  obtain ⟨c319, Ar319, S319, G319⟩ := id Al315
  refine own_by (g' := (mkF m 20 #[rv rm, rv rt, iv (42 : Int32)] [(.int (64 : Int32)), (.int (42 : Int32))])) (fun t k => X315.arraylength hx (own_at_ e315 Ar319.1) (State.isArrayOf_alike hZ.alike Ar319.2.1) (g := (mkF m 19 #[rv rm, rv rt, iv (42 : Int32)] [(.ref rt), (.int (42 : Int32))])) rfl rfl (hb hby own_d25_19) t (by rw [len_of S319 G319]; exact k)) ?_
  refine own_by (g' := (mkF m 26 #[rv rm, rv rt, iv (42 : Int32)] [.null, (.int (42 : Int32)), (.ref rt)])) (fun t k => XS.icmpNo X315.here hx rfl (hb hby own_d25_20) rfl (tlt (by decide : (42 : Int32) < (64 : Int32))).2.1 (XS.aloadN X315.here hx rfl (hb hby own_d25_23) rfl rfl (XS.iloadN X315.here hx rfl (hb hby own_d25_24) rfl (XS.aconstNull X315.here hx rfl (hb hby own_d25_25) k)))) ?_
  obtain ⟨c320, Ar320, S320, G320⟩ := id Al315
  have hin320 : ¬ ((42 : Int32) < 0 ∨ c320.slots.size ≤ ((42 : Int32)).toNatClampNeg) := inb_of S320 ⟨by decide, by decide⟩
  obtain ⟨T320, h320, X320, e320, W320, st320⟩ := stR X315 hx hZ e315 Ar320 (j := (42 : Int32)) hin320 rfl (Or.inl rfl) (g := (mkF m 26 #[rv rm, rv rt, iv (42 : Int32)] [.null, (.int (42 : Int32)), (.ref rt)])) rfl rfl (hb hby own_d25_26)
  have Al320 := own_Arz.same (⟨c320, Ar320, S320, G320⟩ : own_Arz Z _ rt (.object "java/lang/Object") (64 : Int32)) W320
  have N320 := Fr.snoc X320 N315 g2
  refine own_by (g' := (mkF m 27 #[rv rm, rv rt, iv (42 : Int32)] [])) st320 ?_
  refine own_by (g' := (mkF m 17 #[rv rm, rv rt, iv (43 : Int32)] [])) (fun t k => XS.iinc X320.here hx rfl (hb hby own_d25_27) rfl (l' := #[rv rm, rv rt, iv (43 : Int32)]) rfl (XS.goto X320.here hx rfl (pc0 := 30) (pc' := 17) rfl (hb hby own_d25_30) (by decide) (by decide) k)) ?_
  have f321 := (f316.wr W320)
  have f322 := (f317.other W320 (Or.inl (own_neY E1 (hw _ (List.mem_of_getElem? (i := 10) rfl)) Y1)))
  have f323 := (f318.other W320 (Or.inl (own_neY E1 (hw _ (List.mem_of_getElem? (i := 10) rfl)) Y1)))
  refine own_by (g' := (mkF m 19 #[rv rm, rv rt, iv (43 : Int32)] [(.ref rt), (.int (43 : Int32))])) (fun t k => XS.iloadN X320.here hx rfl (hb hby own_d25_17) rfl (XS.aloadN X320.here hx rfl (hb hby own_d25_18) rfl rfl k)) ?_
  obtain ⟨c324, Ar324, S324, G324⟩ := id Al320
  refine own_by (g' := (mkF m 20 #[rv rm, rv rt, iv (43 : Int32)] [(.int (64 : Int32)), (.int (43 : Int32))])) (fun t k => X320.arraylength hx (own_at_ e320 Ar324.1) (State.isArrayOf_alike hZ.alike Ar324.2.1) (g := (mkF m 19 #[rv rm, rv rt, iv (43 : Int32)] [(.ref rt), (.int (43 : Int32))])) rfl rfl (hb hby own_d25_19) t (by rw [len_of S324 G324]; exact k)) ?_
  refine own_by (g' := (mkF m 26 #[rv rm, rv rt, iv (43 : Int32)] [.null, (.int (43 : Int32)), (.ref rt)])) (fun t k => XS.icmpNo X320.here hx rfl (hb hby own_d25_20) rfl (tlt (by decide : (43 : Int32) < (64 : Int32))).2.1 (XS.aloadN X320.here hx rfl (hb hby own_d25_23) rfl rfl (XS.iloadN X320.here hx rfl (hb hby own_d25_24) rfl (XS.aconstNull X320.here hx rfl (hb hby own_d25_25) k)))) ?_
  obtain ⟨c325, Ar325, S325, G325⟩ := id Al320
  have hin325 : ¬ ((43 : Int32) < 0 ∨ c325.slots.size ≤ ((43 : Int32)).toNatClampNeg) := inb_of S325 ⟨by decide, by decide⟩
  obtain ⟨T325, h325, X325, e325, W325, st325⟩ := stR X320 hx hZ e320 Ar325 (j := (43 : Int32)) hin325 rfl (Or.inl rfl) (g := (mkF m 26 #[rv rm, rv rt, iv (43 : Int32)] [.null, (.int (43 : Int32)), (.ref rt)])) rfl rfl (hb hby own_d25_26)
  have Al325 := own_Arz.same (⟨c325, Ar325, S325, G325⟩ : own_Arz Z _ rt (.object "java/lang/Object") (64 : Int32)) W325
  have N325 := Fr.snoc X325 N320 g2
  refine own_by (g' := (mkF m 27 #[rv rm, rv rt, iv (43 : Int32)] [])) st325 ?_
  refine own_by (g' := (mkF m 17 #[rv rm, rv rt, iv (44 : Int32)] [])) (fun t k => XS.iinc X325.here hx rfl (hb hby own_d25_27) rfl (l' := #[rv rm, rv rt, iv (44 : Int32)]) rfl (XS.goto X325.here hx rfl (pc0 := 30) (pc' := 17) rfl (hb hby own_d25_30) (by decide) (by decide) k)) ?_
  have f326 := (f321.wr W325)
  have f327 := (f322.other W325 (Or.inl (own_neY E1 (hw _ (List.mem_of_getElem? (i := 10) rfl)) Y1)))
  have f328 := (f323.other W325 (Or.inl (own_neY E1 (hw _ (List.mem_of_getElem? (i := 10) rfl)) Y1)))
  refine own_by (g' := (mkF m 19 #[rv rm, rv rt, iv (44 : Int32)] [(.ref rt), (.int (44 : Int32))])) (fun t k => XS.iloadN X325.here hx rfl (hb hby own_d25_17) rfl (XS.aloadN X325.here hx rfl (hb hby own_d25_18) rfl rfl k)) ?_
  obtain ⟨c329, Ar329, S329, G329⟩ := id Al325
  refine own_by (g' := (mkF m 20 #[rv rm, rv rt, iv (44 : Int32)] [(.int (64 : Int32)), (.int (44 : Int32))])) (fun t k => X325.arraylength hx (own_at_ e325 Ar329.1) (State.isArrayOf_alike hZ.alike Ar329.2.1) (g := (mkF m 19 #[rv rm, rv rt, iv (44 : Int32)] [(.ref rt), (.int (44 : Int32))])) rfl rfl (hb hby own_d25_19) t (by rw [len_of S329 G329]; exact k)) ?_
  refine own_by (g' := (mkF m 26 #[rv rm, rv rt, iv (44 : Int32)] [.null, (.int (44 : Int32)), (.ref rt)])) (fun t k => XS.icmpNo X325.here hx rfl (hb hby own_d25_20) rfl (tlt (by decide : (44 : Int32) < (64 : Int32))).2.1 (XS.aloadN X325.here hx rfl (hb hby own_d25_23) rfl rfl (XS.iloadN X325.here hx rfl (hb hby own_d25_24) rfl (XS.aconstNull X325.here hx rfl (hb hby own_d25_25) k)))) ?_
  obtain ⟨c330, Ar330, S330, G330⟩ := id Al325
  have hin330 : ¬ ((44 : Int32) < 0 ∨ c330.slots.size ≤ ((44 : Int32)).toNatClampNeg) := inb_of S330 ⟨by decide, by decide⟩
  obtain ⟨T330, h330, X330, e330, W330, st330⟩ := stR X325 hx hZ e325 Ar330 (j := (44 : Int32)) hin330 rfl (Or.inl rfl) (g := (mkF m 26 #[rv rm, rv rt, iv (44 : Int32)] [.null, (.int (44 : Int32)), (.ref rt)])) rfl rfl (hb hby own_d25_26)
  have Al330 := own_Arz.same (⟨c330, Ar330, S330, G330⟩ : own_Arz Z _ rt (.object "java/lang/Object") (64 : Int32)) W330
  have N330 := Fr.snoc X330 N325 g2
  refine own_by (g' := (mkF m 27 #[rv rm, rv rt, iv (44 : Int32)] [])) st330 ?_
  refine own_by (g' := (mkF m 17 #[rv rm, rv rt, iv (45 : Int32)] [])) (fun t k => XS.iinc X330.here hx rfl (hb hby own_d25_27) rfl (l' := #[rv rm, rv rt, iv (45 : Int32)]) rfl (XS.goto X330.here hx rfl (pc0 := 30) (pc' := 17) rfl (hb hby own_d25_30) (by decide) (by decide) k)) ?_
  have f331 := (f326.wr W330)
  have f332 := (f327.other W330 (Or.inl (own_neY E1 (hw _ (List.mem_of_getElem? (i := 10) rfl)) Y1)))
  have f333 := (f328.other W330 (Or.inl (own_neY E1 (hw _ (List.mem_of_getElem? (i := 10) rfl)) Y1)))
  refine own_by (g' := (mkF m 19 #[rv rm, rv rt, iv (45 : Int32)] [(.ref rt), (.int (45 : Int32))])) (fun t k => XS.iloadN X330.here hx rfl (hb hby own_d25_17) rfl (XS.aloadN X330.here hx rfl (hb hby own_d25_18) rfl rfl k)) ?_
  obtain ⟨c334, Ar334, S334, G334⟩ := id Al330
  refine own_by (g' := (mkF m 20 #[rv rm, rv rt, iv (45 : Int32)] [(.int (64 : Int32)), (.int (45 : Int32))])) (fun t k => X330.arraylength hx (own_at_ e330 Ar334.1) (State.isArrayOf_alike hZ.alike Ar334.2.1) (g := (mkF m 19 #[rv rm, rv rt, iv (45 : Int32)] [(.ref rt), (.int (45 : Int32))])) rfl rfl (hb hby own_d25_19) t (by rw [len_of S334 G334]; exact k)) ?_
  refine own_by (g' := (mkF m 26 #[rv rm, rv rt, iv (45 : Int32)] [.null, (.int (45 : Int32)), (.ref rt)])) (fun t k => XS.icmpNo X330.here hx rfl (hb hby own_d25_20) rfl (tlt (by decide : (45 : Int32) < (64 : Int32))).2.1 (XS.aloadN X330.here hx rfl (hb hby own_d25_23) rfl rfl (XS.iloadN X330.here hx rfl (hb hby own_d25_24) rfl (XS.aconstNull X330.here hx rfl (hb hby own_d25_25) k)))) ?_
  obtain ⟨c335, Ar335, S335, G335⟩ := id Al330
  have hin335 : ¬ ((45 : Int32) < 0 ∨ c335.slots.size ≤ ((45 : Int32)).toNatClampNeg) := inb_of S335 ⟨by decide, by decide⟩
  obtain ⟨T335, h335, X335, e335, W335, st335⟩ := stR X330 hx hZ e330 Ar335 (j := (45 : Int32)) hin335 rfl (Or.inl rfl) (g := (mkF m 26 #[rv rm, rv rt, iv (45 : Int32)] [.null, (.int (45 : Int32)), (.ref rt)])) rfl rfl (hb hby own_d25_26)
  have Al335 := own_Arz.same (⟨c335, Ar335, S335, G335⟩ : own_Arz Z _ rt (.object "java/lang/Object") (64 : Int32)) W335
  have N335 := Fr.snoc X335 N330 g2
  refine own_by (g' := (mkF m 27 #[rv rm, rv rt, iv (45 : Int32)] [])) st335 ?_
  refine own_by (g' := (mkF m 17 #[rv rm, rv rt, iv (46 : Int32)] [])) (fun t k => XS.iinc X335.here hx rfl (hb hby own_d25_27) rfl (l' := #[rv rm, rv rt, iv (46 : Int32)]) rfl (XS.goto X335.here hx rfl (pc0 := 30) (pc' := 17) rfl (hb hby own_d25_30) (by decide) (by decide) k)) ?_
  have f336 := (f331.wr W335)
  have f337 := (f332.other W335 (Or.inl (own_neY E1 (hw _ (List.mem_of_getElem? (i := 10) rfl)) Y1)))
  have f338 := (f333.other W335 (Or.inl (own_neY E1 (hw _ (List.mem_of_getElem? (i := 10) rfl)) Y1)))
  refine own_by (g' := (mkF m 19 #[rv rm, rv rt, iv (46 : Int32)] [(.ref rt), (.int (46 : Int32))])) (fun t k => XS.iloadN X335.here hx rfl (hb hby own_d25_17) rfl (XS.aloadN X335.here hx rfl (hb hby own_d25_18) rfl rfl k)) ?_
  obtain ⟨c339, Ar339, S339, G339⟩ := id Al335
  refine own_by (g' := (mkF m 20 #[rv rm, rv rt, iv (46 : Int32)] [(.int (64 : Int32)), (.int (46 : Int32))])) (fun t k => X335.arraylength hx (own_at_ e335 Ar339.1) (State.isArrayOf_alike hZ.alike Ar339.2.1) (g := (mkF m 19 #[rv rm, rv rt, iv (46 : Int32)] [(.ref rt), (.int (46 : Int32))])) rfl rfl (hb hby own_d25_19) t (by rw [len_of S339 G339]; exact k)) ?_
  refine own_by (g' := (mkF m 26 #[rv rm, rv rt, iv (46 : Int32)] [.null, (.int (46 : Int32)), (.ref rt)])) (fun t k => XS.icmpNo X335.here hx rfl (hb hby own_d25_20) rfl (tlt (by decide : (46 : Int32) < (64 : Int32))).2.1 (XS.aloadN X335.here hx rfl (hb hby own_d25_23) rfl rfl (XS.iloadN X335.here hx rfl (hb hby own_d25_24) rfl (XS.aconstNull X335.here hx rfl (hb hby own_d25_25) k)))) ?_
  obtain ⟨c340, Ar340, S340, G340⟩ := id Al335
  have hin340 : ¬ ((46 : Int32) < 0 ∨ c340.slots.size ≤ ((46 : Int32)).toNatClampNeg) := inb_of S340 ⟨by decide, by decide⟩
  obtain ⟨T340, h340, X340, e340, W340, st340⟩ := stR X335 hx hZ e335 Ar340 (j := (46 : Int32)) hin340 rfl (Or.inl rfl) (g := (mkF m 26 #[rv rm, rv rt, iv (46 : Int32)] [.null, (.int (46 : Int32)), (.ref rt)])) rfl rfl (hb hby own_d25_26)
  have Al340 := own_Arz.same (⟨c340, Ar340, S340, G340⟩ : own_Arz Z _ rt (.object "java/lang/Object") (64 : Int32)) W340
  have N340 := Fr.snoc X340 N335 g2
  refine own_by (g' := (mkF m 27 #[rv rm, rv rt, iv (46 : Int32)] [])) st340 ?_
  refine own_by (g' := (mkF m 17 #[rv rm, rv rt, iv (47 : Int32)] [])) (fun t k => XS.iinc X340.here hx rfl (hb hby own_d25_27) rfl (l' := #[rv rm, rv rt, iv (47 : Int32)]) rfl (XS.goto X340.here hx rfl (pc0 := 30) (pc' := 17) rfl (hb hby own_d25_30) (by decide) (by decide) k)) ?_
  have f341 := (f336.wr W340)
  have f342 := (f337.other W340 (Or.inl (own_neY E1 (hw _ (List.mem_of_getElem? (i := 10) rfl)) Y1)))
  have f343 := (f338.other W340 (Or.inl (own_neY E1 (hw _ (List.mem_of_getElem? (i := 10) rfl)) Y1)))
  refine own_by (g' := (mkF m 19 #[rv rm, rv rt, iv (47 : Int32)] [(.ref rt), (.int (47 : Int32))])) (fun t k => XS.iloadN X340.here hx rfl (hb hby own_d25_17) rfl (XS.aloadN X340.here hx rfl (hb hby own_d25_18) rfl rfl k)) ?_
  obtain ⟨c344, Ar344, S344, G344⟩ := id Al340
  refine own_by (g' := (mkF m 20 #[rv rm, rv rt, iv (47 : Int32)] [(.int (64 : Int32)), (.int (47 : Int32))])) (fun t k => X340.arraylength hx (own_at_ e340 Ar344.1) (State.isArrayOf_alike hZ.alike Ar344.2.1) (g := (mkF m 19 #[rv rm, rv rt, iv (47 : Int32)] [(.ref rt), (.int (47 : Int32))])) rfl rfl (hb hby own_d25_19) t (by rw [len_of S344 G344]; exact k)) ?_
  refine own_by (g' := (mkF m 26 #[rv rm, rv rt, iv (47 : Int32)] [.null, (.int (47 : Int32)), (.ref rt)])) (fun t k => XS.icmpNo X340.here hx rfl (hb hby own_d25_20) rfl (tlt (by decide : (47 : Int32) < (64 : Int32))).2.1 (XS.aloadN X340.here hx rfl (hb hby own_d25_23) rfl rfl (XS.iloadN X340.here hx rfl (hb hby own_d25_24) rfl (XS.aconstNull X340.here hx rfl (hb hby own_d25_25) k)))) ?_
  obtain ⟨c345, Ar345, S345, G345⟩ := id Al340
  have hin345 : ¬ ((47 : Int32) < 0 ∨ c345.slots.size ≤ ((47 : Int32)).toNatClampNeg) := inb_of S345 ⟨by decide, by decide⟩
  obtain ⟨T345, h345, X345, e345, W345, st345⟩ := stR X340 hx hZ e340 Ar345 (j := (47 : Int32)) hin345 rfl (Or.inl rfl) (g := (mkF m 26 #[rv rm, rv rt, iv (47 : Int32)] [.null, (.int (47 : Int32)), (.ref rt)])) rfl rfl (hb hby own_d25_26)
  have Al345 := own_Arz.same (⟨c345, Ar345, S345, G345⟩ : own_Arz Z _ rt (.object "java/lang/Object") (64 : Int32)) W345
  have N345 := Fr.snoc X345 N340 g2
  refine own_by (g' := (mkF m 27 #[rv rm, rv rt, iv (47 : Int32)] [])) st345 ?_
  refine own_by (g' := (mkF m 17 #[rv rm, rv rt, iv (48 : Int32)] [])) (fun t k => XS.iinc X345.here hx rfl (hb hby own_d25_27) rfl (l' := #[rv rm, rv rt, iv (48 : Int32)]) rfl (XS.goto X345.here hx rfl (pc0 := 30) (pc' := 17) rfl (hb hby own_d25_30) (by decide) (by decide) k)) ?_
  have f346 := (f341.wr W345)
  have f347 := (f342.other W345 (Or.inl (own_neY E1 (hw _ (List.mem_of_getElem? (i := 10) rfl)) Y1)))
  have f348 := (f343.other W345 (Or.inl (own_neY E1 (hw _ (List.mem_of_getElem? (i := 10) rfl)) Y1)))
  refine own_by (g' := (mkF m 19 #[rv rm, rv rt, iv (48 : Int32)] [(.ref rt), (.int (48 : Int32))])) (fun t k => XS.iloadN X345.here hx rfl (hb hby own_d25_17) rfl (XS.aloadN X345.here hx rfl (hb hby own_d25_18) rfl rfl k)) ?_
  obtain ⟨c349, Ar349, S349, G349⟩ := id Al345
  refine own_by (g' := (mkF m 20 #[rv rm, rv rt, iv (48 : Int32)] [(.int (64 : Int32)), (.int (48 : Int32))])) (fun t k => X345.arraylength hx (own_at_ e345 Ar349.1) (State.isArrayOf_alike hZ.alike Ar349.2.1) (g := (mkF m 19 #[rv rm, rv rt, iv (48 : Int32)] [(.ref rt), (.int (48 : Int32))])) rfl rfl (hb hby own_d25_19) t (by rw [len_of S349 G349]; exact k)) ?_
  refine own_by (g' := (mkF m 26 #[rv rm, rv rt, iv (48 : Int32)] [.null, (.int (48 : Int32)), (.ref rt)])) (fun t k => XS.icmpNo X345.here hx rfl (hb hby own_d25_20) rfl (tlt (by decide : (48 : Int32) < (64 : Int32))).2.1 (XS.aloadN X345.here hx rfl (hb hby own_d25_23) rfl rfl (XS.iloadN X345.here hx rfl (hb hby own_d25_24) rfl (XS.aconstNull X345.here hx rfl (hb hby own_d25_25) k)))) ?_
  obtain ⟨c350, Ar350, S350, G350⟩ := id Al345
  have hin350 : ¬ ((48 : Int32) < 0 ∨ c350.slots.size ≤ ((48 : Int32)).toNatClampNeg) := inb_of S350 ⟨by decide, by decide⟩
  obtain ⟨T350, h350, X350, e350, W350, st350⟩ := stR X345 hx hZ e345 Ar350 (j := (48 : Int32)) hin350 rfl (Or.inl rfl) (g := (mkF m 26 #[rv rm, rv rt, iv (48 : Int32)] [.null, (.int (48 : Int32)), (.ref rt)])) rfl rfl (hb hby own_d25_26)
  have Al350 := own_Arz.same (⟨c350, Ar350, S350, G350⟩ : own_Arz Z _ rt (.object "java/lang/Object") (64 : Int32)) W350
  have N350 := Fr.snoc X350 N345 g2
  refine own_by (g' := (mkF m 27 #[rv rm, rv rt, iv (48 : Int32)] [])) st350 ?_
  refine own_by (g' := (mkF m 17 #[rv rm, rv rt, iv (49 : Int32)] [])) (fun t k => XS.iinc X350.here hx rfl (hb hby own_d25_27) rfl (l' := #[rv rm, rv rt, iv (49 : Int32)]) rfl (XS.goto X350.here hx rfl (pc0 := 30) (pc' := 17) rfl (hb hby own_d25_30) (by decide) (by decide) k)) ?_
  have f351 := (f346.wr W350)
  have f352 := (f347.other W350 (Or.inl (own_neY E1 (hw _ (List.mem_of_getElem? (i := 10) rfl)) Y1)))
  have f353 := (f348.other W350 (Or.inl (own_neY E1 (hw _ (List.mem_of_getElem? (i := 10) rfl)) Y1)))
  refine own_by (g' := (mkF m 19 #[rv rm, rv rt, iv (49 : Int32)] [(.ref rt), (.int (49 : Int32))])) (fun t k => XS.iloadN X350.here hx rfl (hb hby own_d25_17) rfl (XS.aloadN X350.here hx rfl (hb hby own_d25_18) rfl rfl k)) ?_
  obtain ⟨c354, Ar354, S354, G354⟩ := id Al350
  refine own_by (g' := (mkF m 20 #[rv rm, rv rt, iv (49 : Int32)] [(.int (64 : Int32)), (.int (49 : Int32))])) (fun t k => X350.arraylength hx (own_at_ e350 Ar354.1) (State.isArrayOf_alike hZ.alike Ar354.2.1) (g := (mkF m 19 #[rv rm, rv rt, iv (49 : Int32)] [(.ref rt), (.int (49 : Int32))])) rfl rfl (hb hby own_d25_19) t (by rw [len_of S354 G354]; exact k)) ?_
  refine own_by (g' := (mkF m 26 #[rv rm, rv rt, iv (49 : Int32)] [.null, (.int (49 : Int32)), (.ref rt)])) (fun t k => XS.icmpNo X350.here hx rfl (hb hby own_d25_20) rfl (tlt (by decide : (49 : Int32) < (64 : Int32))).2.1 (XS.aloadN X350.here hx rfl (hb hby own_d25_23) rfl rfl (XS.iloadN X350.here hx rfl (hb hby own_d25_24) rfl (XS.aconstNull X350.here hx rfl (hb hby own_d25_25) k)))) ?_
  obtain ⟨c355, Ar355, S355, G355⟩ := id Al350
  have hin355 : ¬ ((49 : Int32) < 0 ∨ c355.slots.size ≤ ((49 : Int32)).toNatClampNeg) := inb_of S355 ⟨by decide, by decide⟩
  obtain ⟨T355, h355, X355, e355, W355, st355⟩ := stR X350 hx hZ e350 Ar355 (j := (49 : Int32)) hin355 rfl (Or.inl rfl) (g := (mkF m 26 #[rv rm, rv rt, iv (49 : Int32)] [.null, (.int (49 : Int32)), (.ref rt)])) rfl rfl (hb hby own_d25_26)
  have Al355 := own_Arz.same (⟨c355, Ar355, S355, G355⟩ : own_Arz Z _ rt (.object "java/lang/Object") (64 : Int32)) W355
  have N355 := Fr.snoc X355 N350 g2
  refine own_by (g' := (mkF m 27 #[rv rm, rv rt, iv (49 : Int32)] [])) st355 ?_
  refine own_by (g' := (mkF m 17 #[rv rm, rv rt, iv (50 : Int32)] [])) (fun t k => XS.iinc X355.here hx rfl (hb hby own_d25_27) rfl (l' := #[rv rm, rv rt, iv (50 : Int32)]) rfl (XS.goto X355.here hx rfl (pc0 := 30) (pc' := 17) rfl (hb hby own_d25_30) (by decide) (by decide) k)) ?_
  have f356 := (f351.wr W355)
  have f357 := (f352.other W355 (Or.inl (own_neY E1 (hw _ (List.mem_of_getElem? (i := 10) rfl)) Y1)))
  have f358 := (f353.other W355 (Or.inl (own_neY E1 (hw _ (List.mem_of_getElem? (i := 10) rfl)) Y1)))
  refine own_by (g' := (mkF m 19 #[rv rm, rv rt, iv (50 : Int32)] [(.ref rt), (.int (50 : Int32))])) (fun t k => XS.iloadN X355.here hx rfl (hb hby own_d25_17) rfl (XS.aloadN X355.here hx rfl (hb hby own_d25_18) rfl rfl k)) ?_
  obtain ⟨c359, Ar359, S359, G359⟩ := id Al355
  refine own_by (g' := (mkF m 20 #[rv rm, rv rt, iv (50 : Int32)] [(.int (64 : Int32)), (.int (50 : Int32))])) (fun t k => X355.arraylength hx (own_at_ e355 Ar359.1) (State.isArrayOf_alike hZ.alike Ar359.2.1) (g := (mkF m 19 #[rv rm, rv rt, iv (50 : Int32)] [(.ref rt), (.int (50 : Int32))])) rfl rfl (hb hby own_d25_19) t (by rw [len_of S359 G359]; exact k)) ?_
  refine own_by (g' := (mkF m 26 #[rv rm, rv rt, iv (50 : Int32)] [.null, (.int (50 : Int32)), (.ref rt)])) (fun t k => XS.icmpNo X355.here hx rfl (hb hby own_d25_20) rfl (tlt (by decide : (50 : Int32) < (64 : Int32))).2.1 (XS.aloadN X355.here hx rfl (hb hby own_d25_23) rfl rfl (XS.iloadN X355.here hx rfl (hb hby own_d25_24) rfl (XS.aconstNull X355.here hx rfl (hb hby own_d25_25) k)))) ?_
  obtain ⟨c360, Ar360, S360, G360⟩ := id Al355
  have hin360 : ¬ ((50 : Int32) < 0 ∨ c360.slots.size ≤ ((50 : Int32)).toNatClampNeg) := inb_of S360 ⟨by decide, by decide⟩
  obtain ⟨T360, h360, X360, e360, W360, st360⟩ := stR X355 hx hZ e355 Ar360 (j := (50 : Int32)) hin360 rfl (Or.inl rfl) (g := (mkF m 26 #[rv rm, rv rt, iv (50 : Int32)] [.null, (.int (50 : Int32)), (.ref rt)])) rfl rfl (hb hby own_d25_26)
  have Al360 := own_Arz.same (⟨c360, Ar360, S360, G360⟩ : own_Arz Z _ rt (.object "java/lang/Object") (64 : Int32)) W360
  have N360 := Fr.snoc X360 N355 g2
  refine own_by (g' := (mkF m 27 #[rv rm, rv rt, iv (50 : Int32)] [])) st360 ?_
  refine own_by (g' := (mkF m 17 #[rv rm, rv rt, iv (51 : Int32)] [])) (fun t k => XS.iinc X360.here hx rfl (hb hby own_d25_27) rfl (l' := #[rv rm, rv rt, iv (51 : Int32)]) rfl (XS.goto X360.here hx rfl (pc0 := 30) (pc' := 17) rfl (hb hby own_d25_30) (by decide) (by decide) k)) ?_
  have f361 := (f356.wr W360)
  have f362 := (f357.other W360 (Or.inl (own_neY E1 (hw _ (List.mem_of_getElem? (i := 10) rfl)) Y1)))
  have f363 := (f358.other W360 (Or.inl (own_neY E1 (hw _ (List.mem_of_getElem? (i := 10) rfl)) Y1)))
  refine own_by (g' := (mkF m 19 #[rv rm, rv rt, iv (51 : Int32)] [(.ref rt), (.int (51 : Int32))])) (fun t k => XS.iloadN X360.here hx rfl (hb hby own_d25_17) rfl (XS.aloadN X360.here hx rfl (hb hby own_d25_18) rfl rfl k)) ?_
  obtain ⟨c364, Ar364, S364, G364⟩ := id Al360
  refine own_by (g' := (mkF m 20 #[rv rm, rv rt, iv (51 : Int32)] [(.int (64 : Int32)), (.int (51 : Int32))])) (fun t k => X360.arraylength hx (own_at_ e360 Ar364.1) (State.isArrayOf_alike hZ.alike Ar364.2.1) (g := (mkF m 19 #[rv rm, rv rt, iv (51 : Int32)] [(.ref rt), (.int (51 : Int32))])) rfl rfl (hb hby own_d25_19) t (by rw [len_of S364 G364]; exact k)) ?_
  refine own_by (g' := (mkF m 26 #[rv rm, rv rt, iv (51 : Int32)] [.null, (.int (51 : Int32)), (.ref rt)])) (fun t k => XS.icmpNo X360.here hx rfl (hb hby own_d25_20) rfl (tlt (by decide : (51 : Int32) < (64 : Int32))).2.1 (XS.aloadN X360.here hx rfl (hb hby own_d25_23) rfl rfl (XS.iloadN X360.here hx rfl (hb hby own_d25_24) rfl (XS.aconstNull X360.here hx rfl (hb hby own_d25_25) k)))) ?_
  obtain ⟨c365, Ar365, S365, G365⟩ := id Al360
  have hin365 : ¬ ((51 : Int32) < 0 ∨ c365.slots.size ≤ ((51 : Int32)).toNatClampNeg) := inb_of S365 ⟨by decide, by decide⟩
  obtain ⟨T365, h365, X365, e365, W365, st365⟩ := stR X360 hx hZ e360 Ar365 (j := (51 : Int32)) hin365 rfl (Or.inl rfl) (g := (mkF m 26 #[rv rm, rv rt, iv (51 : Int32)] [.null, (.int (51 : Int32)), (.ref rt)])) rfl rfl (hb hby own_d25_26)
  have Al365 := own_Arz.same (⟨c365, Ar365, S365, G365⟩ : own_Arz Z _ rt (.object "java/lang/Object") (64 : Int32)) W365
  have N365 := Fr.snoc X365 N360 g2
  refine own_by (g' := (mkF m 27 #[rv rm, rv rt, iv (51 : Int32)] [])) st365 ?_
  refine own_by (g' := (mkF m 17 #[rv rm, rv rt, iv (52 : Int32)] [])) (fun t k => XS.iinc X365.here hx rfl (hb hby own_d25_27) rfl (l' := #[rv rm, rv rt, iv (52 : Int32)]) rfl (XS.goto X365.here hx rfl (pc0 := 30) (pc' := 17) rfl (hb hby own_d25_30) (by decide) (by decide) k)) ?_
  have f366 := (f361.wr W365)
  have f367 := (f362.other W365 (Or.inl (own_neY E1 (hw _ (List.mem_of_getElem? (i := 10) rfl)) Y1)))
  have f368 := (f363.other W365 (Or.inl (own_neY E1 (hw _ (List.mem_of_getElem? (i := 10) rfl)) Y1)))
  refine own_by (g' := (mkF m 19 #[rv rm, rv rt, iv (52 : Int32)] [(.ref rt), (.int (52 : Int32))])) (fun t k => XS.iloadN X365.here hx rfl (hb hby own_d25_17) rfl (XS.aloadN X365.here hx rfl (hb hby own_d25_18) rfl rfl k)) ?_
  obtain ⟨c369, Ar369, S369, G369⟩ := id Al365
  refine own_by (g' := (mkF m 20 #[rv rm, rv rt, iv (52 : Int32)] [(.int (64 : Int32)), (.int (52 : Int32))])) (fun t k => X365.arraylength hx (own_at_ e365 Ar369.1) (State.isArrayOf_alike hZ.alike Ar369.2.1) (g := (mkF m 19 #[rv rm, rv rt, iv (52 : Int32)] [(.ref rt), (.int (52 : Int32))])) rfl rfl (hb hby own_d25_19) t (by rw [len_of S369 G369]; exact k)) ?_
  refine own_by (g' := (mkF m 26 #[rv rm, rv rt, iv (52 : Int32)] [.null, (.int (52 : Int32)), (.ref rt)])) (fun t k => XS.icmpNo X365.here hx rfl (hb hby own_d25_20) rfl (tlt (by decide : (52 : Int32) < (64 : Int32))).2.1 (XS.aloadN X365.here hx rfl (hb hby own_d25_23) rfl rfl (XS.iloadN X365.here hx rfl (hb hby own_d25_24) rfl (XS.aconstNull X365.here hx rfl (hb hby own_d25_25) k)))) ?_
  obtain ⟨c370, Ar370, S370, G370⟩ := id Al365
  have hin370 : ¬ ((52 : Int32) < 0 ∨ c370.slots.size ≤ ((52 : Int32)).toNatClampNeg) := inb_of S370 ⟨by decide, by decide⟩
  obtain ⟨T370, h370, X370, e370, W370, st370⟩ := stR X365 hx hZ e365 Ar370 (j := (52 : Int32)) hin370 rfl (Or.inl rfl) (g := (mkF m 26 #[rv rm, rv rt, iv (52 : Int32)] [.null, (.int (52 : Int32)), (.ref rt)])) rfl rfl (hb hby own_d25_26)
  have Al370 := own_Arz.same (⟨c370, Ar370, S370, G370⟩ : own_Arz Z _ rt (.object "java/lang/Object") (64 : Int32)) W370
  have N370 := Fr.snoc X370 N365 g2
  refine own_by (g' := (mkF m 27 #[rv rm, rv rt, iv (52 : Int32)] [])) st370 ?_
  refine own_by (g' := (mkF m 17 #[rv rm, rv rt, iv (53 : Int32)] [])) (fun t k => XS.iinc X370.here hx rfl (hb hby own_d25_27) rfl (l' := #[rv rm, rv rt, iv (53 : Int32)]) rfl (XS.goto X370.here hx rfl (pc0 := 30) (pc' := 17) rfl (hb hby own_d25_30) (by decide) (by decide) k)) ?_
  have f371 := (f366.wr W370)
  have f372 := (f367.other W370 (Or.inl (own_neY E1 (hw _ (List.mem_of_getElem? (i := 10) rfl)) Y1)))
  have f373 := (f368.other W370 (Or.inl (own_neY E1 (hw _ (List.mem_of_getElem? (i := 10) rfl)) Y1)))
  refine own_by (g' := (mkF m 19 #[rv rm, rv rt, iv (53 : Int32)] [(.ref rt), (.int (53 : Int32))])) (fun t k => XS.iloadN X370.here hx rfl (hb hby own_d25_17) rfl (XS.aloadN X370.here hx rfl (hb hby own_d25_18) rfl rfl k)) ?_
  obtain ⟨c374, Ar374, S374, G374⟩ := id Al370
  refine own_by (g' := (mkF m 20 #[rv rm, rv rt, iv (53 : Int32)] [(.int (64 : Int32)), (.int (53 : Int32))])) (fun t k => X370.arraylength hx (own_at_ e370 Ar374.1) (State.isArrayOf_alike hZ.alike Ar374.2.1) (g := (mkF m 19 #[rv rm, rv rt, iv (53 : Int32)] [(.ref rt), (.int (53 : Int32))])) rfl rfl (hb hby own_d25_19) t (by rw [len_of S374 G374]; exact k)) ?_
  refine own_by (g' := (mkF m 26 #[rv rm, rv rt, iv (53 : Int32)] [.null, (.int (53 : Int32)), (.ref rt)])) (fun t k => XS.icmpNo X370.here hx rfl (hb hby own_d25_20) rfl (tlt (by decide : (53 : Int32) < (64 : Int32))).2.1 (XS.aloadN X370.here hx rfl (hb hby own_d25_23) rfl rfl (XS.iloadN X370.here hx rfl (hb hby own_d25_24) rfl (XS.aconstNull X370.here hx rfl (hb hby own_d25_25) k)))) ?_
  obtain ⟨c375, Ar375, S375, G375⟩ := id Al370
  have hin375 : ¬ ((53 : Int32) < 0 ∨ c375.slots.size ≤ ((53 : Int32)).toNatClampNeg) := inb_of S375 ⟨by decide, by decide⟩
  obtain ⟨T375, h375, X375, e375, W375, st375⟩ := stR X370 hx hZ e370 Ar375 (j := (53 : Int32)) hin375 rfl (Or.inl rfl) (g := (mkF m 26 #[rv rm, rv rt, iv (53 : Int32)] [.null, (.int (53 : Int32)), (.ref rt)])) rfl rfl (hb hby own_d25_26)
  have Al375 := own_Arz.same (⟨c375, Ar375, S375, G375⟩ : own_Arz Z _ rt (.object "java/lang/Object") (64 : Int32)) W375
  have N375 := Fr.snoc X375 N370 g2
  refine own_by (g' := (mkF m 27 #[rv rm, rv rt, iv (53 : Int32)] [])) st375 ?_
  refine own_by (g' := (mkF m 17 #[rv rm, rv rt, iv (54 : Int32)] [])) (fun t k => XS.iinc X375.here hx rfl (hb hby own_d25_27) rfl (l' := #[rv rm, rv rt, iv (54 : Int32)]) rfl (XS.goto X375.here hx rfl (pc0 := 30) (pc' := 17) rfl (hb hby own_d25_30) (by decide) (by decide) k)) ?_
  have f376 := (f371.wr W375)
  have f377 := (f372.other W375 (Or.inl (own_neY E1 (hw _ (List.mem_of_getElem? (i := 10) rfl)) Y1)))
  have f378 := (f373.other W375 (Or.inl (own_neY E1 (hw _ (List.mem_of_getElem? (i := 10) rfl)) Y1)))
  refine own_by (g' := (mkF m 19 #[rv rm, rv rt, iv (54 : Int32)] [(.ref rt), (.int (54 : Int32))])) (fun t k => XS.iloadN X375.here hx rfl (hb hby own_d25_17) rfl (XS.aloadN X375.here hx rfl (hb hby own_d25_18) rfl rfl k)) ?_
  obtain ⟨c379, Ar379, S379, G379⟩ := id Al375
  refine own_by (g' := (mkF m 20 #[rv rm, rv rt, iv (54 : Int32)] [(.int (64 : Int32)), (.int (54 : Int32))])) (fun t k => X375.arraylength hx (own_at_ e375 Ar379.1) (State.isArrayOf_alike hZ.alike Ar379.2.1) (g := (mkF m 19 #[rv rm, rv rt, iv (54 : Int32)] [(.ref rt), (.int (54 : Int32))])) rfl rfl (hb hby own_d25_19) t (by rw [len_of S379 G379]; exact k)) ?_
  refine own_by (g' := (mkF m 26 #[rv rm, rv rt, iv (54 : Int32)] [.null, (.int (54 : Int32)), (.ref rt)])) (fun t k => XS.icmpNo X375.here hx rfl (hb hby own_d25_20) rfl (tlt (by decide : (54 : Int32) < (64 : Int32))).2.1 (XS.aloadN X375.here hx rfl (hb hby own_d25_23) rfl rfl (XS.iloadN X375.here hx rfl (hb hby own_d25_24) rfl (XS.aconstNull X375.here hx rfl (hb hby own_d25_25) k)))) ?_
  obtain ⟨c380, Ar380, S380, G380⟩ := id Al375
  have hin380 : ¬ ((54 : Int32) < 0 ∨ c380.slots.size ≤ ((54 : Int32)).toNatClampNeg) := inb_of S380 ⟨by decide, by decide⟩
  obtain ⟨T380, h380, X380, e380, W380, st380⟩ := stR X375 hx hZ e375 Ar380 (j := (54 : Int32)) hin380 rfl (Or.inl rfl) (g := (mkF m 26 #[rv rm, rv rt, iv (54 : Int32)] [.null, (.int (54 : Int32)), (.ref rt)])) rfl rfl (hb hby own_d25_26)
  have Al380 := own_Arz.same (⟨c380, Ar380, S380, G380⟩ : own_Arz Z _ rt (.object "java/lang/Object") (64 : Int32)) W380
  have N380 := Fr.snoc X380 N375 g2
  refine own_by (g' := (mkF m 27 #[rv rm, rv rt, iv (54 : Int32)] [])) st380 ?_
  refine own_by (g' := (mkF m 17 #[rv rm, rv rt, iv (55 : Int32)] [])) (fun t k => XS.iinc X380.here hx rfl (hb hby own_d25_27) rfl (l' := #[rv rm, rv rt, iv (55 : Int32)]) rfl (XS.goto X380.here hx rfl (pc0 := 30) (pc' := 17) rfl (hb hby own_d25_30) (by decide) (by decide) k)) ?_
  have f381 := (f376.wr W380)
  have f382 := (f377.other W380 (Or.inl (own_neY E1 (hw _ (List.mem_of_getElem? (i := 10) rfl)) Y1)))
  have f383 := (f378.other W380 (Or.inl (own_neY E1 (hw _ (List.mem_of_getElem? (i := 10) rfl)) Y1)))
  refine own_by (g' := (mkF m 19 #[rv rm, rv rt, iv (55 : Int32)] [(.ref rt), (.int (55 : Int32))])) (fun t k => XS.iloadN X380.here hx rfl (hb hby own_d25_17) rfl (XS.aloadN X380.here hx rfl (hb hby own_d25_18) rfl rfl k)) ?_
  obtain ⟨c384, Ar384, S384, G384⟩ := id Al380
  refine own_by (g' := (mkF m 20 #[rv rm, rv rt, iv (55 : Int32)] [(.int (64 : Int32)), (.int (55 : Int32))])) (fun t k => X380.arraylength hx (own_at_ e380 Ar384.1) (State.isArrayOf_alike hZ.alike Ar384.2.1) (g := (mkF m 19 #[rv rm, rv rt, iv (55 : Int32)] [(.ref rt), (.int (55 : Int32))])) rfl rfl (hb hby own_d25_19) t (by rw [len_of S384 G384]; exact k)) ?_
  refine own_by (g' := (mkF m 26 #[rv rm, rv rt, iv (55 : Int32)] [.null, (.int (55 : Int32)), (.ref rt)])) (fun t k => XS.icmpNo X380.here hx rfl (hb hby own_d25_20) rfl (tlt (by decide : (55 : Int32) < (64 : Int32))).2.1 (XS.aloadN X380.here hx rfl (hb hby own_d25_23) rfl rfl (XS.iloadN X380.here hx rfl (hb hby own_d25_24) rfl (XS.aconstNull X380.here hx rfl (hb hby own_d25_25) k)))) ?_
  obtain ⟨c385, Ar385, S385, G385⟩ := id Al380
  have hin385 : ¬ ((55 : Int32) < 0 ∨ c385.slots.size ≤ ((55 : Int32)).toNatClampNeg) := inb_of S385 ⟨by decide, by decide⟩
  obtain ⟨T385, h385, X385, e385, W385, st385⟩ := stR X380 hx hZ e380 Ar385 (j := (55 : Int32)) hin385 rfl (Or.inl rfl) (g := (mkF m 26 #[rv rm, rv rt, iv (55 : Int32)] [.null, (.int (55 : Int32)), (.ref rt)])) rfl rfl (hb hby own_d25_26)
  have Al385 := own_Arz.same (⟨c385, Ar385, S385, G385⟩ : own_Arz Z _ rt (.object "java/lang/Object") (64 : Int32)) W385
  have N385 := Fr.snoc X385 N380 g2
  refine own_by (g' := (mkF m 27 #[rv rm, rv rt, iv (55 : Int32)] [])) st385 ?_
  refine own_by (g' := (mkF m 17 #[rv rm, rv rt, iv (56 : Int32)] [])) (fun t k => XS.iinc X385.here hx rfl (hb hby own_d25_27) rfl (l' := #[rv rm, rv rt, iv (56 : Int32)]) rfl (XS.goto X385.here hx rfl (pc0 := 30) (pc' := 17) rfl (hb hby own_d25_30) (by decide) (by decide) k)) ?_
  have f386 := (f381.wr W385)
  have f387 := (f382.other W385 (Or.inl (own_neY E1 (hw _ (List.mem_of_getElem? (i := 10) rfl)) Y1)))
  have f388 := (f383.other W385 (Or.inl (own_neY E1 (hw _ (List.mem_of_getElem? (i := 10) rfl)) Y1)))
  refine own_by (g' := (mkF m 19 #[rv rm, rv rt, iv (56 : Int32)] [(.ref rt), (.int (56 : Int32))])) (fun t k => XS.iloadN X385.here hx rfl (hb hby own_d25_17) rfl (XS.aloadN X385.here hx rfl (hb hby own_d25_18) rfl rfl k)) ?_
  obtain ⟨c389, Ar389, S389, G389⟩ := id Al385
  refine own_by (g' := (mkF m 20 #[rv rm, rv rt, iv (56 : Int32)] [(.int (64 : Int32)), (.int (56 : Int32))])) (fun t k => X385.arraylength hx (own_at_ e385 Ar389.1) (State.isArrayOf_alike hZ.alike Ar389.2.1) (g := (mkF m 19 #[rv rm, rv rt, iv (56 : Int32)] [(.ref rt), (.int (56 : Int32))])) rfl rfl (hb hby own_d25_19) t (by rw [len_of S389 G389]; exact k)) ?_
  refine own_by (g' := (mkF m 26 #[rv rm, rv rt, iv (56 : Int32)] [.null, (.int (56 : Int32)), (.ref rt)])) (fun t k => XS.icmpNo X385.here hx rfl (hb hby own_d25_20) rfl (tlt (by decide : (56 : Int32) < (64 : Int32))).2.1 (XS.aloadN X385.here hx rfl (hb hby own_d25_23) rfl rfl (XS.iloadN X385.here hx rfl (hb hby own_d25_24) rfl (XS.aconstNull X385.here hx rfl (hb hby own_d25_25) k)))) ?_
  obtain ⟨c390, Ar390, S390, G390⟩ := id Al385
  have hin390 : ¬ ((56 : Int32) < 0 ∨ c390.slots.size ≤ ((56 : Int32)).toNatClampNeg) := inb_of S390 ⟨by decide, by decide⟩
  obtain ⟨T390, h390, X390, e390, W390, st390⟩ := stR X385 hx hZ e385 Ar390 (j := (56 : Int32)) hin390 rfl (Or.inl rfl) (g := (mkF m 26 #[rv rm, rv rt, iv (56 : Int32)] [.null, (.int (56 : Int32)), (.ref rt)])) rfl rfl (hb hby own_d25_26)
  have Al390 := own_Arz.same (⟨c390, Ar390, S390, G390⟩ : own_Arz Z _ rt (.object "java/lang/Object") (64 : Int32)) W390
  have N390 := Fr.snoc X390 N385 g2
  refine own_by (g' := (mkF m 27 #[rv rm, rv rt, iv (56 : Int32)] [])) st390 ?_
  refine own_by (g' := (mkF m 17 #[rv rm, rv rt, iv (57 : Int32)] [])) (fun t k => XS.iinc X390.here hx rfl (hb hby own_d25_27) rfl (l' := #[rv rm, rv rt, iv (57 : Int32)]) rfl (XS.goto X390.here hx rfl (pc0 := 30) (pc' := 17) rfl (hb hby own_d25_30) (by decide) (by decide) k)) ?_
  have f391 := (f386.wr W390)
  have f392 := (f387.other W390 (Or.inl (own_neY E1 (hw _ (List.mem_of_getElem? (i := 10) rfl)) Y1)))
  have f393 := (f388.other W390 (Or.inl (own_neY E1 (hw _ (List.mem_of_getElem? (i := 10) rfl)) Y1)))
  refine own_by (g' := (mkF m 19 #[rv rm, rv rt, iv (57 : Int32)] [(.ref rt), (.int (57 : Int32))])) (fun t k => XS.iloadN X390.here hx rfl (hb hby own_d25_17) rfl (XS.aloadN X390.here hx rfl (hb hby own_d25_18) rfl rfl k)) ?_
  obtain ⟨c394, Ar394, S394, G394⟩ := id Al390
  refine own_by (g' := (mkF m 20 #[rv rm, rv rt, iv (57 : Int32)] [(.int (64 : Int32)), (.int (57 : Int32))])) (fun t k => X390.arraylength hx (own_at_ e390 Ar394.1) (State.isArrayOf_alike hZ.alike Ar394.2.1) (g := (mkF m 19 #[rv rm, rv rt, iv (57 : Int32)] [(.ref rt), (.int (57 : Int32))])) rfl rfl (hb hby own_d25_19) t (by rw [len_of S394 G394]; exact k)) ?_
  refine own_by (g' := (mkF m 26 #[rv rm, rv rt, iv (57 : Int32)] [.null, (.int (57 : Int32)), (.ref rt)])) (fun t k => XS.icmpNo X390.here hx rfl (hb hby own_d25_20) rfl (tlt (by decide : (57 : Int32) < (64 : Int32))).2.1 (XS.aloadN X390.here hx rfl (hb hby own_d25_23) rfl rfl (XS.iloadN X390.here hx rfl (hb hby own_d25_24) rfl (XS.aconstNull X390.here hx rfl (hb hby own_d25_25) k)))) ?_
  obtain ⟨c395, Ar395, S395, G395⟩ := id Al390
  have hin395 : ¬ ((57 : Int32) < 0 ∨ c395.slots.size ≤ ((57 : Int32)).toNatClampNeg) := inb_of S395 ⟨by decide, by decide⟩
  obtain ⟨T395, h395, X395, e395, W395, st395⟩ := stR X390 hx hZ e390 Ar395 (j := (57 : Int32)) hin395 rfl (Or.inl rfl) (g := (mkF m 26 #[rv rm, rv rt, iv (57 : Int32)] [.null, (.int (57 : Int32)), (.ref rt)])) rfl rfl (hb hby own_d25_26)
  have Al395 := own_Arz.same (⟨c395, Ar395, S395, G395⟩ : own_Arz Z _ rt (.object "java/lang/Object") (64 : Int32)) W395
  have N395 := Fr.snoc X395 N390 g2
  refine own_by (g' := (mkF m 27 #[rv rm, rv rt, iv (57 : Int32)] [])) st395 ?_
  refine own_by (g' := (mkF m 17 #[rv rm, rv rt, iv (58 : Int32)] [])) (fun t k => XS.iinc X395.here hx rfl (hb hby own_d25_27) rfl (l' := #[rv rm, rv rt, iv (58 : Int32)]) rfl (XS.goto X395.here hx rfl (pc0 := 30) (pc' := 17) rfl (hb hby own_d25_30) (by decide) (by decide) k)) ?_
  have f396 := (f391.wr W395)
  have f397 := (f392.other W395 (Or.inl (own_neY E1 (hw _ (List.mem_of_getElem? (i := 10) rfl)) Y1)))
  have f398 := (f393.other W395 (Or.inl (own_neY E1 (hw _ (List.mem_of_getElem? (i := 10) rfl)) Y1)))
  refine own_by (g' := (mkF m 19 #[rv rm, rv rt, iv (58 : Int32)] [(.ref rt), (.int (58 : Int32))])) (fun t k => XS.iloadN X395.here hx rfl (hb hby own_d25_17) rfl (XS.aloadN X395.here hx rfl (hb hby own_d25_18) rfl rfl k)) ?_
  obtain ⟨c399, Ar399, S399, G399⟩ := id Al395
  refine own_by (g' := (mkF m 20 #[rv rm, rv rt, iv (58 : Int32)] [(.int (64 : Int32)), (.int (58 : Int32))])) (fun t k => X395.arraylength hx (own_at_ e395 Ar399.1) (State.isArrayOf_alike hZ.alike Ar399.2.1) (g := (mkF m 19 #[rv rm, rv rt, iv (58 : Int32)] [(.ref rt), (.int (58 : Int32))])) rfl rfl (hb hby own_d25_19) t (by rw [len_of S399 G399]; exact k)) ?_
  refine own_by (g' := (mkF m 26 #[rv rm, rv rt, iv (58 : Int32)] [.null, (.int (58 : Int32)), (.ref rt)])) (fun t k => XS.icmpNo X395.here hx rfl (hb hby own_d25_20) rfl (tlt (by decide : (58 : Int32) < (64 : Int32))).2.1 (XS.aloadN X395.here hx rfl (hb hby own_d25_23) rfl rfl (XS.iloadN X395.here hx rfl (hb hby own_d25_24) rfl (XS.aconstNull X395.here hx rfl (hb hby own_d25_25) k)))) ?_
  obtain ⟨c400, Ar400, S400, G400⟩ := id Al395
  have hin400 : ¬ ((58 : Int32) < 0 ∨ c400.slots.size ≤ ((58 : Int32)).toNatClampNeg) := inb_of S400 ⟨by decide, by decide⟩
  obtain ⟨T400, h400, X400, e400, W400, st400⟩ := stR X395 hx hZ e395 Ar400 (j := (58 : Int32)) hin400 rfl (Or.inl rfl) (g := (mkF m 26 #[rv rm, rv rt, iv (58 : Int32)] [.null, (.int (58 : Int32)), (.ref rt)])) rfl rfl (hb hby own_d25_26)
  have Al400 := own_Arz.same (⟨c400, Ar400, S400, G400⟩ : own_Arz Z _ rt (.object "java/lang/Object") (64 : Int32)) W400
  have N400 := Fr.snoc X400 N395 g2
  refine own_by (g' := (mkF m 27 #[rv rm, rv rt, iv (58 : Int32)] [])) st400 ?_
  refine own_by (g' := (mkF m 17 #[rv rm, rv rt, iv (59 : Int32)] [])) (fun t k => XS.iinc X400.here hx rfl (hb hby own_d25_27) rfl (l' := #[rv rm, rv rt, iv (59 : Int32)]) rfl (XS.goto X400.here hx rfl (pc0 := 30) (pc' := 17) rfl (hb hby own_d25_30) (by decide) (by decide) k)) ?_
  have f401 := (f396.wr W400)
  have f402 := (f397.other W400 (Or.inl (own_neY E1 (hw _ (List.mem_of_getElem? (i := 10) rfl)) Y1)))
  have f403 := (f398.other W400 (Or.inl (own_neY E1 (hw _ (List.mem_of_getElem? (i := 10) rfl)) Y1)))
  refine own_by (g' := (mkF m 19 #[rv rm, rv rt, iv (59 : Int32)] [(.ref rt), (.int (59 : Int32))])) (fun t k => XS.iloadN X400.here hx rfl (hb hby own_d25_17) rfl (XS.aloadN X400.here hx rfl (hb hby own_d25_18) rfl rfl k)) ?_
  obtain ⟨c404, Ar404, S404, G404⟩ := id Al400
  refine own_by (g' := (mkF m 20 #[rv rm, rv rt, iv (59 : Int32)] [(.int (64 : Int32)), (.int (59 : Int32))])) (fun t k => X400.arraylength hx (own_at_ e400 Ar404.1) (State.isArrayOf_alike hZ.alike Ar404.2.1) (g := (mkF m 19 #[rv rm, rv rt, iv (59 : Int32)] [(.ref rt), (.int (59 : Int32))])) rfl rfl (hb hby own_d25_19) t (by rw [len_of S404 G404]; exact k)) ?_
  refine own_by (g' := (mkF m 26 #[rv rm, rv rt, iv (59 : Int32)] [.null, (.int (59 : Int32)), (.ref rt)])) (fun t k => XS.icmpNo X400.here hx rfl (hb hby own_d25_20) rfl (tlt (by decide : (59 : Int32) < (64 : Int32))).2.1 (XS.aloadN X400.here hx rfl (hb hby own_d25_23) rfl rfl (XS.iloadN X400.here hx rfl (hb hby own_d25_24) rfl (XS.aconstNull X400.here hx rfl (hb hby own_d25_25) k)))) ?_
  obtain ⟨c405, Ar405, S405, G405⟩ := id Al400
  have hin405 : ¬ ((59 : Int32) < 0 ∨ c405.slots.size ≤ ((59 : Int32)).toNatClampNeg) := inb_of S405 ⟨by decide, by decide⟩
  obtain ⟨T405, h405, X405, e405, W405, st405⟩ := stR X400 hx hZ e400 Ar405 (j := (59 : Int32)) hin405 rfl (Or.inl rfl) (g := (mkF m 26 #[rv rm, rv rt, iv (59 : Int32)] [.null, (.int (59 : Int32)), (.ref rt)])) rfl rfl (hb hby own_d25_26)
  have Al405 := own_Arz.same (⟨c405, Ar405, S405, G405⟩ : own_Arz Z _ rt (.object "java/lang/Object") (64 : Int32)) W405
  have N405 := Fr.snoc X405 N400 g2
  refine own_by (g' := (mkF m 27 #[rv rm, rv rt, iv (59 : Int32)] [])) st405 ?_
  refine own_by (g' := (mkF m 17 #[rv rm, rv rt, iv (60 : Int32)] [])) (fun t k => XS.iinc X405.here hx rfl (hb hby own_d25_27) rfl (l' := #[rv rm, rv rt, iv (60 : Int32)]) rfl (XS.goto X405.here hx rfl (pc0 := 30) (pc' := 17) rfl (hb hby own_d25_30) (by decide) (by decide) k)) ?_
  have f406 := (f401.wr W405)
  have f407 := (f402.other W405 (Or.inl (own_neY E1 (hw _ (List.mem_of_getElem? (i := 10) rfl)) Y1)))
  have f408 := (f403.other W405 (Or.inl (own_neY E1 (hw _ (List.mem_of_getElem? (i := 10) rfl)) Y1)))
  refine own_by (g' := (mkF m 19 #[rv rm, rv rt, iv (60 : Int32)] [(.ref rt), (.int (60 : Int32))])) (fun t k => XS.iloadN X405.here hx rfl (hb hby own_d25_17) rfl (XS.aloadN X405.here hx rfl (hb hby own_d25_18) rfl rfl k)) ?_
  obtain ⟨c409, Ar409, S409, G409⟩ := id Al405
  refine own_by (g' := (mkF m 20 #[rv rm, rv rt, iv (60 : Int32)] [(.int (64 : Int32)), (.int (60 : Int32))])) (fun t k => X405.arraylength hx (own_at_ e405 Ar409.1) (State.isArrayOf_alike hZ.alike Ar409.2.1) (g := (mkF m 19 #[rv rm, rv rt, iv (60 : Int32)] [(.ref rt), (.int (60 : Int32))])) rfl rfl (hb hby own_d25_19) t (by rw [len_of S409 G409]; exact k)) ?_
  refine own_by (g' := (mkF m 26 #[rv rm, rv rt, iv (60 : Int32)] [.null, (.int (60 : Int32)), (.ref rt)])) (fun t k => XS.icmpNo X405.here hx rfl (hb hby own_d25_20) rfl (tlt (by decide : (60 : Int32) < (64 : Int32))).2.1 (XS.aloadN X405.here hx rfl (hb hby own_d25_23) rfl rfl (XS.iloadN X405.here hx rfl (hb hby own_d25_24) rfl (XS.aconstNull X405.here hx rfl (hb hby own_d25_25) k)))) ?_
  obtain ⟨c410, Ar410, S410, G410⟩ := id Al405
  have hin410 : ¬ ((60 : Int32) < 0 ∨ c410.slots.size ≤ ((60 : Int32)).toNatClampNeg) := inb_of S410 ⟨by decide, by decide⟩
  obtain ⟨T410, h410, X410, e410, W410, st410⟩ := stR X405 hx hZ e405 Ar410 (j := (60 : Int32)) hin410 rfl (Or.inl rfl) (g := (mkF m 26 #[rv rm, rv rt, iv (60 : Int32)] [.null, (.int (60 : Int32)), (.ref rt)])) rfl rfl (hb hby own_d25_26)
  have Al410 := own_Arz.same (⟨c410, Ar410, S410, G410⟩ : own_Arz Z _ rt (.object "java/lang/Object") (64 : Int32)) W410
  have N410 := Fr.snoc X410 N405 g2
  refine own_by (g' := (mkF m 27 #[rv rm, rv rt, iv (60 : Int32)] [])) st410 ?_
  refine own_by (g' := (mkF m 17 #[rv rm, rv rt, iv (61 : Int32)] [])) (fun t k => XS.iinc X410.here hx rfl (hb hby own_d25_27) rfl (l' := #[rv rm, rv rt, iv (61 : Int32)]) rfl (XS.goto X410.here hx rfl (pc0 := 30) (pc' := 17) rfl (hb hby own_d25_30) (by decide) (by decide) k)) ?_
  have f411 := (f406.wr W410)
  have f412 := (f407.other W410 (Or.inl (own_neY E1 (hw _ (List.mem_of_getElem? (i := 10) rfl)) Y1)))
  have f413 := (f408.other W410 (Or.inl (own_neY E1 (hw _ (List.mem_of_getElem? (i := 10) rfl)) Y1)))
  refine own_by (g' := (mkF m 19 #[rv rm, rv rt, iv (61 : Int32)] [(.ref rt), (.int (61 : Int32))])) (fun t k => XS.iloadN X410.here hx rfl (hb hby own_d25_17) rfl (XS.aloadN X410.here hx rfl (hb hby own_d25_18) rfl rfl k)) ?_
  obtain ⟨c414, Ar414, S414, G414⟩ := id Al410
  refine own_by (g' := (mkF m 20 #[rv rm, rv rt, iv (61 : Int32)] [(.int (64 : Int32)), (.int (61 : Int32))])) (fun t k => X410.arraylength hx (own_at_ e410 Ar414.1) (State.isArrayOf_alike hZ.alike Ar414.2.1) (g := (mkF m 19 #[rv rm, rv rt, iv (61 : Int32)] [(.ref rt), (.int (61 : Int32))])) rfl rfl (hb hby own_d25_19) t (by rw [len_of S414 G414]; exact k)) ?_
  refine own_by (g' := (mkF m 26 #[rv rm, rv rt, iv (61 : Int32)] [.null, (.int (61 : Int32)), (.ref rt)])) (fun t k => XS.icmpNo X410.here hx rfl (hb hby own_d25_20) rfl (tlt (by decide : (61 : Int32) < (64 : Int32))).2.1 (XS.aloadN X410.here hx rfl (hb hby own_d25_23) rfl rfl (XS.iloadN X410.here hx rfl (hb hby own_d25_24) rfl (XS.aconstNull X410.here hx rfl (hb hby own_d25_25) k)))) ?_
  obtain ⟨c415, Ar415, S415, G415⟩ := id Al410
  have hin415 : ¬ ((61 : Int32) < 0 ∨ c415.slots.size ≤ ((61 : Int32)).toNatClampNeg) := inb_of S415 ⟨by decide, by decide⟩
  obtain ⟨T415, h415, X415, e415, W415, st415⟩ := stR X410 hx hZ e410 Ar415 (j := (61 : Int32)) hin415 rfl (Or.inl rfl) (g := (mkF m 26 #[rv rm, rv rt, iv (61 : Int32)] [.null, (.int (61 : Int32)), (.ref rt)])) rfl rfl (hb hby own_d25_26)
  have Al415 := own_Arz.same (⟨c415, Ar415, S415, G415⟩ : own_Arz Z _ rt (.object "java/lang/Object") (64 : Int32)) W415
  have N415 := Fr.snoc X415 N410 g2
  refine own_by (g' := (mkF m 27 #[rv rm, rv rt, iv (61 : Int32)] [])) st415 ?_
  refine own_by (g' := (mkF m 17 #[rv rm, rv rt, iv (62 : Int32)] [])) (fun t k => XS.iinc X415.here hx rfl (hb hby own_d25_27) rfl (l' := #[rv rm, rv rt, iv (62 : Int32)]) rfl (XS.goto X415.here hx rfl (pc0 := 30) (pc' := 17) rfl (hb hby own_d25_30) (by decide) (by decide) k)) ?_
  have f416 := (f411.wr W415)
  have f417 := (f412.other W415 (Or.inl (own_neY E1 (hw _ (List.mem_of_getElem? (i := 10) rfl)) Y1)))
  have f418 := (f413.other W415 (Or.inl (own_neY E1 (hw _ (List.mem_of_getElem? (i := 10) rfl)) Y1)))
  refine own_by (g' := (mkF m 19 #[rv rm, rv rt, iv (62 : Int32)] [(.ref rt), (.int (62 : Int32))])) (fun t k => XS.iloadN X415.here hx rfl (hb hby own_d25_17) rfl (XS.aloadN X415.here hx rfl (hb hby own_d25_18) rfl rfl k)) ?_
  obtain ⟨c419, Ar419, S419, G419⟩ := id Al415
  refine own_by (g' := (mkF m 20 #[rv rm, rv rt, iv (62 : Int32)] [(.int (64 : Int32)), (.int (62 : Int32))])) (fun t k => X415.arraylength hx (own_at_ e415 Ar419.1) (State.isArrayOf_alike hZ.alike Ar419.2.1) (g := (mkF m 19 #[rv rm, rv rt, iv (62 : Int32)] [(.ref rt), (.int (62 : Int32))])) rfl rfl (hb hby own_d25_19) t (by rw [len_of S419 G419]; exact k)) ?_
  refine own_by (g' := (mkF m 26 #[rv rm, rv rt, iv (62 : Int32)] [.null, (.int (62 : Int32)), (.ref rt)])) (fun t k => XS.icmpNo X415.here hx rfl (hb hby own_d25_20) rfl (tlt (by decide : (62 : Int32) < (64 : Int32))).2.1 (XS.aloadN X415.here hx rfl (hb hby own_d25_23) rfl rfl (XS.iloadN X415.here hx rfl (hb hby own_d25_24) rfl (XS.aconstNull X415.here hx rfl (hb hby own_d25_25) k)))) ?_
  obtain ⟨c420, Ar420, S420, G420⟩ := id Al415
  have hin420 : ¬ ((62 : Int32) < 0 ∨ c420.slots.size ≤ ((62 : Int32)).toNatClampNeg) := inb_of S420 ⟨by decide, by decide⟩
  obtain ⟨T420, h420, X420, e420, W420, st420⟩ := stR X415 hx hZ e415 Ar420 (j := (62 : Int32)) hin420 rfl (Or.inl rfl) (g := (mkF m 26 #[rv rm, rv rt, iv (62 : Int32)] [.null, (.int (62 : Int32)), (.ref rt)])) rfl rfl (hb hby own_d25_26)
  have Al420 := own_Arz.same (⟨c420, Ar420, S420, G420⟩ : own_Arz Z _ rt (.object "java/lang/Object") (64 : Int32)) W420
  have N420 := Fr.snoc X420 N415 g2
  refine own_by (g' := (mkF m 27 #[rv rm, rv rt, iv (62 : Int32)] [])) st420 ?_
  refine own_by (g' := (mkF m 17 #[rv rm, rv rt, iv (63 : Int32)] [])) (fun t k => XS.iinc X420.here hx rfl (hb hby own_d25_27) rfl (l' := #[rv rm, rv rt, iv (63 : Int32)]) rfl (XS.goto X420.here hx rfl (pc0 := 30) (pc' := 17) rfl (hb hby own_d25_30) (by decide) (by decide) k)) ?_
  have f421 := (f416.wr W420)
  have f422 := (f417.other W420 (Or.inl (own_neY E1 (hw _ (List.mem_of_getElem? (i := 10) rfl)) Y1)))
  have f423 := (f418.other W420 (Or.inl (own_neY E1 (hw _ (List.mem_of_getElem? (i := 10) rfl)) Y1)))
  refine own_by (g' := (mkF m 19 #[rv rm, rv rt, iv (63 : Int32)] [(.ref rt), (.int (63 : Int32))])) (fun t k => XS.iloadN X420.here hx rfl (hb hby own_d25_17) rfl (XS.aloadN X420.here hx rfl (hb hby own_d25_18) rfl rfl k)) ?_
  obtain ⟨c424, Ar424, S424, G424⟩ := id Al420
  refine own_by (g' := (mkF m 20 #[rv rm, rv rt, iv (63 : Int32)] [(.int (64 : Int32)), (.int (63 : Int32))])) (fun t k => X420.arraylength hx (own_at_ e420 Ar424.1) (State.isArrayOf_alike hZ.alike Ar424.2.1) (g := (mkF m 19 #[rv rm, rv rt, iv (63 : Int32)] [(.ref rt), (.int (63 : Int32))])) rfl rfl (hb hby own_d25_19) t (by rw [len_of S424 G424]; exact k)) ?_
  refine own_by (g' := (mkF m 26 #[rv rm, rv rt, iv (63 : Int32)] [.null, (.int (63 : Int32)), (.ref rt)])) (fun t k => XS.icmpNo X420.here hx rfl (hb hby own_d25_20) rfl (tlt (by decide : (63 : Int32) < (64 : Int32))).2.1 (XS.aloadN X420.here hx rfl (hb hby own_d25_23) rfl rfl (XS.iloadN X420.here hx rfl (hb hby own_d25_24) rfl (XS.aconstNull X420.here hx rfl (hb hby own_d25_25) k)))) ?_
  obtain ⟨c425, Ar425, S425, G425⟩ := id Al420
  have hin425 : ¬ ((63 : Int32) < 0 ∨ c425.slots.size ≤ ((63 : Int32)).toNatClampNeg) := inb_of S425 ⟨by decide, by decide⟩
  obtain ⟨T425, h425, X425, e425, W425, st425⟩ := stR X420 hx hZ e420 Ar425 (j := (63 : Int32)) hin425 rfl (Or.inl rfl) (g := (mkF m 26 #[rv rm, rv rt, iv (63 : Int32)] [.null, (.int (63 : Int32)), (.ref rt)])) rfl rfl (hb hby own_d25_26)
  have Al425 := own_Arz.same (⟨c425, Ar425, S425, G425⟩ : own_Arz Z _ rt (.object "java/lang/Object") (64 : Int32)) W425
  have N425 := Fr.snoc X425 N420 g2
  refine own_by (g' := (mkF m 27 #[rv rm, rv rt, iv (63 : Int32)] [])) st425 ?_
  refine own_by (g' := (mkF m 17 #[rv rm, rv rt, iv (64 : Int32)] [])) (fun t k => XS.iinc X425.here hx rfl (hb hby own_d25_27) rfl (l' := #[rv rm, rv rt, iv (64 : Int32)]) rfl (XS.goto X425.here hx rfl (pc0 := 30) (pc' := 17) rfl (hb hby own_d25_30) (by decide) (by decide) k)) ?_
  have f426 := (f421.wr W425)
  have f427 := (f422.other W425 (Or.inl (own_neY E1 (hw _ (List.mem_of_getElem? (i := 10) rfl)) Y1)))
  have f428 := (f423.other W425 (Or.inl (own_neY E1 (hw _ (List.mem_of_getElem? (i := 10) rfl)) Y1)))
  refine own_by (g' := (mkF m 19 #[rv rm, rv rt, iv (64 : Int32)] [(.ref rt), (.int (64 : Int32))])) (fun t k => XS.iloadN X425.here hx rfl (hb hby own_d25_17) rfl (XS.aloadN X425.here hx rfl (hb hby own_d25_18) rfl rfl k)) ?_
  obtain ⟨c429, Ar429, S429, G429⟩ := id Al425
  refine own_by (g' := (mkF m 20 #[rv rm, rv rt, iv (64 : Int32)] [(.int (64 : Int32)), (.int (64 : Int32))])) (fun t k => X425.arraylength hx (own_at_ e425 Ar429.1) (State.isArrayOf_alike hZ.alike Ar429.2.1) (g := (mkF m 19 #[rv rm, rv rt, iv (64 : Int32)] [(.ref rt), (.int (64 : Int32))])) rfl rfl (hb hby own_d25_19) t (by rw [len_of S429 G429]; exact k)) ?_
  refine own_by (g' := (mkF m 35 #[rv rm, rv rt, iv (64 : Int32)] [(.int (0 : Int32)), (.ref rm)])) (fun t k => XS.icmpYes X425.here hx rfl (pc0 := 20) (pc' := 33) rfl (hb hby own_d25_20) rfl (flt (by decide : ¬ ((64 : Int32) < (64 : Int32)))).2.1 (by decide) (by decide) (XS.aloadN X425.here hx rfl (hb hby own_d25_33) rfl rfl (XS.iconst X425.here hx rfl (hb hby own_d25_34) k))) ?_
  obtain ⟨T430, h430, X430, e430, W430, st430⟩ := putF X425 hx hZ hown (host := "") (Or.inl (hw _ (List.mem_of_getElem? (i := 188) rfl))) Via.refl e425 f427 f426 (Or.inl (hw _ (List.mem_of_getElem? (i := 177) rfl))) (hw _ (List.mem_of_getElem? (i := 10) rfl)) (ty := .int) (by decide) rfl rfl (g := (mkF m 35 #[rv rm, rv rt, iv (64 : Int32)] [(.int (0 : Int32)), (.ref rm)])) rfl rfl (hb hby own_d25_35)
  have f431 := f427.same W430
  have N430 := Fr.snoc X430 N425 g1
  refine own_by (g' := (mkF m 38 #[rv rm, rv rt, iv (64 : Int32)] [])) st430 ?_
  refine own_retV X430 hx hlk hret (hb hby own_d25_38) (by decide) (by decide) ?_
  rw [e430]
  exact ⟨rfl, N430, (((((((((((((((((((((((((((((((((((((((((((((((((((((((((((((((((((Keep.refl h0 [rm, rt]).wr W102 (Or.inl (List.mem_of_getElem? (i := 0) rfl))).wr W110 (Or.inl (List.mem_of_getElem? (i := 1) rfl))).wr W115 (Or.inl (List.mem_of_getElem? (i := 1) rfl))).wr W120 (Or.inl (List.mem_of_getElem? (i := 1) rfl))).wr W125 (Or.inl (List.mem_of_getElem? (i := 1) rfl))).wr W130 (Or.inl (List.mem_of_getElem? (i := 1) rfl))).wr W135 (Or.inl (List.mem_of_getElem? (i := 1) rfl))).wr W140 (Or.inl (List.mem_of_getElem? (i := 1) rfl))).wr W145 (Or.inl (List.mem_of_getElem? (i := 1) rfl))).wr W150 (Or.inl (List.mem_of_getElem? (i := 1) rfl))).wr W155 (Or.inl (List.mem_of_getElem? (i := 1) rfl))).wr W160 (Or.inl (List.mem_of_getElem? (i := 1) rfl))).wr W165 (Or.inl (List.mem_of_getElem? (i := 1) rfl))).wr W170 (Or.inl (List.mem_of_getElem? (i := 1) rfl))).wr W175 (Or.inl (List.mem_of_getElem? (i := 1) rfl))).wr W180 (Or.inl (List.mem_of_getElem? (i := 1) rfl))).wr W185 (Or.inl (List.mem_of_getElem? (i := 1) rfl))).wr W190 (Or.inl (List.mem_of_getElem? (i := 1) rfl))).wr W195 (Or.inl (List.mem_of_getElem? (i := 1) rfl))).wr W200 (Or.inl (List.mem_of_getElem? (i := 1) rfl))).wr W205 (Or.inl (List.mem_of_getElem? (i := 1) rfl))).wr W210 (Or.inl (List.mem_of_getElem? (i := 1) rfl))).wr W215 (Or.inl (List.mem_of_getElem? (i := 1) rfl))).wr W220 (Or.inl (List.mem_of_getElem? (i := 1) rfl))).wr W225 (Or.inl (List.mem_of_getElem? (i := 1) rfl))).wr W230 (Or.inl (List.mem_of_getElem? (i := 1) rfl))).wr W235 (Or.inl (List.mem_of_getElem? (i := 1) rfl))).wr W240 (Or.inl (List.mem_of_getElem? (i := 1) rfl))).wr W245 (Or.inl (List.mem_of_getElem? (i := 1) rfl))).wr W250 (Or.inl (List.mem_of_getElem? (i := 1) rfl))).wr W255 (Or.inl (List.mem_of_getElem? (i := 1) rfl))).wr W260 (Or.inl (List.mem_of_getElem? (i := 1) rfl))).wr W265 (Or.inl (List.mem_of_getElem? (i := 1) rfl))).wr W270 (Or.inl (List.mem_of_getElem? (i := 1) rfl))).wr W275 (Or.inl (List.mem_of_getElem? (i := 1) rfl))).wr W280 (Or.inl (List.mem_of_getElem? (i := 1) rfl))).wr W285 (Or.inl (List.mem_of_getElem? (i := 1) rfl))).wr W290 (Or.inl (List.mem_of_getElem? (i := 1) rfl))).wr W295 (Or.inl (List.mem_of_getElem? (i := 1) rfl))).wr W300 (Or.inl (List.mem_of_getElem? (i := 1) rfl))).wr W305 (Or.inl (List.mem_of_getElem? (i := 1) rfl))).wr W310 (Or.inl (List.mem_of_getElem? (i := 1) rfl))).wr W315 (Or.inl (List.mem_of_getElem? (i := 1) rfl))).wr W320 (Or.inl (List.mem_of_getElem? (i := 1) rfl))).wr W325 (Or.inl (List.mem_of_getElem? (i := 1) rfl))).wr W330 (Or.inl (List.mem_of_getElem? (i := 1) rfl))).wr W335 (Or.inl (List.mem_of_getElem? (i := 1) rfl))).wr W340 (Or.inl (List.mem_of_getElem? (i := 1) rfl))).wr W345 (Or.inl (List.mem_of_getElem? (i := 1) rfl))).wr W350 (Or.inl (List.mem_of_getElem? (i := 1) rfl))).wr W355 (Or.inl (List.mem_of_getElem? (i := 1) rfl))).wr W360 (Or.inl (List.mem_of_getElem? (i := 1) rfl))).wr W365 (Or.inl (List.mem_of_getElem? (i := 1) rfl))).wr W370 (Or.inl (List.mem_of_getElem? (i := 1) rfl))).wr W375 (Or.inl (List.mem_of_getElem? (i := 1) rfl))).wr W380 (Or.inl (List.mem_of_getElem? (i := 1) rfl))).wr W385 (Or.inl (List.mem_of_getElem? (i := 1) rfl))).wr W390 (Or.inl (List.mem_of_getElem? (i := 1) rfl))).wr W395 (Or.inl (List.mem_of_getElem? (i := 1) rfl))).wr W400 (Or.inl (List.mem_of_getElem? (i := 1) rfl))).wr W405 (Or.inl (List.mem_of_getElem? (i := 1) rfl))).wr W410 (Or.inl (List.mem_of_getElem? (i := 1) rfl))).wr W415 (Or.inl (List.mem_of_getElem? (i := 1) rfl))).wr W420 (Or.inl (List.mem_of_getElem? (i := 1) rfl))).wr W425 (Or.inl (List.mem_of_getElem? (i := 1) rfl))).wr W430 (Or.inl (List.mem_of_getElem? (i := 0) rfl)))⟩
theorem own_d9_0 : decode prog_4_method_13_code 0 = .ok (.new 67, 3) := by decide +kernel
theorem own_d9_3 : decode prog_4_method_13_code 3 = .ok (.dup, 1) := by decide +kernel
theorem own_d9_4 : decode prog_4_method_13_code 4 = .ok (.invokespecial 69, 3) := by decide +kernel
theorem own_d9_7 : decode prog_4_method_13_code 7 = .ok (.astore_n 1, 1) := by decide +kernel
theorem own_d9_8 : decode prog_4_method_13_code 8 = .ok (.aload_n 0, 1) := by decide +kernel
theorem own_d9_9 : decode prog_4_method_13_code 9 = .ok (.getfield 24, 3) := by decide +kernel
theorem own_d9_12 : decode prog_4_method_13_code 12 = .ok (.ifCond .le 14, 3) := by decide +kernel
theorem own_d9_15 : decode prog_4_method_13_code 15 = .ok (.aload_n 1, 1) := by decide +kernel
theorem own_d9_16 : decode prog_4_method_13_code 16 = .ok (.aload_n 0, 1) := by decide +kernel
theorem own_d9_17 : decode prog_4_method_13_code 17 = .ok (.getfield 16, 3) := by decide +kernel
theorem own_d9_20 : decode prog_4_method_13_code 20 = .ok (.invokeinterface 70 2, 5) := by decide +kernel
theorem own_pd9 : parseMethodDescriptor "(Ljava/lang/Object;)Z" = some ⟨[(.object "java/lang/Object")], some .boolean⟩ := by decide +kernel
theorem own_d9_25 : decode prog_4_method_13_code 25 = .ok (.pop, 1) := by decide +kernel
theorem own_d9_26 : decode prog_4_method_13_code 26 = .ok (.aload_n 1, 1) := by decide +kernel
theorem own_d9_27 : decode prog_4_method_13_code 27 = .ok (.aload_n 0, 1) := by decide +kernel
theorem own_d9_28 : decode prog_4_method_13_code 28 = .ok (.getfield 10, 3) := by decide +kernel
theorem own_d9_31 : decode prog_4_method_13_code 31 = .ok (.invokeinterface 75 1, 5) := by decide +kernel
theorem own_pd10 : parseMethodDescriptor "()Ljava/util/Set;" = some ⟨[], some (.object "java/util/Set")⟩ := by decide +kernel
theorem own_d9_36 : decode prog_4_method_13_code 36 = .ok (.invokeinterface 79 2, 5) := by decide +kernel
theorem own_pd11 : parseMethodDescriptor "(Ljava/util/Collection;)Z" = some ⟨[(.object "java/util/Collection")], some .boolean⟩ := by decide +kernel
theorem own_d9_41 : decode prog_4_method_13_code 41 = .ok (.pop, 1) := by decide +kernel
theorem own_d9_42 : decode prog_4_method_13_code 42 = .ok (.aload_n 0, 1) := by decide +kernel
theorem own_d9_43 : decode prog_4_method_13_code 43 = .ok (.iconst 0, 1) := by decide +kernel
theorem own_d9_44 : decode prog_4_method_13_code 44 = .ok (.putfield 24, 3) := by decide +kernel
theorem own_d9_47 : decode prog_4_method_13_code 47 = .ok (.aload_n 0, 1) := by decide +kernel
theorem own_d9_48 : decode prog_4_method_13_code 48 = .ok (.aconst_null, 1) := by decide +kernel
theorem own_d9_49 : decode prog_4_method_13_code 49 = .ok (.putfield 16, 3) := by decide +kernel
theorem own_d9_52 : decode prog_4_method_13_code 52 = .ok (.aload_n 0, 1) := by decide +kernel
theorem own_d9_53 : decode prog_4_method_13_code 53 = .ok (.getfield 10, 3) := by decide +kernel
theorem own_d9_56 : decode prog_4_method_13_code 56 = .ok (.invokeinterface 83 1, 5) := by decide +kernel
theorem own_d9_61 : decode prog_4_method_13_code 61 = .ok (.aload_n 1, 1) := by decide +kernel
theorem own_d9_62 : decode prog_4_method_13_code 62 = .ok (.areturn, 1) := by decide +kernel
def Q_own_clear1 (Z : State) (r1 : Addr) (rm : Addr) (rt : Addr) (kt : ClassId) (zd : Addr) (u1 : Int32) (ro : Addr) (h0 : Heap) (n0 : Nat) (v : Option Value) (h : Heap) (L : List Loc) : Prop := ∃ (bl : Addr), v = some (.ref bl) ∧ Fr n0 L ∧ Keep h0 h [r1, rm, rt] ∧ Exa Z h r1 "com/example/purlin/purlin/framework/ServiceUse" ∧ Fld Z h r1 "com/example/purlin/purlin/framework/ServiceUse" "count" "I" (.int (0 : Int32))
theorem own_ef_own_clear1 (m : MethodId) (r1 : Addr) : entryFrame m #[(.ref r1)] 2 = mkF m 0 #[rv r1, .unset] [] := by first | (simp [entryFrame, mkF, argsToLocals, Value.category]; done) | rfl
set_option maxRecDepth 65536 in
set_option maxHeartbeats 40000000 in
theorem own_clear1 (l : Launch) (Z : State) (a0 : Array Value) (hw : ∀ d ∈ tables_1, d.before a0 Z = true) (ws : List Jvm.Cond) (r1 : Addr) (rm : Addr) (rt : Addr) (kt : ClassId) (zd : Addr) (u1 : Int32) (ro : Addr) (h0 : Heap) (n0 : Nat) (Z0 : n0 ≤ h0.size) (Se : Exa Z h0 r1 "com/example/purlin/purlin/framework/ServiceUse") (Sm : Fld Z h0 r1 "com/example/purlin/purlin/framework/ServiceUse" "prototypes" "Ljava/util/Map;" (.ref rm)) (So : Fld Z h0 r1 "com/example/purlin/purlin/framework/ServiceUse" "object" "Ljava/lang/Object;" (.ref ro)) (Sc : Fld Z h0 r1 "com/example/purlin/purlin/framework/ServiceUse" "count" "I" (.int u1)) (Sg : n0 ≤ r1) (Eo : Exa Z h0 ro "java/lang/Integer") (hp : (0 : Int32) < u1) (Be : Exa Z h0 rm "java/util/IdentityHashMap") (Bz : Fld Z h0 rm "java/util/IdentityHashMap" "size" "I" (.int (0 : Int32))) (Bm : Fld Z h0 rm "java/util/IdentityHashMap" "modCount" "I" (.int (0 : Int32))) (Bk : Fld Z h0 rm "java/util/AbstractMap" "keySet" "Ljava/util/Set;" .null) (Bt : Fld Z h0 rm "java/util/IdentityHashMap" "table" "[Ljava/lang/Object;" (.ref rt)) (V1 : Arv Z h0 rt kt (.object "java/lang/Object") (64 : Int32) [] .null) (g2 : n0 ≤ rm) (g3 : n0 ≤ rt) (O0 : Old Z n0 h0) (S_dflt : Sta Z Z.heap "java/util/ArrayList" "DEFAULTCAPACITY_EMPTY_ELEMENTDATA" "[Ljava/lang/Object;" (.ref zd)) (Yd : own_Arz Z h0 zd (.object "java/lang/Object") (0 : Int32)) :
    own_Ctr l Z (⟨"com/example/purlin/purlin/framework/ServiceUse", "clear", "()Ljava/util/List;"⟩ : MethodName) prog_4_method_13_code 2 (some (.object "java/util/List")) ws ({ frames := 5, cells := 4, slots := 14, locals := 69 } : Room) (({ frames := 5, cells := 4, slots := 14, locals := 69 } : Room)).cells (({ frames := 5, cells := 4, slots := 14, locals := 69 } : Room)).slots #[(.ref r1)] h0 (Q_own_clear1 Z r1 rm rt kt zd u1 ro h0 n0) := by
  refine own_enter (plainFor_of_name own_pn7) ?_
  intro p e s m below meth c s₁ X0 hx hZ hby hml hown hnm hlk hret e0
  have N0 := Fr.nil n0
  refine own_cast (own_ef_own_clear1 m r1) ?_
  obtain ⟨T101, h101, X101, e101, E101, A101, D101, U101, st101⟩ := newO X0 hx hZ hown (hw _ (List.mem_of_getElem? (i := 59) rfl)) (hw _ (List.mem_of_getElem? (i := 60) rfl)) (hw _ (List.mem_of_getElem? (i := 61) rfl)) e0 (g := (mkF m 0 #[rv r1, .unset] [])) rfl (hb hby own_d9_0) (by decide) (by decide)
  obtain ⟨b101, g101⟩ : ∃ z, z = h0.size := ⟨_, rfl⟩
  rw [← g101] at A101 D101 U101 st101
  have sz_b101 : h0.size ≤ b101 := Nat.le_trans (Nat.le_refl _) (Nat.le_of_eq g101.symm)
  have g_b101 : n0 ≤ b101 := Nat.le_trans Z0 sz_b101
  have f102 : Fld Z h101 b101 "java/util/AbstractList" "modCount" "I" (.int (0 : Int32)) := D101 (Or.inl (hw _ (List.mem_of_getElem? (i := 79) rfl))) (ty := .int) (by decide)
  have f103 : Fld Z h101 b101 "java/util/ArrayList" "elementData" "[Ljava/lang/Object;" .null := D101 (Or.inl (hw _ (List.mem_of_getElem? (i := 82) rfl))) (ty := (.array (.object "java/lang/Object"))) (by decide)
  have f104 : Fld Z h101 b101 "java/util/ArrayList" "size" "I" (.int (0 : Int32)) := D101 (Or.inl (hw _ (List.mem_of_getElem? (i := 95) rfl))) (ty := .int) (by decide)
  refine own_by (g' := (mkF m 3 #[rv r1, .unset] [(.ref b101)])) st101 ?_
  refine own_by (g' := (mkF m 4 #[rv r1, .unset] [(.ref b101), (.ref b101)])) (fun t k => XS.dup X101.here hx rfl (hb hby own_d9_3) rfl rfl k) ?_
  have f105 := (O0.ext E101)
  have f106 := (Yd.ext E101)
  refine own_callI X101 hx hZ hown rfl (hw _ (List.mem_of_getElem? (i := 62) rfl)) (hw _ (List.mem_of_getElem? (i := 63) rfl)) (hw _ (List.mem_of_getElem? (i := 61) rfl)) (hw _ (List.mem_of_getElem? (i := 64) rfl)) (by decide) (a := b101) (own_alini l Z a0 hw [] (b101) (zd) h101 n0 (Nat.le_trans Z0 E101.1) A101 f102 f103 f104 g_b101 f105 S_dflt f106) 1 (by decide) (by decide) (by decide) (by decide) e101 (g := (mkF m 4 #[rv r1, .unset] [(.ref b101), (.ref b101)])) rfl (by rw [hml]; rfl) (argsL := []) (rest := [(.ref b101)]) (lenOf own_pd0 rfl) rfl (by show 2 * 0 + _ ≤ _; exact Nat.le_of_eq rfl) (hb hby own_d9_4) ?_
  intro v107 T107 L107 X107 q107
  obtain ⟨rfl, N107q, K107, f108, f109, f110, f111⟩ := q107
  have N107 := Fr.app N0 N107q
  show own_Goes p e below s _ _ _ T107 (mkF m 7 #[rv r1, .unset] [(.ref b101)])
  refine own_by (g' := (mkF m 9 #[rv r1, rv b101] [(.ref r1)])) (fun t k => XS.astoreN X107.here hx rfl (hb hby own_d9_7) rfl rfl (l' := #[rv r1, rv b101]) rfl (XS.aloadN X107.here hx rfl (hb hby own_d9_8) rfl rfl k)) ?_
  have f112 := ((Sc.ext E101).keep K107 (ninS (Nat.ne_of_lt (Nat.lt_of_lt_of_le (Nat.lt_of_lt_of_le Se.lt (Nat.le_refl _)) (Nat.le_of_eq g101.symm))) nin0))
  obtain ⟨T113, X113, e113, st113⟩ := getF X107 hx hZ hown (host := "") (Or.inl (hw _ (List.mem_of_getElem? (i := 45) rfl))) Via.refl rfl f112 (g := (mkF m 9 #[rv r1, rv b101] [(.ref r1)])) rfl rfl (hb hby own_d9_9)
  refine own_by (g' := (mkF m 12 #[rv r1, rv b101] [(.int u1)])) st113 ?_
  refine own_by (g' := (mkF m 17 #[rv r1, rv b101] [(.ref r1), (.ref b101)])) (fun t k => XS.ifNo X113.here hx rfl (hb hby own_d9_12) rfl ((if0 _ _).trans (tlt hp).2.2.2) (XS.aloadN X113.here hx rfl (hb hby own_d9_15) rfl rfl (XS.aloadN X113.here hx rfl (hb hby own_d9_16) rfl rfl k))) ?_
  have f114 := ((So.ext E101).keep K107 (ninS (Nat.ne_of_lt (Nat.lt_of_lt_of_le (Nat.lt_of_lt_of_le Se.lt (Nat.le_refl _)) (Nat.le_of_eq g101.symm))) nin0))
  obtain ⟨T115, X115, e115, st115⟩ := getF X113 hx hZ hown (host := "") (Or.inl (hw _ (List.mem_of_getElem? (i := 52) rfl))) Via.refl e113 f114 (g := (mkF m 17 #[rv r1, rv b101] [(.ref r1), (.ref b101)])) rfl rfl (hb hby own_d9_17)
  refine own_by (g' := (mkF m 20 #[rv r1, rv b101] [(.ref ro), (.ref b101)])) st115 ?_
  have f116 := ((Eo.ext E101).keep K107)
  have f117 := (f105.keep K107 (allS g_b101 all0))
  have f118 := (f106.keep K107 (ninS (Nat.ne_of_lt (Nat.lt_of_lt_of_le (Nat.lt_of_lt_of_le Yd.lt (Nat.le_refl _)) (Nat.le_of_eq g101.symm))) nin0))
  refine own_callF X115 hx hZ hown (hw _ (List.mem_of_getElem? (i := 83) rfl)) (hw _ (List.mem_of_getElem? (i := 84) rfl)) (hw _ (List.mem_of_getElem? (i := 85) rfl)) (hw _ (List.mem_of_getElem? (i := 86) rfl)) (hw _ (List.mem_of_getElem? (i := 87) rfl)) (hw _ (List.mem_of_getElem? (i := 88) rfl)) (hw _ (List.mem_of_getElem? (i := 89) rfl)) (hw _ (List.mem_of_getElem? (i := 90) rfl)) (hw _ (List.mem_of_getElem? (i := 91) rfl)) (hw _ (List.mem_of_getElem? (i := 61) rfl)) (by decide) (a := b101) f108 (own_add1 l Z a0 hw [] (b101) (ro) (zd) ((0 : Int32)) T107.heap n0 (Nat.le_trans Z0 (Nat.le_trans E101.1 K107.1)) f116 f108 f109 f110 f111 g_b101 f117 S_dflt f118) 0 (by decide) (by decide) (by decide) (by decide) e115 (g := (mkF m 20 #[rv r1, rv b101] [(.ref ro), (.ref b101)])) rfl (by rw [hml]; rfl) (argsL := [(.ref ro)]) (rest := []) (lenOf own_pd9 rfl) rfl (by show 2 * 0 + _ ≤ _; exact Nat.le_of_eq rfl) (hb hby own_d9_20) ?_
  intro v119 T119 L119 X119 q119
  obtain ⟨ba119, ka119, rfl, N119q, K119, f120, f121, f122, f123, f124, f125⟩ := q119
  have N119 := Fr.app N107 N119q
  have f126 : Fld Z T119.heap b101 "java/util/AbstractList" "modCount" "I" (.int (1 : Int32)) := f123
  show own_Goes p e below s _ _ _ T119 (mkF m 25 #[rv r1, rv b101] [(.int (1 : Int32))])
  refine own_by (g' := (mkF m 28 #[rv r1, rv b101] [(.ref r1), (.ref b101)])) (fun t k => XS.pop X119.here hx rfl (hb hby own_d9_25) rfl rfl (XS.aloadN X119.here hx rfl (hb hby own_d9_26) rfl rfl (XS.aloadN X119.here hx rfl (hb hby own_d9_27) rfl rfl k))) ?_
  have f127 := (((Sm.ext E101).keep K107 (ninS (Nat.ne_of_lt (Nat.lt_of_lt_of_le (Nat.lt_of_lt_of_le Se.lt (Nat.le_refl _)) (Nat.le_of_eq g101.symm))) nin0)).keep K119 (ninS (Nat.ne_of_lt (Nat.lt_of_lt_of_le (Nat.lt_of_lt_of_le Se.lt (Nat.le_refl _)) (Nat.le_of_eq g101.symm))) nin0))
  obtain ⟨T128, X128, e128, st128⟩ := getF X119 hx hZ hown (host := "") (Or.inl (hw _ (List.mem_of_getElem? (i := 31) rfl))) Via.refl rfl f127 (g := (mkF m 28 #[rv r1, rv b101] [(.ref r1), (.ref b101)])) rfl rfl (hb hby own_d9_28)
  refine own_by (g' := (mkF m 31 #[rv r1, rv b101] [(.ref rm), (.ref b101)])) st128 ?_
  have f129 := (((Be.ext E101).keep K107).keep K119)
  have f130 := (((Bz.ext E101).keep K107 (ninS (Nat.ne_of_lt (Nat.lt_of_lt_of_le (Nat.lt_of_lt_of_le Be.lt (Nat.le_refl _)) (Nat.le_of_eq g101.symm))) nin0)).keep K119 (ninS (Nat.ne_of_lt (Nat.lt_of_lt_of_le (Nat.lt_of_lt_of_le Be.lt (Nat.le_refl _)) (Nat.le_of_eq g101.symm))) nin0))
  have f131 := (((Bm.ext E101).keep K107 (ninS (Nat.ne_of_lt (Nat.lt_of_lt_of_le (Nat.lt_of_lt_of_le Be.lt (Nat.le_refl _)) (Nat.le_of_eq g101.symm))) nin0)).keep K119 (ninS (Nat.ne_of_lt (Nat.lt_of_lt_of_le (Nat.lt_of_lt_of_le Be.lt (Nat.le_refl _)) (Nat.le_of_eq g101.symm))) nin0))
  have f132 := (((Bk.ext E101).keep K107 (ninS (Nat.ne_of_lt (Nat.lt_of_lt_of_le (Nat.lt_of_lt_of_le Be.lt (Nat.le_refl _)) (Nat.le_of_eq g101.symm))) nin0)).keep K119 (ninS (Nat.ne_of_lt (Nat.lt_of_lt_of_le (Nat.lt_of_lt_of_le Be.lt (Nat.le_refl _)) (Nat.le_of_eq g101.symm))) nin0))
  have f133 := (((Bt.ext E101).keep K107 (ninS (Nat.ne_of_lt (Nat.lt_of_lt_of_le (Nat.lt_of_lt_of_le Be.lt (Nat.le_refl _)) (Nat.le_of_eq g101.symm))) nin0)).keep K119 (ninS (Nat.ne_of_lt (Nat.lt_of_lt_of_le (Nat.lt_of_lt_of_le Be.lt (Nat.le_refl _)) (Nat.le_of_eq g101.symm))) nin0))
  refine own_callF X128 hx hZ hown (hw _ (List.mem_of_getElem? (i := 117) rfl)) (hw _ (List.mem_of_getElem? (i := 118) rfl)) (hw _ (List.mem_of_getElem? (i := 119) rfl)) (hw _ (List.mem_of_getElem? (i := 120) rfl)) (hw _ (List.mem_of_getElem? (i := 121) rfl)) (hw _ (List.mem_of_getElem? (i := 122) rfl)) (hw _ (List.mem_of_getElem? (i := 123) rfl)) (hw _ (List.mem_of_getElem? (i := 124) rfl)) (hw _ (List.mem_of_getElem? (i := 125) rfl)) (hw _ (List.mem_of_getElem? (i := 11) rfl)) (by decide) (a := rm) f129 (own_keys l Z a0 hw [] (rm) (rt) T119.heap n0 (Nat.le_trans Z0 (Nat.le_trans (Nat.le_trans E101.1 K107.1) K119.1)) f129 f130 f131 f132 f133 g2) 1 (by decide) (by decide) (by decide) (by decide) e128 (g := (mkF m 31 #[rv r1, rv b101] [(.ref rm), (.ref b101)])) rfl (by rw [hml]; rfl) (argsL := []) (rest := [(.ref b101)]) (lenOf own_pd10 rfl) rfl (by show 2 * 0 + _ ≤ _; exact Nat.le_of_eq rfl) (hb hby own_d9_31) ?_
  intro v134 T134 L134 X134 q134
  obtain ⟨bk134, rfl, N134q, K134, f135, f136, f137, f138, f139, f140, f141, f142⟩ := q134
  have N134 := Fr.app N119 N134q
  show own_Goes p e below s _ _ _ T134 (mkF m 36 #[rv r1, rv b101] [(.ref bk134), (.ref b101)])
  have f143 := (f122.keep K134)
  have f144 := (f126.keep K134 (ninS (Ne.symm (Nat.ne_of_lt (Nat.lt_of_lt_of_le (Nat.lt_of_lt_of_le Be.lt (Nat.le_refl _)) (Nat.le_of_eq g101.symm)))) nin0))
  have f145 := (f124.keep K134 (ninS (Ne.symm (Nat.ne_of_lt (Nat.lt_of_lt_of_le (Nat.lt_of_lt_of_le Be.lt (Nat.le_refl _)) (Nat.le_of_eq g101.symm)))) nin0))
  have f146 := (f125.keep K134 (ninS (Ne.symm (Nat.ne_of_lt (Nat.lt_of_lt_of_le (Nat.lt_of_lt_of_le Be.lt (Nat.le_refl _)) (Nat.le_of_eq g101.symm)))) nin0))
  have f147 := ((((V1.ext E101).keep K107 (ninS (Nat.ne_of_lt (Nat.lt_of_lt_of_le (Nat.lt_of_lt_of_le V1.lt (Nat.le_refl _)) (Nat.le_of_eq g101.symm))) nin0)).keep K119 (ninS (Nat.ne_of_lt (Nat.lt_of_lt_of_le (Nat.lt_of_lt_of_le V1.lt (Nat.le_refl _)) (Nat.le_of_eq g101.symm))) nin0)).keep K134 (ninS (Ne.symm (Exa.neArv Be V1 (hw _ (List.mem_of_getElem? (i := 10) rfl)))) nin0))
  refine own_callF X134 hx hZ hown (hw _ (List.mem_of_getElem? (i := 146) rfl)) (hw _ (List.mem_of_getElem? (i := 147) rfl)) (hw _ (List.mem_of_getElem? (i := 148) rfl)) (hw _ (List.mem_of_getElem? (i := 149) rfl)) (hw _ (List.mem_of_getElem? (i := 150) rfl)) (hw _ (List.mem_of_getElem? (i := 151) rfl)) (hw _ (List.mem_of_getElem? (i := 152) rfl)) (hw _ (List.mem_of_getElem? (i := 90) rfl)) (hw _ (List.mem_of_getElem? (i := 153) rfl)) (hw _ (List.mem_of_getElem? (i := 61) rfl)) (by decide) (a := b101) f143 (own_addall l Z a0 hw [] (b101) (bk134) (rm) (rt) (kt) ((1 : Int32)) (ba119) ((1 : Int32)) T134.heap n0 (Nat.le_trans Z0 (Nat.le_trans (Nat.le_trans (Nat.le_trans E101.1 K107.1) K119.1) K134.1)) f143 f144 f145 f146 g_b101 f136 f137 f138 f139 f140 f142 f147) 0 (by decide) (by decide) (by decide) (by decide) rfl (g := (mkF m 36 #[rv r1, rv b101] [(.ref bk134), (.ref b101)])) rfl (by rw [hml]; rfl) (argsL := [(.ref bk134)]) (rest := []) (lenOf own_pd11 rfl) rfl (by show 2 * 0 + _ ≤ _; exact Nat.le_of_eq rfl) (hb hby own_d9_36) ?_
  intro v148 T148 L148 X148 q148
  obtain ⟨rfl, N148q, K148⟩ := q148
  have N148 := Fr.app N134 N148q
  show own_Goes p e below s _ _ _ T148 (mkF m 41 #[rv r1, rv b101] [(.int (0 : Int32))])
  refine own_by (g' := (mkF m 44 #[rv r1, rv b101] [(.int (0 : Int32)), (.ref r1)])) (fun t k => XS.pop X148.here hx rfl (hb hby own_d9_41) rfl rfl (XS.aloadN X148.here hx rfl (hb hby own_d9_42) rfl rfl (XS.iconst X148.here hx rfl (hb hby own_d9_43) k))) ?_
  have f149 := (((f112.keep K119 (ninS (Nat.ne_of_lt (Nat.lt_of_lt_of_le (Nat.lt_of_lt_of_le Se.lt (Nat.le_refl _)) (Nat.le_of_eq g101.symm))) nin0)).keep K134 (ninS (ne_exa Se Be (by decide)) nin0)).keep K148 (ninS (Nat.ne_of_lt (Nat.lt_of_lt_of_le (Nat.lt_of_lt_of_le Se.lt (Nat.le_refl _)) (Nat.le_of_eq g101.symm))) nin0))
  have f150 := (((((Se.ext E101).keep K107).keep K119).keep K134).keep K148)
  obtain ⟨T151, h151, X151, e151, W151, st151⟩ := putF X148 hx hZ hown (host := "") (Or.inl (hw _ (List.mem_of_getElem? (i := 45) rfl))) Via.refl rfl f149 f150 (Or.inl (hw _ (List.mem_of_getElem? (i := 46) rfl))) (hw _ (List.mem_of_getElem? (i := 1) rfl)) (ty := .int) (by decide) rfl rfl (g := (mkF m 44 #[rv r1, rv b101] [(.int (0 : Int32)), (.ref r1)])) rfl rfl (hb hby own_d9_44)
  have f152 := f149.same W151
  have N151 := Fr.snoc X151 N148 Sg
  refine own_by (g' := (mkF m 47 #[rv r1, rv b101] [])) st151 ?_
  refine own_by (g' := (mkF m 49 #[rv r1, rv b101] [.null, (.ref r1)])) (fun t k => XS.aloadN X151.here hx rfl (hb hby own_d9_47) rfl rfl (XS.aconstNull X151.here hx rfl (hb hby own_d9_48) k)) ?_
  have f153 := ((((f114.keep K119 (ninS (Nat.ne_of_lt (Nat.lt_of_lt_of_le (Nat.lt_of_lt_of_le Se.lt (Nat.le_refl _)) (Nat.le_of_eq g101.symm))) nin0)).keep K134 (ninS (ne_exa Se Be (by decide)) nin0)).keep K148 (ninS (Nat.ne_of_lt (Nat.lt_of_lt_of_le (Nat.lt_of_lt_of_le Se.lt (Nat.le_refl _)) (Nat.le_of_eq g101.symm))) nin0)).other W151 (Or.inr (slot_ne (Or.inl (hw _ (List.mem_of_getElem? (i := 53) rfl))) (Or.inl (hw _ (List.mem_of_getElem? (i := 46) rfl))) (by decide) (t := (.object "java/lang/Object")) (t' := .int) (by decide) (by decide))))
  have f154 := (f150.wr W151)
  obtain ⟨T155, h155, X155, e155, W155, st155⟩ := putF X151 hx hZ hown (host := "") (Or.inl (hw _ (List.mem_of_getElem? (i := 52) rfl))) Via.refl e151 f153 f154 (Or.inl (hw _ (List.mem_of_getElem? (i := 53) rfl))) (hw _ (List.mem_of_getElem? (i := 1) rfl)) (ty := (.object "java/lang/Object")) (by decide) rfl rfl (g := (mkF m 49 #[rv r1, rv b101] [.null, (.ref r1)])) rfl rfl (hb hby own_d9_49)
  have f156 := f153.same W155
  have N155 := Fr.snoc X155 N151 Sg
  refine own_by (g' := (mkF m 52 #[rv r1, rv b101] [])) st155 ?_
  refine own_by (g' := (mkF m 53 #[rv r1, rv b101] [(.ref r1)])) (fun t k => XS.aloadN X155.here hx rfl (hb hby own_d9_52) rfl rfl k) ?_
  have f157 := ((((f127.keep K134 (ninS (ne_exa Se Be (by decide)) nin0)).keep K148 (ninS (Nat.ne_of_lt (Nat.lt_of_lt_of_le (Nat.lt_of_lt_of_le Se.lt (Nat.le_refl _)) (Nat.le_of_eq g101.symm))) nin0)).other W151 (Or.inr (slot_ne (Or.inr (hw _ (List.mem_of_getElem? (i := 32) rfl))) (Or.inl (hw _ (List.mem_of_getElem? (i := 46) rfl))) (by decide) (t := (.object "java/util/Map")) (t' := .int) (by decide) (by decide)))).other W155 (Or.inr (slot_ne (Or.inr (hw _ (List.mem_of_getElem? (i := 32) rfl))) (Or.inl (hw _ (List.mem_of_getElem? (i := 53) rfl))) (by decide) (t := (.object "java/util/Map")) (t' := (.object "java/lang/Object")) (by decide) (by decide))))
  obtain ⟨T158, X158, e158, st158⟩ := getF X155 hx hZ hown (host := "") (Or.inl (hw _ (List.mem_of_getElem? (i := 31) rfl))) Via.refl e155 f157 (g := (mkF m 53 #[rv r1, rv b101] [(.ref r1)])) rfl rfl (hb hby own_d9_53)
  refine own_by (g' := (mkF m 56 #[rv r1, rv b101] [(.ref rm)])) st158 ?_
  have f159 := (((f138.keep K148).wr W151).wr W155)
  have f160 := (((f139.keep K148 (ninS (Nat.ne_of_lt (Nat.lt_of_lt_of_le (Nat.lt_of_lt_of_le Be.lt (Nat.le_refl _)) (Nat.le_of_eq g101.symm))) nin0)).other W151 (Or.inl (ne_exa Be Se (by decide)))).other W155 (Or.inl (ne_exa Be Se (by decide))))
  have f161 := (((f140.keep K148 (ninS (Nat.ne_of_lt (Nat.lt_of_lt_of_le (Nat.lt_of_lt_of_le Be.lt (Nat.le_refl _)) (Nat.le_of_eq g101.symm))) nin0)).other W151 (Or.inl (ne_exa Be Se (by decide)))).other W155 (Or.inl (ne_exa Be Se (by decide))))
  have f162 := (((f142.keep K148 (ninS (Nat.ne_of_lt (Nat.lt_of_lt_of_le (Nat.lt_of_lt_of_le Be.lt (Nat.le_refl _)) (Nat.le_of_eq g101.symm))) nin0)).other W151 (Or.inl (ne_exa Be Se (by decide)))).other W155 (Or.inl (ne_exa Be Se (by decide))))
  have f164 := (((f147.keep K148 (ninS (Nat.ne_of_lt (Nat.lt_of_lt_of_le (Nat.lt_of_lt_of_le V1.lt (Nat.le_refl _)) (Nat.le_of_eq g101.symm))) nin0)).other W151 (Ne.symm (Exa.neArv Se V1 (hw _ (List.mem_of_getElem? (i := 1) rfl))))).other W155 (Ne.symm (Exa.neArv Se V1 (hw _ (List.mem_of_getElem? (i := 1) rfl)))))
  have f163 := own_Arz.of f164
  refine own_callF X158 hx hZ hown (hw _ (List.mem_of_getElem? (i := 179) rfl)) (hw _ (List.mem_of_getElem? (i := 180) rfl)) (hw _ (List.mem_of_getElem? (i := 181) rfl)) (hw _ (List.mem_of_getElem? (i := 182) rfl)) (hw _ (List.mem_of_getElem? (i := 183) rfl)) (hw _ (List.mem_of_getElem? (i := 184) rfl)) (hw _ (List.mem_of_getElem? (i := 185) rfl)) (hw _ (List.mem_of_getElem? (i := 124) rfl)) (hw _ (List.mem_of_getElem? (i := 186) rfl)) (hw _ (List.mem_of_getElem? (i := 11) rfl)) (by decide) (a := rm) f159 (own_mclear l Z a0 hw [] (rm) (rt) h155 n0 (Nat.le_trans Z0 (Nat.le_trans (Nat.le_trans (Nat.le_trans (Nat.le_trans (Nat.le_trans (Nat.le_trans E101.1 K107.1) K119.1) K134.1) K148.1) (Nat.le_of_eq W151.size.symm)) (Nat.le_of_eq W155.size.symm))) f159 f160 f161 f162 f163 g2 g3) 0 (by decide) (by decide) (by decide) (by decide) e158 (g := (mkF m 56 #[rv r1, rv b101] [(.ref rm)])) rfl (by rw [hml]; rfl) (argsL := []) (rest := []) (lenOf own_pd0 rfl) rfl (by show 2 * 0 + _ ≤ _; exact Nat.le_of_eq rfl) (hb hby own_d9_56) ?_
  intro v165 T165 L165 X165 q165
  obtain ⟨rfl, N165q, K165⟩ := q165
  have N165 := Fr.app N155 N165q
  show own_Goes p e below s _ _ _ T165 (mkF m 61 #[rv r1, rv b101] [])
  refine own_by (g' := (mkF m 62 #[rv r1, rv b101] [(.ref b101)])) (fun t k => XS.aloadN X165.here hx rfl (hb hby own_d9_61) rfl rfl k) ?_
  have f166 := ((f154.wr W155).keep K165)
  have f167 := ((f152.other W155 (Or.inr (slot_ne (Or.inl (hw _ (List.mem_of_getElem? (i := 46) rfl))) (Or.inl (hw _ (List.mem_of_getElem? (i := 53) rfl))) (by decide) (t := .int) (t' := (.object "java/lang/Object")) (by decide) (by decide)))).keep K165 (ninS (ne_exa Se Be (by decide)) (ninS (Exa.neArv Se V1 (hw _ (List.mem_of_getElem? (i := 1) rfl))) nin0)))
  refine own_retA X165 hx hlk hret rfl rfl (hb hby own_d9_62) (by decide) (by decide) ?_
  exact ⟨b101, rfl, N165, (((((((((Keep.refl h0 [r1, rm, rt]).ext E101).trans K107 (allS (Or.inr sz_b101) all0)).trans K119 (allS (Or.inr sz_b101) all0)).trans K134 (allS (Or.inl (List.mem_of_getElem? (i := 1) rfl)) all0)).trans K148 (allS (Or.inr sz_b101) all0)).wr W151 (Or.inl (List.mem_of_getElem? (i := 0) rfl))).wr W155 (Or.inl (List.mem_of_getElem? (i := 0) rfl))).trans K165 (allS (Or.inl (List.mem_of_getElem? (i := 1) rfl)) (allS (Or.inl (List.mem_of_getElem? (i := 2) rfl)) all0))), f166, f167⟩
def Q_own_clear0 (Z : State) (r1 : Addr) (rm : Addr) (rt : Addr) (kt : ClassId) (zd : Addr) (u1 : Int32) (w1 : Value) (h0 : Heap) (n0 : Nat) (v : Option Value) (h : Heap) (L : List Loc) : Prop := ∃ (bl : Addr), v = some (.ref bl) ∧ Fr n0 L ∧ Keep h0 h [r1, rm, rt] ∧ Exa Z h r1 "com/example/purlin/purlin/framework/ServiceUse" ∧ Fld Z h r1 "com/example/purlin/purlin/framework/ServiceUse" "count" "I" (.int (0 : Int32))
theorem own_ef_own_clear0 (m : MethodId) (r1 : Addr) : entryFrame m #[(.ref r1)] 2 = mkF m 0 #[rv r1, .unset] [] := by first | (simp [entryFrame, mkF, argsToLocals, Value.category]; done) | rfl
set_option maxRecDepth 65536 in
set_option maxHeartbeats 40000000 in
theorem own_clear0 (l : Launch) (Z : State) (a0 : Array Value) (hw : ∀ d ∈ tables_1, d.before a0 Z = true) (ws : List Jvm.Cond) (r1 : Addr) (rm : Addr) (rt : Addr) (kt : ClassId) (zd : Addr) (u1 : Int32) (w1 : Value) (h0 : Heap) (n0 : Nat) (Z0 : n0 ≤ h0.size) (Se : Exa Z h0 r1 "com/example/purlin/purlin/framework/ServiceUse") (Sm : Fld Z h0 r1 "com/example/purlin/purlin/framework/ServiceUse" "prototypes" "Ljava/util/Map;" (.ref rm)) (So : Fld Z h0 r1 "com/example/purlin/purlin/framework/ServiceUse" "object" "Ljava/lang/Object;" w1) (Sc : Fld Z h0 r1 "com/example/purlin/purlin/framework/ServiceUse" "count" "I" (.int u1)) (Sg : n0 ≤ r1) (hr1 : (w1).isRef = true) (hp : ¬ (0 : Int32) < u1) (Be : Exa Z h0 rm "java/util/IdentityHashMap") (Bz : Fld Z h0 rm "java/util/IdentityHashMap" "size" "I" (.int (0 : Int32))) (Bm : Fld Z h0 rm "java/util/IdentityHashMap" "modCount" "I" (.int (0 : Int32))) (Bk : Fld Z h0 rm "java/util/AbstractMap" "keySet" "Ljava/util/Set;" .null) (Bt : Fld Z h0 rm "java/util/IdentityHashMap" "table" "[Ljava/lang/Object;" (.ref rt)) (V1 : Arv Z h0 rt kt (.object "java/lang/Object") (64 : Int32) [] .null) (g2 : n0 ≤ rm) (g3 : n0 ≤ rt) (O0 : Old Z n0 h0) (S_dflt : Sta Z Z.heap "java/util/ArrayList" "DEFAULTCAPACITY_EMPTY_ELEMENTDATA" "[Ljava/lang/Object;" (.ref zd)) (Yd : own_Arz Z h0 zd (.object "java/lang/Object") (0 : Int32)) :
    own_Ctr l Z (⟨"com/example/purlin/purlin/framework/ServiceUse", "clear", "()Ljava/util/List;"⟩ : MethodName) prog_4_method_13_code 2 (some (.object "java/util/List")) ws ({ frames := 5, cells := 3, slots := 4, locals := 64 } : Room) (({ frames := 5, cells := 3, slots := 4, locals := 64 } : Room)).cells (({ frames := 5, cells := 3, slots := 4, locals := 64 } : Room)).slots #[(.ref r1)] h0 (Q_own_clear0 Z r1 rm rt kt zd u1 w1 h0 n0) := by
  refine own_enter (plainFor_of_name own_pn7) ?_
  intro p e s m below meth c s₁ X0 hx hZ hby hml hown hnm hlk hret e0
  have N0 := Fr.nil n0
  refine own_cast (own_ef_own_clear0 m r1) ?_
  obtain ⟨T101, h101, X101, e101, E101, A101, D101, U101, st101⟩ := newO X0 hx hZ hown (hw _ (List.mem_of_getElem? (i := 59) rfl)) (hw _ (List.mem_of_getElem? (i := 60) rfl)) (hw _ (List.mem_of_getElem? (i := 61) rfl)) e0 (g := (mkF m 0 #[rv r1, .unset] [])) rfl (hb hby own_d9_0) (by decide) (by decide)
  obtain ⟨b101, g101⟩ : ∃ z, z = h0.size := ⟨_, rfl⟩
  rw [← g101] at A101 D101 U101 st101
  have sz_b101 : h0.size ≤ b101 := Nat.le_trans (Nat.le_refl _) (Nat.le_of_eq g101.symm)
  have g_b101 : n0 ≤ b101 := Nat.le_trans Z0 sz_b101
  have f102 : Fld Z h101 b101 "java/util/AbstractList" "modCount" "I" (.int (0 : Int32)) := D101 (Or.inl (hw _ (List.mem_of_getElem? (i := 79) rfl))) (ty := .int) (by decide)
  have f103 : Fld Z h101 b101 "java/util/ArrayList" "elementData" "[Ljava/lang/Object;" .null := D101 (Or.inl (hw _ (List.mem_of_getElem? (i := 82) rfl))) (ty := (.array (.object "java/lang/Object"))) (by decide)
  have f104 : Fld Z h101 b101 "java/util/ArrayList" "size" "I" (.int (0 : Int32)) := D101 (Or.inl (hw _ (List.mem_of_getElem? (i := 95) rfl))) (ty := .int) (by decide)
  refine own_by (g' := (mkF m 3 #[rv r1, .unset] [(.ref b101)])) st101 ?_
  refine own_by (g' := (mkF m 4 #[rv r1, .unset] [(.ref b101), (.ref b101)])) (fun t k => XS.dup X101.here hx rfl (hb hby own_d9_3) rfl rfl k) ?_
  have f105 := (O0.ext E101)
  have f106 := (Yd.ext E101)
  refine own_callI X101 hx hZ hown rfl (hw _ (List.mem_of_getElem? (i := 62) rfl)) (hw _ (List.mem_of_getElem? (i := 63) rfl)) (hw _ (List.mem_of_getElem? (i := 61) rfl)) (hw _ (List.mem_of_getElem? (i := 64) rfl)) (by decide) (a := b101) (own_alini l Z a0 hw [] (b101) (zd) h101 n0 (Nat.le_trans Z0 E101.1) A101 f102 f103 f104 g_b101 f105 S_dflt f106) 1 (by decide) (by decide) (by decide) (by decide) e101 (g := (mkF m 4 #[rv r1, .unset] [(.ref b101), (.ref b101)])) rfl (by rw [hml]; rfl) (argsL := []) (rest := [(.ref b101)]) (lenOf own_pd0 rfl) rfl (by show 2 * 0 + _ ≤ _; exact Nat.le_of_eq rfl) (hb hby own_d9_4) ?_
  intro v107 T107 L107 X107 q107
  obtain ⟨rfl, N107q, K107, f108, f109, f110, f111⟩ := q107
  have N107 := Fr.app N0 N107q
  show own_Goes p e below s _ _ _ T107 (mkF m 7 #[rv r1, .unset] [(.ref b101)])
  refine own_by (g' := (mkF m 9 #[rv r1, rv b101] [(.ref r1)])) (fun t k => XS.astoreN X107.here hx rfl (hb hby own_d9_7) rfl rfl (l' := #[rv r1, rv b101]) rfl (XS.aloadN X107.here hx rfl (hb hby own_d9_8) rfl rfl k)) ?_
  have f112 := ((Sc.ext E101).keep K107 (ninS (Nat.ne_of_lt (Nat.lt_of_lt_of_le (Nat.lt_of_lt_of_le Se.lt (Nat.le_refl _)) (Nat.le_of_eq g101.symm))) nin0))
  obtain ⟨T113, X113, e113, st113⟩ := getF X107 hx hZ hown (host := "") (Or.inl (hw _ (List.mem_of_getElem? (i := 45) rfl))) Via.refl rfl f112 (g := (mkF m 9 #[rv r1, rv b101] [(.ref r1)])) rfl rfl (hb hby own_d9_9)
  refine own_by (g' := (mkF m 12 #[rv r1, rv b101] [(.int u1)])) st113 ?_
  refine own_by (g' := (mkF m 28 #[rv r1, rv b101] [(.ref r1), (.ref b101)])) (fun t k => XS.ifYes X113.here hx rfl (pc0 := 12) (pc' := 26) rfl (hb hby own_d9_12) rfl ((if0 _ _).trans (flt hp).2.2.2) (by decide) (by decide) (XS.aloadN X113.here hx rfl (hb hby own_d9_26) rfl rfl (XS.aloadN X113.here hx rfl (hb hby own_d9_27) rfl rfl k))) ?_
  have f114 := ((Sm.ext E101).keep K107 (ninS (Nat.ne_of_lt (Nat.lt_of_lt_of_le (Nat.lt_of_lt_of_le Se.lt (Nat.le_refl _)) (Nat.le_of_eq g101.symm))) nin0))
  obtain ⟨T115, X115, e115, st115⟩ := getF X113 hx hZ hown (host := "") (Or.inl (hw _ (List.mem_of_getElem? (i := 31) rfl))) Via.refl e113 f114 (g := (mkF m 28 #[rv r1, rv b101] [(.ref r1), (.ref b101)])) rfl rfl (hb hby own_d9_28)
  refine own_by (g' := (mkF m 31 #[rv r1, rv b101] [(.ref rm), (.ref b101)])) st115 ?_
  have f116 := ((Be.ext E101).keep K107)
  have f117 := ((Bz.ext E101).keep K107 (ninS (Nat.ne_of_lt (Nat.lt_of_lt_of_le (Nat.lt_of_lt_of_le Be.lt (Nat.le_refl _)) (Nat.le_of_eq g101.symm))) nin0))
  have f118 := ((Bm.ext E101).keep K107 (ninS (Nat.ne_of_lt (Nat.lt_of_lt_of_le (Nat.lt_of_lt_of_le Be.lt (Nat.le_refl _)) (Nat.le_of_eq g101.symm))) nin0))
  have f119 := ((Bk.ext E101).keep K107 (ninS (Nat.ne_of_lt (Nat.lt_of_lt_of_le (Nat.lt_of_lt_of_le Be.lt (Nat.le_refl _)) (Nat.le_of_eq g101.symm))) nin0))
  have f120 := ((Bt.ext E101).keep K107 (ninS (Nat.ne_of_lt (Nat.lt_of_lt_of_le (Nat.lt_of_lt_of_le Be.lt (Nat.le_refl _)) (Nat.le_of_eq g101.symm))) nin0))
  refine own_callF X115 hx hZ hown (hw _ (List.mem_of_getElem? (i := 117) rfl)) (hw _ (List.mem_of_getElem? (i := 118) rfl)) (hw _ (List.mem_of_getElem? (i := 119) rfl)) (hw _ (List.mem_of_getElem? (i := 120) rfl)) (hw _ (List.mem_of_getElem? (i := 121) rfl)) (hw _ (List.mem_of_getElem? (i := 122) rfl)) (hw _ (List.mem_of_getElem? (i := 123) rfl)) (hw _ (List.mem_of_getElem? (i := 124) rfl)) (hw _ (List.mem_of_getElem? (i := 125) rfl)) (hw _ (List.mem_of_getElem? (i := 11) rfl)) (by decide) (a := rm) f116 (own_keys l Z a0 hw [] (rm) (rt) T107.heap n0 (Nat.le_trans Z0 (Nat.le_trans E101.1 K107.1)) f116 f117 f118 f119 f120 g2) 1 (by decide) (by decide) (by decide) (by decide) e115 (g := (mkF m 31 #[rv r1, rv b101] [(.ref rm), (.ref b101)])) rfl (by rw [hml]; rfl) (argsL := []) (rest := [(.ref b101)]) (lenOf own_pd10 rfl) rfl (by show 2 * 0 + _ ≤ _; exact Nat.le_of_eq rfl) (hb hby own_d9_31) ?_
  intro v121 T121 L121 X121 q121
  obtain ⟨bk121, rfl, N121q, K121, f122, f123, f124, f125, f126, f127, f128, f129⟩ := q121
  have N121 := Fr.app N107 N121q
  show own_Goes p e below s _ _ _ T121 (mkF m 36 #[rv r1, rv b101] [(.ref bk121), (.ref b101)])
  have f130 := (f108.keep K121)
  have f131 := (f109.keep K121 (ninS (Ne.symm (Nat.ne_of_lt (Nat.lt_of_lt_of_le (Nat.lt_of_lt_of_le Be.lt (Nat.le_refl _)) (Nat.le_of_eq g101.symm)))) nin0))
  have f132 := (f110.keep K121 (ninS (Ne.symm (Nat.ne_of_lt (Nat.lt_of_lt_of_le (Nat.lt_of_lt_of_le Be.lt (Nat.le_refl _)) (Nat.le_of_eq g101.symm)))) nin0))
  have f133 := (f111.keep K121 (ninS (Ne.symm (Nat.ne_of_lt (Nat.lt_of_lt_of_le (Nat.lt_of_lt_of_le Be.lt (Nat.le_refl _)) (Nat.le_of_eq g101.symm)))) nin0))
  have f134 := (((V1.ext E101).keep K107 (ninS (Nat.ne_of_lt (Nat.lt_of_lt_of_le (Nat.lt_of_lt_of_le V1.lt (Nat.le_refl _)) (Nat.le_of_eq g101.symm))) nin0)).keep K121 (ninS (Ne.symm (Exa.neArv Be V1 (hw _ (List.mem_of_getElem? (i := 10) rfl)))) nin0))
  refine own_callF X121 hx hZ hown (hw _ (List.mem_of_getElem? (i := 146) rfl)) (hw _ (List.mem_of_getElem? (i := 147) rfl)) (hw _ (List.mem_of_getElem? (i := 148) rfl)) (hw _ (List.mem_of_getElem? (i := 149) rfl)) (hw _ (List.mem_of_getElem? (i := 150) rfl)) (hw _ (List.mem_of_getElem? (i := 151) rfl)) (hw _ (List.mem_of_getElem? (i := 152) rfl)) (hw _ (List.mem_of_getElem? (i := 90) rfl)) (hw _ (List.mem_of_getElem? (i := 153) rfl)) (hw _ (List.mem_of_getElem? (i := 61) rfl)) (by decide) (a := b101) f130 (own_addall l Z a0 hw [] (b101) (bk121) (rm) (rt) (kt) ((0 : Int32)) (zd) ((0 : Int32)) T121.heap n0 (Nat.le_trans Z0 (Nat.le_trans (Nat.le_trans E101.1 K107.1) K121.1)) f130 f131 f132 f133 g_b101 f123 f124 f125 f126 f127 f129 f134) 0 (by decide) (by decide) (by decide) (by decide) rfl (g := (mkF m 36 #[rv r1, rv b101] [(.ref bk121), (.ref b101)])) rfl (by rw [hml]; rfl) (argsL := [(.ref bk121)]) (rest := []) (lenOf own_pd11 rfl) rfl (by show 2 * 0 + _ ≤ _; exact Nat.le_of_eq rfl) (hb hby own_d9_36) ?_
  intro v135 T135 L135 X135 q135
  obtain ⟨rfl, N135q, K135⟩ := q135
  have N135 := Fr.app N121 N135q
  show own_Goes p e below s _ _ _ T135 (mkF m 41 #[rv r1, rv b101] [(.int (0 : Int32))])
  refine own_by (g' := (mkF m 44 #[rv r1, rv b101] [(.int (0 : Int32)), (.ref r1)])) (fun t k => XS.pop X135.here hx rfl (hb hby own_d9_41) rfl rfl (XS.aloadN X135.here hx rfl (hb hby own_d9_42) rfl rfl (XS.iconst X135.here hx rfl (hb hby own_d9_43) k))) ?_
  have f136 := ((f112.keep K121 (ninS (ne_exa Se Be (by decide)) nin0)).keep K135 (ninS (Nat.ne_of_lt (Nat.lt_of_lt_of_le (Nat.lt_of_lt_of_le Se.lt (Nat.le_refl _)) (Nat.le_of_eq g101.symm))) nin0))
  have f137 := ((((Se.ext E101).keep K107).keep K121).keep K135)
  obtain ⟨T138, h138, X138, e138, W138, st138⟩ := putF X135 hx hZ hown (host := "") (Or.inl (hw _ (List.mem_of_getElem? (i := 45) rfl))) Via.refl rfl f136 f137 (Or.inl (hw _ (List.mem_of_getElem? (i := 46) rfl))) (hw _ (List.mem_of_getElem? (i := 1) rfl)) (ty := .int) (by decide) rfl rfl (g := (mkF m 44 #[rv r1, rv b101] [(.int (0 : Int32)), (.ref r1)])) rfl rfl (hb hby own_d9_44)
  have f139 := f136.same W138
  have N138 := Fr.snoc X138 N135 Sg
  refine own_by (g' := (mkF m 47 #[rv r1, rv b101] [])) st138 ?_
  refine own_by (g' := (mkF m 49 #[rv r1, rv b101] [.null, (.ref r1)])) (fun t k => XS.aloadN X138.here hx rfl (hb hby own_d9_47) rfl rfl (XS.aconstNull X138.here hx rfl (hb hby own_d9_48) k)) ?_
  have f140 := (((((So.ext E101).keep K107 (ninS (Nat.ne_of_lt (Nat.lt_of_lt_of_le (Nat.lt_of_lt_of_le Se.lt (Nat.le_refl _)) (Nat.le_of_eq g101.symm))) nin0)).keep K121 (ninS (ne_exa Se Be (by decide)) nin0)).keep K135 (ninS (Nat.ne_of_lt (Nat.lt_of_lt_of_le (Nat.lt_of_lt_of_le Se.lt (Nat.le_refl _)) (Nat.le_of_eq g101.symm))) nin0)).other W138 (Or.inr (slot_ne (Or.inl (hw _ (List.mem_of_getElem? (i := 53) rfl))) (Or.inl (hw _ (List.mem_of_getElem? (i := 46) rfl))) (by decide) (t := (.object "java/lang/Object")) (t' := .int) (by decide) (by decide))))
  have f141 := (f137.wr W138)
  obtain ⟨T142, h142, X142, e142, W142, st142⟩ := putF X138 hx hZ hown (host := "") (Or.inl (hw _ (List.mem_of_getElem? (i := 52) rfl))) Via.refl e138 f140 f141 (Or.inl (hw _ (List.mem_of_getElem? (i := 53) rfl))) (hw _ (List.mem_of_getElem? (i := 1) rfl)) (ty := (.object "java/lang/Object")) (by decide) rfl rfl (g := (mkF m 49 #[rv r1, rv b101] [.null, (.ref r1)])) rfl rfl (hb hby own_d9_49)
  have f143 := f140.same W142
  have N142 := Fr.snoc X142 N138 Sg
  refine own_by (g' := (mkF m 52 #[rv r1, rv b101] [])) st142 ?_
  refine own_by (g' := (mkF m 53 #[rv r1, rv b101] [(.ref r1)])) (fun t k => XS.aloadN X142.here hx rfl (hb hby own_d9_52) rfl rfl k) ?_
  have f144 := ((((f114.keep K121 (ninS (ne_exa Se Be (by decide)) nin0)).keep K135 (ninS (Nat.ne_of_lt (Nat.lt_of_lt_of_le (Nat.lt_of_lt_of_le Se.lt (Nat.le_refl _)) (Nat.le_of_eq g101.symm))) nin0)).other W138 (Or.inr (slot_ne (Or.inr (hw _ (List.mem_of_getElem? (i := 32) rfl))) (Or.inl (hw _ (List.mem_of_getElem? (i := 46) rfl))) (by decide) (t := (.object "java/util/Map")) (t' := .int) (by decide) (by decide)))).other W142 (Or.inr (slot_ne (Or.inr (hw _ (List.mem_of_getElem? (i := 32) rfl))) (Or.inl (hw _ (List.mem_of_getElem? (i := 53) rfl))) (by decide) (t := (.object "java/util/Map")) (t' := (.object "java/lang/Object")) (by decide) (by decide))))
  obtain ⟨T145, X145, e145, st145⟩ := getF X142 hx hZ hown (host := "") (Or.inl (hw _ (List.mem_of_getElem? (i := 31) rfl))) Via.refl e142 f144 (g := (mkF m 53 #[rv r1, rv b101] [(.ref r1)])) rfl rfl (hb hby own_d9_53)
  refine own_by (g' := (mkF m 56 #[rv r1, rv b101] [(.ref rm)])) st145 ?_
  have f146 := (((f125.keep K135).wr W138).wr W142)
  have f147 := (((f126.keep K135 (ninS (Nat.ne_of_lt (Nat.lt_of_lt_of_le (Nat.lt_of_lt_of_le Be.lt (Nat.le_refl _)) (Nat.le_of_eq g101.symm))) nin0)).other W138 (Or.inl (ne_exa Be Se (by decide)))).other W142 (Or.inl (ne_exa Be Se (by decide))))
  have f148 := (((f127.keep K135 (ninS (Nat.ne_of_lt (Nat.lt_of_lt_of_le (Nat.lt_of_lt_of_le Be.lt (Nat.le_refl _)) (Nat.le_of_eq g101.symm))) nin0)).other W138 (Or.inl (ne_exa Be Se (by decide)))).other W142 (Or.inl (ne_exa Be Se (by decide))))
  have f149 := (((f129.keep K135 (ninS (Nat.ne_of_lt (Nat.lt_of_lt_of_le (Nat.lt_of_lt_of_le Be.lt (Nat.le_refl _)) (Nat.le_of_eq g101.symm))) nin0)).other W138 (Or.inl (ne_exa Be Se (by decide)))).other W142 (Or.inl (ne_exa Be Se (by decide))))
  have f151 := (((f134.keep K135 (ninS (Nat.ne_of_lt (Nat.lt_of_lt_of_le (Nat.lt_of_lt_of_le V1.lt (Nat.le_refl _)) (Nat.le_of_eq g101.symm))) nin0)).other W138 (Ne.symm (Exa.neArv Se V1 (hw _ (List.mem_of_getElem? (i := 1) rfl))))).other W142 (Ne.symm (Exa.neArv Se V1 (hw _ (List.mem_of_getElem? (i := 1) rfl)))))
  have f150 := own_Arz.of f151
  refine own_callF X145 hx hZ hown (hw _ (List.mem_of_getElem? (i := 179) rfl)) (hw _ (List.mem_of_getElem? (i := 180) rfl)) (hw _ (List.mem_of_getElem? (i := 181) rfl)) (hw _ (List.mem_of_getElem? (i := 182) rfl)) (hw _ (List.mem_of_getElem? (i := 183) rfl)) (hw _ (List.mem_of_getElem? (i := 184) rfl)) (hw _ (List.mem_of_getElem? (i := 185) rfl)) (hw _ (List.mem_of_getElem? (i := 124) rfl)) (hw _ (List.mem_of_getElem? (i := 186) rfl)) (hw _ (List.mem_of_getElem? (i := 11) rfl)) (by decide) (a := rm) f146 (own_mclear l Z a0 hw [] (rm) (rt) h142 n0 (Nat.le_trans Z0 (Nat.le_trans (Nat.le_trans (Nat.le_trans (Nat.le_trans (Nat.le_trans E101.1 K107.1) K121.1) K135.1) (Nat.le_of_eq W138.size.symm)) (Nat.le_of_eq W142.size.symm))) f146 f147 f148 f149 f150 g2 g3) 0 (by decide) (by decide) (by decide) (by decide) e145 (g := (mkF m 56 #[rv r1, rv b101] [(.ref rm)])) rfl (by rw [hml]; rfl) (argsL := []) (rest := []) (lenOf own_pd0 rfl) rfl (by show 2 * 0 + _ ≤ _; exact Nat.le_of_eq rfl) (hb hby own_d9_56) ?_
  intro v152 T152 L152 X152 q152
  obtain ⟨rfl, N152q, K152⟩ := q152
  have N152 := Fr.app N142 N152q
  show own_Goes p e below s _ _ _ T152 (mkF m 61 #[rv r1, rv b101] [])
  refine own_by (g' := (mkF m 62 #[rv r1, rv b101] [(.ref b101)])) (fun t k => XS.aloadN X152.here hx rfl (hb hby own_d9_61) rfl rfl k) ?_
  have f153 := ((f141.wr W142).keep K152)
  have f154 := ((f139.other W142 (Or.inr (slot_ne (Or.inl (hw _ (List.mem_of_getElem? (i := 46) rfl))) (Or.inl (hw _ (List.mem_of_getElem? (i := 53) rfl))) (by decide) (t := .int) (t' := (.object "java/lang/Object")) (by decide) (by decide)))).keep K152 (ninS (ne_exa Se Be (by decide)) (ninS (Exa.neArv Se V1 (hw _ (List.mem_of_getElem? (i := 1) rfl))) nin0)))
  refine own_retA X152 hx hlk hret rfl rfl (hb hby own_d9_62) (by decide) (by decide) ?_
  exact ⟨b101, rfl, N152, ((((((((Keep.refl h0 [r1, rm, rt]).ext E101).trans K107 (allS (Or.inr sz_b101) all0)).trans K121 (allS (Or.inl (List.mem_of_getElem? (i := 1) rfl)) all0)).trans K135 (allS (Or.inr sz_b101) all0)).wr W138 (Or.inl (List.mem_of_getElem? (i := 0) rfl))).wr W142 (Or.inl (List.mem_of_getElem? (i := 0) rfl))).trans K152 (allS (Or.inl (List.mem_of_getElem? (i := 1) rfl)) (allS (Or.inl (List.mem_of_getElem? (i := 2) rfl)) all0))), f153, f154⟩
theorem own_m4 (a : Int32) : a &&& (3 : Int32) = 0 ∨ a &&& (3 : Int32) = 1 ∨ a &&& (3 : Int32) = 2 ∨ a &&& (3 : Int32) = 3 := by
  have m := c_mask a 3 2 (by decide) (by decide)
  have : (a &&& 3).toInt = 0 ∨ (a &&& 3).toInt = 1 ∨ (a &&& 3).toInt = 2 ∨ (a &&& 3).toInt = 3 := by omega
  rcases this with h | h | h | h
  · exact Or.inl (Int32.toInt_inj.mp h)
  · exact Or.inr (Or.inl (Int32.toInt_inj.mp h))
  · exact Or.inr (Or.inr (Or.inl (Int32.toInt_inj.mp h)))
  · exact Or.inr (Or.inr (Or.inr (Int32.toInt_inj.mp h)))
theorem own_r1 (a : Int32) : (a &&& (3 : Int32)) % (1 : Int32) = 0 := by rcases own_m4 a with h | h | h | h <;> rw [h] <;> decide
theorem own_r2 (a : Int32) : (a &&& (3 : Int32)) % (2 : Int32) = 0 ∨ (a &&& (3 : Int32)) % (2 : Int32) = 1 := by rcases own_m4 a with h | h | h | h <;> rw [h] <;> decide
theorem own_r3 (a : Int32) : (a &&& (3 : Int32)) % (3 : Int32) = 0 ∨ (a &&& (3 : Int32)) % (3 : Int32) = 1 ∨ (a &&& (3 : Int32)) % (3 : Int32) = 2 := by rcases own_m4 a with h | h | h | h <;> rw [h] <;> decide
theorem own_r4 (a : Int32) : (a &&& (3 : Int32)) % (4 : Int32) = 0 ∨ (a &&& (3 : Int32)) % (4 : Int32) = 1 ∨ (a &&& (3 : Int32)) % (4 : Int32) = 2 ∨ (a &&& (3 : Int32)) % (4 : Int32) = 3 := by rcases own_m4 a with h | h | h | h <;> rw [h] <;> decide
theorem own_pn10 : plainName "com/example/purlin/purlin/framework/ServiceUseIsCountedPinLaw" = true := by first | (simp [plainName, overriddenIn]; done) | decide +kernel
theorem own_pd12 : parseMethodDescriptor "(I)Ljava/lang/Integer;" = some ⟨[.int], some (.object "java/lang/Integer")⟩ := by decide +kernel
theorem own_pd13 : parseMethodDescriptor "()Z" = some ⟨[], some .boolean⟩ := by decide +kernel
theorem own_pd14 : parseMethodDescriptor "()Ljava/util/List;" = some ⟨[], some (.object "java/util/List")⟩ := by decide +kernel
theorem own_pd15 : parseMethodDescriptor "(Ljava/lang/Object;)V" = some ⟨[(.object "java/lang/Object")], none⟩ := by decide +kernel
theorem own_pd16 : parseMethodDescriptor "()Ljava/lang/Object;" = some ⟨[], some (.object "java/lang/Object")⟩ := by decide +kernel
def Q_own_law (Z : State) (u1 : Int32) (u2 : Int32) (u3 : Int32) (zc : Addr) (zd : Addr) (h0 : Heap) (n0 : Nat) (v : Option Value) (h : Heap) (L : List Loc) : Prop := v = some (.int (1 : Int32)) ∧ Fr n0 L ∧ Keep h0 h []
theorem own_ef_own_law (m : MethodId) (u1 : Int32) (u2 : Int32) (u3 : Int32) : entryFrame m #[(.int u1), (.int u2), (.int u3)] maxLocals = mkF m 0 #[iv u1, iv u2, iv u3, .unset, .unset, .unset, .unset, .unset, .unset] [] := by first | (simp [entryFrame, mkF, argsToLocals, Value.category, maxLocals]; done) | rfl
set_option maxRecDepth 65536 in
set_option maxHeartbeats 40000000 in
theorem own_law (l : Launch) (Z : State) (a0 : Array Value) (hw : ∀ d ∈ tables_1, d.before a0 Z = true) (ws : List Jvm.Cond) (u1 : Int32) (u2 : Int32) (u3 : Int32) (zc : Addr) (zd : Addr) (h0 : Heap) (n0 : Nat) (Z0 : n0 ≤ h0.size) (O0 : Old Z n0 h0) (S_high : Sta Z Z.heap "java/lang/Integer$IntegerCache" "high" "I" (.int (127 : Int32))) (S_cache : Sta Z Z.heap "java/lang/Integer$IntegerCache" "cache" "[Ljava/lang/Integer;" (.ref zc)) (hIC : own_ICache Z zc) (S_dflt : Sta Z Z.heap "java/util/ArrayList" "DEFAULTCAPACITY_EMPTY_ELEMENTDATA" "[Ljava/lang/Object;" (.ref zd)) (Yd : own_Arz Z h0 zd (.object "java/lang/Object") (0 : Int32)) :
    own_Ctr l Z x code maxLocals ret ws room_1 8 89 #[(.int u1), (.int u2), (.int u3)] h0 (Q_own_law Z u1 u2 u3 zc zd h0 n0) := by
  refine own_enter (plainFor_of_name own_pn10) ?_
  intro p e s m below meth c s₁ X0 hx hZ hby hml hown hnm hlk hret e0
  have N0 := Fr.nil n0
  refine own_cast (own_ef_own_law m u1 u2 u3) ?_
  refine own_by (g' := (mkF m 3 #[iv u1, iv u2, iv u3, .unset, .unset, .unset, .unset, .unset, .unset] [(.int (u1 &&& (3 : Int32)))])) (fun t k => XS.iloadN X0.here hx rfl (hb hby at_0) rfl (XS.iconst X0.here hx rfl (hb hby at_1) (XS.iand X0.here hx rfl (hb hby at_2) rfl k))) ?_
  rcases own_m4 u1 with q101 | q101 | q101 | q101
  ·
    rw [q101]
    refine own_by (g' := (mkF m 11 #[iv u1, iv u2, iv u3, iv (0 : Int32), .unset, .unset, .unset, .unset, .unset] [(.int ((u2 &&& (3 : Int32)) % (1 : Int32)))])) (fun t k => XS.istoreN X0.here hx rfl (hb hby at_3) rfl (l' := #[iv u1, iv u2, iv u3, iv (0 : Int32), .unset, .unset, .unset, .unset, .unset]) rfl (XS.iloadN X0.here hx rfl (hb hby at_4) rfl (XS.iconst X0.here hx rfl (hb hby at_5) (XS.iand X0.here hx rfl (hb hby at_6) rfl (XS.iloadN X0.here hx rfl (hb hby at_7) rfl (XS.iconst X0.here hx rfl (hb hby at_8) (XS.iadd X0.here hx rfl (hb hby at_9) rfl (iremM X0 hx rfl (hb hby at_10) rfl (by decide) k)))))))) ?_
    rcases own_r1 u2 with q102
    ·
      rw [q102]
      refine own_by (g' := (mkF m 16 #[iv u1, iv u2, iv u3, iv (0 : Int32), iv (0 : Int32), .unset, .unset, .unset, .unset] [(.int (u3 &&& (1 : Int32)))])) (fun t k => XS.istore X0.here hx rfl (hb hby at_11) rfl (l' := #[iv u1, iv u2, iv u3, iv (0 : Int32), iv (0 : Int32), .unset, .unset, .unset, .unset]) rfl (XS.iloadN X0.here hx rfl (hb hby at_13) rfl (XS.iconst X0.here hx rfl (hb hby at_14) (XS.iand X0.here hx rfl (hb hby at_15) rfl k)))) ?_
      by_cases hc103 : (u3 &&& (1 : Int32)) = (0 : Int32)
      ·
        refine own_by (g' := (mkF m 26 #[iv u1, iv u2, iv u3, iv (0 : Int32), iv (0 : Int32), iv (0 : Int32), .unset, .unset, .unset] [])) (fun t k => XS.ifYes X0.here hx rfl (pc0 := 16) (pc' := 23) rfl (hb hby at_16) rfl ((if0 _ _).trans (teq hc103).1) (by decide) (by decide) (XS.iconst X0.here hx rfl (hb hby at_23) (XS.istore X0.here hx rfl (hb hby at_24) rfl (l' := #[iv u1, iv u2, iv u3, iv (0 : Int32), iv (0 : Int32), iv (0 : Int32), .unset, .unset, .unset]) rfl k))) ?_
        obtain ⟨T104, h104, X104, e104, E104, A104, D104, U104, st104⟩ := newO X0 hx hZ hown (hw _ (List.mem_of_getElem? (i := 0) rfl)) (hw _ (List.mem_of_getElem? (i := 1) rfl)) (hw _ (List.mem_of_getElem? (i := 2) rfl)) e0 (g := (mkF m 26 #[iv u1, iv u2, iv u3, iv (0 : Int32), iv (0 : Int32), iv (0 : Int32), .unset, .unset, .unset] [])) rfl (hb hby at_26) (by decide) (by decide)
        obtain ⟨b104, g104⟩ : ∃ z, z = h0.size := ⟨_, rfl⟩
        rw [← g104] at A104 D104 U104 st104
        have sz_b104 : h0.size ≤ b104 := Nat.le_trans (Nat.le_refl _) (Nat.le_of_eq g104.symm)
        have g_b104 : n0 ≤ b104 := Nat.le_trans Z0 sz_b104
        have f105 : Fld Z h104 b104 "com/example/purlin/purlin/framework/ServiceUse" "prototypes" "Ljava/util/Map;" .null := D104 (Or.inr (hw _ (List.mem_of_getElem? (i := 32) rfl))) (ty := (.object "java/util/Map")) (by decide)
        have f106 : Fld Z h104 b104 "com/example/purlin/purlin/framework/ServiceUse" "count" "I" (.int (0 : Int32)) := D104 (Or.inl (hw _ (List.mem_of_getElem? (i := 46) rfl))) (ty := .int) (by decide)
        have f107 : Fld Z h104 b104 "com/example/purlin/purlin/framework/ServiceUse" "object" "Ljava/lang/Object;" .null := D104 (Or.inl (hw _ (List.mem_of_getElem? (i := 53) rfl))) (ty := (.object "java/lang/Object")) (by decide)
        refine own_by (g' := (mkF m 29 #[iv u1, iv u2, iv u3, iv (0 : Int32), iv (0 : Int32), iv (0 : Int32), .unset, .unset, .unset] [(.ref b104)])) st104 ?_
        refine own_by (g' := (mkF m 30 #[iv u1, iv u2, iv u3, iv (0 : Int32), iv (0 : Int32), iv (0 : Int32), .unset, .unset, .unset] [(.ref b104), (.ref b104)])) (fun t k => XS.dup X104.here hx rfl (hb hby at_29) rfl rfl k) ?_
        refine own_callI X104 hx hZ hown rfl (hw _ (List.mem_of_getElem? (i := 3) rfl)) (hw _ (List.mem_of_getElem? (i := 4) rfl)) (hw _ (List.mem_of_getElem? (i := 2) rfl)) (hw _ (List.mem_of_getElem? (i := 5) rfl)) (by decide) (a := b104) (own_si l Z a0 hw [] (b104) h104 n0 (Nat.le_trans Z0 E104.1) A104 f105 f107 f106 g_b104) 1 (by decide) (by decide) (by decide) (by decide) e104 (g := (mkF m 30 #[iv u1, iv u2, iv u3, iv (0 : Int32), iv (0 : Int32), iv (0 : Int32), .unset, .unset, .unset] [(.ref b104), (.ref b104)])) rfl (by rw [hml]; rfl) (argsL := []) (rest := [(.ref b104)]) (lenOf own_pd0 rfl) rfl (by show 2 * 0 + _ ≤ _; exact Nat.le_of_eq rfl) (hb hby at_30) ?_
        intro v108 T108 L108 X108 q108
        obtain ⟨bm108, bt108, kt108, rfl, N108q, K108, f109, f110, f111, f112, f113, f114, f115, f116, f117, f118, f119, f120⟩ := q108
        have N108 := Fr.app N0 N108q
        show own_Goes p e below s _ _ _ T108 (mkF m 33 #[iv u1, iv u2, iv u3, iv (0 : Int32), iv (0 : Int32), iv (0 : Int32), .unset, .unset, .unset] [(.ref b104)])
        refine own_by (g' := (mkF m 36 #[iv u1, iv u2, iv u3, iv (0 : Int32), iv (0 : Int32), iv (0 : Int32), rv b104, .unset, .unset] [(.int u3)])) (fun t k => XS.astore X108.here hx rfl (hb hby at_33) rfl rfl (l' := #[iv u1, iv u2, iv u3, iv (0 : Int32), iv (0 : Int32), iv (0 : Int32), rv b104, .unset, .unset]) rfl (XS.iloadN X108.here hx rfl (hb hby at_35) rfl k)) ?_
        have f121 := ((O0.ext E104).keep K108 (allS g_b104 all0))
        refine own_callS X108 hx hZ hown (hw _ (List.mem_of_getElem? (i := 33) rfl)) (hw _ (List.mem_of_getElem? (i := 34) rfl)) (hw _ (List.mem_of_getElem? (i := 35) rfl)) (hw _ (List.mem_of_getElem? (i := 36) rfl)) (by decide) (own_valueOf l Z a0 hw [] (u3) (zc) T108.heap n0 (Nat.le_trans Z0 (Nat.le_trans E104.1 K108.1)) f121 S_high S_cache (by first | assumption | decide)) 0 (by decide) (by decide) (by decide) (by decide) rfl (g := (mkF m 36 #[iv u1, iv u2, iv u3, iv (0 : Int32), iv (0 : Int32), iv (0 : Int32), rv b104, .unset, .unset] [(.int u3)])) rfl (by rw [hml]; rfl) (argsL := [(.int u3)]) (rest := []) (lenOf own_pd12 rfl) rfl (by show 2 * 0 + _ ≤ _; exact Nat.le_of_eq rfl) (hb hby at_36) ?_
        intro v122 T122 L122 X122 q122
        obtain ⟨bo122, rfl, N122q, K122, f123⟩ := q122
        have N122 := Fr.app N108 N122q
        show own_Goes p e below s _ _ _ T122 (mkF m 39 #[iv u1, iv u2, iv u3, iv (0 : Int32), iv (0 : Int32), iv (0 : Int32), rv b104, .unset, .unset] [(.ref bo122)])
        refine own_by (g' := (mkF m 66 #[iv u1, iv u2, iv u3, iv (0 : Int32), iv (0 : Int32), iv (0 : Int32), rv b104, rv bo122, .unset] [(.int (0 : Int32))])) (fun t k => XS.astore X122.here hx rfl (hb hby at_39) rfl rfl (l' := #[iv u1, iv u2, iv u3, iv (0 : Int32), iv (0 : Int32), iv (0 : Int32), rv b104, rv bo122, .unset]) rfl (XS.iloadN X122.here hx rfl (hb hby at_41) rfl (XS.iconst X122.here hx rfl (hb hby at_42) (XS.icmpYes X122.here hx rfl (pc0 := 43) (pc' := 53) rfl (hb hby at_43) rfl (tlt (by decide : (0 : Int32) < (1 : Int32))).1 (by decide) (by decide) (XS.iloadN X122.here hx rfl (hb hby at_53) rfl (XS.iconst X122.here hx rfl (hb hby at_54) (XS.icmpYes X122.here hx rfl (pc0 := 55) (pc' := 65) rfl (hb hby at_55) rfl (tlt (by decide : (0 : Int32) < (2 : Int32))).1 (by decide) (by decide) (XS.iloadN X122.here hx rfl (hb hby at_65) rfl k)))))))) ?_
        refine own_by (g' := (mkF m 101 #[iv u1, iv u2, iv u3, iv (0 : Int32), iv (0 : Int32), iv (0 : Int32), rv b104, rv bo122, .unset] [])) (fun t k => XS.iconst X122.here hx rfl (hb hby at_66) (XS.icmpYes X122.here hx rfl (pc0 := 67) (pc' := 77) rfl (hb hby at_67) rfl (tlt (by decide : (0 : Int32) < (3 : Int32))).1 (by decide) (by decide) (XS.iload X122.here hx rfl (hb hby at_77) rfl (XS.iconst X122.here hx rfl (hb hby at_79) (XS.icmpYes X122.here hx rfl (pc0 := 80) (pc' := 89) rfl (hb hby at_80) rfl (tlt (by decide : (0 : Int32) < (1 : Int32))).1 (by decide) (by decide) (XS.iload X122.here hx rfl (hb hby at_89) rfl (XS.iconst X122.here hx rfl (hb hby at_91) (XS.icmpYes X122.here hx rfl (pc0 := 92) (pc' := 101) rfl (hb hby at_92) rfl (tlt (by decide : (0 : Int32) < (2 : Int32))).1 (by decide) (by decide) k)))))))) ?_
        refine own_by (g' := (mkF m 130 #[iv u1, iv u2, iv u3, iv (0 : Int32), iv (0 : Int32), iv (0 : Int32), rv b104, rv bo122, .unset] [(.int (0 : Int32))])) (fun t k => XS.iload X122.here hx rfl (hb hby at_101) rfl (XS.iconst X122.here hx rfl (hb hby at_103) (XS.icmpYes X122.here hx rfl (pc0 := 104) (pc' := 113) rfl (hb hby at_104) rfl (tlt (by decide : (0 : Int32) < (3 : Int32))).1 (by decide) (by decide) (XS.iload X122.here hx rfl (hb hby at_113) rfl (XS.ifYes X122.here hx rfl (pc0 := 115) (pc' := 124) rfl (hb hby at_115) rfl ((if0 _ _).trans (teq (by decide : (0 : Int32) = (0 : Int32))).1) (by decide) (by decide) (XS.iload X122.here hx rfl (hb hby at_124) rfl (XS.ifNo X122.here hx rfl (hb hby at_126) rfl ((if0 _ _).trans (teq (by decide : (0 : Int32) = (0 : Int32))).2) (XS.iloadN X122.here hx rfl (hb hby at_129) rfl k)))))))) ?_
        refine own_by (g' := (mkF m 145 #[iv u1, iv u2, iv u3, iv (0 : Int32), iv (0 : Int32), iv (0 : Int32), rv b104, rv bo122, iv (0 : Int32)] [(.ref b104)])) (fun t k => XS.iload X122.here hx rfl (hb hby at_130) rfl (XS.isub X122.here hx rfl (hb hby at_132) rfl (XS.ifYes X122.here hx rfl (pc0 := 133) (pc' := 140) rfl (hb hby at_133) rfl ((if0 _ _).trans (flt (by decide : ¬ ((0 : Int32) < (0 : Int32)))).2.2.2) (by decide) (by decide) (XS.iconst X122.here hx rfl (hb hby at_140) (XS.istore X122.here hx rfl (hb hby at_141) rfl (l' := #[iv u1, iv u2, iv u3, iv (0 : Int32), iv (0 : Int32), iv (0 : Int32), rv b104, rv bo122, iv (0 : Int32)]) rfl (XS.aload X122.here hx rfl (hb hby at_143) rfl rfl k)))))) ?_
        have f124 := (f112.keep K122 nin0)
        have f125 := (f109.keep K122)
        refine own_callV X122 hx hZ hown (hw _ (List.mem_of_getElem? (i := 40) rfl)) (hw _ (List.mem_of_getElem? (i := 41) rfl)) (notFace_of_selects (args := #[]) (mvT hZ (hw _ (List.mem_of_getElem? (i := 43) rfl)))) (hw _ (List.mem_of_getElem? (i := 43) rfl)) (hw _ (List.mem_of_getElem? (i := 42) rfl)) (hw _ (List.mem_of_getElem? (i := 44) rfl)) (hw _ (List.mem_of_getElem? (i := 2) rfl)) (by decide) (a := b104) f125 (own_ic0 l Z a0 hw [] (b104) ((0 : Int32)) T122.heap n0 (Nat.le_trans Z0 (Nat.le_trans (Nat.le_trans E104.1 K108.1) K122.1)) f124 (by first | assumption | decide)) 0 (by decide) (by decide) (by decide) (by decide) rfl (g := (mkF m 145 #[iv u1, iv u2, iv u3, iv (0 : Int32), iv (0 : Int32), iv (0 : Int32), rv b104, rv bo122, iv (0 : Int32)] [(.ref b104)])) rfl (by rw [hml]; rfl) (argsL := []) (rest := []) (lenOf own_pd13 rfl) rfl (by show 2 * 0 + _ ≤ _; exact Nat.le_of_eq rfl) (hb hby at_145) ?_
        intro v126 T126 L126 X126 q126
        obtain ⟨rfl, N126q, e126⟩ := q126
        have N126 := Fr.app N122 N126q
        show own_Goes p e below s _ _ _ T126 (mkF m 148 #[iv u1, iv u2, iv u3, iv (0 : Int32), iv (0 : Int32), iv (0 : Int32), rv b104, rv bo122, iv (0 : Int32)] [(.int (0 : Int32))])
        refine own_by (g' := (mkF m 158 #[iv u1, iv u2, iv u3, iv (0 : Int32), iv (0 : Int32), iv (0 : Int32), rv b104, rv bo122, iv (0 : Int32)] [(.int (1 : Int32))])) (fun t k => XS.iload X126.here hx rfl (hb hby at_148) rfl (XS.icmpNo X126.here hx rfl (hb hby at_150) rfl (teq (by decide : (0 : Int32) = (0 : Int32))).2 (XS.iconst X126.here hx rfl (hb hby at_153) (XS.goto X126.here hx rfl (pc0 := 154) (pc' := 158) rfl (hb hby at_154) (by decide) (by decide) k)))) ?_
        refine own_retN X126 hx hlk hret (t := .boolean) (by simp) (hb hby at_158) (by decide) (by decide) ?_
        rw [e126]
        exact ⟨rfl, N126, ((((Keep.refl h0 []).ext E104).trans K108 (allS (Or.inr sz_b104) all0)).trans K122 all0)⟩
      ·
        refine own_by (g' := (mkF m 26 #[iv u1, iv u2, iv u3, iv (0 : Int32), iv (0 : Int32), iv (1 : Int32), .unset, .unset, .unset] [])) (fun t k => XS.ifNo X0.here hx rfl (hb hby at_16) rfl ((if0 _ _).trans (feq hc103).1) (XS.iconst X0.here hx rfl (hb hby at_19) (XS.goto X0.here hx rfl (pc0 := 20) (pc' := 24) rfl (hb hby at_20) (by decide) (by decide) (XS.istore X0.here hx rfl (hb hby at_24) rfl (l' := #[iv u1, iv u2, iv u3, iv (0 : Int32), iv (0 : Int32), iv (1 : Int32), .unset, .unset, .unset]) rfl k)))) ?_
        obtain ⟨T127, h127, X127, e127, E127, A127, D127, U127, st127⟩ := newO X0 hx hZ hown (hw _ (List.mem_of_getElem? (i := 0) rfl)) (hw _ (List.mem_of_getElem? (i := 1) rfl)) (hw _ (List.mem_of_getElem? (i := 2) rfl)) e0 (g := (mkF m 26 #[iv u1, iv u2, iv u3, iv (0 : Int32), iv (0 : Int32), iv (1 : Int32), .unset, .unset, .unset] [])) rfl (hb hby at_26) (by decide) (by decide)
        obtain ⟨b127, g127⟩ : ∃ z, z = h0.size := ⟨_, rfl⟩
        rw [← g127] at A127 D127 U127 st127
        have sz_b127 : h0.size ≤ b127 := Nat.le_trans (Nat.le_refl _) (Nat.le_of_eq g127.symm)
        have g_b127 : n0 ≤ b127 := Nat.le_trans Z0 sz_b127
        have f128 : Fld Z h127 b127 "com/example/purlin/purlin/framework/ServiceUse" "prototypes" "Ljava/util/Map;" .null := D127 (Or.inr (hw _ (List.mem_of_getElem? (i := 32) rfl))) (ty := (.object "java/util/Map")) (by decide)
        have f129 : Fld Z h127 b127 "com/example/purlin/purlin/framework/ServiceUse" "count" "I" (.int (0 : Int32)) := D127 (Or.inl (hw _ (List.mem_of_getElem? (i := 46) rfl))) (ty := .int) (by decide)
        have f130 : Fld Z h127 b127 "com/example/purlin/purlin/framework/ServiceUse" "object" "Ljava/lang/Object;" .null := D127 (Or.inl (hw _ (List.mem_of_getElem? (i := 53) rfl))) (ty := (.object "java/lang/Object")) (by decide)
        refine own_by (g' := (mkF m 29 #[iv u1, iv u2, iv u3, iv (0 : Int32), iv (0 : Int32), iv (1 : Int32), .unset, .unset, .unset] [(.ref b127)])) st127 ?_
        refine own_by (g' := (mkF m 30 #[iv u1, iv u2, iv u3, iv (0 : Int32), iv (0 : Int32), iv (1 : Int32), .unset, .unset, .unset] [(.ref b127), (.ref b127)])) (fun t k => XS.dup X127.here hx rfl (hb hby at_29) rfl rfl k) ?_
        refine own_callI X127 hx hZ hown rfl (hw _ (List.mem_of_getElem? (i := 3) rfl)) (hw _ (List.mem_of_getElem? (i := 4) rfl)) (hw _ (List.mem_of_getElem? (i := 2) rfl)) (hw _ (List.mem_of_getElem? (i := 5) rfl)) (by decide) (a := b127) (own_si l Z a0 hw [] (b127) h127 n0 (Nat.le_trans Z0 E127.1) A127 f128 f130 f129 g_b127) 1 (by decide) (by decide) (by decide) (by decide) e127 (g := (mkF m 30 #[iv u1, iv u2, iv u3, iv (0 : Int32), iv (0 : Int32), iv (1 : Int32), .unset, .unset, .unset] [(.ref b127), (.ref b127)])) rfl (by rw [hml]; rfl) (argsL := []) (rest := [(.ref b127)]) (lenOf own_pd0 rfl) rfl (by show 2 * 0 + _ ≤ _; exact Nat.le_of_eq rfl) (hb hby at_30) ?_
        intro v131 T131 L131 X131 q131
        obtain ⟨bm131, bt131, kt131, rfl, N131q, K131, f132, f133, f134, f135, f136, f137, f138, f139, f140, f141, f142, f143⟩ := q131
        have N131 := Fr.app N0 N131q
        show own_Goes p e below s _ _ _ T131 (mkF m 33 #[iv u1, iv u2, iv u3, iv (0 : Int32), iv (0 : Int32), iv (1 : Int32), .unset, .unset, .unset] [(.ref b127)])
        refine own_by (g' := (mkF m 36 #[iv u1, iv u2, iv u3, iv (0 : Int32), iv (0 : Int32), iv (1 : Int32), rv b127, .unset, .unset] [(.int u3)])) (fun t k => XS.astore X131.here hx rfl (hb hby at_33) rfl rfl (l' := #[iv u1, iv u2, iv u3, iv (0 : Int32), iv (0 : Int32), iv (1 : Int32), rv b127, .unset, .unset]) rfl (XS.iloadN X131.here hx rfl (hb hby at_35) rfl k)) ?_
        have f144 := ((O0.ext E127).keep K131 (allS g_b127 all0))
        refine own_callS X131 hx hZ hown (hw _ (List.mem_of_getElem? (i := 33) rfl)) (hw _ (List.mem_of_getElem? (i := 34) rfl)) (hw _ (List.mem_of_getElem? (i := 35) rfl)) (hw _ (List.mem_of_getElem? (i := 36) rfl)) (by decide) (own_valueOf l Z a0 hw [] (u3) (zc) T131.heap n0 (Nat.le_trans Z0 (Nat.le_trans E127.1 K131.1)) f144 S_high S_cache (by first | assumption | decide)) 0 (by decide) (by decide) (by decide) (by decide) rfl (g := (mkF m 36 #[iv u1, iv u2, iv u3, iv (0 : Int32), iv (0 : Int32), iv (1 : Int32), rv b127, .unset, .unset] [(.int u3)])) rfl (by rw [hml]; rfl) (argsL := [(.int u3)]) (rest := []) (lenOf own_pd12 rfl) rfl (by show 2 * 0 + _ ≤ _; exact Nat.le_of_eq rfl) (hb hby at_36) ?_
        intro v145 T145 L145 X145 q145
        obtain ⟨bo145, rfl, N145q, K145, f146⟩ := q145
        have N145 := Fr.app N131 N145q
        show own_Goes p e below s _ _ _ T145 (mkF m 39 #[iv u1, iv u2, iv u3, iv (0 : Int32), iv (0 : Int32), iv (1 : Int32), rv b127, .unset, .unset] [(.ref bo145)])
        refine own_by (g' := (mkF m 66 #[iv u1, iv u2, iv u3, iv (0 : Int32), iv (0 : Int32), iv (1 : Int32), rv b127, rv bo145, .unset] [(.int (0 : Int32))])) (fun t k => XS.astore X145.here hx rfl (hb hby at_39) rfl rfl (l' := #[iv u1, iv u2, iv u3, iv (0 : Int32), iv (0 : Int32), iv (1 : Int32), rv b127, rv bo145, .unset]) rfl (XS.iloadN X145.here hx rfl (hb hby at_41) rfl (XS.iconst X145.here hx rfl (hb hby at_42) (XS.icmpYes X145.here hx rfl (pc0 := 43) (pc' := 53) rfl (hb hby at_43) rfl (tlt (by decide : (0 : Int32) < (1 : Int32))).1 (by decide) (by decide) (XS.iloadN X145.here hx rfl (hb hby at_53) rfl (XS.iconst X145.here hx rfl (hb hby at_54) (XS.icmpYes X145.here hx rfl (pc0 := 55) (pc' := 65) rfl (hb hby at_55) rfl (tlt (by decide : (0 : Int32) < (2 : Int32))).1 (by decide) (by decide) (XS.iloadN X145.here hx rfl (hb hby at_65) rfl k)))))))) ?_
        refine own_by (g' := (mkF m 101 #[iv u1, iv u2, iv u3, iv (0 : Int32), iv (0 : Int32), iv (1 : Int32), rv b127, rv bo145, .unset] [])) (fun t k => XS.iconst X145.here hx rfl (hb hby at_66) (XS.icmpYes X145.here hx rfl (pc0 := 67) (pc' := 77) rfl (hb hby at_67) rfl (tlt (by decide : (0 : Int32) < (3 : Int32))).1 (by decide) (by decide) (XS.iload X145.here hx rfl (hb hby at_77) rfl (XS.iconst X145.here hx rfl (hb hby at_79) (XS.icmpYes X145.here hx rfl (pc0 := 80) (pc' := 89) rfl (hb hby at_80) rfl (tlt (by decide : (0 : Int32) < (1 : Int32))).1 (by decide) (by decide) (XS.iload X145.here hx rfl (hb hby at_89) rfl (XS.iconst X145.here hx rfl (hb hby at_91) (XS.icmpYes X145.here hx rfl (pc0 := 92) (pc' := 101) rfl (hb hby at_92) rfl (tlt (by decide : (0 : Int32) < (2 : Int32))).1 (by decide) (by decide) k)))))))) ?_
        refine own_by (g' := (mkF m 120 #[iv u1, iv u2, iv u3, iv (0 : Int32), iv (0 : Int32), iv (1 : Int32), rv b127, rv bo145, .unset] [(.ref b127)])) (fun t k => XS.iload X145.here hx rfl (hb hby at_101) rfl (XS.iconst X145.here hx rfl (hb hby at_103) (XS.icmpYes X145.here hx rfl (pc0 := 104) (pc' := 113) rfl (hb hby at_104) rfl (tlt (by decide : (0 : Int32) < (3 : Int32))).1 (by decide) (by decide) (XS.iload X145.here hx rfl (hb hby at_113) rfl (XS.ifNo X145.here hx rfl (hb hby at_115) rfl ((if0 _ _).trans (feq (by decide : ¬ ((1 : Int32) = (0 : Int32)))).1) (XS.aload X145.here hx rfl (hb hby at_118) rfl rfl k)))))) ?_
        have f147 := (f132.keep K145)
        have f148 := (f133.keep K145 nin0)
        have f149 := (f134.keep K145 nin0)
        have f150 := (f135.keep K145 nin0)
        have f151 := (f137.keep K145)
        have f152 := (f138.keep K145 nin0)
        have f153 := (f139.keep K145 nin0)
        have f154 := (f140.keep K145 nin0)
        have f155 := (f142.keep K145 nin0)
        have f156 := (f143.keep K145 nin0)
        have f157 := (f144.keep K145 all0)
        have f158 := (((Yd.ext E127).keep K131 (ninS (Nat.ne_of_lt (Nat.lt_of_lt_of_le (Nat.lt_of_lt_of_le Yd.lt (Nat.le_refl _)) (Nat.le_of_eq g127.symm))) nin0)).keep K145 nin0)
        refine own_callV X145 hx hZ hown (hw _ (List.mem_of_getElem? (i := 54) rfl)) (hw _ (List.mem_of_getElem? (i := 55) rfl)) (notFace_of_selects (args := #[]) (mvT hZ (hw _ (List.mem_of_getElem? (i := 57) rfl)))) (hw _ (List.mem_of_getElem? (i := 57) rfl)) (hw _ (List.mem_of_getElem? (i := 56) rfl)) (hw _ (List.mem_of_getElem? (i := 58) rfl)) (hw _ (List.mem_of_getElem? (i := 2) rfl)) (by decide) (a := b127) f147 (own_clear0 l Z a0 hw [] (b127) (bm131) (bt131) (kt131) (zd) ((0 : Int32)) (.null) T145.heap n0 (Nat.le_trans Z0 (Nat.le_trans (Nat.le_trans E127.1 K131.1) K145.1)) f147 f148 f149 f150 g_b127 rfl (by first | assumption | decide) f151 f152 f153 f154 f155 f156 (Nat.le_trans (Nat.le_trans Z0 E127.1) f136) (Nat.le_trans (Nat.le_trans Z0 E127.1) f141) f157 S_dflt f158) 0 (by decide) (by decide) (by decide) (by decide) rfl (g := (mkF m 120 #[iv u1, iv u2, iv u3, iv (0 : Int32), iv (0 : Int32), iv (1 : Int32), rv b127, rv bo145, .unset] [(.ref b127)])) rfl (by rw [hml]; rfl) (argsL := []) (rest := []) (lenOf own_pd14 rfl) rfl (by show 2 * 0 + _ ≤ _; exact Nat.le_of_eq rfl) (hb hby at_120) ?_
        intro v159 T159 L159 X159 q159
        obtain ⟨bl159, rfl, N159q, K159, f160, f161⟩ := q159
        have N159 := Fr.app N145 N159q
        show own_Goes p e below s _ _ _ T159 (mkF m 123 #[iv u1, iv u2, iv u3, iv (0 : Int32), iv (0 : Int32), iv (1 : Int32), rv b127, rv bo145, .unset] [(.ref bl159)])
        refine own_by (g' := (mkF m 145 #[iv u1, iv u2, iv u3, iv (0 : Int32), iv (0 : Int32), iv (1 : Int32), rv b127, rv bo145, iv (0 : Int32)] [(.ref b127)])) (fun t k => XS.pop X159.here hx rfl (hb hby at_123) rfl rfl (XS.iload X159.here hx rfl (hb hby at_124) rfl (XS.ifYes X159.here hx rfl (pc0 := 126) (pc' := 140) rfl (hb hby at_126) rfl ((if0 _ _).trans (feq (by decide : ¬ ((1 : Int32) = (0 : Int32)))).2) (by decide) (by decide) (XS.iconst X159.here hx rfl (hb hby at_140) (XS.istore X159.here hx rfl (hb hby at_141) rfl (l' := #[iv u1, iv u2, iv u3, iv (0 : Int32), iv (0 : Int32), iv (1 : Int32), rv b127, rv bo145, iv (0 : Int32)]) rfl (XS.aload X159.here hx rfl (hb hby at_143) rfl rfl k)))))) ?_
        refine own_callV X159 hx hZ hown (hw _ (List.mem_of_getElem? (i := 40) rfl)) (hw _ (List.mem_of_getElem? (i := 41) rfl)) (notFace_of_selects (args := #[]) (mvT hZ (hw _ (List.mem_of_getElem? (i := 43) rfl)))) (hw _ (List.mem_of_getElem? (i := 43) rfl)) (hw _ (List.mem_of_getElem? (i := 42) rfl)) (hw _ (List.mem_of_getElem? (i := 44) rfl)) (hw _ (List.mem_of_getElem? (i := 2) rfl)) (by decide) (a := b127) f160 (own_ic0 l Z a0 hw [] (b127) ((0 : Int32)) T159.heap n0 (Nat.le_trans Z0 (Nat.le_trans (Nat.le_trans (Nat.le_trans E127.1 K131.1) K145.1) K159.1)) f161 (by first | assumption | decide)) 0 (by decide) (by decide) (by decide) (by decide) rfl (g := (mkF m 145 #[iv u1, iv u2, iv u3, iv (0 : Int32), iv (0 : Int32), iv (1 : Int32), rv b127, rv bo145, iv (0 : Int32)] [(.ref b127)])) rfl (by rw [hml]; rfl) (argsL := []) (rest := []) (lenOf own_pd13 rfl) rfl (by show 2 * 0 + _ ≤ _; exact Nat.le_of_eq rfl) (hb hby at_145) ?_
        intro v162 T162 L162 X162 q162
        obtain ⟨rfl, N162q, e162⟩ := q162
        have N162 := Fr.app N159 N162q
        show own_Goes p e below s _ _ _ T162 (mkF m 148 #[iv u1, iv u2, iv u3, iv (0 : Int32), iv (0 : Int32), iv (1 : Int32), rv b127, rv bo145, iv (0 : Int32)] [(.int (0 : Int32))])
        refine own_by (g' := (mkF m 158 #[iv u1, iv u2, iv u3, iv (0 : Int32), iv (0 : Int32), iv (1 : Int32), rv b127, rv bo145, iv (0 : Int32)] [(.int (1 : Int32))])) (fun t k => XS.iload X162.here hx rfl (hb hby at_148) rfl (XS.icmpNo X162.here hx rfl (hb hby at_150) rfl (teq (by decide : (0 : Int32) = (0 : Int32))).2 (XS.iconst X162.here hx rfl (hb hby at_153) (XS.goto X162.here hx rfl (pc0 := 154) (pc' := 158) rfl (hb hby at_154) (by decide) (by decide) k)))) ?_
        refine own_retN X162 hx hlk hret (t := .boolean) (by simp) (hb hby at_158) (by decide) (by decide) ?_
        rw [e162]
        exact ⟨rfl, N162, (((((Keep.refl h0 []).ext E127).trans K131 (allS (Or.inr sz_b127) all0)).trans K145 all0).trans K159 (allS (Or.inr sz_b127) (allS (Or.inr (Nat.le_trans E127.1 f136)) (allS (Or.inr (Nat.le_trans E127.1 f141)) all0))))⟩
  ·
    rw [q101]
    refine own_by (g' := (mkF m 11 #[iv u1, iv u2, iv u3, iv (1 : Int32), .unset, .unset, .unset, .unset, .unset] [(.int ((u2 &&& (3 : Int32)) % (2 : Int32)))])) (fun t k => XS.istoreN X0.here hx rfl (hb hby at_3) rfl (l' := #[iv u1, iv u2, iv u3, iv (1 : Int32), .unset, .unset, .unset, .unset, .unset]) rfl (XS.iloadN X0.here hx rfl (hb hby at_4) rfl (XS.iconst X0.here hx rfl (hb hby at_5) (XS.iand X0.here hx rfl (hb hby at_6) rfl (XS.iloadN X0.here hx rfl (hb hby at_7) rfl (XS.iconst X0.here hx rfl (hb hby at_8) (XS.iadd X0.here hx rfl (hb hby at_9) rfl (iremM X0 hx rfl (hb hby at_10) rfl (by decide) k)))))))) ?_
    rcases own_r2 u2 with q163 | q163
    ·
      rw [q163]
      refine own_by (g' := (mkF m 16 #[iv u1, iv u2, iv u3, iv (1 : Int32), iv (0 : Int32), .unset, .unset, .unset, .unset] [(.int (u3 &&& (1 : Int32)))])) (fun t k => XS.istore X0.here hx rfl (hb hby at_11) rfl (l' := #[iv u1, iv u2, iv u3, iv (1 : Int32), iv (0 : Int32), .unset, .unset, .unset, .unset]) rfl (XS.iloadN X0.here hx rfl (hb hby at_13) rfl (XS.iconst X0.here hx rfl (hb hby at_14) (XS.iand X0.here hx rfl (hb hby at_15) rfl k)))) ?_
      by_cases hc164 : (u3 &&& (1 : Int32)) = (0 : Int32)
      ·
        refine own_by (g' := (mkF m 26 #[iv u1, iv u2, iv u3, iv (1 : Int32), iv (0 : Int32), iv (0 : Int32), .unset, .unset, .unset] [])) (fun t k => XS.ifYes X0.here hx rfl (pc0 := 16) (pc' := 23) rfl (hb hby at_16) rfl ((if0 _ _).trans (teq hc164).1) (by decide) (by decide) (XS.iconst X0.here hx rfl (hb hby at_23) (XS.istore X0.here hx rfl (hb hby at_24) rfl (l' := #[iv u1, iv u2, iv u3, iv (1 : Int32), iv (0 : Int32), iv (0 : Int32), .unset, .unset, .unset]) rfl k))) ?_
        obtain ⟨T165, h165, X165, e165, E165, A165, D165, U165, st165⟩ := newO X0 hx hZ hown (hw _ (List.mem_of_getElem? (i := 0) rfl)) (hw _ (List.mem_of_getElem? (i := 1) rfl)) (hw _ (List.mem_of_getElem? (i := 2) rfl)) e0 (g := (mkF m 26 #[iv u1, iv u2, iv u3, iv (1 : Int32), iv (0 : Int32), iv (0 : Int32), .unset, .unset, .unset] [])) rfl (hb hby at_26) (by decide) (by decide)
        obtain ⟨b165, g165⟩ : ∃ z, z = h0.size := ⟨_, rfl⟩
        rw [← g165] at A165 D165 U165 st165
        have sz_b165 : h0.size ≤ b165 := Nat.le_trans (Nat.le_refl _) (Nat.le_of_eq g165.symm)
        have g_b165 : n0 ≤ b165 := Nat.le_trans Z0 sz_b165
        have f166 : Fld Z h165 b165 "com/example/purlin/purlin/framework/ServiceUse" "prototypes" "Ljava/util/Map;" .null := D165 (Or.inr (hw _ (List.mem_of_getElem? (i := 32) rfl))) (ty := (.object "java/util/Map")) (by decide)
        have f167 : Fld Z h165 b165 "com/example/purlin/purlin/framework/ServiceUse" "count" "I" (.int (0 : Int32)) := D165 (Or.inl (hw _ (List.mem_of_getElem? (i := 46) rfl))) (ty := .int) (by decide)
        have f168 : Fld Z h165 b165 "com/example/purlin/purlin/framework/ServiceUse" "object" "Ljava/lang/Object;" .null := D165 (Or.inl (hw _ (List.mem_of_getElem? (i := 53) rfl))) (ty := (.object "java/lang/Object")) (by decide)
        refine own_by (g' := (mkF m 29 #[iv u1, iv u2, iv u3, iv (1 : Int32), iv (0 : Int32), iv (0 : Int32), .unset, .unset, .unset] [(.ref b165)])) st165 ?_
        refine own_by (g' := (mkF m 30 #[iv u1, iv u2, iv u3, iv (1 : Int32), iv (0 : Int32), iv (0 : Int32), .unset, .unset, .unset] [(.ref b165), (.ref b165)])) (fun t k => XS.dup X165.here hx rfl (hb hby at_29) rfl rfl k) ?_
        refine own_callI X165 hx hZ hown rfl (hw _ (List.mem_of_getElem? (i := 3) rfl)) (hw _ (List.mem_of_getElem? (i := 4) rfl)) (hw _ (List.mem_of_getElem? (i := 2) rfl)) (hw _ (List.mem_of_getElem? (i := 5) rfl)) (by decide) (a := b165) (own_si l Z a0 hw [] (b165) h165 n0 (Nat.le_trans Z0 E165.1) A165 f166 f168 f167 g_b165) 1 (by decide) (by decide) (by decide) (by decide) e165 (g := (mkF m 30 #[iv u1, iv u2, iv u3, iv (1 : Int32), iv (0 : Int32), iv (0 : Int32), .unset, .unset, .unset] [(.ref b165), (.ref b165)])) rfl (by rw [hml]; rfl) (argsL := []) (rest := [(.ref b165)]) (lenOf own_pd0 rfl) rfl (by show 2 * 0 + _ ≤ _; exact Nat.le_of_eq rfl) (hb hby at_30) ?_
        intro v169 T169 L169 X169 q169
        obtain ⟨bm169, bt169, kt169, rfl, N169q, K169, f170, f171, f172, f173, f174, f175, f176, f177, f178, f179, f180, f181⟩ := q169
        have N169 := Fr.app N0 N169q
        show own_Goes p e below s _ _ _ T169 (mkF m 33 #[iv u1, iv u2, iv u3, iv (1 : Int32), iv (0 : Int32), iv (0 : Int32), .unset, .unset, .unset] [(.ref b165)])
        refine own_by (g' := (mkF m 36 #[iv u1, iv u2, iv u3, iv (1 : Int32), iv (0 : Int32), iv (0 : Int32), rv b165, .unset, .unset] [(.int u3)])) (fun t k => XS.astore X169.here hx rfl (hb hby at_33) rfl rfl (l' := #[iv u1, iv u2, iv u3, iv (1 : Int32), iv (0 : Int32), iv (0 : Int32), rv b165, .unset, .unset]) rfl (XS.iloadN X169.here hx rfl (hb hby at_35) rfl k)) ?_
        have f182 := ((O0.ext E165).keep K169 (allS g_b165 all0))
        refine own_callS X169 hx hZ hown (hw _ (List.mem_of_getElem? (i := 33) rfl)) (hw _ (List.mem_of_getElem? (i := 34) rfl)) (hw _ (List.mem_of_getElem? (i := 35) rfl)) (hw _ (List.mem_of_getElem? (i := 36) rfl)) (by decide) (own_valueOf l Z a0 hw [] (u3) (zc) T169.heap n0 (Nat.le_trans Z0 (Nat.le_trans E165.1 K169.1)) f182 S_high S_cache (by first | assumption | decide)) 0 (by decide) (by decide) (by decide) (by decide) rfl (g := (mkF m 36 #[iv u1, iv u2, iv u3, iv (1 : Int32), iv (0 : Int32), iv (0 : Int32), rv b165, .unset, .unset] [(.int u3)])) rfl (by rw [hml]; rfl) (argsL := [(.int u3)]) (rest := []) (lenOf own_pd12 rfl) rfl (by show 2 * 0 + _ ≤ _; exact Nat.le_of_eq rfl) (hb hby at_36) ?_
        intro v183 T183 L183 X183 q183
        obtain ⟨bo183, rfl, N183q, K183, f184⟩ := q183
        have N183 := Fr.app N169 N183q
        show own_Goes p e below s _ _ _ T183 (mkF m 39 #[iv u1, iv u2, iv u3, iv (1 : Int32), iv (0 : Int32), iv (0 : Int32), rv b165, .unset, .unset] [(.ref bo183)])
        refine own_by (g' := (mkF m 50 #[iv u1, iv u2, iv u3, iv (1 : Int32), iv (0 : Int32), iv (0 : Int32), rv b165, rv bo183, .unset] [(.ref bo183), (.ref b165)])) (fun t k => XS.astore X183.here hx rfl (hb hby at_39) rfl rfl (l' := #[iv u1, iv u2, iv u3, iv (1 : Int32), iv (0 : Int32), iv (0 : Int32), rv b165, rv bo183, .unset]) rfl (XS.iloadN X183.here hx rfl (hb hby at_41) rfl (XS.iconst X183.here hx rfl (hb hby at_42) (XS.icmpNo X183.here hx rfl (hb hby at_43) rfl (flt (by decide : ¬ ((1 : Int32) < (1 : Int32)))).1 (XS.aload X183.here hx rfl (hb hby at_46) rfl rfl (XS.aload X183.here hx rfl (hb hby at_48) rfl rfl k)))))) ?_
        have f185 := (f170.keep K183)
        have f186 := (f171.keep K183 nin0)
        have f187 := (f172.keep K183 nin0)
        have f188 := (f173.keep K183 nin0)
        refine own_callV X183 hx hZ hown (hw _ (List.mem_of_getElem? (i := 47) rfl)) (hw _ (List.mem_of_getElem? (i := 48) rfl)) (notFace_of_selects (args := #[]) (mvT hZ (hw _ (List.mem_of_getElem? (i := 50) rfl)))) (hw _ (List.mem_of_getElem? (i := 50) rfl)) (hw _ (List.mem_of_getElem? (i := 49) rfl)) (hw _ (List.mem_of_getElem? (i := 51) rfl)) (hw _ (List.mem_of_getElem? (i := 2) rfl)) (by decide) (a := b165) f185 (own_use0 l Z a0 hw [] (b165) ((.ref bo183)) (.null) ((0 : Int32)) (bm169) T183.heap n0 (Nat.le_trans Z0 (Nat.le_trans (Nat.le_trans E165.1 K169.1) K183.1)) f185 f186 f187 f188 rfl g_b165 rfl (by first | assumption | decide)) 0 (by decide) (by decide) (by decide) (by decide) rfl (g := (mkF m 50 #[iv u1, iv u2, iv u3, iv (1 : Int32), iv (0 : Int32), iv (0 : Int32), rv b165, rv bo183, .unset] [(.ref bo183), (.ref b165)])) rfl (by rw [hml]; rfl) (argsL := [(.ref bo183)]) (rest := []) (lenOf own_pd15 rfl) rfl (by show 2 * 0 + _ ≤ _; exact Nat.le_of_eq rfl) (hb hby at_50) ?_
        intro v189 T189 L189 X189 q189
        obtain ⟨rfl, N189q, K189, f190, f191, f192, f193⟩ := q189
        have N189 := Fr.app N183 N189q
        have f194 : Fld Z T189.heap b165 "com/example/purlin/purlin/framework/ServiceUse" "count" "I" (.int (1 : Int32)) := f192
        show own_Goes p e below s _ _ _ T189 (mkF m 53 #[iv u1, iv u2, iv u3, iv (1 : Int32), iv (0 : Int32), iv (0 : Int32), rv b165, rv bo183, .unset] [])
        refine own_by (g' := (mkF m 80 #[iv u1, iv u2, iv u3, iv (1 : Int32), iv (0 : Int32), iv (0 : Int32), rv b165, rv bo183, .unset] [(.int (1 : Int32)), (.int (0 : Int32))])) (fun t k => XS.iloadN X189.here hx rfl (hb hby at_53) rfl (XS.iconst X189.here hx rfl (hb hby at_54) (XS.icmpYes X189.here hx rfl (pc0 := 55) (pc' := 65) rfl (hb hby at_55) rfl (tlt (by decide : (1 : Int32) < (2 : Int32))).1 (by decide) (by decide) (XS.iloadN X189.here hx rfl (hb hby at_65) rfl (XS.iconst X189.here hx rfl (hb hby at_66) (XS.icmpYes X189.here hx rfl (pc0 := 67) (pc' := 77) rfl (hb hby at_67) rfl (tlt (by decide : (1 : Int32) < (3 : Int32))).1 (by decide) (by decide) (XS.iload X189.here hx rfl (hb hby at_77) rfl (XS.iconst X189.here hx rfl (hb hby at_79) k)))))))) ?_
        refine own_by (g' := (mkF m 115 #[iv u1, iv u2, iv u3, iv (1 : Int32), iv (0 : Int32), iv (0 : Int32), rv b165, rv bo183, .unset] [(.int (0 : Int32))])) (fun t k => XS.icmpYes X189.here hx rfl (pc0 := 80) (pc' := 89) rfl (hb hby at_80) rfl (tlt (by decide : (0 : Int32) < (1 : Int32))).1 (by decide) (by decide) (XS.iload X189.here hx rfl (hb hby at_89) rfl (XS.iconst X189.here hx rfl (hb hby at_91) (XS.icmpYes X189.here hx rfl (pc0 := 92) (pc' := 101) rfl (hb hby at_92) rfl (tlt (by decide : (0 : Int32) < (2 : Int32))).1 (by decide) (by decide) (XS.iload X189.here hx rfl (hb hby at_101) rfl (XS.iconst X189.here hx rfl (hb hby at_103) (XS.icmpYes X189.here hx rfl (pc0 := 104) (pc' := 113) rfl (hb hby at_104) rfl (tlt (by decide : (0 : Int32) < (3 : Int32))).1 (by decide) (by decide) (XS.iload X189.here hx rfl (hb hby at_113) rfl k)))))))) ?_
        refine own_by (g' := (mkF m 137 #[iv u1, iv u2, iv u3, iv (1 : Int32), iv (0 : Int32), iv (0 : Int32), rv b165, rv bo183, .unset] [(.int (1 : Int32))])) (fun t k => XS.ifYes X189.here hx rfl (pc0 := 115) (pc' := 124) rfl (hb hby at_115) rfl ((if0 _ _).trans (teq (by decide : (0 : Int32) = (0 : Int32))).1) (by decide) (by decide) (XS.iload X189.here hx rfl (hb hby at_124) rfl (XS.ifNo X189.here hx rfl (hb hby at_126) rfl ((if0 _ _).trans (teq (by decide : (0 : Int32) = (0 : Int32))).2) (XS.iloadN X189.here hx rfl (hb hby at_129) rfl (XS.iload X189.here hx rfl (hb hby at_130) rfl (XS.isub X189.here hx rfl (hb hby at_132) rfl (XS.ifNo X189.here hx rfl (hb hby at_133) rfl ((if0 _ _).trans (tlt (by decide : (0 : Int32) < (1 : Int32))).2.2.2) (XS.iconst X189.here hx rfl (hb hby at_136) k)))))))) ?_
        refine own_by (g' := (mkF m 145 #[iv u1, iv u2, iv u3, iv (1 : Int32), iv (0 : Int32), iv (0 : Int32), rv b165, rv bo183, iv (1 : Int32)] [(.ref b165)])) (fun t k => XS.goto X189.here hx rfl (pc0 := 137) (pc' := 141) rfl (hb hby at_137) (by decide) (by decide) (XS.istore X189.here hx rfl (hb hby at_141) rfl (l' := #[iv u1, iv u2, iv u3, iv (1 : Int32), iv (0 : Int32), iv (0 : Int32), rv b165, rv bo183, iv (1 : Int32)]) rfl (XS.aload X189.here hx rfl (hb hby at_143) rfl rfl k))) ?_
        refine own_callV X189 hx hZ hown (hw _ (List.mem_of_getElem? (i := 40) rfl)) (hw _ (List.mem_of_getElem? (i := 41) rfl)) (notFace_of_selects (args := #[]) (mvT hZ (hw _ (List.mem_of_getElem? (i := 43) rfl)))) (hw _ (List.mem_of_getElem? (i := 43) rfl)) (hw _ (List.mem_of_getElem? (i := 42) rfl)) (hw _ (List.mem_of_getElem? (i := 44) rfl)) (hw _ (List.mem_of_getElem? (i := 2) rfl)) (by decide) (a := b165) f190 (own_ic1 l Z a0 hw [] (b165) ((1 : Int32)) T189.heap n0 (Nat.le_trans Z0 (Nat.le_trans (Nat.le_trans (Nat.le_trans E165.1 K169.1) K183.1) K189.1)) f194 (by first | assumption | decide)) 0 (by decide) (by decide) (by decide) (by decide) rfl (g := (mkF m 145 #[iv u1, iv u2, iv u3, iv (1 : Int32), iv (0 : Int32), iv (0 : Int32), rv b165, rv bo183, iv (1 : Int32)] [(.ref b165)])) rfl (by rw [hml]; rfl) (argsL := []) (rest := []) (lenOf own_pd13 rfl) rfl (by show 2 * 0 + _ ≤ _; exact Nat.le_of_eq rfl) (hb hby at_145) ?_
        intro v195 T195 L195 X195 q195
        obtain ⟨rfl, N195q, e195⟩ := q195
        have N195 := Fr.app N189 N195q
        show own_Goes p e below s _ _ _ T195 (mkF m 148 #[iv u1, iv u2, iv u3, iv (1 : Int32), iv (0 : Int32), iv (0 : Int32), rv b165, rv bo183, iv (1 : Int32)] [(.int (1 : Int32))])
        refine own_by (g' := (mkF m 158 #[iv u1, iv u2, iv u3, iv (1 : Int32), iv (0 : Int32), iv (0 : Int32), rv b165, rv bo183, iv (1 : Int32)] [(.int (1 : Int32))])) (fun t k => XS.iload X195.here hx rfl (hb hby at_148) rfl (XS.icmpNo X195.here hx rfl (hb hby at_150) rfl (teq (by decide : (1 : Int32) = (1 : Int32))).2 (XS.iconst X195.here hx rfl (hb hby at_153) (XS.goto X195.here hx rfl (pc0 := 154) (pc' := 158) rfl (hb hby at_154) (by decide) (by decide) k)))) ?_
        refine own_retN X195 hx hlk hret (t := .boolean) (by simp) (hb hby at_158) (by decide) (by decide) ?_
        rw [e195]
        exact ⟨rfl, N195, (((((Keep.refl h0 []).ext E165).trans K169 (allS (Or.inr sz_b165) all0)).trans K183 all0).trans K189 (allS (Or.inr sz_b165) all0))⟩
      ·
        refine own_by (g' := (mkF m 26 #[iv u1, iv u2, iv u3, iv (1 : Int32), iv (0 : Int32), iv (1 : Int32), .unset, .unset, .unset] [])) (fun t k => XS.ifNo X0.here hx rfl (hb hby at_16) rfl ((if0 _ _).trans (feq hc164).1) (XS.iconst X0.here hx rfl (hb hby at_19) (XS.goto X0.here hx rfl (pc0 := 20) (pc' := 24) rfl (hb hby at_20) (by decide) (by decide) (XS.istore X0.here hx rfl (hb hby at_24) rfl (l' := #[iv u1, iv u2, iv u3, iv (1 : Int32), iv (0 : Int32), iv (1 : Int32), .unset, .unset, .unset]) rfl k)))) ?_
        obtain ⟨T196, h196, X196, e196, E196, A196, D196, U196, st196⟩ := newO X0 hx hZ hown (hw _ (List.mem_of_getElem? (i := 0) rfl)) (hw _ (List.mem_of_getElem? (i := 1) rfl)) (hw _ (List.mem_of_getElem? (i := 2) rfl)) e0 (g := (mkF m 26 #[iv u1, iv u2, iv u3, iv (1 : Int32), iv (0 : Int32), iv (1 : Int32), .unset, .unset, .unset] [])) rfl (hb hby at_26) (by decide) (by decide)
        obtain ⟨b196, g196⟩ : ∃ z, z = h0.size := ⟨_, rfl⟩
        rw [← g196] at A196 D196 U196 st196
        have sz_b196 : h0.size ≤ b196 := Nat.le_trans (Nat.le_refl _) (Nat.le_of_eq g196.symm)
        have g_b196 : n0 ≤ b196 := Nat.le_trans Z0 sz_b196
        have f197 : Fld Z h196 b196 "com/example/purlin/purlin/framework/ServiceUse" "prototypes" "Ljava/util/Map;" .null := D196 (Or.inr (hw _ (List.mem_of_getElem? (i := 32) rfl))) (ty := (.object "java/util/Map")) (by decide)
        have f198 : Fld Z h196 b196 "com/example/purlin/purlin/framework/ServiceUse" "count" "I" (.int (0 : Int32)) := D196 (Or.inl (hw _ (List.mem_of_getElem? (i := 46) rfl))) (ty := .int) (by decide)
        have f199 : Fld Z h196 b196 "com/example/purlin/purlin/framework/ServiceUse" "object" "Ljava/lang/Object;" .null := D196 (Or.inl (hw _ (List.mem_of_getElem? (i := 53) rfl))) (ty := (.object "java/lang/Object")) (by decide)
        refine own_by (g' := (mkF m 29 #[iv u1, iv u2, iv u3, iv (1 : Int32), iv (0 : Int32), iv (1 : Int32), .unset, .unset, .unset] [(.ref b196)])) st196 ?_
        refine own_by (g' := (mkF m 30 #[iv u1, iv u2, iv u3, iv (1 : Int32), iv (0 : Int32), iv (1 : Int32), .unset, .unset, .unset] [(.ref b196), (.ref b196)])) (fun t k => XS.dup X196.here hx rfl (hb hby at_29) rfl rfl k) ?_
        refine own_callI X196 hx hZ hown rfl (hw _ (List.mem_of_getElem? (i := 3) rfl)) (hw _ (List.mem_of_getElem? (i := 4) rfl)) (hw _ (List.mem_of_getElem? (i := 2) rfl)) (hw _ (List.mem_of_getElem? (i := 5) rfl)) (by decide) (a := b196) (own_si l Z a0 hw [] (b196) h196 n0 (Nat.le_trans Z0 E196.1) A196 f197 f199 f198 g_b196) 1 (by decide) (by decide) (by decide) (by decide) e196 (g := (mkF m 30 #[iv u1, iv u2, iv u3, iv (1 : Int32), iv (0 : Int32), iv (1 : Int32), .unset, .unset, .unset] [(.ref b196), (.ref b196)])) rfl (by rw [hml]; rfl) (argsL := []) (rest := [(.ref b196)]) (lenOf own_pd0 rfl) rfl (by show 2 * 0 + _ ≤ _; exact Nat.le_of_eq rfl) (hb hby at_30) ?_
        intro v200 T200 L200 X200 q200
        obtain ⟨bm200, bt200, kt200, rfl, N200q, K200, f201, f202, f203, f204, f205, f206, f207, f208, f209, f210, f211, f212⟩ := q200
        have N200 := Fr.app N0 N200q
        show own_Goes p e below s _ _ _ T200 (mkF m 33 #[iv u1, iv u2, iv u3, iv (1 : Int32), iv (0 : Int32), iv (1 : Int32), .unset, .unset, .unset] [(.ref b196)])
        refine own_by (g' := (mkF m 36 #[iv u1, iv u2, iv u3, iv (1 : Int32), iv (0 : Int32), iv (1 : Int32), rv b196, .unset, .unset] [(.int u3)])) (fun t k => XS.astore X200.here hx rfl (hb hby at_33) rfl rfl (l' := #[iv u1, iv u2, iv u3, iv (1 : Int32), iv (0 : Int32), iv (1 : Int32), rv b196, .unset, .unset]) rfl (XS.iloadN X200.here hx rfl (hb hby at_35) rfl k)) ?_
        have f213 := ((O0.ext E196).keep K200 (allS g_b196 all0))
        refine own_callS X200 hx hZ hown (hw _ (List.mem_of_getElem? (i := 33) rfl)) (hw _ (List.mem_of_getElem? (i := 34) rfl)) (hw _ (List.mem_of_getElem? (i := 35) rfl)) (hw _ (List.mem_of_getElem? (i := 36) rfl)) (by decide) (own_valueOf l Z a0 hw [] (u3) (zc) T200.heap n0 (Nat.le_trans Z0 (Nat.le_trans E196.1 K200.1)) f213 S_high S_cache (by first | assumption | decide)) 0 (by decide) (by decide) (by decide) (by decide) rfl (g := (mkF m 36 #[iv u1, iv u2, iv u3, iv (1 : Int32), iv (0 : Int32), iv (1 : Int32), rv b196, .unset, .unset] [(.int u3)])) rfl (by rw [hml]; rfl) (argsL := [(.int u3)]) (rest := []) (lenOf own_pd12 rfl) rfl (by show 2 * 0 + _ ≤ _; exact Nat.le_of_eq rfl) (hb hby at_36) ?_
        intro v214 T214 L214 X214 q214
        obtain ⟨bo214, rfl, N214q, K214, f215⟩ := q214
        have N214 := Fr.app N200 N214q
        show own_Goes p e below s _ _ _ T214 (mkF m 39 #[iv u1, iv u2, iv u3, iv (1 : Int32), iv (0 : Int32), iv (1 : Int32), rv b196, .unset, .unset] [(.ref bo214)])
        refine own_by (g' := (mkF m 50 #[iv u1, iv u2, iv u3, iv (1 : Int32), iv (0 : Int32), iv (1 : Int32), rv b196, rv bo214, .unset] [(.ref bo214), (.ref b196)])) (fun t k => XS.astore X214.here hx rfl (hb hby at_39) rfl rfl (l' := #[iv u1, iv u2, iv u3, iv (1 : Int32), iv (0 : Int32), iv (1 : Int32), rv b196, rv bo214, .unset]) rfl (XS.iloadN X214.here hx rfl (hb hby at_41) rfl (XS.iconst X214.here hx rfl (hb hby at_42) (XS.icmpNo X214.here hx rfl (hb hby at_43) rfl (flt (by decide : ¬ ((1 : Int32) < (1 : Int32)))).1 (XS.aload X214.here hx rfl (hb hby at_46) rfl rfl (XS.aload X214.here hx rfl (hb hby at_48) rfl rfl k)))))) ?_
        have f216 := (f201.keep K214)
        have f217 := (f202.keep K214 nin0)
        have f218 := (f203.keep K214 nin0)
        have f219 := (f204.keep K214 nin0)
        refine own_callV X214 hx hZ hown (hw _ (List.mem_of_getElem? (i := 47) rfl)) (hw _ (List.mem_of_getElem? (i := 48) rfl)) (notFace_of_selects (args := #[]) (mvT hZ (hw _ (List.mem_of_getElem? (i := 50) rfl)))) (hw _ (List.mem_of_getElem? (i := 50) rfl)) (hw _ (List.mem_of_getElem? (i := 49) rfl)) (hw _ (List.mem_of_getElem? (i := 51) rfl)) (hw _ (List.mem_of_getElem? (i := 2) rfl)) (by decide) (a := b196) f216 (own_use0 l Z a0 hw [] (b196) ((.ref bo214)) (.null) ((0 : Int32)) (bm200) T214.heap n0 (Nat.le_trans Z0 (Nat.le_trans (Nat.le_trans E196.1 K200.1) K214.1)) f216 f217 f218 f219 rfl g_b196 rfl (by first | assumption | decide)) 0 (by decide) (by decide) (by decide) (by decide) rfl (g := (mkF m 50 #[iv u1, iv u2, iv u3, iv (1 : Int32), iv (0 : Int32), iv (1 : Int32), rv b196, rv bo214, .unset] [(.ref bo214), (.ref b196)])) rfl (by rw [hml]; rfl) (argsL := [(.ref bo214)]) (rest := []) (lenOf own_pd15 rfl) rfl (by show 2 * 0 + _ ≤ _; exact Nat.le_of_eq rfl) (hb hby at_50) ?_
        intro v220 T220 L220 X220 q220
        obtain ⟨rfl, N220q, K220, f221, f222, f223, f224⟩ := q220
        have N220 := Fr.app N214 N220q
        have f225 : Fld Z T220.heap b196 "com/example/purlin/purlin/framework/ServiceUse" "count" "I" (.int (1 : Int32)) := f223
        show own_Goes p e below s _ _ _ T220 (mkF m 53 #[iv u1, iv u2, iv u3, iv (1 : Int32), iv (0 : Int32), iv (1 : Int32), rv b196, rv bo214, .unset] [])
        refine own_by (g' := (mkF m 80 #[iv u1, iv u2, iv u3, iv (1 : Int32), iv (0 : Int32), iv (1 : Int32), rv b196, rv bo214, .unset] [(.int (1 : Int32)), (.int (0 : Int32))])) (fun t k => XS.iloadN X220.here hx rfl (hb hby at_53) rfl (XS.iconst X220.here hx rfl (hb hby at_54) (XS.icmpYes X220.here hx rfl (pc0 := 55) (pc' := 65) rfl (hb hby at_55) rfl (tlt (by decide : (1 : Int32) < (2 : Int32))).1 (by decide) (by decide) (XS.iloadN X220.here hx rfl (hb hby at_65) rfl (XS.iconst X220.here hx rfl (hb hby at_66) (XS.icmpYes X220.here hx rfl (pc0 := 67) (pc' := 77) rfl (hb hby at_67) rfl (tlt (by decide : (1 : Int32) < (3 : Int32))).1 (by decide) (by decide) (XS.iload X220.here hx rfl (hb hby at_77) rfl (XS.iconst X220.here hx rfl (hb hby at_79) k)))))))) ?_
        refine own_by (g' := (mkF m 115 #[iv u1, iv u2, iv u3, iv (1 : Int32), iv (0 : Int32), iv (1 : Int32), rv b196, rv bo214, .unset] [(.int (1 : Int32))])) (fun t k => XS.icmpYes X220.here hx rfl (pc0 := 80) (pc' := 89) rfl (hb hby at_80) rfl (tlt (by decide : (0 : Int32) < (1 : Int32))).1 (by decide) (by decide) (XS.iload X220.here hx rfl (hb hby at_89) rfl (XS.iconst X220.here hx rfl (hb hby at_91) (XS.icmpYes X220.here hx rfl (pc0 := 92) (pc' := 101) rfl (hb hby at_92) rfl (tlt (by decide : (0 : Int32) < (2 : Int32))).1 (by decide) (by decide) (XS.iload X220.here hx rfl (hb hby at_101) rfl (XS.iconst X220.here hx rfl (hb hby at_103) (XS.icmpYes X220.here hx rfl (pc0 := 104) (pc' := 113) rfl (hb hby at_104) rfl (tlt (by decide : (0 : Int32) < (3 : Int32))).1 (by decide) (by decide) (XS.iload X220.here hx rfl (hb hby at_113) rfl k)))))))) ?_
        refine own_by (g' := (mkF m 120 #[iv u1, iv u2, iv u3, iv (1 : Int32), iv (0 : Int32), iv (1 : Int32), rv b196, rv bo214, .unset] [(.ref b196)])) (fun t k => XS.ifNo X220.here hx rfl (hb hby at_115) rfl ((if0 _ _).trans (feq (by decide : ¬ ((1 : Int32) = (0 : Int32)))).1) (XS.aload X220.here hx rfl (hb hby at_118) rfl rfl k)) ?_
        have f226 := (f215.keep K220)
        have f227 := ((f206.keep K214).keep K220)
        have f228 := ((f207.keep K214 nin0).keep K220 (ninS (Ne.symm (Nat.ne_of_lt (Nat.lt_of_lt_of_le (Nat.lt_of_lt_of_le A196.lt (Nat.le_refl _)) f205))) nin0))
        have f229 := ((f208.keep K214 nin0).keep K220 (ninS (Ne.symm (Nat.ne_of_lt (Nat.lt_of_lt_of_le (Nat.lt_of_lt_of_le A196.lt (Nat.le_refl _)) f205))) nin0))
        have f230 := ((f209.keep K214 nin0).keep K220 (ninS (Ne.symm (Nat.ne_of_lt (Nat.lt_of_lt_of_le (Nat.lt_of_lt_of_le A196.lt (Nat.le_refl _)) f205))) nin0))
        have f231 := ((f211.keep K214 nin0).keep K220 (ninS (Ne.symm (Nat.ne_of_lt (Nat.lt_of_lt_of_le (Nat.lt_of_lt_of_le A196.lt (Nat.le_refl _)) f205))) nin0))
        have f232 := ((f212.keep K214 nin0).keep K220 (ninS (Ne.symm (Nat.ne_of_lt (Nat.lt_of_lt_of_le (Nat.lt_of_lt_of_le A196.lt (Nat.le_refl _)) f210))) nin0))
        have f233 := ((f213.keep K214 all0).keep K220 (allS g_b196 all0))
        have f234 := ((((Yd.ext E196).keep K200 (ninS (Nat.ne_of_lt (Nat.lt_of_lt_of_le (Nat.lt_of_lt_of_le Yd.lt (Nat.le_refl _)) (Nat.le_of_eq g196.symm))) nin0)).keep K214 nin0).keep K220 (ninS (Nat.ne_of_lt (Nat.lt_of_lt_of_le (Nat.lt_of_lt_of_le Yd.lt (Nat.le_refl _)) (Nat.le_of_eq g196.symm))) nin0))
        refine own_callV X220 hx hZ hown (hw _ (List.mem_of_getElem? (i := 54) rfl)) (hw _ (List.mem_of_getElem? (i := 55) rfl)) (notFace_of_selects (args := #[]) (mvT hZ (hw _ (List.mem_of_getElem? (i := 57) rfl)))) (hw _ (List.mem_of_getElem? (i := 57) rfl)) (hw _ (List.mem_of_getElem? (i := 56) rfl)) (hw _ (List.mem_of_getElem? (i := 58) rfl)) (hw _ (List.mem_of_getElem? (i := 2) rfl)) (by decide) (a := b196) f221 (own_clear1 l Z a0 hw [] (b196) (bm200) (bt200) (kt200) (zd) ((1 : Int32)) (bo214) T220.heap n0 (Nat.le_trans Z0 (Nat.le_trans (Nat.le_trans (Nat.le_trans E196.1 K200.1) K214.1) K220.1)) f221 f224 f222 f225 g_b196 f226 (by first | assumption | decide) f227 f228 f229 f230 f231 f232 (Nat.le_trans (Nat.le_trans Z0 E196.1) f205) (Nat.le_trans (Nat.le_trans Z0 E196.1) f210) f233 S_dflt f234) 0 (by decide) (by decide) (by decide) (by decide) rfl (g := (mkF m 120 #[iv u1, iv u2, iv u3, iv (1 : Int32), iv (0 : Int32), iv (1 : Int32), rv b196, rv bo214, .unset] [(.ref b196)])) rfl (by rw [hml]; rfl) (argsL := []) (rest := []) (lenOf own_pd14 rfl) rfl (by show 2 * 0 + _ ≤ _; exact Nat.le_of_eq rfl) (hb hby at_120) ?_
        intro v235 T235 L235 X235 q235
        obtain ⟨bl235, rfl, N235q, K235, f236, f237⟩ := q235
        have N235 := Fr.app N220 N235q
        show own_Goes p e below s _ _ _ T235 (mkF m 123 #[iv u1, iv u2, iv u3, iv (1 : Int32), iv (0 : Int32), iv (1 : Int32), rv b196, rv bo214, .unset] [(.ref bl235)])
        refine own_by (g' := (mkF m 145 #[iv u1, iv u2, iv u3, iv (1 : Int32), iv (0 : Int32), iv (1 : Int32), rv b196, rv bo214, iv (0 : Int32)] [(.ref b196)])) (fun t k => XS.pop X235.here hx rfl (hb hby at_123) rfl rfl (XS.iload X235.here hx rfl (hb hby at_124) rfl (XS.ifYes X235.here hx rfl (pc0 := 126) (pc' := 140) rfl (hb hby at_126) rfl ((if0 _ _).trans (feq (by decide : ¬ ((1 : Int32) = (0 : Int32)))).2) (by decide) (by decide) (XS.iconst X235.here hx rfl (hb hby at_140) (XS.istore X235.here hx rfl (hb hby at_141) rfl (l' := #[iv u1, iv u2, iv u3, iv (1 : Int32), iv (0 : Int32), iv (1 : Int32), rv b196, rv bo214, iv (0 : Int32)]) rfl (XS.aload X235.here hx rfl (hb hby at_143) rfl rfl k)))))) ?_
        refine own_callV X235 hx hZ hown (hw _ (List.mem_of_getElem? (i := 40) rfl)) (hw _ (List.mem_of_getElem? (i := 41) rfl)) (notFace_of_selects (args := #[]) (mvT hZ (hw _ (List.mem_of_getElem? (i := 43) rfl)))) (hw _ (List.mem_of_getElem? (i := 43) rfl)) (hw _ (List.mem_of_getElem? (i := 42) rfl)) (hw _ (List.mem_of_getElem? (i := 44) rfl)) (hw _ (List.mem_of_getElem? (i := 2) rfl)) (by decide) (a := b196) f236 (own_ic0 l Z a0 hw [] (b196) ((0 : Int32)) T235.heap n0 (Nat.le_trans Z0 (Nat.le_trans (Nat.le_trans (Nat.le_trans (Nat.le_trans E196.1 K200.1) K214.1) K220.1) K235.1)) f237 (by first | assumption | decide)) 0 (by decide) (by decide) (by decide) (by decide) rfl (g := (mkF m 145 #[iv u1, iv u2, iv u3, iv (1 : Int32), iv (0 : Int32), iv (1 : Int32), rv b196, rv bo214, iv (0 : Int32)] [(.ref b196)])) rfl (by rw [hml]; rfl) (argsL := []) (rest := []) (lenOf own_pd13 rfl) rfl (by show 2 * 0 + _ ≤ _; exact Nat.le_of_eq rfl) (hb hby at_145) ?_
        intro v238 T238 L238 X238 q238
        obtain ⟨rfl, N238q, e238⟩ := q238
        have N238 := Fr.app N235 N238q
        show own_Goes p e below s _ _ _ T238 (mkF m 148 #[iv u1, iv u2, iv u3, iv (1 : Int32), iv (0 : Int32), iv (1 : Int32), rv b196, rv bo214, iv (0 : Int32)] [(.int (0 : Int32))])
        refine own_by (g' := (mkF m 158 #[iv u1, iv u2, iv u3, iv (1 : Int32), iv (0 : Int32), iv (1 : Int32), rv b196, rv bo214, iv (0 : Int32)] [(.int (1 : Int32))])) (fun t k => XS.iload X238.here hx rfl (hb hby at_148) rfl (XS.icmpNo X238.here hx rfl (hb hby at_150) rfl (teq (by decide : (0 : Int32) = (0 : Int32))).2 (XS.iconst X238.here hx rfl (hb hby at_153) (XS.goto X238.here hx rfl (pc0 := 154) (pc' := 158) rfl (hb hby at_154) (by decide) (by decide) k)))) ?_
        refine own_retN X238 hx hlk hret (t := .boolean) (by simp) (hb hby at_158) (by decide) (by decide) ?_
        rw [e238]
        exact ⟨rfl, N238, ((((((Keep.refl h0 []).ext E196).trans K200 (allS (Or.inr sz_b196) all0)).trans K214 all0).trans K220 (allS (Or.inr sz_b196) all0)).trans K235 (allS (Or.inr sz_b196) (allS (Or.inr (Nat.le_trans E196.1 f205)) (allS (Or.inr (Nat.le_trans E196.1 f210)) all0))))⟩
    ·
      rw [q163]
      refine own_by (g' := (mkF m 16 #[iv u1, iv u2, iv u3, iv (1 : Int32), iv (1 : Int32), .unset, .unset, .unset, .unset] [(.int (u3 &&& (1 : Int32)))])) (fun t k => XS.istore X0.here hx rfl (hb hby at_11) rfl (l' := #[iv u1, iv u2, iv u3, iv (1 : Int32), iv (1 : Int32), .unset, .unset, .unset, .unset]) rfl (XS.iloadN X0.here hx rfl (hb hby at_13) rfl (XS.iconst X0.here hx rfl (hb hby at_14) (XS.iand X0.here hx rfl (hb hby at_15) rfl k)))) ?_
      by_cases hc239 : (u3 &&& (1 : Int32)) = (0 : Int32)
      ·
        refine own_by (g' := (mkF m 26 #[iv u1, iv u2, iv u3, iv (1 : Int32), iv (1 : Int32), iv (0 : Int32), .unset, .unset, .unset] [])) (fun t k => XS.ifYes X0.here hx rfl (pc0 := 16) (pc' := 23) rfl (hb hby at_16) rfl ((if0 _ _).trans (teq hc239).1) (by decide) (by decide) (XS.iconst X0.here hx rfl (hb hby at_23) (XS.istore X0.here hx rfl (hb hby at_24) rfl (l' := #[iv u1, iv u2, iv u3, iv (1 : Int32), iv (1 : Int32), iv (0 : Int32), .unset, .unset, .unset]) rfl k))) ?_
        obtain ⟨T240, h240, X240, e240, E240, A240, D240, U240, st240⟩ := newO X0 hx hZ hown (hw _ (List.mem_of_getElem? (i := 0) rfl)) (hw _ (List.mem_of_getElem? (i := 1) rfl)) (hw _ (List.mem_of_getElem? (i := 2) rfl)) e0 (g := (mkF m 26 #[iv u1, iv u2, iv u3, iv (1 : Int32), iv (1 : Int32), iv (0 : Int32), .unset, .unset, .unset] [])) rfl (hb hby at_26) (by decide) (by decide)
        obtain ⟨b240, g240⟩ : ∃ z, z = h0.size := ⟨_, rfl⟩
        rw [← g240] at A240 D240 U240 st240
        have sz_b240 : h0.size ≤ b240 := Nat.le_trans (Nat.le_refl _) (Nat.le_of_eq g240.symm)
        have g_b240 : n0 ≤ b240 := Nat.le_trans Z0 sz_b240
        have f241 : Fld Z h240 b240 "com/example/purlin/purlin/framework/ServiceUse" "prototypes" "Ljava/util/Map;" .null := D240 (Or.inr (hw _ (List.mem_of_getElem? (i := 32) rfl))) (ty := (.object "java/util/Map")) (by decide)
        have f242 : Fld Z h240 b240 "com/example/purlin/purlin/framework/ServiceUse" "count" "I" (.int (0 : Int32)) := D240 (Or.inl (hw _ (List.mem_of_getElem? (i := 46) rfl))) (ty := .int) (by decide)
        have f243 : Fld Z h240 b240 "com/example/purlin/purlin/framework/ServiceUse" "object" "Ljava/lang/Object;" .null := D240 (Or.inl (hw _ (List.mem_of_getElem? (i := 53) rfl))) (ty := (.object "java/lang/Object")) (by decide)
        refine own_by (g' := (mkF m 29 #[iv u1, iv u2, iv u3, iv (1 : Int32), iv (1 : Int32), iv (0 : Int32), .unset, .unset, .unset] [(.ref b240)])) st240 ?_
        refine own_by (g' := (mkF m 30 #[iv u1, iv u2, iv u3, iv (1 : Int32), iv (1 : Int32), iv (0 : Int32), .unset, .unset, .unset] [(.ref b240), (.ref b240)])) (fun t k => XS.dup X240.here hx rfl (hb hby at_29) rfl rfl k) ?_
        refine own_callI X240 hx hZ hown rfl (hw _ (List.mem_of_getElem? (i := 3) rfl)) (hw _ (List.mem_of_getElem? (i := 4) rfl)) (hw _ (List.mem_of_getElem? (i := 2) rfl)) (hw _ (List.mem_of_getElem? (i := 5) rfl)) (by decide) (a := b240) (own_si l Z a0 hw [] (b240) h240 n0 (Nat.le_trans Z0 E240.1) A240 f241 f243 f242 g_b240) 1 (by decide) (by decide) (by decide) (by decide) e240 (g := (mkF m 30 #[iv u1, iv u2, iv u3, iv (1 : Int32), iv (1 : Int32), iv (0 : Int32), .unset, .unset, .unset] [(.ref b240), (.ref b240)])) rfl (by rw [hml]; rfl) (argsL := []) (rest := [(.ref b240)]) (lenOf own_pd0 rfl) rfl (by show 2 * 0 + _ ≤ _; exact Nat.le_of_eq rfl) (hb hby at_30) ?_
        intro v244 T244 L244 X244 q244
        obtain ⟨bm244, bt244, kt244, rfl, N244q, K244, f245, f246, f247, f248, f249, f250, f251, f252, f253, f254, f255, f256⟩ := q244
        have N244 := Fr.app N0 N244q
        show own_Goes p e below s _ _ _ T244 (mkF m 33 #[iv u1, iv u2, iv u3, iv (1 : Int32), iv (1 : Int32), iv (0 : Int32), .unset, .unset, .unset] [(.ref b240)])
        refine own_by (g' := (mkF m 36 #[iv u1, iv u2, iv u3, iv (1 : Int32), iv (1 : Int32), iv (0 : Int32), rv b240, .unset, .unset] [(.int u3)])) (fun t k => XS.astore X244.here hx rfl (hb hby at_33) rfl rfl (l' := #[iv u1, iv u2, iv u3, iv (1 : Int32), iv (1 : Int32), iv (0 : Int32), rv b240, .unset, .unset]) rfl (XS.iloadN X244.here hx rfl (hb hby at_35) rfl k)) ?_
        have f257 := ((O0.ext E240).keep K244 (allS g_b240 all0))
        refine own_callS X244 hx hZ hown (hw _ (List.mem_of_getElem? (i := 33) rfl)) (hw _ (List.mem_of_getElem? (i := 34) rfl)) (hw _ (List.mem_of_getElem? (i := 35) rfl)) (hw _ (List.mem_of_getElem? (i := 36) rfl)) (by decide) (own_valueOf l Z a0 hw [] (u3) (zc) T244.heap n0 (Nat.le_trans Z0 (Nat.le_trans E240.1 K244.1)) f257 S_high S_cache (by first | assumption | decide)) 0 (by decide) (by decide) (by decide) (by decide) rfl (g := (mkF m 36 #[iv u1, iv u2, iv u3, iv (1 : Int32), iv (1 : Int32), iv (0 : Int32), rv b240, .unset, .unset] [(.int u3)])) rfl (by rw [hml]; rfl) (argsL := [(.int u3)]) (rest := []) (lenOf own_pd12 rfl) rfl (by show 2 * 0 + _ ≤ _; exact Nat.le_of_eq rfl) (hb hby at_36) ?_
        intro v258 T258 L258 X258 q258
        obtain ⟨bo258, rfl, N258q, K258, f259⟩ := q258
        have N258 := Fr.app N244 N258q
        show own_Goes p e below s _ _ _ T258 (mkF m 39 #[iv u1, iv u2, iv u3, iv (1 : Int32), iv (1 : Int32), iv (0 : Int32), rv b240, .unset, .unset] [(.ref bo258)])
        refine own_by (g' := (mkF m 50 #[iv u1, iv u2, iv u3, iv (1 : Int32), iv (1 : Int32), iv (0 : Int32), rv b240, rv bo258, .unset] [(.ref bo258), (.ref b240)])) (fun t k => XS.astore X258.here hx rfl (hb hby at_39) rfl rfl (l' := #[iv u1, iv u2, iv u3, iv (1 : Int32), iv (1 : Int32), iv (0 : Int32), rv b240, rv bo258, .unset]) rfl (XS.iloadN X258.here hx rfl (hb hby at_41) rfl (XS.iconst X258.here hx rfl (hb hby at_42) (XS.icmpNo X258.here hx rfl (hb hby at_43) rfl (flt (by decide : ¬ ((1 : Int32) < (1 : Int32)))).1 (XS.aload X258.here hx rfl (hb hby at_46) rfl rfl (XS.aload X258.here hx rfl (hb hby at_48) rfl rfl k)))))) ?_
        have f260 := (f245.keep K258)
        have f261 := (f246.keep K258 nin0)
        have f262 := (f247.keep K258 nin0)
        have f263 := (f248.keep K258 nin0)
        refine own_callV X258 hx hZ hown (hw _ (List.mem_of_getElem? (i := 47) rfl)) (hw _ (List.mem_of_getElem? (i := 48) rfl)) (notFace_of_selects (args := #[]) (mvT hZ (hw _ (List.mem_of_getElem? (i := 50) rfl)))) (hw _ (List.mem_of_getElem? (i := 50) rfl)) (hw _ (List.mem_of_getElem? (i := 49) rfl)) (hw _ (List.mem_of_getElem? (i := 51) rfl)) (hw _ (List.mem_of_getElem? (i := 2) rfl)) (by decide) (a := b240) f260 (own_use0 l Z a0 hw [] (b240) ((.ref bo258)) (.null) ((0 : Int32)) (bm244) T258.heap n0 (Nat.le_trans Z0 (Nat.le_trans (Nat.le_trans E240.1 K244.1) K258.1)) f260 f261 f262 f263 rfl g_b240 rfl (by first | assumption | decide)) 0 (by decide) (by decide) (by decide) (by decide) rfl (g := (mkF m 50 #[iv u1, iv u2, iv u3, iv (1 : Int32), iv (1 : Int32), iv (0 : Int32), rv b240, rv bo258, .unset] [(.ref bo258), (.ref b240)])) rfl (by rw [hml]; rfl) (argsL := [(.ref bo258)]) (rest := []) (lenOf own_pd15 rfl) rfl (by show 2 * 0 + _ ≤ _; exact Nat.le_of_eq rfl) (hb hby at_50) ?_
        intro v264 T264 L264 X264 q264
        obtain ⟨rfl, N264q, K264, f265, f266, f267, f268⟩ := q264
        have N264 := Fr.app N258 N264q
        have f269 : Fld Z T264.heap b240 "com/example/purlin/purlin/framework/ServiceUse" "count" "I" (.int (1 : Int32)) := f267
        show own_Goes p e below s _ _ _ T264 (mkF m 53 #[iv u1, iv u2, iv u3, iv (1 : Int32), iv (1 : Int32), iv (0 : Int32), rv b240, rv bo258, .unset] [])
        refine own_by (g' := (mkF m 80 #[iv u1, iv u2, iv u3, iv (1 : Int32), iv (1 : Int32), iv (0 : Int32), rv b240, rv bo258, .unset] [(.int (1 : Int32)), (.int (1 : Int32))])) (fun t k => XS.iloadN X264.here hx rfl (hb hby at_53) rfl (XS.iconst X264.here hx rfl (hb hby at_54) (XS.icmpYes X264.here hx rfl (pc0 := 55) (pc' := 65) rfl (hb hby at_55) rfl (tlt (by decide : (1 : Int32) < (2 : Int32))).1 (by decide) (by decide) (XS.iloadN X264.here hx rfl (hb hby at_65) rfl (XS.iconst X264.here hx rfl (hb hby at_66) (XS.icmpYes X264.here hx rfl (pc0 := 67) (pc' := 77) rfl (hb hby at_67) rfl (tlt (by decide : (1 : Int32) < (3 : Int32))).1 (by decide) (by decide) (XS.iload X264.here hx rfl (hb hby at_77) rfl (XS.iconst X264.here hx rfl (hb hby at_79) k)))))))) ?_
        refine own_by (g' := (mkF m 85 #[iv u1, iv u2, iv u3, iv (1 : Int32), iv (1 : Int32), iv (0 : Int32), rv b240, rv bo258, .unset] [(.ref b240)])) (fun t k => XS.icmpNo X264.here hx rfl (hb hby at_80) rfl (flt (by decide : ¬ ((1 : Int32) < (1 : Int32)))).1 (XS.aload X264.here hx rfl (hb hby at_83) rfl rfl k)) ?_
        refine own_callV X264 hx hZ hown (hw _ (List.mem_of_getElem? (i := 204) rfl)) (hw _ (List.mem_of_getElem? (i := 205) rfl)) (notFace_of_selects (args := #[]) (mvT hZ (hw _ (List.mem_of_getElem? (i := 207) rfl)))) (hw _ (List.mem_of_getElem? (i := 207) rfl)) (hw _ (List.mem_of_getElem? (i := 206) rfl)) (hw _ (List.mem_of_getElem? (i := 208) rfl)) (hw _ (List.mem_of_getElem? (i := 2) rfl)) (by decide) (a := b240) f265 (own_un0 l Z a0 hw [] (b240) ((.ref bo258)) ((1 : Int32)) (bm244) T264.heap n0 (Nat.le_trans Z0 (Nat.le_trans (Nat.le_trans (Nat.le_trans E240.1 K244.1) K258.1) K264.1)) f265 f268 f266 f269 rfl g_b240 (by first | assumption | decide)) 0 (by decide) (by decide) (by decide) (by decide) rfl (g := (mkF m 85 #[iv u1, iv u2, iv u3, iv (1 : Int32), iv (1 : Int32), iv (0 : Int32), rv b240, rv bo258, .unset] [(.ref b240)])) rfl (by rw [hml]; rfl) (argsL := []) (rest := []) (lenOf own_pd16 rfl) rfl (by show 2 * 0 + _ ≤ _; exact Nat.le_of_eq rfl) (hb hby at_85) ?_
        intro v270 T270 L270 X270 q270
        obtain ⟨rfl, N270q, K270, f271, f272, f273, f274⟩ := q270
        have N270 := Fr.app N264 N270q
        have f275 : Fld Z T270.heap b240 "com/example/purlin/purlin/framework/ServiceUse" "count" "I" (.int (0 : Int32)) := f273
        show own_Goes p e below s _ _ _ T270 (mkF m 88 #[iv u1, iv u2, iv u3, iv (1 : Int32), iv (1 : Int32), iv (0 : Int32), rv b240, rv bo258, .unset] [(.ref bo258)])
        refine own_by (g' := (mkF m 115 #[iv u1, iv u2, iv u3, iv (1 : Int32), iv (1 : Int32), iv (0 : Int32), rv b240, rv bo258, .unset] [(.int (0 : Int32))])) (fun t k => XS.pop X270.here hx rfl (hb hby at_88) rfl rfl (XS.iload X270.here hx rfl (hb hby at_89) rfl (XS.iconst X270.here hx rfl (hb hby at_91) (XS.icmpYes X270.here hx rfl (pc0 := 92) (pc' := 101) rfl (hb hby at_92) rfl (tlt (by decide : (1 : Int32) < (2 : Int32))).1 (by decide) (by decide) (XS.iload X270.here hx rfl (hb hby at_101) rfl (XS.iconst X270.here hx rfl (hb hby at_103) (XS.icmpYes X270.here hx rfl (pc0 := 104) (pc' := 113) rfl (hb hby at_104) rfl (tlt (by decide : (1 : Int32) < (3 : Int32))).1 (by decide) (by decide) (XS.iload X270.here hx rfl (hb hby at_113) rfl k)))))))) ?_
        refine own_by (g' := (mkF m 141 #[iv u1, iv u2, iv u3, iv (1 : Int32), iv (1 : Int32), iv (0 : Int32), rv b240, rv bo258, .unset] [(.int (0 : Int32))])) (fun t k => XS.ifYes X270.here hx rfl (pc0 := 115) (pc' := 124) rfl (hb hby at_115) rfl ((if0 _ _).trans (teq (by decide : (0 : Int32) = (0 : Int32))).1) (by decide) (by decide) (XS.iload X270.here hx rfl (hb hby at_124) rfl (XS.ifNo X270.here hx rfl (hb hby at_126) rfl ((if0 _ _).trans (teq (by decide : (0 : Int32) = (0 : Int32))).2) (XS.iloadN X270.here hx rfl (hb hby at_129) rfl (XS.iload X270.here hx rfl (hb hby at_130) rfl (XS.isub X270.here hx rfl (hb hby at_132) rfl (XS.ifYes X270.here hx rfl (pc0 := 133) (pc' := 140) rfl (hb hby at_133) rfl ((if0 _ _).trans (flt (by decide : ¬ ((0 : Int32) < (0 : Int32)))).2.2.2) (by decide) (by decide) (XS.iconst X270.here hx rfl (hb hby at_140) k)))))))) ?_
        refine own_by (g' := (mkF m 145 #[iv u1, iv u2, iv u3, iv (1 : Int32), iv (1 : Int32), iv (0 : Int32), rv b240, rv bo258, iv (0 : Int32)] [(.ref b240)])) (fun t k => XS.istore X270.here hx rfl (hb hby at_141) rfl (l' := #[iv u1, iv u2, iv u3, iv (1 : Int32), iv (1 : Int32), iv (0 : Int32), rv b240, rv bo258, iv (0 : Int32)]) rfl (XS.aload X270.here hx rfl (hb hby at_143) rfl rfl k)) ?_
        refine own_callV X270 hx hZ hown (hw _ (List.mem_of_getElem? (i := 40) rfl)) (hw _ (List.mem_of_getElem? (i := 41) rfl)) (notFace_of_selects (args := #[]) (mvT hZ (hw _ (List.mem_of_getElem? (i := 43) rfl)))) (hw _ (List.mem_of_getElem? (i := 43) rfl)) (hw _ (List.mem_of_getElem? (i := 42) rfl)) (hw _ (List.mem_of_getElem? (i := 44) rfl)) (hw _ (List.mem_of_getElem? (i := 2) rfl)) (by decide) (a := b240) f271 (own_ic0 l Z a0 hw [] (b240) ((0 : Int32)) T270.heap n0 (Nat.le_trans Z0 (Nat.le_trans (Nat.le_trans (Nat.le_trans (Nat.le_trans E240.1 K244.1) K258.1) K264.1) K270.1)) f275 (by first | assumption | decide)) 0 (by decide) (by decide) (by decide) (by decide) rfl (g := (mkF m 145 #[iv u1, iv u2, iv u3, iv (1 : Int32), iv (1 : Int32), iv (0 : Int32), rv b240, rv bo258, iv (0 : Int32)] [(.ref b240)])) rfl (by rw [hml]; rfl) (argsL := []) (rest := []) (lenOf own_pd13 rfl) rfl (by show 2 * 0 + _ ≤ _; exact Nat.le_of_eq rfl) (hb hby at_145) ?_
        intro v276 T276 L276 X276 q276
        obtain ⟨rfl, N276q, e276⟩ := q276
        have N276 := Fr.app N270 N276q
        show own_Goes p e below s _ _ _ T276 (mkF m 148 #[iv u1, iv u2, iv u3, iv (1 : Int32), iv (1 : Int32), iv (0 : Int32), rv b240, rv bo258, iv (0 : Int32)] [(.int (0 : Int32))])
        refine own_by (g' := (mkF m 158 #[iv u1, iv u2, iv u3, iv (1 : Int32), iv (1 : Int32), iv (0 : Int32), rv b240, rv bo258, iv (0 : Int32)] [(.int (1 : Int32))])) (fun t k => XS.iload X276.here hx rfl (hb hby at_148) rfl (XS.icmpNo X276.here hx rfl (hb hby at_150) rfl (teq (by decide : (0 : Int32) = (0 : Int32))).2 (XS.iconst X276.here hx rfl (hb hby at_153) (XS.goto X276.here hx rfl (pc0 := 154) (pc' := 158) rfl (hb hby at_154) (by decide) (by decide) k)))) ?_
        refine own_retN X276 hx hlk hret (t := .boolean) (by simp) (hb hby at_158) (by decide) (by decide) ?_
        rw [e276]
        exact ⟨rfl, N276, ((((((Keep.refl h0 []).ext E240).trans K244 (allS (Or.inr sz_b240) all0)).trans K258 all0).trans K264 (allS (Or.inr sz_b240) all0)).trans K270 (allS (Or.inr sz_b240) all0))⟩
      ·
        refine own_by (g' := (mkF m 26 #[iv u1, iv u2, iv u3, iv (1 : Int32), iv (1 : Int32), iv (1 : Int32), .unset, .unset, .unset] [])) (fun t k => XS.ifNo X0.here hx rfl (hb hby at_16) rfl ((if0 _ _).trans (feq hc239).1) (XS.iconst X0.here hx rfl (hb hby at_19) (XS.goto X0.here hx rfl (pc0 := 20) (pc' := 24) rfl (hb hby at_20) (by decide) (by decide) (XS.istore X0.here hx rfl (hb hby at_24) rfl (l' := #[iv u1, iv u2, iv u3, iv (1 : Int32), iv (1 : Int32), iv (1 : Int32), .unset, .unset, .unset]) rfl k)))) ?_
        obtain ⟨T277, h277, X277, e277, E277, A277, D277, U277, st277⟩ := newO X0 hx hZ hown (hw _ (List.mem_of_getElem? (i := 0) rfl)) (hw _ (List.mem_of_getElem? (i := 1) rfl)) (hw _ (List.mem_of_getElem? (i := 2) rfl)) e0 (g := (mkF m 26 #[iv u1, iv u2, iv u3, iv (1 : Int32), iv (1 : Int32), iv (1 : Int32), .unset, .unset, .unset] [])) rfl (hb hby at_26) (by decide) (by decide)
        obtain ⟨b277, g277⟩ : ∃ z, z = h0.size := ⟨_, rfl⟩
        rw [← g277] at A277 D277 U277 st277
        have sz_b277 : h0.size ≤ b277 := Nat.le_trans (Nat.le_refl _) (Nat.le_of_eq g277.symm)
        have g_b277 : n0 ≤ b277 := Nat.le_trans Z0 sz_b277
        have f278 : Fld Z h277 b277 "com/example/purlin/purlin/framework/ServiceUse" "prototypes" "Ljava/util/Map;" .null := D277 (Or.inr (hw _ (List.mem_of_getElem? (i := 32) rfl))) (ty := (.object "java/util/Map")) (by decide)
        have f279 : Fld Z h277 b277 "com/example/purlin/purlin/framework/ServiceUse" "count" "I" (.int (0 : Int32)) := D277 (Or.inl (hw _ (List.mem_of_getElem? (i := 46) rfl))) (ty := .int) (by decide)
        have f280 : Fld Z h277 b277 "com/example/purlin/purlin/framework/ServiceUse" "object" "Ljava/lang/Object;" .null := D277 (Or.inl (hw _ (List.mem_of_getElem? (i := 53) rfl))) (ty := (.object "java/lang/Object")) (by decide)
        refine own_by (g' := (mkF m 29 #[iv u1, iv u2, iv u3, iv (1 : Int32), iv (1 : Int32), iv (1 : Int32), .unset, .unset, .unset] [(.ref b277)])) st277 ?_
        refine own_by (g' := (mkF m 30 #[iv u1, iv u2, iv u3, iv (1 : Int32), iv (1 : Int32), iv (1 : Int32), .unset, .unset, .unset] [(.ref b277), (.ref b277)])) (fun t k => XS.dup X277.here hx rfl (hb hby at_29) rfl rfl k) ?_
        refine own_callI X277 hx hZ hown rfl (hw _ (List.mem_of_getElem? (i := 3) rfl)) (hw _ (List.mem_of_getElem? (i := 4) rfl)) (hw _ (List.mem_of_getElem? (i := 2) rfl)) (hw _ (List.mem_of_getElem? (i := 5) rfl)) (by decide) (a := b277) (own_si l Z a0 hw [] (b277) h277 n0 (Nat.le_trans Z0 E277.1) A277 f278 f280 f279 g_b277) 1 (by decide) (by decide) (by decide) (by decide) e277 (g := (mkF m 30 #[iv u1, iv u2, iv u3, iv (1 : Int32), iv (1 : Int32), iv (1 : Int32), .unset, .unset, .unset] [(.ref b277), (.ref b277)])) rfl (by rw [hml]; rfl) (argsL := []) (rest := [(.ref b277)]) (lenOf own_pd0 rfl) rfl (by show 2 * 0 + _ ≤ _; exact Nat.le_of_eq rfl) (hb hby at_30) ?_
        intro v281 T281 L281 X281 q281
        obtain ⟨bm281, bt281, kt281, rfl, N281q, K281, f282, f283, f284, f285, f286, f287, f288, f289, f290, f291, f292, f293⟩ := q281
        have N281 := Fr.app N0 N281q
        show own_Goes p e below s _ _ _ T281 (mkF m 33 #[iv u1, iv u2, iv u3, iv (1 : Int32), iv (1 : Int32), iv (1 : Int32), .unset, .unset, .unset] [(.ref b277)])
        refine own_by (g' := (mkF m 36 #[iv u1, iv u2, iv u3, iv (1 : Int32), iv (1 : Int32), iv (1 : Int32), rv b277, .unset, .unset] [(.int u3)])) (fun t k => XS.astore X281.here hx rfl (hb hby at_33) rfl rfl (l' := #[iv u1, iv u2, iv u3, iv (1 : Int32), iv (1 : Int32), iv (1 : Int32), rv b277, .unset, .unset]) rfl (XS.iloadN X281.here hx rfl (hb hby at_35) rfl k)) ?_
        have f294 := ((O0.ext E277).keep K281 (allS g_b277 all0))
        refine own_callS X281 hx hZ hown (hw _ (List.mem_of_getElem? (i := 33) rfl)) (hw _ (List.mem_of_getElem? (i := 34) rfl)) (hw _ (List.mem_of_getElem? (i := 35) rfl)) (hw _ (List.mem_of_getElem? (i := 36) rfl)) (by decide) (own_valueOf l Z a0 hw [] (u3) (zc) T281.heap n0 (Nat.le_trans Z0 (Nat.le_trans E277.1 K281.1)) f294 S_high S_cache (by first | assumption | decide)) 0 (by decide) (by decide) (by decide) (by decide) rfl (g := (mkF m 36 #[iv u1, iv u2, iv u3, iv (1 : Int32), iv (1 : Int32), iv (1 : Int32), rv b277, .unset, .unset] [(.int u3)])) rfl (by rw [hml]; rfl) (argsL := [(.int u3)]) (rest := []) (lenOf own_pd12 rfl) rfl (by show 2 * 0 + _ ≤ _; exact Nat.le_of_eq rfl) (hb hby at_36) ?_
        intro v295 T295 L295 X295 q295
        obtain ⟨bo295, rfl, N295q, K295, f296⟩ := q295
        have N295 := Fr.app N281 N295q
        show own_Goes p e below s _ _ _ T295 (mkF m 39 #[iv u1, iv u2, iv u3, iv (1 : Int32), iv (1 : Int32), iv (1 : Int32), rv b277, .unset, .unset] [(.ref bo295)])
        refine own_by (g' := (mkF m 50 #[iv u1, iv u2, iv u3, iv (1 : Int32), iv (1 : Int32), iv (1 : Int32), rv b277, rv bo295, .unset] [(.ref bo295), (.ref b277)])) (fun t k => XS.astore X295.here hx rfl (hb hby at_39) rfl rfl (l' := #[iv u1, iv u2, iv u3, iv (1 : Int32), iv (1 : Int32), iv (1 : Int32), rv b277, rv bo295, .unset]) rfl (XS.iloadN X295.here hx rfl (hb hby at_41) rfl (XS.iconst X295.here hx rfl (hb hby at_42) (XS.icmpNo X295.here hx rfl (hb hby at_43) rfl (flt (by decide : ¬ ((1 : Int32) < (1 : Int32)))).1 (XS.aload X295.here hx rfl (hb hby at_46) rfl rfl (XS.aload X295.here hx rfl (hb hby at_48) rfl rfl k)))))) ?_
        have f297 := (f282.keep K295)
        have f298 := (f283.keep K295 nin0)
        have f299 := (f284.keep K295 nin0)
        have f300 := (f285.keep K295 nin0)
        refine own_callV X295 hx hZ hown (hw _ (List.mem_of_getElem? (i := 47) rfl)) (hw _ (List.mem_of_getElem? (i := 48) rfl)) (notFace_of_selects (args := #[]) (mvT hZ (hw _ (List.mem_of_getElem? (i := 50) rfl)))) (hw _ (List.mem_of_getElem? (i := 50) rfl)) (hw _ (List.mem_of_getElem? (i := 49) rfl)) (hw _ (List.mem_of_getElem? (i := 51) rfl)) (hw _ (List.mem_of_getElem? (i := 2) rfl)) (by decide) (a := b277) f297 (own_use0 l Z a0 hw [] (b277) ((.ref bo295)) (.null) ((0 : Int32)) (bm281) T295.heap n0 (Nat.le_trans Z0 (Nat.le_trans (Nat.le_trans E277.1 K281.1) K295.1)) f297 f298 f299 f300 rfl g_b277 rfl (by first | assumption | decide)) 0 (by decide) (by decide) (by decide) (by decide) rfl (g := (mkF m 50 #[iv u1, iv u2, iv u3, iv (1 : Int32), iv (1 : Int32), iv (1 : Int32), rv b277, rv bo295, .unset] [(.ref bo295), (.ref b277)])) rfl (by rw [hml]; rfl) (argsL := [(.ref bo295)]) (rest := []) (lenOf own_pd15 rfl) rfl (by show 2 * 0 + _ ≤ _; exact Nat.le_of_eq rfl) (hb hby at_50) ?_
        intro v301 T301 L301 X301 q301
        obtain ⟨rfl, N301q, K301, f302, f303, f304, f305⟩ := q301
        have N301 := Fr.app N295 N301q
        have f306 : Fld Z T301.heap b277 "com/example/purlin/purlin/framework/ServiceUse" "count" "I" (.int (1 : Int32)) := f304
        show own_Goes p e below s _ _ _ T301 (mkF m 53 #[iv u1, iv u2, iv u3, iv (1 : Int32), iv (1 : Int32), iv (1 : Int32), rv b277, rv bo295, .unset] [])
        refine own_by (g' := (mkF m 80 #[iv u1, iv u2, iv u3, iv (1 : Int32), iv (1 : Int32), iv (1 : Int32), rv b277, rv bo295, .unset] [(.int (1 : Int32)), (.int (1 : Int32))])) (fun t k => XS.iloadN X301.here hx rfl (hb hby at_53) rfl (XS.iconst X301.here hx rfl (hb hby at_54) (XS.icmpYes X301.here hx rfl (pc0 := 55) (pc' := 65) rfl (hb hby at_55) rfl (tlt (by decide : (1 : Int32) < (2 : Int32))).1 (by decide) (by decide) (XS.iloadN X301.here hx rfl (hb hby at_65) rfl (XS.iconst X301.here hx rfl (hb hby at_66) (XS.icmpYes X301.here hx rfl (pc0 := 67) (pc' := 77) rfl (hb hby at_67) rfl (tlt (by decide : (1 : Int32) < (3 : Int32))).1 (by decide) (by decide) (XS.iload X301.here hx rfl (hb hby at_77) rfl (XS.iconst X301.here hx rfl (hb hby at_79) k)))))))) ?_
        refine own_by (g' := (mkF m 85 #[iv u1, iv u2, iv u3, iv (1 : Int32), iv (1 : Int32), iv (1 : Int32), rv b277, rv bo295, .unset] [(.ref b277)])) (fun t k => XS.icmpNo X301.here hx rfl (hb hby at_80) rfl (flt (by decide : ¬ ((1 : Int32) < (1 : Int32)))).1 (XS.aload X301.here hx rfl (hb hby at_83) rfl rfl k)) ?_
        refine own_callV X301 hx hZ hown (hw _ (List.mem_of_getElem? (i := 204) rfl)) (hw _ (List.mem_of_getElem? (i := 205) rfl)) (notFace_of_selects (args := #[]) (mvT hZ (hw _ (List.mem_of_getElem? (i := 207) rfl)))) (hw _ (List.mem_of_getElem? (i := 207) rfl)) (hw _ (List.mem_of_getElem? (i := 206) rfl)) (hw _ (List.mem_of_getElem? (i := 208) rfl)) (hw _ (List.mem_of_getElem? (i := 2) rfl)) (by decide) (a := b277) f302 (own_un0 l Z a0 hw [] (b277) ((.ref bo295)) ((1 : Int32)) (bm281) T301.heap n0 (Nat.le_trans Z0 (Nat.le_trans (Nat.le_trans (Nat.le_trans E277.1 K281.1) K295.1) K301.1)) f302 f305 f303 f306 rfl g_b277 (by first | assumption | decide)) 0 (by decide) (by decide) (by decide) (by decide) rfl (g := (mkF m 85 #[iv u1, iv u2, iv u3, iv (1 : Int32), iv (1 : Int32), iv (1 : Int32), rv b277, rv bo295, .unset] [(.ref b277)])) rfl (by rw [hml]; rfl) (argsL := []) (rest := []) (lenOf own_pd16 rfl) rfl (by show 2 * 0 + _ ≤ _; exact Nat.le_of_eq rfl) (hb hby at_85) ?_
        intro v307 T307 L307 X307 q307
        obtain ⟨rfl, N307q, K307, f308, f309, f310, f311⟩ := q307
        have N307 := Fr.app N301 N307q
        have f312 : Fld Z T307.heap b277 "com/example/purlin/purlin/framework/ServiceUse" "count" "I" (.int (0 : Int32)) := f310
        show own_Goes p e below s _ _ _ T307 (mkF m 88 #[iv u1, iv u2, iv u3, iv (1 : Int32), iv (1 : Int32), iv (1 : Int32), rv b277, rv bo295, .unset] [(.ref bo295)])
        refine own_by (g' := (mkF m 115 #[iv u1, iv u2, iv u3, iv (1 : Int32), iv (1 : Int32), iv (1 : Int32), rv b277, rv bo295, .unset] [(.int (1 : Int32))])) (fun t k => XS.pop X307.here hx rfl (hb hby at_88) rfl rfl (XS.iload X307.here hx rfl (hb hby at_89) rfl (XS.iconst X307.here hx rfl (hb hby at_91) (XS.icmpYes X307.here hx rfl (pc0 := 92) (pc' := 101) rfl (hb hby at_92) rfl (tlt (by decide : (1 : Int32) < (2 : Int32))).1 (by decide) (by decide) (XS.iload X307.here hx rfl (hb hby at_101) rfl (XS.iconst X307.here hx rfl (hb hby at_103) (XS.icmpYes X307.here hx rfl (pc0 := 104) (pc' := 113) rfl (hb hby at_104) rfl (tlt (by decide : (1 : Int32) < (3 : Int32))).1 (by decide) (by decide) (XS.iload X307.here hx rfl (hb hby at_113) rfl k)))))))) ?_
        refine own_by (g' := (mkF m 120 #[iv u1, iv u2, iv u3, iv (1 : Int32), iv (1 : Int32), iv (1 : Int32), rv b277, rv bo295, .unset] [(.ref b277)])) (fun t k => XS.ifNo X307.here hx rfl (hb hby at_115) rfl ((if0 _ _).trans (feq (by decide : ¬ ((1 : Int32) = (0 : Int32)))).1) (XS.aload X307.here hx rfl (hb hby at_118) rfl rfl k)) ?_
        have f313 := (((f287.keep K295).keep K301).keep K307)
        have f314 := (((f288.keep K295 nin0).keep K301 (ninS (Ne.symm (Nat.ne_of_lt (Nat.lt_of_lt_of_le (Nat.lt_of_lt_of_le A277.lt (Nat.le_refl _)) f286))) nin0)).keep K307 (ninS (Ne.symm (Nat.ne_of_lt (Nat.lt_of_lt_of_le (Nat.lt_of_lt_of_le A277.lt (Nat.le_refl _)) f286))) nin0))
        have f315 := (((f289.keep K295 nin0).keep K301 (ninS (Ne.symm (Nat.ne_of_lt (Nat.lt_of_lt_of_le (Nat.lt_of_lt_of_le A277.lt (Nat.le_refl _)) f286))) nin0)).keep K307 (ninS (Ne.symm (Nat.ne_of_lt (Nat.lt_of_lt_of_le (Nat.lt_of_lt_of_le A277.lt (Nat.le_refl _)) f286))) nin0))
        have f316 := (((f290.keep K295 nin0).keep K301 (ninS (Ne.symm (Nat.ne_of_lt (Nat.lt_of_lt_of_le (Nat.lt_of_lt_of_le A277.lt (Nat.le_refl _)) f286))) nin0)).keep K307 (ninS (Ne.symm (Nat.ne_of_lt (Nat.lt_of_lt_of_le (Nat.lt_of_lt_of_le A277.lt (Nat.le_refl _)) f286))) nin0))
        have f317 := (((f292.keep K295 nin0).keep K301 (ninS (Ne.symm (Nat.ne_of_lt (Nat.lt_of_lt_of_le (Nat.lt_of_lt_of_le A277.lt (Nat.le_refl _)) f286))) nin0)).keep K307 (ninS (Ne.symm (Nat.ne_of_lt (Nat.lt_of_lt_of_le (Nat.lt_of_lt_of_le A277.lt (Nat.le_refl _)) f286))) nin0))
        have f318 := (((f293.keep K295 nin0).keep K301 (ninS (Ne.symm (Nat.ne_of_lt (Nat.lt_of_lt_of_le (Nat.lt_of_lt_of_le A277.lt (Nat.le_refl _)) f291))) nin0)).keep K307 (ninS (Ne.symm (Nat.ne_of_lt (Nat.lt_of_lt_of_le (Nat.lt_of_lt_of_le A277.lt (Nat.le_refl _)) f291))) nin0))
        have f319 := (((f294.keep K295 all0).keep K301 (allS g_b277 all0)).keep K307 (allS g_b277 all0))
        have f320 := (((((Yd.ext E277).keep K281 (ninS (Nat.ne_of_lt (Nat.lt_of_lt_of_le (Nat.lt_of_lt_of_le Yd.lt (Nat.le_refl _)) (Nat.le_of_eq g277.symm))) nin0)).keep K295 nin0).keep K301 (ninS (Nat.ne_of_lt (Nat.lt_of_lt_of_le (Nat.lt_of_lt_of_le Yd.lt (Nat.le_refl _)) (Nat.le_of_eq g277.symm))) nin0)).keep K307 (ninS (Nat.ne_of_lt (Nat.lt_of_lt_of_le (Nat.lt_of_lt_of_le Yd.lt (Nat.le_refl _)) (Nat.le_of_eq g277.symm))) nin0))
        refine own_callV X307 hx hZ hown (hw _ (List.mem_of_getElem? (i := 54) rfl)) (hw _ (List.mem_of_getElem? (i := 55) rfl)) (notFace_of_selects (args := #[]) (mvT hZ (hw _ (List.mem_of_getElem? (i := 57) rfl)))) (hw _ (List.mem_of_getElem? (i := 57) rfl)) (hw _ (List.mem_of_getElem? (i := 56) rfl)) (hw _ (List.mem_of_getElem? (i := 58) rfl)) (hw _ (List.mem_of_getElem? (i := 2) rfl)) (by decide) (a := b277) f308 (own_clear0 l Z a0 hw [] (b277) (bm281) (bt281) (kt281) (zd) ((0 : Int32)) (.null) T307.heap n0 (Nat.le_trans Z0 (Nat.le_trans (Nat.le_trans (Nat.le_trans (Nat.le_trans E277.1 K281.1) K295.1) K301.1) K307.1)) f308 f311 f309 f312 g_b277 rfl (by first | assumption | decide) f313 f314 f315 f316 f317 f318 (Nat.le_trans (Nat.le_trans Z0 E277.1) f286) (Nat.le_trans (Nat.le_trans Z0 E277.1) f291) f319 S_dflt f320) 0 (by decide) (by decide) (by decide) (by decide) rfl (g := (mkF m 120 #[iv u1, iv u2, iv u3, iv (1 : Int32), iv (1 : Int32), iv (1 : Int32), rv b277, rv bo295, .unset] [(.ref b277)])) rfl (by rw [hml]; rfl) (argsL := []) (rest := []) (lenOf own_pd14 rfl) rfl (by show 2 * 0 + _ ≤ _; exact Nat.le_of_eq rfl) (hb hby at_120) ?_
        intro v321 T321 L321 X321 q321
        obtain ⟨bl321, rfl, N321q, K321, f322, f323⟩ := q321
        have N321 := Fr.app N307 N321q
        show own_Goes p e below s _ _ _ T321 (mkF m 123 #[iv u1, iv u2, iv u3, iv (1 : Int32), iv (1 : Int32), iv (1 : Int32), rv b277, rv bo295, .unset] [(.ref bl321)])
        refine own_by (g' := (mkF m 145 #[iv u1, iv u2, iv u3, iv (1 : Int32), iv (1 : Int32), iv (1 : Int32), rv b277, rv bo295, iv (0 : Int32)] [(.ref b277)])) (fun t k => XS.pop X321.here hx rfl (hb hby at_123) rfl rfl (XS.iload X321.here hx rfl (hb hby at_124) rfl (XS.ifYes X321.here hx rfl (pc0 := 126) (pc' := 140) rfl (hb hby at_126) rfl ((if0 _ _).trans (feq (by decide : ¬ ((1 : Int32) = (0 : Int32)))).2) (by decide) (by decide) (XS.iconst X321.here hx rfl (hb hby at_140) (XS.istore X321.here hx rfl (hb hby at_141) rfl (l' := #[iv u1, iv u2, iv u3, iv (1 : Int32), iv (1 : Int32), iv (1 : Int32), rv b277, rv bo295, iv (0 : Int32)]) rfl (XS.aload X321.here hx rfl (hb hby at_143) rfl rfl k)))))) ?_
        refine own_callV X321 hx hZ hown (hw _ (List.mem_of_getElem? (i := 40) rfl)) (hw _ (List.mem_of_getElem? (i := 41) rfl)) (notFace_of_selects (args := #[]) (mvT hZ (hw _ (List.mem_of_getElem? (i := 43) rfl)))) (hw _ (List.mem_of_getElem? (i := 43) rfl)) (hw _ (List.mem_of_getElem? (i := 42) rfl)) (hw _ (List.mem_of_getElem? (i := 44) rfl)) (hw _ (List.mem_of_getElem? (i := 2) rfl)) (by decide) (a := b277) f322 (own_ic0 l Z a0 hw [] (b277) ((0 : Int32)) T321.heap n0 (Nat.le_trans Z0 (Nat.le_trans (Nat.le_trans (Nat.le_trans (Nat.le_trans (Nat.le_trans E277.1 K281.1) K295.1) K301.1) K307.1) K321.1)) f323 (by first | assumption | decide)) 0 (by decide) (by decide) (by decide) (by decide) rfl (g := (mkF m 145 #[iv u1, iv u2, iv u3, iv (1 : Int32), iv (1 : Int32), iv (1 : Int32), rv b277, rv bo295, iv (0 : Int32)] [(.ref b277)])) rfl (by rw [hml]; rfl) (argsL := []) (rest := []) (lenOf own_pd13 rfl) rfl (by show 2 * 0 + _ ≤ _; exact Nat.le_of_eq rfl) (hb hby at_145) ?_
        intro v324 T324 L324 X324 q324
        obtain ⟨rfl, N324q, e324⟩ := q324
        have N324 := Fr.app N321 N324q
        show own_Goes p e below s _ _ _ T324 (mkF m 148 #[iv u1, iv u2, iv u3, iv (1 : Int32), iv (1 : Int32), iv (1 : Int32), rv b277, rv bo295, iv (0 : Int32)] [(.int (0 : Int32))])
        refine own_by (g' := (mkF m 158 #[iv u1, iv u2, iv u3, iv (1 : Int32), iv (1 : Int32), iv (1 : Int32), rv b277, rv bo295, iv (0 : Int32)] [(.int (1 : Int32))])) (fun t k => XS.iload X324.here hx rfl (hb hby at_148) rfl (XS.icmpNo X324.here hx rfl (hb hby at_150) rfl (teq (by decide : (0 : Int32) = (0 : Int32))).2 (XS.iconst X324.here hx rfl (hb hby at_153) (XS.goto X324.here hx rfl (pc0 := 154) (pc' := 158) rfl (hb hby at_154) (by decide) (by decide) k)))) ?_
        refine own_retN X324 hx hlk hret (t := .boolean) (by simp) (hb hby at_158) (by decide) (by decide) ?_
        rw [e324]
        exact ⟨rfl, N324, (((((((Keep.refl h0 []).ext E277).trans K281 (allS (Or.inr sz_b277) all0)).trans K295 all0).trans K301 (allS (Or.inr sz_b277) all0)).trans K307 (allS (Or.inr sz_b277) all0)).trans K321 (allS (Or.inr sz_b277) (allS (Or.inr (Nat.le_trans E277.1 f286)) (allS (Or.inr (Nat.le_trans E277.1 f291)) all0))))⟩
  ·
    rw [q101]
    refine own_by (g' := (mkF m 11 #[iv u1, iv u2, iv u3, iv (2 : Int32), .unset, .unset, .unset, .unset, .unset] [(.int ((u2 &&& (3 : Int32)) % (3 : Int32)))])) (fun t k => XS.istoreN X0.here hx rfl (hb hby at_3) rfl (l' := #[iv u1, iv u2, iv u3, iv (2 : Int32), .unset, .unset, .unset, .unset, .unset]) rfl (XS.iloadN X0.here hx rfl (hb hby at_4) rfl (XS.iconst X0.here hx rfl (hb hby at_5) (XS.iand X0.here hx rfl (hb hby at_6) rfl (XS.iloadN X0.here hx rfl (hb hby at_7) rfl (XS.iconst X0.here hx rfl (hb hby at_8) (XS.iadd X0.here hx rfl (hb hby at_9) rfl (iremM X0 hx rfl (hb hby at_10) rfl (by decide) k)))))))) ?_
    rcases own_r3 u2 with q325 | q325 | q325
    ·
      rw [q325]
      refine own_by (g' := (mkF m 16 #[iv u1, iv u2, iv u3, iv (2 : Int32), iv (0 : Int32), .unset, .unset, .unset, .unset] [(.int (u3 &&& (1 : Int32)))])) (fun t k => XS.istore X0.here hx rfl (hb hby at_11) rfl (l' := #[iv u1, iv u2, iv u3, iv (2 : Int32), iv (0 : Int32), .unset, .unset, .unset, .unset]) rfl (XS.iloadN X0.here hx rfl (hb hby at_13) rfl (XS.iconst X0.here hx rfl (hb hby at_14) (XS.iand X0.here hx rfl (hb hby at_15) rfl k)))) ?_
      by_cases hc326 : (u3 &&& (1 : Int32)) = (0 : Int32)
      ·
        refine own_by (g' := (mkF m 26 #[iv u1, iv u2, iv u3, iv (2 : Int32), iv (0 : Int32), iv (0 : Int32), .unset, .unset, .unset] [])) (fun t k => XS.ifYes X0.here hx rfl (pc0 := 16) (pc' := 23) rfl (hb hby at_16) rfl ((if0 _ _).trans (teq hc326).1) (by decide) (by decide) (XS.iconst X0.here hx rfl (hb hby at_23) (XS.istore X0.here hx rfl (hb hby at_24) rfl (l' := #[iv u1, iv u2, iv u3, iv (2 : Int32), iv (0 : Int32), iv (0 : Int32), .unset, .unset, .unset]) rfl k))) ?_
        obtain ⟨T327, h327, X327, e327, E327, A327, D327, U327, st327⟩ := newO X0 hx hZ hown (hw _ (List.mem_of_getElem? (i := 0) rfl)) (hw _ (List.mem_of_getElem? (i := 1) rfl)) (hw _ (List.mem_of_getElem? (i := 2) rfl)) e0 (g := (mkF m 26 #[iv u1, iv u2, iv u3, iv (2 : Int32), iv (0 : Int32), iv (0 : Int32), .unset, .unset, .unset] [])) rfl (hb hby at_26) (by decide) (by decide)
        obtain ⟨b327, g327⟩ : ∃ z, z = h0.size := ⟨_, rfl⟩
        rw [← g327] at A327 D327 U327 st327
        have sz_b327 : h0.size ≤ b327 := Nat.le_trans (Nat.le_refl _) (Nat.le_of_eq g327.symm)
        have g_b327 : n0 ≤ b327 := Nat.le_trans Z0 sz_b327
        have f328 : Fld Z h327 b327 "com/example/purlin/purlin/framework/ServiceUse" "prototypes" "Ljava/util/Map;" .null := D327 (Or.inr (hw _ (List.mem_of_getElem? (i := 32) rfl))) (ty := (.object "java/util/Map")) (by decide)
        have f329 : Fld Z h327 b327 "com/example/purlin/purlin/framework/ServiceUse" "count" "I" (.int (0 : Int32)) := D327 (Or.inl (hw _ (List.mem_of_getElem? (i := 46) rfl))) (ty := .int) (by decide)
        have f330 : Fld Z h327 b327 "com/example/purlin/purlin/framework/ServiceUse" "object" "Ljava/lang/Object;" .null := D327 (Or.inl (hw _ (List.mem_of_getElem? (i := 53) rfl))) (ty := (.object "java/lang/Object")) (by decide)
        refine own_by (g' := (mkF m 29 #[iv u1, iv u2, iv u3, iv (2 : Int32), iv (0 : Int32), iv (0 : Int32), .unset, .unset, .unset] [(.ref b327)])) st327 ?_
        refine own_by (g' := (mkF m 30 #[iv u1, iv u2, iv u3, iv (2 : Int32), iv (0 : Int32), iv (0 : Int32), .unset, .unset, .unset] [(.ref b327), (.ref b327)])) (fun t k => XS.dup X327.here hx rfl (hb hby at_29) rfl rfl k) ?_
        refine own_callI X327 hx hZ hown rfl (hw _ (List.mem_of_getElem? (i := 3) rfl)) (hw _ (List.mem_of_getElem? (i := 4) rfl)) (hw _ (List.mem_of_getElem? (i := 2) rfl)) (hw _ (List.mem_of_getElem? (i := 5) rfl)) (by decide) (a := b327) (own_si l Z a0 hw [] (b327) h327 n0 (Nat.le_trans Z0 E327.1) A327 f328 f330 f329 g_b327) 1 (by decide) (by decide) (by decide) (by decide) e327 (g := (mkF m 30 #[iv u1, iv u2, iv u3, iv (2 : Int32), iv (0 : Int32), iv (0 : Int32), .unset, .unset, .unset] [(.ref b327), (.ref b327)])) rfl (by rw [hml]; rfl) (argsL := []) (rest := [(.ref b327)]) (lenOf own_pd0 rfl) rfl (by show 2 * 0 + _ ≤ _; exact Nat.le_of_eq rfl) (hb hby at_30) ?_
        intro v331 T331 L331 X331 q331
        obtain ⟨bm331, bt331, kt331, rfl, N331q, K331, f332, f333, f334, f335, f336, f337, f338, f339, f340, f341, f342, f343⟩ := q331
        have N331 := Fr.app N0 N331q
        show own_Goes p e below s _ _ _ T331 (mkF m 33 #[iv u1, iv u2, iv u3, iv (2 : Int32), iv (0 : Int32), iv (0 : Int32), .unset, .unset, .unset] [(.ref b327)])
        refine own_by (g' := (mkF m 36 #[iv u1, iv u2, iv u3, iv (2 : Int32), iv (0 : Int32), iv (0 : Int32), rv b327, .unset, .unset] [(.int u3)])) (fun t k => XS.astore X331.here hx rfl (hb hby at_33) rfl rfl (l' := #[iv u1, iv u2, iv u3, iv (2 : Int32), iv (0 : Int32), iv (0 : Int32), rv b327, .unset, .unset]) rfl (XS.iloadN X331.here hx rfl (hb hby at_35) rfl k)) ?_
        have f344 := ((O0.ext E327).keep K331 (allS g_b327 all0))
        refine own_callS X331 hx hZ hown (hw _ (List.mem_of_getElem? (i := 33) rfl)) (hw _ (List.mem_of_getElem? (i := 34) rfl)) (hw _ (List.mem_of_getElem? (i := 35) rfl)) (hw _ (List.mem_of_getElem? (i := 36) rfl)) (by decide) (own_valueOf l Z a0 hw [] (u3) (zc) T331.heap n0 (Nat.le_trans Z0 (Nat.le_trans E327.1 K331.1)) f344 S_high S_cache (by first | assumption | decide)) 0 (by decide) (by decide) (by decide) (by decide) rfl (g := (mkF m 36 #[iv u1, iv u2, iv u3, iv (2 : Int32), iv (0 : Int32), iv (0 : Int32), rv b327, .unset, .unset] [(.int u3)])) rfl (by rw [hml]; rfl) (argsL := [(.int u3)]) (rest := []) (lenOf own_pd12 rfl) rfl (by show 2 * 0 + _ ≤ _; exact Nat.le_of_eq rfl) (hb hby at_36) ?_
        intro v345 T345 L345 X345 q345
        obtain ⟨bo345, rfl, N345q, K345, f346⟩ := q345
        have N345 := Fr.app N331 N345q
        show own_Goes p e below s _ _ _ T345 (mkF m 39 #[iv u1, iv u2, iv u3, iv (2 : Int32), iv (0 : Int32), iv (0 : Int32), rv b327, .unset, .unset] [(.ref bo345)])
        refine own_by (g' := (mkF m 50 #[iv u1, iv u2, iv u3, iv (2 : Int32), iv (0 : Int32), iv (0 : Int32), rv b327, rv bo345, .unset] [(.ref bo345), (.ref b327)])) (fun t k => XS.astore X345.here hx rfl (hb hby at_39) rfl rfl (l' := #[iv u1, iv u2, iv u3, iv (2 : Int32), iv (0 : Int32), iv (0 : Int32), rv b327, rv bo345, .unset]) rfl (XS.iloadN X345.here hx rfl (hb hby at_41) rfl (XS.iconst X345.here hx rfl (hb hby at_42) (XS.icmpNo X345.here hx rfl (hb hby at_43) rfl (flt (by decide : ¬ ((2 : Int32) < (1 : Int32)))).1 (XS.aload X345.here hx rfl (hb hby at_46) rfl rfl (XS.aload X345.here hx rfl (hb hby at_48) rfl rfl k)))))) ?_
        have f347 := (f332.keep K345)
        have f348 := (f333.keep K345 nin0)
        have f349 := (f334.keep K345 nin0)
        have f350 := (f335.keep K345 nin0)
        refine own_callV X345 hx hZ hown (hw _ (List.mem_of_getElem? (i := 47) rfl)) (hw _ (List.mem_of_getElem? (i := 48) rfl)) (notFace_of_selects (args := #[]) (mvT hZ (hw _ (List.mem_of_getElem? (i := 50) rfl)))) (hw _ (List.mem_of_getElem? (i := 50) rfl)) (hw _ (List.mem_of_getElem? (i := 49) rfl)) (hw _ (List.mem_of_getElem? (i := 51) rfl)) (hw _ (List.mem_of_getElem? (i := 2) rfl)) (by decide) (a := b327) f347 (own_use0 l Z a0 hw [] (b327) ((.ref bo345)) (.null) ((0 : Int32)) (bm331) T345.heap n0 (Nat.le_trans Z0 (Nat.le_trans (Nat.le_trans E327.1 K331.1) K345.1)) f347 f348 f349 f350 rfl g_b327 rfl (by first | assumption | decide)) 0 (by decide) (by decide) (by decide) (by decide) rfl (g := (mkF m 50 #[iv u1, iv u2, iv u3, iv (2 : Int32), iv (0 : Int32), iv (0 : Int32), rv b327, rv bo345, .unset] [(.ref bo345), (.ref b327)])) rfl (by rw [hml]; rfl) (argsL := [(.ref bo345)]) (rest := []) (lenOf own_pd15 rfl) rfl (by show 2 * 0 + _ ≤ _; exact Nat.le_of_eq rfl) (hb hby at_50) ?_
        intro v351 T351 L351 X351 q351
        obtain ⟨rfl, N351q, K351, f352, f353, f354, f355⟩ := q351
        have N351 := Fr.app N345 N351q
        have f356 : Fld Z T351.heap b327 "com/example/purlin/purlin/framework/ServiceUse" "count" "I" (.int (1 : Int32)) := f354
        show own_Goes p e below s _ _ _ T351 (mkF m 53 #[iv u1, iv u2, iv u3, iv (2 : Int32), iv (0 : Int32), iv (0 : Int32), rv b327, rv bo345, .unset] [])
        refine own_by (g' := (mkF m 62 #[iv u1, iv u2, iv u3, iv (2 : Int32), iv (0 : Int32), iv (0 : Int32), rv b327, rv bo345, .unset] [(.ref bo345), (.ref b327)])) (fun t k => XS.iloadN X351.here hx rfl (hb hby at_53) rfl (XS.iconst X351.here hx rfl (hb hby at_54) (XS.icmpNo X351.here hx rfl (hb hby at_55) rfl (flt (by decide : ¬ ((2 : Int32) < (2 : Int32)))).1 (XS.aload X351.here hx rfl (hb hby at_58) rfl rfl (XS.aload X351.here hx rfl (hb hby at_60) rfl rfl k))))) ?_
        refine own_callV X351 hx hZ hown (hw _ (List.mem_of_getElem? (i := 47) rfl)) (hw _ (List.mem_of_getElem? (i := 48) rfl)) (notFace_of_selects (args := #[]) (mvT hZ (hw _ (List.mem_of_getElem? (i := 50) rfl)))) (hw _ (List.mem_of_getElem? (i := 50) rfl)) (hw _ (List.mem_of_getElem? (i := 49) rfl)) (hw _ (List.mem_of_getElem? (i := 51) rfl)) (hw _ (List.mem_of_getElem? (i := 2) rfl)) (by decide) (a := b327) f352 (own_use1 l Z a0 hw [] (b327) ((.ref bo345)) ((.ref bo345)) ((1 : Int32)) (bm331) T351.heap n0 (Nat.le_trans Z0 (Nat.le_trans (Nat.le_trans (Nat.le_trans E327.1 K331.1) K345.1) K351.1)) f352 f355 f353 f356 rfl g_b327 rfl (by first | assumption | decide)) 0 (by decide) (by decide) (by decide) (by decide) rfl (g := (mkF m 62 #[iv u1, iv u2, iv u3, iv (2 : Int32), iv (0 : Int32), iv (0 : Int32), rv b327, rv bo345, .unset] [(.ref bo345), (.ref b327)])) rfl (by rw [hml]; rfl) (argsL := [(.ref bo345)]) (rest := []) (lenOf own_pd15 rfl) rfl (by show 2 * 0 + _ ≤ _; exact Nat.le_of_eq rfl) (hb hby at_62) ?_
        intro v357 T357 L357 X357 q357
        obtain ⟨rfl, N357q, K357, f358, f359, f360, f361⟩ := q357
        have N357 := Fr.app N351 N357q
        have f362 : Fld Z T357.heap b327 "com/example/purlin/purlin/framework/ServiceUse" "count" "I" (.int (2 : Int32)) := f360
        show own_Goes p e below s _ _ _ T357 (mkF m 65 #[iv u1, iv u2, iv u3, iv (2 : Int32), iv (0 : Int32), iv (0 : Int32), rv b327, rv bo345, .unset] [])
        refine own_by (g' := (mkF m 92 #[iv u1, iv u2, iv u3, iv (2 : Int32), iv (0 : Int32), iv (0 : Int32), rv b327, rv bo345, .unset] [(.int (2 : Int32)), (.int (0 : Int32))])) (fun t k => XS.iloadN X357.here hx rfl (hb hby at_65) rfl (XS.iconst X357.here hx rfl (hb hby at_66) (XS.icmpYes X357.here hx rfl (pc0 := 67) (pc' := 77) rfl (hb hby at_67) rfl (tlt (by decide : (2 : Int32) < (3 : Int32))).1 (by decide) (by decide) (XS.iload X357.here hx rfl (hb hby at_77) rfl (XS.iconst X357.here hx rfl (hb hby at_79) (XS.icmpYes X357.here hx rfl (pc0 := 80) (pc' := 89) rfl (hb hby at_80) rfl (tlt (by decide : (0 : Int32) < (1 : Int32))).1 (by decide) (by decide) (XS.iload X357.here hx rfl (hb hby at_89) rfl (XS.iconst X357.here hx rfl (hb hby at_91) k)))))))) ?_
        refine own_by (g' := (mkF m 129 #[iv u1, iv u2, iv u3, iv (2 : Int32), iv (0 : Int32), iv (0 : Int32), rv b327, rv bo345, .unset] [])) (fun t k => XS.icmpYes X357.here hx rfl (pc0 := 92) (pc' := 101) rfl (hb hby at_92) rfl (tlt (by decide : (0 : Int32) < (2 : Int32))).1 (by decide) (by decide) (XS.iload X357.here hx rfl (hb hby at_101) rfl (XS.iconst X357.here hx rfl (hb hby at_103) (XS.icmpYes X357.here hx rfl (pc0 := 104) (pc' := 113) rfl (hb hby at_104) rfl (tlt (by decide : (0 : Int32) < (3 : Int32))).1 (by decide) (by decide) (XS.iload X357.here hx rfl (hb hby at_113) rfl (XS.ifYes X357.here hx rfl (pc0 := 115) (pc' := 124) rfl (hb hby at_115) rfl ((if0 _ _).trans (teq (by decide : (0 : Int32) = (0 : Int32))).1) (by decide) (by decide) (XS.iload X357.here hx rfl (hb hby at_124) rfl (XS.ifNo X357.here hx rfl (hb hby at_126) rfl ((if0 _ _).trans (teq (by decide : (0 : Int32) = (0 : Int32))).2) k)))))))) ?_
        refine own_by (g' := (mkF m 145 #[iv u1, iv u2, iv u3, iv (2 : Int32), iv (0 : Int32), iv (0 : Int32), rv b327, rv bo345, iv (1 : Int32)] [(.ref b327)])) (fun t k => XS.iloadN X357.here hx rfl (hb hby at_129) rfl (XS.iload X357.here hx rfl (hb hby at_130) rfl (XS.isub X357.here hx rfl (hb hby at_132) rfl (XS.ifNo X357.here hx rfl (hb hby at_133) rfl ((if0 _ _).trans (tlt (by decide : (0 : Int32) < (2 : Int32))).2.2.2) (XS.iconst X357.here hx rfl (hb hby at_136) (XS.goto X357.here hx rfl (pc0 := 137) (pc' := 141) rfl (hb hby at_137) (by decide) (by decide) (XS.istore X357.here hx rfl (hb hby at_141) rfl (l' := #[iv u1, iv u2, iv u3, iv (2 : Int32), iv (0 : Int32), iv (0 : Int32), rv b327, rv bo345, iv (1 : Int32)]) rfl (XS.aload X357.here hx rfl (hb hby at_143) rfl rfl k)))))))) ?_
        refine own_callV X357 hx hZ hown (hw _ (List.mem_of_getElem? (i := 40) rfl)) (hw _ (List.mem_of_getElem? (i := 41) rfl)) (notFace_of_selects (args := #[]) (mvT hZ (hw _ (List.mem_of_getElem? (i := 43) rfl)))) (hw _ (List.mem_of_getElem? (i := 43) rfl)) (hw _ (List.mem_of_getElem? (i := 42) rfl)) (hw _ (List.mem_of_getElem? (i := 44) rfl)) (hw _ (List.mem_of_getElem? (i := 2) rfl)) (by decide) (a := b327) f358 (own_ic1 l Z a0 hw [] (b327) ((2 : Int32)) T357.heap n0 (Nat.le_trans Z0 (Nat.le_trans (Nat.le_trans (Nat.le_trans (Nat.le_trans E327.1 K331.1) K345.1) K351.1) K357.1)) f362 (by first | assumption | decide)) 0 (by decide) (by decide) (by decide) (by decide) rfl (g := (mkF m 145 #[iv u1, iv u2, iv u3, iv (2 : Int32), iv (0 : Int32), iv (0 : Int32), rv b327, rv bo345, iv (1 : Int32)] [(.ref b327)])) rfl (by rw [hml]; rfl) (argsL := []) (rest := []) (lenOf own_pd13 rfl) rfl (by show 2 * 0 + _ ≤ _; exact Nat.le_of_eq rfl) (hb hby at_145) ?_
        intro v363 T363 L363 X363 q363
        obtain ⟨rfl, N363q, e363⟩ := q363
        have N363 := Fr.app N357 N363q
        show own_Goes p e below s _ _ _ T363 (mkF m 148 #[iv u1, iv u2, iv u3, iv (2 : Int32), iv (0 : Int32), iv (0 : Int32), rv b327, rv bo345, iv (1 : Int32)] [(.int (1 : Int32))])
        refine own_by (g' := (mkF m 158 #[iv u1, iv u2, iv u3, iv (2 : Int32), iv (0 : Int32), iv (0 : Int32), rv b327, rv bo345, iv (1 : Int32)] [(.int (1 : Int32))])) (fun t k => XS.iload X363.here hx rfl (hb hby at_148) rfl (XS.icmpNo X363.here hx rfl (hb hby at_150) rfl (teq (by decide : (1 : Int32) = (1 : Int32))).2 (XS.iconst X363.here hx rfl (hb hby at_153) (XS.goto X363.here hx rfl (pc0 := 154) (pc' := 158) rfl (hb hby at_154) (by decide) (by decide) k)))) ?_
        refine own_retN X363 hx hlk hret (t := .boolean) (by simp) (hb hby at_158) (by decide) (by decide) ?_
        rw [e363]
        exact ⟨rfl, N363, ((((((Keep.refl h0 []).ext E327).trans K331 (allS (Or.inr sz_b327) all0)).trans K345 all0).trans K351 (allS (Or.inr sz_b327) all0)).trans K357 (allS (Or.inr sz_b327) all0))⟩
      ·
        refine own_by (g' := (mkF m 26 #[iv u1, iv u2, iv u3, iv (2 : Int32), iv (0 : Int32), iv (1 : Int32), .unset, .unset, .unset] [])) (fun t k => XS.ifNo X0.here hx rfl (hb hby at_16) rfl ((if0 _ _).trans (feq hc326).1) (XS.iconst X0.here hx rfl (hb hby at_19) (XS.goto X0.here hx rfl (pc0 := 20) (pc' := 24) rfl (hb hby at_20) (by decide) (by decide) (XS.istore X0.here hx rfl (hb hby at_24) rfl (l' := #[iv u1, iv u2, iv u3, iv (2 : Int32), iv (0 : Int32), iv (1 : Int32), .unset, .unset, .unset]) rfl k)))) ?_
        obtain ⟨T364, h364, X364, e364, E364, A364, D364, U364, st364⟩ := newO X0 hx hZ hown (hw _ (List.mem_of_getElem? (i := 0) rfl)) (hw _ (List.mem_of_getElem? (i := 1) rfl)) (hw _ (List.mem_of_getElem? (i := 2) rfl)) e0 (g := (mkF m 26 #[iv u1, iv u2, iv u3, iv (2 : Int32), iv (0 : Int32), iv (1 : Int32), .unset, .unset, .unset] [])) rfl (hb hby at_26) (by decide) (by decide)
        obtain ⟨b364, g364⟩ : ∃ z, z = h0.size := ⟨_, rfl⟩
        rw [← g364] at A364 D364 U364 st364
        have sz_b364 : h0.size ≤ b364 := Nat.le_trans (Nat.le_refl _) (Nat.le_of_eq g364.symm)
        have g_b364 : n0 ≤ b364 := Nat.le_trans Z0 sz_b364
        have f365 : Fld Z h364 b364 "com/example/purlin/purlin/framework/ServiceUse" "prototypes" "Ljava/util/Map;" .null := D364 (Or.inr (hw _ (List.mem_of_getElem? (i := 32) rfl))) (ty := (.object "java/util/Map")) (by decide)
        have f366 : Fld Z h364 b364 "com/example/purlin/purlin/framework/ServiceUse" "count" "I" (.int (0 : Int32)) := D364 (Or.inl (hw _ (List.mem_of_getElem? (i := 46) rfl))) (ty := .int) (by decide)
        have f367 : Fld Z h364 b364 "com/example/purlin/purlin/framework/ServiceUse" "object" "Ljava/lang/Object;" .null := D364 (Or.inl (hw _ (List.mem_of_getElem? (i := 53) rfl))) (ty := (.object "java/lang/Object")) (by decide)
        refine own_by (g' := (mkF m 29 #[iv u1, iv u2, iv u3, iv (2 : Int32), iv (0 : Int32), iv (1 : Int32), .unset, .unset, .unset] [(.ref b364)])) st364 ?_
        refine own_by (g' := (mkF m 30 #[iv u1, iv u2, iv u3, iv (2 : Int32), iv (0 : Int32), iv (1 : Int32), .unset, .unset, .unset] [(.ref b364), (.ref b364)])) (fun t k => XS.dup X364.here hx rfl (hb hby at_29) rfl rfl k) ?_
        refine own_callI X364 hx hZ hown rfl (hw _ (List.mem_of_getElem? (i := 3) rfl)) (hw _ (List.mem_of_getElem? (i := 4) rfl)) (hw _ (List.mem_of_getElem? (i := 2) rfl)) (hw _ (List.mem_of_getElem? (i := 5) rfl)) (by decide) (a := b364) (own_si l Z a0 hw [] (b364) h364 n0 (Nat.le_trans Z0 E364.1) A364 f365 f367 f366 g_b364) 1 (by decide) (by decide) (by decide) (by decide) e364 (g := (mkF m 30 #[iv u1, iv u2, iv u3, iv (2 : Int32), iv (0 : Int32), iv (1 : Int32), .unset, .unset, .unset] [(.ref b364), (.ref b364)])) rfl (by rw [hml]; rfl) (argsL := []) (rest := [(.ref b364)]) (lenOf own_pd0 rfl) rfl (by show 2 * 0 + _ ≤ _; exact Nat.le_of_eq rfl) (hb hby at_30) ?_
        intro v368 T368 L368 X368 q368
        obtain ⟨bm368, bt368, kt368, rfl, N368q, K368, f369, f370, f371, f372, f373, f374, f375, f376, f377, f378, f379, f380⟩ := q368
        have N368 := Fr.app N0 N368q
        show own_Goes p e below s _ _ _ T368 (mkF m 33 #[iv u1, iv u2, iv u3, iv (2 : Int32), iv (0 : Int32), iv (1 : Int32), .unset, .unset, .unset] [(.ref b364)])
        refine own_by (g' := (mkF m 36 #[iv u1, iv u2, iv u3, iv (2 : Int32), iv (0 : Int32), iv (1 : Int32), rv b364, .unset, .unset] [(.int u3)])) (fun t k => XS.astore X368.here hx rfl (hb hby at_33) rfl rfl (l' := #[iv u1, iv u2, iv u3, iv (2 : Int32), iv (0 : Int32), iv (1 : Int32), rv b364, .unset, .unset]) rfl (XS.iloadN X368.here hx rfl (hb hby at_35) rfl k)) ?_
        have f381 := ((O0.ext E364).keep K368 (allS g_b364 all0))
        refine own_callS X368 hx hZ hown (hw _ (List.mem_of_getElem? (i := 33) rfl)) (hw _ (List.mem_of_getElem? (i := 34) rfl)) (hw _ (List.mem_of_getElem? (i := 35) rfl)) (hw _ (List.mem_of_getElem? (i := 36) rfl)) (by decide) (own_valueOf l Z a0 hw [] (u3) (zc) T368.heap n0 (Nat.le_trans Z0 (Nat.le_trans E364.1 K368.1)) f381 S_high S_cache (by first | assumption | decide)) 0 (by decide) (by decide) (by decide) (by decide) rfl (g := (mkF m 36 #[iv u1, iv u2, iv u3, iv (2 : Int32), iv (0 : Int32), iv (1 : Int32), rv b364, .unset, .unset] [(.int u3)])) rfl (by rw [hml]; rfl) (argsL := [(.int u3)]) (rest := []) (lenOf own_pd12 rfl) rfl (by show 2 * 0 + _ ≤ _; exact Nat.le_of_eq rfl) (hb hby at_36) ?_
        intro v382 T382 L382 X382 q382
        obtain ⟨bo382, rfl, N382q, K382, f383⟩ := q382
        have N382 := Fr.app N368 N382q
        show own_Goes p e below s _ _ _ T382 (mkF m 39 #[iv u1, iv u2, iv u3, iv (2 : Int32), iv (0 : Int32), iv (1 : Int32), rv b364, .unset, .unset] [(.ref bo382)])
        refine own_by (g' := (mkF m 50 #[iv u1, iv u2, iv u3, iv (2 : Int32), iv (0 : Int32), iv (1 : Int32), rv b364, rv bo382, .unset] [(.ref bo382), (.ref b364)])) (fun t k => XS.astore X382.here hx rfl (hb hby at_39) rfl rfl (l' := #[iv u1, iv u2, iv u3, iv (2 : Int32), iv (0 : Int32), iv (1 : Int32), rv b364, rv bo382, .unset]) rfl (XS.iloadN X382.here hx rfl (hb hby at_41) rfl (XS.iconst X382.here hx rfl (hb hby at_42) (XS.icmpNo X382.here hx rfl (hb hby at_43) rfl (flt (by decide : ¬ ((2 : Int32) < (1 : Int32)))).1 (XS.aload X382.here hx rfl (hb hby at_46) rfl rfl (XS.aload X382.here hx rfl (hb hby at_48) rfl rfl k)))))) ?_
        have f384 := (f369.keep K382)
        have f385 := (f370.keep K382 nin0)
        have f386 := (f371.keep K382 nin0)
        have f387 := (f372.keep K382 nin0)
        refine own_callV X382 hx hZ hown (hw _ (List.mem_of_getElem? (i := 47) rfl)) (hw _ (List.mem_of_getElem? (i := 48) rfl)) (notFace_of_selects (args := #[]) (mvT hZ (hw _ (List.mem_of_getElem? (i := 50) rfl)))) (hw _ (List.mem_of_getElem? (i := 50) rfl)) (hw _ (List.mem_of_getElem? (i := 49) rfl)) (hw _ (List.mem_of_getElem? (i := 51) rfl)) (hw _ (List.mem_of_getElem? (i := 2) rfl)) (by decide) (a := b364) f384 (own_use0 l Z a0 hw [] (b364) ((.ref bo382)) (.null) ((0 : Int32)) (bm368) T382.heap n0 (Nat.le_trans Z0 (Nat.le_trans (Nat.le_trans E364.1 K368.1) K382.1)) f384 f385 f386 f387 rfl g_b364 rfl (by first | assumption | decide)) 0 (by decide) (by decide) (by decide) (by decide) rfl (g := (mkF m 50 #[iv u1, iv u2, iv u3, iv (2 : Int32), iv (0 : Int32), iv (1 : Int32), rv b364, rv bo382, .unset] [(.ref bo382), (.ref b364)])) rfl (by rw [hml]; rfl) (argsL := [(.ref bo382)]) (rest := []) (lenOf own_pd15 rfl) rfl (by show 2 * 0 + _ ≤ _; exact Nat.le_of_eq rfl) (hb hby at_50) ?_
        intro v388 T388 L388 X388 q388
        obtain ⟨rfl, N388q, K388, f389, f390, f391, f392⟩ := q388
        have N388 := Fr.app N382 N388q
        have f393 : Fld Z T388.heap b364 "com/example/purlin/purlin/framework/ServiceUse" "count" "I" (.int (1 : Int32)) := f391
        show own_Goes p e below s _ _ _ T388 (mkF m 53 #[iv u1, iv u2, iv u3, iv (2 : Int32), iv (0 : Int32), iv (1 : Int32), rv b364, rv bo382, .unset] [])
        refine own_by (g' := (mkF m 62 #[iv u1, iv u2, iv u3, iv (2 : Int32), iv (0 : Int32), iv (1 : Int32), rv b364, rv bo382, .unset] [(.ref bo382), (.ref b364)])) (fun t k => XS.iloadN X388.here hx rfl (hb hby at_53) rfl (XS.iconst X388.here hx rfl (hb hby at_54) (XS.icmpNo X388.here hx rfl (hb hby at_55) rfl (flt (by decide : ¬ ((2 : Int32) < (2 : Int32)))).1 (XS.aload X388.here hx rfl (hb hby at_58) rfl rfl (XS.aload X388.here hx rfl (hb hby at_60) rfl rfl k))))) ?_
        refine own_callV X388 hx hZ hown (hw _ (List.mem_of_getElem? (i := 47) rfl)) (hw _ (List.mem_of_getElem? (i := 48) rfl)) (notFace_of_selects (args := #[]) (mvT hZ (hw _ (List.mem_of_getElem? (i := 50) rfl)))) (hw _ (List.mem_of_getElem? (i := 50) rfl)) (hw _ (List.mem_of_getElem? (i := 49) rfl)) (hw _ (List.mem_of_getElem? (i := 51) rfl)) (hw _ (List.mem_of_getElem? (i := 2) rfl)) (by decide) (a := b364) f389 (own_use1 l Z a0 hw [] (b364) ((.ref bo382)) ((.ref bo382)) ((1 : Int32)) (bm368) T388.heap n0 (Nat.le_trans Z0 (Nat.le_trans (Nat.le_trans (Nat.le_trans E364.1 K368.1) K382.1) K388.1)) f389 f392 f390 f393 rfl g_b364 rfl (by first | assumption | decide)) 0 (by decide) (by decide) (by decide) (by decide) rfl (g := (mkF m 62 #[iv u1, iv u2, iv u3, iv (2 : Int32), iv (0 : Int32), iv (1 : Int32), rv b364, rv bo382, .unset] [(.ref bo382), (.ref b364)])) rfl (by rw [hml]; rfl) (argsL := [(.ref bo382)]) (rest := []) (lenOf own_pd15 rfl) rfl (by show 2 * 0 + _ ≤ _; exact Nat.le_of_eq rfl) (hb hby at_62) ?_
        intro v394 T394 L394 X394 q394
        obtain ⟨rfl, N394q, K394, f395, f396, f397, f398⟩ := q394
        have N394 := Fr.app N388 N394q
        have f399 : Fld Z T394.heap b364 "com/example/purlin/purlin/framework/ServiceUse" "count" "I" (.int (2 : Int32)) := f397
        show own_Goes p e below s _ _ _ T394 (mkF m 65 #[iv u1, iv u2, iv u3, iv (2 : Int32), iv (0 : Int32), iv (1 : Int32), rv b364, rv bo382, .unset] [])
        refine own_by (g' := (mkF m 92 #[iv u1, iv u2, iv u3, iv (2 : Int32), iv (0 : Int32), iv (1 : Int32), rv b364, rv bo382, .unset] [(.int (2 : Int32)), (.int (0 : Int32))])) (fun t k => XS.iloadN X394.here hx rfl (hb hby at_65) rfl (XS.iconst X394.here hx rfl (hb hby at_66) (XS.icmpYes X394.here hx rfl (pc0 := 67) (pc' := 77) rfl (hb hby at_67) rfl (tlt (by decide : (2 : Int32) < (3 : Int32))).1 (by decide) (by decide) (XS.iload X394.here hx rfl (hb hby at_77) rfl (XS.iconst X394.here hx rfl (hb hby at_79) (XS.icmpYes X394.here hx rfl (pc0 := 80) (pc' := 89) rfl (hb hby at_80) rfl (tlt (by decide : (0 : Int32) < (1 : Int32))).1 (by decide) (by decide) (XS.iload X394.here hx rfl (hb hby at_89) rfl (XS.iconst X394.here hx rfl (hb hby at_91) k)))))))) ?_
        refine own_by (g' := (mkF m 120 #[iv u1, iv u2, iv u3, iv (2 : Int32), iv (0 : Int32), iv (1 : Int32), rv b364, rv bo382, .unset] [(.ref b364)])) (fun t k => XS.icmpYes X394.here hx rfl (pc0 := 92) (pc' := 101) rfl (hb hby at_92) rfl (tlt (by decide : (0 : Int32) < (2 : Int32))).1 (by decide) (by decide) (XS.iload X394.here hx rfl (hb hby at_101) rfl (XS.iconst X394.here hx rfl (hb hby at_103) (XS.icmpYes X394.here hx rfl (pc0 := 104) (pc' := 113) rfl (hb hby at_104) rfl (tlt (by decide : (0 : Int32) < (3 : Int32))).1 (by decide) (by decide) (XS.iload X394.here hx rfl (hb hby at_113) rfl (XS.ifNo X394.here hx rfl (hb hby at_115) rfl ((if0 _ _).trans (feq (by decide : ¬ ((1 : Int32) = (0 : Int32)))).1) (XS.aload X394.here hx rfl (hb hby at_118) rfl rfl k))))))) ?_
        have f400 := ((f383.keep K388).keep K394)
        have f401 := (((f374.keep K382).keep K388).keep K394)
        have f402 := (((f375.keep K382 nin0).keep K388 (ninS (Ne.symm (Nat.ne_of_lt (Nat.lt_of_lt_of_le (Nat.lt_of_lt_of_le A364.lt (Nat.le_refl _)) f373))) nin0)).keep K394 (ninS (Ne.symm (Nat.ne_of_lt (Nat.lt_of_lt_of_le (Nat.lt_of_lt_of_le A364.lt (Nat.le_refl _)) f373))) nin0))
        have f403 := (((f376.keep K382 nin0).keep K388 (ninS (Ne.symm (Nat.ne_of_lt (Nat.lt_of_lt_of_le (Nat.lt_of_lt_of_le A364.lt (Nat.le_refl _)) f373))) nin0)).keep K394 (ninS (Ne.symm (Nat.ne_of_lt (Nat.lt_of_lt_of_le (Nat.lt_of_lt_of_le A364.lt (Nat.le_refl _)) f373))) nin0))
        have f404 := (((f377.keep K382 nin0).keep K388 (ninS (Ne.symm (Nat.ne_of_lt (Nat.lt_of_lt_of_le (Nat.lt_of_lt_of_le A364.lt (Nat.le_refl _)) f373))) nin0)).keep K394 (ninS (Ne.symm (Nat.ne_of_lt (Nat.lt_of_lt_of_le (Nat.lt_of_lt_of_le A364.lt (Nat.le_refl _)) f373))) nin0))
        have f405 := (((f379.keep K382 nin0).keep K388 (ninS (Ne.symm (Nat.ne_of_lt (Nat.lt_of_lt_of_le (Nat.lt_of_lt_of_le A364.lt (Nat.le_refl _)) f373))) nin0)).keep K394 (ninS (Ne.symm (Nat.ne_of_lt (Nat.lt_of_lt_of_le (Nat.lt_of_lt_of_le A364.lt (Nat.le_refl _)) f373))) nin0))
        have f406 := (((f380.keep K382 nin0).keep K388 (ninS (Ne.symm (Nat.ne_of_lt (Nat.lt_of_lt_of_le (Nat.lt_of_lt_of_le A364.lt (Nat.le_refl _)) f378))) nin0)).keep K394 (ninS (Ne.symm (Nat.ne_of_lt (Nat.lt_of_lt_of_le (Nat.lt_of_lt_of_le A364.lt (Nat.le_refl _)) f378))) nin0))
        have f407 := (((f381.keep K382 all0).keep K388 (allS g_b364 all0)).keep K394 (allS g_b364 all0))
        have f408 := (((((Yd.ext E364).keep K368 (ninS (Nat.ne_of_lt (Nat.lt_of_lt_of_le (Nat.lt_of_lt_of_le Yd.lt (Nat.le_refl _)) (Nat.le_of_eq g364.symm))) nin0)).keep K382 nin0).keep K388 (ninS (Nat.ne_of_lt (Nat.lt_of_lt_of_le (Nat.lt_of_lt_of_le Yd.lt (Nat.le_refl _)) (Nat.le_of_eq g364.symm))) nin0)).keep K394 (ninS (Nat.ne_of_lt (Nat.lt_of_lt_of_le (Nat.lt_of_lt_of_le Yd.lt (Nat.le_refl _)) (Nat.le_of_eq g364.symm))) nin0))
        refine own_callV X394 hx hZ hown (hw _ (List.mem_of_getElem? (i := 54) rfl)) (hw _ (List.mem_of_getElem? (i := 55) rfl)) (notFace_of_selects (args := #[]) (mvT hZ (hw _ (List.mem_of_getElem? (i := 57) rfl)))) (hw _ (List.mem_of_getElem? (i := 57) rfl)) (hw _ (List.mem_of_getElem? (i := 56) rfl)) (hw _ (List.mem_of_getElem? (i := 58) rfl)) (hw _ (List.mem_of_getElem? (i := 2) rfl)) (by decide) (a := b364) f395 (own_clear1 l Z a0 hw [] (b364) (bm368) (bt368) (kt368) (zd) ((2 : Int32)) (bo382) T394.heap n0 (Nat.le_trans Z0 (Nat.le_trans (Nat.le_trans (Nat.le_trans (Nat.le_trans E364.1 K368.1) K382.1) K388.1) K394.1)) f395 f398 f396 f399 g_b364 f400 (by first | assumption | decide) f401 f402 f403 f404 f405 f406 (Nat.le_trans (Nat.le_trans Z0 E364.1) f373) (Nat.le_trans (Nat.le_trans Z0 E364.1) f378) f407 S_dflt f408) 0 (by decide) (by decide) (by decide) (by decide) rfl (g := (mkF m 120 #[iv u1, iv u2, iv u3, iv (2 : Int32), iv (0 : Int32), iv (1 : Int32), rv b364, rv bo382, .unset] [(.ref b364)])) rfl (by rw [hml]; rfl) (argsL := []) (rest := []) (lenOf own_pd14 rfl) rfl (by show 2 * 0 + _ ≤ _; exact Nat.le_of_eq rfl) (hb hby at_120) ?_
        intro v409 T409 L409 X409 q409
        obtain ⟨bl409, rfl, N409q, K409, f410, f411⟩ := q409
        have N409 := Fr.app N394 N409q
        show own_Goes p e below s _ _ _ T409 (mkF m 123 #[iv u1, iv u2, iv u3, iv (2 : Int32), iv (0 : Int32), iv (1 : Int32), rv b364, rv bo382, .unset] [(.ref bl409)])
        refine own_by (g' := (mkF m 145 #[iv u1, iv u2, iv u3, iv (2 : Int32), iv (0 : Int32), iv (1 : Int32), rv b364, rv bo382, iv (0 : Int32)] [(.ref b364)])) (fun t k => XS.pop X409.here hx rfl (hb hby at_123) rfl rfl (XS.iload X409.here hx rfl (hb hby at_124) rfl (XS.ifYes X409.here hx rfl (pc0 := 126) (pc' := 140) rfl (hb hby at_126) rfl ((if0 _ _).trans (feq (by decide : ¬ ((1 : Int32) = (0 : Int32)))).2) (by decide) (by decide) (XS.iconst X409.here hx rfl (hb hby at_140) (XS.istore X409.here hx rfl (hb hby at_141) rfl (l' := #[iv u1, iv u2, iv u3, iv (2 : Int32), iv (0 : Int32), iv (1 : Int32), rv b364, rv bo382, iv (0 : Int32)]) rfl (XS.aload X409.here hx rfl (hb hby at_143) rfl rfl k)))))) ?_
        refine own_callV X409 hx hZ hown (hw _ (List.mem_of_getElem? (i := 40) rfl)) (hw _ (List.mem_of_getElem? (i := 41) rfl)) (notFace_of_selects (args := #[]) (mvT hZ (hw _ (List.mem_of_getElem? (i := 43) rfl)))) (hw _ (List.mem_of_getElem? (i := 43) rfl)) (hw _ (List.mem_of_getElem? (i := 42) rfl)) (hw _ (List.mem_of_getElem? (i := 44) rfl)) (hw _ (List.mem_of_getElem? (i := 2) rfl)) (by decide) (a := b364) f410 (own_ic0 l Z a0 hw [] (b364) ((0 : Int32)) T409.heap n0 (Nat.le_trans Z0 (Nat.le_trans (Nat.le_trans (Nat.le_trans (Nat.le_trans (Nat.le_trans E364.1 K368.1) K382.1) K388.1) K394.1) K409.1)) f411 (by first | assumption | decide)) 0 (by decide) (by decide) (by decide) (by decide) rfl (g := (mkF m 145 #[iv u1, iv u2, iv u3, iv (2 : Int32), iv (0 : Int32), iv (1 : Int32), rv b364, rv bo382, iv (0 : Int32)] [(.ref b364)])) rfl (by rw [hml]; rfl) (argsL := []) (rest := []) (lenOf own_pd13 rfl) rfl (by show 2 * 0 + _ ≤ _; exact Nat.le_of_eq rfl) (hb hby at_145) ?_
        intro v412 T412 L412 X412 q412
        obtain ⟨rfl, N412q, e412⟩ := q412
        have N412 := Fr.app N409 N412q
        show own_Goes p e below s _ _ _ T412 (mkF m 148 #[iv u1, iv u2, iv u3, iv (2 : Int32), iv (0 : Int32), iv (1 : Int32), rv b364, rv bo382, iv (0 : Int32)] [(.int (0 : Int32))])
        refine own_by (g' := (mkF m 158 #[iv u1, iv u2, iv u3, iv (2 : Int32), iv (0 : Int32), iv (1 : Int32), rv b364, rv bo382, iv (0 : Int32)] [(.int (1 : Int32))])) (fun t k => XS.iload X412.here hx rfl (hb hby at_148) rfl (XS.icmpNo X412.here hx rfl (hb hby at_150) rfl (teq (by decide : (0 : Int32) = (0 : Int32))).2 (XS.iconst X412.here hx rfl (hb hby at_153) (XS.goto X412.here hx rfl (pc0 := 154) (pc' := 158) rfl (hb hby at_154) (by decide) (by decide) k)))) ?_
        refine own_retN X412 hx hlk hret (t := .boolean) (by simp) (hb hby at_158) (by decide) (by decide) ?_
        rw [e412]
        exact ⟨rfl, N412, (((((((Keep.refl h0 []).ext E364).trans K368 (allS (Or.inr sz_b364) all0)).trans K382 all0).trans K388 (allS (Or.inr sz_b364) all0)).trans K394 (allS (Or.inr sz_b364) all0)).trans K409 (allS (Or.inr sz_b364) (allS (Or.inr (Nat.le_trans E364.1 f373)) (allS (Or.inr (Nat.le_trans E364.1 f378)) all0))))⟩
    ·
      rw [q325]
      refine own_by (g' := (mkF m 16 #[iv u1, iv u2, iv u3, iv (2 : Int32), iv (1 : Int32), .unset, .unset, .unset, .unset] [(.int (u3 &&& (1 : Int32)))])) (fun t k => XS.istore X0.here hx rfl (hb hby at_11) rfl (l' := #[iv u1, iv u2, iv u3, iv (2 : Int32), iv (1 : Int32), .unset, .unset, .unset, .unset]) rfl (XS.iloadN X0.here hx rfl (hb hby at_13) rfl (XS.iconst X0.here hx rfl (hb hby at_14) (XS.iand X0.here hx rfl (hb hby at_15) rfl k)))) ?_
      by_cases hc413 : (u3 &&& (1 : Int32)) = (0 : Int32)
      ·
        refine own_by (g' := (mkF m 26 #[iv u1, iv u2, iv u3, iv (2 : Int32), iv (1 : Int32), iv (0 : Int32), .unset, .unset, .unset] [])) (fun t k => XS.ifYes X0.here hx rfl (pc0 := 16) (pc' := 23) rfl (hb hby at_16) rfl ((if0 _ _).trans (teq hc413).1) (by decide) (by decide) (XS.iconst X0.here hx rfl (hb hby at_23) (XS.istore X0.here hx rfl (hb hby at_24) rfl (l' := #[iv u1, iv u2, iv u3, iv (2 : Int32), iv (1 : Int32), iv (0 : Int32), .unset, .unset, .unset]) rfl k))) ?_
        obtain ⟨T414, h414, X414, e414, E414, A414, D414, U414, st414⟩ := newO X0 hx hZ hown (hw _ (List.mem_of_getElem? (i := 0) rfl)) (hw _ (List.mem_of_getElem? (i := 1) rfl)) (hw _ (List.mem_of_getElem? (i := 2) rfl)) e0 (g := (mkF m 26 #[iv u1, iv u2, iv u3, iv (2 : Int32), iv (1 : Int32), iv (0 : Int32), .unset, .unset, .unset] [])) rfl (hb hby at_26) (by decide) (by decide)
        obtain ⟨b414, g414⟩ : ∃ z, z = h0.size := ⟨_, rfl⟩
        rw [← g414] at A414 D414 U414 st414
        have sz_b414 : h0.size ≤ b414 := Nat.le_trans (Nat.le_refl _) (Nat.le_of_eq g414.symm)
        have g_b414 : n0 ≤ b414 := Nat.le_trans Z0 sz_b414
        have f415 : Fld Z h414 b414 "com/example/purlin/purlin/framework/ServiceUse" "prototypes" "Ljava/util/Map;" .null := D414 (Or.inr (hw _ (List.mem_of_getElem? (i := 32) rfl))) (ty := (.object "java/util/Map")) (by decide)
        have f416 : Fld Z h414 b414 "com/example/purlin/purlin/framework/ServiceUse" "count" "I" (.int (0 : Int32)) := D414 (Or.inl (hw _ (List.mem_of_getElem? (i := 46) rfl))) (ty := .int) (by decide)
        have f417 : Fld Z h414 b414 "com/example/purlin/purlin/framework/ServiceUse" "object" "Ljava/lang/Object;" .null := D414 (Or.inl (hw _ (List.mem_of_getElem? (i := 53) rfl))) (ty := (.object "java/lang/Object")) (by decide)
        refine own_by (g' := (mkF m 29 #[iv u1, iv u2, iv u3, iv (2 : Int32), iv (1 : Int32), iv (0 : Int32), .unset, .unset, .unset] [(.ref b414)])) st414 ?_
        refine own_by (g' := (mkF m 30 #[iv u1, iv u2, iv u3, iv (2 : Int32), iv (1 : Int32), iv (0 : Int32), .unset, .unset, .unset] [(.ref b414), (.ref b414)])) (fun t k => XS.dup X414.here hx rfl (hb hby at_29) rfl rfl k) ?_
        refine own_callI X414 hx hZ hown rfl (hw _ (List.mem_of_getElem? (i := 3) rfl)) (hw _ (List.mem_of_getElem? (i := 4) rfl)) (hw _ (List.mem_of_getElem? (i := 2) rfl)) (hw _ (List.mem_of_getElem? (i := 5) rfl)) (by decide) (a := b414) (own_si l Z a0 hw [] (b414) h414 n0 (Nat.le_trans Z0 E414.1) A414 f415 f417 f416 g_b414) 1 (by decide) (by decide) (by decide) (by decide) e414 (g := (mkF m 30 #[iv u1, iv u2, iv u3, iv (2 : Int32), iv (1 : Int32), iv (0 : Int32), .unset, .unset, .unset] [(.ref b414), (.ref b414)])) rfl (by rw [hml]; rfl) (argsL := []) (rest := [(.ref b414)]) (lenOf own_pd0 rfl) rfl (by show 2 * 0 + _ ≤ _; exact Nat.le_of_eq rfl) (hb hby at_30) ?_
        intro v418 T418 L418 X418 q418
        obtain ⟨bm418, bt418, kt418, rfl, N418q, K418, f419, f420, f421, f422, f423, f424, f425, f426, f427, f428, f429, f430⟩ := q418
        have N418 := Fr.app N0 N418q
        show own_Goes p e below s _ _ _ T418 (mkF m 33 #[iv u1, iv u2, iv u3, iv (2 : Int32), iv (1 : Int32), iv (0 : Int32), .unset, .unset, .unset] [(.ref b414)])
        refine own_by (g' := (mkF m 36 #[iv u1, iv u2, iv u3, iv (2 : Int32), iv (1 : Int32), iv (0 : Int32), rv b414, .unset, .unset] [(.int u3)])) (fun t k => XS.astore X418.here hx rfl (hb hby at_33) rfl rfl (l' := #[iv u1, iv u2, iv u3, iv (2 : Int32), iv (1 : Int32), iv (0 : Int32), rv b414, .unset, .unset]) rfl (XS.iloadN X418.here hx rfl (hb hby at_35) rfl k)) ?_
        have f431 := ((O0.ext E414).keep K418 (allS g_b414 all0))
        refine own_callS X418 hx hZ hown (hw _ (List.mem_of_getElem? (i := 33) rfl)) (hw _ (List.mem_of_getElem? (i := 34) rfl)) (hw _ (List.mem_of_getElem? (i := 35) rfl)) (hw _ (List.mem_of_getElem? (i := 36) rfl)) (by decide) (own_valueOf l Z a0 hw [] (u3) (zc) T418.heap n0 (Nat.le_trans Z0 (Nat.le_trans E414.1 K418.1)) f431 S_high S_cache (by first | assumption | decide)) 0 (by decide) (by decide) (by decide) (by decide) rfl (g := (mkF m 36 #[iv u1, iv u2, iv u3, iv (2 : Int32), iv (1 : Int32), iv (0 : Int32), rv b414, .unset, .unset] [(.int u3)])) rfl (by rw [hml]; rfl) (argsL := [(.int u3)]) (rest := []) (lenOf own_pd12 rfl) rfl (by show 2 * 0 + _ ≤ _; exact Nat.le_of_eq rfl) (hb hby at_36) ?_
        intro v432 T432 L432 X432 q432
        obtain ⟨bo432, rfl, N432q, K432, f433⟩ := q432
        have N432 := Fr.app N418 N432q
        show own_Goes p e below s _ _ _ T432 (mkF m 39 #[iv u1, iv u2, iv u3, iv (2 : Int32), iv (1 : Int32), iv (0 : Int32), rv b414, .unset, .unset] [(.ref bo432)])
        refine own_by (g' := (mkF m 50 #[iv u1, iv u2, iv u3, iv (2 : Int32), iv (1 : Int32), iv (0 : Int32), rv b414, rv bo432, .unset] [(.ref bo432), (.ref b414)])) (fun t k => XS.astore X432.here hx rfl (hb hby at_39) rfl rfl (l' := #[iv u1, iv u2, iv u3, iv (2 : Int32), iv (1 : Int32), iv (0 : Int32), rv b414, rv bo432, .unset]) rfl (XS.iloadN X432.here hx rfl (hb hby at_41) rfl (XS.iconst X432.here hx rfl (hb hby at_42) (XS.icmpNo X432.here hx rfl (hb hby at_43) rfl (flt (by decide : ¬ ((2 : Int32) < (1 : Int32)))).1 (XS.aload X432.here hx rfl (hb hby at_46) rfl rfl (XS.aload X432.here hx rfl (hb hby at_48) rfl rfl k)))))) ?_
        have f434 := (f419.keep K432)
        have f435 := (f420.keep K432 nin0)
        have f436 := (f421.keep K432 nin0)
        have f437 := (f422.keep K432 nin0)
        refine own_callV X432 hx hZ hown (hw _ (List.mem_of_getElem? (i := 47) rfl)) (hw _ (List.mem_of_getElem? (i := 48) rfl)) (notFace_of_selects (args := #[]) (mvT hZ (hw _ (List.mem_of_getElem? (i := 50) rfl)))) (hw _ (List.mem_of_getElem? (i := 50) rfl)) (hw _ (List.mem_of_getElem? (i := 49) rfl)) (hw _ (List.mem_of_getElem? (i := 51) rfl)) (hw _ (List.mem_of_getElem? (i := 2) rfl)) (by decide) (a := b414) f434 (own_use0 l Z a0 hw [] (b414) ((.ref bo432)) (.null) ((0 : Int32)) (bm418) T432.heap n0 (Nat.le_trans Z0 (Nat.le_trans (Nat.le_trans E414.1 K418.1) K432.1)) f434 f435 f436 f437 rfl g_b414 rfl (by first | assumption | decide)) 0 (by decide) (by decide) (by decide) (by decide) rfl (g := (mkF m 50 #[iv u1, iv u2, iv u3, iv (2 : Int32), iv (1 : Int32), iv (0 : Int32), rv b414, rv bo432, .unset] [(.ref bo432), (.ref b414)])) rfl (by rw [hml]; rfl) (argsL := [(.ref bo432)]) (rest := []) (lenOf own_pd15 rfl) rfl (by show 2 * 0 + _ ≤ _; exact Nat.le_of_eq rfl) (hb hby at_50) ?_
        intro v438 T438 L438 X438 q438
        obtain ⟨rfl, N438q, K438, f439, f440, f441, f442⟩ := q438
        have N438 := Fr.app N432 N438q
        have f443 : Fld Z T438.heap b414 "com/example/purlin/purlin/framework/ServiceUse" "count" "I" (.int (1 : Int32)) := f441
        show own_Goes p e below s _ _ _ T438 (mkF m 53 #[iv u1, iv u2, iv u3, iv (2 : Int32), iv (1 : Int32), iv (0 : Int32), rv b414, rv bo432, .unset] [])
        refine own_by (g' := (mkF m 62 #[iv u1, iv u2, iv u3, iv (2 : Int32), iv (1 : Int32), iv (0 : Int32), rv b414, rv bo432, .unset] [(.ref bo432), (.ref b414)])) (fun t k => XS.iloadN X438.here hx rfl (hb hby at_53) rfl (XS.iconst X438.here hx rfl (hb hby at_54) (XS.icmpNo X438.here hx rfl (hb hby at_55) rfl (flt (by decide : ¬ ((2 : Int32) < (2 : Int32)))).1 (XS.aload X438.here hx rfl (hb hby at_58) rfl rfl (XS.aload X438.here hx rfl (hb hby at_60) rfl rfl k))))) ?_
        refine own_callV X438 hx hZ hown (hw _ (List.mem_of_getElem? (i := 47) rfl)) (hw _ (List.mem_of_getElem? (i := 48) rfl)) (notFace_of_selects (args := #[]) (mvT hZ (hw _ (List.mem_of_getElem? (i := 50) rfl)))) (hw _ (List.mem_of_getElem? (i := 50) rfl)) (hw _ (List.mem_of_getElem? (i := 49) rfl)) (hw _ (List.mem_of_getElem? (i := 51) rfl)) (hw _ (List.mem_of_getElem? (i := 2) rfl)) (by decide) (a := b414) f439 (own_use1 l Z a0 hw [] (b414) ((.ref bo432)) ((.ref bo432)) ((1 : Int32)) (bm418) T438.heap n0 (Nat.le_trans Z0 (Nat.le_trans (Nat.le_trans (Nat.le_trans E414.1 K418.1) K432.1) K438.1)) f439 f442 f440 f443 rfl g_b414 rfl (by first | assumption | decide)) 0 (by decide) (by decide) (by decide) (by decide) rfl (g := (mkF m 62 #[iv u1, iv u2, iv u3, iv (2 : Int32), iv (1 : Int32), iv (0 : Int32), rv b414, rv bo432, .unset] [(.ref bo432), (.ref b414)])) rfl (by rw [hml]; rfl) (argsL := [(.ref bo432)]) (rest := []) (lenOf own_pd15 rfl) rfl (by show 2 * 0 + _ ≤ _; exact Nat.le_of_eq rfl) (hb hby at_62) ?_
        intro v444 T444 L444 X444 q444
        obtain ⟨rfl, N444q, K444, f445, f446, f447, f448⟩ := q444
        have N444 := Fr.app N438 N444q
        have f449 : Fld Z T444.heap b414 "com/example/purlin/purlin/framework/ServiceUse" "count" "I" (.int (2 : Int32)) := f447
        show own_Goes p e below s _ _ _ T444 (mkF m 65 #[iv u1, iv u2, iv u3, iv (2 : Int32), iv (1 : Int32), iv (0 : Int32), rv b414, rv bo432, .unset] [])
        refine own_by (g' := (mkF m 85 #[iv u1, iv u2, iv u3, iv (2 : Int32), iv (1 : Int32), iv (0 : Int32), rv b414, rv bo432, .unset] [(.ref b414)])) (fun t k => XS.iloadN X444.here hx rfl (hb hby at_65) rfl (XS.iconst X444.here hx rfl (hb hby at_66) (XS.icmpYes X444.here hx rfl (pc0 := 67) (pc' := 77) rfl (hb hby at_67) rfl (tlt (by decide : (2 : Int32) < (3 : Int32))).1 (by decide) (by decide) (XS.iload X444.here hx rfl (hb hby at_77) rfl (XS.iconst X444.here hx rfl (hb hby at_79) (XS.icmpNo X444.here hx rfl (hb hby at_80) rfl (flt (by decide : ¬ ((1 : Int32) < (1 : Int32)))).1 (XS.aload X444.here hx rfl (hb hby at_83) rfl rfl k))))))) ?_
        refine own_callV X444 hx hZ hown (hw _ (List.mem_of_getElem? (i := 204) rfl)) (hw _ (List.mem_of_getElem? (i := 205) rfl)) (notFace_of_selects (args := #[]) (mvT hZ (hw _ (List.mem_of_getElem? (i := 207) rfl)))) (hw _ (List.mem_of_getElem? (i := 207) rfl)) (hw _ (List.mem_of_getElem? (i := 206) rfl)) (hw _ (List.mem_of_getElem? (i := 208) rfl)) (hw _ (List.mem_of_getElem? (i := 2) rfl)) (by decide) (a := b414) f445 (own_un1 l Z a0 hw [] (b414) ((.ref bo432)) ((2 : Int32)) (bm418) T444.heap n0 (Nat.le_trans Z0 (Nat.le_trans (Nat.le_trans (Nat.le_trans (Nat.le_trans E414.1 K418.1) K432.1) K438.1) K444.1)) f445 f448 f446 f449 rfl g_b414 (by first | assumption | decide)) 0 (by decide) (by decide) (by decide) (by decide) rfl (g := (mkF m 85 #[iv u1, iv u2, iv u3, iv (2 : Int32), iv (1 : Int32), iv (0 : Int32), rv b414, rv bo432, .unset] [(.ref b414)])) rfl (by rw [hml]; rfl) (argsL := []) (rest := []) (lenOf own_pd16 rfl) rfl (by show 2 * 0 + _ ≤ _; exact Nat.le_of_eq rfl) (hb hby at_85) ?_
        intro v450 T450 L450 X450 q450
        obtain ⟨rfl, N450q, K450, f451, f452, f453, f454⟩ := q450
        have N450 := Fr.app N444 N450q
        have f455 : Fld Z T450.heap b414 "com/example/purlin/purlin/framework/ServiceUse" "count" "I" (.int (1 : Int32)) := f453
        show own_Goes p e below s _ _ _ T450 (mkF m 88 #[iv u1, iv u2, iv u3, iv (2 : Int32), iv (1 : Int32), iv (0 : Int32), rv b414, rv bo432, .unset] [.null])
        refine own_by (g' := (mkF m 115 #[iv u1, iv u2, iv u3, iv (2 : Int32), iv (1 : Int32), iv (0 : Int32), rv b414, rv bo432, .unset] [(.int (0 : Int32))])) (fun t k => XS.pop X450.here hx rfl (hb hby at_88) rfl rfl (XS.iload X450.here hx rfl (hb hby at_89) rfl (XS.iconst X450.here hx rfl (hb hby at_91) (XS.icmpYes X450.here hx rfl (pc0 := 92) (pc' := 101) rfl (hb hby at_92) rfl (tlt (by decide : (1 : Int32) < (2 : Int32))).1 (by decide) (by decide) (XS.iload X450.here hx rfl (hb hby at_101) rfl (XS.iconst X450.here hx rfl (hb hby at_103) (XS.icmpYes X450.here hx rfl (pc0 := 104) (pc' := 113) rfl (hb hby at_104) rfl (tlt (by decide : (1 : Int32) < (3 : Int32))).1 (by decide) (by decide) (XS.iload X450.here hx rfl (hb hby at_113) rfl k)))))))) ?_
        refine own_by (g' := (mkF m 137 #[iv u1, iv u2, iv u3, iv (2 : Int32), iv (1 : Int32), iv (0 : Int32), rv b414, rv bo432, .unset] [(.int (1 : Int32))])) (fun t k => XS.ifYes X450.here hx rfl (pc0 := 115) (pc' := 124) rfl (hb hby at_115) rfl ((if0 _ _).trans (teq (by decide : (0 : Int32) = (0 : Int32))).1) (by decide) (by decide) (XS.iload X450.here hx rfl (hb hby at_124) rfl (XS.ifNo X450.here hx rfl (hb hby at_126) rfl ((if0 _ _).trans (teq (by decide : (0 : Int32) = (0 : Int32))).2) (XS.iloadN X450.here hx rfl (hb hby at_129) rfl (XS.iload X450.here hx rfl (hb hby at_130) rfl (XS.isub X450.here hx rfl (hb hby at_132) rfl (XS.ifNo X450.here hx rfl (hb hby at_133) rfl ((if0 _ _).trans (tlt (by decide : (0 : Int32) < (1 : Int32))).2.2.2) (XS.iconst X450.here hx rfl (hb hby at_136) k)))))))) ?_
        refine own_by (g' := (mkF m 145 #[iv u1, iv u2, iv u3, iv (2 : Int32), iv (1 : Int32), iv (0 : Int32), rv b414, rv bo432, iv (1 : Int32)] [(.ref b414)])) (fun t k => XS.goto X450.here hx rfl (pc0 := 137) (pc' := 141) rfl (hb hby at_137) (by decide) (by decide) (XS.istore X450.here hx rfl (hb hby at_141) rfl (l' := #[iv u1, iv u2, iv u3, iv (2 : Int32), iv (1 : Int32), iv (0 : Int32), rv b414, rv bo432, iv (1 : Int32)]) rfl (XS.aload X450.here hx rfl (hb hby at_143) rfl rfl k))) ?_
        refine own_callV X450 hx hZ hown (hw _ (List.mem_of_getElem? (i := 40) rfl)) (hw _ (List.mem_of_getElem? (i := 41) rfl)) (notFace_of_selects (args := #[]) (mvT hZ (hw _ (List.mem_of_getElem? (i := 43) rfl)))) (hw _ (List.mem_of_getElem? (i := 43) rfl)) (hw _ (List.mem_of_getElem? (i := 42) rfl)) (hw _ (List.mem_of_getElem? (i := 44) rfl)) (hw _ (List.mem_of_getElem? (i := 2) rfl)) (by decide) (a := b414) f451 (own_ic1 l Z a0 hw [] (b414) ((1 : Int32)) T450.heap n0 (Nat.le_trans Z0 (Nat.le_trans (Nat.le_trans (Nat.le_trans (Nat.le_trans (Nat.le_trans E414.1 K418.1) K432.1) K438.1) K444.1) K450.1)) f455 (by first | assumption | decide)) 0 (by decide) (by decide) (by decide) (by decide) rfl (g := (mkF m 145 #[iv u1, iv u2, iv u3, iv (2 : Int32), iv (1 : Int32), iv (0 : Int32), rv b414, rv bo432, iv (1 : Int32)] [(.ref b414)])) rfl (by rw [hml]; rfl) (argsL := []) (rest := []) (lenOf own_pd13 rfl) rfl (by show 2 * 0 + _ ≤ _; exact Nat.le_of_eq rfl) (hb hby at_145) ?_
        intro v456 T456 L456 X456 q456
        obtain ⟨rfl, N456q, e456⟩ := q456
        have N456 := Fr.app N450 N456q
        show own_Goes p e below s _ _ _ T456 (mkF m 148 #[iv u1, iv u2, iv u3, iv (2 : Int32), iv (1 : Int32), iv (0 : Int32), rv b414, rv bo432, iv (1 : Int32)] [(.int (1 : Int32))])
        refine own_by (g' := (mkF m 158 #[iv u1, iv u2, iv u3, iv (2 : Int32), iv (1 : Int32), iv (0 : Int32), rv b414, rv bo432, iv (1 : Int32)] [(.int (1 : Int32))])) (fun t k => XS.iload X456.here hx rfl (hb hby at_148) rfl (XS.icmpNo X456.here hx rfl (hb hby at_150) rfl (teq (by decide : (1 : Int32) = (1 : Int32))).2 (XS.iconst X456.here hx rfl (hb hby at_153) (XS.goto X456.here hx rfl (pc0 := 154) (pc' := 158) rfl (hb hby at_154) (by decide) (by decide) k)))) ?_
        refine own_retN X456 hx hlk hret (t := .boolean) (by simp) (hb hby at_158) (by decide) (by decide) ?_
        rw [e456]
        exact ⟨rfl, N456, (((((((Keep.refl h0 []).ext E414).trans K418 (allS (Or.inr sz_b414) all0)).trans K432 all0).trans K438 (allS (Or.inr sz_b414) all0)).trans K444 (allS (Or.inr sz_b414) all0)).trans K450 (allS (Or.inr sz_b414) all0))⟩
      ·
        refine own_by (g' := (mkF m 26 #[iv u1, iv u2, iv u3, iv (2 : Int32), iv (1 : Int32), iv (1 : Int32), .unset, .unset, .unset] [])) (fun t k => XS.ifNo X0.here hx rfl (hb hby at_16) rfl ((if0 _ _).trans (feq hc413).1) (XS.iconst X0.here hx rfl (hb hby at_19) (XS.goto X0.here hx rfl (pc0 := 20) (pc' := 24) rfl (hb hby at_20) (by decide) (by decide) (XS.istore X0.here hx rfl (hb hby at_24) rfl (l' := #[iv u1, iv u2, iv u3, iv (2 : Int32), iv (1 : Int32), iv (1 : Int32), .unset, .unset, .unset]) rfl k)))) ?_
        obtain ⟨T457, h457, X457, e457, E457, A457, D457, U457, st457⟩ := newO X0 hx hZ hown (hw _ (List.mem_of_getElem? (i := 0) rfl)) (hw _ (List.mem_of_getElem? (i := 1) rfl)) (hw _ (List.mem_of_getElem? (i := 2) rfl)) e0 (g := (mkF m 26 #[iv u1, iv u2, iv u3, iv (2 : Int32), iv (1 : Int32), iv (1 : Int32), .unset, .unset, .unset] [])) rfl (hb hby at_26) (by decide) (by decide)
        obtain ⟨b457, g457⟩ : ∃ z, z = h0.size := ⟨_, rfl⟩
        rw [← g457] at A457 D457 U457 st457
        have sz_b457 : h0.size ≤ b457 := Nat.le_trans (Nat.le_refl _) (Nat.le_of_eq g457.symm)
        have g_b457 : n0 ≤ b457 := Nat.le_trans Z0 sz_b457
        have f458 : Fld Z h457 b457 "com/example/purlin/purlin/framework/ServiceUse" "prototypes" "Ljava/util/Map;" .null := D457 (Or.inr (hw _ (List.mem_of_getElem? (i := 32) rfl))) (ty := (.object "java/util/Map")) (by decide)
        have f459 : Fld Z h457 b457 "com/example/purlin/purlin/framework/ServiceUse" "count" "I" (.int (0 : Int32)) := D457 (Or.inl (hw _ (List.mem_of_getElem? (i := 46) rfl))) (ty := .int) (by decide)
        have f460 : Fld Z h457 b457 "com/example/purlin/purlin/framework/ServiceUse" "object" "Ljava/lang/Object;" .null := D457 (Or.inl (hw _ (List.mem_of_getElem? (i := 53) rfl))) (ty := (.object "java/lang/Object")) (by decide)
        refine own_by (g' := (mkF m 29 #[iv u1, iv u2, iv u3, iv (2 : Int32), iv (1 : Int32), iv (1 : Int32), .unset, .unset, .unset] [(.ref b457)])) st457 ?_
        refine own_by (g' := (mkF m 30 #[iv u1, iv u2, iv u3, iv (2 : Int32), iv (1 : Int32), iv (1 : Int32), .unset, .unset, .unset] [(.ref b457), (.ref b457)])) (fun t k => XS.dup X457.here hx rfl (hb hby at_29) rfl rfl k) ?_
        refine own_callI X457 hx hZ hown rfl (hw _ (List.mem_of_getElem? (i := 3) rfl)) (hw _ (List.mem_of_getElem? (i := 4) rfl)) (hw _ (List.mem_of_getElem? (i := 2) rfl)) (hw _ (List.mem_of_getElem? (i := 5) rfl)) (by decide) (a := b457) (own_si l Z a0 hw [] (b457) h457 n0 (Nat.le_trans Z0 E457.1) A457 f458 f460 f459 g_b457) 1 (by decide) (by decide) (by decide) (by decide) e457 (g := (mkF m 30 #[iv u1, iv u2, iv u3, iv (2 : Int32), iv (1 : Int32), iv (1 : Int32), .unset, .unset, .unset] [(.ref b457), (.ref b457)])) rfl (by rw [hml]; rfl) (argsL := []) (rest := [(.ref b457)]) (lenOf own_pd0 rfl) rfl (by show 2 * 0 + _ ≤ _; exact Nat.le_of_eq rfl) (hb hby at_30) ?_
        intro v461 T461 L461 X461 q461
        obtain ⟨bm461, bt461, kt461, rfl, N461q, K461, f462, f463, f464, f465, f466, f467, f468, f469, f470, f471, f472, f473⟩ := q461
        have N461 := Fr.app N0 N461q
        show own_Goes p e below s _ _ _ T461 (mkF m 33 #[iv u1, iv u2, iv u3, iv (2 : Int32), iv (1 : Int32), iv (1 : Int32), .unset, .unset, .unset] [(.ref b457)])
        refine own_by (g' := (mkF m 36 #[iv u1, iv u2, iv u3, iv (2 : Int32), iv (1 : Int32), iv (1 : Int32), rv b457, .unset, .unset] [(.int u3)])) (fun t k => XS.astore X461.here hx rfl (hb hby at_33) rfl rfl (l' := #[iv u1, iv u2, iv u3, iv (2 : Int32), iv (1 : Int32), iv (1 : Int32), rv b457, .unset, .unset]) rfl (XS.iloadN X461.here hx rfl (hb hby at_35) rfl k)) ?_
        have f474 := ((O0.ext E457).keep K461 (allS g_b457 all0))
        refine own_callS X461 hx hZ hown (hw _ (List.mem_of_getElem? (i := 33) rfl)) (hw _ (List.mem_of_getElem? (i := 34) rfl)) (hw _ (List.mem_of_getElem? (i := 35) rfl)) (hw _ (List.mem_of_getElem? (i := 36) rfl)) (by decide) (own_valueOf l Z a0 hw [] (u3) (zc) T461.heap n0 (Nat.le_trans Z0 (Nat.le_trans E457.1 K461.1)) f474 S_high S_cache (by first | assumption | decide)) 0 (by decide) (by decide) (by decide) (by decide) rfl (g := (mkF m 36 #[iv u1, iv u2, iv u3, iv (2 : Int32), iv (1 : Int32), iv (1 : Int32), rv b457, .unset, .unset] [(.int u3)])) rfl (by rw [hml]; rfl) (argsL := [(.int u3)]) (rest := []) (lenOf own_pd12 rfl) rfl (by show 2 * 0 + _ ≤ _; exact Nat.le_of_eq rfl) (hb hby at_36) ?_
        intro v475 T475 L475 X475 q475
        obtain ⟨bo475, rfl, N475q, K475, f476⟩ := q475
        have N475 := Fr.app N461 N475q
        show own_Goes p e below s _ _ _ T475 (mkF m 39 #[iv u1, iv u2, iv u3, iv (2 : Int32), iv (1 : Int32), iv (1 : Int32), rv b457, .unset, .unset] [(.ref bo475)])
        refine own_by (g' := (mkF m 50 #[iv u1, iv u2, iv u3, iv (2 : Int32), iv (1 : Int32), iv (1 : Int32), rv b457, rv bo475, .unset] [(.ref bo475), (.ref b457)])) (fun t k => XS.astore X475.here hx rfl (hb hby at_39) rfl rfl (l' := #[iv u1, iv u2, iv u3, iv (2 : Int32), iv (1 : Int32), iv (1 : Int32), rv b457, rv bo475, .unset]) rfl (XS.iloadN X475.here hx rfl (hb hby at_41) rfl (XS.iconst X475.here hx rfl (hb hby at_42) (XS.icmpNo X475.here hx rfl (hb hby at_43) rfl (flt (by decide : ¬ ((2 : Int32) < (1 : Int32)))).1 (XS.aload X475.here hx rfl (hb hby at_46) rfl rfl (XS.aload X475.here hx rfl (hb hby at_48) rfl rfl k)))))) ?_
        have f477 := (f462.keep K475)
        have f478 := (f463.keep K475 nin0)
        have f479 := (f464.keep K475 nin0)
        have f480 := (f465.keep K475 nin0)
        refine own_callV X475 hx hZ hown (hw _ (List.mem_of_getElem? (i := 47) rfl)) (hw _ (List.mem_of_getElem? (i := 48) rfl)) (notFace_of_selects (args := #[]) (mvT hZ (hw _ (List.mem_of_getElem? (i := 50) rfl)))) (hw _ (List.mem_of_getElem? (i := 50) rfl)) (hw _ (List.mem_of_getElem? (i := 49) rfl)) (hw _ (List.mem_of_getElem? (i := 51) rfl)) (hw _ (List.mem_of_getElem? (i := 2) rfl)) (by decide) (a := b457) f477 (own_use0 l Z a0 hw [] (b457) ((.ref bo475)) (.null) ((0 : Int32)) (bm461) T475.heap n0 (Nat.le_trans Z0 (Nat.le_trans (Nat.le_trans E457.1 K461.1) K475.1)) f477 f478 f479 f480 rfl g_b457 rfl (by first | assumption | decide)) 0 (by decide) (by decide) (by decide) (by decide) rfl (g := (mkF m 50 #[iv u1, iv u2, iv u3, iv (2 : Int32), iv (1 : Int32), iv (1 : Int32), rv b457, rv bo475, .unset] [(.ref bo475), (.ref b457)])) rfl (by rw [hml]; rfl) (argsL := [(.ref bo475)]) (rest := []) (lenOf own_pd15 rfl) rfl (by show 2 * 0 + _ ≤ _; exact Nat.le_of_eq rfl) (hb hby at_50) ?_
        intro v481 T481 L481 X481 q481
        obtain ⟨rfl, N481q, K481, f482, f483, f484, f485⟩ := q481
        have N481 := Fr.app N475 N481q
        have f486 : Fld Z T481.heap b457 "com/example/purlin/purlin/framework/ServiceUse" "count" "I" (.int (1 : Int32)) := f484
        show own_Goes p e below s _ _ _ T481 (mkF m 53 #[iv u1, iv u2, iv u3, iv (2 : Int32), iv (1 : Int32), iv (1 : Int32), rv b457, rv bo475, .unset] [])
        refine own_by (g' := (mkF m 62 #[iv u1, iv u2, iv u3, iv (2 : Int32), iv (1 : Int32), iv (1 : Int32), rv b457, rv bo475, .unset] [(.ref bo475), (.ref b457)])) (fun t k => XS.iloadN X481.here hx rfl (hb hby at_53) rfl (XS.iconst X481.here hx rfl (hb hby at_54) (XS.icmpNo X481.here hx rfl (hb hby at_55) rfl (flt (by decide : ¬ ((2 : Int32) < (2 : Int32)))).1 (XS.aload X481.here hx rfl (hb hby at_58) rfl rfl (XS.aload X481.here hx rfl (hb hby at_60) rfl rfl k))))) ?_
        refine own_callV X481 hx hZ hown (hw _ (List.mem_of_getElem? (i := 47) rfl)) (hw _ (List.mem_of_getElem? (i := 48) rfl)) (notFace_of_selects (args := #[]) (mvT hZ (hw _ (List.mem_of_getElem? (i := 50) rfl)))) (hw _ (List.mem_of_getElem? (i := 50) rfl)) (hw _ (List.mem_of_getElem? (i := 49) rfl)) (hw _ (List.mem_of_getElem? (i := 51) rfl)) (hw _ (List.mem_of_getElem? (i := 2) rfl)) (by decide) (a := b457) f482 (own_use1 l Z a0 hw [] (b457) ((.ref bo475)) ((.ref bo475)) ((1 : Int32)) (bm461) T481.heap n0 (Nat.le_trans Z0 (Nat.le_trans (Nat.le_trans (Nat.le_trans E457.1 K461.1) K475.1) K481.1)) f482 f485 f483 f486 rfl g_b457 rfl (by first | assumption | decide)) 0 (by decide) (by decide) (by decide) (by decide) rfl (g := (mkF m 62 #[iv u1, iv u2, iv u3, iv (2 : Int32), iv (1 : Int32), iv (1 : Int32), rv b457, rv bo475, .unset] [(.ref bo475), (.ref b457)])) rfl (by rw [hml]; rfl) (argsL := [(.ref bo475)]) (rest := []) (lenOf own_pd15 rfl) rfl (by show 2 * 0 + _ ≤ _; exact Nat.le_of_eq rfl) (hb hby at_62) ?_
        intro v487 T487 L487 X487 q487
        obtain ⟨rfl, N487q, K487, f488, f489, f490, f491⟩ := q487
        have N487 := Fr.app N481 N487q
        have f492 : Fld Z T487.heap b457 "com/example/purlin/purlin/framework/ServiceUse" "count" "I" (.int (2 : Int32)) := f490
        show own_Goes p e below s _ _ _ T487 (mkF m 65 #[iv u1, iv u2, iv u3, iv (2 : Int32), iv (1 : Int32), iv (1 : Int32), rv b457, rv bo475, .unset] [])
        refine own_by (g' := (mkF m 85 #[iv u1, iv u2, iv u3, iv (2 : Int32), iv (1 : Int32), iv (1 : Int32), rv b457, rv bo475, .unset] [(.ref b457)])) (fun t k => XS.iloadN X487.here hx rfl (hb hby at_65) rfl (XS.iconst X487.here hx rfl (hb hby at_66) (XS.icmpYes X487.here hx rfl (pc0 := 67) (pc' := 77) rfl (hb hby at_67) rfl (tlt (by decide : (2 : Int32) < (3 : Int32))).1 (by decide) (by decide) (XS.iload X487.here hx rfl (hb hby at_77) rfl (XS.iconst X487.here hx rfl (hb hby at_79) (XS.icmpNo X487.here hx rfl (hb hby at_80) rfl (flt (by decide : ¬ ((1 : Int32) < (1 : Int32)))).1 (XS.aload X487.here hx rfl (hb hby at_83) rfl rfl k))))))) ?_
        refine own_callV X487 hx hZ hown (hw _ (List.mem_of_getElem? (i := 204) rfl)) (hw _ (List.mem_of_getElem? (i := 205) rfl)) (notFace_of_selects (args := #[]) (mvT hZ (hw _ (List.mem_of_getElem? (i := 207) rfl)))) (hw _ (List.mem_of_getElem? (i := 207) rfl)) (hw _ (List.mem_of_getElem? (i := 206) rfl)) (hw _ (List.mem_of_getElem? (i := 208) rfl)) (hw _ (List.mem_of_getElem? (i := 2) rfl)) (by decide) (a := b457) f488 (own_un1 l Z a0 hw [] (b457) ((.ref bo475)) ((2 : Int32)) (bm461) T487.heap n0 (Nat.le_trans Z0 (Nat.le_trans (Nat.le_trans (Nat.le_trans (Nat.le_trans E457.1 K461.1) K475.1) K481.1) K487.1)) f488 f491 f489 f492 rfl g_b457 (by first | assumption | decide)) 0 (by decide) (by decide) (by decide) (by decide) rfl (g := (mkF m 85 #[iv u1, iv u2, iv u3, iv (2 : Int32), iv (1 : Int32), iv (1 : Int32), rv b457, rv bo475, .unset] [(.ref b457)])) rfl (by rw [hml]; rfl) (argsL := []) (rest := []) (lenOf own_pd16 rfl) rfl (by show 2 * 0 + _ ≤ _; exact Nat.le_of_eq rfl) (hb hby at_85) ?_
        intro v493 T493 L493 X493 q493
        obtain ⟨rfl, N493q, K493, f494, f495, f496, f497⟩ := q493
        have N493 := Fr.app N487 N493q
        have f498 : Fld Z T493.heap b457 "com/example/purlin/purlin/framework/ServiceUse" "count" "I" (.int (1 : Int32)) := f496
        show own_Goes p e below s _ _ _ T493 (mkF m 88 #[iv u1, iv u2, iv u3, iv (2 : Int32), iv (1 : Int32), iv (1 : Int32), rv b457, rv bo475, .unset] [.null])
        refine own_by (g' := (mkF m 115 #[iv u1, iv u2, iv u3, iv (2 : Int32), iv (1 : Int32), iv (1 : Int32), rv b457, rv bo475, .unset] [(.int (1 : Int32))])) (fun t k => XS.pop X493.here hx rfl (hb hby at_88) rfl rfl (XS.iload X493.here hx rfl (hb hby at_89) rfl (XS.iconst X493.here hx rfl (hb hby at_91) (XS.icmpYes X493.here hx rfl (pc0 := 92) (pc' := 101) rfl (hb hby at_92) rfl (tlt (by decide : (1 : Int32) < (2 : Int32))).1 (by decide) (by decide) (XS.iload X493.here hx rfl (hb hby at_101) rfl (XS.iconst X493.here hx rfl (hb hby at_103) (XS.icmpYes X493.here hx rfl (pc0 := 104) (pc' := 113) rfl (hb hby at_104) rfl (tlt (by decide : (1 : Int32) < (3 : Int32))).1 (by decide) (by decide) (XS.iload X493.here hx rfl (hb hby at_113) rfl k)))))))) ?_
        refine own_by (g' := (mkF m 120 #[iv u1, iv u2, iv u3, iv (2 : Int32), iv (1 : Int32), iv (1 : Int32), rv b457, rv bo475, .unset] [(.ref b457)])) (fun t k => XS.ifNo X493.here hx rfl (hb hby at_115) rfl ((if0 _ _).trans (feq (by decide : ¬ ((1 : Int32) = (0 : Int32)))).1) (XS.aload X493.here hx rfl (hb hby at_118) rfl rfl k)) ?_
        have f499 := (((f476.keep K481).keep K487).keep K493)
        have f500 := ((((f467.keep K475).keep K481).keep K487).keep K493)
        have f501 := ((((f468.keep K475 nin0).keep K481 (ninS (Ne.symm (Nat.ne_of_lt (Nat.lt_of_lt_of_le (Nat.lt_of_lt_of_le A457.lt (Nat.le_refl _)) f466))) nin0)).keep K487 (ninS (Ne.symm (Nat.ne_of_lt (Nat.lt_of_lt_of_le (Nat.lt_of_lt_of_le A457.lt (Nat.le_refl _)) f466))) nin0)).keep K493 (ninS (Ne.symm (Nat.ne_of_lt (Nat.lt_of_lt_of_le (Nat.lt_of_lt_of_le A457.lt (Nat.le_refl _)) f466))) nin0))
        have f502 := ((((f469.keep K475 nin0).keep K481 (ninS (Ne.symm (Nat.ne_of_lt (Nat.lt_of_lt_of_le (Nat.lt_of_lt_of_le A457.lt (Nat.le_refl _)) f466))) nin0)).keep K487 (ninS (Ne.symm (Nat.ne_of_lt (Nat.lt_of_lt_of_le (Nat.lt_of_lt_of_le A457.lt (Nat.le_refl _)) f466))) nin0)).keep K493 (ninS (Ne.symm (Nat.ne_of_lt (Nat.lt_of_lt_of_le (Nat.lt_of_lt_of_le A457.lt (Nat.le_refl _)) f466))) nin0))
        have f503 := ((((f470.keep K475 nin0).keep K481 (ninS (Ne.symm (Nat.ne_of_lt (Nat.lt_of_lt_of_le (Nat.lt_of_lt_of_le A457.lt (Nat.le_refl _)) f466))) nin0)).keep K487 (ninS (Ne.symm (Nat.ne_of_lt (Nat.lt_of_lt_of_le (Nat.lt_of_lt_of_le A457.lt (Nat.le_refl _)) f466))) nin0)).keep K493 (ninS (Ne.symm (Nat.ne_of_lt (Nat.lt_of_lt_of_le (Nat.lt_of_lt_of_le A457.lt (Nat.le_refl _)) f466))) nin0))
        have f504 := ((((f472.keep K475 nin0).keep K481 (ninS (Ne.symm (Nat.ne_of_lt (Nat.lt_of_lt_of_le (Nat.lt_of_lt_of_le A457.lt (Nat.le_refl _)) f466))) nin0)).keep K487 (ninS (Ne.symm (Nat.ne_of_lt (Nat.lt_of_lt_of_le (Nat.lt_of_lt_of_le A457.lt (Nat.le_refl _)) f466))) nin0)).keep K493 (ninS (Ne.symm (Nat.ne_of_lt (Nat.lt_of_lt_of_le (Nat.lt_of_lt_of_le A457.lt (Nat.le_refl _)) f466))) nin0))
        have f505 := ((((f473.keep K475 nin0).keep K481 (ninS (Ne.symm (Nat.ne_of_lt (Nat.lt_of_lt_of_le (Nat.lt_of_lt_of_le A457.lt (Nat.le_refl _)) f471))) nin0)).keep K487 (ninS (Ne.symm (Nat.ne_of_lt (Nat.lt_of_lt_of_le (Nat.lt_of_lt_of_le A457.lt (Nat.le_refl _)) f471))) nin0)).keep K493 (ninS (Ne.symm (Nat.ne_of_lt (Nat.lt_of_lt_of_le (Nat.lt_of_lt_of_le A457.lt (Nat.le_refl _)) f471))) nin0))
        have f506 := ((((f474.keep K475 all0).keep K481 (allS g_b457 all0)).keep K487 (allS g_b457 all0)).keep K493 (allS g_b457 all0))
        have f507 := ((((((Yd.ext E457).keep K461 (ninS (Nat.ne_of_lt (Nat.lt_of_lt_of_le (Nat.lt_of_lt_of_le Yd.lt (Nat.le_refl _)) (Nat.le_of_eq g457.symm))) nin0)).keep K475 nin0).keep K481 (ninS (Nat.ne_of_lt (Nat.lt_of_lt_of_le (Nat.lt_of_lt_of_le Yd.lt (Nat.le_refl _)) (Nat.le_of_eq g457.symm))) nin0)).keep K487 (ninS (Nat.ne_of_lt (Nat.lt_of_lt_of_le (Nat.lt_of_lt_of_le Yd.lt (Nat.le_refl _)) (Nat.le_of_eq g457.symm))) nin0)).keep K493 (ninS (Nat.ne_of_lt (Nat.lt_of_lt_of_le (Nat.lt_of_lt_of_le Yd.lt (Nat.le_refl _)) (Nat.le_of_eq g457.symm))) nin0))
        refine own_callV X493 hx hZ hown (hw _ (List.mem_of_getElem? (i := 54) rfl)) (hw _ (List.mem_of_getElem? (i := 55) rfl)) (notFace_of_selects (args := #[]) (mvT hZ (hw _ (List.mem_of_getElem? (i := 57) rfl)))) (hw _ (List.mem_of_getElem? (i := 57) rfl)) (hw _ (List.mem_of_getElem? (i := 56) rfl)) (hw _ (List.mem_of_getElem? (i := 58) rfl)) (hw _ (List.mem_of_getElem? (i := 2) rfl)) (by decide) (a := b457) f494 (own_clear1 l Z a0 hw [] (b457) (bm461) (bt461) (kt461) (zd) ((1 : Int32)) (bo475) T493.heap n0 (Nat.le_trans Z0 (Nat.le_trans (Nat.le_trans (Nat.le_trans (Nat.le_trans (Nat.le_trans E457.1 K461.1) K475.1) K481.1) K487.1) K493.1)) f494 f497 f495 f498 g_b457 f499 (by first | assumption | decide) f500 f501 f502 f503 f504 f505 (Nat.le_trans (Nat.le_trans Z0 E457.1) f466) (Nat.le_trans (Nat.le_trans Z0 E457.1) f471) f506 S_dflt f507) 0 (by decide) (by decide) (by decide) (by decide) rfl (g := (mkF m 120 #[iv u1, iv u2, iv u3, iv (2 : Int32), iv (1 : Int32), iv (1 : Int32), rv b457, rv bo475, .unset] [(.ref b457)])) rfl (by rw [hml]; rfl) (argsL := []) (rest := []) (lenOf own_pd14 rfl) rfl (by show 2 * 0 + _ ≤ _; exact Nat.le_of_eq rfl) (hb hby at_120) ?_
        intro v508 T508 L508 X508 q508
        obtain ⟨bl508, rfl, N508q, K508, f509, f510⟩ := q508
        have N508 := Fr.app N493 N508q
        show own_Goes p e below s _ _ _ T508 (mkF m 123 #[iv u1, iv u2, iv u3, iv (2 : Int32), iv (1 : Int32), iv (1 : Int32), rv b457, rv bo475, .unset] [(.ref bl508)])
        refine own_by (g' := (mkF m 145 #[iv u1, iv u2, iv u3, iv (2 : Int32), iv (1 : Int32), iv (1 : Int32), rv b457, rv bo475, iv (0 : Int32)] [(.ref b457)])) (fun t k => XS.pop X508.here hx rfl (hb hby at_123) rfl rfl (XS.iload X508.here hx rfl (hb hby at_124) rfl (XS.ifYes X508.here hx rfl (pc0 := 126) (pc' := 140) rfl (hb hby at_126) rfl ((if0 _ _).trans (feq (by decide : ¬ ((1 : Int32) = (0 : Int32)))).2) (by decide) (by decide) (XS.iconst X508.here hx rfl (hb hby at_140) (XS.istore X508.here hx rfl (hb hby at_141) rfl (l' := #[iv u1, iv u2, iv u3, iv (2 : Int32), iv (1 : Int32), iv (1 : Int32), rv b457, rv bo475, iv (0 : Int32)]) rfl (XS.aload X508.here hx rfl (hb hby at_143) rfl rfl k)))))) ?_
        refine own_callV X508 hx hZ hown (hw _ (List.mem_of_getElem? (i := 40) rfl)) (hw _ (List.mem_of_getElem? (i := 41) rfl)) (notFace_of_selects (args := #[]) (mvT hZ (hw _ (List.mem_of_getElem? (i := 43) rfl)))) (hw _ (List.mem_of_getElem? (i := 43) rfl)) (hw _ (List.mem_of_getElem? (i := 42) rfl)) (hw _ (List.mem_of_getElem? (i := 44) rfl)) (hw _ (List.mem_of_getElem? (i := 2) rfl)) (by decide) (a := b457) f509 (own_ic0 l Z a0 hw [] (b457) ((0 : Int32)) T508.heap n0 (Nat.le_trans Z0 (Nat.le_trans (Nat.le_trans (Nat.le_trans (Nat.le_trans (Nat.le_trans (Nat.le_trans E457.1 K461.1) K475.1) K481.1) K487.1) K493.1) K508.1)) f510 (by first | assumption | decide)) 0 (by decide) (by decide) (by decide) (by decide) rfl (g := (mkF m 145 #[iv u1, iv u2, iv u3, iv (2 : Int32), iv (1 : Int32), iv (1 : Int32), rv b457, rv bo475, iv (0 : Int32)] [(.ref b457)])) rfl (by rw [hml]; rfl) (argsL := []) (rest := []) (lenOf own_pd13 rfl) rfl (by show 2 * 0 + _ ≤ _; exact Nat.le_of_eq rfl) (hb hby at_145) ?_
        intro v511 T511 L511 X511 q511
        obtain ⟨rfl, N511q, e511⟩ := q511
        have N511 := Fr.app N508 N511q
        show own_Goes p e below s _ _ _ T511 (mkF m 148 #[iv u1, iv u2, iv u3, iv (2 : Int32), iv (1 : Int32), iv (1 : Int32), rv b457, rv bo475, iv (0 : Int32)] [(.int (0 : Int32))])
        refine own_by (g' := (mkF m 158 #[iv u1, iv u2, iv u3, iv (2 : Int32), iv (1 : Int32), iv (1 : Int32), rv b457, rv bo475, iv (0 : Int32)] [(.int (1 : Int32))])) (fun t k => XS.iload X511.here hx rfl (hb hby at_148) rfl (XS.icmpNo X511.here hx rfl (hb hby at_150) rfl (teq (by decide : (0 : Int32) = (0 : Int32))).2 (XS.iconst X511.here hx rfl (hb hby at_153) (XS.goto X511.here hx rfl (pc0 := 154) (pc' := 158) rfl (hb hby at_154) (by decide) (by decide) k)))) ?_
        refine own_retN X511 hx hlk hret (t := .boolean) (by simp) (hb hby at_158) (by decide) (by decide) ?_
        rw [e511]
        exact ⟨rfl, N511, ((((((((Keep.refl h0 []).ext E457).trans K461 (allS (Or.inr sz_b457) all0)).trans K475 all0).trans K481 (allS (Or.inr sz_b457) all0)).trans K487 (allS (Or.inr sz_b457) all0)).trans K493 (allS (Or.inr sz_b457) all0)).trans K508 (allS (Or.inr sz_b457) (allS (Or.inr (Nat.le_trans E457.1 f466)) (allS (Or.inr (Nat.le_trans E457.1 f471)) all0))))⟩
    ·
      rw [q325]
      refine own_by (g' := (mkF m 16 #[iv u1, iv u2, iv u3, iv (2 : Int32), iv (2 : Int32), .unset, .unset, .unset, .unset] [(.int (u3 &&& (1 : Int32)))])) (fun t k => XS.istore X0.here hx rfl (hb hby at_11) rfl (l' := #[iv u1, iv u2, iv u3, iv (2 : Int32), iv (2 : Int32), .unset, .unset, .unset, .unset]) rfl (XS.iloadN X0.here hx rfl (hb hby at_13) rfl (XS.iconst X0.here hx rfl (hb hby at_14) (XS.iand X0.here hx rfl (hb hby at_15) rfl k)))) ?_
      by_cases hc512 : (u3 &&& (1 : Int32)) = (0 : Int32)
      ·
        refine own_by (g' := (mkF m 26 #[iv u1, iv u2, iv u3, iv (2 : Int32), iv (2 : Int32), iv (0 : Int32), .unset, .unset, .unset] [])) (fun t k => XS.ifYes X0.here hx rfl (pc0 := 16) (pc' := 23) rfl (hb hby at_16) rfl ((if0 _ _).trans (teq hc512).1) (by decide) (by decide) (XS.iconst X0.here hx rfl (hb hby at_23) (XS.istore X0.here hx rfl (hb hby at_24) rfl (l' := #[iv u1, iv u2, iv u3, iv (2 : Int32), iv (2 : Int32), iv (0 : Int32), .unset, .unset, .unset]) rfl k))) ?_
        obtain ⟨T513, h513, X513, e513, E513, A513, D513, U513, st513⟩ := newO X0 hx hZ hown (hw _ (List.mem_of_getElem? (i := 0) rfl)) (hw _ (List.mem_of_getElem? (i := 1) rfl)) (hw _ (List.mem_of_getElem? (i := 2) rfl)) e0 (g := (mkF m 26 #[iv u1, iv u2, iv u3, iv (2 : Int32), iv (2 : Int32), iv (0 : Int32), .unset, .unset, .unset] [])) rfl (hb hby at_26) (by decide) (by decide)
        obtain ⟨b513, g513⟩ : ∃ z, z = h0.size := ⟨_, rfl⟩
        rw [← g513] at A513 D513 U513 st513
        have sz_b513 : h0.size ≤ b513 := Nat.le_trans (Nat.le_refl _) (Nat.le_of_eq g513.symm)
        have g_b513 : n0 ≤ b513 := Nat.le_trans Z0 sz_b513
        have f514 : Fld Z h513 b513 "com/example/purlin/purlin/framework/ServiceUse" "prototypes" "Ljava/util/Map;" .null := D513 (Or.inr (hw _ (List.mem_of_getElem? (i := 32) rfl))) (ty := (.object "java/util/Map")) (by decide)
        have f515 : Fld Z h513 b513 "com/example/purlin/purlin/framework/ServiceUse" "count" "I" (.int (0 : Int32)) := D513 (Or.inl (hw _ (List.mem_of_getElem? (i := 46) rfl))) (ty := .int) (by decide)
        have f516 : Fld Z h513 b513 "com/example/purlin/purlin/framework/ServiceUse" "object" "Ljava/lang/Object;" .null := D513 (Or.inl (hw _ (List.mem_of_getElem? (i := 53) rfl))) (ty := (.object "java/lang/Object")) (by decide)
        refine own_by (g' := (mkF m 29 #[iv u1, iv u2, iv u3, iv (2 : Int32), iv (2 : Int32), iv (0 : Int32), .unset, .unset, .unset] [(.ref b513)])) st513 ?_
        refine own_by (g' := (mkF m 30 #[iv u1, iv u2, iv u3, iv (2 : Int32), iv (2 : Int32), iv (0 : Int32), .unset, .unset, .unset] [(.ref b513), (.ref b513)])) (fun t k => XS.dup X513.here hx rfl (hb hby at_29) rfl rfl k) ?_
        refine own_callI X513 hx hZ hown rfl (hw _ (List.mem_of_getElem? (i := 3) rfl)) (hw _ (List.mem_of_getElem? (i := 4) rfl)) (hw _ (List.mem_of_getElem? (i := 2) rfl)) (hw _ (List.mem_of_getElem? (i := 5) rfl)) (by decide) (a := b513) (own_si l Z a0 hw [] (b513) h513 n0 (Nat.le_trans Z0 E513.1) A513 f514 f516 f515 g_b513) 1 (by decide) (by decide) (by decide) (by decide) e513 (g := (mkF m 30 #[iv u1, iv u2, iv u3, iv (2 : Int32), iv (2 : Int32), iv (0 : Int32), .unset, .unset, .unset] [(.ref b513), (.ref b513)])) rfl (by rw [hml]; rfl) (argsL := []) (rest := [(.ref b513)]) (lenOf own_pd0 rfl) rfl (by show 2 * 0 + _ ≤ _; exact Nat.le_of_eq rfl) (hb hby at_30) ?_
        intro v517 T517 L517 X517 q517
        obtain ⟨bm517, bt517, kt517, rfl, N517q, K517, f518, f519, f520, f521, f522, f523, f524, f525, f526, f527, f528, f529⟩ := q517
        have N517 := Fr.app N0 N517q
        show own_Goes p e below s _ _ _ T517 (mkF m 33 #[iv u1, iv u2, iv u3, iv (2 : Int32), iv (2 : Int32), iv (0 : Int32), .unset, .unset, .unset] [(.ref b513)])
        refine own_by (g' := (mkF m 36 #[iv u1, iv u2, iv u3, iv (2 : Int32), iv (2 : Int32), iv (0 : Int32), rv b513, .unset, .unset] [(.int u3)])) (fun t k => XS.astore X517.here hx rfl (hb hby at_33) rfl rfl (l' := #[iv u1, iv u2, iv u3, iv (2 : Int32), iv (2 : Int32), iv (0 : Int32), rv b513, .unset, .unset]) rfl (XS.iloadN X517.here hx rfl (hb hby at_35) rfl k)) ?_
        have f530 := ((O0.ext E513).keep K517 (allS g_b513 all0))
        refine own_callS X517 hx hZ hown (hw _ (List.mem_of_getElem? (i := 33) rfl)) (hw _ (List.mem_of_getElem? (i := 34) rfl)) (hw _ (List.mem_of_getElem? (i := 35) rfl)) (hw _ (List.mem_of_getElem? (i := 36) rfl)) (by decide) (own_valueOf l Z a0 hw [] (u3) (zc) T517.heap n0 (Nat.le_trans Z0 (Nat.le_trans E513.1 K517.1)) f530 S_high S_cache (by first | assumption | decide)) 0 (by decide) (by decide) (by decide) (by decide) rfl (g := (mkF m 36 #[iv u1, iv u2, iv u3, iv (2 : Int32), iv (2 : Int32), iv (0 : Int32), rv b513, .unset, .unset] [(.int u3)])) rfl (by rw [hml]; rfl) (argsL := [(.int u3)]) (rest := []) (lenOf own_pd12 rfl) rfl (by show 2 * 0 + _ ≤ _; exact Nat.le_of_eq rfl) (hb hby at_36) ?_
        intro v531 T531 L531 X531 q531
        obtain ⟨bo531, rfl, N531q, K531, f532⟩ := q531
        have N531 := Fr.app N517 N531q
        show own_Goes p e below s _ _ _ T531 (mkF m 39 #[iv u1, iv u2, iv u3, iv (2 : Int32), iv (2 : Int32), iv (0 : Int32), rv b513, .unset, .unset] [(.ref bo531)])
        refine own_by (g' := (mkF m 50 #[iv u1, iv u2, iv u3, iv (2 : Int32), iv (2 : Int32), iv (0 : Int32), rv b513, rv bo531, .unset] [(.ref bo531), (.ref b513)])) (fun t k => XS.astore X531.here hx rfl (hb hby at_39) rfl rfl (l' := #[iv u1, iv u2, iv u3, iv (2 : Int32), iv (2 : Int32), iv (0 : Int32), rv b513, rv bo531, .unset]) rfl (XS.iloadN X531.here hx rfl (hb hby at_41) rfl (XS.iconst X531.here hx rfl (hb hby at_42) (XS.icmpNo X531.here hx rfl (hb hby at_43) rfl (flt (by decide : ¬ ((2 : Int32) < (1 : Int32)))).1 (XS.aload X531.here hx rfl (hb hby at_46) rfl rfl (XS.aload X531.here hx rfl (hb hby at_48) rfl rfl k)))))) ?_
        have f533 := (f518.keep K531)
        have f534 := (f519.keep K531 nin0)
        have f535 := (f520.keep K531 nin0)
        have f536 := (f521.keep K531 nin0)
        refine own_callV X531 hx hZ hown (hw _ (List.mem_of_getElem? (i := 47) rfl)) (hw _ (List.mem_of_getElem? (i := 48) rfl)) (notFace_of_selects (args := #[]) (mvT hZ (hw _ (List.mem_of_getElem? (i := 50) rfl)))) (hw _ (List.mem_of_getElem? (i := 50) rfl)) (hw _ (List.mem_of_getElem? (i := 49) rfl)) (hw _ (List.mem_of_getElem? (i := 51) rfl)) (hw _ (List.mem_of_getElem? (i := 2) rfl)) (by decide) (a := b513) f533 (own_use0 l Z a0 hw [] (b513) ((.ref bo531)) (.null) ((0 : Int32)) (bm517) T531.heap n0 (Nat.le_trans Z0 (Nat.le_trans (Nat.le_trans E513.1 K517.1) K531.1)) f533 f534 f535 f536 rfl g_b513 rfl (by first | assumption | decide)) 0 (by decide) (by decide) (by decide) (by decide) rfl (g := (mkF m 50 #[iv u1, iv u2, iv u3, iv (2 : Int32), iv (2 : Int32), iv (0 : Int32), rv b513, rv bo531, .unset] [(.ref bo531), (.ref b513)])) rfl (by rw [hml]; rfl) (argsL := [(.ref bo531)]) (rest := []) (lenOf own_pd15 rfl) rfl (by show 2 * 0 + _ ≤ _; exact Nat.le_of_eq rfl) (hb hby at_50) ?_
        intro v537 T537 L537 X537 q537
        obtain ⟨rfl, N537q, K537, f538, f539, f540, f541⟩ := q537
        have N537 := Fr.app N531 N537q
        have f542 : Fld Z T537.heap b513 "com/example/purlin/purlin/framework/ServiceUse" "count" "I" (.int (1 : Int32)) := f540
        show own_Goes p e below s _ _ _ T537 (mkF m 53 #[iv u1, iv u2, iv u3, iv (2 : Int32), iv (2 : Int32), iv (0 : Int32), rv b513, rv bo531, .unset] [])
        refine own_by (g' := (mkF m 62 #[iv u1, iv u2, iv u3, iv (2 : Int32), iv (2 : Int32), iv (0 : Int32), rv b513, rv bo531, .unset] [(.ref bo531), (.ref b513)])) (fun t k => XS.iloadN X537.here hx rfl (hb hby at_53) rfl (XS.iconst X537.here hx rfl (hb hby at_54) (XS.icmpNo X537.here hx rfl (hb hby at_55) rfl (flt (by decide : ¬ ((2 : Int32) < (2 : Int32)))).1 (XS.aload X537.here hx rfl (hb hby at_58) rfl rfl (XS.aload X537.here hx rfl (hb hby at_60) rfl rfl k))))) ?_
        refine own_callV X537 hx hZ hown (hw _ (List.mem_of_getElem? (i := 47) rfl)) (hw _ (List.mem_of_getElem? (i := 48) rfl)) (notFace_of_selects (args := #[]) (mvT hZ (hw _ (List.mem_of_getElem? (i := 50) rfl)))) (hw _ (List.mem_of_getElem? (i := 50) rfl)) (hw _ (List.mem_of_getElem? (i := 49) rfl)) (hw _ (List.mem_of_getElem? (i := 51) rfl)) (hw _ (List.mem_of_getElem? (i := 2) rfl)) (by decide) (a := b513) f538 (own_use1 l Z a0 hw [] (b513) ((.ref bo531)) ((.ref bo531)) ((1 : Int32)) (bm517) T537.heap n0 (Nat.le_trans Z0 (Nat.le_trans (Nat.le_trans (Nat.le_trans E513.1 K517.1) K531.1) K537.1)) f538 f541 f539 f542 rfl g_b513 rfl (by first | assumption | decide)) 0 (by decide) (by decide) (by decide) (by decide) rfl (g := (mkF m 62 #[iv u1, iv u2, iv u3, iv (2 : Int32), iv (2 : Int32), iv (0 : Int32), rv b513, rv bo531, .unset] [(.ref bo531), (.ref b513)])) rfl (by rw [hml]; rfl) (argsL := [(.ref bo531)]) (rest := []) (lenOf own_pd15 rfl) rfl (by show 2 * 0 + _ ≤ _; exact Nat.le_of_eq rfl) (hb hby at_62) ?_
        intro v543 T543 L543 X543 q543
        obtain ⟨rfl, N543q, K543, f544, f545, f546, f547⟩ := q543
        have N543 := Fr.app N537 N543q
        have f548 : Fld Z T543.heap b513 "com/example/purlin/purlin/framework/ServiceUse" "count" "I" (.int (2 : Int32)) := f546
        show own_Goes p e below s _ _ _ T543 (mkF m 65 #[iv u1, iv u2, iv u3, iv (2 : Int32), iv (2 : Int32), iv (0 : Int32), rv b513, rv bo531, .unset] [])
        refine own_by (g' := (mkF m 85 #[iv u1, iv u2, iv u3, iv (2 : Int32), iv (2 : Int32), iv (0 : Int32), rv b513, rv bo531, .unset] [(.ref b513)])) (fun t k => XS.iloadN X543.here hx rfl (hb hby at_65) rfl (XS.iconst X543.here hx rfl (hb hby at_66) (XS.icmpYes X543.here hx rfl (pc0 := 67) (pc' := 77) rfl (hb hby at_67) rfl (tlt (by decide : (2 : Int32) < (3 : Int32))).1 (by decide) (by decide) (XS.iload X543.here hx rfl (hb hby at_77) rfl (XS.iconst X543.here hx rfl (hb hby at_79) (XS.icmpNo X543.here hx rfl (hb hby at_80) rfl (flt (by decide : ¬ ((2 : Int32) < (1 : Int32)))).1 (XS.aload X543.here hx rfl (hb hby at_83) rfl rfl k))))))) ?_
        refine own_callV X543 hx hZ hown (hw _ (List.mem_of_getElem? (i := 204) rfl)) (hw _ (List.mem_of_getElem? (i := 205) rfl)) (notFace_of_selects (args := #[]) (mvT hZ (hw _ (List.mem_of_getElem? (i := 207) rfl)))) (hw _ (List.mem_of_getElem? (i := 207) rfl)) (hw _ (List.mem_of_getElem? (i := 206) rfl)) (hw _ (List.mem_of_getElem? (i := 208) rfl)) (hw _ (List.mem_of_getElem? (i := 2) rfl)) (by decide) (a := b513) f544 (own_un1 l Z a0 hw [] (b513) ((.ref bo531)) ((2 : Int32)) (bm517) T543.heap n0 (Nat.le_trans Z0 (Nat.le_trans (Nat.le_trans (Nat.le_trans (Nat.le_trans E513.1 K517.1) K531.1) K537.1) K543.1)) f544 f547 f545 f548 rfl g_b513 (by first | assumption | decide)) 0 (by decide) (by decide) (by decide) (by decide) rfl (g := (mkF m 85 #[iv u1, iv u2, iv u3, iv (2 : Int32), iv (2 : Int32), iv (0 : Int32), rv b513, rv bo531, .unset] [(.ref b513)])) rfl (by rw [hml]; rfl) (argsL := []) (rest := []) (lenOf own_pd16 rfl) rfl (by show 2 * 0 + _ ≤ _; exact Nat.le_of_eq rfl) (hb hby at_85) ?_
        intro v549 T549 L549 X549 q549
        obtain ⟨rfl, N549q, K549, f550, f551, f552, f553⟩ := q549
        have N549 := Fr.app N543 N549q
        have f554 : Fld Z T549.heap b513 "com/example/purlin/purlin/framework/ServiceUse" "count" "I" (.int (1 : Int32)) := f552
        show own_Goes p e below s _ _ _ T549 (mkF m 88 #[iv u1, iv u2, iv u3, iv (2 : Int32), iv (2 : Int32), iv (0 : Int32), rv b513, rv bo531, .unset] [.null])
        refine own_by (g' := (mkF m 97 #[iv u1, iv u2, iv u3, iv (2 : Int32), iv (2 : Int32), iv (0 : Int32), rv b513, rv bo531, .unset] [(.ref b513)])) (fun t k => XS.pop X549.here hx rfl (hb hby at_88) rfl rfl (XS.iload X549.here hx rfl (hb hby at_89) rfl (XS.iconst X549.here hx rfl (hb hby at_91) (XS.icmpNo X549.here hx rfl (hb hby at_92) rfl (flt (by decide : ¬ ((2 : Int32) < (2 : Int32)))).1 (XS.aload X549.here hx rfl (hb hby at_95) rfl rfl k))))) ?_
        refine own_callV X549 hx hZ hown (hw _ (List.mem_of_getElem? (i := 204) rfl)) (hw _ (List.mem_of_getElem? (i := 205) rfl)) (notFace_of_selects (args := #[]) (mvT hZ (hw _ (List.mem_of_getElem? (i := 207) rfl)))) (hw _ (List.mem_of_getElem? (i := 207) rfl)) (hw _ (List.mem_of_getElem? (i := 206) rfl)) (hw _ (List.mem_of_getElem? (i := 208) rfl)) (hw _ (List.mem_of_getElem? (i := 2) rfl)) (by decide) (a := b513) f550 (own_un0 l Z a0 hw [] (b513) ((.ref bo531)) ((1 : Int32)) (bm517) T549.heap n0 (Nat.le_trans Z0 (Nat.le_trans (Nat.le_trans (Nat.le_trans (Nat.le_trans (Nat.le_trans E513.1 K517.1) K531.1) K537.1) K543.1) K549.1)) f550 f553 f551 f554 rfl g_b513 (by first | assumption | decide)) 0 (by decide) (by decide) (by decide) (by decide) rfl (g := (mkF m 97 #[iv u1, iv u2, iv u3, iv (2 : Int32), iv (2 : Int32), iv (0 : Int32), rv b513, rv bo531, .unset] [(.ref b513)])) rfl (by rw [hml]; rfl) (argsL := []) (rest := []) (lenOf own_pd16 rfl) rfl (by show 2 * 0 + _ ≤ _; exact Nat.le_of_eq rfl) (hb hby at_97) ?_
        intro v555 T555 L555 X555 q555
        obtain ⟨rfl, N555q, K555, f556, f557, f558, f559⟩ := q555
        have N555 := Fr.app N549 N555q
        have f560 : Fld Z T555.heap b513 "com/example/purlin/purlin/framework/ServiceUse" "count" "I" (.int (0 : Int32)) := f558
        show own_Goes p e below s _ _ _ T555 (mkF m 100 #[iv u1, iv u2, iv u3, iv (2 : Int32), iv (2 : Int32), iv (0 : Int32), rv b513, rv bo531, .unset] [(.ref bo531)])
        refine own_by (g' := (mkF m 129 #[iv u1, iv u2, iv u3, iv (2 : Int32), iv (2 : Int32), iv (0 : Int32), rv b513, rv bo531, .unset] [])) (fun t k => XS.pop X555.here hx rfl (hb hby at_100) rfl rfl (XS.iload X555.here hx rfl (hb hby at_101) rfl (XS.iconst X555.here hx rfl (hb hby at_103) (XS.icmpYes X555.here hx rfl (pc0 := 104) (pc' := 113) rfl (hb hby at_104) rfl (tlt (by decide : (2 : Int32) < (3 : Int32))).1 (by decide) (by decide) (XS.iload X555.here hx rfl (hb hby at_113) rfl (XS.ifYes X555.here hx rfl (pc0 := 115) (pc' := 124) rfl (hb hby at_115) rfl ((if0 _ _).trans (teq (by decide : (0 : Int32) = (0 : Int32))).1) (by decide) (by decide) (XS.iload X555.here hx rfl (hb hby at_124) rfl (XS.ifNo X555.here hx rfl (hb hby at_126) rfl ((if0 _ _).trans (teq (by decide : (0 : Int32) = (0 : Int32))).2) k)))))))) ?_
        refine own_by (g' := (mkF m 145 #[iv u1, iv u2, iv u3, iv (2 : Int32), iv (2 : Int32), iv (0 : Int32), rv b513, rv bo531, iv (0 : Int32)] [(.ref b513)])) (fun t k => XS.iloadN X555.here hx rfl (hb hby at_129) rfl (XS.iload X555.here hx rfl (hb hby at_130) rfl (XS.isub X555.here hx rfl (hb hby at_132) rfl (XS.ifYes X555.here hx rfl (pc0 := 133) (pc' := 140) rfl (hb hby at_133) rfl ((if0 _ _).trans (flt (by decide : ¬ ((0 : Int32) < (0 : Int32)))).2.2.2) (by decide) (by decide) (XS.iconst X555.here hx rfl (hb hby at_140) (XS.istore X555.here hx rfl (hb hby at_141) rfl (l' := #[iv u1, iv u2, iv u3, iv (2 : Int32), iv (2 : Int32), iv (0 : Int32), rv b513, rv bo531, iv (0 : Int32)]) rfl (XS.aload X555.here hx rfl (hb hby at_143) rfl rfl k))))))) ?_
        refine own_callV X555 hx hZ hown (hw _ (List.mem_of_getElem? (i := 40) rfl)) (hw _ (List.mem_of_getElem? (i := 41) rfl)) (notFace_of_selects (args := #[]) (mvT hZ (hw _ (List.mem_of_getElem? (i := 43) rfl)))) (hw _ (List.mem_of_getElem? (i := 43) rfl)) (hw _ (List.mem_of_getElem? (i := 42) rfl)) (hw _ (List.mem_of_getElem? (i := 44) rfl)) (hw _ (List.mem_of_getElem? (i := 2) rfl)) (by decide) (a := b513) f556 (own_ic0 l Z a0 hw [] (b513) ((0 : Int32)) T555.heap n0 (Nat.le_trans Z0 (Nat.le_trans (Nat.le_trans (Nat.le_trans (Nat.le_trans (Nat.le_trans (Nat.le_trans E513.1 K517.1) K531.1) K537.1) K543.1) K549.1) K555.1)) f560 (by first | assumption | decide)) 0 (by decide) (by decide) (by decide) (by decide) rfl (g := (mkF m 145 #[iv u1, iv u2, iv u3, iv (2 : Int32), iv (2 : Int32), iv (0 : Int32), rv b513, rv bo531, iv (0 : Int32)] [(.ref b513)])) rfl (by rw [hml]; rfl) (argsL := []) (rest := []) (lenOf own_pd13 rfl) rfl (by show 2 * 0 + _ ≤ _; exact Nat.le_of_eq rfl) (hb hby at_145) ?_
        intro v561 T561 L561 X561 q561
        obtain ⟨rfl, N561q, e561⟩ := q561
        have N561 := Fr.app N555 N561q
        show own_Goes p e below s _ _ _ T561 (mkF m 148 #[iv u1, iv u2, iv u3, iv (2 : Int32), iv (2 : Int32), iv (0 : Int32), rv b513, rv bo531, iv (0 : Int32)] [(.int (0 : Int32))])
        refine own_by (g' := (mkF m 158 #[iv u1, iv u2, iv u3, iv (2 : Int32), iv (2 : Int32), iv (0 : Int32), rv b513, rv bo531, iv (0 : Int32)] [(.int (1 : Int32))])) (fun t k => XS.iload X561.here hx rfl (hb hby at_148) rfl (XS.icmpNo X561.here hx rfl (hb hby at_150) rfl (teq (by decide : (0 : Int32) = (0 : Int32))).2 (XS.iconst X561.here hx rfl (hb hby at_153) (XS.goto X561.here hx rfl (pc0 := 154) (pc' := 158) rfl (hb hby at_154) (by decide) (by decide) k)))) ?_
        refine own_retN X561 hx hlk hret (t := .boolean) (by simp) (hb hby at_158) (by decide) (by decide) ?_
        rw [e561]
        exact ⟨rfl, N561, ((((((((Keep.refl h0 []).ext E513).trans K517 (allS (Or.inr sz_b513) all0)).trans K531 all0).trans K537 (allS (Or.inr sz_b513) all0)).trans K543 (allS (Or.inr sz_b513) all0)).trans K549 (allS (Or.inr sz_b513) all0)).trans K555 (allS (Or.inr sz_b513) all0))⟩
      ·
        refine own_by (g' := (mkF m 26 #[iv u1, iv u2, iv u3, iv (2 : Int32), iv (2 : Int32), iv (1 : Int32), .unset, .unset, .unset] [])) (fun t k => XS.ifNo X0.here hx rfl (hb hby at_16) rfl ((if0 _ _).trans (feq hc512).1) (XS.iconst X0.here hx rfl (hb hby at_19) (XS.goto X0.here hx rfl (pc0 := 20) (pc' := 24) rfl (hb hby at_20) (by decide) (by decide) (XS.istore X0.here hx rfl (hb hby at_24) rfl (l' := #[iv u1, iv u2, iv u3, iv (2 : Int32), iv (2 : Int32), iv (1 : Int32), .unset, .unset, .unset]) rfl k)))) ?_
        obtain ⟨T562, h562, X562, e562, E562, A562, D562, U562, st562⟩ := newO X0 hx hZ hown (hw _ (List.mem_of_getElem? (i := 0) rfl)) (hw _ (List.mem_of_getElem? (i := 1) rfl)) (hw _ (List.mem_of_getElem? (i := 2) rfl)) e0 (g := (mkF m 26 #[iv u1, iv u2, iv u3, iv (2 : Int32), iv (2 : Int32), iv (1 : Int32), .unset, .unset, .unset] [])) rfl (hb hby at_26) (by decide) (by decide)
        obtain ⟨b562, g562⟩ : ∃ z, z = h0.size := ⟨_, rfl⟩
        rw [← g562] at A562 D562 U562 st562
        have sz_b562 : h0.size ≤ b562 := Nat.le_trans (Nat.le_refl _) (Nat.le_of_eq g562.symm)
        have g_b562 : n0 ≤ b562 := Nat.le_trans Z0 sz_b562
        have f563 : Fld Z h562 b562 "com/example/purlin/purlin/framework/ServiceUse" "prototypes" "Ljava/util/Map;" .null := D562 (Or.inr (hw _ (List.mem_of_getElem? (i := 32) rfl))) (ty := (.object "java/util/Map")) (by decide)
        have f564 : Fld Z h562 b562 "com/example/purlin/purlin/framework/ServiceUse" "count" "I" (.int (0 : Int32)) := D562 (Or.inl (hw _ (List.mem_of_getElem? (i := 46) rfl))) (ty := .int) (by decide)
        have f565 : Fld Z h562 b562 "com/example/purlin/purlin/framework/ServiceUse" "object" "Ljava/lang/Object;" .null := D562 (Or.inl (hw _ (List.mem_of_getElem? (i := 53) rfl))) (ty := (.object "java/lang/Object")) (by decide)
        refine own_by (g' := (mkF m 29 #[iv u1, iv u2, iv u3, iv (2 : Int32), iv (2 : Int32), iv (1 : Int32), .unset, .unset, .unset] [(.ref b562)])) st562 ?_
        refine own_by (g' := (mkF m 30 #[iv u1, iv u2, iv u3, iv (2 : Int32), iv (2 : Int32), iv (1 : Int32), .unset, .unset, .unset] [(.ref b562), (.ref b562)])) (fun t k => XS.dup X562.here hx rfl (hb hby at_29) rfl rfl k) ?_
        refine own_callI X562 hx hZ hown rfl (hw _ (List.mem_of_getElem? (i := 3) rfl)) (hw _ (List.mem_of_getElem? (i := 4) rfl)) (hw _ (List.mem_of_getElem? (i := 2) rfl)) (hw _ (List.mem_of_getElem? (i := 5) rfl)) (by decide) (a := b562) (own_si l Z a0 hw [] (b562) h562 n0 (Nat.le_trans Z0 E562.1) A562 f563 f565 f564 g_b562) 1 (by decide) (by decide) (by decide) (by decide) e562 (g := (mkF m 30 #[iv u1, iv u2, iv u3, iv (2 : Int32), iv (2 : Int32), iv (1 : Int32), .unset, .unset, .unset] [(.ref b562), (.ref b562)])) rfl (by rw [hml]; rfl) (argsL := []) (rest := [(.ref b562)]) (lenOf own_pd0 rfl) rfl (by show 2 * 0 + _ ≤ _; exact Nat.le_of_eq rfl) (hb hby at_30) ?_
        intro v566 T566 L566 X566 q566
        obtain ⟨bm566, bt566, kt566, rfl, N566q, K566, f567, f568, f569, f570, f571, f572, f573, f574, f575, f576, f577, f578⟩ := q566
        have N566 := Fr.app N0 N566q
        show own_Goes p e below s _ _ _ T566 (mkF m 33 #[iv u1, iv u2, iv u3, iv (2 : Int32), iv (2 : Int32), iv (1 : Int32), .unset, .unset, .unset] [(.ref b562)])
        refine own_by (g' := (mkF m 36 #[iv u1, iv u2, iv u3, iv (2 : Int32), iv (2 : Int32), iv (1 : Int32), rv b562, .unset, .unset] [(.int u3)])) (fun t k => XS.astore X566.here hx rfl (hb hby at_33) rfl rfl (l' := #[iv u1, iv u2, iv u3, iv (2 : Int32), iv (2 : Int32), iv (1 : Int32), rv b562, .unset, .unset]) rfl (XS.iloadN X566.here hx rfl (hb hby at_35) rfl k)) ?_
        have f579 := ((O0.ext E562).keep K566 (allS g_b562 all0))
        refine own_callS X566 hx hZ hown (hw _ (List.mem_of_getElem? (i := 33) rfl)) (hw _ (List.mem_of_getElem? (i := 34) rfl)) (hw _ (List.mem_of_getElem? (i := 35) rfl)) (hw _ (List.mem_of_getElem? (i := 36) rfl)) (by decide) (own_valueOf l Z a0 hw [] (u3) (zc) T566.heap n0 (Nat.le_trans Z0 (Nat.le_trans E562.1 K566.1)) f579 S_high S_cache (by first | assumption | decide)) 0 (by decide) (by decide) (by decide) (by decide) rfl (g := (mkF m 36 #[iv u1, iv u2, iv u3, iv (2 : Int32), iv (2 : Int32), iv (1 : Int32), rv b562, .unset, .unset] [(.int u3)])) rfl (by rw [hml]; rfl) (argsL := [(.int u3)]) (rest := []) (lenOf own_pd12 rfl) rfl (by show 2 * 0 + _ ≤ _; exact Nat.le_of_eq rfl) (hb hby at_36) ?_
        intro v580 T580 L580 X580 q580
        obtain ⟨bo580, rfl, N580q, K580, f581⟩ := q580
        have N580 := Fr.app N566 N580q
        show own_Goes p e below s _ _ _ T580 (mkF m 39 #[iv u1, iv u2, iv u3, iv (2 : Int32), iv (2 : Int32), iv (1 : Int32), rv b562, .unset, .unset] [(.ref bo580)])
        refine own_by (g' := (mkF m 50 #[iv u1, iv u2, iv u3, iv (2 : Int32), iv (2 : Int32), iv (1 : Int32), rv b562, rv bo580, .unset] [(.ref bo580), (.ref b562)])) (fun t k => XS.astore X580.here hx rfl (hb hby at_39) rfl rfl (l' := #[iv u1, iv u2, iv u3, iv (2 : Int32), iv (2 : Int32), iv (1 : Int32), rv b562, rv bo580, .unset]) rfl (XS.iloadN X580.here hx rfl (hb hby at_41) rfl (XS.iconst X580.here hx rfl (hb hby at_42) (XS.icmpNo X580.here hx rfl (hb hby at_43) rfl (flt (by decide : ¬ ((2 : Int32) < (1 : Int32)))).1 (XS.aload X580.here hx rfl (hb hby at_46) rfl rfl (XS.aload X580.here hx rfl (hb hby at_48) rfl rfl k)))))) ?_
        have f582 := (f567.keep K580)
        have f583 := (f568.keep K580 nin0)
        have f584 := (f569.keep K580 nin0)
        have f585 := (f570.keep K580 nin0)
        refine own_callV X580 hx hZ hown (hw _ (List.mem_of_getElem? (i := 47) rfl)) (hw _ (List.mem_of_getElem? (i := 48) rfl)) (notFace_of_selects (args := #[]) (mvT hZ (hw _ (List.mem_of_getElem? (i := 50) rfl)))) (hw _ (List.mem_of_getElem? (i := 50) rfl)) (hw _ (List.mem_of_getElem? (i := 49) rfl)) (hw _ (List.mem_of_getElem? (i := 51) rfl)) (hw _ (List.mem_of_getElem? (i := 2) rfl)) (by decide) (a := b562) f582 (own_use0 l Z a0 hw [] (b562) ((.ref bo580)) (.null) ((0 : Int32)) (bm566) T580.heap n0 (Nat.le_trans Z0 (Nat.le_trans (Nat.le_trans E562.1 K566.1) K580.1)) f582 f583 f584 f585 rfl g_b562 rfl (by first | assumption | decide)) 0 (by decide) (by decide) (by decide) (by decide) rfl (g := (mkF m 50 #[iv u1, iv u2, iv u3, iv (2 : Int32), iv (2 : Int32), iv (1 : Int32), rv b562, rv bo580, .unset] [(.ref bo580), (.ref b562)])) rfl (by rw [hml]; rfl) (argsL := [(.ref bo580)]) (rest := []) (lenOf own_pd15 rfl) rfl (by show 2 * 0 + _ ≤ _; exact Nat.le_of_eq rfl) (hb hby at_50) ?_
        intro v586 T586 L586 X586 q586
        obtain ⟨rfl, N586q, K586, f587, f588, f589, f590⟩ := q586
        have N586 := Fr.app N580 N586q
        have f591 : Fld Z T586.heap b562 "com/example/purlin/purlin/framework/ServiceUse" "count" "I" (.int (1 : Int32)) := f589
        show own_Goes p e below s _ _ _ T586 (mkF m 53 #[iv u1, iv u2, iv u3, iv (2 : Int32), iv (2 : Int32), iv (1 : Int32), rv b562, rv bo580, .unset] [])
        refine own_by (g' := (mkF m 62 #[iv u1, iv u2, iv u3, iv (2 : Int32), iv (2 : Int32), iv (1 : Int32), rv b562, rv bo580, .unset] [(.ref bo580), (.ref b562)])) (fun t k => XS.iloadN X586.here hx rfl (hb hby at_53) rfl (XS.iconst X586.here hx rfl (hb hby at_54) (XS.icmpNo X586.here hx rfl (hb hby at_55) rfl (flt (by decide : ¬ ((2 : Int32) < (2 : Int32)))).1 (XS.aload X586.here hx rfl (hb hby at_58) rfl rfl (XS.aload X586.here hx rfl (hb hby at_60) rfl rfl k))))) ?_
        refine own_callV X586 hx hZ hown (hw _ (List.mem_of_getElem? (i := 47) rfl)) (hw _ (List.mem_of_getElem? (i := 48) rfl)) (notFace_of_selects (args := #[]) (mvT hZ (hw _ (List.mem_of_getElem? (i := 50) rfl)))) (hw _ (List.mem_of_getElem? (i := 50) rfl)) (hw _ (List.mem_of_getElem? (i := 49) rfl)) (hw _ (List.mem_of_getElem? (i := 51) rfl)) (hw _ (List.mem_of_getElem? (i := 2) rfl)) (by decide) (a := b562) f587 (own_use1 l Z a0 hw [] (b562) ((.ref bo580)) ((.ref bo580)) ((1 : Int32)) (bm566) T586.heap n0 (Nat.le_trans Z0 (Nat.le_trans (Nat.le_trans (Nat.le_trans E562.1 K566.1) K580.1) K586.1)) f587 f590 f588 f591 rfl g_b562 rfl (by first | assumption | decide)) 0 (by decide) (by decide) (by decide) (by decide) rfl (g := (mkF m 62 #[iv u1, iv u2, iv u3, iv (2 : Int32), iv (2 : Int32), iv (1 : Int32), rv b562, rv bo580, .unset] [(.ref bo580), (.ref b562)])) rfl (by rw [hml]; rfl) (argsL := [(.ref bo580)]) (rest := []) (lenOf own_pd15 rfl) rfl (by show 2 * 0 + _ ≤ _; exact Nat.le_of_eq rfl) (hb hby at_62) ?_
        intro v592 T592 L592 X592 q592
        obtain ⟨rfl, N592q, K592, f593, f594, f595, f596⟩ := q592
        have N592 := Fr.app N586 N592q
        have f597 : Fld Z T592.heap b562 "com/example/purlin/purlin/framework/ServiceUse" "count" "I" (.int (2 : Int32)) := f595
        show own_Goes p e below s _ _ _ T592 (mkF m 65 #[iv u1, iv u2, iv u3, iv (2 : Int32), iv (2 : Int32), iv (1 : Int32), rv b562, rv bo580, .unset] [])
        refine own_by (g' := (mkF m 85 #[iv u1, iv u2, iv u3, iv (2 : Int32), iv (2 : Int32), iv (1 : Int32), rv b562, rv bo580, .unset] [(.ref b562)])) (fun t k => XS.iloadN X592.here hx rfl (hb hby at_65) rfl (XS.iconst X592.here hx rfl (hb hby at_66) (XS.icmpYes X592.here hx rfl (pc0 := 67) (pc' := 77) rfl (hb hby at_67) rfl (tlt (by decide : (2 : Int32) < (3 : Int32))).1 (by decide) (by decide) (XS.iload X592.here hx rfl (hb hby at_77) rfl (XS.iconst X592.here hx rfl (hb hby at_79) (XS.icmpNo X592.here hx rfl (hb hby at_80) rfl (flt (by decide : ¬ ((2 : Int32) < (1 : Int32)))).1 (XS.aload X592.here hx rfl (hb hby at_83) rfl rfl k))))))) ?_
        refine own_callV X592 hx hZ hown (hw _ (List.mem_of_getElem? (i := 204) rfl)) (hw _ (List.mem_of_getElem? (i := 205) rfl)) (notFace_of_selects (args := #[]) (mvT hZ (hw _ (List.mem_of_getElem? (i := 207) rfl)))) (hw _ (List.mem_of_getElem? (i := 207) rfl)) (hw _ (List.mem_of_getElem? (i := 206) rfl)) (hw _ (List.mem_of_getElem? (i := 208) rfl)) (hw _ (List.mem_of_getElem? (i := 2) rfl)) (by decide) (a := b562) f593 (own_un1 l Z a0 hw [] (b562) ((.ref bo580)) ((2 : Int32)) (bm566) T592.heap n0 (Nat.le_trans Z0 (Nat.le_trans (Nat.le_trans (Nat.le_trans (Nat.le_trans E562.1 K566.1) K580.1) K586.1) K592.1)) f593 f596 f594 f597 rfl g_b562 (by first | assumption | decide)) 0 (by decide) (by decide) (by decide) (by decide) rfl (g := (mkF m 85 #[iv u1, iv u2, iv u3, iv (2 : Int32), iv (2 : Int32), iv (1 : Int32), rv b562, rv bo580, .unset] [(.ref b562)])) rfl (by rw [hml]; rfl) (argsL := []) (rest := []) (lenOf own_pd16 rfl) rfl (by show 2 * 0 + _ ≤ _; exact Nat.le_of_eq rfl) (hb hby at_85) ?_
        intro v598 T598 L598 X598 q598
        obtain ⟨rfl, N598q, K598, f599, f600, f601, f602⟩ := q598
        have N598 := Fr.app N592 N598q
        have f603 : Fld Z T598.heap b562 "com/example/purlin/purlin/framework/ServiceUse" "count" "I" (.int (1 : Int32)) := f601
        show own_Goes p e below s _ _ _ T598 (mkF m 88 #[iv u1, iv u2, iv u3, iv (2 : Int32), iv (2 : Int32), iv (1 : Int32), rv b562, rv bo580, .unset] [.null])
        refine own_by (g' := (mkF m 97 #[iv u1, iv u2, iv u3, iv (2 : Int32), iv (2 : Int32), iv (1 : Int32), rv b562, rv bo580, .unset] [(.ref b562)])) (fun t k => XS.pop X598.here hx rfl (hb hby at_88) rfl rfl (XS.iload X598.here hx rfl (hb hby at_89) rfl (XS.iconst X598.here hx rfl (hb hby at_91) (XS.icmpNo X598.here hx rfl (hb hby at_92) rfl (flt (by decide : ¬ ((2 : Int32) < (2 : Int32)))).1 (XS.aload X598.here hx rfl (hb hby at_95) rfl rfl k))))) ?_
        refine own_callV X598 hx hZ hown (hw _ (List.mem_of_getElem? (i := 204) rfl)) (hw _ (List.mem_of_getElem? (i := 205) rfl)) (notFace_of_selects (args := #[]) (mvT hZ (hw _ (List.mem_of_getElem? (i := 207) rfl)))) (hw _ (List.mem_of_getElem? (i := 207) rfl)) (hw _ (List.mem_of_getElem? (i := 206) rfl)) (hw _ (List.mem_of_getElem? (i := 208) rfl)) (hw _ (List.mem_of_getElem? (i := 2) rfl)) (by decide) (a := b562) f599 (own_un0 l Z a0 hw [] (b562) ((.ref bo580)) ((1 : Int32)) (bm566) T598.heap n0 (Nat.le_trans Z0 (Nat.le_trans (Nat.le_trans (Nat.le_trans (Nat.le_trans (Nat.le_trans E562.1 K566.1) K580.1) K586.1) K592.1) K598.1)) f599 f602 f600 f603 rfl g_b562 (by first | assumption | decide)) 0 (by decide) (by decide) (by decide) (by decide) rfl (g := (mkF m 97 #[iv u1, iv u2, iv u3, iv (2 : Int32), iv (2 : Int32), iv (1 : Int32), rv b562, rv bo580, .unset] [(.ref b562)])) rfl (by rw [hml]; rfl) (argsL := []) (rest := []) (lenOf own_pd16 rfl) rfl (by show 2 * 0 + _ ≤ _; exact Nat.le_of_eq rfl) (hb hby at_97) ?_
        intro v604 T604 L604 X604 q604
        obtain ⟨rfl, N604q, K604, f605, f606, f607, f608⟩ := q604
        have N604 := Fr.app N598 N604q
        have f609 : Fld Z T604.heap b562 "com/example/purlin/purlin/framework/ServiceUse" "count" "I" (.int (0 : Int32)) := f607
        show own_Goes p e below s _ _ _ T604 (mkF m 100 #[iv u1, iv u2, iv u3, iv (2 : Int32), iv (2 : Int32), iv (1 : Int32), rv b562, rv bo580, .unset] [(.ref bo580)])
        refine own_by (g' := (mkF m 120 #[iv u1, iv u2, iv u3, iv (2 : Int32), iv (2 : Int32), iv (1 : Int32), rv b562, rv bo580, .unset] [(.ref b562)])) (fun t k => XS.pop X604.here hx rfl (hb hby at_100) rfl rfl (XS.iload X604.here hx rfl (hb hby at_101) rfl (XS.iconst X604.here hx rfl (hb hby at_103) (XS.icmpYes X604.here hx rfl (pc0 := 104) (pc' := 113) rfl (hb hby at_104) rfl (tlt (by decide : (2 : Int32) < (3 : Int32))).1 (by decide) (by decide) (XS.iload X604.here hx rfl (hb hby at_113) rfl (XS.ifNo X604.here hx rfl (hb hby at_115) rfl ((if0 _ _).trans (feq (by decide : ¬ ((1 : Int32) = (0 : Int32)))).1) (XS.aload X604.here hx rfl (hb hby at_118) rfl rfl k))))))) ?_
        have f610 := (((((f572.keep K580).keep K586).keep K592).keep K598).keep K604)
        have f611 := (((((f573.keep K580 nin0).keep K586 (ninS (Ne.symm (Nat.ne_of_lt (Nat.lt_of_lt_of_le (Nat.lt_of_lt_of_le A562.lt (Nat.le_refl _)) f571))) nin0)).keep K592 (ninS (Ne.symm (Nat.ne_of_lt (Nat.lt_of_lt_of_le (Nat.lt_of_lt_of_le A562.lt (Nat.le_refl _)) f571))) nin0)).keep K598 (ninS (Ne.symm (Nat.ne_of_lt (Nat.lt_of_lt_of_le (Nat.lt_of_lt_of_le A562.lt (Nat.le_refl _)) f571))) nin0)).keep K604 (ninS (Ne.symm (Nat.ne_of_lt (Nat.lt_of_lt_of_le (Nat.lt_of_lt_of_le A562.lt (Nat.le_refl _)) f571))) nin0))
        have f612 := (((((f574.keep K580 nin0).keep K586 (ninS (Ne.symm (Nat.ne_of_lt (Nat.lt_of_lt_of_le (Nat.lt_of_lt_of_le A562.lt (Nat.le_refl _)) f571))) nin0)).keep K592 (ninS (Ne.symm (Nat.ne_of_lt (Nat.lt_of_lt_of_le (Nat.lt_of_lt_of_le A562.lt (Nat.le_refl _)) f571))) nin0)).keep K598 (ninS (Ne.symm (Nat.ne_of_lt (Nat.lt_of_lt_of_le (Nat.lt_of_lt_of_le A562.lt (Nat.le_refl _)) f571))) nin0)).keep K604 (ninS (Ne.symm (Nat.ne_of_lt (Nat.lt_of_lt_of_le (Nat.lt_of_lt_of_le A562.lt (Nat.le_refl _)) f571))) nin0))
        have f613 := (((((f575.keep K580 nin0).keep K586 (ninS (Ne.symm (Nat.ne_of_lt (Nat.lt_of_lt_of_le (Nat.lt_of_lt_of_le A562.lt (Nat.le_refl _)) f571))) nin0)).keep K592 (ninS (Ne.symm (Nat.ne_of_lt (Nat.lt_of_lt_of_le (Nat.lt_of_lt_of_le A562.lt (Nat.le_refl _)) f571))) nin0)).keep K598 (ninS (Ne.symm (Nat.ne_of_lt (Nat.lt_of_lt_of_le (Nat.lt_of_lt_of_le A562.lt (Nat.le_refl _)) f571))) nin0)).keep K604 (ninS (Ne.symm (Nat.ne_of_lt (Nat.lt_of_lt_of_le (Nat.lt_of_lt_of_le A562.lt (Nat.le_refl _)) f571))) nin0))
        have f614 := (((((f577.keep K580 nin0).keep K586 (ninS (Ne.symm (Nat.ne_of_lt (Nat.lt_of_lt_of_le (Nat.lt_of_lt_of_le A562.lt (Nat.le_refl _)) f571))) nin0)).keep K592 (ninS (Ne.symm (Nat.ne_of_lt (Nat.lt_of_lt_of_le (Nat.lt_of_lt_of_le A562.lt (Nat.le_refl _)) f571))) nin0)).keep K598 (ninS (Ne.symm (Nat.ne_of_lt (Nat.lt_of_lt_of_le (Nat.lt_of_lt_of_le A562.lt (Nat.le_refl _)) f571))) nin0)).keep K604 (ninS (Ne.symm (Nat.ne_of_lt (Nat.lt_of_lt_of_le (Nat.lt_of_lt_of_le A562.lt (Nat.le_refl _)) f571))) nin0))
        have f615 := (((((f578.keep K580 nin0).keep K586 (ninS (Ne.symm (Nat.ne_of_lt (Nat.lt_of_lt_of_le (Nat.lt_of_lt_of_le A562.lt (Nat.le_refl _)) f576))) nin0)).keep K592 (ninS (Ne.symm (Nat.ne_of_lt (Nat.lt_of_lt_of_le (Nat.lt_of_lt_of_le A562.lt (Nat.le_refl _)) f576))) nin0)).keep K598 (ninS (Ne.symm (Nat.ne_of_lt (Nat.lt_of_lt_of_le (Nat.lt_of_lt_of_le A562.lt (Nat.le_refl _)) f576))) nin0)).keep K604 (ninS (Ne.symm (Nat.ne_of_lt (Nat.lt_of_lt_of_le (Nat.lt_of_lt_of_le A562.lt (Nat.le_refl _)) f576))) nin0))
        have f616 := (((((f579.keep K580 all0).keep K586 (allS g_b562 all0)).keep K592 (allS g_b562 all0)).keep K598 (allS g_b562 all0)).keep K604 (allS g_b562 all0))
        have f617 := (((((((Yd.ext E562).keep K566 (ninS (Nat.ne_of_lt (Nat.lt_of_lt_of_le (Nat.lt_of_lt_of_le Yd.lt (Nat.le_refl _)) (Nat.le_of_eq g562.symm))) nin0)).keep K580 nin0).keep K586 (ninS (Nat.ne_of_lt (Nat.lt_of_lt_of_le (Nat.lt_of_lt_of_le Yd.lt (Nat.le_refl _)) (Nat.le_of_eq g562.symm))) nin0)).keep K592 (ninS (Nat.ne_of_lt (Nat.lt_of_lt_of_le (Nat.lt_of_lt_of_le Yd.lt (Nat.le_refl _)) (Nat.le_of_eq g562.symm))) nin0)).keep K598 (ninS (Nat.ne_of_lt (Nat.lt_of_lt_of_le (Nat.lt_of_lt_of_le Yd.lt (Nat.le_refl _)) (Nat.le_of_eq g562.symm))) nin0)).keep K604 (ninS (Nat.ne_of_lt (Nat.lt_of_lt_of_le (Nat.lt_of_lt_of_le Yd.lt (Nat.le_refl _)) (Nat.le_of_eq g562.symm))) nin0))
        refine own_callV X604 hx hZ hown (hw _ (List.mem_of_getElem? (i := 54) rfl)) (hw _ (List.mem_of_getElem? (i := 55) rfl)) (notFace_of_selects (args := #[]) (mvT hZ (hw _ (List.mem_of_getElem? (i := 57) rfl)))) (hw _ (List.mem_of_getElem? (i := 57) rfl)) (hw _ (List.mem_of_getElem? (i := 56) rfl)) (hw _ (List.mem_of_getElem? (i := 58) rfl)) (hw _ (List.mem_of_getElem? (i := 2) rfl)) (by decide) (a := b562) f605 (own_clear0 l Z a0 hw [] (b562) (bm566) (bt566) (kt566) (zd) ((0 : Int32)) (.null) T604.heap n0 (Nat.le_trans Z0 (Nat.le_trans (Nat.le_trans (Nat.le_trans (Nat.le_trans (Nat.le_trans (Nat.le_trans E562.1 K566.1) K580.1) K586.1) K592.1) K598.1) K604.1)) f605 f608 f606 f609 g_b562 rfl (by first | assumption | decide) f610 f611 f612 f613 f614 f615 (Nat.le_trans (Nat.le_trans Z0 E562.1) f571) (Nat.le_trans (Nat.le_trans Z0 E562.1) f576) f616 S_dflt f617) 0 (by decide) (by decide) (by decide) (by decide) rfl (g := (mkF m 120 #[iv u1, iv u2, iv u3, iv (2 : Int32), iv (2 : Int32), iv (1 : Int32), rv b562, rv bo580, .unset] [(.ref b562)])) rfl (by rw [hml]; rfl) (argsL := []) (rest := []) (lenOf own_pd14 rfl) rfl (by show 2 * 0 + _ ≤ _; exact Nat.le_of_eq rfl) (hb hby at_120) ?_
        intro v618 T618 L618 X618 q618
        obtain ⟨bl618, rfl, N618q, K618, f619, f620⟩ := q618
        have N618 := Fr.app N604 N618q
        show own_Goes p e below s _ _ _ T618 (mkF m 123 #[iv u1, iv u2, iv u3, iv (2 : Int32), iv (2 : Int32), iv (1 : Int32), rv b562, rv bo580, .unset] [(.ref bl618)])
        refine own_by (g' := (mkF m 145 #[iv u1, iv u2, iv u3, iv (2 : Int32), iv (2 : Int32), iv (1 : Int32), rv b562, rv bo580, iv (0 : Int32)] [(.ref b562)])) (fun t k => XS.pop X618.here hx rfl (hb hby at_123) rfl rfl (XS.iload X618.here hx rfl (hb hby at_124) rfl (XS.ifYes X618.here hx rfl (pc0 := 126) (pc' := 140) rfl (hb hby at_126) rfl ((if0 _ _).trans (feq (by decide : ¬ ((1 : Int32) = (0 : Int32)))).2) (by decide) (by decide) (XS.iconst X618.here hx rfl (hb hby at_140) (XS.istore X618.here hx rfl (hb hby at_141) rfl (l' := #[iv u1, iv u2, iv u3, iv (2 : Int32), iv (2 : Int32), iv (1 : Int32), rv b562, rv bo580, iv (0 : Int32)]) rfl (XS.aload X618.here hx rfl (hb hby at_143) rfl rfl k)))))) ?_
        refine own_callV X618 hx hZ hown (hw _ (List.mem_of_getElem? (i := 40) rfl)) (hw _ (List.mem_of_getElem? (i := 41) rfl)) (notFace_of_selects (args := #[]) (mvT hZ (hw _ (List.mem_of_getElem? (i := 43) rfl)))) (hw _ (List.mem_of_getElem? (i := 43) rfl)) (hw _ (List.mem_of_getElem? (i := 42) rfl)) (hw _ (List.mem_of_getElem? (i := 44) rfl)) (hw _ (List.mem_of_getElem? (i := 2) rfl)) (by decide) (a := b562) f619 (own_ic0 l Z a0 hw [] (b562) ((0 : Int32)) T618.heap n0 (Nat.le_trans Z0 (Nat.le_trans (Nat.le_trans (Nat.le_trans (Nat.le_trans (Nat.le_trans (Nat.le_trans (Nat.le_trans E562.1 K566.1) K580.1) K586.1) K592.1) K598.1) K604.1) K618.1)) f620 (by first | assumption | decide)) 0 (by decide) (by decide) (by decide) (by decide) rfl (g := (mkF m 145 #[iv u1, iv u2, iv u3, iv (2 : Int32), iv (2 : Int32), iv (1 : Int32), rv b562, rv bo580, iv (0 : Int32)] [(.ref b562)])) rfl (by rw [hml]; rfl) (argsL := []) (rest := []) (lenOf own_pd13 rfl) rfl (by show 2 * 0 + _ ≤ _; exact Nat.le_of_eq rfl) (hb hby at_145) ?_
        intro v621 T621 L621 X621 q621
        obtain ⟨rfl, N621q, e621⟩ := q621
        have N621 := Fr.app N618 N621q
        show own_Goes p e below s _ _ _ T621 (mkF m 148 #[iv u1, iv u2, iv u3, iv (2 : Int32), iv (2 : Int32), iv (1 : Int32), rv b562, rv bo580, iv (0 : Int32)] [(.int (0 : Int32))])
        refine own_by (g' := (mkF m 158 #[iv u1, iv u2, iv u3, iv (2 : Int32), iv (2 : Int32), iv (1 : Int32), rv b562, rv bo580, iv (0 : Int32)] [(.int (1 : Int32))])) (fun t k => XS.iload X621.here hx rfl (hb hby at_148) rfl (XS.icmpNo X621.here hx rfl (hb hby at_150) rfl (teq (by decide : (0 : Int32) = (0 : Int32))).2 (XS.iconst X621.here hx rfl (hb hby at_153) (XS.goto X621.here hx rfl (pc0 := 154) (pc' := 158) rfl (hb hby at_154) (by decide) (by decide) k)))) ?_
        refine own_retN X621 hx hlk hret (t := .boolean) (by simp) (hb hby at_158) (by decide) (by decide) ?_
        rw [e621]
        exact ⟨rfl, N621, (((((((((Keep.refl h0 []).ext E562).trans K566 (allS (Or.inr sz_b562) all0)).trans K580 all0).trans K586 (allS (Or.inr sz_b562) all0)).trans K592 (allS (Or.inr sz_b562) all0)).trans K598 (allS (Or.inr sz_b562) all0)).trans K604 (allS (Or.inr sz_b562) all0)).trans K618 (allS (Or.inr sz_b562) (allS (Or.inr (Nat.le_trans E562.1 f571)) (allS (Or.inr (Nat.le_trans E562.1 f576)) all0))))⟩
  ·
    rw [q101]
    refine own_by (g' := (mkF m 11 #[iv u1, iv u2, iv u3, iv (3 : Int32), .unset, .unset, .unset, .unset, .unset] [(.int ((u2 &&& (3 : Int32)) % (4 : Int32)))])) (fun t k => XS.istoreN X0.here hx rfl (hb hby at_3) rfl (l' := #[iv u1, iv u2, iv u3, iv (3 : Int32), .unset, .unset, .unset, .unset, .unset]) rfl (XS.iloadN X0.here hx rfl (hb hby at_4) rfl (XS.iconst X0.here hx rfl (hb hby at_5) (XS.iand X0.here hx rfl (hb hby at_6) rfl (XS.iloadN X0.here hx rfl (hb hby at_7) rfl (XS.iconst X0.here hx rfl (hb hby at_8) (XS.iadd X0.here hx rfl (hb hby at_9) rfl (iremM X0 hx rfl (hb hby at_10) rfl (by decide) k)))))))) ?_
    rcases own_r4 u2 with q622 | q622 | q622 | q622
    ·
      rw [q622]
      refine own_by (g' := (mkF m 16 #[iv u1, iv u2, iv u3, iv (3 : Int32), iv (0 : Int32), .unset, .unset, .unset, .unset] [(.int (u3 &&& (1 : Int32)))])) (fun t k => XS.istore X0.here hx rfl (hb hby at_11) rfl (l' := #[iv u1, iv u2, iv u3, iv (3 : Int32), iv (0 : Int32), .unset, .unset, .unset, .unset]) rfl (XS.iloadN X0.here hx rfl (hb hby at_13) rfl (XS.iconst X0.here hx rfl (hb hby at_14) (XS.iand X0.here hx rfl (hb hby at_15) rfl k)))) ?_
      by_cases hc623 : (u3 &&& (1 : Int32)) = (0 : Int32)
      ·
        refine own_by (g' := (mkF m 26 #[iv u1, iv u2, iv u3, iv (3 : Int32), iv (0 : Int32), iv (0 : Int32), .unset, .unset, .unset] [])) (fun t k => XS.ifYes X0.here hx rfl (pc0 := 16) (pc' := 23) rfl (hb hby at_16) rfl ((if0 _ _).trans (teq hc623).1) (by decide) (by decide) (XS.iconst X0.here hx rfl (hb hby at_23) (XS.istore X0.here hx rfl (hb hby at_24) rfl (l' := #[iv u1, iv u2, iv u3, iv (3 : Int32), iv (0 : Int32), iv (0 : Int32), .unset, .unset, .unset]) rfl k))) ?_
        obtain ⟨T624, h624, X624, e624, E624, A624, D624, U624, st624⟩ := newO X0 hx hZ hown (hw _ (List.mem_of_getElem? (i := 0) rfl)) (hw _ (List.mem_of_getElem? (i := 1) rfl)) (hw _ (List.mem_of_getElem? (i := 2) rfl)) e0 (g := (mkF m 26 #[iv u1, iv u2, iv u3, iv (3 : Int32), iv (0 : Int32), iv (0 : Int32), .unset, .unset, .unset] [])) rfl (hb hby at_26) (by decide) (by decide)
        obtain ⟨b624, g624⟩ : ∃ z, z = h0.size := ⟨_, rfl⟩
        rw [← g624] at A624 D624 U624 st624
        have sz_b624 : h0.size ≤ b624 := Nat.le_trans (Nat.le_refl _) (Nat.le_of_eq g624.symm)
        have g_b624 : n0 ≤ b624 := Nat.le_trans Z0 sz_b624
        have f625 : Fld Z h624 b624 "com/example/purlin/purlin/framework/ServiceUse" "prototypes" "Ljava/util/Map;" .null := D624 (Or.inr (hw _ (List.mem_of_getElem? (i := 32) rfl))) (ty := (.object "java/util/Map")) (by decide)
        have f626 : Fld Z h624 b624 "com/example/purlin/purlin/framework/ServiceUse" "count" "I" (.int (0 : Int32)) := D624 (Or.inl (hw _ (List.mem_of_getElem? (i := 46) rfl))) (ty := .int) (by decide)
        have f627 : Fld Z h624 b624 "com/example/purlin/purlin/framework/ServiceUse" "object" "Ljava/lang/Object;" .null := D624 (Or.inl (hw _ (List.mem_of_getElem? (i := 53) rfl))) (ty := (.object "java/lang/Object")) (by decide)
        refine own_by (g' := (mkF m 29 #[iv u1, iv u2, iv u3, iv (3 : Int32), iv (0 : Int32), iv (0 : Int32), .unset, .unset, .unset] [(.ref b624)])) st624 ?_
        refine own_by (g' := (mkF m 30 #[iv u1, iv u2, iv u3, iv (3 : Int32), iv (0 : Int32), iv (0 : Int32), .unset, .unset, .unset] [(.ref b624), (.ref b624)])) (fun t k => XS.dup X624.here hx rfl (hb hby at_29) rfl rfl k) ?_
        refine own_callI X624 hx hZ hown rfl (hw _ (List.mem_of_getElem? (i := 3) rfl)) (hw _ (List.mem_of_getElem? (i := 4) rfl)) (hw _ (List.mem_of_getElem? (i := 2) rfl)) (hw _ (List.mem_of_getElem? (i := 5) rfl)) (by decide) (a := b624) (own_si l Z a0 hw [] (b624) h624 n0 (Nat.le_trans Z0 E624.1) A624 f625 f627 f626 g_b624) 1 (by decide) (by decide) (by decide) (by decide) e624 (g := (mkF m 30 #[iv u1, iv u2, iv u3, iv (3 : Int32), iv (0 : Int32), iv (0 : Int32), .unset, .unset, .unset] [(.ref b624), (.ref b624)])) rfl (by rw [hml]; rfl) (argsL := []) (rest := [(.ref b624)]) (lenOf own_pd0 rfl) rfl (by show 2 * 0 + _ ≤ _; exact Nat.le_of_eq rfl) (hb hby at_30) ?_
        intro v628 T628 L628 X628 q628
        obtain ⟨bm628, bt628, kt628, rfl, N628q, K628, f629, f630, f631, f632, f633, f634, f635, f636, f637, f638, f639, f640⟩ := q628
        have N628 := Fr.app N0 N628q
        show own_Goes p e below s _ _ _ T628 (mkF m 33 #[iv u1, iv u2, iv u3, iv (3 : Int32), iv (0 : Int32), iv (0 : Int32), .unset, .unset, .unset] [(.ref b624)])
        refine own_by (g' := (mkF m 36 #[iv u1, iv u2, iv u3, iv (3 : Int32), iv (0 : Int32), iv (0 : Int32), rv b624, .unset, .unset] [(.int u3)])) (fun t k => XS.astore X628.here hx rfl (hb hby at_33) rfl rfl (l' := #[iv u1, iv u2, iv u3, iv (3 : Int32), iv (0 : Int32), iv (0 : Int32), rv b624, .unset, .unset]) rfl (XS.iloadN X628.here hx rfl (hb hby at_35) rfl k)) ?_
        have f641 := ((O0.ext E624).keep K628 (allS g_b624 all0))
        refine own_callS X628 hx hZ hown (hw _ (List.mem_of_getElem? (i := 33) rfl)) (hw _ (List.mem_of_getElem? (i := 34) rfl)) (hw _ (List.mem_of_getElem? (i := 35) rfl)) (hw _ (List.mem_of_getElem? (i := 36) rfl)) (by decide) (own_valueOf l Z a0 hw [] (u3) (zc) T628.heap n0 (Nat.le_trans Z0 (Nat.le_trans E624.1 K628.1)) f641 S_high S_cache (by first | assumption | decide)) 0 (by decide) (by decide) (by decide) (by decide) rfl (g := (mkF m 36 #[iv u1, iv u2, iv u3, iv (3 : Int32), iv (0 : Int32), iv (0 : Int32), rv b624, .unset, .unset] [(.int u3)])) rfl (by rw [hml]; rfl) (argsL := [(.int u3)]) (rest := []) (lenOf own_pd12 rfl) rfl (by show 2 * 0 + _ ≤ _; exact Nat.le_of_eq rfl) (hb hby at_36) ?_
        intro v642 T642 L642 X642 q642
        obtain ⟨bo642, rfl, N642q, K642, f643⟩ := q642
        have N642 := Fr.app N628 N642q
        show own_Goes p e below s _ _ _ T642 (mkF m 39 #[iv u1, iv u2, iv u3, iv (3 : Int32), iv (0 : Int32), iv (0 : Int32), rv b624, .unset, .unset] [(.ref bo642)])
        refine own_by (g' := (mkF m 50 #[iv u1, iv u2, iv u3, iv (3 : Int32), iv (0 : Int32), iv (0 : Int32), rv b624, rv bo642, .unset] [(.ref bo642), (.ref b624)])) (fun t k => XS.astore X642.here hx rfl (hb hby at_39) rfl rfl (l' := #[iv u1, iv u2, iv u3, iv (3 : Int32), iv (0 : Int32), iv (0 : Int32), rv b624, rv bo642, .unset]) rfl (XS.iloadN X642.here hx rfl (hb hby at_41) rfl (XS.iconst X642.here hx rfl (hb hby at_42) (XS.icmpNo X642.here hx rfl (hb hby at_43) rfl (flt (by decide : ¬ ((3 : Int32) < (1 : Int32)))).1 (XS.aload X642.here hx rfl (hb hby at_46) rfl rfl (XS.aload X642.here hx rfl (hb hby at_48) rfl rfl k)))))) ?_
        have f644 := (f629.keep K642)
        have f645 := (f630.keep K642 nin0)
        have f646 := (f631.keep K642 nin0)
        have f647 := (f632.keep K642 nin0)
        refine own_callV X642 hx hZ hown (hw _ (List.mem_of_getElem? (i := 47) rfl)) (hw _ (List.mem_of_getElem? (i := 48) rfl)) (notFace_of_selects (args := #[]) (mvT hZ (hw _ (List.mem_of_getElem? (i := 50) rfl)))) (hw _ (List.mem_of_getElem? (i := 50) rfl)) (hw _ (List.mem_of_getElem? (i := 49) rfl)) (hw _ (List.mem_of_getElem? (i := 51) rfl)) (hw _ (List.mem_of_getElem? (i := 2) rfl)) (by decide) (a := b624) f644 (own_use0 l Z a0 hw [] (b624) ((.ref bo642)) (.null) ((0 : Int32)) (bm628) T642.heap n0 (Nat.le_trans Z0 (Nat.le_trans (Nat.le_trans E624.1 K628.1) K642.1)) f644 f645 f646 f647 rfl g_b624 rfl (by first | assumption | decide)) 0 (by decide) (by decide) (by decide) (by decide) rfl (g := (mkF m 50 #[iv u1, iv u2, iv u3, iv (3 : Int32), iv (0 : Int32), iv (0 : Int32), rv b624, rv bo642, .unset] [(.ref bo642), (.ref b624)])) rfl (by rw [hml]; rfl) (argsL := [(.ref bo642)]) (rest := []) (lenOf own_pd15 rfl) rfl (by show 2 * 0 + _ ≤ _; exact Nat.le_of_eq rfl) (hb hby at_50) ?_
        intro v648 T648 L648 X648 q648
        obtain ⟨rfl, N648q, K648, f649, f650, f651, f652⟩ := q648
        have N648 := Fr.app N642 N648q
        have f653 : Fld Z T648.heap b624 "com/example/purlin/purlin/framework/ServiceUse" "count" "I" (.int (1 : Int32)) := f651
        show own_Goes p e below s _ _ _ T648 (mkF m 53 #[iv u1, iv u2, iv u3, iv (3 : Int32), iv (0 : Int32), iv (0 : Int32), rv b624, rv bo642, .unset] [])
        refine own_by (g' := (mkF m 62 #[iv u1, iv u2, iv u3, iv (3 : Int32), iv (0 : Int32), iv (0 : Int32), rv b624, rv bo642, .unset] [(.ref bo642), (.ref b624)])) (fun t k => XS.iloadN X648.here hx rfl (hb hby at_53) rfl (XS.iconst X648.here hx rfl (hb hby at_54) (XS.icmpNo X648.here hx rfl (hb hby at_55) rfl (flt (by decide : ¬ ((3 : Int32) < (2 : Int32)))).1 (XS.aload X648.here hx rfl (hb hby at_58) rfl rfl (XS.aload X648.here hx rfl (hb hby at_60) rfl rfl k))))) ?_
        refine own_callV X648 hx hZ hown (hw _ (List.mem_of_getElem? (i := 47) rfl)) (hw _ (List.mem_of_getElem? (i := 48) rfl)) (notFace_of_selects (args := #[]) (mvT hZ (hw _ (List.mem_of_getElem? (i := 50) rfl)))) (hw _ (List.mem_of_getElem? (i := 50) rfl)) (hw _ (List.mem_of_getElem? (i := 49) rfl)) (hw _ (List.mem_of_getElem? (i := 51) rfl)) (hw _ (List.mem_of_getElem? (i := 2) rfl)) (by decide) (a := b624) f649 (own_use1 l Z a0 hw [] (b624) ((.ref bo642)) ((.ref bo642)) ((1 : Int32)) (bm628) T648.heap n0 (Nat.le_trans Z0 (Nat.le_trans (Nat.le_trans (Nat.le_trans E624.1 K628.1) K642.1) K648.1)) f649 f652 f650 f653 rfl g_b624 rfl (by first | assumption | decide)) 0 (by decide) (by decide) (by decide) (by decide) rfl (g := (mkF m 62 #[iv u1, iv u2, iv u3, iv (3 : Int32), iv (0 : Int32), iv (0 : Int32), rv b624, rv bo642, .unset] [(.ref bo642), (.ref b624)])) rfl (by rw [hml]; rfl) (argsL := [(.ref bo642)]) (rest := []) (lenOf own_pd15 rfl) rfl (by show 2 * 0 + _ ≤ _; exact Nat.le_of_eq rfl) (hb hby at_62) ?_
        intro v654 T654 L654 X654 q654
        obtain ⟨rfl, N654q, K654, f655, f656, f657, f658⟩ := q654
        have N654 := Fr.app N648 N654q
        have f659 : Fld Z T654.heap b624 "com/example/purlin/purlin/framework/ServiceUse" "count" "I" (.int (2 : Int32)) := f657
        show own_Goes p e below s _ _ _ T654 (mkF m 65 #[iv u1, iv u2, iv u3, iv (3 : Int32), iv (0 : Int32), iv (0 : Int32), rv b624, rv bo642, .unset] [])
        refine own_by (g' := (mkF m 74 #[iv u1, iv u2, iv u3, iv (3 : Int32), iv (0 : Int32), iv (0 : Int32), rv b624, rv bo642, .unset] [(.ref bo642), (.ref b624)])) (fun t k => XS.iloadN X654.here hx rfl (hb hby at_65) rfl (XS.iconst X654.here hx rfl (hb hby at_66) (XS.icmpNo X654.here hx rfl (hb hby at_67) rfl (flt (by decide : ¬ ((3 : Int32) < (3 : Int32)))).1 (XS.aload X654.here hx rfl (hb hby at_70) rfl rfl (XS.aload X654.here hx rfl (hb hby at_72) rfl rfl k))))) ?_
        refine own_callV X654 hx hZ hown (hw _ (List.mem_of_getElem? (i := 47) rfl)) (hw _ (List.mem_of_getElem? (i := 48) rfl)) (notFace_of_selects (args := #[]) (mvT hZ (hw _ (List.mem_of_getElem? (i := 50) rfl)))) (hw _ (List.mem_of_getElem? (i := 50) rfl)) (hw _ (List.mem_of_getElem? (i := 49) rfl)) (hw _ (List.mem_of_getElem? (i := 51) rfl)) (hw _ (List.mem_of_getElem? (i := 2) rfl)) (by decide) (a := b624) f655 (own_use1 l Z a0 hw [] (b624) ((.ref bo642)) ((.ref bo642)) ((2 : Int32)) (bm628) T654.heap n0 (Nat.le_trans Z0 (Nat.le_trans (Nat.le_trans (Nat.le_trans (Nat.le_trans E624.1 K628.1) K642.1) K648.1) K654.1)) f655 f658 f656 f659 rfl g_b624 rfl (by first | assumption | decide)) 0 (by decide) (by decide) (by decide) (by decide) rfl (g := (mkF m 74 #[iv u1, iv u2, iv u3, iv (3 : Int32), iv (0 : Int32), iv (0 : Int32), rv b624, rv bo642, .unset] [(.ref bo642), (.ref b624)])) rfl (by rw [hml]; rfl) (argsL := [(.ref bo642)]) (rest := []) (lenOf own_pd15 rfl) rfl (by show 2 * 0 + _ ≤ _; exact Nat.le_of_eq rfl) (hb hby at_74) ?_
        intro v660 T660 L660 X660 q660
        obtain ⟨rfl, N660q, K660, f661, f662, f663, f664⟩ := q660
        have N660 := Fr.app N654 N660q
        have f665 : Fld Z T660.heap b624 "com/example/purlin/purlin/framework/ServiceUse" "count" "I" (.int (3 : Int32)) := f663
        show own_Goes p e below s _ _ _ T660 (mkF m 77 #[iv u1, iv u2, iv u3, iv (3 : Int32), iv (0 : Int32), iv (0 : Int32), rv b624, rv bo642, .unset] [])
        refine own_by (g' := (mkF m 104 #[iv u1, iv u2, iv u3, iv (3 : Int32), iv (0 : Int32), iv (0 : Int32), rv b624, rv bo642, .unset] [(.int (3 : Int32)), (.int (0 : Int32))])) (fun t k => XS.iload X660.here hx rfl (hb hby at_77) rfl (XS.iconst X660.here hx rfl (hb hby at_79) (XS.icmpYes X660.here hx rfl (pc0 := 80) (pc' := 89) rfl (hb hby at_80) rfl (tlt (by decide : (0 : Int32) < (1 : Int32))).1 (by decide) (by decide) (XS.iload X660.here hx rfl (hb hby at_89) rfl (XS.iconst X660.here hx rfl (hb hby at_91) (XS.icmpYes X660.here hx rfl (pc0 := 92) (pc' := 101) rfl (hb hby at_92) rfl (tlt (by decide : (0 : Int32) < (2 : Int32))).1 (by decide) (by decide) (XS.iload X660.here hx rfl (hb hby at_101) rfl (XS.iconst X660.here hx rfl (hb hby at_103) k)))))))) ?_
        refine own_by (g' := (mkF m 133 #[iv u1, iv u2, iv u3, iv (3 : Int32), iv (0 : Int32), iv (0 : Int32), rv b624, rv bo642, .unset] [(.int (3 : Int32))])) (fun t k => XS.icmpYes X660.here hx rfl (pc0 := 104) (pc' := 113) rfl (hb hby at_104) rfl (tlt (by decide : (0 : Int32) < (3 : Int32))).1 (by decide) (by decide) (XS.iload X660.here hx rfl (hb hby at_113) rfl (XS.ifYes X660.here hx rfl (pc0 := 115) (pc' := 124) rfl (hb hby at_115) rfl ((if0 _ _).trans (teq (by decide : (0 : Int32) = (0 : Int32))).1) (by decide) (by decide) (XS.iload X660.here hx rfl (hb hby at_124) rfl (XS.ifNo X660.here hx rfl (hb hby at_126) rfl ((if0 _ _).trans (teq (by decide : (0 : Int32) = (0 : Int32))).2) (XS.iloadN X660.here hx rfl (hb hby at_129) rfl (XS.iload X660.here hx rfl (hb hby at_130) rfl (XS.isub X660.here hx rfl (hb hby at_132) rfl k)))))))) ?_
        refine own_by (g' := (mkF m 145 #[iv u1, iv u2, iv u3, iv (3 : Int32), iv (0 : Int32), iv (0 : Int32), rv b624, rv bo642, iv (1 : Int32)] [(.ref b624)])) (fun t k => XS.ifNo X660.here hx rfl (hb hby at_133) rfl ((if0 _ _).trans (tlt (by decide : (0 : Int32) < (3 : Int32))).2.2.2) (XS.iconst X660.here hx rfl (hb hby at_136) (XS.goto X660.here hx rfl (pc0 := 137) (pc' := 141) rfl (hb hby at_137) (by decide) (by decide) (XS.istore X660.here hx rfl (hb hby at_141) rfl (l' := #[iv u1, iv u2, iv u3, iv (3 : Int32), iv (0 : Int32), iv (0 : Int32), rv b624, rv bo642, iv (1 : Int32)]) rfl (XS.aload X660.here hx rfl (hb hby at_143) rfl rfl k))))) ?_
        refine own_callV X660 hx hZ hown (hw _ (List.mem_of_getElem? (i := 40) rfl)) (hw _ (List.mem_of_getElem? (i := 41) rfl)) (notFace_of_selects (args := #[]) (mvT hZ (hw _ (List.mem_of_getElem? (i := 43) rfl)))) (hw _ (List.mem_of_getElem? (i := 43) rfl)) (hw _ (List.mem_of_getElem? (i := 42) rfl)) (hw _ (List.mem_of_getElem? (i := 44) rfl)) (hw _ (List.mem_of_getElem? (i := 2) rfl)) (by decide) (a := b624) f661 (own_ic1 l Z a0 hw [] (b624) ((3 : Int32)) T660.heap n0 (Nat.le_trans Z0 (Nat.le_trans (Nat.le_trans (Nat.le_trans (Nat.le_trans (Nat.le_trans E624.1 K628.1) K642.1) K648.1) K654.1) K660.1)) f665 (by first | assumption | decide)) 0 (by decide) (by decide) (by decide) (by decide) rfl (g := (mkF m 145 #[iv u1, iv u2, iv u3, iv (3 : Int32), iv (0 : Int32), iv (0 : Int32), rv b624, rv bo642, iv (1 : Int32)] [(.ref b624)])) rfl (by rw [hml]; rfl) (argsL := []) (rest := []) (lenOf own_pd13 rfl) rfl (by show 2 * 0 + _ ≤ _; exact Nat.le_of_eq rfl) (hb hby at_145) ?_
        intro v666 T666 L666 X666 q666
        obtain ⟨rfl, N666q, e666⟩ := q666
        have N666 := Fr.app N660 N666q
        show own_Goes p e below s _ _ _ T666 (mkF m 148 #[iv u1, iv u2, iv u3, iv (3 : Int32), iv (0 : Int32), iv (0 : Int32), rv b624, rv bo642, iv (1 : Int32)] [(.int (1 : Int32))])
        refine own_by (g' := (mkF m 158 #[iv u1, iv u2, iv u3, iv (3 : Int32), iv (0 : Int32), iv (0 : Int32), rv b624, rv bo642, iv (1 : Int32)] [(.int (1 : Int32))])) (fun t k => XS.iload X666.here hx rfl (hb hby at_148) rfl (XS.icmpNo X666.here hx rfl (hb hby at_150) rfl (teq (by decide : (1 : Int32) = (1 : Int32))).2 (XS.iconst X666.here hx rfl (hb hby at_153) (XS.goto X666.here hx rfl (pc0 := 154) (pc' := 158) rfl (hb hby at_154) (by decide) (by decide) k)))) ?_
        refine own_retN X666 hx hlk hret (t := .boolean) (by simp) (hb hby at_158) (by decide) (by decide) ?_
        rw [e666]
        exact ⟨rfl, N666, (((((((Keep.refl h0 []).ext E624).trans K628 (allS (Or.inr sz_b624) all0)).trans K642 all0).trans K648 (allS (Or.inr sz_b624) all0)).trans K654 (allS (Or.inr sz_b624) all0)).trans K660 (allS (Or.inr sz_b624) all0))⟩
      ·
        refine own_by (g' := (mkF m 26 #[iv u1, iv u2, iv u3, iv (3 : Int32), iv (0 : Int32), iv (1 : Int32), .unset, .unset, .unset] [])) (fun t k => XS.ifNo X0.here hx rfl (hb hby at_16) rfl ((if0 _ _).trans (feq hc623).1) (XS.iconst X0.here hx rfl (hb hby at_19) (XS.goto X0.here hx rfl (pc0 := 20) (pc' := 24) rfl (hb hby at_20) (by decide) (by decide) (XS.istore X0.here hx rfl (hb hby at_24) rfl (l' := #[iv u1, iv u2, iv u3, iv (3 : Int32), iv (0 : Int32), iv (1 : Int32), .unset, .unset, .unset]) rfl k)))) ?_
        obtain ⟨T667, h667, X667, e667, E667, A667, D667, U667, st667⟩ := newO X0 hx hZ hown (hw _ (List.mem_of_getElem? (i := 0) rfl)) (hw _ (List.mem_of_getElem? (i := 1) rfl)) (hw _ (List.mem_of_getElem? (i := 2) rfl)) e0 (g := (mkF m 26 #[iv u1, iv u2, iv u3, iv (3 : Int32), iv (0 : Int32), iv (1 : Int32), .unset, .unset, .unset] [])) rfl (hb hby at_26) (by decide) (by decide)
        obtain ⟨b667, g667⟩ : ∃ z, z = h0.size := ⟨_, rfl⟩
        rw [← g667] at A667 D667 U667 st667
        have sz_b667 : h0.size ≤ b667 := Nat.le_trans (Nat.le_refl _) (Nat.le_of_eq g667.symm)
        have g_b667 : n0 ≤ b667 := Nat.le_trans Z0 sz_b667
        have f668 : Fld Z h667 b667 "com/example/purlin/purlin/framework/ServiceUse" "prototypes" "Ljava/util/Map;" .null := D667 (Or.inr (hw _ (List.mem_of_getElem? (i := 32) rfl))) (ty := (.object "java/util/Map")) (by decide)
        have f669 : Fld Z h667 b667 "com/example/purlin/purlin/framework/ServiceUse" "count" "I" (.int (0 : Int32)) := D667 (Or.inl (hw _ (List.mem_of_getElem? (i := 46) rfl))) (ty := .int) (by decide)
        have f670 : Fld Z h667 b667 "com/example/purlin/purlin/framework/ServiceUse" "object" "Ljava/lang/Object;" .null := D667 (Or.inl (hw _ (List.mem_of_getElem? (i := 53) rfl))) (ty := (.object "java/lang/Object")) (by decide)
        refine own_by (g' := (mkF m 29 #[iv u1, iv u2, iv u3, iv (3 : Int32), iv (0 : Int32), iv (1 : Int32), .unset, .unset, .unset] [(.ref b667)])) st667 ?_
        refine own_by (g' := (mkF m 30 #[iv u1, iv u2, iv u3, iv (3 : Int32), iv (0 : Int32), iv (1 : Int32), .unset, .unset, .unset] [(.ref b667), (.ref b667)])) (fun t k => XS.dup X667.here hx rfl (hb hby at_29) rfl rfl k) ?_
        refine own_callI X667 hx hZ hown rfl (hw _ (List.mem_of_getElem? (i := 3) rfl)) (hw _ (List.mem_of_getElem? (i := 4) rfl)) (hw _ (List.mem_of_getElem? (i := 2) rfl)) (hw _ (List.mem_of_getElem? (i := 5) rfl)) (by decide) (a := b667) (own_si l Z a0 hw [] (b667) h667 n0 (Nat.le_trans Z0 E667.1) A667 f668 f670 f669 g_b667) 1 (by decide) (by decide) (by decide) (by decide) e667 (g := (mkF m 30 #[iv u1, iv u2, iv u3, iv (3 : Int32), iv (0 : Int32), iv (1 : Int32), .unset, .unset, .unset] [(.ref b667), (.ref b667)])) rfl (by rw [hml]; rfl) (argsL := []) (rest := [(.ref b667)]) (lenOf own_pd0 rfl) rfl (by show 2 * 0 + _ ≤ _; exact Nat.le_of_eq rfl) (hb hby at_30) ?_
        intro v671 T671 L671 X671 q671
        obtain ⟨bm671, bt671, kt671, rfl, N671q, K671, f672, f673, f674, f675, f676, f677, f678, f679, f680, f681, f682, f683⟩ := q671
        have N671 := Fr.app N0 N671q
        show own_Goes p e below s _ _ _ T671 (mkF m 33 #[iv u1, iv u2, iv u3, iv (3 : Int32), iv (0 : Int32), iv (1 : Int32), .unset, .unset, .unset] [(.ref b667)])
        refine own_by (g' := (mkF m 36 #[iv u1, iv u2, iv u3, iv (3 : Int32), iv (0 : Int32), iv (1 : Int32), rv b667, .unset, .unset] [(.int u3)])) (fun t k => XS.astore X671.here hx rfl (hb hby at_33) rfl rfl (l' := #[iv u1, iv u2, iv u3, iv (3 : Int32), iv (0 : Int32), iv (1 : Int32), rv b667, .unset, .unset]) rfl (XS.iloadN X671.here hx rfl (hb hby at_35) rfl k)) ?_
        have f684 := ((O0.ext E667).keep K671 (allS g_b667 all0))
        refine own_callS X671 hx hZ hown (hw _ (List.mem_of_getElem? (i := 33) rfl)) (hw _ (List.mem_of_getElem? (i := 34) rfl)) (hw _ (List.mem_of_getElem? (i := 35) rfl)) (hw _ (List.mem_of_getElem? (i := 36) rfl)) (by decide) (own_valueOf l Z a0 hw [] (u3) (zc) T671.heap n0 (Nat.le_trans Z0 (Nat.le_trans E667.1 K671.1)) f684 S_high S_cache (by first | assumption | decide)) 0 (by decide) (by decide) (by decide) (by decide) rfl (g := (mkF m 36 #[iv u1, iv u2, iv u3, iv (3 : Int32), iv (0 : Int32), iv (1 : Int32), rv b667, .unset, .unset] [(.int u3)])) rfl (by rw [hml]; rfl) (argsL := [(.int u3)]) (rest := []) (lenOf own_pd12 rfl) rfl (by show 2 * 0 + _ ≤ _; exact Nat.le_of_eq rfl) (hb hby at_36) ?_
        intro v685 T685 L685 X685 q685
        obtain ⟨bo685, rfl, N685q, K685, f686⟩ := q685
        have N685 := Fr.app N671 N685q
        show own_Goes p e below s _ _ _ T685 (mkF m 39 #[iv u1, iv u2, iv u3, iv (3 : Int32), iv (0 : Int32), iv (1 : Int32), rv b667, .unset, .unset] [(.ref bo685)])
        refine own_by (g' := (mkF m 50 #[iv u1, iv u2, iv u3, iv (3 : Int32), iv (0 : Int32), iv (1 : Int32), rv b667, rv bo685, .unset] [(.ref bo685), (.ref b667)])) (fun t k => XS.astore X685.here hx rfl (hb hby at_39) rfl rfl (l' := #[iv u1, iv u2, iv u3, iv (3 : Int32), iv (0 : Int32), iv (1 : Int32), rv b667, rv bo685, .unset]) rfl (XS.iloadN X685.here hx rfl (hb hby at_41) rfl (XS.iconst X685.here hx rfl (hb hby at_42) (XS.icmpNo X685.here hx rfl (hb hby at_43) rfl (flt (by decide : ¬ ((3 : Int32) < (1 : Int32)))).1 (XS.aload X685.here hx rfl (hb hby at_46) rfl rfl (XS.aload X685.here hx rfl (hb hby at_48) rfl rfl k)))))) ?_
        have f687 := (f672.keep K685)
        have f688 := (f673.keep K685 nin0)
        have f689 := (f674.keep K685 nin0)
        have f690 := (f675.keep K685 nin0)
        refine own_callV X685 hx hZ hown (hw _ (List.mem_of_getElem? (i := 47) rfl)) (hw _ (List.mem_of_getElem? (i := 48) rfl)) (notFace_of_selects (args := #[]) (mvT hZ (hw _ (List.mem_of_getElem? (i := 50) rfl)))) (hw _ (List.mem_of_getElem? (i := 50) rfl)) (hw _ (List.mem_of_getElem? (i := 49) rfl)) (hw _ (List.mem_of_getElem? (i := 51) rfl)) (hw _ (List.mem_of_getElem? (i := 2) rfl)) (by decide) (a := b667) f687 (own_use0 l Z a0 hw [] (b667) ((.ref bo685)) (.null) ((0 : Int32)) (bm671) T685.heap n0 (Nat.le_trans Z0 (Nat.le_trans (Nat.le_trans E667.1 K671.1) K685.1)) f687 f688 f689 f690 rfl g_b667 rfl (by first | assumption | decide)) 0 (by decide) (by decide) (by decide) (by decide) rfl (g := (mkF m 50 #[iv u1, iv u2, iv u3, iv (3 : Int32), iv (0 : Int32), iv (1 : Int32), rv b667, rv bo685, .unset] [(.ref bo685), (.ref b667)])) rfl (by rw [hml]; rfl) (argsL := [(.ref bo685)]) (rest := []) (lenOf own_pd15 rfl) rfl (by show 2 * 0 + _ ≤ _; exact Nat.le_of_eq rfl) (hb hby at_50) ?_
        intro v691 T691 L691 X691 q691
        obtain ⟨rfl, N691q, K691, f692, f693, f694, f695⟩ := q691
        have N691 := Fr.app N685 N691q
        have f696 : Fld Z T691.heap b667 "com/example/purlin/purlin/framework/ServiceUse" "count" "I" (.int (1 : Int32)) := f694
        show own_Goes p e below s _ _ _ T691 (mkF m 53 #[iv u1, iv u2, iv u3, iv (3 : Int32), iv (0 : Int32), iv (1 : Int32), rv b667, rv bo685, .unset] [])
        refine own_by (g' := (mkF m 62 #[iv u1, iv u2, iv u3, iv (3 : Int32), iv (0 : Int32), iv (1 : Int32), rv b667, rv bo685, .unset] [(.ref bo685), (.ref b667)])) (fun t k => XS.iloadN X691.here hx rfl (hb hby at_53) rfl (XS.iconst X691.here hx rfl (hb hby at_54) (XS.icmpNo X691.here hx rfl (hb hby at_55) rfl (flt (by decide : ¬ ((3 : Int32) < (2 : Int32)))).1 (XS.aload X691.here hx rfl (hb hby at_58) rfl rfl (XS.aload X691.here hx rfl (hb hby at_60) rfl rfl k))))) ?_
        refine own_callV X691 hx hZ hown (hw _ (List.mem_of_getElem? (i := 47) rfl)) (hw _ (List.mem_of_getElem? (i := 48) rfl)) (notFace_of_selects (args := #[]) (mvT hZ (hw _ (List.mem_of_getElem? (i := 50) rfl)))) (hw _ (List.mem_of_getElem? (i := 50) rfl)) (hw _ (List.mem_of_getElem? (i := 49) rfl)) (hw _ (List.mem_of_getElem? (i := 51) rfl)) (hw _ (List.mem_of_getElem? (i := 2) rfl)) (by decide) (a := b667) f692 (own_use1 l Z a0 hw [] (b667) ((.ref bo685)) ((.ref bo685)) ((1 : Int32)) (bm671) T691.heap n0 (Nat.le_trans Z0 (Nat.le_trans (Nat.le_trans (Nat.le_trans E667.1 K671.1) K685.1) K691.1)) f692 f695 f693 f696 rfl g_b667 rfl (by first | assumption | decide)) 0 (by decide) (by decide) (by decide) (by decide) rfl (g := (mkF m 62 #[iv u1, iv u2, iv u3, iv (3 : Int32), iv (0 : Int32), iv (1 : Int32), rv b667, rv bo685, .unset] [(.ref bo685), (.ref b667)])) rfl (by rw [hml]; rfl) (argsL := [(.ref bo685)]) (rest := []) (lenOf own_pd15 rfl) rfl (by show 2 * 0 + _ ≤ _; exact Nat.le_of_eq rfl) (hb hby at_62) ?_
        intro v697 T697 L697 X697 q697
        obtain ⟨rfl, N697q, K697, f698, f699, f700, f701⟩ := q697
        have N697 := Fr.app N691 N697q
        have f702 : Fld Z T697.heap b667 "com/example/purlin/purlin/framework/ServiceUse" "count" "I" (.int (2 : Int32)) := f700
        show own_Goes p e below s _ _ _ T697 (mkF m 65 #[iv u1, iv u2, iv u3, iv (3 : Int32), iv (0 : Int32), iv (1 : Int32), rv b667, rv bo685, .unset] [])
        refine own_by (g' := (mkF m 74 #[iv u1, iv u2, iv u3, iv (3 : Int32), iv (0 : Int32), iv (1 : Int32), rv b667, rv bo685, .unset] [(.ref bo685), (.ref b667)])) (fun t k => XS.iloadN X697.here hx rfl (hb hby at_65) rfl (XS.iconst X697.here hx rfl (hb hby at_66) (XS.icmpNo X697.here hx rfl (hb hby at_67) rfl (flt (by decide : ¬ ((3 : Int32) < (3 : Int32)))).1 (XS.aload X697.here hx rfl (hb hby at_70) rfl rfl (XS.aload X697.here hx rfl (hb hby at_72) rfl rfl k))))) ?_
        refine own_callV X697 hx hZ hown (hw _ (List.mem_of_getElem? (i := 47) rfl)) (hw _ (List.mem_of_getElem? (i := 48) rfl)) (notFace_of_selects (args := #[]) (mvT hZ (hw _ (List.mem_of_getElem? (i := 50) rfl)))) (hw _ (List.mem_of_getElem? (i := 50) rfl)) (hw _ (List.mem_of_getElem? (i := 49) rfl)) (hw _ (List.mem_of_getElem? (i := 51) rfl)) (hw _ (List.mem_of_getElem? (i := 2) rfl)) (by decide) (a := b667) f698 (own_use1 l Z a0 hw [] (b667) ((.ref bo685)) ((.ref bo685)) ((2 : Int32)) (bm671) T697.heap n0 (Nat.le_trans Z0 (Nat.le_trans (Nat.le_trans (Nat.le_trans (Nat.le_trans E667.1 K671.1) K685.1) K691.1) K697.1)) f698 f701 f699 f702 rfl g_b667 rfl (by first | assumption | decide)) 0 (by decide) (by decide) (by decide) (by decide) rfl (g := (mkF m 74 #[iv u1, iv u2, iv u3, iv (3 : Int32), iv (0 : Int32), iv (1 : Int32), rv b667, rv bo685, .unset] [(.ref bo685), (.ref b667)])) rfl (by rw [hml]; rfl) (argsL := [(.ref bo685)]) (rest := []) (lenOf own_pd15 rfl) rfl (by show 2 * 0 + _ ≤ _; exact Nat.le_of_eq rfl) (hb hby at_74) ?_
        intro v703 T703 L703 X703 q703
        obtain ⟨rfl, N703q, K703, f704, f705, f706, f707⟩ := q703
        have N703 := Fr.app N697 N703q
        have f708 : Fld Z T703.heap b667 "com/example/purlin/purlin/framework/ServiceUse" "count" "I" (.int (3 : Int32)) := f706
        show own_Goes p e below s _ _ _ T703 (mkF m 77 #[iv u1, iv u2, iv u3, iv (3 : Int32), iv (0 : Int32), iv (1 : Int32), rv b667, rv bo685, .unset] [])
        refine own_by (g' := (mkF m 104 #[iv u1, iv u2, iv u3, iv (3 : Int32), iv (0 : Int32), iv (1 : Int32), rv b667, rv bo685, .unset] [(.int (3 : Int32)), (.int (0 : Int32))])) (fun t k => XS.iload X703.here hx rfl (hb hby at_77) rfl (XS.iconst X703.here hx rfl (hb hby at_79) (XS.icmpYes X703.here hx rfl (pc0 := 80) (pc' := 89) rfl (hb hby at_80) rfl (tlt (by decide : (0 : Int32) < (1 : Int32))).1 (by decide) (by decide) (XS.iload X703.here hx rfl (hb hby at_89) rfl (XS.iconst X703.here hx rfl (hb hby at_91) (XS.icmpYes X703.here hx rfl (pc0 := 92) (pc' := 101) rfl (hb hby at_92) rfl (tlt (by decide : (0 : Int32) < (2 : Int32))).1 (by decide) (by decide) (XS.iload X703.here hx rfl (hb hby at_101) rfl (XS.iconst X703.here hx rfl (hb hby at_103) k)))))))) ?_
        refine own_by (g' := (mkF m 120 #[iv u1, iv u2, iv u3, iv (3 : Int32), iv (0 : Int32), iv (1 : Int32), rv b667, rv bo685, .unset] [(.ref b667)])) (fun t k => XS.icmpYes X703.here hx rfl (pc0 := 104) (pc' := 113) rfl (hb hby at_104) rfl (tlt (by decide : (0 : Int32) < (3 : Int32))).1 (by decide) (by decide) (XS.iload X703.here hx rfl (hb hby at_113) rfl (XS.ifNo X703.here hx rfl (hb hby at_115) rfl ((if0 _ _).trans (feq (by decide : ¬ ((1 : Int32) = (0 : Int32)))).1) (XS.aload X703.here hx rfl (hb hby at_118) rfl rfl k)))) ?_
        have f709 := (((f686.keep K691).keep K697).keep K703)
        have f710 := ((((f677.keep K685).keep K691).keep K697).keep K703)
        have f711 := ((((f678.keep K685 nin0).keep K691 (ninS (Ne.symm (Nat.ne_of_lt (Nat.lt_of_lt_of_le (Nat.lt_of_lt_of_le A667.lt (Nat.le_refl _)) f676))) nin0)).keep K697 (ninS (Ne.symm (Nat.ne_of_lt (Nat.lt_of_lt_of_le (Nat.lt_of_lt_of_le A667.lt (Nat.le_refl _)) f676))) nin0)).keep K703 (ninS (Ne.symm (Nat.ne_of_lt (Nat.lt_of_lt_of_le (Nat.lt_of_lt_of_le A667.lt (Nat.le_refl _)) f676))) nin0))
        have f712 := ((((f679.keep K685 nin0).keep K691 (ninS (Ne.symm (Nat.ne_of_lt (Nat.lt_of_lt_of_le (Nat.lt_of_lt_of_le A667.lt (Nat.le_refl _)) f676))) nin0)).keep K697 (ninS (Ne.symm (Nat.ne_of_lt (Nat.lt_of_lt_of_le (Nat.lt_of_lt_of_le A667.lt (Nat.le_refl _)) f676))) nin0)).keep K703 (ninS (Ne.symm (Nat.ne_of_lt (Nat.lt_of_lt_of_le (Nat.lt_of_lt_of_le A667.lt (Nat.le_refl _)) f676))) nin0))
        have f713 := ((((f680.keep K685 nin0).keep K691 (ninS (Ne.symm (Nat.ne_of_lt (Nat.lt_of_lt_of_le (Nat.lt_of_lt_of_le A667.lt (Nat.le_refl _)) f676))) nin0)).keep K697 (ninS (Ne.symm (Nat.ne_of_lt (Nat.lt_of_lt_of_le (Nat.lt_of_lt_of_le A667.lt (Nat.le_refl _)) f676))) nin0)).keep K703 (ninS (Ne.symm (Nat.ne_of_lt (Nat.lt_of_lt_of_le (Nat.lt_of_lt_of_le A667.lt (Nat.le_refl _)) f676))) nin0))
        have f714 := ((((f682.keep K685 nin0).keep K691 (ninS (Ne.symm (Nat.ne_of_lt (Nat.lt_of_lt_of_le (Nat.lt_of_lt_of_le A667.lt (Nat.le_refl _)) f676))) nin0)).keep K697 (ninS (Ne.symm (Nat.ne_of_lt (Nat.lt_of_lt_of_le (Nat.lt_of_lt_of_le A667.lt (Nat.le_refl _)) f676))) nin0)).keep K703 (ninS (Ne.symm (Nat.ne_of_lt (Nat.lt_of_lt_of_le (Nat.lt_of_lt_of_le A667.lt (Nat.le_refl _)) f676))) nin0))
        have f715 := ((((f683.keep K685 nin0).keep K691 (ninS (Ne.symm (Nat.ne_of_lt (Nat.lt_of_lt_of_le (Nat.lt_of_lt_of_le A667.lt (Nat.le_refl _)) f681))) nin0)).keep K697 (ninS (Ne.symm (Nat.ne_of_lt (Nat.lt_of_lt_of_le (Nat.lt_of_lt_of_le A667.lt (Nat.le_refl _)) f681))) nin0)).keep K703 (ninS (Ne.symm (Nat.ne_of_lt (Nat.lt_of_lt_of_le (Nat.lt_of_lt_of_le A667.lt (Nat.le_refl _)) f681))) nin0))
        have f716 := ((((f684.keep K685 all0).keep K691 (allS g_b667 all0)).keep K697 (allS g_b667 all0)).keep K703 (allS g_b667 all0))
        have f717 := ((((((Yd.ext E667).keep K671 (ninS (Nat.ne_of_lt (Nat.lt_of_lt_of_le (Nat.lt_of_lt_of_le Yd.lt (Nat.le_refl _)) (Nat.le_of_eq g667.symm))) nin0)).keep K685 nin0).keep K691 (ninS (Nat.ne_of_lt (Nat.lt_of_lt_of_le (Nat.lt_of_lt_of_le Yd.lt (Nat.le_refl _)) (Nat.le_of_eq g667.symm))) nin0)).keep K697 (ninS (Nat.ne_of_lt (Nat.lt_of_lt_of_le (Nat.lt_of_lt_of_le Yd.lt (Nat.le_refl _)) (Nat.le_of_eq g667.symm))) nin0)).keep K703 (ninS (Nat.ne_of_lt (Nat.lt_of_lt_of_le (Nat.lt_of_lt_of_le Yd.lt (Nat.le_refl _)) (Nat.le_of_eq g667.symm))) nin0))
        refine own_callV X703 hx hZ hown (hw _ (List.mem_of_getElem? (i := 54) rfl)) (hw _ (List.mem_of_getElem? (i := 55) rfl)) (notFace_of_selects (args := #[]) (mvT hZ (hw _ (List.mem_of_getElem? (i := 57) rfl)))) (hw _ (List.mem_of_getElem? (i := 57) rfl)) (hw _ (List.mem_of_getElem? (i := 56) rfl)) (hw _ (List.mem_of_getElem? (i := 58) rfl)) (hw _ (List.mem_of_getElem? (i := 2) rfl)) (by decide) (a := b667) f704 (own_clear1 l Z a0 hw [] (b667) (bm671) (bt671) (kt671) (zd) ((3 : Int32)) (bo685) T703.heap n0 (Nat.le_trans Z0 (Nat.le_trans (Nat.le_trans (Nat.le_trans (Nat.le_trans (Nat.le_trans E667.1 K671.1) K685.1) K691.1) K697.1) K703.1)) f704 f707 f705 f708 g_b667 f709 (by first | assumption | decide) f710 f711 f712 f713 f714 f715 (Nat.le_trans (Nat.le_trans Z0 E667.1) f676) (Nat.le_trans (Nat.le_trans Z0 E667.1) f681) f716 S_dflt f717) 0 (by decide) (by decide) (by decide) (by decide) rfl (g := (mkF m 120 #[iv u1, iv u2, iv u3, iv (3 : Int32), iv (0 : Int32), iv (1 : Int32), rv b667, rv bo685, .unset] [(.ref b667)])) rfl (by rw [hml]; rfl) (argsL := []) (rest := []) (lenOf own_pd14 rfl) rfl (by show 2 * 0 + _ ≤ _; exact Nat.le_of_eq rfl) (hb hby at_120) ?_
        intro v718 T718 L718 X718 q718
        obtain ⟨bl718, rfl, N718q, K718, f719, f720⟩ := q718
        have N718 := Fr.app N703 N718q
        show own_Goes p e below s _ _ _ T718 (mkF m 123 #[iv u1, iv u2, iv u3, iv (3 : Int32), iv (0 : Int32), iv (1 : Int32), rv b667, rv bo685, .unset] [(.ref bl718)])
        refine own_by (g' := (mkF m 145 #[iv u1, iv u2, iv u3, iv (3 : Int32), iv (0 : Int32), iv (1 : Int32), rv b667, rv bo685, iv (0 : Int32)] [(.ref b667)])) (fun t k => XS.pop X718.here hx rfl (hb hby at_123) rfl rfl (XS.iload X718.here hx rfl (hb hby at_124) rfl (XS.ifYes X718.here hx rfl (pc0 := 126) (pc' := 140) rfl (hb hby at_126) rfl ((if0 _ _).trans (feq (by decide : ¬ ((1 : Int32) = (0 : Int32)))).2) (by decide) (by decide) (XS.iconst X718.here hx rfl (hb hby at_140) (XS.istore X718.here hx rfl (hb hby at_141) rfl (l' := #[iv u1, iv u2, iv u3, iv (3 : Int32), iv (0 : Int32), iv (1 : Int32), rv b667, rv bo685, iv (0 : Int32)]) rfl (XS.aload X718.here hx rfl (hb hby at_143) rfl rfl k)))))) ?_
        refine own_callV X718 hx hZ hown (hw _ (List.mem_of_getElem? (i := 40) rfl)) (hw _ (List.mem_of_getElem? (i := 41) rfl)) (notFace_of_selects (args := #[]) (mvT hZ (hw _ (List.mem_of_getElem? (i := 43) rfl)))) (hw _ (List.mem_of_getElem? (i := 43) rfl)) (hw _ (List.mem_of_getElem? (i := 42) rfl)) (hw _ (List.mem_of_getElem? (i := 44) rfl)) (hw _ (List.mem_of_getElem? (i := 2) rfl)) (by decide) (a := b667) f719 (own_ic0 l Z a0 hw [] (b667) ((0 : Int32)) T718.heap n0 (Nat.le_trans Z0 (Nat.le_trans (Nat.le_trans (Nat.le_trans (Nat.le_trans (Nat.le_trans (Nat.le_trans E667.1 K671.1) K685.1) K691.1) K697.1) K703.1) K718.1)) f720 (by first | assumption | decide)) 0 (by decide) (by decide) (by decide) (by decide) rfl (g := (mkF m 145 #[iv u1, iv u2, iv u3, iv (3 : Int32), iv (0 : Int32), iv (1 : Int32), rv b667, rv bo685, iv (0 : Int32)] [(.ref b667)])) rfl (by rw [hml]; rfl) (argsL := []) (rest := []) (lenOf own_pd13 rfl) rfl (by show 2 * 0 + _ ≤ _; exact Nat.le_of_eq rfl) (hb hby at_145) ?_
        intro v721 T721 L721 X721 q721
        obtain ⟨rfl, N721q, e721⟩ := q721
        have N721 := Fr.app N718 N721q
        show own_Goes p e below s _ _ _ T721 (mkF m 148 #[iv u1, iv u2, iv u3, iv (3 : Int32), iv (0 : Int32), iv (1 : Int32), rv b667, rv bo685, iv (0 : Int32)] [(.int (0 : Int32))])
        refine own_by (g' := (mkF m 158 #[iv u1, iv u2, iv u3, iv (3 : Int32), iv (0 : Int32), iv (1 : Int32), rv b667, rv bo685, iv (0 : Int32)] [(.int (1 : Int32))])) (fun t k => XS.iload X721.here hx rfl (hb hby at_148) rfl (XS.icmpNo X721.here hx rfl (hb hby at_150) rfl (teq (by decide : (0 : Int32) = (0 : Int32))).2 (XS.iconst X721.here hx rfl (hb hby at_153) (XS.goto X721.here hx rfl (pc0 := 154) (pc' := 158) rfl (hb hby at_154) (by decide) (by decide) k)))) ?_
        refine own_retN X721 hx hlk hret (t := .boolean) (by simp) (hb hby at_158) (by decide) (by decide) ?_
        rw [e721]
        exact ⟨rfl, N721, ((((((((Keep.refl h0 []).ext E667).trans K671 (allS (Or.inr sz_b667) all0)).trans K685 all0).trans K691 (allS (Or.inr sz_b667) all0)).trans K697 (allS (Or.inr sz_b667) all0)).trans K703 (allS (Or.inr sz_b667) all0)).trans K718 (allS (Or.inr sz_b667) (allS (Or.inr (Nat.le_trans E667.1 f676)) (allS (Or.inr (Nat.le_trans E667.1 f681)) all0))))⟩
    ·
      rw [q622]
      refine own_by (g' := (mkF m 16 #[iv u1, iv u2, iv u3, iv (3 : Int32), iv (1 : Int32), .unset, .unset, .unset, .unset] [(.int (u3 &&& (1 : Int32)))])) (fun t k => XS.istore X0.here hx rfl (hb hby at_11) rfl (l' := #[iv u1, iv u2, iv u3, iv (3 : Int32), iv (1 : Int32), .unset, .unset, .unset, .unset]) rfl (XS.iloadN X0.here hx rfl (hb hby at_13) rfl (XS.iconst X0.here hx rfl (hb hby at_14) (XS.iand X0.here hx rfl (hb hby at_15) rfl k)))) ?_
      by_cases hc722 : (u3 &&& (1 : Int32)) = (0 : Int32)
      ·
        refine own_by (g' := (mkF m 26 #[iv u1, iv u2, iv u3, iv (3 : Int32), iv (1 : Int32), iv (0 : Int32), .unset, .unset, .unset] [])) (fun t k => XS.ifYes X0.here hx rfl (pc0 := 16) (pc' := 23) rfl (hb hby at_16) rfl ((if0 _ _).trans (teq hc722).1) (by decide) (by decide) (XS.iconst X0.here hx rfl (hb hby at_23) (XS.istore X0.here hx rfl (hb hby at_24) rfl (l' := #[iv u1, iv u2, iv u3, iv (3 : Int32), iv (1 : Int32), iv (0 : Int32), .unset, .unset, .unset]) rfl k))) ?_
        obtain ⟨T723, h723, X723, e723, E723, A723, D723, U723, st723⟩ := newO X0 hx hZ hown (hw _ (List.mem_of_getElem? (i := 0) rfl)) (hw _ (List.mem_of_getElem? (i := 1) rfl)) (hw _ (List.mem_of_getElem? (i := 2) rfl)) e0 (g := (mkF m 26 #[iv u1, iv u2, iv u3, iv (3 : Int32), iv (1 : Int32), iv (0 : Int32), .unset, .unset, .unset] [])) rfl (hb hby at_26) (by decide) (by decide)
        obtain ⟨b723, g723⟩ : ∃ z, z = h0.size := ⟨_, rfl⟩
        rw [← g723] at A723 D723 U723 st723
        have sz_b723 : h0.size ≤ b723 := Nat.le_trans (Nat.le_refl _) (Nat.le_of_eq g723.symm)
        have g_b723 : n0 ≤ b723 := Nat.le_trans Z0 sz_b723
        have f724 : Fld Z h723 b723 "com/example/purlin/purlin/framework/ServiceUse" "prototypes" "Ljava/util/Map;" .null := D723 (Or.inr (hw _ (List.mem_of_getElem? (i := 32) rfl))) (ty := (.object "java/util/Map")) (by decide)
        have f725 : Fld Z h723 b723 "com/example/purlin/purlin/framework/ServiceUse" "count" "I" (.int (0 : Int32)) := D723 (Or.inl (hw _ (List.mem_of_getElem? (i := 46) rfl))) (ty := .int) (by decide)
        have f726 : Fld Z h723 b723 "com/example/purlin/purlin/framework/ServiceUse" "object" "Ljava/lang/Object;" .null := D723 (Or.inl (hw _ (List.mem_of_getElem? (i := 53) rfl))) (ty := (.object "java/lang/Object")) (by decide)
        refine own_by (g' := (mkF m 29 #[iv u1, iv u2, iv u3, iv (3 : Int32), iv (1 : Int32), iv (0 : Int32), .unset, .unset, .unset] [(.ref b723)])) st723 ?_
        refine own_by (g' := (mkF m 30 #[iv u1, iv u2, iv u3, iv (3 : Int32), iv (1 : Int32), iv (0 : Int32), .unset, .unset, .unset] [(.ref b723), (.ref b723)])) (fun t k => XS.dup X723.here hx rfl (hb hby at_29) rfl rfl k) ?_
        refine own_callI X723 hx hZ hown rfl (hw _ (List.mem_of_getElem? (i := 3) rfl)) (hw _ (List.mem_of_getElem? (i := 4) rfl)) (hw _ (List.mem_of_getElem? (i := 2) rfl)) (hw _ (List.mem_of_getElem? (i := 5) rfl)) (by decide) (a := b723) (own_si l Z a0 hw [] (b723) h723 n0 (Nat.le_trans Z0 E723.1) A723 f724 f726 f725 g_b723) 1 (by decide) (by decide) (by decide) (by decide) e723 (g := (mkF m 30 #[iv u1, iv u2, iv u3, iv (3 : Int32), iv (1 : Int32), iv (0 : Int32), .unset, .unset, .unset] [(.ref b723), (.ref b723)])) rfl (by rw [hml]; rfl) (argsL := []) (rest := [(.ref b723)]) (lenOf own_pd0 rfl) rfl (by show 2 * 0 + _ ≤ _; exact Nat.le_of_eq rfl) (hb hby at_30) ?_
        intro v727 T727 L727 X727 q727
        obtain ⟨bm727, bt727, kt727, rfl, N727q, K727, f728, f729, f730, f731, f732, f733, f734, f735, f736, f737, f738, f739⟩ := q727
        have N727 := Fr.app N0 N727q
        show own_Goes p e below s _ _ _ T727 (mkF m 33 #[iv u1, iv u2, iv u3, iv (3 : Int32), iv (1 : Int32), iv (0 : Int32), .unset, .unset, .unset] [(.ref b723)])
        refine own_by (g' := (mkF m 36 #[iv u1, iv u2, iv u3, iv (3 : Int32), iv (1 : Int32), iv (0 : Int32), rv b723, .unset, .unset] [(.int u3)])) (fun t k => XS.astore X727.here hx rfl (hb hby at_33) rfl rfl (l' := #[iv u1, iv u2, iv u3, iv (3 : Int32), iv (1 : Int32), iv (0 : Int32), rv b723, .unset, .unset]) rfl (XS.iloadN X727.here hx rfl (hb hby at_35) rfl k)) ?_
        have f740 := ((O0.ext E723).keep K727 (allS g_b723 all0))
        refine own_callS X727 hx hZ hown (hw _ (List.mem_of_getElem? (i := 33) rfl)) (hw _ (List.mem_of_getElem? (i := 34) rfl)) (hw _ (List.mem_of_getElem? (i := 35) rfl)) (hw _ (List.mem_of_getElem? (i := 36) rfl)) (by decide) (own_valueOf l Z a0 hw [] (u3) (zc) T727.heap n0 (Nat.le_trans Z0 (Nat.le_trans E723.1 K727.1)) f740 S_high S_cache (by first | assumption | decide)) 0 (by decide) (by decide) (by decide) (by decide) rfl (g := (mkF m 36 #[iv u1, iv u2, iv u3, iv (3 : Int32), iv (1 : Int32), iv (0 : Int32), rv b723, .unset, .unset] [(.int u3)])) rfl (by rw [hml]; rfl) (argsL := [(.int u3)]) (rest := []) (lenOf own_pd12 rfl) rfl (by show 2 * 0 + _ ≤ _; exact Nat.le_of_eq rfl) (hb hby at_36) ?_
        intro v741 T741 L741 X741 q741
        obtain ⟨bo741, rfl, N741q, K741, f742⟩ := q741
        have N741 := Fr.app N727 N741q
        show own_Goes p e below s _ _ _ T741 (mkF m 39 #[iv u1, iv u2, iv u3, iv (3 : Int32), iv (1 : Int32), iv (0 : Int32), rv b723, .unset, .unset] [(.ref bo741)])
        refine own_by (g' := (mkF m 50 #[iv u1, iv u2, iv u3, iv (3 : Int32), iv (1 : Int32), iv (0 : Int32), rv b723, rv bo741, .unset] [(.ref bo741), (.ref b723)])) (fun t k => XS.astore X741.here hx rfl (hb hby at_39) rfl rfl (l' := #[iv u1, iv u2, iv u3, iv (3 : Int32), iv (1 : Int32), iv (0 : Int32), rv b723, rv bo741, .unset]) rfl (XS.iloadN X741.here hx rfl (hb hby at_41) rfl (XS.iconst X741.here hx rfl (hb hby at_42) (XS.icmpNo X741.here hx rfl (hb hby at_43) rfl (flt (by decide : ¬ ((3 : Int32) < (1 : Int32)))).1 (XS.aload X741.here hx rfl (hb hby at_46) rfl rfl (XS.aload X741.here hx rfl (hb hby at_48) rfl rfl k)))))) ?_
        have f743 := (f728.keep K741)
        have f744 := (f729.keep K741 nin0)
        have f745 := (f730.keep K741 nin0)
        have f746 := (f731.keep K741 nin0)
        refine own_callV X741 hx hZ hown (hw _ (List.mem_of_getElem? (i := 47) rfl)) (hw _ (List.mem_of_getElem? (i := 48) rfl)) (notFace_of_selects (args := #[]) (mvT hZ (hw _ (List.mem_of_getElem? (i := 50) rfl)))) (hw _ (List.mem_of_getElem? (i := 50) rfl)) (hw _ (List.mem_of_getElem? (i := 49) rfl)) (hw _ (List.mem_of_getElem? (i := 51) rfl)) (hw _ (List.mem_of_getElem? (i := 2) rfl)) (by decide) (a := b723) f743 (own_use0 l Z a0 hw [] (b723) ((.ref bo741)) (.null) ((0 : Int32)) (bm727) T741.heap n0 (Nat.le_trans Z0 (Nat.le_trans (Nat.le_trans E723.1 K727.1) K741.1)) f743 f744 f745 f746 rfl g_b723 rfl (by first | assumption | decide)) 0 (by decide) (by decide) (by decide) (by decide) rfl (g := (mkF m 50 #[iv u1, iv u2, iv u3, iv (3 : Int32), iv (1 : Int32), iv (0 : Int32), rv b723, rv bo741, .unset] [(.ref bo741), (.ref b723)])) rfl (by rw [hml]; rfl) (argsL := [(.ref bo741)]) (rest := []) (lenOf own_pd15 rfl) rfl (by show 2 * 0 + _ ≤ _; exact Nat.le_of_eq rfl) (hb hby at_50) ?_
        intro v747 T747 L747 X747 q747
        obtain ⟨rfl, N747q, K747, f748, f749, f750, f751⟩ := q747
        have N747 := Fr.app N741 N747q
        have f752 : Fld Z T747.heap b723 "com/example/purlin/purlin/framework/ServiceUse" "count" "I" (.int (1 : Int32)) := f750
        show own_Goes p e below s _ _ _ T747 (mkF m 53 #[iv u1, iv u2, iv u3, iv (3 : Int32), iv (1 : Int32), iv (0 : Int32), rv b723, rv bo741, .unset] [])
        refine own_by (g' := (mkF m 62 #[iv u1, iv u2, iv u3, iv (3 : Int32), iv (1 : Int32), iv (0 : Int32), rv b723, rv bo741, .unset] [(.ref bo741), (.ref b723)])) (fun t k => XS.iloadN X747.here hx rfl (hb hby at_53) rfl (XS.iconst X747.here hx rfl (hb hby at_54) (XS.icmpNo X747.here hx rfl (hb hby at_55) rfl (flt (by decide : ¬ ((3 : Int32) < (2 : Int32)))).1 (XS.aload X747.here hx rfl (hb hby at_58) rfl rfl (XS.aload X747.here hx rfl (hb hby at_60) rfl rfl k))))) ?_
        refine own_callV X747 hx hZ hown (hw _ (List.mem_of_getElem? (i := 47) rfl)) (hw _ (List.mem_of_getElem? (i := 48) rfl)) (notFace_of_selects (args := #[]) (mvT hZ (hw _ (List.mem_of_getElem? (i := 50) rfl)))) (hw _ (List.mem_of_getElem? (i := 50) rfl)) (hw _ (List.mem_of_getElem? (i := 49) rfl)) (hw _ (List.mem_of_getElem? (i := 51) rfl)) (hw _ (List.mem_of_getElem? (i := 2) rfl)) (by decide) (a := b723) f748 (own_use1 l Z a0 hw [] (b723) ((.ref bo741)) ((.ref bo741)) ((1 : Int32)) (bm727) T747.heap n0 (Nat.le_trans Z0 (Nat.le_trans (Nat.le_trans (Nat.le_trans E723.1 K727.1) K741.1) K747.1)) f748 f751 f749 f752 rfl g_b723 rfl (by first | assumption | decide)) 0 (by decide) (by decide) (by decide) (by decide) rfl (g := (mkF m 62 #[iv u1, iv u2, iv u3, iv (3 : Int32), iv (1 : Int32), iv (0 : Int32), rv b723, rv bo741, .unset] [(.ref bo741), (.ref b723)])) rfl (by rw [hml]; rfl) (argsL := [(.ref bo741)]) (rest := []) (lenOf own_pd15 rfl) rfl (by show 2 * 0 + _ ≤ _; exact Nat.le_of_eq rfl) (hb hby at_62) ?_
        intro v753 T753 L753 X753 q753
        obtain ⟨rfl, N753q, K753, f754, f755, f756, f757⟩ := q753
        have N753 := Fr.app N747 N753q
        have f758 : Fld Z T753.heap b723 "com/example/purlin/purlin/framework/ServiceUse" "count" "I" (.int (2 : Int32)) := f756
        show own_Goes p e below s _ _ _ T753 (mkF m 65 #[iv u1, iv u2, iv u3, iv (3 : Int32), iv (1 : Int32), iv (0 : Int32), rv b723, rv bo741, .unset] [])
        refine own_by (g' := (mkF m 74 #[iv u1, iv u2, iv u3, iv (3 : Int32), iv (1 : Int32), iv (0 : Int32), rv b723, rv bo741, .unset] [(.ref bo741), (.ref b723)])) (fun t k => XS.iloadN X753.here hx rfl (hb hby at_65) rfl (XS.iconst X753.here hx rfl (hb hby at_66) (XS.icmpNo X753.here hx rfl (hb hby at_67) rfl (flt (by decide : ¬ ((3 : Int32) < (3 : Int32)))).1 (XS.aload X753.here hx rfl (hb hby at_70) rfl rfl (XS.aload X753.here hx rfl (hb hby at_72) rfl rfl k))))) ?_
        refine own_callV X753 hx hZ hown (hw _ (List.mem_of_getElem? (i := 47) rfl)) (hw _ (List.mem_of_getElem? (i := 48) rfl)) (notFace_of_selects (args := #[]) (mvT hZ (hw _ (List.mem_of_getElem? (i := 50) rfl)))) (hw _ (List.mem_of_getElem? (i := 50) rfl)) (hw _ (List.mem_of_getElem? (i := 49) rfl)) (hw _ (List.mem_of_getElem? (i := 51) rfl)) (hw _ (List.mem_of_getElem? (i := 2) rfl)) (by decide) (a := b723) f754 (own_use1 l Z a0 hw [] (b723) ((.ref bo741)) ((.ref bo741)) ((2 : Int32)) (bm727) T753.heap n0 (Nat.le_trans Z0 (Nat.le_trans (Nat.le_trans (Nat.le_trans (Nat.le_trans E723.1 K727.1) K741.1) K747.1) K753.1)) f754 f757 f755 f758 rfl g_b723 rfl (by first | assumption | decide)) 0 (by decide) (by decide) (by decide) (by decide) rfl (g := (mkF m 74 #[iv u1, iv u2, iv u3, iv (3 : Int32), iv (1 : Int32), iv (0 : Int32), rv b723, rv bo741, .unset] [(.ref bo741), (.ref b723)])) rfl (by rw [hml]; rfl) (argsL := [(.ref bo741)]) (rest := []) (lenOf own_pd15 rfl) rfl (by show 2 * 0 + _ ≤ _; exact Nat.le_of_eq rfl) (hb hby at_74) ?_
        intro v759 T759 L759 X759 q759
        obtain ⟨rfl, N759q, K759, f760, f761, f762, f763⟩ := q759
        have N759 := Fr.app N753 N759q
        have f764 : Fld Z T759.heap b723 "com/example/purlin/purlin/framework/ServiceUse" "count" "I" (.int (3 : Int32)) := f762
        show own_Goes p e below s _ _ _ T759 (mkF m 77 #[iv u1, iv u2, iv u3, iv (3 : Int32), iv (1 : Int32), iv (0 : Int32), rv b723, rv bo741, .unset] [])
        refine own_by (g' := (mkF m 85 #[iv u1, iv u2, iv u3, iv (3 : Int32), iv (1 : Int32), iv (0 : Int32), rv b723, rv bo741, .unset] [(.ref b723)])) (fun t k => XS.iload X759.here hx rfl (hb hby at_77) rfl (XS.iconst X759.here hx rfl (hb hby at_79) (XS.icmpNo X759.here hx rfl (hb hby at_80) rfl (flt (by decide : ¬ ((1 : Int32) < (1 : Int32)))).1 (XS.aload X759.here hx rfl (hb hby at_83) rfl rfl k)))) ?_
        refine own_callV X759 hx hZ hown (hw _ (List.mem_of_getElem? (i := 204) rfl)) (hw _ (List.mem_of_getElem? (i := 205) rfl)) (notFace_of_selects (args := #[]) (mvT hZ (hw _ (List.mem_of_getElem? (i := 207) rfl)))) (hw _ (List.mem_of_getElem? (i := 207) rfl)) (hw _ (List.mem_of_getElem? (i := 206) rfl)) (hw _ (List.mem_of_getElem? (i := 208) rfl)) (hw _ (List.mem_of_getElem? (i := 2) rfl)) (by decide) (a := b723) f760 (own_un1 l Z a0 hw [] (b723) ((.ref bo741)) ((3 : Int32)) (bm727) T759.heap n0 (Nat.le_trans Z0 (Nat.le_trans (Nat.le_trans (Nat.le_trans (Nat.le_trans (Nat.le_trans E723.1 K727.1) K741.1) K747.1) K753.1) K759.1)) f760 f763 f761 f764 rfl g_b723 (by first | assumption | decide)) 0 (by decide) (by decide) (by decide) (by decide) rfl (g := (mkF m 85 #[iv u1, iv u2, iv u3, iv (3 : Int32), iv (1 : Int32), iv (0 : Int32), rv b723, rv bo741, .unset] [(.ref b723)])) rfl (by rw [hml]; rfl) (argsL := []) (rest := []) (lenOf own_pd16 rfl) rfl (by show 2 * 0 + _ ≤ _; exact Nat.le_of_eq rfl) (hb hby at_85) ?_
        intro v765 T765 L765 X765 q765
        obtain ⟨rfl, N765q, K765, f766, f767, f768, f769⟩ := q765
        have N765 := Fr.app N759 N765q
        have f770 : Fld Z T765.heap b723 "com/example/purlin/purlin/framework/ServiceUse" "count" "I" (.int (2 : Int32)) := f768
        show own_Goes p e below s _ _ _ T765 (mkF m 88 #[iv u1, iv u2, iv u3, iv (3 : Int32), iv (1 : Int32), iv (0 : Int32), rv b723, rv bo741, .unset] [.null])
        refine own_by (g' := (mkF m 115 #[iv u1, iv u2, iv u3, iv (3 : Int32), iv (1 : Int32), iv (0 : Int32), rv b723, rv bo741, .unset] [(.int (0 : Int32))])) (fun t k => XS.pop X765.here hx rfl (hb hby at_88) rfl rfl (XS.iload X765.here hx rfl (hb hby at_89) rfl (XS.iconst X765.here hx rfl (hb hby at_91) (XS.icmpYes X765.here hx rfl (pc0 := 92) (pc' := 101) rfl (hb hby at_92) rfl (tlt (by decide : (1 : Int32) < (2 : Int32))).1 (by decide) (by decide) (XS.iload X765.here hx rfl (hb hby at_101) rfl (XS.iconst X765.here hx rfl (hb hby at_103) (XS.icmpYes X765.here hx rfl (pc0 := 104) (pc' := 113) rfl (hb hby at_104) rfl (tlt (by decide : (1 : Int32) < (3 : Int32))).1 (by decide) (by decide) (XS.iload X765.here hx rfl (hb hby at_113) rfl k)))))))) ?_
        refine own_by (g' := (mkF m 137 #[iv u1, iv u2, iv u3, iv (3 : Int32), iv (1 : Int32), iv (0 : Int32), rv b723, rv bo741, .unset] [(.int (1 : Int32))])) (fun t k => XS.ifYes X765.here hx rfl (pc0 := 115) (pc' := 124) rfl (hb hby at_115) rfl ((if0 _ _).trans (teq (by decide : (0 : Int32) = (0 : Int32))).1) (by decide) (by decide) (XS.iload X765.here hx rfl (hb hby at_124) rfl (XS.ifNo X765.here hx rfl (hb hby at_126) rfl ((if0 _ _).trans (teq (by decide : (0 : Int32) = (0 : Int32))).2) (XS.iloadN X765.here hx rfl (hb hby at_129) rfl (XS.iload X765.here hx rfl (hb hby at_130) rfl (XS.isub X765.here hx rfl (hb hby at_132) rfl (XS.ifNo X765.here hx rfl (hb hby at_133) rfl ((if0 _ _).trans (tlt (by decide : (0 : Int32) < (2 : Int32))).2.2.2) (XS.iconst X765.here hx rfl (hb hby at_136) k)))))))) ?_
        refine own_by (g' := (mkF m 145 #[iv u1, iv u2, iv u3, iv (3 : Int32), iv (1 : Int32), iv (0 : Int32), rv b723, rv bo741, iv (1 : Int32)] [(.ref b723)])) (fun t k => XS.goto X765.here hx rfl (pc0 := 137) (pc' := 141) rfl (hb hby at_137) (by decide) (by decide) (XS.istore X765.here hx rfl (hb hby at_141) rfl (l' := #[iv u1, iv u2, iv u3, iv (3 : Int32), iv (1 : Int32), iv (0 : Int32), rv b723, rv bo741, iv (1 : Int32)]) rfl (XS.aload X765.here hx rfl (hb hby at_143) rfl rfl k))) ?_
        refine own_callV X765 hx hZ hown (hw _ (List.mem_of_getElem? (i := 40) rfl)) (hw _ (List.mem_of_getElem? (i := 41) rfl)) (notFace_of_selects (args := #[]) (mvT hZ (hw _ (List.mem_of_getElem? (i := 43) rfl)))) (hw _ (List.mem_of_getElem? (i := 43) rfl)) (hw _ (List.mem_of_getElem? (i := 42) rfl)) (hw _ (List.mem_of_getElem? (i := 44) rfl)) (hw _ (List.mem_of_getElem? (i := 2) rfl)) (by decide) (a := b723) f766 (own_ic1 l Z a0 hw [] (b723) ((2 : Int32)) T765.heap n0 (Nat.le_trans Z0 (Nat.le_trans (Nat.le_trans (Nat.le_trans (Nat.le_trans (Nat.le_trans (Nat.le_trans E723.1 K727.1) K741.1) K747.1) K753.1) K759.1) K765.1)) f770 (by first | assumption | decide)) 0 (by decide) (by decide) (by decide) (by decide) rfl (g := (mkF m 145 #[iv u1, iv u2, iv u3, iv (3 : Int32), iv (1 : Int32), iv (0 : Int32), rv b723, rv bo741, iv (1 : Int32)] [(.ref b723)])) rfl (by rw [hml]; rfl) (argsL := []) (rest := []) (lenOf own_pd13 rfl) rfl (by show 2 * 0 + _ ≤ _; exact Nat.le_of_eq rfl) (hb hby at_145) ?_
        intro v771 T771 L771 X771 q771
        obtain ⟨rfl, N771q, e771⟩ := q771
        have N771 := Fr.app N765 N771q
        show own_Goes p e below s _ _ _ T771 (mkF m 148 #[iv u1, iv u2, iv u3, iv (3 : Int32), iv (1 : Int32), iv (0 : Int32), rv b723, rv bo741, iv (1 : Int32)] [(.int (1 : Int32))])
        refine own_by (g' := (mkF m 158 #[iv u1, iv u2, iv u3, iv (3 : Int32), iv (1 : Int32), iv (0 : Int32), rv b723, rv bo741, iv (1 : Int32)] [(.int (1 : Int32))])) (fun t k => XS.iload X771.here hx rfl (hb hby at_148) rfl (XS.icmpNo X771.here hx rfl (hb hby at_150) rfl (teq (by decide : (1 : Int32) = (1 : Int32))).2 (XS.iconst X771.here hx rfl (hb hby at_153) (XS.goto X771.here hx rfl (pc0 := 154) (pc' := 158) rfl (hb hby at_154) (by decide) (by decide) k)))) ?_
        refine own_retN X771 hx hlk hret (t := .boolean) (by simp) (hb hby at_158) (by decide) (by decide) ?_
        rw [e771]
        exact ⟨rfl, N771, ((((((((Keep.refl h0 []).ext E723).trans K727 (allS (Or.inr sz_b723) all0)).trans K741 all0).trans K747 (allS (Or.inr sz_b723) all0)).trans K753 (allS (Or.inr sz_b723) all0)).trans K759 (allS (Or.inr sz_b723) all0)).trans K765 (allS (Or.inr sz_b723) all0))⟩
      ·
        refine own_by (g' := (mkF m 26 #[iv u1, iv u2, iv u3, iv (3 : Int32), iv (1 : Int32), iv (1 : Int32), .unset, .unset, .unset] [])) (fun t k => XS.ifNo X0.here hx rfl (hb hby at_16) rfl ((if0 _ _).trans (feq hc722).1) (XS.iconst X0.here hx rfl (hb hby at_19) (XS.goto X0.here hx rfl (pc0 := 20) (pc' := 24) rfl (hb hby at_20) (by decide) (by decide) (XS.istore X0.here hx rfl (hb hby at_24) rfl (l' := #[iv u1, iv u2, iv u3, iv (3 : Int32), iv (1 : Int32), iv (1 : Int32), .unset, .unset, .unset]) rfl k)))) ?_
        obtain ⟨T772, h772, X772, e772, E772, A772, D772, U772, st772⟩ := newO X0 hx hZ hown (hw _ (List.mem_of_getElem? (i := 0) rfl)) (hw _ (List.mem_of_getElem? (i := 1) rfl)) (hw _ (List.mem_of_getElem? (i := 2) rfl)) e0 (g := (mkF m 26 #[iv u1, iv u2, iv u3, iv (3 : Int32), iv (1 : Int32), iv (1 : Int32), .unset, .unset, .unset] [])) rfl (hb hby at_26) (by decide) (by decide)
        obtain ⟨b772, g772⟩ : ∃ z, z = h0.size := ⟨_, rfl⟩
        rw [← g772] at A772 D772 U772 st772
        have sz_b772 : h0.size ≤ b772 := Nat.le_trans (Nat.le_refl _) (Nat.le_of_eq g772.symm)
        have g_b772 : n0 ≤ b772 := Nat.le_trans Z0 sz_b772
        have f773 : Fld Z h772 b772 "com/example/purlin/purlin/framework/ServiceUse" "prototypes" "Ljava/util/Map;" .null := D772 (Or.inr (hw _ (List.mem_of_getElem? (i := 32) rfl))) (ty := (.object "java/util/Map")) (by decide)
        have f774 : Fld Z h772 b772 "com/example/purlin/purlin/framework/ServiceUse" "count" "I" (.int (0 : Int32)) := D772 (Or.inl (hw _ (List.mem_of_getElem? (i := 46) rfl))) (ty := .int) (by decide)
        have f775 : Fld Z h772 b772 "com/example/purlin/purlin/framework/ServiceUse" "object" "Ljava/lang/Object;" .null := D772 (Or.inl (hw _ (List.mem_of_getElem? (i := 53) rfl))) (ty := (.object "java/lang/Object")) (by decide)
        refine own_by (g' := (mkF m 29 #[iv u1, iv u2, iv u3, iv (3 : Int32), iv (1 : Int32), iv (1 : Int32), .unset, .unset, .unset] [(.ref b772)])) st772 ?_
        refine own_by (g' := (mkF m 30 #[iv u1, iv u2, iv u3, iv (3 : Int32), iv (1 : Int32), iv (1 : Int32), .unset, .unset, .unset] [(.ref b772), (.ref b772)])) (fun t k => XS.dup X772.here hx rfl (hb hby at_29) rfl rfl k) ?_
        refine own_callI X772 hx hZ hown rfl (hw _ (List.mem_of_getElem? (i := 3) rfl)) (hw _ (List.mem_of_getElem? (i := 4) rfl)) (hw _ (List.mem_of_getElem? (i := 2) rfl)) (hw _ (List.mem_of_getElem? (i := 5) rfl)) (by decide) (a := b772) (own_si l Z a0 hw [] (b772) h772 n0 (Nat.le_trans Z0 E772.1) A772 f773 f775 f774 g_b772) 1 (by decide) (by decide) (by decide) (by decide) e772 (g := (mkF m 30 #[iv u1, iv u2, iv u3, iv (3 : Int32), iv (1 : Int32), iv (1 : Int32), .unset, .unset, .unset] [(.ref b772), (.ref b772)])) rfl (by rw [hml]; rfl) (argsL := []) (rest := [(.ref b772)]) (lenOf own_pd0 rfl) rfl (by show 2 * 0 + _ ≤ _; exact Nat.le_of_eq rfl) (hb hby at_30) ?_
        intro v776 T776 L776 X776 q776
        obtain ⟨bm776, bt776, kt776, rfl, N776q, K776, f777, f778, f779, f780, f781, f782, f783, f784, f785, f786, f787, f788⟩ := q776
        have N776 := Fr.app N0 N776q
        show own_Goes p e below s _ _ _ T776 (mkF m 33 #[iv u1, iv u2, iv u3, iv (3 : Int32), iv (1 : Int32), iv (1 : Int32), .unset, .unset, .unset] [(.ref b772)])
        refine own_by (g' := (mkF m 36 #[iv u1, iv u2, iv u3, iv (3 : Int32), iv (1 : Int32), iv (1 : Int32), rv b772, .unset, .unset] [(.int u3)])) (fun t k => XS.astore X776.here hx rfl (hb hby at_33) rfl rfl (l' := #[iv u1, iv u2, iv u3, iv (3 : Int32), iv (1 : Int32), iv (1 : Int32), rv b772, .unset, .unset]) rfl (XS.iloadN X776.here hx rfl (hb hby at_35) rfl k)) ?_
        have f789 := ((O0.ext E772).keep K776 (allS g_b772 all0))
        refine own_callS X776 hx hZ hown (hw _ (List.mem_of_getElem? (i := 33) rfl)) (hw _ (List.mem_of_getElem? (i := 34) rfl)) (hw _ (List.mem_of_getElem? (i := 35) rfl)) (hw _ (List.mem_of_getElem? (i := 36) rfl)) (by decide) (own_valueOf l Z a0 hw [] (u3) (zc) T776.heap n0 (Nat.le_trans Z0 (Nat.le_trans E772.1 K776.1)) f789 S_high S_cache (by first | assumption | decide)) 0 (by decide) (by decide) (by decide) (by decide) rfl (g := (mkF m 36 #[iv u1, iv u2, iv u3, iv (3 : Int32), iv (1 : Int32), iv (1 : Int32), rv b772, .unset, .unset] [(.int u3)])) rfl (by rw [hml]; rfl) (argsL := [(.int u3)]) (rest := []) (lenOf own_pd12 rfl) rfl (by show 2 * 0 + _ ≤ _; exact Nat.le_of_eq rfl) (hb hby at_36) ?_
        intro v790 T790 L790 X790 q790
        obtain ⟨bo790, rfl, N790q, K790, f791⟩ := q790
        have N790 := Fr.app N776 N790q
        show own_Goes p e below s _ _ _ T790 (mkF m 39 #[iv u1, iv u2, iv u3, iv (3 : Int32), iv (1 : Int32), iv (1 : Int32), rv b772, .unset, .unset] [(.ref bo790)])
        refine own_by (g' := (mkF m 50 #[iv u1, iv u2, iv u3, iv (3 : Int32), iv (1 : Int32), iv (1 : Int32), rv b772, rv bo790, .unset] [(.ref bo790), (.ref b772)])) (fun t k => XS.astore X790.here hx rfl (hb hby at_39) rfl rfl (l' := #[iv u1, iv u2, iv u3, iv (3 : Int32), iv (1 : Int32), iv (1 : Int32), rv b772, rv bo790, .unset]) rfl (XS.iloadN X790.here hx rfl (hb hby at_41) rfl (XS.iconst X790.here hx rfl (hb hby at_42) (XS.icmpNo X790.here hx rfl (hb hby at_43) rfl (flt (by decide : ¬ ((3 : Int32) < (1 : Int32)))).1 (XS.aload X790.here hx rfl (hb hby at_46) rfl rfl (XS.aload X790.here hx rfl (hb hby at_48) rfl rfl k)))))) ?_
        have f792 := (f777.keep K790)
        have f793 := (f778.keep K790 nin0)
        have f794 := (f779.keep K790 nin0)
        have f795 := (f780.keep K790 nin0)
        refine own_callV X790 hx hZ hown (hw _ (List.mem_of_getElem? (i := 47) rfl)) (hw _ (List.mem_of_getElem? (i := 48) rfl)) (notFace_of_selects (args := #[]) (mvT hZ (hw _ (List.mem_of_getElem? (i := 50) rfl)))) (hw _ (List.mem_of_getElem? (i := 50) rfl)) (hw _ (List.mem_of_getElem? (i := 49) rfl)) (hw _ (List.mem_of_getElem? (i := 51) rfl)) (hw _ (List.mem_of_getElem? (i := 2) rfl)) (by decide) (a := b772) f792 (own_use0 l Z a0 hw [] (b772) ((.ref bo790)) (.null) ((0 : Int32)) (bm776) T790.heap n0 (Nat.le_trans Z0 (Nat.le_trans (Nat.le_trans E772.1 K776.1) K790.1)) f792 f793 f794 f795 rfl g_b772 rfl (by first | assumption | decide)) 0 (by decide) (by decide) (by decide) (by decide) rfl (g := (mkF m 50 #[iv u1, iv u2, iv u3, iv (3 : Int32), iv (1 : Int32), iv (1 : Int32), rv b772, rv bo790, .unset] [(.ref bo790), (.ref b772)])) rfl (by rw [hml]; rfl) (argsL := [(.ref bo790)]) (rest := []) (lenOf own_pd15 rfl) rfl (by show 2 * 0 + _ ≤ _; exact Nat.le_of_eq rfl) (hb hby at_50) ?_
        intro v796 T796 L796 X796 q796
        obtain ⟨rfl, N796q, K796, f797, f798, f799, f800⟩ := q796
        have N796 := Fr.app N790 N796q
        have f801 : Fld Z T796.heap b772 "com/example/purlin/purlin/framework/ServiceUse" "count" "I" (.int (1 : Int32)) := f799
        show own_Goes p e below s _ _ _ T796 (mkF m 53 #[iv u1, iv u2, iv u3, iv (3 : Int32), iv (1 : Int32), iv (1 : Int32), rv b772, rv bo790, .unset] [])
        refine own_by (g' := (mkF m 62 #[iv u1, iv u2, iv u3, iv (3 : Int32), iv (1 : Int32), iv (1 : Int32), rv b772, rv bo790, .unset] [(.ref bo790), (.ref b772)])) (fun t k => XS.iloadN X796.here hx rfl (hb hby at_53) rfl (XS.iconst X796.here hx rfl (hb hby at_54) (XS.icmpNo X796.here hx rfl (hb hby at_55) rfl (flt (by decide : ¬ ((3 : Int32) < (2 : Int32)))).1 (XS.aload X796.here hx rfl (hb hby at_58) rfl rfl (XS.aload X796.here hx rfl (hb hby at_60) rfl rfl k))))) ?_
        refine own_callV X796 hx hZ hown (hw _ (List.mem_of_getElem? (i := 47) rfl)) (hw _ (List.mem_of_getElem? (i := 48) rfl)) (notFace_of_selects (args := #[]) (mvT hZ (hw _ (List.mem_of_getElem? (i := 50) rfl)))) (hw _ (List.mem_of_getElem? (i := 50) rfl)) (hw _ (List.mem_of_getElem? (i := 49) rfl)) (hw _ (List.mem_of_getElem? (i := 51) rfl)) (hw _ (List.mem_of_getElem? (i := 2) rfl)) (by decide) (a := b772) f797 (own_use1 l Z a0 hw [] (b772) ((.ref bo790)) ((.ref bo790)) ((1 : Int32)) (bm776) T796.heap n0 (Nat.le_trans Z0 (Nat.le_trans (Nat.le_trans (Nat.le_trans E772.1 K776.1) K790.1) K796.1)) f797 f800 f798 f801 rfl g_b772 rfl (by first | assumption | decide)) 0 (by decide) (by decide) (by decide) (by decide) rfl (g := (mkF m 62 #[iv u1, iv u2, iv u3, iv (3 : Int32), iv (1 : Int32), iv (1 : Int32), rv b772, rv bo790, .unset] [(.ref bo790), (.ref b772)])) rfl (by rw [hml]; rfl) (argsL := [(.ref bo790)]) (rest := []) (lenOf own_pd15 rfl) rfl (by show 2 * 0 + _ ≤ _; exact Nat.le_of_eq rfl) (hb hby at_62) ?_
        intro v802 T802 L802 X802 q802
        obtain ⟨rfl, N802q, K802, f803, f804, f805, f806⟩ := q802
        have N802 := Fr.app N796 N802q
        have f807 : Fld Z T802.heap b772 "com/example/purlin/purlin/framework/ServiceUse" "count" "I" (.int (2 : Int32)) := f805
        show own_Goes p e below s _ _ _ T802 (mkF m 65 #[iv u1, iv u2, iv u3, iv (3 : Int32), iv (1 : Int32), iv (1 : Int32), rv b772, rv bo790, .unset] [])
        refine own_by (g' := (mkF m 74 #[iv u1, iv u2, iv u3, iv (3 : Int32), iv (1 : Int32), iv (1 : Int32), rv b772, rv bo790, .unset] [(.ref bo790), (.ref b772)])) (fun t k => XS.iloadN X802.here hx rfl (hb hby at_65) rfl (XS.iconst X802.here hx rfl (hb hby at_66) (XS.icmpNo X802.here hx rfl (hb hby at_67) rfl (flt (by decide : ¬ ((3 : Int32) < (3 : Int32)))).1 (XS.aload X802.here hx rfl (hb hby at_70) rfl rfl (XS.aload X802.here hx rfl (hb hby at_72) rfl rfl k))))) ?_
        refine own_callV X802 hx hZ hown (hw _ (List.mem_of_getElem? (i := 47) rfl)) (hw _ (List.mem_of_getElem? (i := 48) rfl)) (notFace_of_selects (args := #[]) (mvT hZ (hw _ (List.mem_of_getElem? (i := 50) rfl)))) (hw _ (List.mem_of_getElem? (i := 50) rfl)) (hw _ (List.mem_of_getElem? (i := 49) rfl)) (hw _ (List.mem_of_getElem? (i := 51) rfl)) (hw _ (List.mem_of_getElem? (i := 2) rfl)) (by decide) (a := b772) f803 (own_use1 l Z a0 hw [] (b772) ((.ref bo790)) ((.ref bo790)) ((2 : Int32)) (bm776) T802.heap n0 (Nat.le_trans Z0 (Nat.le_trans (Nat.le_trans (Nat.le_trans (Nat.le_trans E772.1 K776.1) K790.1) K796.1) K802.1)) f803 f806 f804 f807 rfl g_b772 rfl (by first | assumption | decide)) 0 (by decide) (by decide) (by decide) (by decide) rfl (g := (mkF m 74 #[iv u1, iv u2, iv u3, iv (3 : Int32), iv (1 : Int32), iv (1 : Int32), rv b772, rv bo790, .unset] [(.ref bo790), (.ref b772)])) rfl (by rw [hml]; rfl) (argsL := [(.ref bo790)]) (rest := []) (lenOf own_pd15 rfl) rfl (by show 2 * 0 + _ ≤ _; exact Nat.le_of_eq rfl) (hb hby at_74) ?_
        intro v808 T808 L808 X808 q808
        obtain ⟨rfl, N808q, K808, f809, f810, f811, f812⟩ := q808
        have N808 := Fr.app N802 N808q
        have f813 : Fld Z T808.heap b772 "com/example/purlin/purlin/framework/ServiceUse" "count" "I" (.int (3 : Int32)) := f811
        show own_Goes p e below s _ _ _ T808 (mkF m 77 #[iv u1, iv u2, iv u3, iv (3 : Int32), iv (1 : Int32), iv (1 : Int32), rv b772, rv bo790, .unset] [])
        refine own_by (g' := (mkF m 85 #[iv u1, iv u2, iv u3, iv (3 : Int32), iv (1 : Int32), iv (1 : Int32), rv b772, rv bo790, .unset] [(.ref b772)])) (fun t k => XS.iload X808.here hx rfl (hb hby at_77) rfl (XS.iconst X808.here hx rfl (hb hby at_79) (XS.icmpNo X808.here hx rfl (hb hby at_80) rfl (flt (by decide : ¬ ((1 : Int32) < (1 : Int32)))).1 (XS.aload X808.here hx rfl (hb hby at_83) rfl rfl k)))) ?_
        refine own_callV X808 hx hZ hown (hw _ (List.mem_of_getElem? (i := 204) rfl)) (hw _ (List.mem_of_getElem? (i := 205) rfl)) (notFace_of_selects (args := #[]) (mvT hZ (hw _ (List.mem_of_getElem? (i := 207) rfl)))) (hw _ (List.mem_of_getElem? (i := 207) rfl)) (hw _ (List.mem_of_getElem? (i := 206) rfl)) (hw _ (List.mem_of_getElem? (i := 208) rfl)) (hw _ (List.mem_of_getElem? (i := 2) rfl)) (by decide) (a := b772) f809 (own_un1 l Z a0 hw [] (b772) ((.ref bo790)) ((3 : Int32)) (bm776) T808.heap n0 (Nat.le_trans Z0 (Nat.le_trans (Nat.le_trans (Nat.le_trans (Nat.le_trans (Nat.le_trans E772.1 K776.1) K790.1) K796.1) K802.1) K808.1)) f809 f812 f810 f813 rfl g_b772 (by first | assumption | decide)) 0 (by decide) (by decide) (by decide) (by decide) rfl (g := (mkF m 85 #[iv u1, iv u2, iv u3, iv (3 : Int32), iv (1 : Int32), iv (1 : Int32), rv b772, rv bo790, .unset] [(.ref b772)])) rfl (by rw [hml]; rfl) (argsL := []) (rest := []) (lenOf own_pd16 rfl) rfl (by show 2 * 0 + _ ≤ _; exact Nat.le_of_eq rfl) (hb hby at_85) ?_
        intro v814 T814 L814 X814 q814
        obtain ⟨rfl, N814q, K814, f815, f816, f817, f818⟩ := q814
        have N814 := Fr.app N808 N814q
        have f819 : Fld Z T814.heap b772 "com/example/purlin/purlin/framework/ServiceUse" "count" "I" (.int (2 : Int32)) := f817
        show own_Goes p e below s _ _ _ T814 (mkF m 88 #[iv u1, iv u2, iv u3, iv (3 : Int32), iv (1 : Int32), iv (1 : Int32), rv b772, rv bo790, .unset] [.null])
        refine own_by (g' := (mkF m 115 #[iv u1, iv u2, iv u3, iv (3 : Int32), iv (1 : Int32), iv (1 : Int32), rv b772, rv bo790, .unset] [(.int (1 : Int32))])) (fun t k => XS.pop X814.here hx rfl (hb hby at_88) rfl rfl (XS.iload X814.here hx rfl (hb hby at_89) rfl (XS.iconst X814.here hx rfl (hb hby at_91) (XS.icmpYes X814.here hx rfl (pc0 := 92) (pc' := 101) rfl (hb hby at_92) rfl (tlt (by decide : (1 : Int32) < (2 : Int32))).1 (by decide) (by decide) (XS.iload X814.here hx rfl (hb hby at_101) rfl (XS.iconst X814.here hx rfl (hb hby at_103) (XS.icmpYes X814.here hx rfl (pc0 := 104) (pc' := 113) rfl (hb hby at_104) rfl (tlt (by decide : (1 : Int32) < (3 : Int32))).1 (by decide) (by decide) (XS.iload X814.here hx rfl (hb hby at_113) rfl k)))))))) ?_
        refine own_by (g' := (mkF m 120 #[iv u1, iv u2, iv u3, iv (3 : Int32), iv (1 : Int32), iv (1 : Int32), rv b772, rv bo790, .unset] [(.ref b772)])) (fun t k => XS.ifNo X814.here hx rfl (hb hby at_115) rfl ((if0 _ _).trans (feq (by decide : ¬ ((1 : Int32) = (0 : Int32)))).1) (XS.aload X814.here hx rfl (hb hby at_118) rfl rfl k)) ?_
        have f820 := ((((f791.keep K796).keep K802).keep K808).keep K814)
        have f821 := (((((f782.keep K790).keep K796).keep K802).keep K808).keep K814)
        have f822 := (((((f783.keep K790 nin0).keep K796 (ninS (Ne.symm (Nat.ne_of_lt (Nat.lt_of_lt_of_le (Nat.lt_of_lt_of_le A772.lt (Nat.le_refl _)) f781))) nin0)).keep K802 (ninS (Ne.symm (Nat.ne_of_lt (Nat.lt_of_lt_of_le (Nat.lt_of_lt_of_le A772.lt (Nat.le_refl _)) f781))) nin0)).keep K808 (ninS (Ne.symm (Nat.ne_of_lt (Nat.lt_of_lt_of_le (Nat.lt_of_lt_of_le A772.lt (Nat.le_refl _)) f781))) nin0)).keep K814 (ninS (Ne.symm (Nat.ne_of_lt (Nat.lt_of_lt_of_le (Nat.lt_of_lt_of_le A772.lt (Nat.le_refl _)) f781))) nin0))
        have f823 := (((((f784.keep K790 nin0).keep K796 (ninS (Ne.symm (Nat.ne_of_lt (Nat.lt_of_lt_of_le (Nat.lt_of_lt_of_le A772.lt (Nat.le_refl _)) f781))) nin0)).keep K802 (ninS (Ne.symm (Nat.ne_of_lt (Nat.lt_of_lt_of_le (Nat.lt_of_lt_of_le A772.lt (Nat.le_refl _)) f781))) nin0)).keep K808 (ninS (Ne.symm (Nat.ne_of_lt (Nat.lt_of_lt_of_le (Nat.lt_of_lt_of_le A772.lt (Nat.le_refl _)) f781))) nin0)).keep K814 (ninS (Ne.symm (Nat.ne_of_lt (Nat.lt_of_lt_of_le (Nat.lt_of_lt_of_le A772.lt (Nat.le_refl _)) f781))) nin0))
        have f824 := (((((f785.keep K790 nin0).keep K796 (ninS (Ne.symm (Nat.ne_of_lt (Nat.lt_of_lt_of_le (Nat.lt_of_lt_of_le A772.lt (Nat.le_refl _)) f781))) nin0)).keep K802 (ninS (Ne.symm (Nat.ne_of_lt (Nat.lt_of_lt_of_le (Nat.lt_of_lt_of_le A772.lt (Nat.le_refl _)) f781))) nin0)).keep K808 (ninS (Ne.symm (Nat.ne_of_lt (Nat.lt_of_lt_of_le (Nat.lt_of_lt_of_le A772.lt (Nat.le_refl _)) f781))) nin0)).keep K814 (ninS (Ne.symm (Nat.ne_of_lt (Nat.lt_of_lt_of_le (Nat.lt_of_lt_of_le A772.lt (Nat.le_refl _)) f781))) nin0))
        have f825 := (((((f787.keep K790 nin0).keep K796 (ninS (Ne.symm (Nat.ne_of_lt (Nat.lt_of_lt_of_le (Nat.lt_of_lt_of_le A772.lt (Nat.le_refl _)) f781))) nin0)).keep K802 (ninS (Ne.symm (Nat.ne_of_lt (Nat.lt_of_lt_of_le (Nat.lt_of_lt_of_le A772.lt (Nat.le_refl _)) f781))) nin0)).keep K808 (ninS (Ne.symm (Nat.ne_of_lt (Nat.lt_of_lt_of_le (Nat.lt_of_lt_of_le A772.lt (Nat.le_refl _)) f781))) nin0)).keep K814 (ninS (Ne.symm (Nat.ne_of_lt (Nat.lt_of_lt_of_le (Nat.lt_of_lt_of_le A772.lt (Nat.le_refl _)) f781))) nin0))
        have f826 := (((((f788.keep K790 nin0).keep K796 (ninS (Ne.symm (Nat.ne_of_lt (Nat.lt_of_lt_of_le (Nat.lt_of_lt_of_le A772.lt (Nat.le_refl _)) f786))) nin0)).keep K802 (ninS (Ne.symm (Nat.ne_of_lt (Nat.lt_of_lt_of_le (Nat.lt_of_lt_of_le A772.lt (Nat.le_refl _)) f786))) nin0)).keep K808 (ninS (Ne.symm (Nat.ne_of_lt (Nat.lt_of_lt_of_le (Nat.lt_of_lt_of_le A772.lt (Nat.le_refl _)) f786))) nin0)).keep K814 (ninS (Ne.symm (Nat.ne_of_lt (Nat.lt_of_lt_of_le (Nat.lt_of_lt_of_le A772.lt (Nat.le_refl _)) f786))) nin0))
        have f827 := (((((f789.keep K790 all0).keep K796 (allS g_b772 all0)).keep K802 (allS g_b772 all0)).keep K808 (allS g_b772 all0)).keep K814 (allS g_b772 all0))
        have f828 := (((((((Yd.ext E772).keep K776 (ninS (Nat.ne_of_lt (Nat.lt_of_lt_of_le (Nat.lt_of_lt_of_le Yd.lt (Nat.le_refl _)) (Nat.le_of_eq g772.symm))) nin0)).keep K790 nin0).keep K796 (ninS (Nat.ne_of_lt (Nat.lt_of_lt_of_le (Nat.lt_of_lt_of_le Yd.lt (Nat.le_refl _)) (Nat.le_of_eq g772.symm))) nin0)).keep K802 (ninS (Nat.ne_of_lt (Nat.lt_of_lt_of_le (Nat.lt_of_lt_of_le Yd.lt (Nat.le_refl _)) (Nat.le_of_eq g772.symm))) nin0)).keep K808 (ninS (Nat.ne_of_lt (Nat.lt_of_lt_of_le (Nat.lt_of_lt_of_le Yd.lt (Nat.le_refl _)) (Nat.le_of_eq g772.symm))) nin0)).keep K814 (ninS (Nat.ne_of_lt (Nat.lt_of_lt_of_le (Nat.lt_of_lt_of_le Yd.lt (Nat.le_refl _)) (Nat.le_of_eq g772.symm))) nin0))
        refine own_callV X814 hx hZ hown (hw _ (List.mem_of_getElem? (i := 54) rfl)) (hw _ (List.mem_of_getElem? (i := 55) rfl)) (notFace_of_selects (args := #[]) (mvT hZ (hw _ (List.mem_of_getElem? (i := 57) rfl)))) (hw _ (List.mem_of_getElem? (i := 57) rfl)) (hw _ (List.mem_of_getElem? (i := 56) rfl)) (hw _ (List.mem_of_getElem? (i := 58) rfl)) (hw _ (List.mem_of_getElem? (i := 2) rfl)) (by decide) (a := b772) f815 (own_clear1 l Z a0 hw [] (b772) (bm776) (bt776) (kt776) (zd) ((2 : Int32)) (bo790) T814.heap n0 (Nat.le_trans Z0 (Nat.le_trans (Nat.le_trans (Nat.le_trans (Nat.le_trans (Nat.le_trans (Nat.le_trans E772.1 K776.1) K790.1) K796.1) K802.1) K808.1) K814.1)) f815 f818 f816 f819 g_b772 f820 (by first | assumption | decide) f821 f822 f823 f824 f825 f826 (Nat.le_trans (Nat.le_trans Z0 E772.1) f781) (Nat.le_trans (Nat.le_trans Z0 E772.1) f786) f827 S_dflt f828) 0 (by decide) (by decide) (by decide) (by decide) rfl (g := (mkF m 120 #[iv u1, iv u2, iv u3, iv (3 : Int32), iv (1 : Int32), iv (1 : Int32), rv b772, rv bo790, .unset] [(.ref b772)])) rfl (by rw [hml]; rfl) (argsL := []) (rest := []) (lenOf own_pd14 rfl) rfl (by show 2 * 0 + _ ≤ _; exact Nat.le_of_eq rfl) (hb hby at_120) ?_
        intro v829 T829 L829 X829 q829
        obtain ⟨bl829, rfl, N829q, K829, f830, f831⟩ := q829
        have N829 := Fr.app N814 N829q
        show own_Goes p e below s _ _ _ T829 (mkF m 123 #[iv u1, iv u2, iv u3, iv (3 : Int32), iv (1 : Int32), iv (1 : Int32), rv b772, rv bo790, .unset] [(.ref bl829)])
        refine own_by (g' := (mkF m 145 #[iv u1, iv u2, iv u3, iv (3 : Int32), iv (1 : Int32), iv (1 : Int32), rv b772, rv bo790, iv (0 : Int32)] [(.ref b772)])) (fun t k => XS.pop X829.here hx rfl (hb hby at_123) rfl rfl (XS.iload X829.here hx rfl (hb hby at_124) rfl (XS.ifYes X829.here hx rfl (pc0 := 126) (pc' := 140) rfl (hb hby at_126) rfl ((if0 _ _).trans (feq (by decide : ¬ ((1 : Int32) = (0 : Int32)))).2) (by decide) (by decide) (XS.iconst X829.here hx rfl (hb hby at_140) (XS.istore X829.here hx rfl (hb hby at_141) rfl (l' := #[iv u1, iv u2, iv u3, iv (3 : Int32), iv (1 : Int32), iv (1 : Int32), rv b772, rv bo790, iv (0 : Int32)]) rfl (XS.aload X829.here hx rfl (hb hby at_143) rfl rfl k)))))) ?_
        refine own_callV X829 hx hZ hown (hw _ (List.mem_of_getElem? (i := 40) rfl)) (hw _ (List.mem_of_getElem? (i := 41) rfl)) (notFace_of_selects (args := #[]) (mvT hZ (hw _ (List.mem_of_getElem? (i := 43) rfl)))) (hw _ (List.mem_of_getElem? (i := 43) rfl)) (hw _ (List.mem_of_getElem? (i := 42) rfl)) (hw _ (List.mem_of_getElem? (i := 44) rfl)) (hw _ (List.mem_of_getElem? (i := 2) rfl)) (by decide) (a := b772) f830 (own_ic0 l Z a0 hw [] (b772) ((0 : Int32)) T829.heap n0 (Nat.le_trans Z0 (Nat.le_trans (Nat.le_trans (Nat.le_trans (Nat.le_trans (Nat.le_trans (Nat.le_trans (Nat.le_trans E772.1 K776.1) K790.1) K796.1) K802.1) K808.1) K814.1) K829.1)) f831 (by first | assumption | decide)) 0 (by decide) (by decide) (by decide) (by decide) rfl (g := (mkF m 145 #[iv u1, iv u2, iv u3, iv (3 : Int32), iv (1 : Int32), iv (1 : Int32), rv b772, rv bo790, iv (0 : Int32)] [(.ref b772)])) rfl (by rw [hml]; rfl) (argsL := []) (rest := []) (lenOf own_pd13 rfl) rfl (by show 2 * 0 + _ ≤ _; exact Nat.le_of_eq rfl) (hb hby at_145) ?_
        intro v832 T832 L832 X832 q832
        obtain ⟨rfl, N832q, e832⟩ := q832
        have N832 := Fr.app N829 N832q
        show own_Goes p e below s _ _ _ T832 (mkF m 148 #[iv u1, iv u2, iv u3, iv (3 : Int32), iv (1 : Int32), iv (1 : Int32), rv b772, rv bo790, iv (0 : Int32)] [(.int (0 : Int32))])
        refine own_by (g' := (mkF m 158 #[iv u1, iv u2, iv u3, iv (3 : Int32), iv (1 : Int32), iv (1 : Int32), rv b772, rv bo790, iv (0 : Int32)] [(.int (1 : Int32))])) (fun t k => XS.iload X832.here hx rfl (hb hby at_148) rfl (XS.icmpNo X832.here hx rfl (hb hby at_150) rfl (teq (by decide : (0 : Int32) = (0 : Int32))).2 (XS.iconst X832.here hx rfl (hb hby at_153) (XS.goto X832.here hx rfl (pc0 := 154) (pc' := 158) rfl (hb hby at_154) (by decide) (by decide) k)))) ?_
        refine own_retN X832 hx hlk hret (t := .boolean) (by simp) (hb hby at_158) (by decide) (by decide) ?_
        rw [e832]
        exact ⟨rfl, N832, (((((((((Keep.refl h0 []).ext E772).trans K776 (allS (Or.inr sz_b772) all0)).trans K790 all0).trans K796 (allS (Or.inr sz_b772) all0)).trans K802 (allS (Or.inr sz_b772) all0)).trans K808 (allS (Or.inr sz_b772) all0)).trans K814 (allS (Or.inr sz_b772) all0)).trans K829 (allS (Or.inr sz_b772) (allS (Or.inr (Nat.le_trans E772.1 f781)) (allS (Or.inr (Nat.le_trans E772.1 f786)) all0))))⟩
    ·
      rw [q622]
      refine own_by (g' := (mkF m 16 #[iv u1, iv u2, iv u3, iv (3 : Int32), iv (2 : Int32), .unset, .unset, .unset, .unset] [(.int (u3 &&& (1 : Int32)))])) (fun t k => XS.istore X0.here hx rfl (hb hby at_11) rfl (l' := #[iv u1, iv u2, iv u3, iv (3 : Int32), iv (2 : Int32), .unset, .unset, .unset, .unset]) rfl (XS.iloadN X0.here hx rfl (hb hby at_13) rfl (XS.iconst X0.here hx rfl (hb hby at_14) (XS.iand X0.here hx rfl (hb hby at_15) rfl k)))) ?_
      by_cases hc833 : (u3 &&& (1 : Int32)) = (0 : Int32)
      ·
        refine own_by (g' := (mkF m 26 #[iv u1, iv u2, iv u3, iv (3 : Int32), iv (2 : Int32), iv (0 : Int32), .unset, .unset, .unset] [])) (fun t k => XS.ifYes X0.here hx rfl (pc0 := 16) (pc' := 23) rfl (hb hby at_16) rfl ((if0 _ _).trans (teq hc833).1) (by decide) (by decide) (XS.iconst X0.here hx rfl (hb hby at_23) (XS.istore X0.here hx rfl (hb hby at_24) rfl (l' := #[iv u1, iv u2, iv u3, iv (3 : Int32), iv (2 : Int32), iv (0 : Int32), .unset, .unset, .unset]) rfl k))) ?_
        obtain ⟨T834, h834, X834, e834, E834, A834, D834, U834, st834⟩ := newO X0 hx hZ hown (hw _ (List.mem_of_getElem? (i := 0) rfl)) (hw _ (List.mem_of_getElem? (i := 1) rfl)) (hw _ (List.mem_of_getElem? (i := 2) rfl)) e0 (g := (mkF m 26 #[iv u1, iv u2, iv u3, iv (3 : Int32), iv (2 : Int32), iv (0 : Int32), .unset, .unset, .unset] [])) rfl (hb hby at_26) (by decide) (by decide)
        obtain ⟨b834, g834⟩ : ∃ z, z = h0.size := ⟨_, rfl⟩
        rw [← g834] at A834 D834 U834 st834
        have sz_b834 : h0.size ≤ b834 := Nat.le_trans (Nat.le_refl _) (Nat.le_of_eq g834.symm)
        have g_b834 : n0 ≤ b834 := Nat.le_trans Z0 sz_b834
        have f835 : Fld Z h834 b834 "com/example/purlin/purlin/framework/ServiceUse" "prototypes" "Ljava/util/Map;" .null := D834 (Or.inr (hw _ (List.mem_of_getElem? (i := 32) rfl))) (ty := (.object "java/util/Map")) (by decide)
        have f836 : Fld Z h834 b834 "com/example/purlin/purlin/framework/ServiceUse" "count" "I" (.int (0 : Int32)) := D834 (Or.inl (hw _ (List.mem_of_getElem? (i := 46) rfl))) (ty := .int) (by decide)
        have f837 : Fld Z h834 b834 "com/example/purlin/purlin/framework/ServiceUse" "object" "Ljava/lang/Object;" .null := D834 (Or.inl (hw _ (List.mem_of_getElem? (i := 53) rfl))) (ty := (.object "java/lang/Object")) (by decide)
        refine own_by (g' := (mkF m 29 #[iv u1, iv u2, iv u3, iv (3 : Int32), iv (2 : Int32), iv (0 : Int32), .unset, .unset, .unset] [(.ref b834)])) st834 ?_
        refine own_by (g' := (mkF m 30 #[iv u1, iv u2, iv u3, iv (3 : Int32), iv (2 : Int32), iv (0 : Int32), .unset, .unset, .unset] [(.ref b834), (.ref b834)])) (fun t k => XS.dup X834.here hx rfl (hb hby at_29) rfl rfl k) ?_
        refine own_callI X834 hx hZ hown rfl (hw _ (List.mem_of_getElem? (i := 3) rfl)) (hw _ (List.mem_of_getElem? (i := 4) rfl)) (hw _ (List.mem_of_getElem? (i := 2) rfl)) (hw _ (List.mem_of_getElem? (i := 5) rfl)) (by decide) (a := b834) (own_si l Z a0 hw [] (b834) h834 n0 (Nat.le_trans Z0 E834.1) A834 f835 f837 f836 g_b834) 1 (by decide) (by decide) (by decide) (by decide) e834 (g := (mkF m 30 #[iv u1, iv u2, iv u3, iv (3 : Int32), iv (2 : Int32), iv (0 : Int32), .unset, .unset, .unset] [(.ref b834), (.ref b834)])) rfl (by rw [hml]; rfl) (argsL := []) (rest := [(.ref b834)]) (lenOf own_pd0 rfl) rfl (by show 2 * 0 + _ ≤ _; exact Nat.le_of_eq rfl) (hb hby at_30) ?_
        intro v838 T838 L838 X838 q838
        obtain ⟨bm838, bt838, kt838, rfl, N838q, K838, f839, f840, f841, f842, f843, f844, f845, f846, f847, f848, f849, f850⟩ := q838
        have N838 := Fr.app N0 N838q
        show own_Goes p e below s _ _ _ T838 (mkF m 33 #[iv u1, iv u2, iv u3, iv (3 : Int32), iv (2 : Int32), iv (0 : Int32), .unset, .unset, .unset] [(.ref b834)])
        refine own_by (g' := (mkF m 36 #[iv u1, iv u2, iv u3, iv (3 : Int32), iv (2 : Int32), iv (0 : Int32), rv b834, .unset, .unset] [(.int u3)])) (fun t k => XS.astore X838.here hx rfl (hb hby at_33) rfl rfl (l' := #[iv u1, iv u2, iv u3, iv (3 : Int32), iv (2 : Int32), iv (0 : Int32), rv b834, .unset, .unset]) rfl (XS.iloadN X838.here hx rfl (hb hby at_35) rfl k)) ?_
        have f851 := ((O0.ext E834).keep K838 (allS g_b834 all0))
        refine own_callS X838 hx hZ hown (hw _ (List.mem_of_getElem? (i := 33) rfl)) (hw _ (List.mem_of_getElem? (i := 34) rfl)) (hw _ (List.mem_of_getElem? (i := 35) rfl)) (hw _ (List.mem_of_getElem? (i := 36) rfl)) (by decide) (own_valueOf l Z a0 hw [] (u3) (zc) T838.heap n0 (Nat.le_trans Z0 (Nat.le_trans E834.1 K838.1)) f851 S_high S_cache (by first | assumption | decide)) 0 (by decide) (by decide) (by decide) (by decide) rfl (g := (mkF m 36 #[iv u1, iv u2, iv u3, iv (3 : Int32), iv (2 : Int32), iv (0 : Int32), rv b834, .unset, .unset] [(.int u3)])) rfl (by rw [hml]; rfl) (argsL := [(.int u3)]) (rest := []) (lenOf own_pd12 rfl) rfl (by show 2 * 0 + _ ≤ _; exact Nat.le_of_eq rfl) (hb hby at_36) ?_
        intro v852 T852 L852 X852 q852
        obtain ⟨bo852, rfl, N852q, K852, f853⟩ := q852
        have N852 := Fr.app N838 N852q
        show own_Goes p e below s _ _ _ T852 (mkF m 39 #[iv u1, iv u2, iv u3, iv (3 : Int32), iv (2 : Int32), iv (0 : Int32), rv b834, .unset, .unset] [(.ref bo852)])
        refine own_by (g' := (mkF m 50 #[iv u1, iv u2, iv u3, iv (3 : Int32), iv (2 : Int32), iv (0 : Int32), rv b834, rv bo852, .unset] [(.ref bo852), (.ref b834)])) (fun t k => XS.astore X852.here hx rfl (hb hby at_39) rfl rfl (l' := #[iv u1, iv u2, iv u3, iv (3 : Int32), iv (2 : Int32), iv (0 : Int32), rv b834, rv bo852, .unset]) rfl (XS.iloadN X852.here hx rfl (hb hby at_41) rfl (XS.iconst X852.here hx rfl (hb hby at_42) (XS.icmpNo X852.here hx rfl (hb hby at_43) rfl (flt (by decide : ¬ ((3 : Int32) < (1 : Int32)))).1 (XS.aload X852.here hx rfl (hb hby at_46) rfl rfl (XS.aload X852.here hx rfl (hb hby at_48) rfl rfl k)))))) ?_
        have f854 := (f839.keep K852)
        have f855 := (f840.keep K852 nin0)
        have f856 := (f841.keep K852 nin0)
        have f857 := (f842.keep K852 nin0)
        refine own_callV X852 hx hZ hown (hw _ (List.mem_of_getElem? (i := 47) rfl)) (hw _ (List.mem_of_getElem? (i := 48) rfl)) (notFace_of_selects (args := #[]) (mvT hZ (hw _ (List.mem_of_getElem? (i := 50) rfl)))) (hw _ (List.mem_of_getElem? (i := 50) rfl)) (hw _ (List.mem_of_getElem? (i := 49) rfl)) (hw _ (List.mem_of_getElem? (i := 51) rfl)) (hw _ (List.mem_of_getElem? (i := 2) rfl)) (by decide) (a := b834) f854 (own_use0 l Z a0 hw [] (b834) ((.ref bo852)) (.null) ((0 : Int32)) (bm838) T852.heap n0 (Nat.le_trans Z0 (Nat.le_trans (Nat.le_trans E834.1 K838.1) K852.1)) f854 f855 f856 f857 rfl g_b834 rfl (by first | assumption | decide)) 0 (by decide) (by decide) (by decide) (by decide) rfl (g := (mkF m 50 #[iv u1, iv u2, iv u3, iv (3 : Int32), iv (2 : Int32), iv (0 : Int32), rv b834, rv bo852, .unset] [(.ref bo852), (.ref b834)])) rfl (by rw [hml]; rfl) (argsL := [(.ref bo852)]) (rest := []) (lenOf own_pd15 rfl) rfl (by show 2 * 0 + _ ≤ _; exact Nat.le_of_eq rfl) (hb hby at_50) ?_
        intro v858 T858 L858 X858 q858
        obtain ⟨rfl, N858q, K858, f859, f860, f861, f862⟩ := q858
        have N858 := Fr.app N852 N858q
        have f863 : Fld Z T858.heap b834 "com/example/purlin/purlin/framework/ServiceUse" "count" "I" (.int (1 : Int32)) := f861
        show own_Goes p e below s _ _ _ T858 (mkF m 53 #[iv u1, iv u2, iv u3, iv (3 : Int32), iv (2 : Int32), iv (0 : Int32), rv b834, rv bo852, .unset] [])
        refine own_by (g' := (mkF m 62 #[iv u1, iv u2, iv u3, iv (3 : Int32), iv (2 : Int32), iv (0 : Int32), rv b834, rv bo852, .unset] [(.ref bo852), (.ref b834)])) (fun t k => XS.iloadN X858.here hx rfl (hb hby at_53) rfl (XS.iconst X858.here hx rfl (hb hby at_54) (XS.icmpNo X858.here hx rfl (hb hby at_55) rfl (flt (by decide : ¬ ((3 : Int32) < (2 : Int32)))).1 (XS.aload X858.here hx rfl (hb hby at_58) rfl rfl (XS.aload X858.here hx rfl (hb hby at_60) rfl rfl k))))) ?_
        refine own_callV X858 hx hZ hown (hw _ (List.mem_of_getElem? (i := 47) rfl)) (hw _ (List.mem_of_getElem? (i := 48) rfl)) (notFace_of_selects (args := #[]) (mvT hZ (hw _ (List.mem_of_getElem? (i := 50) rfl)))) (hw _ (List.mem_of_getElem? (i := 50) rfl)) (hw _ (List.mem_of_getElem? (i := 49) rfl)) (hw _ (List.mem_of_getElem? (i := 51) rfl)) (hw _ (List.mem_of_getElem? (i := 2) rfl)) (by decide) (a := b834) f859 (own_use1 l Z a0 hw [] (b834) ((.ref bo852)) ((.ref bo852)) ((1 : Int32)) (bm838) T858.heap n0 (Nat.le_trans Z0 (Nat.le_trans (Nat.le_trans (Nat.le_trans E834.1 K838.1) K852.1) K858.1)) f859 f862 f860 f863 rfl g_b834 rfl (by first | assumption | decide)) 0 (by decide) (by decide) (by decide) (by decide) rfl (g := (mkF m 62 #[iv u1, iv u2, iv u3, iv (3 : Int32), iv (2 : Int32), iv (0 : Int32), rv b834, rv bo852, .unset] [(.ref bo852), (.ref b834)])) rfl (by rw [hml]; rfl) (argsL := [(.ref bo852)]) (rest := []) (lenOf own_pd15 rfl) rfl (by show 2 * 0 + _ ≤ _; exact Nat.le_of_eq rfl) (hb hby at_62) ?_
        intro v864 T864 L864 X864 q864
        obtain ⟨rfl, N864q, K864, f865, f866, f867, f868⟩ := q864
        have N864 := Fr.app N858 N864q
        have f869 : Fld Z T864.heap b834 "com/example/purlin/purlin/framework/ServiceUse" "count" "I" (.int (2 : Int32)) := f867
        show own_Goes p e below s _ _ _ T864 (mkF m 65 #[iv u1, iv u2, iv u3, iv (3 : Int32), iv (2 : Int32), iv (0 : Int32), rv b834, rv bo852, .unset] [])
        refine own_by (g' := (mkF m 74 #[iv u1, iv u2, iv u3, iv (3 : Int32), iv (2 : Int32), iv (0 : Int32), rv b834, rv bo852, .unset] [(.ref bo852), (.ref b834)])) (fun t k => XS.iloadN X864.here hx rfl (hb hby at_65) rfl (XS.iconst X864.here hx rfl (hb hby at_66) (XS.icmpNo X864.here hx rfl (hb hby at_67) rfl (flt (by decide : ¬ ((3 : Int32) < (3 : Int32)))).1 (XS.aload X864.here hx rfl (hb hby at_70) rfl rfl (XS.aload X864.here hx rfl (hb hby at_72) rfl rfl k))))) ?_
        refine own_callV X864 hx hZ hown (hw _ (List.mem_of_getElem? (i := 47) rfl)) (hw _ (List.mem_of_getElem? (i := 48) rfl)) (notFace_of_selects (args := #[]) (mvT hZ (hw _ (List.mem_of_getElem? (i := 50) rfl)))) (hw _ (List.mem_of_getElem? (i := 50) rfl)) (hw _ (List.mem_of_getElem? (i := 49) rfl)) (hw _ (List.mem_of_getElem? (i := 51) rfl)) (hw _ (List.mem_of_getElem? (i := 2) rfl)) (by decide) (a := b834) f865 (own_use1 l Z a0 hw [] (b834) ((.ref bo852)) ((.ref bo852)) ((2 : Int32)) (bm838) T864.heap n0 (Nat.le_trans Z0 (Nat.le_trans (Nat.le_trans (Nat.le_trans (Nat.le_trans E834.1 K838.1) K852.1) K858.1) K864.1)) f865 f868 f866 f869 rfl g_b834 rfl (by first | assumption | decide)) 0 (by decide) (by decide) (by decide) (by decide) rfl (g := (mkF m 74 #[iv u1, iv u2, iv u3, iv (3 : Int32), iv (2 : Int32), iv (0 : Int32), rv b834, rv bo852, .unset] [(.ref bo852), (.ref b834)])) rfl (by rw [hml]; rfl) (argsL := [(.ref bo852)]) (rest := []) (lenOf own_pd15 rfl) rfl (by show 2 * 0 + _ ≤ _; exact Nat.le_of_eq rfl) (hb hby at_74) ?_
        intro v870 T870 L870 X870 q870
        obtain ⟨rfl, N870q, K870, f871, f872, f873, f874⟩ := q870
        have N870 := Fr.app N864 N870q
        have f875 : Fld Z T870.heap b834 "com/example/purlin/purlin/framework/ServiceUse" "count" "I" (.int (3 : Int32)) := f873
        show own_Goes p e below s _ _ _ T870 (mkF m 77 #[iv u1, iv u2, iv u3, iv (3 : Int32), iv (2 : Int32), iv (0 : Int32), rv b834, rv bo852, .unset] [])
        refine own_by (g' := (mkF m 85 #[iv u1, iv u2, iv u3, iv (3 : Int32), iv (2 : Int32), iv (0 : Int32), rv b834, rv bo852, .unset] [(.ref b834)])) (fun t k => XS.iload X870.here hx rfl (hb hby at_77) rfl (XS.iconst X870.here hx rfl (hb hby at_79) (XS.icmpNo X870.here hx rfl (hb hby at_80) rfl (flt (by decide : ¬ ((2 : Int32) < (1 : Int32)))).1 (XS.aload X870.here hx rfl (hb hby at_83) rfl rfl k)))) ?_
        refine own_callV X870 hx hZ hown (hw _ (List.mem_of_getElem? (i := 204) rfl)) (hw _ (List.mem_of_getElem? (i := 205) rfl)) (notFace_of_selects (args := #[]) (mvT hZ (hw _ (List.mem_of_getElem? (i := 207) rfl)))) (hw _ (List.mem_of_getElem? (i := 207) rfl)) (hw _ (List.mem_of_getElem? (i := 206) rfl)) (hw _ (List.mem_of_getElem? (i := 208) rfl)) (hw _ (List.mem_of_getElem? (i := 2) rfl)) (by decide) (a := b834) f871 (own_un1 l Z a0 hw [] (b834) ((.ref bo852)) ((3 : Int32)) (bm838) T870.heap n0 (Nat.le_trans Z0 (Nat.le_trans (Nat.le_trans (Nat.le_trans (Nat.le_trans (Nat.le_trans E834.1 K838.1) K852.1) K858.1) K864.1) K870.1)) f871 f874 f872 f875 rfl g_b834 (by first | assumption | decide)) 0 (by decide) (by decide) (by decide) (by decide) rfl (g := (mkF m 85 #[iv u1, iv u2, iv u3, iv (3 : Int32), iv (2 : Int32), iv (0 : Int32), rv b834, rv bo852, .unset] [(.ref b834)])) rfl (by rw [hml]; rfl) (argsL := []) (rest := []) (lenOf own_pd16 rfl) rfl (by show 2 * 0 + _ ≤ _; exact Nat.le_of_eq rfl) (hb hby at_85) ?_
        intro v876 T876 L876 X876 q876
        obtain ⟨rfl, N876q, K876, f877, f878, f879, f880⟩ := q876
        have N876 := Fr.app N870 N876q
        have f881 : Fld Z T876.heap b834 "com/example/purlin/purlin/framework/ServiceUse" "count" "I" (.int (2 : Int32)) := f879
        show own_Goes p e below s _ _ _ T876 (mkF m 88 #[iv u1, iv u2, iv u3, iv (3 : Int32), iv (2 : Int32), iv (0 : Int32), rv b834, rv bo852, .unset] [.null])
        refine own_by (g' := (mkF m 97 #[iv u1, iv u2, iv u3, iv (3 : Int32), iv (2 : Int32), iv (0 : Int32), rv b834, rv bo852, .unset] [(.ref b834)])) (fun t k => XS.pop X876.here hx rfl (hb hby at_88) rfl rfl (XS.iload X876.here hx rfl (hb hby at_89) rfl (XS.iconst X876.here hx rfl (hb hby at_91) (XS.icmpNo X876.here hx rfl (hb hby at_92) rfl (flt (by decide : ¬ ((2 : Int32) < (2 : Int32)))).1 (XS.aload X876.here hx rfl (hb hby at_95) rfl rfl k))))) ?_
        refine own_callV X876 hx hZ hown (hw _ (List.mem_of_getElem? (i := 204) rfl)) (hw _ (List.mem_of_getElem? (i := 205) rfl)) (notFace_of_selects (args := #[]) (mvT hZ (hw _ (List.mem_of_getElem? (i := 207) rfl)))) (hw _ (List.mem_of_getElem? (i := 207) rfl)) (hw _ (List.mem_of_getElem? (i := 206) rfl)) (hw _ (List.mem_of_getElem? (i := 208) rfl)) (hw _ (List.mem_of_getElem? (i := 2) rfl)) (by decide) (a := b834) f877 (own_un1 l Z a0 hw [] (b834) ((.ref bo852)) ((2 : Int32)) (bm838) T876.heap n0 (Nat.le_trans Z0 (Nat.le_trans (Nat.le_trans (Nat.le_trans (Nat.le_trans (Nat.le_trans (Nat.le_trans E834.1 K838.1) K852.1) K858.1) K864.1) K870.1) K876.1)) f877 f880 f878 f881 rfl g_b834 (by first | assumption | decide)) 0 (by decide) (by decide) (by decide) (by decide) rfl (g := (mkF m 97 #[iv u1, iv u2, iv u3, iv (3 : Int32), iv (2 : Int32), iv (0 : Int32), rv b834, rv bo852, .unset] [(.ref b834)])) rfl (by rw [hml]; rfl) (argsL := []) (rest := []) (lenOf own_pd16 rfl) rfl (by show 2 * 0 + _ ≤ _; exact Nat.le_of_eq rfl) (hb hby at_97) ?_
        intro v882 T882 L882 X882 q882
        obtain ⟨rfl, N882q, K882, f883, f884, f885, f886⟩ := q882
        have N882 := Fr.app N876 N882q
        have f887 : Fld Z T882.heap b834 "com/example/purlin/purlin/framework/ServiceUse" "count" "I" (.int (1 : Int32)) := f885
        show own_Goes p e below s _ _ _ T882 (mkF m 100 #[iv u1, iv u2, iv u3, iv (3 : Int32), iv (2 : Int32), iv (0 : Int32), rv b834, rv bo852, .unset] [.null])
        refine own_by (g' := (mkF m 129 #[iv u1, iv u2, iv u3, iv (3 : Int32), iv (2 : Int32), iv (0 : Int32), rv b834, rv bo852, .unset] [])) (fun t k => XS.pop X882.here hx rfl (hb hby at_100) rfl rfl (XS.iload X882.here hx rfl (hb hby at_101) rfl (XS.iconst X882.here hx rfl (hb hby at_103) (XS.icmpYes X882.here hx rfl (pc0 := 104) (pc' := 113) rfl (hb hby at_104) rfl (tlt (by decide : (2 : Int32) < (3 : Int32))).1 (by decide) (by decide) (XS.iload X882.here hx rfl (hb hby at_113) rfl (XS.ifYes X882.here hx rfl (pc0 := 115) (pc' := 124) rfl (hb hby at_115) rfl ((if0 _ _).trans (teq (by decide : (0 : Int32) = (0 : Int32))).1) (by decide) (by decide) (XS.iload X882.here hx rfl (hb hby at_124) rfl (XS.ifNo X882.here hx rfl (hb hby at_126) rfl ((if0 _ _).trans (teq (by decide : (0 : Int32) = (0 : Int32))).2) k)))))))) ?_
        refine own_by (g' := (mkF m 145 #[iv u1, iv u2, iv u3, iv (3 : Int32), iv (2 : Int32), iv (0 : Int32), rv b834, rv bo852, iv (1 : Int32)] [(.ref b834)])) (fun t k => XS.iloadN X882.here hx rfl (hb hby at_129) rfl (XS.iload X882.here hx rfl (hb hby at_130) rfl (XS.isub X882.here hx rfl (hb hby at_132) rfl (XS.ifNo X882.here hx rfl (hb hby at_133) rfl ((if0 _ _).trans (tlt (by decide : (0 : Int32) < (1 : Int32))).2.2.2) (XS.iconst X882.here hx rfl (hb hby at_136) (XS.goto X882.here hx rfl (pc0 := 137) (pc' := 141) rfl (hb hby at_137) (by decide) (by decide) (XS.istore X882.here hx rfl (hb hby at_141) rfl (l' := #[iv u1, iv u2, iv u3, iv (3 : Int32), iv (2 : Int32), iv (0 : Int32), rv b834, rv bo852, iv (1 : Int32)]) rfl (XS.aload X882.here hx rfl (hb hby at_143) rfl rfl k)))))))) ?_
        refine own_callV X882 hx hZ hown (hw _ (List.mem_of_getElem? (i := 40) rfl)) (hw _ (List.mem_of_getElem? (i := 41) rfl)) (notFace_of_selects (args := #[]) (mvT hZ (hw _ (List.mem_of_getElem? (i := 43) rfl)))) (hw _ (List.mem_of_getElem? (i := 43) rfl)) (hw _ (List.mem_of_getElem? (i := 42) rfl)) (hw _ (List.mem_of_getElem? (i := 44) rfl)) (hw _ (List.mem_of_getElem? (i := 2) rfl)) (by decide) (a := b834) f883 (own_ic1 l Z a0 hw [] (b834) ((1 : Int32)) T882.heap n0 (Nat.le_trans Z0 (Nat.le_trans (Nat.le_trans (Nat.le_trans (Nat.le_trans (Nat.le_trans (Nat.le_trans (Nat.le_trans E834.1 K838.1) K852.1) K858.1) K864.1) K870.1) K876.1) K882.1)) f887 (by first | assumption | decide)) 0 (by decide) (by decide) (by decide) (by decide) rfl (g := (mkF m 145 #[iv u1, iv u2, iv u3, iv (3 : Int32), iv (2 : Int32), iv (0 : Int32), rv b834, rv bo852, iv (1 : Int32)] [(.ref b834)])) rfl (by rw [hml]; rfl) (argsL := []) (rest := []) (lenOf own_pd13 rfl) rfl (by show 2 * 0 + _ ≤ _; exact Nat.le_of_eq rfl) (hb hby at_145) ?_
        intro v888 T888 L888 X888 q888
        obtain ⟨rfl, N888q, e888⟩ := q888
        have N888 := Fr.app N882 N888q
        show own_Goes p e below s _ _ _ T888 (mkF m 148 #[iv u1, iv u2, iv u3, iv (3 : Int32), iv (2 : Int32), iv (0 : Int32), rv b834, rv bo852, iv (1 : Int32)] [(.int (1 : Int32))])
        refine own_by (g' := (mkF m 158 #[iv u1, iv u2, iv u3, iv (3 : Int32), iv (2 : Int32), iv (0 : Int32), rv b834, rv bo852, iv (1 : Int32)] [(.int (1 : Int32))])) (fun t k => XS.iload X888.here hx rfl (hb hby at_148) rfl (XS.icmpNo X888.here hx rfl (hb hby at_150) rfl (teq (by decide : (1 : Int32) = (1 : Int32))).2 (XS.iconst X888.here hx rfl (hb hby at_153) (XS.goto X888.here hx rfl (pc0 := 154) (pc' := 158) rfl (hb hby at_154) (by decide) (by decide) k)))) ?_
        refine own_retN X888 hx hlk hret (t := .boolean) (by simp) (hb hby at_158) (by decide) (by decide) ?_
        rw [e888]
        exact ⟨rfl, N888, (((((((((Keep.refl h0 []).ext E834).trans K838 (allS (Or.inr sz_b834) all0)).trans K852 all0).trans K858 (allS (Or.inr sz_b834) all0)).trans K864 (allS (Or.inr sz_b834) all0)).trans K870 (allS (Or.inr sz_b834) all0)).trans K876 (allS (Or.inr sz_b834) all0)).trans K882 (allS (Or.inr sz_b834) all0))⟩
      ·
        refine own_by (g' := (mkF m 26 #[iv u1, iv u2, iv u3, iv (3 : Int32), iv (2 : Int32), iv (1 : Int32), .unset, .unset, .unset] [])) (fun t k => XS.ifNo X0.here hx rfl (hb hby at_16) rfl ((if0 _ _).trans (feq hc833).1) (XS.iconst X0.here hx rfl (hb hby at_19) (XS.goto X0.here hx rfl (pc0 := 20) (pc' := 24) rfl (hb hby at_20) (by decide) (by decide) (XS.istore X0.here hx rfl (hb hby at_24) rfl (l' := #[iv u1, iv u2, iv u3, iv (3 : Int32), iv (2 : Int32), iv (1 : Int32), .unset, .unset, .unset]) rfl k)))) ?_
        obtain ⟨T889, h889, X889, e889, E889, A889, D889, U889, st889⟩ := newO X0 hx hZ hown (hw _ (List.mem_of_getElem? (i := 0) rfl)) (hw _ (List.mem_of_getElem? (i := 1) rfl)) (hw _ (List.mem_of_getElem? (i := 2) rfl)) e0 (g := (mkF m 26 #[iv u1, iv u2, iv u3, iv (3 : Int32), iv (2 : Int32), iv (1 : Int32), .unset, .unset, .unset] [])) rfl (hb hby at_26) (by decide) (by decide)
        obtain ⟨b889, g889⟩ : ∃ z, z = h0.size := ⟨_, rfl⟩
        rw [← g889] at A889 D889 U889 st889
        have sz_b889 : h0.size ≤ b889 := Nat.le_trans (Nat.le_refl _) (Nat.le_of_eq g889.symm)
        have g_b889 : n0 ≤ b889 := Nat.le_trans Z0 sz_b889
        have f890 : Fld Z h889 b889 "com/example/purlin/purlin/framework/ServiceUse" "prototypes" "Ljava/util/Map;" .null := D889 (Or.inr (hw _ (List.mem_of_getElem? (i := 32) rfl))) (ty := (.object "java/util/Map")) (by decide)
        have f891 : Fld Z h889 b889 "com/example/purlin/purlin/framework/ServiceUse" "count" "I" (.int (0 : Int32)) := D889 (Or.inl (hw _ (List.mem_of_getElem? (i := 46) rfl))) (ty := .int) (by decide)
        have f892 : Fld Z h889 b889 "com/example/purlin/purlin/framework/ServiceUse" "object" "Ljava/lang/Object;" .null := D889 (Or.inl (hw _ (List.mem_of_getElem? (i := 53) rfl))) (ty := (.object "java/lang/Object")) (by decide)
        refine own_by (g' := (mkF m 29 #[iv u1, iv u2, iv u3, iv (3 : Int32), iv (2 : Int32), iv (1 : Int32), .unset, .unset, .unset] [(.ref b889)])) st889 ?_
        refine own_by (g' := (mkF m 30 #[iv u1, iv u2, iv u3, iv (3 : Int32), iv (2 : Int32), iv (1 : Int32), .unset, .unset, .unset] [(.ref b889), (.ref b889)])) (fun t k => XS.dup X889.here hx rfl (hb hby at_29) rfl rfl k) ?_
        refine own_callI X889 hx hZ hown rfl (hw _ (List.mem_of_getElem? (i := 3) rfl)) (hw _ (List.mem_of_getElem? (i := 4) rfl)) (hw _ (List.mem_of_getElem? (i := 2) rfl)) (hw _ (List.mem_of_getElem? (i := 5) rfl)) (by decide) (a := b889) (own_si l Z a0 hw [] (b889) h889 n0 (Nat.le_trans Z0 E889.1) A889 f890 f892 f891 g_b889) 1 (by decide) (by decide) (by decide) (by decide) e889 (g := (mkF m 30 #[iv u1, iv u2, iv u3, iv (3 : Int32), iv (2 : Int32), iv (1 : Int32), .unset, .unset, .unset] [(.ref b889), (.ref b889)])) rfl (by rw [hml]; rfl) (argsL := []) (rest := [(.ref b889)]) (lenOf own_pd0 rfl) rfl (by show 2 * 0 + _ ≤ _; exact Nat.le_of_eq rfl) (hb hby at_30) ?_
        intro v893 T893 L893 X893 q893
        obtain ⟨bm893, bt893, kt893, rfl, N893q, K893, f894, f895, f896, f897, f898, f899, f900, f901, f902, f903, f904, f905⟩ := q893
        have N893 := Fr.app N0 N893q
        show own_Goes p e below s _ _ _ T893 (mkF m 33 #[iv u1, iv u2, iv u3, iv (3 : Int32), iv (2 : Int32), iv (1 : Int32), .unset, .unset, .unset] [(.ref b889)])
        refine own_by (g' := (mkF m 36 #[iv u1, iv u2, iv u3, iv (3 : Int32), iv (2 : Int32), iv (1 : Int32), rv b889, .unset, .unset] [(.int u3)])) (fun t k => XS.astore X893.here hx rfl (hb hby at_33) rfl rfl (l' := #[iv u1, iv u2, iv u3, iv (3 : Int32), iv (2 : Int32), iv (1 : Int32), rv b889, .unset, .unset]) rfl (XS.iloadN X893.here hx rfl (hb hby at_35) rfl k)) ?_
        have f906 := ((O0.ext E889).keep K893 (allS g_b889 all0))
        refine own_callS X893 hx hZ hown (hw _ (List.mem_of_getElem? (i := 33) rfl)) (hw _ (List.mem_of_getElem? (i := 34) rfl)) (hw _ (List.mem_of_getElem? (i := 35) rfl)) (hw _ (List.mem_of_getElem? (i := 36) rfl)) (by decide) (own_valueOf l Z a0 hw [] (u3) (zc) T893.heap n0 (Nat.le_trans Z0 (Nat.le_trans E889.1 K893.1)) f906 S_high S_cache (by first | assumption | decide)) 0 (by decide) (by decide) (by decide) (by decide) rfl (g := (mkF m 36 #[iv u1, iv u2, iv u3, iv (3 : Int32), iv (2 : Int32), iv (1 : Int32), rv b889, .unset, .unset] [(.int u3)])) rfl (by rw [hml]; rfl) (argsL := [(.int u3)]) (rest := []) (lenOf own_pd12 rfl) rfl (by show 2 * 0 + _ ≤ _; exact Nat.le_of_eq rfl) (hb hby at_36) ?_
        intro v907 T907 L907 X907 q907
        obtain ⟨bo907, rfl, N907q, K907, f908⟩ := q907
        have N907 := Fr.app N893 N907q
        show own_Goes p e below s _ _ _ T907 (mkF m 39 #[iv u1, iv u2, iv u3, iv (3 : Int32), iv (2 : Int32), iv (1 : Int32), rv b889, .unset, .unset] [(.ref bo907)])
        refine own_by (g' := (mkF m 50 #[iv u1, iv u2, iv u3, iv (3 : Int32), iv (2 : Int32), iv (1 : Int32), rv b889, rv bo907, .unset] [(.ref bo907), (.ref b889)])) (fun t k => XS.astore X907.here hx rfl (hb hby at_39) rfl rfl (l' := #[iv u1, iv u2, iv u3, iv (3 : Int32), iv (2 : Int32), iv (1 : Int32), rv b889, rv bo907, .unset]) rfl (XS.iloadN X907.here hx rfl (hb hby at_41) rfl (XS.iconst X907.here hx rfl (hb hby at_42) (XS.icmpNo X907.here hx rfl (hb hby at_43) rfl (flt (by decide : ¬ ((3 : Int32) < (1 : Int32)))).1 (XS.aload X907.here hx rfl (hb hby at_46) rfl rfl (XS.aload X907.here hx rfl (hb hby at_48) rfl rfl k)))))) ?_
        have f909 := (f894.keep K907)
        have f910 := (f895.keep K907 nin0)
        have f911 := (f896.keep K907 nin0)
        have f912 := (f897.keep K907 nin0)
        refine own_callV X907 hx hZ hown (hw _ (List.mem_of_getElem? (i := 47) rfl)) (hw _ (List.mem_of_getElem? (i := 48) rfl)) (notFace_of_selects (args := #[]) (mvT hZ (hw _ (List.mem_of_getElem? (i := 50) rfl)))) (hw _ (List.mem_of_getElem? (i := 50) rfl)) (hw _ (List.mem_of_getElem? (i := 49) rfl)) (hw _ (List.mem_of_getElem? (i := 51) rfl)) (hw _ (List.mem_of_getElem? (i := 2) rfl)) (by decide) (a := b889) f909 (own_use0 l Z a0 hw [] (b889) ((.ref bo907)) (.null) ((0 : Int32)) (bm893) T907.heap n0 (Nat.le_trans Z0 (Nat.le_trans (Nat.le_trans E889.1 K893.1) K907.1)) f909 f910 f911 f912 rfl g_b889 rfl (by first | assumption | decide)) 0 (by decide) (by decide) (by decide) (by decide) rfl (g := (mkF m 50 #[iv u1, iv u2, iv u3, iv (3 : Int32), iv (2 : Int32), iv (1 : Int32), rv b889, rv bo907, .unset] [(.ref bo907), (.ref b889)])) rfl (by rw [hml]; rfl) (argsL := [(.ref bo907)]) (rest := []) (lenOf own_pd15 rfl) rfl (by show 2 * 0 + _ ≤ _; exact Nat.le_of_eq rfl) (hb hby at_50) ?_
        intro v913 T913 L913 X913 q913
        obtain ⟨rfl, N913q, K913, f914, f915, f916, f917⟩ := q913
        have N913 := Fr.app N907 N913q
        have f918 : Fld Z T913.heap b889 "com/example/purlin/purlin/framework/ServiceUse" "count" "I" (.int (1 : Int32)) := f916
        show own_Goes p e below s _ _ _ T913 (mkF m 53 #[iv u1, iv u2, iv u3, iv (3 : Int32), iv (2 : Int32), iv (1 : Int32), rv b889, rv bo907, .unset] [])
        refine own_by (g' := (mkF m 62 #[iv u1, iv u2, iv u3, iv (3 : Int32), iv (2 : Int32), iv (1 : Int32), rv b889, rv bo907, .unset] [(.ref bo907), (.ref b889)])) (fun t k => XS.iloadN X913.here hx rfl (hb hby at_53) rfl (XS.iconst X913.here hx rfl (hb hby at_54) (XS.icmpNo X913.here hx rfl (hb hby at_55) rfl (flt (by decide : ¬ ((3 : Int32) < (2 : Int32)))).1 (XS.aload X913.here hx rfl (hb hby at_58) rfl rfl (XS.aload X913.here hx rfl (hb hby at_60) rfl rfl k))))) ?_
        refine own_callV X913 hx hZ hown (hw _ (List.mem_of_getElem? (i := 47) rfl)) (hw _ (List.mem_of_getElem? (i := 48) rfl)) (notFace_of_selects (args := #[]) (mvT hZ (hw _ (List.mem_of_getElem? (i := 50) rfl)))) (hw _ (List.mem_of_getElem? (i := 50) rfl)) (hw _ (List.mem_of_getElem? (i := 49) rfl)) (hw _ (List.mem_of_getElem? (i := 51) rfl)) (hw _ (List.mem_of_getElem? (i := 2) rfl)) (by decide) (a := b889) f914 (own_use1 l Z a0 hw [] (b889) ((.ref bo907)) ((.ref bo907)) ((1 : Int32)) (bm893) T913.heap n0 (Nat.le_trans Z0 (Nat.le_trans (Nat.le_trans (Nat.le_trans E889.1 K893.1) K907.1) K913.1)) f914 f917 f915 f918 rfl g_b889 rfl (by first | assumption | decide)) 0 (by decide) (by decide) (by decide) (by decide) rfl (g := (mkF m 62 #[iv u1, iv u2, iv u3, iv (3 : Int32), iv (2 : Int32), iv (1 : Int32), rv b889, rv bo907, .unset] [(.ref bo907), (.ref b889)])) rfl (by rw [hml]; rfl) (argsL := [(.ref bo907)]) (rest := []) (lenOf own_pd15 rfl) rfl (by show 2 * 0 + _ ≤ _; exact Nat.le_of_eq rfl) (hb hby at_62) ?_
        intro v919 T919 L919 X919 q919
        obtain ⟨rfl, N919q, K919, f920, f921, f922, f923⟩ := q919
        have N919 := Fr.app N913 N919q
        have f924 : Fld Z T919.heap b889 "com/example/purlin/purlin/framework/ServiceUse" "count" "I" (.int (2 : Int32)) := f922
        show own_Goes p e below s _ _ _ T919 (mkF m 65 #[iv u1, iv u2, iv u3, iv (3 : Int32), iv (2 : Int32), iv (1 : Int32), rv b889, rv bo907, .unset] [])
        refine own_by (g' := (mkF m 74 #[iv u1, iv u2, iv u3, iv (3 : Int32), iv (2 : Int32), iv (1 : Int32), rv b889, rv bo907, .unset] [(.ref bo907), (.ref b889)])) (fun t k => XS.iloadN X919.here hx rfl (hb hby at_65) rfl (XS.iconst X919.here hx rfl (hb hby at_66) (XS.icmpNo X919.here hx rfl (hb hby at_67) rfl (flt (by decide : ¬ ((3 : Int32) < (3 : Int32)))).1 (XS.aload X919.here hx rfl (hb hby at_70) rfl rfl (XS.aload X919.here hx rfl (hb hby at_72) rfl rfl k))))) ?_
        refine own_callV X919 hx hZ hown (hw _ (List.mem_of_getElem? (i := 47) rfl)) (hw _ (List.mem_of_getElem? (i := 48) rfl)) (notFace_of_selects (args := #[]) (mvT hZ (hw _ (List.mem_of_getElem? (i := 50) rfl)))) (hw _ (List.mem_of_getElem? (i := 50) rfl)) (hw _ (List.mem_of_getElem? (i := 49) rfl)) (hw _ (List.mem_of_getElem? (i := 51) rfl)) (hw _ (List.mem_of_getElem? (i := 2) rfl)) (by decide) (a := b889) f920 (own_use1 l Z a0 hw [] (b889) ((.ref bo907)) ((.ref bo907)) ((2 : Int32)) (bm893) T919.heap n0 (Nat.le_trans Z0 (Nat.le_trans (Nat.le_trans (Nat.le_trans (Nat.le_trans E889.1 K893.1) K907.1) K913.1) K919.1)) f920 f923 f921 f924 rfl g_b889 rfl (by first | assumption | decide)) 0 (by decide) (by decide) (by decide) (by decide) rfl (g := (mkF m 74 #[iv u1, iv u2, iv u3, iv (3 : Int32), iv (2 : Int32), iv (1 : Int32), rv b889, rv bo907, .unset] [(.ref bo907), (.ref b889)])) rfl (by rw [hml]; rfl) (argsL := [(.ref bo907)]) (rest := []) (lenOf own_pd15 rfl) rfl (by show 2 * 0 + _ ≤ _; exact Nat.le_of_eq rfl) (hb hby at_74) ?_
        intro v925 T925 L925 X925 q925
        obtain ⟨rfl, N925q, K925, f926, f927, f928, f929⟩ := q925
        have N925 := Fr.app N919 N925q
        have f930 : Fld Z T925.heap b889 "com/example/purlin/purlin/framework/ServiceUse" "count" "I" (.int (3 : Int32)) := f928
        show own_Goes p e below s _ _ _ T925 (mkF m 77 #[iv u1, iv u2, iv u3, iv (3 : Int32), iv (2 : Int32), iv (1 : Int32), rv b889, rv bo907, .unset] [])
        refine own_by (g' := (mkF m 85 #[iv u1, iv u2, iv u3, iv (3 : Int32), iv (2 : Int32), iv (1 : Int32), rv b889, rv bo907, .unset] [(.ref b889)])) (fun t k => XS.iload X925.here hx rfl (hb hby at_77) rfl (XS.iconst X925.here hx rfl (hb hby at_79) (XS.icmpNo X925.here hx rfl (hb hby at_80) rfl (flt (by decide : ¬ ((2 : Int32) < (1 : Int32)))).1 (XS.aload X925.here hx rfl (hb hby at_83) rfl rfl k)))) ?_
        refine own_callV X925 hx hZ hown (hw _ (List.mem_of_getElem? (i := 204) rfl)) (hw _ (List.mem_of_getElem? (i := 205) rfl)) (notFace_of_selects (args := #[]) (mvT hZ (hw _ (List.mem_of_getElem? (i := 207) rfl)))) (hw _ (List.mem_of_getElem? (i := 207) rfl)) (hw _ (List.mem_of_getElem? (i := 206) rfl)) (hw _ (List.mem_of_getElem? (i := 208) rfl)) (hw _ (List.mem_of_getElem? (i := 2) rfl)) (by decide) (a := b889) f926 (own_un1 l Z a0 hw [] (b889) ((.ref bo907)) ((3 : Int32)) (bm893) T925.heap n0 (Nat.le_trans Z0 (Nat.le_trans (Nat.le_trans (Nat.le_trans (Nat.le_trans (Nat.le_trans E889.1 K893.1) K907.1) K913.1) K919.1) K925.1)) f926 f929 f927 f930 rfl g_b889 (by first | assumption | decide)) 0 (by decide) (by decide) (by decide) (by decide) rfl (g := (mkF m 85 #[iv u1, iv u2, iv u3, iv (3 : Int32), iv (2 : Int32), iv (1 : Int32), rv b889, rv bo907, .unset] [(.ref b889)])) rfl (by rw [hml]; rfl) (argsL := []) (rest := []) (lenOf own_pd16 rfl) rfl (by show 2 * 0 + _ ≤ _; exact Nat.le_of_eq rfl) (hb hby at_85) ?_
        intro v931 T931 L931 X931 q931
        obtain ⟨rfl, N931q, K931, f932, f933, f934, f935⟩ := q931
        have N931 := Fr.app N925 N931q
        have f936 : Fld Z T931.heap b889 "com/example/purlin/purlin/framework/ServiceUse" "count" "I" (.int (2 : Int32)) := f934
        show own_Goes p e below s _ _ _ T931 (mkF m 88 #[iv u1, iv u2, iv u3, iv (3 : Int32), iv (2 : Int32), iv (1 : Int32), rv b889, rv bo907, .unset] [.null])
        refine own_by (g' := (mkF m 97 #[iv u1, iv u2, iv u3, iv (3 : Int32), iv (2 : Int32), iv (1 : Int32), rv b889, rv bo907, .unset] [(.ref b889)])) (fun t k => XS.pop X931.here hx rfl (hb hby at_88) rfl rfl (XS.iload X931.here hx rfl (hb hby at_89) rfl (XS.iconst X931.here hx rfl (hb hby at_91) (XS.icmpNo X931.here hx rfl (hb hby at_92) rfl (flt (by decide : ¬ ((2 : Int32) < (2 : Int32)))).1 (XS.aload X931.here hx rfl (hb hby at_95) rfl rfl k))))) ?_
        refine own_callV X931 hx hZ hown (hw _ (List.mem_of_getElem? (i := 204) rfl)) (hw _ (List.mem_of_getElem? (i := 205) rfl)) (notFace_of_selects (args := #[]) (mvT hZ (hw _ (List.mem_of_getElem? (i := 207) rfl)))) (hw _ (List.mem_of_getElem? (i := 207) rfl)) (hw _ (List.mem_of_getElem? (i := 206) rfl)) (hw _ (List.mem_of_getElem? (i := 208) rfl)) (hw _ (List.mem_of_getElem? (i := 2) rfl)) (by decide) (a := b889) f932 (own_un1 l Z a0 hw [] (b889) ((.ref bo907)) ((2 : Int32)) (bm893) T931.heap n0 (Nat.le_trans Z0 (Nat.le_trans (Nat.le_trans (Nat.le_trans (Nat.le_trans (Nat.le_trans (Nat.le_trans E889.1 K893.1) K907.1) K913.1) K919.1) K925.1) K931.1)) f932 f935 f933 f936 rfl g_b889 (by first | assumption | decide)) 0 (by decide) (by decide) (by decide) (by decide) rfl (g := (mkF m 97 #[iv u1, iv u2, iv u3, iv (3 : Int32), iv (2 : Int32), iv (1 : Int32), rv b889, rv bo907, .unset] [(.ref b889)])) rfl (by rw [hml]; rfl) (argsL := []) (rest := []) (lenOf own_pd16 rfl) rfl (by show 2 * 0 + _ ≤ _; exact Nat.le_of_eq rfl) (hb hby at_97) ?_
        intro v937 T937 L937 X937 q937
        obtain ⟨rfl, N937q, K937, f938, f939, f940, f941⟩ := q937
        have N937 := Fr.app N931 N937q
        have f942 : Fld Z T937.heap b889 "com/example/purlin/purlin/framework/ServiceUse" "count" "I" (.int (1 : Int32)) := f940
        show own_Goes p e below s _ _ _ T937 (mkF m 100 #[iv u1, iv u2, iv u3, iv (3 : Int32), iv (2 : Int32), iv (1 : Int32), rv b889, rv bo907, .unset] [.null])
        refine own_by (g' := (mkF m 120 #[iv u1, iv u2, iv u3, iv (3 : Int32), iv (2 : Int32), iv (1 : Int32), rv b889, rv bo907, .unset] [(.ref b889)])) (fun t k => XS.pop X937.here hx rfl (hb hby at_100) rfl rfl (XS.iload X937.here hx rfl (hb hby at_101) rfl (XS.iconst X937.here hx rfl (hb hby at_103) (XS.icmpYes X937.here hx rfl (pc0 := 104) (pc' := 113) rfl (hb hby at_104) rfl (tlt (by decide : (2 : Int32) < (3 : Int32))).1 (by decide) (by decide) (XS.iload X937.here hx rfl (hb hby at_113) rfl (XS.ifNo X937.here hx rfl (hb hby at_115) rfl ((if0 _ _).trans (feq (by decide : ¬ ((1 : Int32) = (0 : Int32)))).1) (XS.aload X937.here hx rfl (hb hby at_118) rfl rfl k))))))) ?_
        have f943 := (((((f908.keep K913).keep K919).keep K925).keep K931).keep K937)
        have f944 := ((((((f899.keep K907).keep K913).keep K919).keep K925).keep K931).keep K937)
        have f945 := ((((((f900.keep K907 nin0).keep K913 (ninS (Ne.symm (Nat.ne_of_lt (Nat.lt_of_lt_of_le (Nat.lt_of_lt_of_le A889.lt (Nat.le_refl _)) f898))) nin0)).keep K919 (ninS (Ne.symm (Nat.ne_of_lt (Nat.lt_of_lt_of_le (Nat.lt_of_lt_of_le A889.lt (Nat.le_refl _)) f898))) nin0)).keep K925 (ninS (Ne.symm (Nat.ne_of_lt (Nat.lt_of_lt_of_le (Nat.lt_of_lt_of_le A889.lt (Nat.le_refl _)) f898))) nin0)).keep K931 (ninS (Ne.symm (Nat.ne_of_lt (Nat.lt_of_lt_of_le (Nat.lt_of_lt_of_le A889.lt (Nat.le_refl _)) f898))) nin0)).keep K937 (ninS (Ne.symm (Nat.ne_of_lt (Nat.lt_of_lt_of_le (Nat.lt_of_lt_of_le A889.lt (Nat.le_refl _)) f898))) nin0))
        have f946 := ((((((f901.keep K907 nin0).keep K913 (ninS (Ne.symm (Nat.ne_of_lt (Nat.lt_of_lt_of_le (Nat.lt_of_lt_of_le A889.lt (Nat.le_refl _)) f898))) nin0)).keep K919 (ninS (Ne.symm (Nat.ne_of_lt (Nat.lt_of_lt_of_le (Nat.lt_of_lt_of_le A889.lt (Nat.le_refl _)) f898))) nin0)).keep K925 (ninS (Ne.symm (Nat.ne_of_lt (Nat.lt_of_lt_of_le (Nat.lt_of_lt_of_le A889.lt (Nat.le_refl _)) f898))) nin0)).keep K931 (ninS (Ne.symm (Nat.ne_of_lt (Nat.lt_of_lt_of_le (Nat.lt_of_lt_of_le A889.lt (Nat.le_refl _)) f898))) nin0)).keep K937 (ninS (Ne.symm (Nat.ne_of_lt (Nat.lt_of_lt_of_le (Nat.lt_of_lt_of_le A889.lt (Nat.le_refl _)) f898))) nin0))
        have f947 := ((((((f902.keep K907 nin0).keep K913 (ninS (Ne.symm (Nat.ne_of_lt (Nat.lt_of_lt_of_le (Nat.lt_of_lt_of_le A889.lt (Nat.le_refl _)) f898))) nin0)).keep K919 (ninS (Ne.symm (Nat.ne_of_lt (Nat.lt_of_lt_of_le (Nat.lt_of_lt_of_le A889.lt (Nat.le_refl _)) f898))) nin0)).keep K925 (ninS (Ne.symm (Nat.ne_of_lt (Nat.lt_of_lt_of_le (Nat.lt_of_lt_of_le A889.lt (Nat.le_refl _)) f898))) nin0)).keep K931 (ninS (Ne.symm (Nat.ne_of_lt (Nat.lt_of_lt_of_le (Nat.lt_of_lt_of_le A889.lt (Nat.le_refl _)) f898))) nin0)).keep K937 (ninS (Ne.symm (Nat.ne_of_lt (Nat.lt_of_lt_of_le (Nat.lt_of_lt_of_le A889.lt (Nat.le_refl _)) f898))) nin0))
        have f948 := ((((((f904.keep K907 nin0).keep K913 (ninS (Ne.symm (Nat.ne_of_lt (Nat.lt_of_lt_of_le (Nat.lt_of_lt_of_le A889.lt (Nat.le_refl _)) f898))) nin0)).keep K919 (ninS (Ne.symm (Nat.ne_of_lt (Nat.lt_of_lt_of_le (Nat.lt_of_lt_of_le A889.lt (Nat.le_refl _)) f898))) nin0)).keep K925 (ninS (Ne.symm (Nat.ne_of_lt (Nat.lt_of_lt_of_le (Nat.lt_of_lt_of_le A889.lt (Nat.le_refl _)) f898))) nin0)).keep K931 (ninS (Ne.symm (Nat.ne_of_lt (Nat.lt_of_lt_of_le (Nat.lt_of_lt_of_le A889.lt (Nat.le_refl _)) f898))) nin0)).keep K937 (ninS (Ne.symm (Nat.ne_of_lt (Nat.lt_of_lt_of_le (Nat.lt_of_lt_of_le A889.lt (Nat.le_refl _)) f898))) nin0))
        have f949 := ((((((f905.keep K907 nin0).keep K913 (ninS (Ne.symm (Nat.ne_of_lt (Nat.lt_of_lt_of_le (Nat.lt_of_lt_of_le A889.lt (Nat.le_refl _)) f903))) nin0)).keep K919 (ninS (Ne.symm (Nat.ne_of_lt (Nat.lt_of_lt_of_le (Nat.lt_of_lt_of_le A889.lt (Nat.le_refl _)) f903))) nin0)).keep K925 (ninS (Ne.symm (Nat.ne_of_lt (Nat.lt_of_lt_of_le (Nat.lt_of_lt_of_le A889.lt (Nat.le_refl _)) f903))) nin0)).keep K931 (ninS (Ne.symm (Nat.ne_of_lt (Nat.lt_of_lt_of_le (Nat.lt_of_lt_of_le A889.lt (Nat.le_refl _)) f903))) nin0)).keep K937 (ninS (Ne.symm (Nat.ne_of_lt (Nat.lt_of_lt_of_le (Nat.lt_of_lt_of_le A889.lt (Nat.le_refl _)) f903))) nin0))
        have f950 := ((((((f906.keep K907 all0).keep K913 (allS g_b889 all0)).keep K919 (allS g_b889 all0)).keep K925 (allS g_b889 all0)).keep K931 (allS g_b889 all0)).keep K937 (allS g_b889 all0))
        have f951 := ((((((((Yd.ext E889).keep K893 (ninS (Nat.ne_of_lt (Nat.lt_of_lt_of_le (Nat.lt_of_lt_of_le Yd.lt (Nat.le_refl _)) (Nat.le_of_eq g889.symm))) nin0)).keep K907 nin0).keep K913 (ninS (Nat.ne_of_lt (Nat.lt_of_lt_of_le (Nat.lt_of_lt_of_le Yd.lt (Nat.le_refl _)) (Nat.le_of_eq g889.symm))) nin0)).keep K919 (ninS (Nat.ne_of_lt (Nat.lt_of_lt_of_le (Nat.lt_of_lt_of_le Yd.lt (Nat.le_refl _)) (Nat.le_of_eq g889.symm))) nin0)).keep K925 (ninS (Nat.ne_of_lt (Nat.lt_of_lt_of_le (Nat.lt_of_lt_of_le Yd.lt (Nat.le_refl _)) (Nat.le_of_eq g889.symm))) nin0)).keep K931 (ninS (Nat.ne_of_lt (Nat.lt_of_lt_of_le (Nat.lt_of_lt_of_le Yd.lt (Nat.le_refl _)) (Nat.le_of_eq g889.symm))) nin0)).keep K937 (ninS (Nat.ne_of_lt (Nat.lt_of_lt_of_le (Nat.lt_of_lt_of_le Yd.lt (Nat.le_refl _)) (Nat.le_of_eq g889.symm))) nin0))
        refine own_callV X937 hx hZ hown (hw _ (List.mem_of_getElem? (i := 54) rfl)) (hw _ (List.mem_of_getElem? (i := 55) rfl)) (notFace_of_selects (args := #[]) (mvT hZ (hw _ (List.mem_of_getElem? (i := 57) rfl)))) (hw _ (List.mem_of_getElem? (i := 57) rfl)) (hw _ (List.mem_of_getElem? (i := 56) rfl)) (hw _ (List.mem_of_getElem? (i := 58) rfl)) (hw _ (List.mem_of_getElem? (i := 2) rfl)) (by decide) (a := b889) f938 (own_clear1 l Z a0 hw [] (b889) (bm893) (bt893) (kt893) (zd) ((1 : Int32)) (bo907) T937.heap n0 (Nat.le_trans Z0 (Nat.le_trans (Nat.le_trans (Nat.le_trans (Nat.le_trans (Nat.le_trans (Nat.le_trans (Nat.le_trans E889.1 K893.1) K907.1) K913.1) K919.1) K925.1) K931.1) K937.1)) f938 f941 f939 f942 g_b889 f943 (by first | assumption | decide) f944 f945 f946 f947 f948 f949 (Nat.le_trans (Nat.le_trans Z0 E889.1) f898) (Nat.le_trans (Nat.le_trans Z0 E889.1) f903) f950 S_dflt f951) 0 (by decide) (by decide) (by decide) (by decide) rfl (g := (mkF m 120 #[iv u1, iv u2, iv u3, iv (3 : Int32), iv (2 : Int32), iv (1 : Int32), rv b889, rv bo907, .unset] [(.ref b889)])) rfl (by rw [hml]; rfl) (argsL := []) (rest := []) (lenOf own_pd14 rfl) rfl (by show 2 * 0 + _ ≤ _; exact Nat.le_of_eq rfl) (hb hby at_120) ?_
        intro v952 T952 L952 X952 q952
        obtain ⟨bl952, rfl, N952q, K952, f953, f954⟩ := q952
        have N952 := Fr.app N937 N952q
        show own_Goes p e below s _ _ _ T952 (mkF m 123 #[iv u1, iv u2, iv u3, iv (3 : Int32), iv (2 : Int32), iv (1 : Int32), rv b889, rv bo907, .unset] [(.ref bl952)])
        refine own_by (g' := (mkF m 145 #[iv u1, iv u2, iv u3, iv (3 : Int32), iv (2 : Int32), iv (1 : Int32), rv b889, rv bo907, iv (0 : Int32)] [(.ref b889)])) (fun t k => XS.pop X952.here hx rfl (hb hby at_123) rfl rfl (XS.iload X952.here hx rfl (hb hby at_124) rfl (XS.ifYes X952.here hx rfl (pc0 := 126) (pc' := 140) rfl (hb hby at_126) rfl ((if0 _ _).trans (feq (by decide : ¬ ((1 : Int32) = (0 : Int32)))).2) (by decide) (by decide) (XS.iconst X952.here hx rfl (hb hby at_140) (XS.istore X952.here hx rfl (hb hby at_141) rfl (l' := #[iv u1, iv u2, iv u3, iv (3 : Int32), iv (2 : Int32), iv (1 : Int32), rv b889, rv bo907, iv (0 : Int32)]) rfl (XS.aload X952.here hx rfl (hb hby at_143) rfl rfl k)))))) ?_
        refine own_callV X952 hx hZ hown (hw _ (List.mem_of_getElem? (i := 40) rfl)) (hw _ (List.mem_of_getElem? (i := 41) rfl)) (notFace_of_selects (args := #[]) (mvT hZ (hw _ (List.mem_of_getElem? (i := 43) rfl)))) (hw _ (List.mem_of_getElem? (i := 43) rfl)) (hw _ (List.mem_of_getElem? (i := 42) rfl)) (hw _ (List.mem_of_getElem? (i := 44) rfl)) (hw _ (List.mem_of_getElem? (i := 2) rfl)) (by decide) (a := b889) f953 (own_ic0 l Z a0 hw [] (b889) ((0 : Int32)) T952.heap n0 (Nat.le_trans Z0 (Nat.le_trans (Nat.le_trans (Nat.le_trans (Nat.le_trans (Nat.le_trans (Nat.le_trans (Nat.le_trans (Nat.le_trans E889.1 K893.1) K907.1) K913.1) K919.1) K925.1) K931.1) K937.1) K952.1)) f954 (by first | assumption | decide)) 0 (by decide) (by decide) (by decide) (by decide) rfl (g := (mkF m 145 #[iv u1, iv u2, iv u3, iv (3 : Int32), iv (2 : Int32), iv (1 : Int32), rv b889, rv bo907, iv (0 : Int32)] [(.ref b889)])) rfl (by rw [hml]; rfl) (argsL := []) (rest := []) (lenOf own_pd13 rfl) rfl (by show 2 * 0 + _ ≤ _; exact Nat.le_of_eq rfl) (hb hby at_145) ?_
        intro v955 T955 L955 X955 q955
        obtain ⟨rfl, N955q, e955⟩ := q955
        have N955 := Fr.app N952 N955q
        show own_Goes p e below s _ _ _ T955 (mkF m 148 #[iv u1, iv u2, iv u3, iv (3 : Int32), iv (2 : Int32), iv (1 : Int32), rv b889, rv bo907, iv (0 : Int32)] [(.int (0 : Int32))])
        refine own_by (g' := (mkF m 158 #[iv u1, iv u2, iv u3, iv (3 : Int32), iv (2 : Int32), iv (1 : Int32), rv b889, rv bo907, iv (0 : Int32)] [(.int (1 : Int32))])) (fun t k => XS.iload X955.here hx rfl (hb hby at_148) rfl (XS.icmpNo X955.here hx rfl (hb hby at_150) rfl (teq (by decide : (0 : Int32) = (0 : Int32))).2 (XS.iconst X955.here hx rfl (hb hby at_153) (XS.goto X955.here hx rfl (pc0 := 154) (pc' := 158) rfl (hb hby at_154) (by decide) (by decide) k)))) ?_
        refine own_retN X955 hx hlk hret (t := .boolean) (by simp) (hb hby at_158) (by decide) (by decide) ?_
        rw [e955]
        exact ⟨rfl, N955, ((((((((((Keep.refl h0 []).ext E889).trans K893 (allS (Or.inr sz_b889) all0)).trans K907 all0).trans K913 (allS (Or.inr sz_b889) all0)).trans K919 (allS (Or.inr sz_b889) all0)).trans K925 (allS (Or.inr sz_b889) all0)).trans K931 (allS (Or.inr sz_b889) all0)).trans K937 (allS (Or.inr sz_b889) all0)).trans K952 (allS (Or.inr sz_b889) (allS (Or.inr (Nat.le_trans E889.1 f898)) (allS (Or.inr (Nat.le_trans E889.1 f903)) all0))))⟩
    ·
      rw [q622]
      refine own_by (g' := (mkF m 16 #[iv u1, iv u2, iv u3, iv (3 : Int32), iv (3 : Int32), .unset, .unset, .unset, .unset] [(.int (u3 &&& (1 : Int32)))])) (fun t k => XS.istore X0.here hx rfl (hb hby at_11) rfl (l' := #[iv u1, iv u2, iv u3, iv (3 : Int32), iv (3 : Int32), .unset, .unset, .unset, .unset]) rfl (XS.iloadN X0.here hx rfl (hb hby at_13) rfl (XS.iconst X0.here hx rfl (hb hby at_14) (XS.iand X0.here hx rfl (hb hby at_15) rfl k)))) ?_
      by_cases hc956 : (u3 &&& (1 : Int32)) = (0 : Int32)
      ·
        refine own_by (g' := (mkF m 26 #[iv u1, iv u2, iv u3, iv (3 : Int32), iv (3 : Int32), iv (0 : Int32), .unset, .unset, .unset] [])) (fun t k => XS.ifYes X0.here hx rfl (pc0 := 16) (pc' := 23) rfl (hb hby at_16) rfl ((if0 _ _).trans (teq hc956).1) (by decide) (by decide) (XS.iconst X0.here hx rfl (hb hby at_23) (XS.istore X0.here hx rfl (hb hby at_24) rfl (l' := #[iv u1, iv u2, iv u3, iv (3 : Int32), iv (3 : Int32), iv (0 : Int32), .unset, .unset, .unset]) rfl k))) ?_
        obtain ⟨T957, h957, X957, e957, E957, A957, D957, U957, st957⟩ := newO X0 hx hZ hown (hw _ (List.mem_of_getElem? (i := 0) rfl)) (hw _ (List.mem_of_getElem? (i := 1) rfl)) (hw _ (List.mem_of_getElem? (i := 2) rfl)) e0 (g := (mkF m 26 #[iv u1, iv u2, iv u3, iv (3 : Int32), iv (3 : Int32), iv (0 : Int32), .unset, .unset, .unset] [])) rfl (hb hby at_26) (by decide) (by decide)
        obtain ⟨b957, g957⟩ : ∃ z, z = h0.size := ⟨_, rfl⟩
        rw [← g957] at A957 D957 U957 st957
        have sz_b957 : h0.size ≤ b957 := Nat.le_trans (Nat.le_refl _) (Nat.le_of_eq g957.symm)
        have g_b957 : n0 ≤ b957 := Nat.le_trans Z0 sz_b957
        have f958 : Fld Z h957 b957 "com/example/purlin/purlin/framework/ServiceUse" "prototypes" "Ljava/util/Map;" .null := D957 (Or.inr (hw _ (List.mem_of_getElem? (i := 32) rfl))) (ty := (.object "java/util/Map")) (by decide)
        have f959 : Fld Z h957 b957 "com/example/purlin/purlin/framework/ServiceUse" "count" "I" (.int (0 : Int32)) := D957 (Or.inl (hw _ (List.mem_of_getElem? (i := 46) rfl))) (ty := .int) (by decide)
        have f960 : Fld Z h957 b957 "com/example/purlin/purlin/framework/ServiceUse" "object" "Ljava/lang/Object;" .null := D957 (Or.inl (hw _ (List.mem_of_getElem? (i := 53) rfl))) (ty := (.object "java/lang/Object")) (by decide)
        refine own_by (g' := (mkF m 29 #[iv u1, iv u2, iv u3, iv (3 : Int32), iv (3 : Int32), iv (0 : Int32), .unset, .unset, .unset] [(.ref b957)])) st957 ?_
        refine own_by (g' := (mkF m 30 #[iv u1, iv u2, iv u3, iv (3 : Int32), iv (3 : Int32), iv (0 : Int32), .unset, .unset, .unset] [(.ref b957), (.ref b957)])) (fun t k => XS.dup X957.here hx rfl (hb hby at_29) rfl rfl k) ?_
        refine own_callI X957 hx hZ hown rfl (hw _ (List.mem_of_getElem? (i := 3) rfl)) (hw _ (List.mem_of_getElem? (i := 4) rfl)) (hw _ (List.mem_of_getElem? (i := 2) rfl)) (hw _ (List.mem_of_getElem? (i := 5) rfl)) (by decide) (a := b957) (own_si l Z a0 hw [] (b957) h957 n0 (Nat.le_trans Z0 E957.1) A957 f958 f960 f959 g_b957) 1 (by decide) (by decide) (by decide) (by decide) e957 (g := (mkF m 30 #[iv u1, iv u2, iv u3, iv (3 : Int32), iv (3 : Int32), iv (0 : Int32), .unset, .unset, .unset] [(.ref b957), (.ref b957)])) rfl (by rw [hml]; rfl) (argsL := []) (rest := [(.ref b957)]) (lenOf own_pd0 rfl) rfl (by show 2 * 0 + _ ≤ _; exact Nat.le_of_eq rfl) (hb hby at_30) ?_
        intro v961 T961 L961 X961 q961
        obtain ⟨bm961, bt961, kt961, rfl, N961q, K961, f962, f963, f964, f965, f966, f967, f968, f969, f970, f971, f972, f973⟩ := q961
        have N961 := Fr.app N0 N961q
        show own_Goes p e below s _ _ _ T961 (mkF m 33 #[iv u1, iv u2, iv u3, iv (3 : Int32), iv (3 : Int32), iv (0 : Int32), .unset, .unset, .unset] [(.ref b957)])
        refine own_by (g' := (mkF m 36 #[iv u1, iv u2, iv u3, iv (3 : Int32), iv (3 : Int32), iv (0 : Int32), rv b957, .unset, .unset] [(.int u3)])) (fun t k => XS.astore X961.here hx rfl (hb hby at_33) rfl rfl (l' := #[iv u1, iv u2, iv u3, iv (3 : Int32), iv (3 : Int32), iv (0 : Int32), rv b957, .unset, .unset]) rfl (XS.iloadN X961.here hx rfl (hb hby at_35) rfl k)) ?_
        have f974 := ((O0.ext E957).keep K961 (allS g_b957 all0))
        refine own_callS X961 hx hZ hown (hw _ (List.mem_of_getElem? (i := 33) rfl)) (hw _ (List.mem_of_getElem? (i := 34) rfl)) (hw _ (List.mem_of_getElem? (i := 35) rfl)) (hw _ (List.mem_of_getElem? (i := 36) rfl)) (by decide) (own_valueOf l Z a0 hw [] (u3) (zc) T961.heap n0 (Nat.le_trans Z0 (Nat.le_trans E957.1 K961.1)) f974 S_high S_cache (by first | assumption | decide)) 0 (by decide) (by decide) (by decide) (by decide) rfl (g := (mkF m 36 #[iv u1, iv u2, iv u3, iv (3 : Int32), iv (3 : Int32), iv (0 : Int32), rv b957, .unset, .unset] [(.int u3)])) rfl (by rw [hml]; rfl) (argsL := [(.int u3)]) (rest := []) (lenOf own_pd12 rfl) rfl (by show 2 * 0 + _ ≤ _; exact Nat.le_of_eq rfl) (hb hby at_36) ?_
        intro v975 T975 L975 X975 q975
        obtain ⟨bo975, rfl, N975q, K975, f976⟩ := q975
        have N975 := Fr.app N961 N975q
        show own_Goes p e below s _ _ _ T975 (mkF m 39 #[iv u1, iv u2, iv u3, iv (3 : Int32), iv (3 : Int32), iv (0 : Int32), rv b957, .unset, .unset] [(.ref bo975)])
        refine own_by (g' := (mkF m 50 #[iv u1, iv u2, iv u3, iv (3 : Int32), iv (3 : Int32), iv (0 : Int32), rv b957, rv bo975, .unset] [(.ref bo975), (.ref b957)])) (fun t k => XS.astore X975.here hx rfl (hb hby at_39) rfl rfl (l' := #[iv u1, iv u2, iv u3, iv (3 : Int32), iv (3 : Int32), iv (0 : Int32), rv b957, rv bo975, .unset]) rfl (XS.iloadN X975.here hx rfl (hb hby at_41) rfl (XS.iconst X975.here hx rfl (hb hby at_42) (XS.icmpNo X975.here hx rfl (hb hby at_43) rfl (flt (by decide : ¬ ((3 : Int32) < (1 : Int32)))).1 (XS.aload X975.here hx rfl (hb hby at_46) rfl rfl (XS.aload X975.here hx rfl (hb hby at_48) rfl rfl k)))))) ?_
        have f977 := (f962.keep K975)
        have f978 := (f963.keep K975 nin0)
        have f979 := (f964.keep K975 nin0)
        have f980 := (f965.keep K975 nin0)
        refine own_callV X975 hx hZ hown (hw _ (List.mem_of_getElem? (i := 47) rfl)) (hw _ (List.mem_of_getElem? (i := 48) rfl)) (notFace_of_selects (args := #[]) (mvT hZ (hw _ (List.mem_of_getElem? (i := 50) rfl)))) (hw _ (List.mem_of_getElem? (i := 50) rfl)) (hw _ (List.mem_of_getElem? (i := 49) rfl)) (hw _ (List.mem_of_getElem? (i := 51) rfl)) (hw _ (List.mem_of_getElem? (i := 2) rfl)) (by decide) (a := b957) f977 (own_use0 l Z a0 hw [] (b957) ((.ref bo975)) (.null) ((0 : Int32)) (bm961) T975.heap n0 (Nat.le_trans Z0 (Nat.le_trans (Nat.le_trans E957.1 K961.1) K975.1)) f977 f978 f979 f980 rfl g_b957 rfl (by first | assumption | decide)) 0 (by decide) (by decide) (by decide) (by decide) rfl (g := (mkF m 50 #[iv u1, iv u2, iv u3, iv (3 : Int32), iv (3 : Int32), iv (0 : Int32), rv b957, rv bo975, .unset] [(.ref bo975), (.ref b957)])) rfl (by rw [hml]; rfl) (argsL := [(.ref bo975)]) (rest := []) (lenOf own_pd15 rfl) rfl (by show 2 * 0 + _ ≤ _; exact Nat.le_of_eq rfl) (hb hby at_50) ?_
        intro v981 T981 L981 X981 q981
        obtain ⟨rfl, N981q, K981, f982, f983, f984, f985⟩ := q981
        have N981 := Fr.app N975 N981q
        have f986 : Fld Z T981.heap b957 "com/example/purlin/purlin/framework/ServiceUse" "count" "I" (.int (1 : Int32)) := f984
        show own_Goes p e below s _ _ _ T981 (mkF m 53 #[iv u1, iv u2, iv u3, iv (3 : Int32), iv (3 : Int32), iv (0 : Int32), rv b957, rv bo975, .unset] [])
        refine own_by (g' := (mkF m 62 #[iv u1, iv u2, iv u3, iv (3 : Int32), iv (3 : Int32), iv (0 : Int32), rv b957, rv bo975, .unset] [(.ref bo975), (.ref b957)])) (fun t k => XS.iloadN X981.here hx rfl (hb hby at_53) rfl (XS.iconst X981.here hx rfl (hb hby at_54) (XS.icmpNo X981.here hx rfl (hb hby at_55) rfl (flt (by decide : ¬ ((3 : Int32) < (2 : Int32)))).1 (XS.aload X981.here hx rfl (hb hby at_58) rfl rfl (XS.aload X981.here hx rfl (hb hby at_60) rfl rfl k))))) ?_
        refine own_callV X981 hx hZ hown (hw _ (List.mem_of_getElem? (i := 47) rfl)) (hw _ (List.mem_of_getElem? (i := 48) rfl)) (notFace_of_selects (args := #[]) (mvT hZ (hw _ (List.mem_of_getElem? (i := 50) rfl)))) (hw _ (List.mem_of_getElem? (i := 50) rfl)) (hw _ (List.mem_of_getElem? (i := 49) rfl)) (hw _ (List.mem_of_getElem? (i := 51) rfl)) (hw _ (List.mem_of_getElem? (i := 2) rfl)) (by decide) (a := b957) f982 (own_use1 l Z a0 hw [] (b957) ((.ref bo975)) ((.ref bo975)) ((1 : Int32)) (bm961) T981.heap n0 (Nat.le_trans Z0 (Nat.le_trans (Nat.le_trans (Nat.le_trans E957.1 K961.1) K975.1) K981.1)) f982 f985 f983 f986 rfl g_b957 rfl (by first | assumption | decide)) 0 (by decide) (by decide) (by decide) (by decide) rfl (g := (mkF m 62 #[iv u1, iv u2, iv u3, iv (3 : Int32), iv (3 : Int32), iv (0 : Int32), rv b957, rv bo975, .unset] [(.ref bo975), (.ref b957)])) rfl (by rw [hml]; rfl) (argsL := [(.ref bo975)]) (rest := []) (lenOf own_pd15 rfl) rfl (by show 2 * 0 + _ ≤ _; exact Nat.le_of_eq rfl) (hb hby at_62) ?_
        intro v987 T987 L987 X987 q987
        obtain ⟨rfl, N987q, K987, f988, f989, f990, f991⟩ := q987
        have N987 := Fr.app N981 N987q
        have f992 : Fld Z T987.heap b957 "com/example/purlin/purlin/framework/ServiceUse" "count" "I" (.int (2 : Int32)) := f990
        show own_Goes p e below s _ _ _ T987 (mkF m 65 #[iv u1, iv u2, iv u3, iv (3 : Int32), iv (3 : Int32), iv (0 : Int32), rv b957, rv bo975, .unset] [])
        refine own_by (g' := (mkF m 74 #[iv u1, iv u2, iv u3, iv (3 : Int32), iv (3 : Int32), iv (0 : Int32), rv b957, rv bo975, .unset] [(.ref bo975), (.ref b957)])) (fun t k => XS.iloadN X987.here hx rfl (hb hby at_65) rfl (XS.iconst X987.here hx rfl (hb hby at_66) (XS.icmpNo X987.here hx rfl (hb hby at_67) rfl (flt (by decide : ¬ ((3 : Int32) < (3 : Int32)))).1 (XS.aload X987.here hx rfl (hb hby at_70) rfl rfl (XS.aload X987.here hx rfl (hb hby at_72) rfl rfl k))))) ?_
        refine own_callV X987 hx hZ hown (hw _ (List.mem_of_getElem? (i := 47) rfl)) (hw _ (List.mem_of_getElem? (i := 48) rfl)) (notFace_of_selects (args := #[]) (mvT hZ (hw _ (List.mem_of_getElem? (i := 50) rfl)))) (hw _ (List.mem_of_getElem? (i := 50) rfl)) (hw _ (List.mem_of_getElem? (i := 49) rfl)) (hw _ (List.mem_of_getElem? (i := 51) rfl)) (hw _ (List.mem_of_getElem? (i := 2) rfl)) (by decide) (a := b957) f988 (own_use1 l Z a0 hw [] (b957) ((.ref bo975)) ((.ref bo975)) ((2 : Int32)) (bm961) T987.heap n0 (Nat.le_trans Z0 (Nat.le_trans (Nat.le_trans (Nat.le_trans (Nat.le_trans E957.1 K961.1) K975.1) K981.1) K987.1)) f988 f991 f989 f992 rfl g_b957 rfl (by first | assumption | decide)) 0 (by decide) (by decide) (by decide) (by decide) rfl (g := (mkF m 74 #[iv u1, iv u2, iv u3, iv (3 : Int32), iv (3 : Int32), iv (0 : Int32), rv b957, rv bo975, .unset] [(.ref bo975), (.ref b957)])) rfl (by rw [hml]; rfl) (argsL := [(.ref bo975)]) (rest := []) (lenOf own_pd15 rfl) rfl (by show 2 * 0 + _ ≤ _; exact Nat.le_of_eq rfl) (hb hby at_74) ?_
        intro v993 T993 L993 X993 q993
        obtain ⟨rfl, N993q, K993, f994, f995, f996, f997⟩ := q993
        have N993 := Fr.app N987 N993q
        have f998 : Fld Z T993.heap b957 "com/example/purlin/purlin/framework/ServiceUse" "count" "I" (.int (3 : Int32)) := f996
        show own_Goes p e below s _ _ _ T993 (mkF m 77 #[iv u1, iv u2, iv u3, iv (3 : Int32), iv (3 : Int32), iv (0 : Int32), rv b957, rv bo975, .unset] [])
        refine own_by (g' := (mkF m 85 #[iv u1, iv u2, iv u3, iv (3 : Int32), iv (3 : Int32), iv (0 : Int32), rv b957, rv bo975, .unset] [(.ref b957)])) (fun t k => XS.iload X993.here hx rfl (hb hby at_77) rfl (XS.iconst X993.here hx rfl (hb hby at_79) (XS.icmpNo X993.here hx rfl (hb hby at_80) rfl (flt (by decide : ¬ ((3 : Int32) < (1 : Int32)))).1 (XS.aload X993.here hx rfl (hb hby at_83) rfl rfl k)))) ?_
        refine own_callV X993 hx hZ hown (hw _ (List.mem_of_getElem? (i := 204) rfl)) (hw _ (List.mem_of_getElem? (i := 205) rfl)) (notFace_of_selects (args := #[]) (mvT hZ (hw _ (List.mem_of_getElem? (i := 207) rfl)))) (hw _ (List.mem_of_getElem? (i := 207) rfl)) (hw _ (List.mem_of_getElem? (i := 206) rfl)) (hw _ (List.mem_of_getElem? (i := 208) rfl)) (hw _ (List.mem_of_getElem? (i := 2) rfl)) (by decide) (a := b957) f994 (own_un1 l Z a0 hw [] (b957) ((.ref bo975)) ((3 : Int32)) (bm961) T993.heap n0 (Nat.le_trans Z0 (Nat.le_trans (Nat.le_trans (Nat.le_trans (Nat.le_trans (Nat.le_trans E957.1 K961.1) K975.1) K981.1) K987.1) K993.1)) f994 f997 f995 f998 rfl g_b957 (by first | assumption | decide)) 0 (by decide) (by decide) (by decide) (by decide) rfl (g := (mkF m 85 #[iv u1, iv u2, iv u3, iv (3 : Int32), iv (3 : Int32), iv (0 : Int32), rv b957, rv bo975, .unset] [(.ref b957)])) rfl (by rw [hml]; rfl) (argsL := []) (rest := []) (lenOf own_pd16 rfl) rfl (by show 2 * 0 + _ ≤ _; exact Nat.le_of_eq rfl) (hb hby at_85) ?_
        intro v999 T999 L999 X999 q999
        obtain ⟨rfl, N999q, K999, f1000, f1001, f1002, f1003⟩ := q999
        have N999 := Fr.app N993 N999q
        have f1004 : Fld Z T999.heap b957 "com/example/purlin/purlin/framework/ServiceUse" "count" "I" (.int (2 : Int32)) := f1002
        show own_Goes p e below s _ _ _ T999 (mkF m 88 #[iv u1, iv u2, iv u3, iv (3 : Int32), iv (3 : Int32), iv (0 : Int32), rv b957, rv bo975, .unset] [.null])
        refine own_by (g' := (mkF m 97 #[iv u1, iv u2, iv u3, iv (3 : Int32), iv (3 : Int32), iv (0 : Int32), rv b957, rv bo975, .unset] [(.ref b957)])) (fun t k => XS.pop X999.here hx rfl (hb hby at_88) rfl rfl (XS.iload X999.here hx rfl (hb hby at_89) rfl (XS.iconst X999.here hx rfl (hb hby at_91) (XS.icmpNo X999.here hx rfl (hb hby at_92) rfl (flt (by decide : ¬ ((3 : Int32) < (2 : Int32)))).1 (XS.aload X999.here hx rfl (hb hby at_95) rfl rfl k))))) ?_
        refine own_callV X999 hx hZ hown (hw _ (List.mem_of_getElem? (i := 204) rfl)) (hw _ (List.mem_of_getElem? (i := 205) rfl)) (notFace_of_selects (args := #[]) (mvT hZ (hw _ (List.mem_of_getElem? (i := 207) rfl)))) (hw _ (List.mem_of_getElem? (i := 207) rfl)) (hw _ (List.mem_of_getElem? (i := 206) rfl)) (hw _ (List.mem_of_getElem? (i := 208) rfl)) (hw _ (List.mem_of_getElem? (i := 2) rfl)) (by decide) (a := b957) f1000 (own_un1 l Z a0 hw [] (b957) ((.ref bo975)) ((2 : Int32)) (bm961) T999.heap n0 (Nat.le_trans Z0 (Nat.le_trans (Nat.le_trans (Nat.le_trans (Nat.le_trans (Nat.le_trans (Nat.le_trans E957.1 K961.1) K975.1) K981.1) K987.1) K993.1) K999.1)) f1000 f1003 f1001 f1004 rfl g_b957 (by first | assumption | decide)) 0 (by decide) (by decide) (by decide) (by decide) rfl (g := (mkF m 97 #[iv u1, iv u2, iv u3, iv (3 : Int32), iv (3 : Int32), iv (0 : Int32), rv b957, rv bo975, .unset] [(.ref b957)])) rfl (by rw [hml]; rfl) (argsL := []) (rest := []) (lenOf own_pd16 rfl) rfl (by show 2 * 0 + _ ≤ _; exact Nat.le_of_eq rfl) (hb hby at_97) ?_
        intro v1005 T1005 L1005 X1005 q1005
        obtain ⟨rfl, N1005q, K1005, f1006, f1007, f1008, f1009⟩ := q1005
        have N1005 := Fr.app N999 N1005q
        have f1010 : Fld Z T1005.heap b957 "com/example/purlin/purlin/framework/ServiceUse" "count" "I" (.int (1 : Int32)) := f1008
        show own_Goes p e below s _ _ _ T1005 (mkF m 100 #[iv u1, iv u2, iv u3, iv (3 : Int32), iv (3 : Int32), iv (0 : Int32), rv b957, rv bo975, .unset] [.null])
        refine own_by (g' := (mkF m 109 #[iv u1, iv u2, iv u3, iv (3 : Int32), iv (3 : Int32), iv (0 : Int32), rv b957, rv bo975, .unset] [(.ref b957)])) (fun t k => XS.pop X1005.here hx rfl (hb hby at_100) rfl rfl (XS.iload X1005.here hx rfl (hb hby at_101) rfl (XS.iconst X1005.here hx rfl (hb hby at_103) (XS.icmpNo X1005.here hx rfl (hb hby at_104) rfl (flt (by decide : ¬ ((3 : Int32) < (3 : Int32)))).1 (XS.aload X1005.here hx rfl (hb hby at_107) rfl rfl k))))) ?_
        refine own_callV X1005 hx hZ hown (hw _ (List.mem_of_getElem? (i := 204) rfl)) (hw _ (List.mem_of_getElem? (i := 205) rfl)) (notFace_of_selects (args := #[]) (mvT hZ (hw _ (List.mem_of_getElem? (i := 207) rfl)))) (hw _ (List.mem_of_getElem? (i := 207) rfl)) (hw _ (List.mem_of_getElem? (i := 206) rfl)) (hw _ (List.mem_of_getElem? (i := 208) rfl)) (hw _ (List.mem_of_getElem? (i := 2) rfl)) (by decide) (a := b957) f1006 (own_un0 l Z a0 hw [] (b957) ((.ref bo975)) ((1 : Int32)) (bm961) T1005.heap n0 (Nat.le_trans Z0 (Nat.le_trans (Nat.le_trans (Nat.le_trans (Nat.le_trans (Nat.le_trans (Nat.le_trans (Nat.le_trans E957.1 K961.1) K975.1) K981.1) K987.1) K993.1) K999.1) K1005.1)) f1006 f1009 f1007 f1010 rfl g_b957 (by first | assumption | decide)) 0 (by decide) (by decide) (by decide) (by decide) rfl (g := (mkF m 109 #[iv u1, iv u2, iv u3, iv (3 : Int32), iv (3 : Int32), iv (0 : Int32), rv b957, rv bo975, .unset] [(.ref b957)])) rfl (by rw [hml]; rfl) (argsL := []) (rest := []) (lenOf own_pd16 rfl) rfl (by show 2 * 0 + _ ≤ _; exact Nat.le_of_eq rfl) (hb hby at_109) ?_
        intro v1011 T1011 L1011 X1011 q1011
        obtain ⟨rfl, N1011q, K1011, f1012, f1013, f1014, f1015⟩ := q1011
        have N1011 := Fr.app N1005 N1011q
        have f1016 : Fld Z T1011.heap b957 "com/example/purlin/purlin/framework/ServiceUse" "count" "I" (.int (0 : Int32)) := f1014
        show own_Goes p e below s _ _ _ T1011 (mkF m 112 #[iv u1, iv u2, iv u3, iv (3 : Int32), iv (3 : Int32), iv (0 : Int32), rv b957, rv bo975, .unset] [(.ref bo975)])
        refine own_by (g' := (mkF m 133 #[iv u1, iv u2, iv u3, iv (3 : Int32), iv (3 : Int32), iv (0 : Int32), rv b957, rv bo975, .unset] [(.int (0 : Int32))])) (fun t k => XS.pop X1011.here hx rfl (hb hby at_112) rfl rfl (XS.iload X1011.here hx rfl (hb hby at_113) rfl (XS.ifYes X1011.here hx rfl (pc0 := 115) (pc' := 124) rfl (hb hby at_115) rfl ((if0 _ _).trans (teq (by decide : (0 : Int32) = (0 : Int32))).1) (by decide) (by decide) (XS.iload X1011.here hx rfl (hb hby at_124) rfl (XS.ifNo X1011.here hx rfl (hb hby at_126) rfl ((if0 _ _).trans (teq (by decide : (0 : Int32) = (0 : Int32))).2) (XS.iloadN X1011.here hx rfl (hb hby at_129) rfl (XS.iload X1011.here hx rfl (hb hby at_130) rfl (XS.isub X1011.here hx rfl (hb hby at_132) rfl k)))))))) ?_
        refine own_by (g' := (mkF m 145 #[iv u1, iv u2, iv u3, iv (3 : Int32), iv (3 : Int32), iv (0 : Int32), rv b957, rv bo975, iv (0 : Int32)] [(.ref b957)])) (fun t k => XS.ifYes X1011.here hx rfl (pc0 := 133) (pc' := 140) rfl (hb hby at_133) rfl ((if0 _ _).trans (flt (by decide : ¬ ((0 : Int32) < (0 : Int32)))).2.2.2) (by decide) (by decide) (XS.iconst X1011.here hx rfl (hb hby at_140) (XS.istore X1011.here hx rfl (hb hby at_141) rfl (l' := #[iv u1, iv u2, iv u3, iv (3 : Int32), iv (3 : Int32), iv (0 : Int32), rv b957, rv bo975, iv (0 : Int32)]) rfl (XS.aload X1011.here hx rfl (hb hby at_143) rfl rfl k)))) ?_
        refine own_callV X1011 hx hZ hown (hw _ (List.mem_of_getElem? (i := 40) rfl)) (hw _ (List.mem_of_getElem? (i := 41) rfl)) (notFace_of_selects (args := #[]) (mvT hZ (hw _ (List.mem_of_getElem? (i := 43) rfl)))) (hw _ (List.mem_of_getElem? (i := 43) rfl)) (hw _ (List.mem_of_getElem? (i := 42) rfl)) (hw _ (List.mem_of_getElem? (i := 44) rfl)) (hw _ (List.mem_of_getElem? (i := 2) rfl)) (by decide) (a := b957) f1012 (own_ic0 l Z a0 hw [] (b957) ((0 : Int32)) T1011.heap n0 (Nat.le_trans Z0 (Nat.le_trans (Nat.le_trans (Nat.le_trans (Nat.le_trans (Nat.le_trans (Nat.le_trans (Nat.le_trans (Nat.le_trans E957.1 K961.1) K975.1) K981.1) K987.1) K993.1) K999.1) K1005.1) K1011.1)) f1016 (by first | assumption | decide)) 0 (by decide) (by decide) (by decide) (by decide) rfl (g := (mkF m 145 #[iv u1, iv u2, iv u3, iv (3 : Int32), iv (3 : Int32), iv (0 : Int32), rv b957, rv bo975, iv (0 : Int32)] [(.ref b957)])) rfl (by rw [hml]; rfl) (argsL := []) (rest := []) (lenOf own_pd13 rfl) rfl (by show 2 * 0 + _ ≤ _; exact Nat.le_of_eq rfl) (hb hby at_145) ?_
        intro v1017 T1017 L1017 X1017 q1017
        obtain ⟨rfl, N1017q, e1017⟩ := q1017
        have N1017 := Fr.app N1011 N1017q
        show own_Goes p e below s _ _ _ T1017 (mkF m 148 #[iv u1, iv u2, iv u3, iv (3 : Int32), iv (3 : Int32), iv (0 : Int32), rv b957, rv bo975, iv (0 : Int32)] [(.int (0 : Int32))])
        refine own_by (g' := (mkF m 158 #[iv u1, iv u2, iv u3, iv (3 : Int32), iv (3 : Int32), iv (0 : Int32), rv b957, rv bo975, iv (0 : Int32)] [(.int (1 : Int32))])) (fun t k => XS.iload X1017.here hx rfl (hb hby at_148) rfl (XS.icmpNo X1017.here hx rfl (hb hby at_150) rfl (teq (by decide : (0 : Int32) = (0 : Int32))).2 (XS.iconst X1017.here hx rfl (hb hby at_153) (XS.goto X1017.here hx rfl (pc0 := 154) (pc' := 158) rfl (hb hby at_154) (by decide) (by decide) k)))) ?_
        refine own_retN X1017 hx hlk hret (t := .boolean) (by simp) (hb hby at_158) (by decide) (by decide) ?_
        rw [e1017]
        exact ⟨rfl, N1017, ((((((((((Keep.refl h0 []).ext E957).trans K961 (allS (Or.inr sz_b957) all0)).trans K975 all0).trans K981 (allS (Or.inr sz_b957) all0)).trans K987 (allS (Or.inr sz_b957) all0)).trans K993 (allS (Or.inr sz_b957) all0)).trans K999 (allS (Or.inr sz_b957) all0)).trans K1005 (allS (Or.inr sz_b957) all0)).trans K1011 (allS (Or.inr sz_b957) all0))⟩
      ·
        refine own_by (g' := (mkF m 26 #[iv u1, iv u2, iv u3, iv (3 : Int32), iv (3 : Int32), iv (1 : Int32), .unset, .unset, .unset] [])) (fun t k => XS.ifNo X0.here hx rfl (hb hby at_16) rfl ((if0 _ _).trans (feq hc956).1) (XS.iconst X0.here hx rfl (hb hby at_19) (XS.goto X0.here hx rfl (pc0 := 20) (pc' := 24) rfl (hb hby at_20) (by decide) (by decide) (XS.istore X0.here hx rfl (hb hby at_24) rfl (l' := #[iv u1, iv u2, iv u3, iv (3 : Int32), iv (3 : Int32), iv (1 : Int32), .unset, .unset, .unset]) rfl k)))) ?_
        obtain ⟨T1018, h1018, X1018, e1018, E1018, A1018, D1018, U1018, st1018⟩ := newO X0 hx hZ hown (hw _ (List.mem_of_getElem? (i := 0) rfl)) (hw _ (List.mem_of_getElem? (i := 1) rfl)) (hw _ (List.mem_of_getElem? (i := 2) rfl)) e0 (g := (mkF m 26 #[iv u1, iv u2, iv u3, iv (3 : Int32), iv (3 : Int32), iv (1 : Int32), .unset, .unset, .unset] [])) rfl (hb hby at_26) (by decide) (by decide)
        obtain ⟨b1018, g1018⟩ : ∃ z, z = h0.size := ⟨_, rfl⟩
        rw [← g1018] at A1018 D1018 U1018 st1018
        have sz_b1018 : h0.size ≤ b1018 := Nat.le_trans (Nat.le_refl _) (Nat.le_of_eq g1018.symm)
        have g_b1018 : n0 ≤ b1018 := Nat.le_trans Z0 sz_b1018
        have f1019 : Fld Z h1018 b1018 "com/example/purlin/purlin/framework/ServiceUse" "prototypes" "Ljava/util/Map;" .null := D1018 (Or.inr (hw _ (List.mem_of_getElem? (i := 32) rfl))) (ty := (.object "java/util/Map")) (by decide)
        have f1020 : Fld Z h1018 b1018 "com/example/purlin/purlin/framework/ServiceUse" "count" "I" (.int (0 : Int32)) := D1018 (Or.inl (hw _ (List.mem_of_getElem? (i := 46) rfl))) (ty := .int) (by decide)
        have f1021 : Fld Z h1018 b1018 "com/example/purlin/purlin/framework/ServiceUse" "object" "Ljava/lang/Object;" .null := D1018 (Or.inl (hw _ (List.mem_of_getElem? (i := 53) rfl))) (ty := (.object "java/lang/Object")) (by decide)
        refine own_by (g' := (mkF m 29 #[iv u1, iv u2, iv u3, iv (3 : Int32), iv (3 : Int32), iv (1 : Int32), .unset, .unset, .unset] [(.ref b1018)])) st1018 ?_
        refine own_by (g' := (mkF m 30 #[iv u1, iv u2, iv u3, iv (3 : Int32), iv (3 : Int32), iv (1 : Int32), .unset, .unset, .unset] [(.ref b1018), (.ref b1018)])) (fun t k => XS.dup X1018.here hx rfl (hb hby at_29) rfl rfl k) ?_
        refine own_callI X1018 hx hZ hown rfl (hw _ (List.mem_of_getElem? (i := 3) rfl)) (hw _ (List.mem_of_getElem? (i := 4) rfl)) (hw _ (List.mem_of_getElem? (i := 2) rfl)) (hw _ (List.mem_of_getElem? (i := 5) rfl)) (by decide) (a := b1018) (own_si l Z a0 hw [] (b1018) h1018 n0 (Nat.le_trans Z0 E1018.1) A1018 f1019 f1021 f1020 g_b1018) 1 (by decide) (by decide) (by decide) (by decide) e1018 (g := (mkF m 30 #[iv u1, iv u2, iv u3, iv (3 : Int32), iv (3 : Int32), iv (1 : Int32), .unset, .unset, .unset] [(.ref b1018), (.ref b1018)])) rfl (by rw [hml]; rfl) (argsL := []) (rest := [(.ref b1018)]) (lenOf own_pd0 rfl) rfl (by show 2 * 0 + _ ≤ _; exact Nat.le_of_eq rfl) (hb hby at_30) ?_
        intro v1022 T1022 L1022 X1022 q1022
        obtain ⟨bm1022, bt1022, kt1022, rfl, N1022q, K1022, f1023, f1024, f1025, f1026, f1027, f1028, f1029, f1030, f1031, f1032, f1033, f1034⟩ := q1022
        have N1022 := Fr.app N0 N1022q
        show own_Goes p e below s _ _ _ T1022 (mkF m 33 #[iv u1, iv u2, iv u3, iv (3 : Int32), iv (3 : Int32), iv (1 : Int32), .unset, .unset, .unset] [(.ref b1018)])
        refine own_by (g' := (mkF m 36 #[iv u1, iv u2, iv u3, iv (3 : Int32), iv (3 : Int32), iv (1 : Int32), rv b1018, .unset, .unset] [(.int u3)])) (fun t k => XS.astore X1022.here hx rfl (hb hby at_33) rfl rfl (l' := #[iv u1, iv u2, iv u3, iv (3 : Int32), iv (3 : Int32), iv (1 : Int32), rv b1018, .unset, .unset]) rfl (XS.iloadN X1022.here hx rfl (hb hby at_35) rfl k)) ?_
        have f1035 := ((O0.ext E1018).keep K1022 (allS g_b1018 all0))
        refine own_callS X1022 hx hZ hown (hw _ (List.mem_of_getElem? (i := 33) rfl)) (hw _ (List.mem_of_getElem? (i := 34) rfl)) (hw _ (List.mem_of_getElem? (i := 35) rfl)) (hw _ (List.mem_of_getElem? (i := 36) rfl)) (by decide) (own_valueOf l Z a0 hw [] (u3) (zc) T1022.heap n0 (Nat.le_trans Z0 (Nat.le_trans E1018.1 K1022.1)) f1035 S_high S_cache (by first | assumption | decide)) 0 (by decide) (by decide) (by decide) (by decide) rfl (g := (mkF m 36 #[iv u1, iv u2, iv u3, iv (3 : Int32), iv (3 : Int32), iv (1 : Int32), rv b1018, .unset, .unset] [(.int u3)])) rfl (by rw [hml]; rfl) (argsL := [(.int u3)]) (rest := []) (lenOf own_pd12 rfl) rfl (by show 2 * 0 + _ ≤ _; exact Nat.le_of_eq rfl) (hb hby at_36) ?_
        intro v1036 T1036 L1036 X1036 q1036
        obtain ⟨bo1036, rfl, N1036q, K1036, f1037⟩ := q1036
        have N1036 := Fr.app N1022 N1036q
        show own_Goes p e below s _ _ _ T1036 (mkF m 39 #[iv u1, iv u2, iv u3, iv (3 : Int32), iv (3 : Int32), iv (1 : Int32), rv b1018, .unset, .unset] [(.ref bo1036)])
        refine own_by (g' := (mkF m 50 #[iv u1, iv u2, iv u3, iv (3 : Int32), iv (3 : Int32), iv (1 : Int32), rv b1018, rv bo1036, .unset] [(.ref bo1036), (.ref b1018)])) (fun t k => XS.astore X1036.here hx rfl (hb hby at_39) rfl rfl (l' := #[iv u1, iv u2, iv u3, iv (3 : Int32), iv (3 : Int32), iv (1 : Int32), rv b1018, rv bo1036, .unset]) rfl (XS.iloadN X1036.here hx rfl (hb hby at_41) rfl (XS.iconst X1036.here hx rfl (hb hby at_42) (XS.icmpNo X1036.here hx rfl (hb hby at_43) rfl (flt (by decide : ¬ ((3 : Int32) < (1 : Int32)))).1 (XS.aload X1036.here hx rfl (hb hby at_46) rfl rfl (XS.aload X1036.here hx rfl (hb hby at_48) rfl rfl k)))))) ?_
        have f1038 := (f1023.keep K1036)
        have f1039 := (f1024.keep K1036 nin0)
        have f1040 := (f1025.keep K1036 nin0)
        have f1041 := (f1026.keep K1036 nin0)
        refine own_callV X1036 hx hZ hown (hw _ (List.mem_of_getElem? (i := 47) rfl)) (hw _ (List.mem_of_getElem? (i := 48) rfl)) (notFace_of_selects (args := #[]) (mvT hZ (hw _ (List.mem_of_getElem? (i := 50) rfl)))) (hw _ (List.mem_of_getElem? (i := 50) rfl)) (hw _ (List.mem_of_getElem? (i := 49) rfl)) (hw _ (List.mem_of_getElem? (i := 51) rfl)) (hw _ (List.mem_of_getElem? (i := 2) rfl)) (by decide) (a := b1018) f1038 (own_use0 l Z a0 hw [] (b1018) ((.ref bo1036)) (.null) ((0 : Int32)) (bm1022) T1036.heap n0 (Nat.le_trans Z0 (Nat.le_trans (Nat.le_trans E1018.1 K1022.1) K1036.1)) f1038 f1039 f1040 f1041 rfl g_b1018 rfl (by first | assumption | decide)) 0 (by decide) (by decide) (by decide) (by decide) rfl (g := (mkF m 50 #[iv u1, iv u2, iv u3, iv (3 : Int32), iv (3 : Int32), iv (1 : Int32), rv b1018, rv bo1036, .unset] [(.ref bo1036), (.ref b1018)])) rfl (by rw [hml]; rfl) (argsL := [(.ref bo1036)]) (rest := []) (lenOf own_pd15 rfl) rfl (by show 2 * 0 + _ ≤ _; exact Nat.le_of_eq rfl) (hb hby at_50) ?_
        intro v1042 T1042 L1042 X1042 q1042
        obtain ⟨rfl, N1042q, K1042, f1043, f1044, f1045, f1046⟩ := q1042
        have N1042 := Fr.app N1036 N1042q
        have f1047 : Fld Z T1042.heap b1018 "com/example/purlin/purlin/framework/ServiceUse" "count" "I" (.int (1 : Int32)) := f1045
        show own_Goes p e below s _ _ _ T1042 (mkF m 53 #[iv u1, iv u2, iv u3, iv (3 : Int32), iv (3 : Int32), iv (1 : Int32), rv b1018, rv bo1036, .unset] [])
        refine own_by (g' := (mkF m 62 #[iv u1, iv u2, iv u3, iv (3 : Int32), iv (3 : Int32), iv (1 : Int32), rv b1018, rv bo1036, .unset] [(.ref bo1036), (.ref b1018)])) (fun t k => XS.iloadN X1042.here hx rfl (hb hby at_53) rfl (XS.iconst X1042.here hx rfl (hb hby at_54) (XS.icmpNo X1042.here hx rfl (hb hby at_55) rfl (flt (by decide : ¬ ((3 : Int32) < (2 : Int32)))).1 (XS.aload X1042.here hx rfl (hb hby at_58) rfl rfl (XS.aload X1042.here hx rfl (hb hby at_60) rfl rfl k))))) ?_
        refine own_callV X1042 hx hZ hown (hw _ (List.mem_of_getElem? (i := 47) rfl)) (hw _ (List.mem_of_getElem? (i := 48) rfl)) (notFace_of_selects (args := #[]) (mvT hZ (hw _ (List.mem_of_getElem? (i := 50) rfl)))) (hw _ (List.mem_of_getElem? (i := 50) rfl)) (hw _ (List.mem_of_getElem? (i := 49) rfl)) (hw _ (List.mem_of_getElem? (i := 51) rfl)) (hw _ (List.mem_of_getElem? (i := 2) rfl)) (by decide) (a := b1018) f1043 (own_use1 l Z a0 hw [] (b1018) ((.ref bo1036)) ((.ref bo1036)) ((1 : Int32)) (bm1022) T1042.heap n0 (Nat.le_trans Z0 (Nat.le_trans (Nat.le_trans (Nat.le_trans E1018.1 K1022.1) K1036.1) K1042.1)) f1043 f1046 f1044 f1047 rfl g_b1018 rfl (by first | assumption | decide)) 0 (by decide) (by decide) (by decide) (by decide) rfl (g := (mkF m 62 #[iv u1, iv u2, iv u3, iv (3 : Int32), iv (3 : Int32), iv (1 : Int32), rv b1018, rv bo1036, .unset] [(.ref bo1036), (.ref b1018)])) rfl (by rw [hml]; rfl) (argsL := [(.ref bo1036)]) (rest := []) (lenOf own_pd15 rfl) rfl (by show 2 * 0 + _ ≤ _; exact Nat.le_of_eq rfl) (hb hby at_62) ?_
        intro v1048 T1048 L1048 X1048 q1048
        obtain ⟨rfl, N1048q, K1048, f1049, f1050, f1051, f1052⟩ := q1048
        have N1048 := Fr.app N1042 N1048q
        have f1053 : Fld Z T1048.heap b1018 "com/example/purlin/purlin/framework/ServiceUse" "count" "I" (.int (2 : Int32)) := f1051
        show own_Goes p e below s _ _ _ T1048 (mkF m 65 #[iv u1, iv u2, iv u3, iv (3 : Int32), iv (3 : Int32), iv (1 : Int32), rv b1018, rv bo1036, .unset] [])
        refine own_by (g' := (mkF m 74 #[iv u1, iv u2, iv u3, iv (3 : Int32), iv (3 : Int32), iv (1 : Int32), rv b1018, rv bo1036, .unset] [(.ref bo1036), (.ref b1018)])) (fun t k => XS.iloadN X1048.here hx rfl (hb hby at_65) rfl (XS.iconst X1048.here hx rfl (hb hby at_66) (XS.icmpNo X1048.here hx rfl (hb hby at_67) rfl (flt (by decide : ¬ ((3 : Int32) < (3 : Int32)))).1 (XS.aload X1048.here hx rfl (hb hby at_70) rfl rfl (XS.aload X1048.here hx rfl (hb hby at_72) rfl rfl k))))) ?_
        refine own_callV X1048 hx hZ hown (hw _ (List.mem_of_getElem? (i := 47) rfl)) (hw _ (List.mem_of_getElem? (i := 48) rfl)) (notFace_of_selects (args := #[]) (mvT hZ (hw _ (List.mem_of_getElem? (i := 50) rfl)))) (hw _ (List.mem_of_getElem? (i := 50) rfl)) (hw _ (List.mem_of_getElem? (i := 49) rfl)) (hw _ (List.mem_of_getElem? (i := 51) rfl)) (hw _ (List.mem_of_getElem? (i := 2) rfl)) (by decide) (a := b1018) f1049 (own_use1 l Z a0 hw [] (b1018) ((.ref bo1036)) ((.ref bo1036)) ((2 : Int32)) (bm1022) T1048.heap n0 (Nat.le_trans Z0 (Nat.le_trans (Nat.le_trans (Nat.le_trans (Nat.le_trans E1018.1 K1022.1) K1036.1) K1042.1) K1048.1)) f1049 f1052 f1050 f1053 rfl g_b1018 rfl (by first | assumption | decide)) 0 (by decide) (by decide) (by decide) (by decide) rfl (g := (mkF m 74 #[iv u1, iv u2, iv u3, iv (3 : Int32), iv (3 : Int32), iv (1 : Int32), rv b1018, rv bo1036, .unset] [(.ref bo1036), (.ref b1018)])) rfl (by rw [hml]; rfl) (argsL := [(.ref bo1036)]) (rest := []) (lenOf own_pd15 rfl) rfl (by show 2 * 0 + _ ≤ _; exact Nat.le_of_eq rfl) (hb hby at_74) ?_
        intro v1054 T1054 L1054 X1054 q1054
        obtain ⟨rfl, N1054q, K1054, f1055, f1056, f1057, f1058⟩ := q1054
        have N1054 := Fr.app N1048 N1054q
        have f1059 : Fld Z T1054.heap b1018 "com/example/purlin/purlin/framework/ServiceUse" "count" "I" (.int (3 : Int32)) := f1057
        show own_Goes p e below s _ _ _ T1054 (mkF m 77 #[iv u1, iv u2, iv u3, iv (3 : Int32), iv (3 : Int32), iv (1 : Int32), rv b1018, rv bo1036, .unset] [])
        refine own_by (g' := (mkF m 85 #[iv u1, iv u2, iv u3, iv (3 : Int32), iv (3 : Int32), iv (1 : Int32), rv b1018, rv bo1036, .unset] [(.ref b1018)])) (fun t k => XS.iload X1054.here hx rfl (hb hby at_77) rfl (XS.iconst X1054.here hx rfl (hb hby at_79) (XS.icmpNo X1054.here hx rfl (hb hby at_80) rfl (flt (by decide : ¬ ((3 : Int32) < (1 : Int32)))).1 (XS.aload X1054.here hx rfl (hb hby at_83) rfl rfl k)))) ?_
        refine own_callV X1054 hx hZ hown (hw _ (List.mem_of_getElem? (i := 204) rfl)) (hw _ (List.mem_of_getElem? (i := 205) rfl)) (notFace_of_selects (args := #[]) (mvT hZ (hw _ (List.mem_of_getElem? (i := 207) rfl)))) (hw _ (List.mem_of_getElem? (i := 207) rfl)) (hw _ (List.mem_of_getElem? (i := 206) rfl)) (hw _ (List.mem_of_getElem? (i := 208) rfl)) (hw _ (List.mem_of_getElem? (i := 2) rfl)) (by decide) (a := b1018) f1055 (own_un1 l Z a0 hw [] (b1018) ((.ref bo1036)) ((3 : Int32)) (bm1022) T1054.heap n0 (Nat.le_trans Z0 (Nat.le_trans (Nat.le_trans (Nat.le_trans (Nat.le_trans (Nat.le_trans E1018.1 K1022.1) K1036.1) K1042.1) K1048.1) K1054.1)) f1055 f1058 f1056 f1059 rfl g_b1018 (by first | assumption | decide)) 0 (by decide) (by decide) (by decide) (by decide) rfl (g := (mkF m 85 #[iv u1, iv u2, iv u3, iv (3 : Int32), iv (3 : Int32), iv (1 : Int32), rv b1018, rv bo1036, .unset] [(.ref b1018)])) rfl (by rw [hml]; rfl) (argsL := []) (rest := []) (lenOf own_pd16 rfl) rfl (by show 2 * 0 + _ ≤ _; exact Nat.le_of_eq rfl) (hb hby at_85) ?_
        intro v1060 T1060 L1060 X1060 q1060
        obtain ⟨rfl, N1060q, K1060, f1061, f1062, f1063, f1064⟩ := q1060
        have N1060 := Fr.app N1054 N1060q
        have f1065 : Fld Z T1060.heap b1018 "com/example/purlin/purlin/framework/ServiceUse" "count" "I" (.int (2 : Int32)) := f1063
        show own_Goes p e below s _ _ _ T1060 (mkF m 88 #[iv u1, iv u2, iv u3, iv (3 : Int32), iv (3 : Int32), iv (1 : Int32), rv b1018, rv bo1036, .unset] [.null])
        refine own_by (g' := (mkF m 97 #[iv u1, iv u2, iv u3, iv (3 : Int32), iv (3 : Int32), iv (1 : Int32), rv b1018, rv bo1036, .unset] [(.ref b1018)])) (fun t k => XS.pop X1060.here hx rfl (hb hby at_88) rfl rfl (XS.iload X1060.here hx rfl (hb hby at_89) rfl (XS.iconst X1060.here hx rfl (hb hby at_91) (XS.icmpNo X1060.here hx rfl (hb hby at_92) rfl (flt (by decide : ¬ ((3 : Int32) < (2 : Int32)))).1 (XS.aload X1060.here hx rfl (hb hby at_95) rfl rfl k))))) ?_
        refine own_callV X1060 hx hZ hown (hw _ (List.mem_of_getElem? (i := 204) rfl)) (hw _ (List.mem_of_getElem? (i := 205) rfl)) (notFace_of_selects (args := #[]) (mvT hZ (hw _ (List.mem_of_getElem? (i := 207) rfl)))) (hw _ (List.mem_of_getElem? (i := 207) rfl)) (hw _ (List.mem_of_getElem? (i := 206) rfl)) (hw _ (List.mem_of_getElem? (i := 208) rfl)) (hw _ (List.mem_of_getElem? (i := 2) rfl)) (by decide) (a := b1018) f1061 (own_un1 l Z a0 hw [] (b1018) ((.ref bo1036)) ((2 : Int32)) (bm1022) T1060.heap n0 (Nat.le_trans Z0 (Nat.le_trans (Nat.le_trans (Nat.le_trans (Nat.le_trans (Nat.le_trans (Nat.le_trans E1018.1 K1022.1) K1036.1) K1042.1) K1048.1) K1054.1) K1060.1)) f1061 f1064 f1062 f1065 rfl g_b1018 (by first | assumption | decide)) 0 (by decide) (by decide) (by decide) (by decide) rfl (g := (mkF m 97 #[iv u1, iv u2, iv u3, iv (3 : Int32), iv (3 : Int32), iv (1 : Int32), rv b1018, rv bo1036, .unset] [(.ref b1018)])) rfl (by rw [hml]; rfl) (argsL := []) (rest := []) (lenOf own_pd16 rfl) rfl (by show 2 * 0 + _ ≤ _; exact Nat.le_of_eq rfl) (hb hby at_97) ?_
        intro v1066 T1066 L1066 X1066 q1066
        obtain ⟨rfl, N1066q, K1066, f1067, f1068, f1069, f1070⟩ := q1066
        have N1066 := Fr.app N1060 N1066q
        have f1071 : Fld Z T1066.heap b1018 "com/example/purlin/purlin/framework/ServiceUse" "count" "I" (.int (1 : Int32)) := f1069
        show own_Goes p e below s _ _ _ T1066 (mkF m 100 #[iv u1, iv u2, iv u3, iv (3 : Int32), iv (3 : Int32), iv (1 : Int32), rv b1018, rv bo1036, .unset] [.null])
        refine own_by (g' := (mkF m 109 #[iv u1, iv u2, iv u3, iv (3 : Int32), iv (3 : Int32), iv (1 : Int32), rv b1018, rv bo1036, .unset] [(.ref b1018)])) (fun t k => XS.pop X1066.here hx rfl (hb hby at_100) rfl rfl (XS.iload X1066.here hx rfl (hb hby at_101) rfl (XS.iconst X1066.here hx rfl (hb hby at_103) (XS.icmpNo X1066.here hx rfl (hb hby at_104) rfl (flt (by decide : ¬ ((3 : Int32) < (3 : Int32)))).1 (XS.aload X1066.here hx rfl (hb hby at_107) rfl rfl k))))) ?_
        refine own_callV X1066 hx hZ hown (hw _ (List.mem_of_getElem? (i := 204) rfl)) (hw _ (List.mem_of_getElem? (i := 205) rfl)) (notFace_of_selects (args := #[]) (mvT hZ (hw _ (List.mem_of_getElem? (i := 207) rfl)))) (hw _ (List.mem_of_getElem? (i := 207) rfl)) (hw _ (List.mem_of_getElem? (i := 206) rfl)) (hw _ (List.mem_of_getElem? (i := 208) rfl)) (hw _ (List.mem_of_getElem? (i := 2) rfl)) (by decide) (a := b1018) f1067 (own_un0 l Z a0 hw [] (b1018) ((.ref bo1036)) ((1 : Int32)) (bm1022) T1066.heap n0 (Nat.le_trans Z0 (Nat.le_trans (Nat.le_trans (Nat.le_trans (Nat.le_trans (Nat.le_trans (Nat.le_trans (Nat.le_trans E1018.1 K1022.1) K1036.1) K1042.1) K1048.1) K1054.1) K1060.1) K1066.1)) f1067 f1070 f1068 f1071 rfl g_b1018 (by first | assumption | decide)) 0 (by decide) (by decide) (by decide) (by decide) rfl (g := (mkF m 109 #[iv u1, iv u2, iv u3, iv (3 : Int32), iv (3 : Int32), iv (1 : Int32), rv b1018, rv bo1036, .unset] [(.ref b1018)])) rfl (by rw [hml]; rfl) (argsL := []) (rest := []) (lenOf own_pd16 rfl) rfl (by show 2 * 0 + _ ≤ _; exact Nat.le_of_eq rfl) (hb hby at_109) ?_
        intro v1072 T1072 L1072 X1072 q1072
        obtain ⟨rfl, N1072q, K1072, f1073, f1074, f1075, f1076⟩ := q1072
        have N1072 := Fr.app N1066 N1072q
        have f1077 : Fld Z T1072.heap b1018 "com/example/purlin/purlin/framework/ServiceUse" "count" "I" (.int (0 : Int32)) := f1075
        show own_Goes p e below s _ _ _ T1072 (mkF m 112 #[iv u1, iv u2, iv u3, iv (3 : Int32), iv (3 : Int32), iv (1 : Int32), rv b1018, rv bo1036, .unset] [(.ref bo1036)])
        refine own_by (g' := (mkF m 120 #[iv u1, iv u2, iv u3, iv (3 : Int32), iv (3 : Int32), iv (1 : Int32), rv b1018, rv bo1036, .unset] [(.ref b1018)])) (fun t k => XS.pop X1072.here hx rfl (hb hby at_112) rfl rfl (XS.iload X1072.here hx rfl (hb hby at_113) rfl (XS.ifNo X1072.here hx rfl (hb hby at_115) rfl ((if0 _ _).trans (feq (by decide : ¬ ((1 : Int32) = (0 : Int32)))).1) (XS.aload X1072.here hx rfl (hb hby at_118) rfl rfl k)))) ?_
        have f1078 := (((((((f1028.keep K1036).keep K1042).keep K1048).keep K1054).keep K1060).keep K1066).keep K1072)
        have f1079 := (((((((f1029.keep K1036 nin0).keep K1042 (ninS (Ne.symm (Nat.ne_of_lt (Nat.lt_of_lt_of_le (Nat.lt_of_lt_of_le A1018.lt (Nat.le_refl _)) f1027))) nin0)).keep K1048 (ninS (Ne.symm (Nat.ne_of_lt (Nat.lt_of_lt_of_le (Nat.lt_of_lt_of_le A1018.lt (Nat.le_refl _)) f1027))) nin0)).keep K1054 (ninS (Ne.symm (Nat.ne_of_lt (Nat.lt_of_lt_of_le (Nat.lt_of_lt_of_le A1018.lt (Nat.le_refl _)) f1027))) nin0)).keep K1060 (ninS (Ne.symm (Nat.ne_of_lt (Nat.lt_of_lt_of_le (Nat.lt_of_lt_of_le A1018.lt (Nat.le_refl _)) f1027))) nin0)).keep K1066 (ninS (Ne.symm (Nat.ne_of_lt (Nat.lt_of_lt_of_le (Nat.lt_of_lt_of_le A1018.lt (Nat.le_refl _)) f1027))) nin0)).keep K1072 (ninS (Ne.symm (Nat.ne_of_lt (Nat.lt_of_lt_of_le (Nat.lt_of_lt_of_le A1018.lt (Nat.le_refl _)) f1027))) nin0))
        have f1080 := (((((((f1030.keep K1036 nin0).keep K1042 (ninS (Ne.symm (Nat.ne_of_lt (Nat.lt_of_lt_of_le (Nat.lt_of_lt_of_le A1018.lt (Nat.le_refl _)) f1027))) nin0)).keep K1048 (ninS (Ne.symm (Nat.ne_of_lt (Nat.lt_of_lt_of_le (Nat.lt_of_lt_of_le A1018.lt (Nat.le_refl _)) f1027))) nin0)).keep K1054 (ninS (Ne.symm (Nat.ne_of_lt (Nat.lt_of_lt_of_le (Nat.lt_of_lt_of_le A1018.lt (Nat.le_refl _)) f1027))) nin0)).keep K1060 (ninS (Ne.symm (Nat.ne_of_lt (Nat.lt_of_lt_of_le (Nat.lt_of_lt_of_le A1018.lt (Nat.le_refl _)) f1027))) nin0)).keep K1066 (ninS (Ne.symm (Nat.ne_of_lt (Nat.lt_of_lt_of_le (Nat.lt_of_lt_of_le A1018.lt (Nat.le_refl _)) f1027))) nin0)).keep K1072 (ninS (Ne.symm (Nat.ne_of_lt (Nat.lt_of_lt_of_le (Nat.lt_of_lt_of_le A1018.lt (Nat.le_refl _)) f1027))) nin0))
        have f1081 := (((((((f1031.keep K1036 nin0).keep K1042 (ninS (Ne.symm (Nat.ne_of_lt (Nat.lt_of_lt_of_le (Nat.lt_of_lt_of_le A1018.lt (Nat.le_refl _)) f1027))) nin0)).keep K1048 (ninS (Ne.symm (Nat.ne_of_lt (Nat.lt_of_lt_of_le (Nat.lt_of_lt_of_le A1018.lt (Nat.le_refl _)) f1027))) nin0)).keep K1054 (ninS (Ne.symm (Nat.ne_of_lt (Nat.lt_of_lt_of_le (Nat.lt_of_lt_of_le A1018.lt (Nat.le_refl _)) f1027))) nin0)).keep K1060 (ninS (Ne.symm (Nat.ne_of_lt (Nat.lt_of_lt_of_le (Nat.lt_of_lt_of_le A1018.lt (Nat.le_refl _)) f1027))) nin0)).keep K1066 (ninS (Ne.symm (Nat.ne_of_lt (Nat.lt_of_lt_of_le (Nat.lt_of_lt_of_le A1018.lt (Nat.le_refl _)) f1027))) nin0)).keep K1072 (ninS (Ne.symm (Nat.ne_of_lt (Nat.lt_of_lt_of_le (Nat.lt_of_lt_of_le A1018.lt (Nat.le_refl _)) f1027))) nin0))
        have f1082 := (((((((f1033.keep K1036 nin0).keep K1042 (ninS (Ne.symm (Nat.ne_of_lt (Nat.lt_of_lt_of_le (Nat.lt_of_lt_of_le A1018.lt (Nat.le_refl _)) f1027))) nin0)).keep K1048 (ninS (Ne.symm (Nat.ne_of_lt (Nat.lt_of_lt_of_le (Nat.lt_of_lt_of_le A1018.lt (Nat.le_refl _)) f1027))) nin0)).keep K1054 (ninS (Ne.symm (Nat.ne_of_lt (Nat.lt_of_lt_of_le (Nat.lt_of_lt_of_le A1018.lt (Nat.le_refl _)) f1027))) nin0)).keep K1060 (ninS (Ne.symm (Nat.ne_of_lt (Nat.lt_of_lt_of_le (Nat.lt_of_lt_of_le A1018.lt (Nat.le_refl _)) f1027))) nin0)).keep K1066 (ninS (Ne.symm (Nat.ne_of_lt (Nat.lt_of_lt_of_le (Nat.lt_of_lt_of_le A1018.lt (Nat.le_refl _)) f1027))) nin0)).keep K1072 (ninS (Ne.symm (Nat.ne_of_lt (Nat.lt_of_lt_of_le (Nat.lt_of_lt_of_le A1018.lt (Nat.le_refl _)) f1027))) nin0))
        have f1083 := (((((((f1034.keep K1036 nin0).keep K1042 (ninS (Ne.symm (Nat.ne_of_lt (Nat.lt_of_lt_of_le (Nat.lt_of_lt_of_le A1018.lt (Nat.le_refl _)) f1032))) nin0)).keep K1048 (ninS (Ne.symm (Nat.ne_of_lt (Nat.lt_of_lt_of_le (Nat.lt_of_lt_of_le A1018.lt (Nat.le_refl _)) f1032))) nin0)).keep K1054 (ninS (Ne.symm (Nat.ne_of_lt (Nat.lt_of_lt_of_le (Nat.lt_of_lt_of_le A1018.lt (Nat.le_refl _)) f1032))) nin0)).keep K1060 (ninS (Ne.symm (Nat.ne_of_lt (Nat.lt_of_lt_of_le (Nat.lt_of_lt_of_le A1018.lt (Nat.le_refl _)) f1032))) nin0)).keep K1066 (ninS (Ne.symm (Nat.ne_of_lt (Nat.lt_of_lt_of_le (Nat.lt_of_lt_of_le A1018.lt (Nat.le_refl _)) f1032))) nin0)).keep K1072 (ninS (Ne.symm (Nat.ne_of_lt (Nat.lt_of_lt_of_le (Nat.lt_of_lt_of_le A1018.lt (Nat.le_refl _)) f1032))) nin0))
        have f1084 := (((((((f1035.keep K1036 all0).keep K1042 (allS g_b1018 all0)).keep K1048 (allS g_b1018 all0)).keep K1054 (allS g_b1018 all0)).keep K1060 (allS g_b1018 all0)).keep K1066 (allS g_b1018 all0)).keep K1072 (allS g_b1018 all0))
        have f1085 := (((((((((Yd.ext E1018).keep K1022 (ninS (Nat.ne_of_lt (Nat.lt_of_lt_of_le (Nat.lt_of_lt_of_le Yd.lt (Nat.le_refl _)) (Nat.le_of_eq g1018.symm))) nin0)).keep K1036 nin0).keep K1042 (ninS (Nat.ne_of_lt (Nat.lt_of_lt_of_le (Nat.lt_of_lt_of_le Yd.lt (Nat.le_refl _)) (Nat.le_of_eq g1018.symm))) nin0)).keep K1048 (ninS (Nat.ne_of_lt (Nat.lt_of_lt_of_le (Nat.lt_of_lt_of_le Yd.lt (Nat.le_refl _)) (Nat.le_of_eq g1018.symm))) nin0)).keep K1054 (ninS (Nat.ne_of_lt (Nat.lt_of_lt_of_le (Nat.lt_of_lt_of_le Yd.lt (Nat.le_refl _)) (Nat.le_of_eq g1018.symm))) nin0)).keep K1060 (ninS (Nat.ne_of_lt (Nat.lt_of_lt_of_le (Nat.lt_of_lt_of_le Yd.lt (Nat.le_refl _)) (Nat.le_of_eq g1018.symm))) nin0)).keep K1066 (ninS (Nat.ne_of_lt (Nat.lt_of_lt_of_le (Nat.lt_of_lt_of_le Yd.lt (Nat.le_refl _)) (Nat.le_of_eq g1018.symm))) nin0)).keep K1072 (ninS (Nat.ne_of_lt (Nat.lt_of_lt_of_le (Nat.lt_of_lt_of_le Yd.lt (Nat.le_refl _)) (Nat.le_of_eq g1018.symm))) nin0))
        refine own_callV X1072 hx hZ hown (hw _ (List.mem_of_getElem? (i := 54) rfl)) (hw _ (List.mem_of_getElem? (i := 55) rfl)) (notFace_of_selects (args := #[]) (mvT hZ (hw _ (List.mem_of_getElem? (i := 57) rfl)))) (hw _ (List.mem_of_getElem? (i := 57) rfl)) (hw _ (List.mem_of_getElem? (i := 56) rfl)) (hw _ (List.mem_of_getElem? (i := 58) rfl)) (hw _ (List.mem_of_getElem? (i := 2) rfl)) (by decide) (a := b1018) f1073 (own_clear0 l Z a0 hw [] (b1018) (bm1022) (bt1022) (kt1022) (zd) ((0 : Int32)) (.null) T1072.heap n0 (Nat.le_trans Z0 (Nat.le_trans (Nat.le_trans (Nat.le_trans (Nat.le_trans (Nat.le_trans (Nat.le_trans (Nat.le_trans (Nat.le_trans E1018.1 K1022.1) K1036.1) K1042.1) K1048.1) K1054.1) K1060.1) K1066.1) K1072.1)) f1073 f1076 f1074 f1077 g_b1018 rfl (by first | assumption | decide) f1078 f1079 f1080 f1081 f1082 f1083 (Nat.le_trans (Nat.le_trans Z0 E1018.1) f1027) (Nat.le_trans (Nat.le_trans Z0 E1018.1) f1032) f1084 S_dflt f1085) 0 (by decide) (by decide) (by decide) (by decide) rfl (g := (mkF m 120 #[iv u1, iv u2, iv u3, iv (3 : Int32), iv (3 : Int32), iv (1 : Int32), rv b1018, rv bo1036, .unset] [(.ref b1018)])) rfl (by rw [hml]; rfl) (argsL := []) (rest := []) (lenOf own_pd14 rfl) rfl (by show 2 * 0 + _ ≤ _; exact Nat.le_of_eq rfl) (hb hby at_120) ?_
        intro v1086 T1086 L1086 X1086 q1086
        obtain ⟨bl1086, rfl, N1086q, K1086, f1087, f1088⟩ := q1086
        have N1086 := Fr.app N1072 N1086q
        show own_Goes p e below s _ _ _ T1086 (mkF m 123 #[iv u1, iv u2, iv u3, iv (3 : Int32), iv (3 : Int32), iv (1 : Int32), rv b1018, rv bo1036, .unset] [(.ref bl1086)])
        refine own_by (g' := (mkF m 145 #[iv u1, iv u2, iv u3, iv (3 : Int32), iv (3 : Int32), iv (1 : Int32), rv b1018, rv bo1036, iv (0 : Int32)] [(.ref b1018)])) (fun t k => XS.pop X1086.here hx rfl (hb hby at_123) rfl rfl (XS.iload X1086.here hx rfl (hb hby at_124) rfl (XS.ifYes X1086.here hx rfl (pc0 := 126) (pc' := 140) rfl (hb hby at_126) rfl ((if0 _ _).trans (feq (by decide : ¬ ((1 : Int32) = (0 : Int32)))).2) (by decide) (by decide) (XS.iconst X1086.here hx rfl (hb hby at_140) (XS.istore X1086.here hx rfl (hb hby at_141) rfl (l' := #[iv u1, iv u2, iv u3, iv (3 : Int32), iv (3 : Int32), iv (1 : Int32), rv b1018, rv bo1036, iv (0 : Int32)]) rfl (XS.aload X1086.here hx rfl (hb hby at_143) rfl rfl k)))))) ?_
        refine own_callV X1086 hx hZ hown (hw _ (List.mem_of_getElem? (i := 40) rfl)) (hw _ (List.mem_of_getElem? (i := 41) rfl)) (notFace_of_selects (args := #[]) (mvT hZ (hw _ (List.mem_of_getElem? (i := 43) rfl)))) (hw _ (List.mem_of_getElem? (i := 43) rfl)) (hw _ (List.mem_of_getElem? (i := 42) rfl)) (hw _ (List.mem_of_getElem? (i := 44) rfl)) (hw _ (List.mem_of_getElem? (i := 2) rfl)) (by decide) (a := b1018) f1087 (own_ic0 l Z a0 hw [] (b1018) ((0 : Int32)) T1086.heap n0 (Nat.le_trans Z0 (Nat.le_trans (Nat.le_trans (Nat.le_trans (Nat.le_trans (Nat.le_trans (Nat.le_trans (Nat.le_trans (Nat.le_trans (Nat.le_trans E1018.1 K1022.1) K1036.1) K1042.1) K1048.1) K1054.1) K1060.1) K1066.1) K1072.1) K1086.1)) f1088 (by first | assumption | decide)) 0 (by decide) (by decide) (by decide) (by decide) rfl (g := (mkF m 145 #[iv u1, iv u2, iv u3, iv (3 : Int32), iv (3 : Int32), iv (1 : Int32), rv b1018, rv bo1036, iv (0 : Int32)] [(.ref b1018)])) rfl (by rw [hml]; rfl) (argsL := []) (rest := []) (lenOf own_pd13 rfl) rfl (by show 2 * 0 + _ ≤ _; exact Nat.le_of_eq rfl) (hb hby at_145) ?_
        intro v1089 T1089 L1089 X1089 q1089
        obtain ⟨rfl, N1089q, e1089⟩ := q1089
        have N1089 := Fr.app N1086 N1089q
        show own_Goes p e below s _ _ _ T1089 (mkF m 148 #[iv u1, iv u2, iv u3, iv (3 : Int32), iv (3 : Int32), iv (1 : Int32), rv b1018, rv bo1036, iv (0 : Int32)] [(.int (0 : Int32))])
        refine own_by (g' := (mkF m 158 #[iv u1, iv u2, iv u3, iv (3 : Int32), iv (3 : Int32), iv (1 : Int32), rv b1018, rv bo1036, iv (0 : Int32)] [(.int (1 : Int32))])) (fun t k => XS.iload X1089.here hx rfl (hb hby at_148) rfl (XS.icmpNo X1089.here hx rfl (hb hby at_150) rfl (teq (by decide : (0 : Int32) = (0 : Int32))).2 (XS.iconst X1089.here hx rfl (hb hby at_153) (XS.goto X1089.here hx rfl (pc0 := 154) (pc' := 158) rfl (hb hby at_154) (by decide) (by decide) k)))) ?_
        refine own_retN X1089 hx hlk hret (t := .boolean) (by simp) (hb hby at_158) (by decide) (by decide) ?_
        rw [e1089]
        exact ⟨rfl, N1089, (((((((((((Keep.refl h0 []).ext E1018).trans K1022 (allS (Or.inr sz_b1018) all0)).trans K1036 all0).trans K1042 (allS (Or.inr sz_b1018) all0)).trans K1048 (allS (Or.inr sz_b1018) all0)).trans K1054 (allS (Or.inr sz_b1018) all0)).trans K1060 (allS (Or.inr sz_b1018) all0)).trans K1066 (allS (Or.inr sz_b1018) all0)).trans K1072 (allS (Or.inr sz_b1018) all0)).trans K1086 (allS (Or.inr sz_b1018) (allS (Or.inr (Nat.le_trans E1018.1 f1027)) (allS (Or.inr (Nat.le_trans E1018.1 f1032)) all0))))⟩
set_option maxRecDepth 65536 in
set_option maxHeartbeats 40000000 in
theorem comes_1 {Post : Tables → Env → Array Value → State → Outcome → State → Prop} (hpost : ∀ tb e args s v u, (limb_1_1.after args s (.returned v) u = true ∧ limb_1_2.after args s (.returned v) u = true ∧ True) → FrameEnd s (.returned v) u (Jvm.fieldLocs frame_1_writes args s ++ Jvm.arrayLocs frame_1_arrays args s ++ Jvm.staticLocs frame_1_statics s) 24 256 → Post tb e args s (.returned v) u) :
    ArmFor flags0 classFile x code maxLocals ret World_1 tables_1 room_1 Calls_1 rest_1 Pre_1 Post := by
  intro l hfl _ _ p e ha hc hk s m args below hf hA hF happ hP
  obtain ⟨hcalls, hrest, hpre⟩ := hP
  obtain ⟨-, -, -, hnamed, -, -, -, hat⟩ := (Spec.applies_iff hf).mp happ
  obtain ⟨hg, hn⟩ := and_e (Cond.before_iff.mp (show (Jvm.Cond.and given_1 narrow_1).before args s = true from hpre))
  obtain ⟨ga1, gb1⟩ := and_e hg
  obtain ⟨ga2, gb2⟩ := and_e gb1
  obtain ⟨ga3, gb3⟩ := and_e gb2
  obtain ⟨w0, w1, w2, rfl⟩ : ∃ w0 w1 w2 : Value, args = #[w0, w1, w2] := by
    have hs : args.size = 3 := by simpa [Cond.value, given_1] using ga1
    obtain ⟨L⟩ := args
    match L, hs with
    | [w0, w1, w2], _ => exact ⟨w0, w1, w2, rfl⟩
  have hw := fun d (hd : d ∈ tables_1) => atoms_spec (ws := Jvm.Cond.code x code maxLocals ret :: tables_1) hat d (List.mem_cons_of_mem _ hd)
  have hfit : Fit s := fun {y c} hc i hi => by
    obtain ⟨ha, rfl⟩ := Array.getElem?_eq_some_iff.mp hc
    have q := List.all_eq_true.mp ((Array.all_eq_true_iff_forall_mem.mp hF) _ (Array.getElem_mem ha)) i (List.mem_range.mpr hi)
    simpa [Array.getElem?_eq_getElem hi] using q
  obtain ⟨hsets, hown0⟩ := atoms_of _ (rest_1_c_eq ▸ (show rest_1_c.before _ s = true from hrest))
  have hr0 := Cond.before_iff.mp hown0
  obtain ⟨i0, ei0⟩ := is_v ga2
  obtain rfl : w0 = (.int i0) := Option.some.inj ei0
  obtain ⟨i1, ei1⟩ := is_v ga3
  obtain rfl : w1 = (.int i1) := Option.some.inj ei1
  obtain ⟨i2, ei2⟩ := is_v gb3
  obtain rfl : w2 = (.int i2) := Option.some.inj ei2
  obtain ⟨zc, St_high, St_cache, hIC0⟩ := own_icache (hsets _ (List.mem_of_getElem? (i := 1) rfl)) (hw _ (List.mem_of_getElem? (i := 38) rfl)) (hsets _ (List.mem_of_getElem? (i := 2) rfl)) (hsets _ (List.mem_of_getElem? (i := 3) rfl)) (hsets _ (List.mem_of_getElem? (i := 4) rfl)) (hsets _ (List.mem_of_getElem? (i := 6) rfl)) (hsets _ (List.mem_of_getElem? (i := 7) rfl))
  obtain ⟨zd, St_dflt, Yd0⟩ := own_arz0 (hw _ (List.mem_of_getElem? (i := 61) rfl)) (hsets _ (List.mem_of_getElem? (i := 10) rfl)) (hsets _ (List.mem_of_getElem? (i := 14) rfl)) (hsets _ (List.mem_of_getElem? (i := 16) rfl))
  obtain ⟨n, o, h1, h2, h3, _, L, rfl, ⟨rfl, N, -⟩, hq⟩ := own_law l s _ hw tables_1 i0 i1 i2 (zc) (zd) s.heap s.heap.size (Nat.le_refl _) (Old.start s) St_high St_cache hIC0 St_dflt Yd0 p e ha hc hk s m _ below hf ((Spec.applies_iff_loose hf).mp happ).1 ⟨rfl, State.Warmed39.refl s, rfl⟩ trivial
  exact ⟨n, _, h1, h2, h3, hpost _ _ _ _ _ _ ⟨Cond.after_iff.mpr rfl, Cond.after_iff.mpr (eq_i res_at (Term.int_eval (1)) rfl), trivial⟩ ⟨hq.1, hq.2.1, (hq.2.2.sift fun y hy => Or.inr (N y hy)).mono (by decide) (by decide)⟩⟩
theorem main_1_1 : Claimed_1_1 := comes_1 fun _ _ _ _ _ _ h hF => ⟨h.1, hF⟩
theorem main_1_2 : Claimed_1_2 := comes_1 fun _ _ _ _ _ _ h hF => ⟨h.2.1, hF⟩
end Jvm.Pilot.@@N@@
namespace Jvm.Pilot.@@N@@
open Jvm Jvm.ClassFile Sem Op Lib Jvm.Free Jvm.Stand Jvm.Pilot.@@N@@.Jvm.D
/-! MADE BY PROGRAM (witnessworld.py) out of the Statement's table words and the real class files: 30 classes; the members and pool entries that the words name. The judged class is class 1, her method 1. -/
namespace start1
open Jvm.ClassFile
def u (s : String) : CpInfo := .utf8 (stringToUtf16 s)
/-- a pool by its gaps: so many unusable entries, then the entry; so many at the end -/
def gap : Nat → List CpInfo → List CpInfo
  | 0, r => r
  | n + 1, r => .unusable :: gap n r
def poolList (es : List (Nat × CpInfo)) (last : Nat) : List CpInfo := es.foldr (fun e r => gap e.1 (e.2 :: r)) (gap last [])
def pool (es : List (Nat × CpInfo)) (last : Nat) : Array CpInfo := ⟨poolList es last⟩
def fileOf (pool : Array CpInfo) (this : Nat) (attrs : Array Attribute := #[]) (ms : Array MethodInfo := #[]) (fl : Nat := 33) (sup : Nat := 0) (ifs : Array Nat := #[]) (fds : Array FieldInfo := #[]) : ClassFile where
  minorVersion := 0
  majorVersion := 65
  constantPool := pool
  accessFlags := fl
  thisClass := this
  superClass := sup
  interfaces := ifs
  fields := fds
  methods := ms
  attributes := attrs
def plain (name : String) (sup : Option ClassId) : Class where
  name := name
  kind := .ordinary
  loader := none
  accessFlags := 33
  super := sup
  interfaces := #[]
  cf := none
  fields := #[]
  methods := #[]
  instanceTypes := #[]
  staticTypes := #[]
  resolved := #[]
  callSites := []
  init := .initialized
  statics := none
  mirror := none

def pool0 : Array CpInfo := pool [(5, u "<init>"), (0, u "()V"), (1, .class_ 10), (1, u "java/lang/Object")] 113

def k0c0 : Code := { maxStack := 0, maxLocals := 1, code := object_method_1_code, exceptionTable := #[], attributes := #[] }
def k0m0 : Method := { name := "<init>", desc := "()V", sig := { parameters := [], returnType := none }, accessFlags := 1, code := some k0c0 }
/-- java/lang/Object -/
def k0 : Class := { plain "java/lang/Object" none with
  accessFlags := 33
  interfaces := #[]
  cf := some (fileOf pool0 8 #[] #[{ accessFlags := 1, nameIndex := 5, descriptorIndex := 6, attributes := #[] }] 33 0 #[] #[])
  fields := #[]
  methods := #[k0m0]
  instanceTypes := #[]
  staticTypes := #[]
  resolved := Array.replicate 124 none
  statics := none }

def pool1 : Array CpInfo := pool [(2, .class_ 4), (0, .nameAndType 5 6), (0, u "java/lang/Object"), (0, u "<init>"), (0, u "()V"), (0, .class_ 8), (0, u "com/example/purlin/purlin/framework/ServiceUse"), (0, .methodref 7 3), (0, .methodref 11 12), (0, .class_ 13), (0, .nameAndType 14 15), (0, u "java/lang/Integer"), (0, u "valueOf"), (0, u "(I)Ljava/lang/Integer;"), (0, .methodref 7 17), (0, .nameAndType 18 19), (0, u "use"), (0, u "(Ljava/lang/Object;)V"), (0, .methodref 7 21), (0, .nameAndType 22 23), (0, u "unuse"), (0, u "()Ljava/lang/Object;"), (0, .methodref 7 25), (0, .nameAndType 26 27), (0, u "clear"), (0, u "()Ljava/util/List;"), (0, .methodref 7 29), (0, .nameAndType 30 31), (0, u "isCounted"), (0, u "()Z"), (0, .class_ 33), (0, u "com/example/purlin/purlin/framework/ServiceUseIsCountedPinLaw"), (2, u "law"), (0, u "(III)Z")] 3

def k1m0 : Method := { name := "<init>", desc := "()V", sig := { parameters := [], returnType := none }, accessFlags := 1, code := none }
def k1c1 : Code := { maxStack := 3, maxLocals := 9, code := code, exceptionTable := #[], attributes := #[] }
def k1m1 : Method := { name := "law", desc := "(III)Z", sig := { parameters := [.int, .int, .int], returnType := some .boolean }, accessFlags := 9, code := some k1c1 }
/-- com/example/purlin/purlin/framework/ServiceUseIsCountedPinLaw -/
def k1 : Class := { plain "com/example/purlin/purlin/framework/ServiceUseIsCountedPinLaw" (some 0) with
  accessFlags := 49
  interfaces := #[]
  cf := some (fileOf pool1 32 #[] #[{ accessFlags := 1, nameIndex := 5, descriptorIndex := 6, attributes := #[] }, { accessFlags := 9, nameIndex := 36, descriptorIndex := 37, attributes := #[] }] 49 2 #[] #[])
  fields := #[]
  methods := #[k1m0, k1m1]
  instanceTypes := #[]
  staticTypes := #[]
  resolved := Array.replicate 41 none
  statics := none }

def pool2 : Array CpInfo := pool [(1, .methodref 2 3), (0, .class_ 4), (0, .nameAndType 5 6), (0, u "java/lang/Object"), (0, u "<init>"), (0, u "()V"), (0, .class_ 8), (0, u "java/util/IdentityHashMap"), (0, .methodref 7 3), (0, .fieldref 11 12), (0, .class_ 13), (0, .nameAndType 14 15), (0, u "com/example/purlin/purlin/framework/ServiceUse"), (0, u "prototypes"), (0, u "Ljava/util/Map;"), (0, .fieldref 11 17), (0, .nameAndType 18 19), (0, u "object"), (0, u "Ljava/lang/Object;"), (2, u "producer"), (0, u "Ljava/lang/Thread;"), (0, .fieldref 11 25), (0, .nameAndType 26 27), (0, u "count"), (0, u "I"), (11, .class_ 41), (1, u "java/util/Map"), (5, u "(Ljava/lang/Object;)Z"), (18, u "()Z"), (0, .class_ 68), (0, u "java/util/ArrayList"), (0, .methodref 67 3), (0, .interfaceMethodref 71 72), (0, .class_ 73), (0, .nameAndType 74 47), (0, u "java/util/List"), (0, u "add"), (0, .interfaceMethodref 39 76), (0, .nameAndType 77 78), (0, u "keySet"), (0, u "()Ljava/util/Set;"), (0, .interfaceMethodref 71 80), (0, .nameAndType 81 82), (0, u "addAll"), (0, u "(Ljava/util/Collection;)Z"), (0, .interfaceMethodref 39 84), (0, .nameAndType 85 6), (0, u "clear"), (5, u "()Ljava/lang/Object;"), (4, u "use"), (0, u "(Ljava/lang/Object;)V"), (2, u "unuse"), (0, u "isCounted"), (6, u "()Ljava/util/List;")] 26

def k2c0 : Code := { maxStack := 3, maxLocals := 1, code := prog_4_method_1_code, exceptionTable := #[], attributes := #[] }
def k2m0 : Method := { name := "<init>", desc := "()V", sig := { parameters := [], returnType := none }, accessFlags := 0, code := some k2c0 }
def k2c1 : Code := { maxStack := 3, maxLocals := 2, code := prog_4_method_5_code, exceptionTable := #[], attributes := #[] }
def k2m1 : Method := { name := "use", desc := "(Ljava/lang/Object;)V", sig := { parameters := [(.object "java/lang/Object")], returnType := none }, accessFlags := 0, code := some k2c1 }
def k2c2 : Code := { maxStack := 3, maxLocals := 2, code := prog_4_method_6_code, exceptionTable := #[], attributes := #[] }
def k2m2 : Method := { name := "unuse", desc := "()Ljava/lang/Object;", sig := { parameters := [], returnType := some (.object "java/lang/Object") }, accessFlags := 0, code := some k2c2 }
def k2c3 : Code := { maxStack := 1, maxLocals := 1, code := prog_4_method_7_code, exceptionTable := #[], attributes := #[] }
def k2m3 : Method := { name := "isCounted", desc := "()Z", sig := { parameters := [], returnType := some .boolean }, accessFlags := 0, code := some k2c3 }
def k2c4 : Code := { maxStack := 2, maxLocals := 2, code := prog_4_method_13_code, exceptionTable := #[], attributes := #[] }
def k2m4 : Method := { name := "clear", desc := "()Ljava/util/List;", sig := { parameters := [], returnType := some (.object "java/util/List") }, accessFlags := 0, code := some k2c4 }
/-- com/example/purlin/purlin/framework/ServiceUse -/
def k2 : Class := { plain "com/example/purlin/purlin/framework/ServiceUse" (some 0) with
  accessFlags := 48
  interfaces := #[]
  cf := some (fileOf pool2 11 #[] #[{ accessFlags := 0, nameIndex := 5, descriptorIndex := 6, attributes := #[] }, { accessFlags := 0, nameIndex := 96, descriptorIndex := 97, attributes := #[] }, { accessFlags := 0, nameIndex := 100, descriptorIndex := 91, attributes := #[] }, { accessFlags := 0, nameIndex := 101, descriptorIndex := 66, attributes := #[] }, { accessFlags := 0, nameIndex := 85, descriptorIndex := 108, attributes := #[] }] 48 2 #[] #[{ accessFlags := 2, nameIndex := 26, descriptorIndex := 27, attributes := #[] }, { accessFlags := 2, nameIndex := 18, descriptorIndex := 19, attributes := #[] }, { accessFlags := 2, nameIndex := 22, descriptorIndex := 23, attributes := #[] }, { accessFlags := 18, nameIndex := 14, descriptorIndex := 15, attributes := #[] }])
  fields := #[{ name := "count", type := .int, accessFlags := 2, slot := 0, constantValue := 0 }, { name := "object", type := (.object "java/lang/Object"), accessFlags := 2, slot := 1, constantValue := 0 }, { name := "producer", type := (.object "java/lang/Thread"), accessFlags := 2, slot := 2, constantValue := 0 }, { name := "prototypes", type := (.object "java/util/Map"), accessFlags := 18, slot := 3, constantValue := 0 }]
  methods := #[k2m0, k2m1, k2m2, k2m3, k2m4]
  instanceTypes := #[.int, (.object "java/lang/Object"), (.object "java/lang/Thread"), (.object "java/util/Map")]
  staticTypes := #[]
  resolved := Array.replicate 135 none
  statics := none }

def pool3 : Array CpInfo := pool [(2, .class_ 4), (1, u "java/util/Map"), (14, u "()Ljava/util/Set;"), (16, .class_ 37), (0, u "java/util/Map$Entry"), (55, .class_ 94), (0, u "java/lang/Object"), (34, u "clear"), (0, u "()V"), (0, u "keySet")] 131

def k3m0 : Method := { name := "clear", desc := "()V", sig := { parameters := [], returnType := none }, accessFlags := 1025, code := none }
def k3m1 : Method := { name := "keySet", desc := "()Ljava/util/Set;", sig := { parameters := [], returnType := some (.object "java/util/Set") }, accessFlags := 1025, code := none }
/-- java/util/Map -/
def k3 : Class := { plain "java/util/Map" (some 0) with
  accessFlags := 1537
  interfaces := #[]
  cf := some (fileOf pool3 2 #[.nestMembers #[36]] #[{ accessFlags := 1025, nameIndex := 129, descriptorIndex := 130, attributes := #[] }, { accessFlags := 1025, nameIndex := 131, descriptorIndex := 19, attributes := #[] }] 1537 93 #[] #[])
  fields := #[]
  methods := #[k3m0, k3m1]
  instanceTypes := #[]
  staticTypes := #[]
  resolved := Array.replicate 263 none
  statics := none }

def pool4 : Array CpInfo := pool [(1, .methodref 2 3), (0, .class_ 4), (0, .nameAndType 5 6), (0, u "java/lang/Object"), (0, u "<init>"), (0, u "()V"), (1, .class_ 10), (1, u "java/util/AbstractMap"), (42, .class_ 54), (0, u "java/util/Map"), (9, u "keySet"), (0, u "Ljava/util/Set;"), (0, .class_ 67), (0, u "java/util/AbstractMap$1"), (5, u "values"), (0, u "Ljava/util/Collection;"), (0, .class_ 76), (0, u "java/util/AbstractMap$2"), (104, .class_ 182), (0, u "java/util/AbstractMap$ViewCollection"), (0, .class_ 184), (0, u "java/util/AbstractMap$SimpleImmutableEntry"), (0, .class_ 186), (0, u "java/util/AbstractMap$SimpleEntry"), (0, .class_ 188), (0, u "java/util/AbstractMap$2$1"), (0, .class_ 190), (0, u "java/util/AbstractMap$1$1")] 5

def k4c0 : Code := { maxStack := 1, maxLocals := 1, code := jdk_71_method_1_code, exceptionTable := #[], attributes := #[] }
def k4m0 : Method := { name := "<init>", desc := "()V", sig := { parameters := [], returnType := none }, accessFlags := 4, code := some k4c0 }
/-- java/util/AbstractMap -/
def k4 : Class := { plain "java/util/AbstractMap" (some 0) with
  accessFlags := 1057
  interfaces := #[3]
  cf := some (fileOf pool4 8 #[.nestMembers #[181, 183, 185, 75, 187, 66, 189]] #[{ accessFlags := 4, nameIndex := 5, descriptorIndex := 6, attributes := #[] }] 1057 2 #[53] #[{ accessFlags := 128, nameIndex := 64, descriptorIndex := 65, attributes := #[] }, { accessFlags := 128, nameIndex := 73, descriptorIndex := 74, attributes := #[] }])
  fields := #[{ name := "keySet", type := (.object "java/util/Set"), accessFlags := 128, slot := 0, constantValue := 0 }, { name := "values", type := (.object "java/util/Collection"), accessFlags := 128, slot := 1, constantValue := 0 }]
  methods := #[k4m0]
  instanceTypes := #[(.object "java/util/Set"), (.object "java/util/Collection")]
  staticTypes := #[]
  resolved := Array.replicate 196 none
  statics := none }

def pool5 : Array CpInfo := pool [(1, .class_ 2), (0, u "java/io/Serializable"), (0, .class_ 4), (0, u "java/lang/Object")] 2

/-- java/io/Serializable -/
def k5 : Class := { plain "java/io/Serializable" (some 0) with
  accessFlags := 1537
  interfaces := #[]
  cf := some (fileOf pool5 1 #[] #[] 1537 3 #[] #[])
  fields := #[]
  methods := #[]
  instanceTypes := #[]
  staticTypes := #[]
  resolved := Array.replicate 7 none
  statics := none }

def pool6 : Array CpInfo := pool [(1, .class_ 2), (0, u "java/lang/Cloneable"), (0, .class_ 4), (0, u "java/lang/Object")] 2

/-- java/lang/Cloneable -/
def k6 : Class := { plain "java/lang/Cloneable" (some 0) with
  accessFlags := 1537
  interfaces := #[]
  cf := some (fileOf pool6 1 #[] #[] 1537 3 #[] #[])
  fields := #[]
  methods := #[]
  instanceTypes := #[]
  staticTypes := #[]
  resolved := Array.replicate 7 none
  statics := none }

def pool7 : Array CpInfo := pool [(2, .class_ 4), (1, u "java/util/IdentityHashMap"), (0, u "NULL_KEY"), (0, u "Ljava/lang/Object;"), (0, .methodref 8 9), (0, .class_ 10), (0, .nameAndType 11 12), (0, u "java/util/AbstractMap"), (0, u "<init>"), (0, u "()V"), (0, .methodref 2 14), (0, .nameAndType 15 16), (0, u "init"), (0, u "(I)V"), (32, .class_ 50), (0, u "java/lang/Object"), (0, .fieldref 2 52), (0, .nameAndType 53 54), (0, u "table"), (0, u "[Ljava/lang/Object;"), (1, .class_ 58), (1, u "java/util/Map"), (0, u "size"), (9, .fieldref 2 70), (0, .nameAndType 59 71), (0, u "I"), (22, .fieldref 2 95), (0, .nameAndType 96 71), (0, u "modCount"), (9, u "entrySet"), (0, u "()Ljava/util/Set;"), (49, u "Ljava/util/Set;"), (9, .fieldref 2 168), (0, .nameAndType 169 157), (0, u "keySet"), (0, .class_ 171), (0, u "java/util/IdentityHashMap$KeySet"), (0, .methodref 170 173), (0, .nameAndType 11 174), (0, u "(Ljava/util/IdentityHashMap;)V"), (4, .class_ 180), (0, u "java/util/IdentityHashMap$Values"), (1, .class_ 183), (0, u "java/util/IdentityHashMap$EntrySet"), (69, .class_ 254), (0, u "java/io/Serializable"), (0, .class_ 256), (0, u "java/lang/Cloneable"), (0, u "DEFAULT_CAPACITY"), (2, u "MINIMUM_CAPACITY"), (1, u "MAXIMUM_CAPACITY"), (2, u "serialVersionUID"), (0, u "J"), (49, u "clear"), (52, .class_ 370), (0, u "java/util/IdentityHashMap$EntrySpliterator"), (0, .class_ 372), (0, u "java/util/IdentityHashMap$ValueSpliterator"), (0, .class_ 374), (0, u "java/util/IdentityHashMap$KeySpliterator"), (0, .class_ 376), (0, u "java/util/IdentityHashMap$IdentityHashMapSpliterator"), (0, .class_ 378), (0, u "java/util/IdentityHashMap$EntryIterator"), (0, .class_ 380), (0, u "java/util/IdentityHashMap$EntryIterator$Entry"), (0, .class_ 382), (0, u "java/util/IdentityHashMap$ValueIterator"), (0, .class_ 384), (0, u "java/util/IdentityHashMap$KeyIterator"), (0, .class_ 386), (0, u "java/util/IdentityHashMap$IdentityHashMapIterator")] 16

def k7c0 : Code := { maxStack := 2, maxLocals := 1, code := jdk_2581_method_3_code, exceptionTable := #[], attributes := #[] }
def k7m0 : Method := { name := "<init>", desc := "()V", sig := { parameters := [], returnType := none }, accessFlags := 1, code := some k7c0 }
def k7c1 : Code := { maxStack := 3, maxLocals := 2, code := jdk_2581_method_6_code, exceptionTable := #[], attributes := #[] }
def k7m1 : Method := { name := "init", desc := "(I)V", sig := { parameters := [.int], returnType := none }, accessFlags := 2, code := some k7c1 }
def k7c2 : Code := { maxStack := 3, maxLocals := 3, code := jdk_2581_method_22_code, exceptionTable := #[], attributes := #[] }
def k7m2 : Method := { name := "clear", desc := "()V", sig := { parameters := [], returnType := none }, accessFlags := 1, code := some k7c2 }
def k7c3 : Code := { maxStack := 3, maxLocals := 2, code := jdk_2581_method_26_code, exceptionTable := #[], attributes := #[] }
def k7m3 : Method := { name := "keySet", desc := "()Ljava/util/Set;", sig := { parameters := [], returnType := some (.object "java/util/Set") }, accessFlags := 1, code := some k7c3 }
/-- java/util/IdentityHashMap -/
def k7 : Class := { plain "java/util/IdentityHashMap" (some 4) with
  accessFlags := 33
  interfaces := #[3, 5, 6]
  cf := some (fileOf pool7 2 #[.nestMembers #[369, 371, 373, 375, 182, 179, 170, 377, 379, 381, 383, 385]] #[{ accessFlags := 1, nameIndex := 11, descriptorIndex := 12, attributes := #[] }, { accessFlags := 2, nameIndex := 15, descriptorIndex := 16, attributes := #[] }, { accessFlags := 1, nameIndex := 316, descriptorIndex := 12, attributes := #[] }, { accessFlags := 1, nameIndex := 169, descriptorIndex := 107, attributes := #[] }] 33 8 #[56, 253, 255] #[{ accessFlags := 26, nameIndex := 257, descriptorIndex := 71, attributes := #[] }, { accessFlags := 26, nameIndex := 260, descriptorIndex := 71, attributes := #[] }, { accessFlags := 26, nameIndex := 262, descriptorIndex := 71, attributes := #[] }, { accessFlags := 128, nameIndex := 53, descriptorIndex := 54, attributes := #[] }, { accessFlags := 0, nameIndex := 59, descriptorIndex := 71, attributes := #[] }, { accessFlags := 128, nameIndex := 96, descriptorIndex := 71, attributes := #[] }, { accessFlags := 24, nameIndex := 5, descriptorIndex := 6, attributes := #[] }, { accessFlags := 130, nameIndex := 106, descriptorIndex := 157, attributes := #[] }, { accessFlags := 26, nameIndex := 265, descriptorIndex := 266, attributes := #[] }])
  fields := #[{ name := "DEFAULT_CAPACITY", type := .int, accessFlags := 26, slot := 0, constantValue := 0 }, { name := "MINIMUM_CAPACITY", type := .int, accessFlags := 26, slot := 1, constantValue := 0 }, { name := "MAXIMUM_CAPACITY", type := .int, accessFlags := 26, slot := 2, constantValue := 0 }, { name := "table", type := (.array (.object "java/lang/Object")), accessFlags := 128, slot := 2, constantValue := 0 }, { name := "size", type := .int, accessFlags := 0, slot := 3, constantValue := 0 }, { name := "modCount", type := .int, accessFlags := 128, slot := 4, constantValue := 0 }, { name := "NULL_KEY", type := (.object "java/lang/Object"), accessFlags := 24, slot := 3, constantValue := 0 }, { name := "entrySet", type := (.object "java/util/Set"), accessFlags := 130, slot := 5, constantValue := 0 }, { name := "serialVersionUID", type := .long, accessFlags := 26, slot := 4, constantValue := 0 }]
  methods := #[k7m0, k7m1, k7m2, k7m3]
  instanceTypes := #[(.object "java/util/Set"), (.object "java/util/Collection"), (.array (.object "java/lang/Object")), .int, .int, (.object "java/util/Set")]
  staticTypes := #[.int, .int, .int, (.object "java/lang/Object"), .long]
  resolved := ((Array.replicate 403 none).setIfInBounds 172 (some (.method ⟨25, 0⟩))).setIfInBounds 170 (some (.cls 25))
  statics := none }

def pool8 : Array CpInfo := pool [(1, .methodref 2 3), (0, .class_ 4), (0, .nameAndType 5 6), (0, u "java/lang/Object"), (0, u "<init>"), (0, u "()V"), (1, .class_ 10), (1, u "java/lang/Number"), (2, .class_ 14), (0, u "java/io/Serializable"), (0, u "serialVersionUID"), (0, u "J")] 20

def k8c0 : Code := { maxStack := 1, maxLocals := 1, code := jdk_18_method_1_code, exceptionTable := #[], attributes := #[] }
def k8m0 : Method := { name := "<init>", desc := "()V", sig := { parameters := [], returnType := none }, accessFlags := 1, code := some k8c0 }
/-- java/lang/Number -/
def k8 : Class := { plain "java/lang/Number" (some 0) with
  accessFlags := 1057
  interfaces := #[5]
  cf := some (fileOf pool8 8 #[] #[{ accessFlags := 1, nameIndex := 5, descriptorIndex := 6, attributes := #[] }] 1057 2 #[13] #[{ accessFlags := 26, nameIndex := 15, descriptorIndex := 16, attributes := #[] }])
  fields := #[{ name := "serialVersionUID", type := .long, accessFlags := 26, slot := 0, constantValue := 0 }]
  methods := #[k8m0]
  instanceTypes := #[]
  staticTypes := #[.long]
  resolved := Array.replicate 37 none
  statics := none }

def pool9 : Array CpInfo := pool [(1, .class_ 2), (0, u "java/lang/Comparable"), (0, .class_ 4), (0, u "java/lang/Object")] 7

/-- java/lang/Comparable -/
def k9 : Class := { plain "java/lang/Comparable" (some 0) with
  accessFlags := 1537
  interfaces := #[]
  cf := some (fileOf pool9 1 #[] #[] 1537 3 #[] #[])
  fields := #[]
  methods := #[]
  instanceTypes := #[]
  staticTypes := #[]
  resolved := Array.replicate 12 none
  statics := none }

def pool10 : Array CpInfo := pool [(1, .class_ 2), (0, u "java/lang/constant/Constable"), (0, .class_ 4), (0, u "java/lang/Object")] 6

/-- java/lang/constant/Constable -/
def k10 : Class := { plain "java/lang/constant/Constable" (some 0) with
  accessFlags := 1537
  interfaces := #[]
  cf := some (fileOf pool10 1 #[] #[] 1537 3 #[] #[])
  fields := #[]
  methods := #[]
  instanceTypes := #[]
  staticTypes := #[]
  resolved := Array.replicate 11 none
  statics := none }

def pool11 : Array CpInfo := pool [(1, .class_ 2), (0, u "java/lang/constant/ConstantDesc"), (0, .class_ 4), (0, u "java/lang/Object")] 32

/-- java/lang/constant/ConstantDesc -/
def k11 : Class := { plain "java/lang/constant/ConstantDesc" (some 0) with
  accessFlags := 1537
  interfaces := #[]
  cf := some (fileOf pool11 1 #[] #[] 1537 3 #[] #[])
  fields := #[]
  methods := #[]
  instanceTypes := #[]
  staticTypes := #[]
  resolved := Array.replicate 37 none
  statics := none }

def pool12 : Array CpInfo := pool [(1, .class_ 2), (0, u "java/lang/Integer"), (16, u "digits"), (0, u "[C"), (46, u "<init>"), (17, u "DigitOnes"), (0, u "[B"), (2, u "DigitTens"), (10, .nameAndType 67 101), (0, u "()V"), (85, u "valueOf"), (0, u "(I)Ljava/lang/Integer;"), (0, .class_ 190), (0, u "java/lang/Integer$IntegerCache"), (0, .fieldref 189 192), (0, .nameAndType 193 194), (0, u "high"), (0, u "I"), (0, .fieldref 189 196), (0, .nameAndType 197 198), (0, u "cache"), (0, u "[Ljava/lang/Integer;"), (0, .methodref 1 200), (0, .nameAndType 67 201), (0, u "(I)V"), (0, .methodref 203 100), (0, .class_ 204), (0, u "java/lang/Number"), (0, .fieldref 1 206), (0, .nameAndType 207 194), (0, u "value"), (94, u "TYPE"), (0, u "Ljava/lang/Class;"), (0, .class_ 305), (0, u "java/lang/Comparable"), (0, .class_ 307), (0, u "java/lang/constant/Constable"), (0, .class_ 309), (0, u "java/lang/constant/ConstantDesc"), (0, u "MIN_VALUE"), (1, u "MAX_VALUE"), (3, u "SIZE"), (1, u "BYTES"), (1, u "serialVersionUID"), (0, u "J")] 131

def k12c0 : Code := { maxStack := 3, maxLocals := 1, code := jdk_33_method_22_code, exceptionTable := #[], attributes := #[] }
def k12m0 : Method := { name := "valueOf", desc := "(I)Ljava/lang/Integer;", sig := { parameters := [.int], returnType := some (.object "java/lang/Integer") }, accessFlags := 9, code := some k12c0 }
def k12c1 : Code := { maxStack := 2, maxLocals := 2, code := jdk_33_method_23_code, exceptionTable := #[], attributes := #[] }
def k12m1 : Method := { name := "<init>", desc := "(I)V", sig := { parameters := [.int], returnType := none }, accessFlags := 1, code := some k12c1 }
/-- java/lang/Integer -/
def k12 : Class := { plain "java/lang/Integer" (some 8) with
  accessFlags := 49
  interfaces := #[9, 10, 11]
  cf := some (fileOf pool12 1 #[.nestMembers #[189]] #[{ accessFlags := 9, nameIndex := 187, descriptorIndex := 188, attributes := #[] }, { accessFlags := 1, nameIndex := 67, descriptorIndex := 201, attributes := #[] }] 49 203 #[304, 306, 308] #[{ accessFlags := 25, nameIndex := 310, descriptorIndex := 194, attributes := #[] }, { accessFlags := 25, nameIndex := 312, descriptorIndex := 194, attributes := #[] }, { accessFlags := 25, nameIndex := 302, descriptorIndex := 303, attributes := #[] }, { accessFlags := 24, nameIndex := 19, descriptorIndex := 20, attributes := #[] }, { accessFlags := 24, nameIndex := 89, descriptorIndex := 86, attributes := #[] }, { accessFlags := 24, nameIndex := 85, descriptorIndex := 86, attributes := #[] }, { accessFlags := 18, nameIndex := 207, descriptorIndex := 194, attributes := #[] }, { accessFlags := 25, nameIndex := 316, descriptorIndex := 194, attributes := #[] }, { accessFlags := 25, nameIndex := 318, descriptorIndex := 194, attributes := #[] }, { accessFlags := 26, nameIndex := 320, descriptorIndex := 321, attributes := #[] }])
  fields := #[{ name := "MIN_VALUE", type := .int, accessFlags := 25, slot := 0, constantValue := 0 }, { name := "MAX_VALUE", type := .int, accessFlags := 25, slot := 1, constantValue := 0 }, { name := "TYPE", type := (.object "java/lang/Class"), accessFlags := 25, slot := 2, constantValue := 0 }, { name := "digits", type := (.array .char), accessFlags := 24, slot := 3, constantValue := 0 }, { name := "DigitTens", type := (.array .byte), accessFlags := 24, slot := 4, constantValue := 0 }, { name := "DigitOnes", type := (.array .byte), accessFlags := 24, slot := 5, constantValue := 0 }, { name := "value", type := .int, accessFlags := 18, slot := 0, constantValue := 0 }, { name := "SIZE", type := .int, accessFlags := 25, slot := 6, constantValue := 0 }, { name := "BYTES", type := .int, accessFlags := 25, slot := 7, constantValue := 0 }, { name := "serialVersionUID", type := .long, accessFlags := 26, slot := 8, constantValue := 0 }]
  methods := #[k12m0, k12m1]
  instanceTypes := #[.int]
  staticTypes := #[.int, .int, (.object "java/lang/Class"), (.array .char), (.array .byte), (.array .byte), .int, .int, .long]
  resolved := Array.replicate 453 none
  statics := none }

def pool13 : Array CpInfo := pool [(2, .class_ 4), (1, u "java/lang/Object"), (0, u "<init>"), (0, u "()V"), (0, .class_ 8), (0, u "java/lang/Integer"), (7, .class_ 18), (1, u "java/lang/Integer$IntegerCache"), (0, u "$assertionsDisabled"), (0, u "Z"), (26, u "high"), (0, u "I"), (8, u "archivedCache"), (0, u "[Ljava/lang/Integer;"), (12, u "cache"), (0, u "low")] 27

def k13m0 : Method := { name := "<init>", desc := "()V", sig := { parameters := [], returnType := none }, accessFlags := 2, code := none }
/-- java/lang/Integer$IntegerCache -/
def k13 : Class := { plain "java/lang/Integer$IntegerCache" (some 0) with
  accessFlags := 48
  interfaces := #[]
  cf := some (fileOf pool13 16 #[.nestHost 7] #[{ accessFlags := 2, nameIndex := 5, descriptorIndex := 6, attributes := #[] }] 48 2 #[] #[{ accessFlags := 24, nameIndex := 72, descriptorIndex := 48, attributes := #[] }, { accessFlags := 24, nameIndex := 47, descriptorIndex := 48, attributes := #[] }, { accessFlags := 24, nameIndex := 71, descriptorIndex := 58, attributes := #[] }, { accessFlags := 8, nameIndex := 57, descriptorIndex := 58, attributes := #[] }, { accessFlags := 4120, nameIndex := 19, descriptorIndex := 20, attributes := #[] }])
  fields := #[{ name := "low", type := .int, accessFlags := 24, slot := 0, constantValue := 0 }, { name := "high", type := .int, accessFlags := 24, slot := 1, constantValue := 0 }, { name := "cache", type := (.array (.object "java/lang/Integer")), accessFlags := 24, slot := 2, constantValue := 0 }, { name := "archivedCache", type := (.array (.object "java/lang/Integer")), accessFlags := 8, slot := 3, constantValue := 0 }, { name := "$assertionsDisabled", type := .boolean, accessFlags := 4120, slot := 4, constantValue := 0 }]
  methods := #[k13m0]
  instanceTypes := #[]
  staticTypes := #[.int, .int, (.array (.object "java/lang/Integer")), (.array (.object "java/lang/Integer")), .boolean]
  resolved := Array.replicate 100 none
  statics := some 0 }

def pool14 : Array CpInfo := pool [(8, .class_ 10), (1, u "java/lang/Iterable"), (24, .class_ 36), (0, u "java/lang/Object")] 25

/-- java/lang/Iterable -/
def k14 : Class := { plain "java/lang/Iterable" (some 0) with
  accessFlags := 1537
  interfaces := #[]
  cf := some (fileOf pool14 8 #[] #[] 1537 35 #[] #[])
  fields := #[]
  methods := #[]
  instanceTypes := #[]
  staticTypes := #[]
  resolved := Array.replicate 62 none
  statics := none }

def pool15 : Array CpInfo := pool [(10, .class_ 12), (1, u "java/util/Collection"), (0, u "toArray"), (46, .class_ 61), (0, u "java/lang/Object"), (0, .class_ 63), (0, u "java/lang/Iterable"), (6, u "()[Ljava/lang/Object;")] 44

def k15m0 : Method := { name := "toArray", desc := "()[Ljava/lang/Object;", sig := { parameters := [], returnType := some (.array (.object "java/lang/Object")) }, accessFlags := 1025, code := none }
/-- java/util/Collection -/
def k15 : Class := { plain "java/util/Collection" (some 0) with
  accessFlags := 1537
  interfaces := #[14]
  cf := some (fileOf pool15 10 #[] #[{ accessFlags := 1025, nameIndex := 13, descriptorIndex := 70, attributes := #[] }] 1537 60 #[62] #[])
  fields := #[]
  methods := #[k15m0]
  instanceTypes := #[]
  staticTypes := #[]
  resolved := Array.replicate 115 none
  statics := none }

def pool16 : Array CpInfo := pool [(1, .methodref 2 3), (0, .class_ 4), (0, .nameAndType 5 6), (0, u "java/lang/Object"), (0, u "<init>"), (0, u "()V"), (1, .class_ 10), (1, u "java/util/AbstractCollection"), (66, .class_ 78), (0, u "java/util/Collection")] 81

def k16c0 : Code := { maxStack := 1, maxLocals := 1, code := jdk_22_method_1_code, exceptionTable := #[], attributes := #[] }
def k16m0 : Method := { name := "<init>", desc := "()V", sig := { parameters := [], returnType := none }, accessFlags := 4, code := some k16c0 }
/-- java/util/AbstractCollection -/
def k16 : Class := { plain "java/util/AbstractCollection" (some 0) with
  accessFlags := 1057
  interfaces := #[15]
  cf := some (fileOf pool16 8 #[] #[{ accessFlags := 4, nameIndex := 5, descriptorIndex := 6, attributes := #[] }] 1057 2 #[77] #[])
  fields := #[]
  methods := #[k16m0]
  instanceTypes := #[]
  staticTypes := #[]
  resolved := Array.replicate 160 none
  statics := none }

def pool17 : Array CpInfo := pool [(8, .class_ 10), (1, u "java/util/SequencedCollection"), (15, .class_ 27), (0, u "java/lang/Object"), (0, .class_ 29), (0, u "java/util/Collection")] 27

/-- java/util/SequencedCollection -/
def k17 : Class := { plain "java/util/SequencedCollection" (some 0) with
  accessFlags := 1537
  interfaces := #[15]
  cf := some (fileOf pool17 8 #[] #[] 1537 26 #[28] #[])
  fields := #[]
  methods := #[]
  instanceTypes := #[]
  staticTypes := #[]
  resolved := Array.replicate 57 none
  statics := none }

def pool18 : Array CpInfo := pool [(8, .class_ 10), (1, u "java/util/List"), (49, u "add"), (3, u "(Ljava/lang/Object;)Z"), (38, .class_ 104), (0, u "java/lang/Object"), (15, .class_ 121), (0, u "java/util/SequencedCollection"), (9, u "(Ljava/util/Collection;)Z"), (1, u "addAll")] 117

def k18m0 : Method := { name := "add", desc := "(Ljava/lang/Object;)Z", sig := { parameters := [(.object "java/lang/Object")], returnType := some .boolean }, accessFlags := 1025, code := none }
def k18m1 : Method := { name := "addAll", desc := "(Ljava/util/Collection;)Z", sig := { parameters := [(.object "java/util/Collection")], returnType := some .boolean }, accessFlags := 1025, code := none }
/-- java/util/List -/
def k18 : Class := { plain "java/util/List" (some 0) with
  accessFlags := 1537
  interfaces := #[17]
  cf := some (fileOf pool18 8 #[] #[{ accessFlags := 1025, nameIndex := 60, descriptorIndex := 64, attributes := #[] }, { accessFlags := 1025, nameIndex := 133, descriptorIndex := 131, attributes := #[] }] 1537 103 #[120] #[])
  fields := #[]
  methods := #[k18m0, k18m1]
  instanceTypes := #[]
  staticTypes := #[]
  resolved := Array.replicate 251 none
  statics := none }

def pool19 : Array CpInfo := pool [(1, .methodref 2 3), (0, .class_ 4), (0, .nameAndType 5 6), (0, u "java/util/AbstractCollection"), (0, u "<init>"), (0, u "()V"), (0, .fieldref 8 9), (0, .class_ 10), (0, .nameAndType 11 12), (0, u "java/util/AbstractList"), (0, u "modCount"), (0, u "I"), (64, .class_ 78), (0, u "java/util/AbstractList$Itr"), (3, .class_ 83), (0, u "java/util/AbstractList$ListItr"), (9, .class_ 94), (0, u "java/util/AbstractList$RandomAccessSubList"), (3, .class_ 99), (0, u "java/util/AbstractList$SubList"), (33, .class_ 134), (0, u "java/util/List"), (73, .class_ 209), (0, u "java/util/AbstractList$SubList$1"), (0, .class_ 211), (0, u "java/util/AbstractList$RandomAccessSpliterator")] 6

def k19c0 : Code := { maxStack := 2, maxLocals := 1, code := jdk_39_method_1_code, exceptionTable := #[], attributes := #[] }
def k19m0 : Method := { name := "<init>", desc := "()V", sig := { parameters := [], returnType := none }, accessFlags := 4, code := some k19c0 }
/-- java/util/AbstractList -/
def k19 : Class := { plain "java/util/AbstractList" (some 16) with
  accessFlags := 1057
  interfaces := #[18]
  cf := some (fileOf pool19 8 #[.nestMembers #[93, 98, 208, 210, 82, 77]] #[{ accessFlags := 4, nameIndex := 5, descriptorIndex := 6, attributes := #[] }] 1057 2 #[133] #[{ accessFlags := 132, nameIndex := 11, descriptorIndex := 12, attributes := #[] }])
  fields := #[{ name := "modCount", type := .int, accessFlags := 132, slot := 0, constantValue := 0 }]
  methods := #[k19m0]
  instanceTypes := #[.int]
  staticTypes := #[]
  resolved := Array.replicate 218 none
  statics := none }

def pool20 : Array CpInfo := pool [(1, .class_ 2), (0, u "java/util/RandomAccess"), (0, .class_ 4), (0, u "java/lang/Object")] 2

/-- java/util/RandomAccess -/
def k20 : Class := { plain "java/util/RandomAccess" (some 0) with
  accessFlags := 1537
  interfaces := #[]
  cf := some (fileOf pool20 1 #[] #[] 1537 3 #[] #[])
  fields := #[]
  methods := #[]
  instanceTypes := #[]
  staticTypes := #[]
  resolved := Array.replicate 7 none
  statics := none }

def pool21 : Array CpInfo := pool [(1, .methodref 2 3), (0, .class_ 4), (0, .nameAndType 5 6), (0, u "java/util/AbstractList"), (0, u "<init>"), (0, u "()V"), (0, .class_ 8), (0, u "java/lang/Object"), (0, .fieldref 10 11), (0, .class_ 12), (0, .nameAndType 13 14), (0, u "java/util/ArrayList"), (0, u "elementData"), (0, u "[Ljava/lang/Object;"), (2, u "EMPTY_ELEMENTDATA"), (21, .fieldref 10 40), (0, .nameAndType 41 14), (0, u "DEFAULTCAPACITY_EMPTY_ELEMENTDATA"), (0, .interfaceMethodref 43 44), (0, .class_ 45), (0, .nameAndType 46 47), (0, u "java/util/Collection"), (0, u "toArray"), (0, u "()[Ljava/lang/Object;"), (0, .fieldref 10 49), (0, .nameAndType 50 51), (0, u "size"), (0, u "I"), (11, .fieldref 10 64), (0, .nameAndType 65 51), (0, u "modCount"), (3, .methodref 10 70), (0, .nameAndType 71 72), (0, u "grow"), (0, u "(I)[Ljava/lang/Object;"), (6, .methodref 80 81), (0, .class_ 82), (0, .nameAndType 83 84), (0, u "java/lang/Math"), (0, u "max"), (0, u "(II)I"), (11, u "(Ljava/lang/Object;)Z"), (32, .methodref 10 130), (0, .nameAndType 71 47), (0, .methodref 10 132), (0, .nameAndType 133 134), (0, u "add"), (0, u "(Ljava/lang/Object;[Ljava/lang/Object;I)V"), (13, .class_ 149), (0, u "java/util/List"), (112, .class_ 263), (0, u "java/util/ArrayList$ListItr"), (3, .class_ 268), (0, u "java/util/ArrayList$Itr"), (7, .class_ 277), (0, u "java/util/ArrayList$SubList"), (12, .class_ 291), (0, u "java/util/ArrayList$ArrayListSpliterator"), (37, .class_ 330), (0, u "java/util/RandomAccess"), (0, .class_ 332), (0, u "java/lang/Cloneable"), (0, .class_ 334), (0, u "java/io/Serializable"), (0, u "serialVersionUID"), (0, u "J"), (3, u "DEFAULT_CAPACITY"), (79, u "addAll"), (0, u "(Ljava/util/Collection;)Z"), (78, .class_ 501), (0, u "java/util/ArrayList$SubList$2"), (0, .class_ 503), (0, u "java/util/ArrayList$SubList$1")] 5

def k21c0 : Code := { maxStack := 2, maxLocals := 1, code := jdk_38_method_2_code, exceptionTable := #[], attributes := #[] }
def k21m0 : Method := { name := "<init>", desc := "()V", sig := { parameters := [], returnType := none }, accessFlags := 1, code := some k21c0 }
def k21c1 : Code := { maxStack := 4, maxLocals := 4, code := jdk_38_method_6_code, exceptionTable := #[], attributes := #[] }
def k21m1 : Method := { name := "grow", desc := "(I)[Ljava/lang/Object;", sig := { parameters := [.int], returnType := some (.array (.object "java/lang/Object")) }, accessFlags := 2, code := some k21c1 }
def k21c2 : Code := { maxStack := 3, maxLocals := 1, code := jdk_38_method_7_code, exceptionTable := #[], attributes := #[] }
def k21m2 : Method := { name := "grow", desc := "()[Ljava/lang/Object;", sig := { parameters := [], returnType := some (.array (.object "java/lang/Object")) }, accessFlags := 2, code := some k21c2 }
def k21c3 : Code := { maxStack := 3, maxLocals := 4, code := jdk_38_method_24_code, exceptionTable := #[], attributes := #[] }
def k21m3 : Method := { name := "add", desc := "(Ljava/lang/Object;[Ljava/lang/Object;I)V", sig := { parameters := [(.object "java/lang/Object"), (.array (.object "java/lang/Object")), .int], returnType := none }, accessFlags := 2, code := some k21c3 }
def k21c4 : Code := { maxStack := 4, maxLocals := 2, code := jdk_38_method_25_code, exceptionTable := #[], attributes := #[] }
def k21m4 : Method := { name := "add", desc := "(Ljava/lang/Object;)Z", sig := { parameters := [(.object "java/lang/Object")], returnType := some .boolean }, accessFlags := 1, code := some k21c4 }
def k21c5 : Code := { maxStack := 5, maxLocals := 6, code := jdk_38_method_41_code, exceptionTable := #[], attributes := #[] }
def k21m5 : Method := { name := "addAll", desc := "(Ljava/util/Collection;)Z", sig := { parameters := [(.object "java/util/Collection")], returnType := some .boolean }, accessFlags := 1, code := some k21c5 }
/-- java/util/ArrayList -/
def k21 : Class := { plain "java/util/ArrayList" (some 19) with
  accessFlags := 33
  interfaces := #[18, 20, 6, 5]
  cf := some (fileOf pool21 10 #[.nestMembers #[290, 276, 500, 502, 262, 267]] #[{ accessFlags := 1, nameIndex := 5, descriptorIndex := 6, attributes := #[] }, { accessFlags := 2, nameIndex := 71, descriptorIndex := 72, attributes := #[] }, { accessFlags := 2, nameIndex := 71, descriptorIndex := 47, attributes := #[] }, { accessFlags := 2, nameIndex := 133, descriptorIndex := 134, attributes := #[] }, { accessFlags := 1, nameIndex := 133, descriptorIndex := 96, attributes := #[] }, { accessFlags := 1, nameIndex := 420, descriptorIndex := 421, attributes := #[] }] 33 2 #[148, 329, 331, 333] #[{ accessFlags := 26, nameIndex := 335, descriptorIndex := 336, attributes := #[] }, { accessFlags := 26, nameIndex := 340, descriptorIndex := 51, attributes := #[] }, { accessFlags := 26, nameIndex := 17, descriptorIndex := 14, attributes := #[] }, { accessFlags := 26, nameIndex := 41, descriptorIndex := 14, attributes := #[] }, { accessFlags := 128, nameIndex := 13, descriptorIndex := 14, attributes := #[] }, { accessFlags := 2, nameIndex := 50, descriptorIndex := 51, attributes := #[] }])
  fields := #[{ name := "serialVersionUID", type := .long, accessFlags := 26, slot := 0, constantValue := 0 }, { name := "DEFAULT_CAPACITY", type := .int, accessFlags := 26, slot := 1, constantValue := 0 }, { name := "EMPTY_ELEMENTDATA", type := (.array (.object "java/lang/Object")), accessFlags := 26, slot := 2, constantValue := 0 }, { name := "DEFAULTCAPACITY_EMPTY_ELEMENTDATA", type := (.array (.object "java/lang/Object")), accessFlags := 26, slot := 3, constantValue := 0 }, { name := "elementData", type := (.array (.object "java/lang/Object")), accessFlags := 128, slot := 1, constantValue := 0 }, { name := "size", type := .int, accessFlags := 2, slot := 2, constantValue := 0 }]
  methods := #[k21m0, k21m1, k21m2, k21m3, k21m4, k21m5]
  instanceTypes := #[.int, (.array (.object "java/lang/Object")), .int]
  staticTypes := #[.long, .int, (.array (.object "java/lang/Object")), (.array (.object "java/lang/Object"))]
  resolved := Array.replicate 509 none
  statics := some 1 }

def pool22 : Array CpInfo := pool [(1, .class_ 2), (0, u "java/lang/Math"), (1, .class_ 6), (1, u "java/lang/Object"), (0, u "<init>"), (0, u "()V"), (89, .class_ 100), (1, u "java/lang/Math$RandomNumberGeneratorHolder"), (71, u "negativeZeroFloatBits"), (0, u "J"), (2, u "negativeZeroDoubleBits"), (21, u "max"), (46, u "$assertionsDisabled"), (0, u "Z"), (88, u "(II)I"), (2, u "twoToTheDoubleScaleDown"), (0, u "D"), (4, u "twoToTheDoubleScaleUp"), (9, u "E"), (3, u "PI"), (2, u "TAU"), (2, u "DEGREES_TO_RADIANS"), (0, u "RADIANS_TO_DEGREES")] 94

def k22m0 : Method := { name := "<init>", desc := "()V", sig := { parameters := [], returnType := none }, accessFlags := 2, code := none }
def k22c1 : Code := { maxStack := 2, maxLocals := 2, code := jdk_29_method_65_code, exceptionTable := #[], attributes := #[] }
def k22m1 : Method := { name := "max", desc := "(II)I", sig := { parameters := [.int, .int], returnType := some .int }, accessFlags := 9, code := some k22c1 }
/-- java/lang/Math -/
def k22 : Class := { plain "java/lang/Math" (some 0) with
  accessFlags := 49
  interfaces := #[]
  cf := some (fileOf pool22 1 #[.nestMembers #[98]] #[{ accessFlags := 2, nameIndex := 7, descriptorIndex := 8, attributes := #[] }, { accessFlags := 9, nameIndex := 198, descriptorIndex := 335, attributes := #[] }] 49 4 #[] #[{ accessFlags := 25, nameIndex := 354, descriptorIndex := 339, attributes := #[] }, { accessFlags := 25, nameIndex := 358, descriptorIndex := 339, attributes := #[] }, { accessFlags := 25, nameIndex := 361, descriptorIndex := 339, attributes := #[] }, { accessFlags := 26, nameIndex := 364, descriptorIndex := 339, attributes := #[] }, { accessFlags := 26, nameIndex := 365, descriptorIndex := 339, attributes := #[] }, { accessFlags := 26, nameIndex := 172, descriptorIndex := 173, attributes := #[] }, { accessFlags := 26, nameIndex := 176, descriptorIndex := 173, attributes := #[] }, { accessFlags := 8, nameIndex := 344, descriptorIndex := 339, attributes := #[] }, { accessFlags := 8, nameIndex := 338, descriptorIndex := 339, attributes := #[] }, { accessFlags := 4120, nameIndex := 245, descriptorIndex := 246, attributes := #[] }])
  fields := #[{ name := "E", type := .double, accessFlags := 25, slot := 0, constantValue := 0 }, { name := "PI", type := .double, accessFlags := 25, slot := 1, constantValue := 0 }, { name := "TAU", type := .double, accessFlags := 25, slot := 2, constantValue := 0 }, { name := "DEGREES_TO_RADIANS", type := .double, accessFlags := 26, slot := 3, constantValue := 0 }, { name := "RADIANS_TO_DEGREES", type := .double, accessFlags := 26, slot := 4, constantValue := 0 }, { name := "negativeZeroFloatBits", type := .long, accessFlags := 26, slot := 5, constantValue := 0 }, { name := "negativeZeroDoubleBits", type := .long, accessFlags := 26, slot := 6, constantValue := 0 }, { name := "twoToTheDoubleScaleUp", type := .double, accessFlags := 8, slot := 7, constantValue := 0 }, { name := "twoToTheDoubleScaleDown", type := .double, accessFlags := 8, slot := 8, constantValue := 0 }, { name := "$assertionsDisabled", type := .boolean, accessFlags := 4120, slot := 9, constantValue := 0 }]
  methods := #[k22m0, k22m1]
  instanceTypes := #[]
  staticTypes := #[.double, .double, .double, .double, .double, .long, .long, .double, .double, .boolean]
  resolved := Array.replicate 460 none
  statics := none }

def pool23 : Array CpInfo := pool [(26, .class_ 27), (0, u "java/lang/Object"), (5, .class_ 34), (0, u "java/util/Set"), (1, .class_ 38), (1, u "java/util/Collection")] 105

/-- java/util/Set -/
def k23 : Class := { plain "java/util/Set" (some 0) with
  accessFlags := 1537
  interfaces := #[15]
  cf := some (fileOf pool23 33 #[] #[] 1537 26 #[36] #[])
  fields := #[]
  methods := #[]
  instanceTypes := #[]
  staticTypes := #[]
  resolved := Array.replicate 144 none
  statics := none }

def pool24 : Array CpInfo := pool [(1, .methodref 2 3), (0, .class_ 4), (0, .nameAndType 5 6), (0, u "java/util/AbstractCollection"), (0, u "<init>"), (0, u "()V"), (0, .class_ 8), (0, u "java/util/Set"), (7, .class_ 17), (0, u "java/util/AbstractSet")] 78

def k24c0 : Code := { maxStack := 1, maxLocals := 1, code := jdk_91_method_1_code, exceptionTable := #[], attributes := #[] }
def k24m0 : Method := { name := "<init>", desc := "()V", sig := { parameters := [], returnType := none }, accessFlags := 4, code := some k24c0 }
/-- java/util/AbstractSet -/
def k24 : Class := { plain "java/util/AbstractSet" (some 16) with
  accessFlags := 1057
  interfaces := #[23]
  cf := some (fileOf pool24 16 #[] #[{ accessFlags := 4, nameIndex := 5, descriptorIndex := 6, attributes := #[] }] 1057 2 #[7] #[])
  fields := #[]
  methods := #[k24m0]
  instanceTypes := #[]
  staticTypes := #[]
  resolved := Array.replicate 96 none
  statics := none }

def pool25 : Array CpInfo := pool [(1, .fieldref 2 3), (0, .class_ 4), (0, .nameAndType 5 6), (0, u "java/util/IdentityHashMap$KeySet"), (0, u "this$0"), (0, u "Ljava/util/IdentityHashMap;"), (0, .methodref 8 9), (0, .class_ 10), (0, .nameAndType 11 12), (0, u "java/util/AbstractSet"), (0, u "<init>"), (0, u "()V"), (4, u "(Ljava/util/IdentityHashMap;)V"), (0, .fieldref 19 20), (0, .class_ 21), (0, .nameAndType 22 23), (0, u "java/util/IdentityHashMap"), (0, u "size"), (0, u "I"), (43, .class_ 68), (0, u "java/lang/Object"), (0, .methodref 2 70), (0, .nameAndType 71 72), (0, u "toArray"), (0, u "([Ljava/lang/Object;)[Ljava/lang/Object;"), (0, .fieldref 19 74), (0, .nameAndType 75 23), (0, u "modCount"), (0, .methodref 2 77), (0, .nameAndType 22 78), (0, u "()I"), (16, u "[Ljava/lang/Object;"), (0, .fieldref 19 97), (0, .nameAndType 98 95), (0, u "table"), (40, u "()[Ljava/lang/Object;")] 18

def k25c0 : Code := { maxStack := 2, maxLocals := 2, code := jdk_2589_method_1_code, exceptionTable := #[], attributes := #[] }
def k25m0 : Method := { name := "<init>", desc := "(Ljava/util/IdentityHashMap;)V", sig := { parameters := [(.object "java/util/IdentityHashMap")], returnType := none }, accessFlags := 2, code := some k25c0 }
def k25c1 : Code := { maxStack := 1, maxLocals := 1, code := jdk_2589_method_3_code, exceptionTable := #[], attributes := #[] }
def k25m1 : Method := { name := "size", desc := "()I", sig := { parameters := [], returnType := some .int }, accessFlags := 1, code := some k25c1 }
def k25c2 : Code := { maxStack := 2, maxLocals := 1, code := jdk_2589_method_9_code, exceptionTable := #[], attributes := #[] }
def k25m2 : Method := { name := "toArray", desc := "()[Ljava/lang/Object;", sig := { parameters := [], returnType := some (.array (.object "java/lang/Object")) }, accessFlags := 1, code := some k25c2 }
def k25c3 : Code := { maxStack := 3, maxLocals := 8, code := jdk_2589_method_10_code, exceptionTable := #[], attributes := #[] }
def k25m3 : Method := { name := "toArray", desc := "([Ljava/lang/Object;)[Ljava/lang/Object;", sig := { parameters := [(.array (.object "java/lang/Object"))], returnType := some (.array (.object "java/lang/Object")) }, accessFlags := 1, code := some k25c3 }
/-- java/util/IdentityHashMap$KeySet -/
def k25 : Class := { plain "java/util/IdentityHashMap$KeySet" (some 24) with
  accessFlags := 32
  interfaces := #[]
  cf := some (fileOf pool25 2 #[.nestHost 19] #[{ accessFlags := 2, nameIndex := 11, descriptorIndex := 17, attributes := #[] }, { accessFlags := 1, nameIndex := 22, descriptorIndex := 78, attributes := #[] }, { accessFlags := 1, nameIndex := 71, descriptorIndex := 139, attributes := #[] }, { accessFlags := 1, nameIndex := 71, descriptorIndex := 72, attributes := #[] }] 32 8 #[] #[{ accessFlags := 4112, nameIndex := 5, descriptorIndex := 6, attributes := #[] }])
  fields := #[{ name := "this$0", type := (.object "java/util/IdentityHashMap"), accessFlags := 4112, slot := 0, constantValue := 0 }]
  methods := #[k25m0, k25m1, k25m2, k25m3]
  instanceTypes := #[(.object "java/util/IdentityHashMap")]
  staticTypes := #[]
  resolved := Array.replicate 158 none
  statics := none }

/-- the primitive byte -/
def k26 : Class := { plain "byte" none with kind := .primitive 'B', accessFlags := 0x411 }
/-- [B -/
def k27 : Class := { plain "[B" (some 0) with kind := .array 26 .byte, interfaces := #[6, 5], accessFlags := 1041 }

/-- [Ljava/lang/Integer; -/
def k28 : Class := { plain "[Ljava/lang/Integer;" (some 0) with kind := .array 12 (.object "java/lang/Integer"), interfaces := #[6, 5], accessFlags := 1041 }

/-- [Ljava/lang/Object; -/
def k29 : Class := { plain "[Ljava/lang/Object;" (some 0) with kind := .array 0 (.object "java/lang/Object"), interfaces := #[6, 5], accessFlags := 1041 }

def heap : Heap := #[{ cls := 13, slots := #[.int 0, .int 127, .ref 2, .null, .int 0], vm := .statics 13 },
  { cls := 21, slots := #[.long 0, .int 0, .ref 259, .ref 260], vm := .statics 21 },
  { cls := 28, slots := #[.ref 3, .ref 4, .ref 5, .ref 6, .ref 7, .ref 8, .ref 9, .ref 10, .ref 11, .ref 12, .ref 13, .ref 14, .ref 15, .ref 16, .ref 17, .ref 18, .ref 19, .ref 20, .ref 21, .ref 22, .ref 23, .ref 24, .ref 25, .ref 26, .ref 27, .ref 28, .ref 29, .ref 30, .ref 31, .ref 32, .ref 33, .ref 34, .ref 35, .ref 36, .ref 37, .ref 38, .ref 39, .ref 40, .ref 41, .ref 42, .ref 43, .ref 44, .ref 45, .ref 46, .ref 47, .ref 48, .ref 49, .ref 50, .ref 51, .ref 52, .ref 53, .ref 54, .ref 55, .ref 56, .ref 57, .ref 58, .ref 59, .ref 60, .ref 61, .ref 62, .ref 63, .ref 64, .ref 65, .ref 66, .ref 67, .ref 68, .ref 69, .ref 70, .ref 71, .ref 72, .ref 73, .ref 74, .ref 75, .ref 76, .ref 77, .ref 78, .ref 79, .ref 80, .ref 81, .ref 82, .ref 83, .ref 84, .ref 85, .ref 86, .ref 87, .ref 88, .ref 89, .ref 90, .ref 91, .ref 92, .ref 93, .ref 94, .ref 95, .ref 96, .ref 97, .ref 98, .ref 99, .ref 100, .ref 101, .ref 102, .ref 103, .ref 104, .ref 105, .ref 106, .ref 107, .ref 108, .ref 109, .ref 110, .ref 111, .ref 112, .ref 113, .ref 114, .ref 115, .ref 116, .ref 117, .ref 118, .ref 119, .ref 120, .ref 121, .ref 122, .ref 123, .ref 124, .ref 125, .ref 126, .ref 127, .ref 128, .ref 129, .ref 130, .ref 131, .ref 132, .ref 133, .ref 134, .ref 135, .ref 136, .ref 137, .ref 138, .ref 139, .ref 140, .ref 141, .ref 142, .ref 143, .ref 144, .ref 145, .ref 146, .ref 147, .ref 148, .ref 149, .ref 150, .ref 151, .ref 152, .ref 153, .ref 154, .ref 155, .ref 156, .ref 157, .ref 158, .ref 159, .ref 160, .ref 161, .ref 162, .ref 163, .ref 164, .ref 165, .ref 166, .ref 167, .ref 168, .ref 169, .ref 170, .ref 171, .ref 172, .ref 173, .ref 174, .ref 175, .ref 176, .ref 177, .ref 178, .ref 179, .ref 180, .ref 181, .ref 182, .ref 183, .ref 184, .ref 185, .ref 186, .ref 187, .ref 188, .ref 189, .ref 190, .ref 191, .ref 192, .ref 193, .ref 194, .ref 195, .ref 196, .ref 197, .ref 198, .ref 199, .ref 200, .ref 201, .ref 202, .ref 203, .ref 204, .ref 205, .ref 206, .ref 207, .ref 208, .ref 209, .ref 210, .ref 211, .ref 212, .ref 213, .ref 214, .ref 215, .ref 216, .ref 217, .ref 218, .ref 219, .ref 220, .ref 221, .ref 222, .ref 223, .ref 224, .ref 225, .ref 226, .ref 227, .ref 228, .ref 229, .ref 230, .ref 231, .ref 232, .ref 233, .ref 234, .ref 235, .ref 236, .ref 237, .ref 238, .ref 239, .ref 240, .ref 241, .ref 242, .ref 243, .ref 244, .ref 245, .ref 246, .ref 247, .ref 248, .ref 249, .ref 250, .ref 251, .ref 252, .ref 253, .ref 254, .ref 255, .ref 256, .ref 257, .ref 258], vm := .none },
  { cls := 12, slots := #[.int (-128)], vm := .none },
  { cls := 12, slots := #[.int (-127)], vm := .none },
  { cls := 12, slots := #[.int (-126)], vm := .none },
  { cls := 12, slots := #[.int (-125)], vm := .none },
  { cls := 12, slots := #[.int (-124)], vm := .none },
  { cls := 12, slots := #[.int (-123)], vm := .none },
  { cls := 12, slots := #[.int (-122)], vm := .none },
  { cls := 12, slots := #[.int (-121)], vm := .none },
  { cls := 12, slots := #[.int (-120)], vm := .none },
  { cls := 12, slots := #[.int (-119)], vm := .none },
  { cls := 12, slots := #[.int (-118)], vm := .none },
  { cls := 12, slots := #[.int (-117)], vm := .none },
  { cls := 12, slots := #[.int (-116)], vm := .none },
  { cls := 12, slots := #[.int (-115)], vm := .none },
  { cls := 12, slots := #[.int (-114)], vm := .none },
  { cls := 12, slots := #[.int (-113)], vm := .none },
  { cls := 12, slots := #[.int (-112)], vm := .none },
  { cls := 12, slots := #[.int (-111)], vm := .none },
  { cls := 12, slots := #[.int (-110)], vm := .none },
  { cls := 12, slots := #[.int (-109)], vm := .none },
  { cls := 12, slots := #[.int (-108)], vm := .none },
  { cls := 12, slots := #[.int (-107)], vm := .none },
  { cls := 12, slots := #[.int (-106)], vm := .none },
  { cls := 12, slots := #[.int (-105)], vm := .none },
  { cls := 12, slots := #[.int (-104)], vm := .none },
  { cls := 12, slots := #[.int (-103)], vm := .none },
  { cls := 12, slots := #[.int (-102)], vm := .none },
  { cls := 12, slots := #[.int (-101)], vm := .none },
  { cls := 12, slots := #[.int (-100)], vm := .none },
  { cls := 12, slots := #[.int (-99)], vm := .none },
  { cls := 12, slots := #[.int (-98)], vm := .none },
  { cls := 12, slots := #[.int (-97)], vm := .none },
  { cls := 12, slots := #[.int (-96)], vm := .none },
  { cls := 12, slots := #[.int (-95)], vm := .none },
  { cls := 12, slots := #[.int (-94)], vm := .none },
  { cls := 12, slots := #[.int (-93)], vm := .none },
  { cls := 12, slots := #[.int (-92)], vm := .none },
  { cls := 12, slots := #[.int (-91)], vm := .none },
  { cls := 12, slots := #[.int (-90)], vm := .none },
  { cls := 12, slots := #[.int (-89)], vm := .none },
  { cls := 12, slots := #[.int (-88)], vm := .none },
  { cls := 12, slots := #[.int (-87)], vm := .none },
  { cls := 12, slots := #[.int (-86)], vm := .none },
  { cls := 12, slots := #[.int (-85)], vm := .none },
  { cls := 12, slots := #[.int (-84)], vm := .none },
  { cls := 12, slots := #[.int (-83)], vm := .none },
  { cls := 12, slots := #[.int (-82)], vm := .none },
  { cls := 12, slots := #[.int (-81)], vm := .none },
  { cls := 12, slots := #[.int (-80)], vm := .none },
  { cls := 12, slots := #[.int (-79)], vm := .none },
  { cls := 12, slots := #[.int (-78)], vm := .none },
  { cls := 12, slots := #[.int (-77)], vm := .none },
  { cls := 12, slots := #[.int (-76)], vm := .none },
  { cls := 12, slots := #[.int (-75)], vm := .none },
  { cls := 12, slots := #[.int (-74)], vm := .none },
  { cls := 12, slots := #[.int (-73)], vm := .none },
  { cls := 12, slots := #[.int (-72)], vm := .none },
  { cls := 12, slots := #[.int (-71)], vm := .none },
  { cls := 12, slots := #[.int (-70)], vm := .none },
  { cls := 12, slots := #[.int (-69)], vm := .none },
  { cls := 12, slots := #[.int (-68)], vm := .none },
  { cls := 12, slots := #[.int (-67)], vm := .none },
  { cls := 12, slots := #[.int (-66)], vm := .none },
  { cls := 12, slots := #[.int (-65)], vm := .none },
  { cls := 12, slots := #[.int (-64)], vm := .none },
  { cls := 12, slots := #[.int (-63)], vm := .none },
  { cls := 12, slots := #[.int (-62)], vm := .none },
  { cls := 12, slots := #[.int (-61)], vm := .none },
  { cls := 12, slots := #[.int (-60)], vm := .none },
  { cls := 12, slots := #[.int (-59)], vm := .none },
  { cls := 12, slots := #[.int (-58)], vm := .none },
  { cls := 12, slots := #[.int (-57)], vm := .none },
  { cls := 12, slots := #[.int (-56)], vm := .none },
  { cls := 12, slots := #[.int (-55)], vm := .none },
  { cls := 12, slots := #[.int (-54)], vm := .none },
  { cls := 12, slots := #[.int (-53)], vm := .none },
  { cls := 12, slots := #[.int (-52)], vm := .none },
  { cls := 12, slots := #[.int (-51)], vm := .none },
  { cls := 12, slots := #[.int (-50)], vm := .none },
  { cls := 12, slots := #[.int (-49)], vm := .none },
  { cls := 12, slots := #[.int (-48)], vm := .none },
  { cls := 12, slots := #[.int (-47)], vm := .none },
  { cls := 12, slots := #[.int (-46)], vm := .none },
  { cls := 12, slots := #[.int (-45)], vm := .none },
  { cls := 12, slots := #[.int (-44)], vm := .none },
  { cls := 12, slots := #[.int (-43)], vm := .none },
  { cls := 12, slots := #[.int (-42)], vm := .none },
  { cls := 12, slots := #[.int (-41)], vm := .none },
  { cls := 12, slots := #[.int (-40)], vm := .none },
  { cls := 12, slots := #[.int (-39)], vm := .none },
  { cls := 12, slots := #[.int (-38)], vm := .none },
  { cls := 12, slots := #[.int (-37)], vm := .none },
  { cls := 12, slots := #[.int (-36)], vm := .none },
  { cls := 12, slots := #[.int (-35)], vm := .none },
  { cls := 12, slots := #[.int (-34)], vm := .none },
  { cls := 12, slots := #[.int (-33)], vm := .none },
  { cls := 12, slots := #[.int (-32)], vm := .none },
  { cls := 12, slots := #[.int (-31)], vm := .none },
  { cls := 12, slots := #[.int (-30)], vm := .none },
  { cls := 12, slots := #[.int (-29)], vm := .none },
  { cls := 12, slots := #[.int (-28)], vm := .none },
  { cls := 12, slots := #[.int (-27)], vm := .none },
  { cls := 12, slots := #[.int (-26)], vm := .none },
  { cls := 12, slots := #[.int (-25)], vm := .none },
  { cls := 12, slots := #[.int (-24)], vm := .none },
  { cls := 12, slots := #[.int (-23)], vm := .none },
  { cls := 12, slots := #[.int (-22)], vm := .none },
  { cls := 12, slots := #[.int (-21)], vm := .none },
  { cls := 12, slots := #[.int (-20)], vm := .none },
  { cls := 12, slots := #[.int (-19)], vm := .none },
  { cls := 12, slots := #[.int (-18)], vm := .none },
  { cls := 12, slots := #[.int (-17)], vm := .none },
  { cls := 12, slots := #[.int (-16)], vm := .none },
  { cls := 12, slots := #[.int (-15)], vm := .none },
  { cls := 12, slots := #[.int (-14)], vm := .none },
  { cls := 12, slots := #[.int (-13)], vm := .none },
  { cls := 12, slots := #[.int (-12)], vm := .none },
  { cls := 12, slots := #[.int (-11)], vm := .none },
  { cls := 12, slots := #[.int (-10)], vm := .none },
  { cls := 12, slots := #[.int (-9)], vm := .none },
  { cls := 12, slots := #[.int (-8)], vm := .none },
  { cls := 12, slots := #[.int (-7)], vm := .none },
  { cls := 12, slots := #[.int (-6)], vm := .none },
  { cls := 12, slots := #[.int (-5)], vm := .none },
  { cls := 12, slots := #[.int (-4)], vm := .none },
  { cls := 12, slots := #[.int (-3)], vm := .none },
  { cls := 12, slots := #[.int (-2)], vm := .none },
  { cls := 12, slots := #[.int (-1)], vm := .none },
  { cls := 12, slots := #[.int (0)], vm := .none },
  { cls := 12, slots := #[.int (1)], vm := .none },
  { cls := 12, slots := #[.int (2)], vm := .none },
  { cls := 12, slots := #[.int (3)], vm := .none },
  { cls := 12, slots := #[.int (4)], vm := .none },
  { cls := 12, slots := #[.int (5)], vm := .none },
  { cls := 12, slots := #[.int (6)], vm := .none },
  { cls := 12, slots := #[.int (7)], vm := .none },
  { cls := 12, slots := #[.int (8)], vm := .none },
  { cls := 12, slots := #[.int (9)], vm := .none },
  { cls := 12, slots := #[.int (10)], vm := .none },
  { cls := 12, slots := #[.int (11)], vm := .none },
  { cls := 12, slots := #[.int (12)], vm := .none },
  { cls := 12, slots := #[.int (13)], vm := .none },
  { cls := 12, slots := #[.int (14)], vm := .none },
  { cls := 12, slots := #[.int (15)], vm := .none },
  { cls := 12, slots := #[.int (16)], vm := .none },
  { cls := 12, slots := #[.int (17)], vm := .none },
  { cls := 12, slots := #[.int (18)], vm := .none },
  { cls := 12, slots := #[.int (19)], vm := .none },
  { cls := 12, slots := #[.int (20)], vm := .none },
  { cls := 12, slots := #[.int (21)], vm := .none },
  { cls := 12, slots := #[.int (22)], vm := .none },
  { cls := 12, slots := #[.int (23)], vm := .none },
  { cls := 12, slots := #[.int (24)], vm := .none },
  { cls := 12, slots := #[.int (25)], vm := .none },
  { cls := 12, slots := #[.int (26)], vm := .none },
  { cls := 12, slots := #[.int (27)], vm := .none },
  { cls := 12, slots := #[.int (28)], vm := .none },
  { cls := 12, slots := #[.int (29)], vm := .none },
  { cls := 12, slots := #[.int (30)], vm := .none },
  { cls := 12, slots := #[.int (31)], vm := .none },
  { cls := 12, slots := #[.int (32)], vm := .none },
  { cls := 12, slots := #[.int (33)], vm := .none },
  { cls := 12, slots := #[.int (34)], vm := .none },
  { cls := 12, slots := #[.int (35)], vm := .none },
  { cls := 12, slots := #[.int (36)], vm := .none },
  { cls := 12, slots := #[.int (37)], vm := .none },
  { cls := 12, slots := #[.int (38)], vm := .none },
  { cls := 12, slots := #[.int (39)], vm := .none },
  { cls := 12, slots := #[.int (40)], vm := .none },
  { cls := 12, slots := #[.int (41)], vm := .none },
  { cls := 12, slots := #[.int (42)], vm := .none },
  { cls := 12, slots := #[.int (43)], vm := .none },
  { cls := 12, slots := #[.int (44)], vm := .none },
  { cls := 12, slots := #[.int (45)], vm := .none },
  { cls := 12, slots := #[.int (46)], vm := .none },
  { cls := 12, slots := #[.int (47)], vm := .none },
  { cls := 12, slots := #[.int (48)], vm := .none },
  { cls := 12, slots := #[.int (49)], vm := .none },
  { cls := 12, slots := #[.int (50)], vm := .none },
  { cls := 12, slots := #[.int (51)], vm := .none },
  { cls := 12, slots := #[.int (52)], vm := .none },
  { cls := 12, slots := #[.int (53)], vm := .none },
  { cls := 12, slots := #[.int (54)], vm := .none },
  { cls := 12, slots := #[.int (55)], vm := .none },
  { cls := 12, slots := #[.int (56)], vm := .none },
  { cls := 12, slots := #[.int (57)], vm := .none },
  { cls := 12, slots := #[.int (58)], vm := .none },
  { cls := 12, slots := #[.int (59)], vm := .none },
  { cls := 12, slots := #[.int (60)], vm := .none },
  { cls := 12, slots := #[.int (61)], vm := .none },
  { cls := 12, slots := #[.int (62)], vm := .none },
  { cls := 12, slots := #[.int (63)], vm := .none },
  { cls := 12, slots := #[.int (64)], vm := .none },
  { cls := 12, slots := #[.int (65)], vm := .none },
  { cls := 12, slots := #[.int (66)], vm := .none },
  { cls := 12, slots := #[.int (67)], vm := .none },
  { cls := 12, slots := #[.int (68)], vm := .none },
  { cls := 12, slots := #[.int (69)], vm := .none },
  { cls := 12, slots := #[.int (70)], vm := .none },
  { cls := 12, slots := #[.int (71)], vm := .none },
  { cls := 12, slots := #[.int (72)], vm := .none },
  { cls := 12, slots := #[.int (73)], vm := .none },
  { cls := 12, slots := #[.int (74)], vm := .none },
  { cls := 12, slots := #[.int (75)], vm := .none },
  { cls := 12, slots := #[.int (76)], vm := .none },
  { cls := 12, slots := #[.int (77)], vm := .none },
  { cls := 12, slots := #[.int (78)], vm := .none },
  { cls := 12, slots := #[.int (79)], vm := .none },
  { cls := 12, slots := #[.int (80)], vm := .none },
  { cls := 12, slots := #[.int (81)], vm := .none },
  { cls := 12, slots := #[.int (82)], vm := .none },
  { cls := 12, slots := #[.int (83)], vm := .none },
  { cls := 12, slots := #[.int (84)], vm := .none },
  { cls := 12, slots := #[.int (85)], vm := .none },
  { cls := 12, slots := #[.int (86)], vm := .none },
  { cls := 12, slots := #[.int (87)], vm := .none },
  { cls := 12, slots := #[.int (88)], vm := .none },
  { cls := 12, slots := #[.int (89)], vm := .none },
  { cls := 12, slots := #[.int (90)], vm := .none },
  { cls := 12, slots := #[.int (91)], vm := .none },
  { cls := 12, slots := #[.int (92)], vm := .none },
  { cls := 12, slots := #[.int (93)], vm := .none },
  { cls := 12, slots := #[.int (94)], vm := .none },
  { cls := 12, slots := #[.int (95)], vm := .none },
  { cls := 12, slots := #[.int (96)], vm := .none },
  { cls := 12, slots := #[.int (97)], vm := .none },
  { cls := 12, slots := #[.int (98)], vm := .none },
  { cls := 12, slots := #[.int (99)], vm := .none },
  { cls := 12, slots := #[.int (100)], vm := .none },
  { cls := 12, slots := #[.int (101)], vm := .none },
  { cls := 12, slots := #[.int (102)], vm := .none },
  { cls := 12, slots := #[.int (103)], vm := .none },
  { cls := 12, slots := #[.int (104)], vm := .none },
  { cls := 12, slots := #[.int (105)], vm := .none },
  { cls := 12, slots := #[.int (106)], vm := .none },
  { cls := 12, slots := #[.int (107)], vm := .none },
  { cls := 12, slots := #[.int (108)], vm := .none },
  { cls := 12, slots := #[.int (109)], vm := .none },
  { cls := 12, slots := #[.int (110)], vm := .none },
  { cls := 12, slots := #[.int (111)], vm := .none },
  { cls := 12, slots := #[.int (112)], vm := .none },
  { cls := 12, slots := #[.int (113)], vm := .none },
  { cls := 12, slots := #[.int (114)], vm := .none },
  { cls := 12, slots := #[.int (115)], vm := .none },
  { cls := 12, slots := #[.int (116)], vm := .none },
  { cls := 12, slots := #[.int (117)], vm := .none },
  { cls := 12, slots := #[.int (118)], vm := .none },
  { cls := 12, slots := #[.int (119)], vm := .none },
  { cls := 12, slots := #[.int (120)], vm := .none },
  { cls := 12, slots := #[.int (121)], vm := .none },
  { cls := 12, slots := #[.int (122)], vm := .none },
  { cls := 12, slots := #[.int (123)], vm := .none },
  { cls := 12, slots := #[.int (124)], vm := .none },
  { cls := 12, slots := #[.int (125)], vm := .none },
  { cls := 12, slots := #[.int (126)], vm := .none },
  { cls := 12, slots := #[.int (127)], vm := .none },
  { cls := 29, slots := #[], vm := .none },
  { cls := 29, slots := #[], vm := .none }]
def classes : Array Class := #[k0, k1, k2, k3, k4, k5, k6, k7, k8, k9, k10, k11, k12, k13, k14, k15, k16, k17, k18, k19, k20, k21, k22, k23, k24, k25, k26, k27, k28, k29]
def interned : List (Array UInt16 × Addr) := []
def slotsUsed : Nat := 521
def theMethod : MethodId := ⟨1, 1⟩
def args0 : Array Value := #[.int 5, .int 6, .int 7]
def aboutOver (below : List Frame) : State where
  vm := { classes := classes, interned := interned.toArray }
  heap := heap
  slotsUsed := slotsUsed
  threads := #[{ frames := .invoking theMethod args0 :: below }]
def below0 : List Frame := [.native { method := ⟨0, 0⟩, args := #[] }]
def about1 : State := aboutOver below0
def p0 : Program := .bare "" "" ""
def e0 : Env := launch0.env 0 0 0
theorem w_frames : about1.frames = Frame.invoking theMethod args0 :: below0 := rfl
set_option maxRecDepth 65536 in
theorem w_args : argsFit about1.vm theMethod args0 = true := by decide +kernel
set_option maxRecDepth 65536 in
theorem w_heap : heapFits about1 = true := by decide +kernel
set_option maxRecDepth 65536 in
theorem w_runnable : about1.curStatus? = some .runnable := by decide +kernel
set_option maxRecDepth 65536 in
theorem w_alone : about1.alone = true := by decide +kernel
set_option maxRecDepth 65536 in
theorem w_named : about1.methodNamed? x = some theMethod := by decide +kernel
set_option maxRecDepth 65536 in
theorem w_hears : about1.hears theMethod below0 = true := by decide +kernel
set_option maxRecDepth 65536 in
theorem w_ripe : about1.ripe theMethod args0 below0 = true := by decide +kernel
theorem w_running : about1.status = .running := rfl
set_option maxRecDepth 65536 in
theorem w_room : about1.hasRoom e0.platform room_1 = true :=
  launch0.hasRoom_least _ room_1 (by decide +kernel) (by decide +kernel) (by decide +kernel) (by decide +kernel) (by decide +kernel) (by decide +kernel)
theorem allAtoms_all (ts : List Jvm.Cond) (a : Array Jvm.Value) (st : Jvm.State) : (allAtoms ts).before a st = ts.all (fun c => c.before a st) := by
  induction ts with
  | nil => rfl
  | cons c t ih =>
    show (Jvm.Cond.and c (allAtoms t)).before a st = _
    rw [Jvm.Cond.before_and, ih, List.all_cons]
def words1 : List Jvm.Cond := Jvm.Cond.code x code maxLocals ret :: tables_1
/-- a 'code' word, met by the world's own term for the bytes: nothing is compared byte by byte -/
theorem code_word {y : MethodName} {bytes : ByteArray} {mx : Nat} {rt : Option FieldType} {a : Array Value} {s : State} {m : MethodId} {meth : Method} {c : Code} (h1 : s.methodNamed? y = some m) (h2 : s.vm.method? m = some meth) (h3 : meth.code = some c) (h4 : c.code = bytes)
    (h5 : (c.maxLocals == mx && c.exceptionTable.isEmpty && decide (c.maxStack ≤ mostOperands) && decide (meth.sig.returnType = rt) && !meth.locks && decide (parseMethodDescriptor y.desc = some meth.sig)) = true) : (Jvm.Cond.code y bytes mx rt).before a s = true := by
  simp only [Bool.and_eq_true, beq_iff_eq, Bool.not_eq_true', decide_eq_true_eq] at h5
  obtain ⟨⟨⟨⟨⟨g1, g2⟩, g3⟩, g4⟩, g5⟩, g6⟩ := h5
  simp [Cond.before, Cond.holds, Cond.value, h1, h2, h3, h4, g1, g2, g3, g4, g5, g6]
def isCode : Jvm.Cond → Bool
  | .code _ _ _ _ => true
  | _ => false
theorem all_split {L : List Jvm.Cond} {P : Jvm.Cond → Bool} (h1 : L.all (fun c => isCode c || P c) = true) (h2 : ∀ c ∈ L.filter isCode, P c = true) : L.all P = true := by
  refine List.all_eq_true.mpr fun c hc => ?_
  have h := List.all_eq_true.mp h1 c hc
  rcases Bool.eq_false_or_eq_true (isCode c) with hi | hi
  · exact h2 c (List.mem_filter.mpr ⟨hc, hi⟩)
  · simpa [hi] using h
set_option maxRecDepth 65536 in
theorem w_c0 : (Jvm.Cond.code x code maxLocals ret).before args0 about1 = true := code_word (m := ⟨1, 1⟩) (meth := k1m1) (c := k1c1) (by decide +kernel) rfl rfl rfl (by decide +kernel)
set_option maxRecDepth 65536 in
theorem w_c1 : (Jvm.Cond.code ({ cls := "com/example/purlin/purlin/framework/ServiceUse", name := "<init>", desc := "()V" } : Jvm.MethodName) prog_4_method_1_code (1 : Nat) (Option.none : Option Jvm.ClassFile.FieldType)).before args0 about1 = true := code_word (m := ⟨2, 0⟩) (meth := k2m0) (c := k2c0) (by decide +kernel) rfl rfl rfl (by decide +kernel)
set_option maxRecDepth 65536 in
theorem w_c2 : (Jvm.Cond.code ({ cls := "java/lang/Object", name := "<init>", desc := "()V" } : Jvm.MethodName) object_method_1_code (1 : Nat) (Option.none : Option Jvm.ClassFile.FieldType)).before args0 about1 = true := code_word (m := ⟨0, 0⟩) (meth := k0m0) (c := k0c0) (by decide +kernel) rfl rfl rfl (by decide +kernel)
set_option maxRecDepth 65536 in
theorem w_c3 : (Jvm.Cond.code ({ cls := "java/util/IdentityHashMap", name := "<init>", desc := "()V" } : Jvm.MethodName) jdk_2581_method_3_code (1 : Nat) (Option.none : Option Jvm.ClassFile.FieldType)).before args0 about1 = true := code_word (m := ⟨7, 0⟩) (meth := k7m0) (c := k7c0) (by decide +kernel) rfl rfl rfl (by decide +kernel)
set_option maxRecDepth 65536 in
theorem w_c4 : (Jvm.Cond.code ({ cls := "java/util/AbstractMap", name := "<init>", desc := "()V" } : Jvm.MethodName) jdk_71_method_1_code (1 : Nat) (Option.none : Option Jvm.ClassFile.FieldType)).before args0 about1 = true := code_word (m := ⟨4, 0⟩) (meth := k4m0) (c := k4c0) (by decide +kernel) rfl rfl rfl (by decide +kernel)
set_option maxRecDepth 65536 in
theorem w_c5 : (Jvm.Cond.code ({ cls := "java/util/IdentityHashMap", name := "init", desc := "(I)V" } : Jvm.MethodName) jdk_2581_method_6_code (2 : Nat) (Option.none : Option Jvm.ClassFile.FieldType)).before args0 about1 = true := code_word (m := ⟨7, 1⟩) (meth := k7m1) (c := k7c1) (by decide +kernel) rfl rfl rfl (by decide +kernel)
set_option maxRecDepth 65536 in
theorem w_c6 : (Jvm.Cond.code ({ cls := "java/lang/Integer", name := "valueOf", desc := "(I)Ljava/lang/Integer;" } : Jvm.MethodName) jdk_33_method_22_code (1 : Nat) (Option.some (Jvm.ClassFile.FieldType.object "java/lang/Integer"))).before args0 about1 = true := code_word (m := ⟨12, 0⟩) (meth := k12m0) (c := k12c0) (by decide +kernel) rfl rfl rfl (by decide +kernel)
set_option maxRecDepth 65536 in
theorem w_c7 : (Jvm.Cond.code ({ cls := "com/example/purlin/purlin/framework/ServiceUse", name := "isCounted", desc := "()Z" } : Jvm.MethodName) prog_4_method_7_code (1 : Nat) (Option.some Jvm.ClassFile.FieldType.boolean)).before args0 about1 = true := code_word (m := ⟨2, 3⟩) (meth := k2m3) (c := k2c3) (by decide +kernel) rfl rfl rfl (by decide +kernel)
set_option maxRecDepth 65536 in
theorem w_c8 : (Jvm.Cond.code ({ cls := "com/example/purlin/purlin/framework/ServiceUse", name := "use", desc := "(Ljava/lang/Object;)V" } : Jvm.MethodName) prog_4_method_5_code (2 : Nat) (Option.none : Option Jvm.ClassFile.FieldType)).before args0 about1 = true := code_word (m := ⟨2, 1⟩) (meth := k2m1) (c := k2c1) (by decide +kernel) rfl rfl rfl (by decide +kernel)
set_option maxRecDepth 65536 in
theorem w_c9 : (Jvm.Cond.code ({ cls := "com/example/purlin/purlin/framework/ServiceUse", name := "clear", desc := "()Ljava/util/List;" } : Jvm.MethodName) prog_4_method_13_code (2 : Nat) (Option.some (Jvm.ClassFile.FieldType.object "java/util/List"))).before args0 about1 = true := code_word (m := ⟨2, 4⟩) (meth := k2m4) (c := k2c4) (by decide +kernel) rfl rfl rfl (by decide +kernel)
set_option maxRecDepth 65536 in
theorem w_c10 : (Jvm.Cond.code ({ cls := "java/util/ArrayList", name := "<init>", desc := "()V" } : Jvm.MethodName) jdk_38_method_2_code (1 : Nat) (Option.none : Option Jvm.ClassFile.FieldType)).before args0 about1 = true := code_word (m := ⟨21, 0⟩) (meth := k21m0) (c := k21c0) (by decide +kernel) rfl rfl rfl (by decide +kernel)
set_option maxRecDepth 65536 in
theorem w_c11 : (Jvm.Cond.code ({ cls := "java/util/AbstractList", name := "<init>", desc := "()V" } : Jvm.MethodName) jdk_39_method_1_code (1 : Nat) (Option.none : Option Jvm.ClassFile.FieldType)).before args0 about1 = true := code_word (m := ⟨19, 0⟩) (meth := k19m0) (c := k19c0) (by decide +kernel) rfl rfl rfl (by decide +kernel)
set_option maxRecDepth 65536 in
theorem w_c12 : (Jvm.Cond.code ({ cls := "java/util/AbstractCollection", name := "<init>", desc := "()V" } : Jvm.MethodName) jdk_22_method_1_code (1 : Nat) (Option.none : Option Jvm.ClassFile.FieldType)).before args0 about1 = true := code_word (m := ⟨16, 0⟩) (meth := k16m0) (c := k16c0) (by decide +kernel) rfl rfl rfl (by decide +kernel)
set_option maxRecDepth 65536 in
theorem w_c13 : (Jvm.Cond.code ({ cls := "java/util/ArrayList", name := "add", desc := "(Ljava/lang/Object;)Z" } : Jvm.MethodName) jdk_38_method_25_code (2 : Nat) (Option.some Jvm.ClassFile.FieldType.boolean)).before args0 about1 = true := code_word (m := ⟨21, 4⟩) (meth := k21m4) (c := k21c4) (by decide +kernel) rfl rfl rfl (by decide +kernel)
set_option maxRecDepth 65536 in
theorem w_c14 : (Jvm.Cond.code ({ cls := "java/util/ArrayList", name := "add", desc := "(Ljava/lang/Object;[Ljava/lang/Object;I)V" } : Jvm.MethodName) jdk_38_method_24_code (4 : Nat) (Option.none : Option Jvm.ClassFile.FieldType)).before args0 about1 = true := code_word (m := ⟨21, 3⟩) (meth := k21m3) (c := k21c3) (by decide +kernel) rfl rfl rfl (by decide +kernel)
set_option maxRecDepth 65536 in
theorem w_c15 : (Jvm.Cond.code ({ cls := "java/util/ArrayList", name := "grow", desc := "()[Ljava/lang/Object;" } : Jvm.MethodName) jdk_38_method_7_code (1 : Nat) (Option.some (Jvm.ClassFile.FieldType.array (Jvm.ClassFile.FieldType.object "java/lang/Object")))).before args0 about1 = true := code_word (m := ⟨21, 2⟩) (meth := k21m2) (c := k21c2) (by decide +kernel) rfl rfl rfl (by decide +kernel)
set_option maxRecDepth 65536 in
theorem w_c16 : (Jvm.Cond.code ({ cls := "java/util/ArrayList", name := "grow", desc := "(I)[Ljava/lang/Object;" } : Jvm.MethodName) jdk_38_method_6_code (4 : Nat) (Option.some (Jvm.ClassFile.FieldType.array (Jvm.ClassFile.FieldType.object "java/lang/Object")))).before args0 about1 = true := code_word (m := ⟨21, 1⟩) (meth := k21m1) (c := k21c1) (by decide +kernel) rfl rfl rfl (by decide +kernel)
set_option maxRecDepth 65536 in
theorem w_c17 : (Jvm.Cond.code ({ cls := "java/lang/Math", name := "max", desc := "(II)I" } : Jvm.MethodName) jdk_29_method_65_code (2 : Nat) (Option.some Jvm.ClassFile.FieldType.int)).before args0 about1 = true := code_word (m := ⟨22, 1⟩) (meth := k22m1) (c := k22c1) (by decide +kernel) rfl rfl rfl (by decide +kernel)
set_option maxRecDepth 65536 in
theorem w_c18 : (Jvm.Cond.code ({ cls := "java/util/IdentityHashMap", name := "keySet", desc := "()Ljava/util/Set;" } : Jvm.MethodName) jdk_2581_method_26_code (2 : Nat) (Option.some (Jvm.ClassFile.FieldType.object "java/util/Set"))).before args0 about1 = true := code_word (m := ⟨7, 3⟩) (meth := k7m3) (c := k7c3) (by decide +kernel) rfl rfl rfl (by decide +kernel)
set_option maxRecDepth 65536 in
theorem w_c19 : (Jvm.Cond.code ({ cls := "java/util/IdentityHashMap$KeySet", name := "<init>", desc := "(Ljava/util/IdentityHashMap;)V" } : Jvm.MethodName) jdk_2589_method_1_code (2 : Nat) (Option.none : Option Jvm.ClassFile.FieldType)).before args0 about1 = true := code_word (m := ⟨25, 0⟩) (meth := k25m0) (c := k25c0) (by decide +kernel) rfl rfl rfl (by decide +kernel)
set_option maxRecDepth 65536 in
theorem w_c20 : (Jvm.Cond.code ({ cls := "java/util/AbstractSet", name := "<init>", desc := "()V" } : Jvm.MethodName) jdk_91_method_1_code (1 : Nat) (Option.none : Option Jvm.ClassFile.FieldType)).before args0 about1 = true := code_word (m := ⟨24, 0⟩) (meth := k24m0) (c := k24c0) (by decide +kernel) rfl rfl rfl (by decide +kernel)
set_option maxRecDepth 65536 in
theorem w_c21 : (Jvm.Cond.code ({ cls := "java/util/ArrayList", name := "addAll", desc := "(Ljava/util/Collection;)Z" } : Jvm.MethodName) jdk_38_method_41_code (6 : Nat) (Option.some Jvm.ClassFile.FieldType.boolean)).before args0 about1 = true := code_word (m := ⟨21, 5⟩) (meth := k21m5) (c := k21c5) (by decide +kernel) rfl rfl rfl (by decide +kernel)
set_option maxRecDepth 65536 in
theorem w_c22 : (Jvm.Cond.code ({ cls := "java/util/IdentityHashMap$KeySet", name := "toArray", desc := "()[Ljava/lang/Object;" } : Jvm.MethodName) jdk_2589_method_9_code (1 : Nat) (Option.some (Jvm.ClassFile.FieldType.array (Jvm.ClassFile.FieldType.object "java/lang/Object")))).before args0 about1 = true := code_word (m := ⟨25, 2⟩) (meth := k25m2) (c := k25c2) (by decide +kernel) rfl rfl rfl (by decide +kernel)
set_option maxRecDepth 65536 in
theorem w_c23 : (Jvm.Cond.code ({ cls := "java/util/IdentityHashMap$KeySet", name := "toArray", desc := "([Ljava/lang/Object;)[Ljava/lang/Object;" } : Jvm.MethodName) jdk_2589_method_10_code (8 : Nat) (Option.some (Jvm.ClassFile.FieldType.array (Jvm.ClassFile.FieldType.object "java/lang/Object")))).before args0 about1 = true := code_word (m := ⟨25, 3⟩) (meth := k25m3) (c := k25c3) (by decide +kernel) rfl rfl rfl (by decide +kernel)
set_option maxRecDepth 65536 in
theorem w_c24 : (Jvm.Cond.code ({ cls := "java/util/IdentityHashMap$KeySet", name := "size", desc := "()I" } : Jvm.MethodName) jdk_2589_method_3_code (1 : Nat) (Option.some Jvm.ClassFile.FieldType.int)).before args0 about1 = true := code_word (m := ⟨25, 1⟩) (meth := k25m1) (c := k25c1) (by decide +kernel) rfl rfl rfl (by decide +kernel)
set_option maxRecDepth 65536 in
theorem w_c25 : (Jvm.Cond.code ({ cls := "java/util/IdentityHashMap", name := "clear", desc := "()V" } : Jvm.MethodName) jdk_2581_method_22_code (3 : Nat) (Option.none : Option Jvm.ClassFile.FieldType)).before args0 about1 = true := code_word (m := ⟨7, 2⟩) (meth := k7m2) (c := k7c2) (by decide +kernel) rfl rfl rfl (by decide +kernel)
set_option maxRecDepth 65536 in
theorem w_c26 : (Jvm.Cond.code ({ cls := "java/lang/Integer", name := "<init>", desc := "(I)V" } : Jvm.MethodName) jdk_33_method_23_code (2 : Nat) (Option.none : Option Jvm.ClassFile.FieldType)).before args0 about1 = true := code_word (m := ⟨12, 1⟩) (meth := k12m1) (c := k12c1) (by decide +kernel) rfl rfl rfl (by decide +kernel)
set_option maxRecDepth 65536 in
theorem w_c27 : (Jvm.Cond.code ({ cls := "java/lang/Number", name := "<init>", desc := "()V" } : Jvm.MethodName) jdk_18_method_1_code (1 : Nat) (Option.none : Option Jvm.ClassFile.FieldType)).before args0 about1 = true := code_word (m := ⟨8, 0⟩) (meth := k8m0) (c := k8c0) (by decide +kernel) rfl rfl rfl (by decide +kernel)
set_option maxRecDepth 65536 in
theorem w_c28 : (Jvm.Cond.code ({ cls := "com/example/purlin/purlin/framework/ServiceUse", name := "unuse", desc := "()Ljava/lang/Object;" } : Jvm.MethodName) prog_4_method_6_code (2 : Nat) (Option.some (Jvm.ClassFile.FieldType.object "java/lang/Object"))).before args0 about1 = true := code_word (m := ⟨2, 2⟩) (meth := k2m2) (c := k2c2) (by decide +kernel) rfl rfl rfl (by decide +kernel)
def codes1 : List Jvm.Cond := [Jvm.Cond.code x code maxLocals ret, Jvm.Cond.code ({ cls := "com/example/purlin/purlin/framework/ServiceUse", name := "<init>", desc := "()V" } : Jvm.MethodName) prog_4_method_1_code (1 : Nat) (Option.none : Option Jvm.ClassFile.FieldType), Jvm.Cond.code ({ cls := "java/lang/Object", name := "<init>", desc := "()V" } : Jvm.MethodName) object_method_1_code (1 : Nat) (Option.none : Option Jvm.ClassFile.FieldType), Jvm.Cond.code ({ cls := "java/util/IdentityHashMap", name := "<init>", desc := "()V" } : Jvm.MethodName) jdk_2581_method_3_code (1 : Nat) (Option.none : Option Jvm.ClassFile.FieldType), Jvm.Cond.code ({ cls := "java/util/AbstractMap", name := "<init>", desc := "()V" } : Jvm.MethodName) jdk_71_method_1_code (1 : Nat) (Option.none : Option Jvm.ClassFile.FieldType), Jvm.Cond.code ({ cls := "java/util/IdentityHashMap", name := "init", desc := "(I)V" } : Jvm.MethodName) jdk_2581_method_6_code (2 : Nat) (Option.none : Option Jvm.ClassFile.FieldType), Jvm.Cond.code ({ cls := "java/lang/Integer", name := "valueOf", desc := "(I)Ljava/lang/Integer;" } : Jvm.MethodName) jdk_33_method_22_code (1 : Nat) (Option.some (Jvm.ClassFile.FieldType.object "java/lang/Integer")), Jvm.Cond.code ({ cls := "com/example/purlin/purlin/framework/ServiceUse", name := "isCounted", desc := "()Z" } : Jvm.MethodName) prog_4_method_7_code (1 : Nat) (Option.some Jvm.ClassFile.FieldType.boolean), Jvm.Cond.code ({ cls := "com/example/purlin/purlin/framework/ServiceUse", name := "use", desc := "(Ljava/lang/Object;)V" } : Jvm.MethodName) prog_4_method_5_code (2 : Nat) (Option.none : Option Jvm.ClassFile.FieldType), Jvm.Cond.code ({ cls := "com/example/purlin/purlin/framework/ServiceUse", name := "clear", desc := "()Ljava/util/List;" } : Jvm.MethodName) prog_4_method_13_code (2 : Nat) (Option.some (Jvm.ClassFile.FieldType.object "java/util/List")), Jvm.Cond.code ({ cls := "java/util/ArrayList", name := "<init>", desc := "()V" } : Jvm.MethodName) jdk_38_method_2_code (1 : Nat) (Option.none : Option Jvm.ClassFile.FieldType), Jvm.Cond.code ({ cls := "java/util/AbstractList", name := "<init>", desc := "()V" } : Jvm.MethodName) jdk_39_method_1_code (1 : Nat) (Option.none : Option Jvm.ClassFile.FieldType), Jvm.Cond.code ({ cls := "java/util/AbstractCollection", name := "<init>", desc := "()V" } : Jvm.MethodName) jdk_22_method_1_code (1 : Nat) (Option.none : Option Jvm.ClassFile.FieldType), Jvm.Cond.code ({ cls := "java/util/ArrayList", name := "add", desc := "(Ljava/lang/Object;)Z" } : Jvm.MethodName) jdk_38_method_25_code (2 : Nat) (Option.some Jvm.ClassFile.FieldType.boolean), Jvm.Cond.code ({ cls := "java/util/ArrayList", name := "add", desc := "(Ljava/lang/Object;[Ljava/lang/Object;I)V" } : Jvm.MethodName) jdk_38_method_24_code (4 : Nat) (Option.none : Option Jvm.ClassFile.FieldType), Jvm.Cond.code ({ cls := "java/util/ArrayList", name := "grow", desc := "()[Ljava/lang/Object;" } : Jvm.MethodName) jdk_38_method_7_code (1 : Nat) (Option.some (Jvm.ClassFile.FieldType.array (Jvm.ClassFile.FieldType.object "java/lang/Object"))), Jvm.Cond.code ({ cls := "java/util/ArrayList", name := "grow", desc := "(I)[Ljava/lang/Object;" } : Jvm.MethodName) jdk_38_method_6_code (4 : Nat) (Option.some (Jvm.ClassFile.FieldType.array (Jvm.ClassFile.FieldType.object "java/lang/Object"))), Jvm.Cond.code ({ cls := "java/lang/Math", name := "max", desc := "(II)I" } : Jvm.MethodName) jdk_29_method_65_code (2 : Nat) (Option.some Jvm.ClassFile.FieldType.int), Jvm.Cond.code ({ cls := "java/util/IdentityHashMap", name := "keySet", desc := "()Ljava/util/Set;" } : Jvm.MethodName) jdk_2581_method_26_code (2 : Nat) (Option.some (Jvm.ClassFile.FieldType.object "java/util/Set")), Jvm.Cond.code ({ cls := "java/util/IdentityHashMap$KeySet", name := "<init>", desc := "(Ljava/util/IdentityHashMap;)V" } : Jvm.MethodName) jdk_2589_method_1_code (2 : Nat) (Option.none : Option Jvm.ClassFile.FieldType), Jvm.Cond.code ({ cls := "java/util/AbstractSet", name := "<init>", desc := "()V" } : Jvm.MethodName) jdk_91_method_1_code (1 : Nat) (Option.none : Option Jvm.ClassFile.FieldType), Jvm.Cond.code ({ cls := "java/util/ArrayList", name := "addAll", desc := "(Ljava/util/Collection;)Z" } : Jvm.MethodName) jdk_38_method_41_code (6 : Nat) (Option.some Jvm.ClassFile.FieldType.boolean), Jvm.Cond.code ({ cls := "java/util/IdentityHashMap$KeySet", name := "toArray", desc := "()[Ljava/lang/Object;" } : Jvm.MethodName) jdk_2589_method_9_code (1 : Nat) (Option.some (Jvm.ClassFile.FieldType.array (Jvm.ClassFile.FieldType.object "java/lang/Object"))), Jvm.Cond.code ({ cls := "java/util/IdentityHashMap$KeySet", name := "toArray", desc := "([Ljava/lang/Object;)[Ljava/lang/Object;" } : Jvm.MethodName) jdk_2589_method_10_code (8 : Nat) (Option.some (Jvm.ClassFile.FieldType.array (Jvm.ClassFile.FieldType.object "java/lang/Object"))), Jvm.Cond.code ({ cls := "java/util/IdentityHashMap$KeySet", name := "size", desc := "()I" } : Jvm.MethodName) jdk_2589_method_3_code (1 : Nat) (Option.some Jvm.ClassFile.FieldType.int), Jvm.Cond.code ({ cls := "java/util/IdentityHashMap", name := "clear", desc := "()V" } : Jvm.MethodName) jdk_2581_method_22_code (3 : Nat) (Option.none : Option Jvm.ClassFile.FieldType), Jvm.Cond.code ({ cls := "java/lang/Integer", name := "<init>", desc := "(I)V" } : Jvm.MethodName) jdk_33_method_23_code (2 : Nat) (Option.none : Option Jvm.ClassFile.FieldType), Jvm.Cond.code ({ cls := "java/lang/Number", name := "<init>", desc := "()V" } : Jvm.MethodName) jdk_18_method_1_code (1 : Nat) (Option.none : Option Jvm.ClassFile.FieldType), Jvm.Cond.code ({ cls := "com/example/purlin/purlin/framework/ServiceUse", name := "unuse", desc := "()Ljava/lang/Object;" } : Jvm.MethodName) prog_4_method_6_code (2 : Nat) (Option.some (Jvm.ClassFile.FieldType.object "java/lang/Object"))]
set_option maxRecDepth 65536 in
theorem codes_eq : words1.filter isCode = codes1 := rfl
theorem w_codes : ∀ c ∈ words1.filter isCode, c.before args0 about1 = true := by
  rw [codes_eq]
  intro c hc
  simp only [codes1, List.mem_cons, List.not_mem_nil, or_false] at hc
  rcases hc with rfl | rfl | rfl | rfl | rfl | rfl | rfl | rfl | rfl | rfl | rfl | rfl | rfl | rfl | rfl | rfl | rfl | rfl | rfl | rfl | rfl | rfl | rfl | rfl | rfl | rfl | rfl | rfl | rfl
  · exact w_c0
  · exact w_c1
  · exact w_c2
  · exact w_c3
  · exact w_c4
  · exact w_c5
  · exact w_c6
  · exact w_c7
  · exact w_c8
  · exact w_c9
  · exact w_c10
  · exact w_c11
  · exact w_c12
  · exact w_c13
  · exact w_c14
  · exact w_c15
  · exact w_c16
  · exact w_c17
  · exact w_c18
  · exact w_c19
  · exact w_c20
  · exact w_c21
  · exact w_c22
  · exact w_c23
  · exact w_c24
  · exact w_c25
  · exact w_c26
  · exact w_c27
  · exact w_c28
set_option maxRecDepth 65536 in
theorem w_t1 : (words1.take 24).all (fun c => isCode c || c.before args0 about1) = true := by decide +kernel
set_option maxRecDepth 65536 in
theorem w_t2 : ((words1.drop 24).take 24).all (fun c => isCode c || c.before args0 about1) = true := by decide +kernel
set_option maxRecDepth 65536 in
theorem w_t3 : (((words1.drop 24).drop 24).take 24).all (fun c => isCode c || c.before args0 about1) = true := by decide +kernel
set_option maxRecDepth 65536 in
theorem w_t4 : ((((words1.drop 24).drop 24).drop 24).take 24).all (fun c => isCode c || c.before args0 about1) = true := by decide +kernel
set_option maxRecDepth 65536 in
theorem w_t5 : (((((words1.drop 24).drop 24).drop 24).drop 24).take 24).all (fun c => isCode c || c.before args0 about1) = true := by decide +kernel
set_option maxRecDepth 65536 in
theorem w_t6 : ((((((words1.drop 24).drop 24).drop 24).drop 24).drop 24).take 24).all (fun c => isCode c || c.before args0 about1) = true := by decide +kernel
set_option maxRecDepth 65536 in
theorem w_t7 : (((((((words1.drop 24).drop 24).drop 24).drop 24).drop 24).drop 24).take 24).all (fun c => isCode c || c.before args0 about1) = true := by decide +kernel
set_option maxRecDepth 65536 in
theorem w_t8 : ((((((((words1.drop 24).drop 24).drop 24).drop 24).drop 24).drop 24).drop 24).take 24).all (fun c => isCode c || c.before args0 about1) = true := by decide +kernel
set_option maxRecDepth 65536 in
theorem w_t9 : ((((((((words1.drop 24).drop 24).drop 24).drop 24).drop 24).drop 24).drop 24).drop 24).all (fun c => isCode c || c.before args0 about1) = true := by decide +kernel
theorem w_tables : (allAtoms (Jvm.Cond.code x code maxLocals ret :: tables_1)).before args0 about1 = true := by
  rw [allAtoms_all]
  show words1.all (fun c => c.before args0 about1) = true
  refine all_split ?_ w_codes
  rw [← List.take_append_drop 24 words1, List.all_append, w_t1, ← List.take_append_drop 24 (words1.drop 24), List.all_append, w_t2, ← List.take_append_drop 24 ((words1.drop 24).drop 24), List.all_append, w_t3, ← List.take_append_drop 24 (((words1.drop 24).drop 24).drop 24), List.all_append, w_t4, ← List.take_append_drop 24 ((((words1.drop 24).drop 24).drop 24).drop 24), List.all_append, w_t5, ← List.take_append_drop 24 (((((words1.drop 24).drop 24).drop 24).drop 24).drop 24), List.all_append, w_t6, ← List.take_append_drop 24 ((((((words1.drop 24).drop 24).drop 24).drop 24).drop 24).drop 24), List.all_append, w_t7, ← List.take_append_drop 24 (((((((words1.drop 24).drop 24).drop 24).drop 24).drop 24).drop 24).drop 24), List.all_append, w_t8, w_t9]
  rfl
set_option maxRecDepth 65536 in
theorem w_rest : rest_1_c.before args0 about1 = true := by decide +kernel
set_option maxRecDepth 65536 in
theorem w_case : (Jvm.Cond.and given_1 narrow_1).before args0 about1 = true := by decide +kernel
theorem w_applies : (headSpec (Jvm.Cond.code x code maxLocals ret :: tables_1) room_1).applies x e0.platform about1 = true :=
  (Spec.applies_iff w_frames).mpr ⟨w_running, w_runnable, w_alone, w_named, w_hears, w_ripe, w_room, w_tables⟩
theorem atStart : AtStart classFile x code maxLocals ret World_1 tables_1 room_1 Calls_1 rest_1 Pre_1 launch0 p0 e0 about1 theMethod args0 below0 :=
  ⟨lists_1, trivial, launch0.admits_env _ _ _, launch0.least_env, fairChoices_fair.cas, fairChoices_fair.clock, w_frames, w_args, w_heap, w_applies, trivial, w_rest, w_case⟩
end start1
theorem witness_1 : WitnessClaimed_1 := ⟨start1.p0, start1.e0, start1.about1, start1.theMethod, start1.args0, start1.below0, start1.atStart⟩
end Jvm.Pilot.@@N@@
