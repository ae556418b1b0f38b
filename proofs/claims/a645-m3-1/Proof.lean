import JvmDerived
import JvmDerived.Pilot.@@N@@Statement
import JvmDerived.Pilot.@@N@@Code
set_option linter.unusedVariables false
set_option linter.unusedSimpArgs false
namespace Jvm.Pilot.@@N@@
open Jvm Jvm.ClassFile Sem Op Lib Jvm.Free Jvm.Stand Jvm.LawKit Jvm.RoadKit Bundle Jvm.Pilot.@@N@@.Jvm.D
/-! own prelude: 'own_Goes' says that from state T with top frame g the invocation comes to its end with what Q says -/
section OwnPrelude
variable {p : Program} {l : Launch} {e : Env} {R : Room} {s : State} {m : MethodId} {args : Array Value} {below : List Frame} {meth : Method} {c : Code} {T T' : State} {locs : List Loc} {cells slots : Nat} {Z : State} {a0 : Array Value} {h : Heap} {kc ks : Nat} {Q : Option Value → Heap → List Loc → Prop} {g g' : JFrame}
def own_Goes (p : Program) (e : Env) (below : List Frame) (s : State) (kc ks : Nat) (Q : Option Value → Heap → List Loc → Prop) (T : State) (g : JFrame) : Prop :=
  ∃ t o, Steps p.tables e below (T.setTop g) t ∧ t.status = .running ∧ Ended t below o ∧ ∃ v L, o = .returned v ∧ Q v t.heap L ∧ FrameEnd s o t L kc ks
abbrev own_Ctr (l : Launch) (Z : State) (y : MethodName) (bytes : ByteArray) (maxL : Nat) (ret : Option FieldType) (ws : List Jvm.Cond) (rm : Room) (kc ks : Nat) (as' : Array Value) (h : Heap) (Q : Option Value → Heap → List Loc → Prop) : Prop :=
  MetFree l y (head1 (Jvm.Cond.code y bytes maxL ret :: ws) rm) (fun a U => a = as' ∧ Z.Warmed39 U.vm ∧ U.heap = h) (fun _ _ _ _ _ => True) (fun _ U o U' => ∃ v L, o = .returned v ∧ Q v U'.heap L ∧ FrameEnd U o U' L kc ks)
theorem own_by (st : ∀ t, Steps p.tables e below (T'.setTop g') t → Steps p.tables e below (T.setTop g) t) (k : own_Goes p e below s kc ks Q T' g') : own_Goes p e below s kc ks Q T g := by
  obtain ⟨t, o, h1, r⟩ := k; exact ⟨t, o, st t h1, r⟩
theorem own_cast (q : g = g') (k : own_Goes p e below s kc ks Q T g') : own_Goes p e below s kc ks Q T g := q ▸ k
theorem own_enter {y : MethodName} {bytes : ByteArray} {maxL : Nat} {ret : Option FieldType} {ws : List Jvm.Cond} {rm : Room} {as' : Array Value} (hpl : plainFor y = true)
    (k : ∀ p e s m below meth c s₁, Stand p l e rm s m as' below meth c s₁ [] 0 0 → p.tables.exec = Jvm.exec → Z.Warmed39 s.vm → c.code = bytes → c.maxLocals = maxL → s.vm.findClass y.cls = some m.cls → meth.name = y.name → meth.locks = false → meth.sig.returnType = ret → s₁.heap = h → own_Goes p e below s kc ks Q s₁ (entryFrame m as' maxL)) :
    own_Ctr l Z y bytes maxL ret ws rm kc ks as' h Q := by
  refine MetFree.of_bodySF hpl hisR ?_
  intro p e s m args below meth c s₁ Bd hml0 hP hK
  obtain ⟨rfl, hZ, hh⟩ := hP
  exact k p e s m below meth c s₁ (Stand.of_body Bd) Bd.exec hZ Bd.bytes hml0 (findClass_of_methodNamed Bd.named) (name_of_methodNamed Bd.named Bd.method).1 Bd.notSynchronized Bd.returns (by rw [← hh, Bd.state]; rfl)
theorem own_mono (X : Stand p l e R s m args below meth c T locs cells slots) {c' n' : Nat} (h1 : cells ≤ c') (h2 : slots ≤ n') : Stand p l e R s m args below meth c T locs c' n' :=
  { X with same := X.same.mono h1 h2 }
theorem own_out (X : Stand p l e R s m args below meth c T locs cells slots) (hlk : meth.locks = false) {v : Option Value} (hv : meth.sig.returnType = none → v = none)
    (st : ∀ fs, (∀ (f : JFrame) (acts : List Action), f.method = m → f.locked = none → f.entered = [] → (doReturn e (T.setTop f) acts v).1 = T.setFrames fs) → Steps p.tables e below (T.setTop g) (T.setFrames fs))
    (hc : cells ≤ kc) (hs : slots ≤ ks) (hQ : Q v T.heap locs) : own_Goes p e below s kc ks Q T g := by
  obtain ⟨fs, hr, hrun, hended, hW, hsame⟩ := X.leave (v := v) hv hlk
  exact ⟨_, _, st fs hr, hrun, hended, v, locs, rfl, hQ, ⟨_, rfl⟩, hW, hsame.mono hc hs⟩
theorem own_ret {w : Value} {t : FieldType} {i : Instr} {pc : Nat} {Ls : Array Slot} {rest : List Value} (X : Stand p l e R s m args below meth c T locs cells slots) (hx : p.tables.exec = Jvm.exec) (hlk : meth.locks = false) (hret : meth.sig.returnType = some t) (hn : narrow t w = w)
    (hi : (i = .ireturn ∧ (t = .int ∨ t = .boolean ∨ t = .byte ∨ t = .char ∨ t = .short) ∧ ∃ z, w = .int z) ∨ (i = .lreturn ∧ t = .long ∧ ∃ z, w = .long z) ∨ (i = .dreturn ∧ t = .double ∧ ∃ z, w = .double z) ∨ (i = .freturn ∧ t = .float ∧ ∃ z, w = .float z) ∨ (i = .areturn ∧ t.isReference = true ∧ w.isRef = true))
    (hd : decode c.code pc = .ok (i, 1)) (hc : cells ≤ kc) (hs : slots ≤ ks) (hQ : Q (some w) T.heap locs) : own_Goes p e below s kc ks Q T (mkF m pc Ls (w :: rest)) :=
  own_out X hlk (fun h => by rw [hret] at h; cases h) (fun fs hr => retOut X hx hret hn hi hd hr) hc hs hQ
theorem own_retI {z : Int32} {pc : Nat} {Ls : Array Slot} {rest : List Value} (X : Stand p l e R s m args below meth c T locs cells slots) (hx : p.tables.exec = Jvm.exec) (hlk : meth.locks = false) (hret : meth.sig.returnType = some .int)
    (hd : decode c.code pc = .ok (.ireturn, 1)) (hc : cells ≤ kc) (hs : slots ≤ ks) (hQ : Q (some (.int z)) T.heap locs) : own_Goes p e below s kc ks Q T (mkF m pc Ls (.int z :: rest)) :=
  own_ret X hx hlk hret rfl (Or.inl ⟨rfl, Or.inl rfl, z, rfl⟩) hd hc hs hQ
theorem own_retJ {z : Int64} {pc : Nat} {Ls : Array Slot} {rest : List Value} (X : Stand p l e R s m args below meth c T locs cells slots) (hx : p.tables.exec = Jvm.exec) (hlk : meth.locks = false) (hret : meth.sig.returnType = some .long)
    (hd : decode c.code pc = .ok (.lreturn, 1)) (hc : cells ≤ kc) (hs : slots ≤ ks) (hQ : Q (some (.long z)) T.heap locs) : own_Goes p e below s kc ks Q T (mkF m pc Ls (.long z :: rest)) :=
  own_ret X hx hlk hret rfl (Or.inr (Or.inl ⟨rfl, rfl, z, rfl⟩)) hd hc hs hQ
theorem own_retD {z : UInt64} {pc : Nat} {Ls : Array Slot} {rest : List Value} (X : Stand p l e R s m args below meth c T locs cells slots) (hx : p.tables.exec = Jvm.exec) (hlk : meth.locks = false) (hret : meth.sig.returnType = some .double)
    (hd : decode c.code pc = .ok (.dreturn, 1)) (hc : cells ≤ kc) (hs : slots ≤ ks) (hQ : Q (some (.double z)) T.heap locs) : own_Goes p e below s kc ks Q T (mkF m pc Ls (.double z :: rest)) :=
  own_ret X hx hlk hret rfl (Or.inr (Or.inr (Or.inl ⟨rfl, rfl, z, rfl⟩))) hd hc hs hQ
theorem own_b8 (x : Int32) : ((x).toInt8.toInt32).toInt8.toInt32 = x.toInt8.toInt32 := by simp
theorem own_c16 (x : Int32) : ((x).toUInt32.toUInt16.toUInt32.toInt32).toUInt32.toUInt16.toUInt32.toInt32 = x.toUInt32.toUInt16.toUInt32.toInt32 := by
  have h : ∀ u : UInt16, (u.toUInt32.toInt32).toUInt32.toUInt16 = u := fun u => by
    show (u.toUInt32).toUInt16 = u
    simp
  rw [h]
theorem own_at_ {a : Addr} {cl : Cell} (q : T.heap = h) (A : h[a]? = some cl) : T.heap[a]? = some cl := q ▸ A
theorem own_wr {h' : Heap} {a : Addr} {sl : Nat} {v v' : Value} (W : Wr h h' a sl v) (q : v = v') : Wr h h' a sl v' := q ▸ W
theorem own_eqI {first : State} {o : Option Outcome} {idx : List Nat} {a b : Term} {x y : Int32} (ha : a.eval args first o idx s = some (.int x)) (hb : b.eval args first o idx s = some (.int y)) : (Cond.eq a b).value args first o s idx = some (decide (x = y)) := by simp [Cond.value, ha, hb]
theorem own_fitR {t : FieldType} {w : Value} (ht : t.isReference = true) (hw : w.isRef = true) : fits t w = true := by cases t <;> simp [FieldType.isReference] at ht <;> rcases ref_cases hw with rfl | ⟨a, rfl⟩ <;> rfl
theorem own_cat1 {w : Value} (hw : w.isRef = true) : w.category = 1 := by rcases ref_cases hw with rfl | ⟨a, rfl⟩ <;> rfl
theorem own_stG {ls l' : Array Slot} {i : Nat} {v : Value} {o : Slot} (hold : ls[i]? = some o) (ho : o = .unset ∨ ∃ w, o = .val w ∧ w.category = 1) (hv : v.category = 1) (q : ls.setIfInBounds i (.val v) = l') : storeLocals ls i v = some l' := q ▸ XS.store1 hold ho hv
theorem own_narR {t : FieldType} {w : Value} (ht : t.isReference = true) : narrow t w = w := by cases t <;> simp [FieldType.isReference] at ht <;> cases w <;> rfl
theorem own_retA {w : Value} {t : FieldType} {pc : Nat} {Ls : Array Slot} {rest : List Value} (X : Stand p l e R s m args below meth c T locs cells slots) (hx : p.tables.exec = Jvm.exec) (hlk : meth.locks = false) (hret : meth.sig.returnType = some t) (ht : t.isReference = true) (hw : w.isRef = true)
    (hd : decode c.code pc = .ok (.areturn, 1)) (hc : cells ≤ kc) (hs : slots ≤ ks) (hQ : Q (some w) T.heap locs) : own_Goes p e below s kc ks Q T (mkF m pc Ls (w :: rest)) :=
  own_ret X hx hlk hret (own_narR ht) (Or.inr (Or.inr (Or.inr (Or.inr ⟨rfl, ht, hw⟩)))) hd hc hs hQ
theorem own_retN {z : Int32} {t : FieldType} {pc : Nat} {Ls : Array Slot} {rest : List Value} (X : Stand p l e R s m args below meth c T locs cells slots) (hx : p.tables.exec = Jvm.exec) (hlk : meth.locks = false) (hret : meth.sig.returnType = some t) (ht : t = .boolean ∨ t = .byte ∨ t = .char ∨ t = .short)
    (hd : decode c.code pc = .ok (.ireturn, 1)) (hc : cells ≤ kc) (hs : slots ≤ ks) (hQ : Q (some (.int (nar t z))) T.heap locs) : own_Goes p e below s kc ks Q T (mkF m pc Ls (.int z :: rest)) :=
  own_out X hlk (fun h => by rw [hret] at h; cases h) (fun fs hr => retN X hx hret ht hd hr) hc hs hQ
theorem own_retV {pc : Nat} {Ls : Array Slot} (X : Stand p l e R s m args below meth c T locs cells slots) (hx : p.tables.exec = Jvm.exec) (hlk : meth.locks = false) (hret : meth.sig.returnType = none)
    (hd : decode c.code pc = .ok (.return_, 1)) (hc : cells ≤ kc) (hs : slots ≤ ks) (hQ : Q none T.heap locs) : own_Goes p e below s kc ks Q T (mkF m pc Ls []) :=
  own_out X hlk (fun _ => rfl) (fun fs hr => X.returnOut hx hret hd hr) hc hs hQ
/-- an array of that type and length, whatever it holds -/
def own_Arz (Z : State) (h : Heap) (a : Addr) (ty : FieldType) (z : Int32) : Prop := ∃ c : Cell, Arr Z h a c ty ∧ c.slots.size = z.toNatClampNeg ∧ ¬ z < 0
theorem own_Arz.of {a : Addr} {k : ClassId} {ty : FieldType} {z : Int32} {vs : List Value} {dv : Value} (F : Arv Z h a k ty z vs dv) : own_Arz Z h a ty z := by obtain ⟨c, A, -, S, q, -⟩ := F; exact ⟨c, A, S, q⟩
theorem own_Arz.lt {a : Addr} {ty : FieldType} {z : Int32} (F : own_Arz Z h a ty z) : a < h.size := by obtain ⟨c, A, -⟩ := F; exact A.lt
theorem own_Arz.ext {h' : Heap} {a : Addr} {ty : FieldType} {z : Int32} (F : own_Arz Z h a ty z) (E : Ext h h') : own_Arz Z h' a ty z := by obtain ⟨c, A, r⟩ := F; exact ⟨c, A.ext E, r⟩
theorem own_Arz.other {h' : Heap} {a b : Addr} {ty : FieldType} {z : Int32} {sl : Nat} {v : Value} (F : own_Arz Z h b ty z) (W : Wr h h' a sl v) (q : b ≠ a) : own_Arz Z h' b ty z := by obtain ⟨c, A, r⟩ := F; exact ⟨c, A.other W q, r⟩
theorem own_Arz.same {h' : Heap} {a : Addr} {ty : FieldType} {z : Int32} {sl : Nat} {v : Value} (F : own_Arz Z h a ty z) (W : Wr h h' a sl v) : own_Arz Z h' a ty z := by obtain ⟨c, A, r1, r2⟩ := F; exact ⟨_, A.same W, by rw [sz_set]; exact r1, r2⟩
theorem own_Arz.keep {h' : Heap} {a : Addr} {ty : FieldType} {z : Int32} {ws : List Addr} (F : own_Arz Z h a ty z) (K : Keep h h' ws) (q : a ∉ ws) : own_Arz Z h' a ty z := by obtain ⟨c, A, r⟩ := F; exact ⟨c, ⟨K.2.1 a c A.1 q, A.2⟩, r⟩
theorem own_neY {a b : Addr} {C : String} {n : Nat} {ty : FieldType} {z : Int32} (E : Exa Z h a C) (w : (Cond.instantiable C n).before a0 Z = true) (F : own_Arz Z h b ty z) : a ≠ b := by obtain ⟨c, A, -⟩ := F; exact ne_arr E w A
section OwnCalls
variable {own : String} {index : Nat} {y z : MethodName} {bytes : ByteArray} {maxL : Nat} {ret : Option FieldType} {rm : Room} {Q' : Option Value → Heap → List Loc → Prop} {argsL rest : List Value}
theorem own_callS (X : Stand p l e R s m args below meth c T locs cells slots) (hx : p.tables.exec = Jvm.exec) (hZ : Z.Warmed39 s.vm) (hown : s.vm.findClass own = some m.cls)
    (w1 : (Cond.methodLink own index y).before a0 Z = true) (w2 : (Cond.static y).before a0 Z = true) (w3 : (Cond.initialized y.cls).before a0 Z = true) (w4 : (Cond.code y bytes maxL ret).before a0 Z = true)
    (hy : y.cls ≠ "java/lang/invoke/MethodHandle" ∧ y.cls ≠ "java/lang/invoke/VarHandle") (hM : own_Ctr l Z y bytes maxL ret [] rm rm.cells rm.slots argsL.toArray h Q') (W : Nat)
    (hf : rm.frames + 1 ≤ R.frames) (hl : W + (maxL + 11) + rm.locals ≤ R.locals) (hc : cells + rm.cells ≤ R.cells) (hs : slots + rm.slots ≤ R.slots) (eT : T.heap = h)
    (hg : g.method = m) (hsize : g.locals.size = c.maxLocals) (hlen : ∀ sig, parseMethodDescriptor y.desc = some sig → argsL.length = sig.parameters.length) (hstack : g.stack = argsL.reverse ++ rest)
    (hW : 2 * g.monitorRoom + (rest.map fun v => v.category).sum ≤ W) (hd : decode c.code g.pc = .ok (.invokestatic index, 3))
    (k : ∀ v T' L, Stand p l e R s m args below meth c T' (locs ++ L) (cells + rm.cells) (slots + rm.slots) → Q' v T'.heap L → own_Goes p e below s kc ks Q T' { g with pc := g.pc + 3, stack := v.toList ++ rest }) : own_Goes p e below s kc ks Q T g := by
  obtain ⟨v, _, ⟨T', L', k', n'⟩, -, X', ⟨Lc, hQ, l1, y1, z1⟩, st⟩ := Jvm.LawKit.callS X hx hown (mvT hZ w1) (mvT hZ w2) (mvT hZ w3) (mvT hZ w4) hy (backOf (W := W) hM hZ w4 w3 hf hl) hg hsize hlen hstack hW hd (fun _ _ => ⟨rfl, eT, hc, hs⟩)
  dsimp only [Pt.U, Pt.locs, Pt.cells, Pt.slots] at X' l1 y1 z1 st hQ
  subst l1 y1 z1
  exact own_by st (k v T' Lc X' hQ)
theorem own_callI (X : Stand p l e R s m args below meth c T locs cells slots) (hx : p.tables.exec = Jvm.exec) (hZ : Z.Warmed39 s.vm) (hown : s.vm.findClass own = some m.cls) (hy1 : y.name = "<init>")
    (w1 : (Cond.methodLink own index y).before a0 Z = true) (w2 : (Cond.instanceMethod y).before a0 Z = true) (w3 : (Cond.initialized y.cls).before a0 Z = true) (w4 : (Cond.code y bytes maxL none).before a0 Z = true)
    (hy : y.cls ≠ "java/lang/invoke/MethodHandle" ∧ y.cls ≠ "java/lang/invoke/VarHandle") {a : Addr} (hM : own_Ctr l Z y bytes maxL none [] rm rm.cells rm.slots (.ref a :: argsL).toArray h Q') (W : Nat)
    (hf : rm.frames + 1 ≤ R.frames) (hl : W + (maxL + 11) + rm.locals ≤ R.locals) (hc : cells + rm.cells ≤ R.cells) (hs : slots + rm.slots ≤ R.slots) (eT : T.heap = h)
    (hg : g.method = m) (hsize : g.locals.size = c.maxLocals) (hlen : ∀ sig, parseMethodDescriptor y.desc = some sig → argsL.length = sig.parameters.length) (hstack : g.stack = argsL.reverse ++ .ref a :: rest)
    (hW : 2 * g.monitorRoom + (rest.map fun v => v.category).sum ≤ W) (hd : decode c.code g.pc = .ok (.invokespecial index, 3))
    (k : ∀ v T' L, Stand p l e R s m args below meth c T' (locs ++ L) (cells + rm.cells) (slots + rm.slots) → Q' v T'.heap L → own_Goes p e below s kc ks Q T' { g with pc := g.pc + 3, stack := v.toList ++ rest }) : own_Goes p e below s kc ks Q T g := by
  obtain ⟨v, _, ⟨T', L', k', n'⟩, -, X', ⟨Lc, hQ, l1, y1, z1⟩, st⟩ := X.specialBack hx hy1 hown (mvT hZ w1) (mvT hZ w2) (mvT hZ w4) hy (backOf (W := W) hM hZ w4 w3 hf hl) hg hsize (Steps.refl _) hlen hstack hW hd (fun _ _ => ⟨rfl, eT, hc, hs⟩)
  dsimp only [Pt.U, Pt.locs, Pt.cells, Pt.slots] at X' l1 y1 z1 st hQ
  subst l1 y1 z1
  exact own_by (fun t kt => st.trans kt) (k v T' Lc X' hQ)
theorem own_callIN {host : String} (X : Stand p l e R s m args below meth c T locs cells slots) (hx : p.tables.exec = Jvm.exec) (hZ : Z.Warmed39 s.vm) (hown : s.vm.findClass own = some m.cls) (hy1 : y.name = "<init>")
    (w1 : (Cond.methodLinkNest own index y host).before a0 Z = true) (w2 : (Cond.instanceMethod y).before a0 Z = true) (w3 : (Cond.initialized y.cls).before a0 Z = true) (w4 : (Cond.code y bytes maxL none).before a0 Z = true)
    (hy : y.cls ≠ "java/lang/invoke/MethodHandle" ∧ y.cls ≠ "java/lang/invoke/VarHandle") {a : Addr} (hM : own_Ctr l Z y bytes maxL none [] rm rm.cells rm.slots (.ref a :: argsL).toArray h Q') (W : Nat)
    (hf : rm.frames + 1 ≤ R.frames) (hl : W + (maxL + 11) + rm.locals ≤ R.locals) (hc : cells + rm.cells ≤ R.cells) (hs : slots + rm.slots ≤ R.slots) (eT : T.heap = h)
    (hg : g.method = m) (hsize : g.locals.size = c.maxLocals) (hlen : ∀ sig, parseMethodDescriptor y.desc = some sig → argsL.length = sig.parameters.length) (hstack : g.stack = argsL.reverse ++ .ref a :: rest)
    (hW : 2 * g.monitorRoom + (rest.map fun v => v.category).sum ≤ W) (hd : decode c.code g.pc = .ok (.invokespecial index, 3))
    (k : ∀ v T' L, Stand p l e R s m args below meth c T' (locs ++ L) (cells + rm.cells) (slots + rm.slots) → Q' v T'.heap L → own_Goes p e below s kc ks Q T' { g with pc := g.pc + 3, stack := v.toList ++ rest }) : own_Goes p e below s kc ks Q T g := by
  obtain ⟨v, _, ⟨T', L', k', n'⟩, -, X', ⟨Lc, hQ, l1, y1, z1⟩, st⟩ := X.specialBackNest hx hy1 hown (Cond.methodLinkNest_wide hZ w1 :) (mvT hZ w2) (mvT hZ w4) hy (backOf (W := W) hM hZ w4 w3 hf hl) hg hsize (Steps.refl _) hlen hstack hW hd (fun _ _ => ⟨rfl, eT, hc, hs⟩)
  dsimp only [Pt.U, Pt.locs, Pt.cells, Pt.slots] at X' l1 y1 z1 st hQ
  subst l1 y1 z1
  exact own_by (fun t kt => st.trans kt) (k v T' Lc X' hQ)
theorem own_callV {C : String} (X : Stand p l e R s m args below meth c T locs cells slots) (hx : p.tables.exec = Jvm.exec) (hZ : Z.Warmed39 s.vm) (hown : s.vm.findClass own = some m.cls)
    (w1 : (Cond.methodLink own index y).before a0 Z = true) (w2 : (Cond.declares y).before a0 Z = true) (hnf : NotFace s y) (w3 : (Cond.selects C y z).before a0 Z = true) (w4 : (Cond.instanceMethod z).before a0 Z = true) (w5 : (Cond.code z bytes maxL ret).before a0 Z = true) (w6 : (Cond.initialized z.cls).before a0 Z = true)
    (hy : y.cls ≠ "java/lang/invoke/MethodHandle" ∧ y.cls ≠ "java/lang/invoke/VarHandle") {a : Addr} (E : Exa Z h a C) (hM : own_Ctr l Z z bytes maxL ret [] rm rm.cells rm.slots (.ref a :: argsL).toArray h Q') (W : Nat)
    (hf : rm.frames + 1 ≤ R.frames) (hl : W + (maxL + 11) + rm.locals ≤ R.locals) (hc : cells + rm.cells ≤ R.cells) (hs : slots + rm.slots ≤ R.slots) (eT : T.heap = h)
    (hg : g.method = m) (hsize : g.locals.size = c.maxLocals) (hlen : ∀ sig, parseMethodDescriptor y.desc = some sig → argsL.length = sig.parameters.length) (hstack : g.stack = argsL.reverse ++ .ref a :: rest)
    (hW : 2 * g.monitorRoom + (rest.map fun v => v.category).sum ≤ W) (hd : decode c.code g.pc = .ok (.invokevirtual index, 3))
    (k : ∀ v T' L, Stand p l e R s m args below meth c T' (locs ++ L) (cells + rm.cells) (slots + rm.slots) → Q' v T'.heap L → own_Goes p e below s kc ks Q T' { g with pc := g.pc + 3, stack := v.toList ++ rest }) : own_Goes p e below s kc ks Q T g := by
  obtain ⟨cq, kq, qa, qb, qc⟩ := isOf hZ eT E
  obtain ⟨v, _, ⟨T', L', k', n'⟩, -, X', ⟨Lc, hQ, l1, y1, z1⟩, st⟩ := X.virtualBack hx hown (mvT hZ w1) (mvT hZ w2) hnf (mvT hZ w3) (mvT hZ w4) hy (backOf (W := W) hM hZ w5 w6 hf hl) qa qc hg hsize (Steps.refl _) hlen hstack hW hd (fun _ _ => ⟨rfl, eT, hc, hs⟩)
  dsimp only [Pt.U, Pt.locs, Pt.cells, Pt.slots] at X' l1 y1 z1 st hQ
  subst l1 y1 z1
  exact own_by (fun t kt => st.trans kt) (k v T' Lc X' hQ)
theorem own_callP (X : Stand p l e R s m args below meth c T locs cells slots) (hx : p.tables.exec = Jvm.exec) (hZ : Z.Warmed39 s.vm) (hown : s.vm.findClass own = some m.cls)
    (w1 : (Cond.methodLink own index y).before a0 Z = true) (w2 : (Cond.instanceMethod y).before a0 Z = true) (w3 : (Cond.selects y.cls y y).before a0 Z = true) (w4 : (Cond.privateMethod y).before a0 Z = true) (w5 : (Cond.code y bytes maxL ret).before a0 Z = true) (w6 : (Cond.initialized y.cls).before a0 Z = true)
    (hy : y.cls ≠ "java/lang/invoke/MethodHandle" ∧ y.cls ≠ "java/lang/invoke/VarHandle") {a : Addr} {C : String} (E : Exa Z h a C) (hM : own_Ctr l Z y bytes maxL ret [] rm rm.cells rm.slots (.ref a :: argsL).toArray h Q') (W : Nat)
    (hf : rm.frames + 1 ≤ R.frames) (hl : W + (maxL + 11) + rm.locals ≤ R.locals) (hc : cells + rm.cells ≤ R.cells) (hs : slots + rm.slots ≤ R.slots) (eT : T.heap = h)
    (hg : g.method = m) (hsize : g.locals.size = c.maxLocals) (hlen : ∀ sig, parseMethodDescriptor y.desc = some sig → argsL.length = sig.parameters.length) (hstack : g.stack = argsL.reverse ++ .ref a :: rest)
    (hW : 2 * g.monitorRoom + (rest.map fun v => v.category).sum ≤ W) (hd : decode c.code g.pc = .ok (.invokevirtual index, 3))
    (k : ∀ v T' L, Stand p l e R s m args below meth c T' (locs ++ L) (cells + rm.cells) (slots + rm.slots) → Q' v T'.heap L → own_Goes p e below s kc ks Q T' { g with pc := g.pc + 3, stack := v.toList ++ rest }) : own_Goes p e below s kc ks Q T g := by
  obtain ⟨cq, q1, q2⟩ := E.cell
  obtain ⟨v, _, ⟨T', L', k', n'⟩, -, X', ⟨Lc, hQ, l1, y1, z1⟩, st⟩ := X.privateBack hx hown (mvT hZ w1) (mvT hZ w2) (mvT hZ w3) (Cond.privateMethod_at (mvP hZ w4 (args := #[]))) (mvT hZ w5) hy (backOf (W := W) hM hZ w5 w6 hf hl) hg hsize (Steps.refl _) (a := a) (by rw [eT]; exact q1) q2 hlen hstack hW hd (fun _ _ => ⟨rfl, eT, hc, hs⟩)
  dsimp only [Pt.U, Pt.locs, Pt.cells, Pt.slots] at X' l1 y1 z1 st hQ
  subst l1 y1 z1
  exact own_by (fun t kt => st.trans kt) (k v T' Lc X' hQ)
theorem own_callF {C : String} {count : Nat} (X : Stand p l e R s m args below meth c T locs cells slots) (hx : p.tables.exec = Jvm.exec) (hZ : Z.Warmed39 s.vm) (hown : s.vm.findClass own = some m.cls)
    (w1 : (Cond.methodLink own index y).before a0 Z = true) (w2 : (Cond.declares y).before a0 Z = true) (w2f : (Cond.interfaceMethod y.cls y.cls y.name y.desc).before a0 Z = true) (w3 : (Cond.selects C y z).before a0 Z = true) (w4 : (Cond.instanceMethod z).before a0 Z = true)
    (wp : (Cond.publicMethod z).before a0 Z = true) (wu : (Cond.unhidden C y.name y.desc).before a0 Z = true) (wk : (Cond.castable C y.cls).before a0 Z = true) (w5 : (Cond.code z bytes maxL ret).before a0 Z = true) (w6 : (Cond.initialized z.cls).before a0 Z = true)
    (hy : y.cls ≠ "java/lang/invoke/MethodHandle" ∧ y.cls ≠ "java/lang/invoke/VarHandle") {a : Addr} (E : Exa Z h a C) (hM : own_Ctr l Z z bytes maxL ret [] rm rm.cells rm.slots (.ref a :: argsL).toArray h Q') (W : Nat)
    (hf : rm.frames + 1 ≤ R.frames) (hl : W + (maxL + 11) + rm.locals ≤ R.locals) (hc : cells + rm.cells ≤ R.cells) (hs : slots + rm.slots ≤ R.slots) (eT : T.heap = h)
    (hg : g.method = m) (hsize : g.locals.size = c.maxLocals) (hlen : ∀ sig, parseMethodDescriptor y.desc = some sig → argsL.length = sig.parameters.length) (hstack : g.stack = argsL.reverse ++ .ref a :: rest)
    (hW : 2 * g.monitorRoom + (rest.map fun v => v.category).sum ≤ W) (hd : decode c.code g.pc = .ok (.invokeinterface index count, 5))
    (k : ∀ v T' L, Stand p l e R s m args below meth c T' (locs ++ L) (cells + rm.cells) (slots + rm.slots) → Q' v T'.heap L → own_Goes p e below s kc ks Q T' { g with pc := g.pc + 5, stack := v.toList ++ rest }) : own_Goes p e below s kc ks Q T g := by
  obtain ⟨cq, kq, qa, qb, qc⟩ := isOf hZ eT E
  have hface : ((Cond.interfaceMethod y.cls y.cls y.name y.desc).onTables && (Cond.interfaceMethod y.cls y.cls y.name y.desc).keepsFace) = true := by simp [Cond.onTables, Cond.keepsFace, Cond.keeps, Cond.steady, Cond.faceAtom, hy.1, hy.2]
  obtain ⟨v, _, ⟨T', L', k', n'⟩, -, X', ⟨Lc, hQ, l1, y1, z1⟩, st⟩ := X.interfaceBack hx hown (mvT hZ w1) (mvT hZ w2) (mvT hZ w2f hface) (mvT hZ w3) (mvT hZ w4) (mvT hZ wp) (mvT hZ wu) (mvT hZ wk) hy (backOf (W := W) hM hZ w5 w6 hf hl) qa qb qc hg hsize (Steps.refl _) hlen hstack hW hd (fun _ _ => ⟨rfl, eT, hc, hs⟩)
  dsimp only [Pt.U, Pt.locs, Pt.cells, Pt.slots] at X' l1 y1 z1 st hQ
  subst l1 y1 z1
  exact own_by (fun t kt => st.trans kt) (k v T' Lc X' hQ)
end OwnCalls
end OwnPrelude
section OwnRef
variable {p : Program} {l : Launch} {e : Env} {R : Room} {s : State} {m : MethodId} {args : Array Value} {below : List Frame} {meth : Method} {c : Code} {T T' : State} {locs : List Loc} {cells slots : Nat} {Z : State} {a0 : Array Value} {h : Heap} {kc ks : Nat} {Q : Option Value → Heap → List Loc → Prop} {g g' : JFrame}
theorem own_selp {y : MethodName} {n : Nat} (wi : (Cond.instantiable y.cls n).before a0 Z = true) (w2 : (Cond.instanceMethod y).before a0 Z = true) (w4 : (Cond.privateMethod y).before a0 Z = true) (hy : y.cls ≠ "java/lang/invoke/MethodHandle" ∧ y.cls ≠ "java/lang/invoke/VarHandle") : (Cond.selects y.cls y y).before a0 Z = true := by
  obtain ⟨c, k, h1, h2, h3, h4, -⟩ := Cond.instantiable_spec wi
  exact selects_self_of_private h1 h2 ((Bool.or_eq_false_iff.mp h4).1) (Cond.privateMethod_at w4) w2 hy
theorem own_ready (X : Stand p l e R s m args below meth c T locs cells slots) (hZ : Z.Warmed39 s.vm) {own O n d : String} {index : Nat} (hown : s.vm.findClass own = some m.cls) (w : (Cond.fieldRef own index O n d).before a0 Z = true) {cf i : Nat} {k : Class} {f : Field} (hf : Z.fieldFound? O n d = some (cf, k, i, f)) : T.vm.fieldReady m.cls index cf f := by
  have hT : Z.Warmed39 T.vm := wtrans hZ X.warmed
  have w' := Cond.fieldRef_warmed39 hT w
  have hc : (Z.setVm T.vm).vm.findClass own = some m.cls := by
    show T.vm.findClass own = some m.cls
    rw [X.warmed.alike.findClass]; exact hown
  obtain ⟨c', k', i', f', h1, h2⟩ := Cond.fieldRef_spec hc w'
  obtain ⟨k'', h3, -⟩ := State.fieldFound?_setVm (s := Z) (vm' := T.vm) hT.alike hf
  cases h1.symm.trans h3
  exact h2
theorem own_getR (X : Stand p l e R s m args below meth c T locs cells slots) (hx : p.tables.exec = Jvm.exec) (hZ : Z.Warmed39 s.vm) {own O n d : String} {index : Nat} (hown : s.vm.findClass own = some m.cls) (w : (Cond.fieldRef own index O n d).before a0 Z = true)
    (eT : T.heap = h) {a : Addr} {v : Value} (F : Fld Z h a O n d v) (hg : g.method = m) {rest : List Value} (hs : g.stack = .ref a :: rest) (hd : decode c.code g.pc = .ok (.getfield index, 3)) : ∃ T', Stand p l e R s m args below meth c T' locs cells slots ∧ T'.heap = h ∧ ∀ target, Steps p.tables e below (T'.setTop { g with pc := g.pc + 3, stack := v :: rest }) target → Steps p.tables e below (T.setTop g) target := by
  obtain ⟨cell, cf, k, i, f, h1, h2, h3, h4, -, -, h7⟩ := F
  have hr := own_ready X hZ hown w h2
  refine ⟨T, X, eT, fun target hrest => ?_⟩
  subst hg
  jvm_step X.here [X.here.top, hx, hd, getfield.wp_ready (e := e) (s := T) (f := g) X.here.top hr h3 hs (by rw [eT]; exact h1) h4 h7]
  exact hrest
theorem own_putR (X : Stand p l e R s m args below meth c T locs cells slots) (hx : p.tables.exec = Jvm.exec) (hZ : Z.Warmed39 s.vm) {own O n d C : String} {index kk : Nat} {ty : FieldType} (hown : s.vm.findClass own = some m.cls) (w : (Cond.fieldRef own index O n d).before a0 Z = true)
    (eT : T.heap = h) {a : Addr} {v old : Value} (F : Fld Z h a O n d old) (E : Exa Z h a C) (L : (Cond.lays C O n d).before a0 Z = true) (wi : (Cond.instantiable C kk).before a0 Z = true)
    (hty : parseFieldDescriptor d = some ty) (hn : narrow ty v = v) (hf : fits ty v = true) (hg : g.method = m) {rest : List Value} (hs : g.stack = v :: .ref a :: rest) (hd : decode c.code g.pc = .ok (.putfield index, 3)) :
    ∃ T' h', Stand p l e R s m args below meth c T' (locs ++ [⟨a, Jvm.RoadKit.slotOf Z O n d⟩]) cells slots ∧ T'.heap = h' ∧ Wr h h' a (Jvm.RoadKit.slotOf Z O n d) v ∧ ∀ target, Steps p.tables e below (T'.setTop { g with pc := g.pc + 3, stack := rest }) target → Steps p.tables e below (T.setTop g) target := by
  obtain ⟨cell, cf, k, i, f, h1, h2, h3, h4, h5, -, h7⟩ := F
  have hr := own_ready X hZ hown w h2
  obtain ⟨cell', kc, e1, e2, e3, -⟩ := E
  cases h1.symm.trans e1
  obtain ⟨c1, k1, cf1, kf1, i1, f1, a1, a2, a3, -, b5, a6, a7, -⟩ := Cond.lays_spec L
  cases h2.symm.trans a3
  cases e2.symm.trans a1
  obtain ⟨c2, k2, i1, i2, i3, -⟩ := Cond.instantiable_spec wi
  cases e2.symm.trans i1
  cases a2.symm.trans i2
  have ht := (State.fieldFound?_type h2 hty).2
  have hfit : Z.fitsSlot cell.cls cell.vm f.slot v = true := by
    have q : Z.slotType? cell.cls cell.vm f.slot = some ty := by
      simp only [State.slotType?, a2, Option.bind_eq_bind, Option.bind_some, i3]
      cases hq : cell.vm <;> first | (rw [hq] at h5; exact Bool.noConfusion h5) | (rw [a7, ht])
    simp [State.fitsSlot, q, hf]
  have hfitT : T.fitsSlot cell.cls cell.vm f.slot v = true := by
    have hT : Z.Warmed39 T.vm := wtrans hZ X.warmed
    rw [← State.fitsSlot_setVm hT.alike] at hfit; exact hfit
  have hlt := (Array.getElem?_eq_some_iff.mp h7).1
  have es : Jvm.RoadKit.slotOf Z O n d = f.slot := by simp [Jvm.RoadKit.slotOf, h2]
  have hcT : T.heap[a]? = some cell := by rw [eT]; exact h1
  rw [es]
  refine ⟨_, _, X.stored hcT f.slot v, rfl, ⟨cell, h1, h5, hlt, by rw [← eT]; rfl⟩, fun target hrest => ?_⟩
  subst hg
  jvm_step X.here [X.here.top, hx, hd, putfield.wp_ready (e := e) (s := T) (f := g) X.here.top hr h3 b5 hs hcT h4, show narrow f.type v = v from by rw [ht]; exact hn, hlt, hfitT]
  exact hrest
theorem own_callIR {own : String} {index : Nat} {y : MethodName} {bytes : ByteArray} {maxL : Nat} {rm : Room} {Q' : Option Value → Heap → List Loc → Prop} {argsL rest : List Value} (X : Stand p l e R s m args below meth c T locs cells slots) (hx : p.tables.exec = Jvm.exec) (hZ : Z.Warmed39 s.vm) (hown : s.vm.findClass own = some m.cls) (hy1 : y.name = "<init>")
    (w1 : (Cond.methodRef own index y).before a0 Z = true) (w2 : (Cond.instanceMethod y).before a0 Z = true) (w3 : (Cond.initialized y.cls).before a0 Z = true) (w4 : (Cond.code y bytes maxL none).before a0 Z = true)
    (hy : y.cls ≠ "java/lang/invoke/MethodHandle" ∧ y.cls ≠ "java/lang/invoke/VarHandle") {a : Addr} (hM : own_Ctr l Z y bytes maxL none [] rm rm.cells rm.slots (.ref a :: argsL).toArray h Q') (W : Nat)
    (hf : rm.frames + 1 ≤ R.frames) (hl : W + (maxL + 11) + rm.locals ≤ R.locals) (hc : cells + rm.cells ≤ R.cells) (hs : slots + rm.slots ≤ R.slots) (eT : T.heap = h)
    (hg : g.method = m) (hsize : g.locals.size = c.maxLocals) (hlen : ∀ sig, parseMethodDescriptor y.desc = some sig → argsL.length = sig.parameters.length) (hstack : g.stack = argsL.reverse ++ .ref a :: rest)
    (hW : 2 * g.monitorRoom + (rest.map fun v => v.category).sum ≤ W) (hd : decode c.code g.pc = .ok (.invokespecial index, 3))
    (k : ∀ v T' L, Stand p l e R s m args below meth c T' (locs ++ L) (cells + rm.cells) (slots + rm.slots) → Q' v T'.heap L → own_Goes p e below s kc ks Q T' { g with pc := g.pc + 3, stack := v.toList ++ rest }) : own_Goes p e below s kc ks Q T g := by
  have hT : Z.Warmed39 T.vm := wtrans hZ X.warmed
  obtain ⟨mZ, methZ, hnZ, -, -, -⟩ := Cond.instanceMethod_spec w2
  have w' := Cond.methodRef_warmed39 hT hnZ hy w1
  have hcur : (Z.setVm T.vm).vm.findClass own = some m.cls := by
    show T.vm.findClass own = some m.cls
    rw [X.warmed.alike.findClass]; exact hown
  obtain ⟨m', c', hm', hready, hfind, hres⟩ := Cond.methodRef_named e hcur w'
  obtain ⟨mk, methM, hnamed, hmethM, hstM, habM⟩ := Cond.instanceMethod_spec (mvT (args := args) hZ w2)
  obtain ⟨methM', cM, hmethM', -, -, -, -, -, -, hsigM⟩ := Cond.code_spec hnamed (mvT (args := args) hZ w4)
  cases hmethM.symm.trans hmethM'
  obtain ⟨kO, hkO, hnameO⟩ := className_of_methodNamed hnamed
  obtain ⟨hnameMO, hdescO⟩ := name_of_methodNamed hnamed hmethM
  have hnT : (s.setVm T.vm).methodNamed? y = some mk := by rw [State.methodNamed?_setVm X.warmed.alike]; exact hnamed
  have hnT' : (Z.setVm T.vm).methodNamed? y = some mk := hnT
  have em : m' = mk := Option.some.inj (hm'.symm.trans (State.methodFound?_of_named hnT' hy))
  subst em
  have ec : c' = m'.cls := Option.some.inj (hfind.symm.trans (findClass_of_methodNamed hnT'))
  subst ec
  obtain ⟨kO₂, hkO₂, heO₂⟩ := X.warmed.alike.2.2 _ _ hkO
  have hmO₂ : T.vm.method? m' = some methM := by rw [X.warmed.alike.method?]; exact hmethM
  have hfound : lookupSpecial T.vm m'.cls "<init>" methM.desc = .method m' := by
    rw [X.warmed.alike.lookupSpecial, hdescO, ← hy1]; exact lookupSpecial_of_named hnamed hmethM hstM
  obtain ⟨dk, cf, ci, nt, hdk, hcf, hcp, hcr⟩ := hres
  have hstep : ∀ target, (∀ acts, Steps p.tables e below (doInvoke e (T.setTop { g with stack := rest }) acts m' (.ref a :: argsL).toArray).1 target) → Steps p.tables e below (T.setTop g) target := fun target hrest => by
    subst hg
    jvm_step X.here [hx, hd, invokespecial.wp_init (e := e) (s := T) (k := kO₂) (meth := methM) (m := m') (a := a) (args := argsL) (rest := rest) (f := g)
      X.here.top ⟨dk, cf, ci, nt, hdk, hcf, hcp, hcr⟩ hready hkO₂ hmO₂ (by rw [hnameMO]; exact hy1) hstM habM hfound (hlen _ hsigM) hstack]
    exact hrest
  obtain ⟨v, ⟨T', L', k', n'⟩, X', ⟨Lc, hQ, l1, y1, z1⟩, hsteps⟩ := (backOf (W := W) hM hZ w4 w3 hf hl) m meth c ⟨T, locs, cells, slots⟩ { g with stack := rest } (.invokespecial index) m' (.ref a :: argsL).toArray X hg hsize hd hW (X.named hnamed) ⟨rfl, eT, hc, hs⟩
  dsimp only [Pt.U, Pt.locs, Pt.cells, Pt.slots] at X' l1 y1 z1 hsteps hQ
  subst l1 y1 z1
  exact own_by (fun t kt => (hstep _ fun acts => by rw [doInvoke_state]; exact Steps.refl _).trans (hsteps.trans kt)) (k v T' Lc X' hQ)
end OwnRef
def own_03 (r : Int32) : Prop := r = 0 ∨ r = 1 ∨ r = 2 ∨ r = 3
theorem own_and3 (a : Int32) : own_03 (a &&& (3 : Int32)) := by
  have m := c_mask a 3 2 (by decide) (by decide)
  have : (a &&& 3).toInt = 0 ∨ (a &&& 3).toInt = 1 ∨ (a &&& 3).toInt = 2 ∨ (a &&& 3).toInt = 3 := by omega
  rcases this with h | h | h | h
  · exact Or.inl (Int32.toInt_inj.mp h)
  · exact Or.inr (Or.inl (Int32.toInt_inj.mp h))
  · exact Or.inr (Or.inr (Or.inl (Int32.toInt_inj.mp h)))
  · exact Or.inr (Or.inr (Or.inr (Int32.toInt_inj.mp h)))
def own_min (a b : Int32) : Int32 := if b < a then b else a
theorem own_inb {hd z : Int32} (h0 : 0 ≤ hd.toInt) (h1 : hd.toInt < z.toInt) (h2 : z.toInt ≤ 8) (r i : Int32) (R I : Int) (hr : r.toInt = R) (hi : i.toInt = I) (q : (R = 1 ∧ I = 0) ∨ (R = 2 ∧ (I = 0 ∨ I = 1)) ∨ (R = 3 ∧ (I = 0 ∨ I = 1 ∨ I = 2))) : ¬ (hd * r + i) < 0 ∧ (hd * r + i) < z * r := by
  have m1 := c_imul hd r; have m2 := c_imul z r; have a1 := c_iadd (hd * r) i
  have b1 := rng32 (hd * r); have b2 := rng32 (z * r); have b3 := rng32 (hd * r + i)
  rw [Int32.lt_iff_toInt_lt, Int32.lt_iff_toInt_lt, show (0 : Int32).toInt = 0 from by decide]
  rw [hr] at m1 m2; rw [hi] at a1
  rcases q with ⟨rfl, q⟩ | ⟨rfl, q⟩ | ⟨rfl, q⟩
  · have x1 : (hd * r).toInt = hd.toInt * 1 := by omega
    have x2 : (z * r).toInt = z.toInt * 1 := by omega
    have x3 : (hd * r + i).toInt = hd.toInt * 1 + I := by omega
    omega
  · have x1 : (hd * r).toInt = hd.toInt * 2 := by omega
    have x2 : (z * r).toInt = z.toInt * 2 := by omega
    have x3 : (hd * r + i).toInt = hd.toInt * 2 + I := by omega
    omega
  · have x1 : (hd * r).toInt = hd.toInt * 3 := by omega
    have x2 : (z * r).toInt = z.toInt * 3 := by omega
    have x3 : (hd * r + i).toInt = hd.toInt * 3 + I := by omega
    omega
theorem own_cap2 {r : Int32} (h : own_03 r) : ¬ ((2 : Int32) * r) < 0 ∧ ((2 : Int32) * r).toNatClampNeg ≤ 6 := by rcases h with rfl | rfl | rfl | rfl <;> decide
theorem own_cap4 {r : Int32} (h : own_03 r) : ¬ ((4 : Int32) * r) < 0 ∧ ((4 : Int32) * r).toNatClampNeg ≤ 12 := by rcases h with rfl | rfl | rfl | rfl <;> decide
theorem own_cap8 {r : Int32} (h : own_03 r) : ¬ ((8 : Int32) * r) < 0 ∧ ((8 : Int32) * r).toNatClampNeg ≤ 24 := by rcases h with rfl | rfl | rfl | rfl <;> decide
def own_Q0 (Z : State) (h : Heap) (q : Addr) (n0 : Nat) (r : Int32) (w : Int32) : Prop := Exa Z h q "com/example/limentinus/limentinus/simulator/RecordQueue" ∧ Fld Z h q "com/example/limentinus/limentinus/simulator/RecordQueue" "references" "I" (.int r) ∧ Fld Z h q "com/example/limentinus/limentinus/simulator/RecordQueue" "numbers" "I" (.int w) ∧ Fld Z h q "com/example/limentinus/limentinus/simulator/RecordQueue" "first" "Lcom/example/limentinus/limentinus/simulator/RecordQueue$Block;" .null ∧ Fld Z h q "com/example/limentinus/limentinus/simulator/RecordQueue" "last" "Lcom/example/limentinus/limentinus/simulator/RecordQueue$Block;" .null ∧ Fld Z h q "com/example/limentinus/limentinus/simulator/RecordQueue" "head" "I" (.int (0 : Int32)) ∧ Fld Z h q "com/example/limentinus/limentinus/simulator/RecordQueue" "tail" "I" (.int (0 : Int32)) ∧ n0 ≤ q
def own_Q1 (Z : State) (h : Heap) (q : Addr) (n0 : Nat) (r : Int32) (w : Int32) (hd : Int32) (tl : Int32) (b1 : Addr) (a1 : Addr) (z1 : Int32) : Prop := Exa Z h q "com/example/limentinus/limentinus/simulator/RecordQueue" ∧ Fld Z h q "com/example/limentinus/limentinus/simulator/RecordQueue" "references" "I" (.int r) ∧ Fld Z h q "com/example/limentinus/limentinus/simulator/RecordQueue" "numbers" "I" (.int w) ∧ Fld Z h q "com/example/limentinus/limentinus/simulator/RecordQueue" "first" "Lcom/example/limentinus/limentinus/simulator/RecordQueue$Block;" (.ref b1) ∧ Fld Z h q "com/example/limentinus/limentinus/simulator/RecordQueue" "last" "Lcom/example/limentinus/limentinus/simulator/RecordQueue$Block;" (.ref b1) ∧ Fld Z h q "com/example/limentinus/limentinus/simulator/RecordQueue" "head" "I" (.int hd) ∧ Fld Z h q "com/example/limentinus/limentinus/simulator/RecordQueue" "tail" "I" (.int tl) ∧ n0 ≤ q ∧ Exa Z h b1 "com/example/limentinus/limentinus/simulator/RecordQueue$Block" ∧ Fld Z h b1 "com/example/limentinus/limentinus/simulator/RecordQueue$Block" "records" "I" (.int z1) ∧ Fld Z h b1 "com/example/limentinus/limentinus/simulator/RecordQueue$Block" "references" "[Ljava/lang/Object;" (.ref a1) ∧ Fld Z h b1 "com/example/limentinus/limentinus/simulator/RecordQueue$Block" "next" "Lcom/example/limentinus/limentinus/simulator/RecordQueue$Block;" .null ∧ own_Arz Z h a1 (.object "java/lang/Object") (z1 * r) ∧ n0 ≤ b1 ∧ n0 ≤ a1
def own_Q2 (Z : State) (h : Heap) (q : Addr) (n0 : Nat) (r : Int32) (w : Int32) (hd : Int32) (tl : Int32) (b1 : Addr) (a1 : Addr) (z1 : Int32) (b2 : Addr) (a2 : Addr) (z2 : Int32) : Prop := Exa Z h q "com/example/limentinus/limentinus/simulator/RecordQueue" ∧ Fld Z h q "com/example/limentinus/limentinus/simulator/RecordQueue" "references" "I" (.int r) ∧ Fld Z h q "com/example/limentinus/limentinus/simulator/RecordQueue" "numbers" "I" (.int w) ∧ Fld Z h q "com/example/limentinus/limentinus/simulator/RecordQueue" "first" "Lcom/example/limentinus/limentinus/simulator/RecordQueue$Block;" (.ref b1) ∧ Fld Z h q "com/example/limentinus/limentinus/simulator/RecordQueue" "last" "Lcom/example/limentinus/limentinus/simulator/RecordQueue$Block;" (.ref b2) ∧ Fld Z h q "com/example/limentinus/limentinus/simulator/RecordQueue" "head" "I" (.int hd) ∧ Fld Z h q "com/example/limentinus/limentinus/simulator/RecordQueue" "tail" "I" (.int tl) ∧ n0 ≤ q ∧ Exa Z h b1 "com/example/limentinus/limentinus/simulator/RecordQueue$Block" ∧ Fld Z h b1 "com/example/limentinus/limentinus/simulator/RecordQueue$Block" "records" "I" (.int z1) ∧ Fld Z h b1 "com/example/limentinus/limentinus/simulator/RecordQueue$Block" "references" "[Ljava/lang/Object;" (.ref a1) ∧ Fld Z h b1 "com/example/limentinus/limentinus/simulator/RecordQueue$Block" "next" "Lcom/example/limentinus/limentinus/simulator/RecordQueue$Block;" (.ref b2) ∧ own_Arz Z h a1 (.object "java/lang/Object") (z1 * r) ∧ n0 ≤ b1 ∧ n0 ≤ a1 ∧ Exa Z h b2 "com/example/limentinus/limentinus/simulator/RecordQueue$Block" ∧ Fld Z h b2 "com/example/limentinus/limentinus/simulator/RecordQueue$Block" "records" "I" (.int z2) ∧ Fld Z h b2 "com/example/limentinus/limentinus/simulator/RecordQueue$Block" "references" "[Ljava/lang/Object;" (.ref a2) ∧ Fld Z h b2 "com/example/limentinus/limentinus/simulator/RecordQueue$Block" "next" "Lcom/example/limentinus/limentinus/simulator/RecordQueue$Block;" .null ∧ own_Arz Z h a2 (.object "java/lang/Object") (z2 * r) ∧ n0 ≤ b2 ∧ n0 ≤ a2 ∧ b1 ≠ b2 ∧ a1 ≠ a2
def own_Q3 (Z : State) (h : Heap) (q : Addr) (n0 : Nat) (r : Int32) (w : Int32) (hd : Int32) (tl : Int32) (b1 : Addr) (a1 : Addr) (z1 : Int32) (b2 : Addr) (a2 : Addr) (z2 : Int32) (b3 : Addr) (a3 : Addr) (z3 : Int32) : Prop := Exa Z h q "com/example/limentinus/limentinus/simulator/RecordQueue" ∧ Fld Z h q "com/example/limentinus/limentinus/simulator/RecordQueue" "references" "I" (.int r) ∧ Fld Z h q "com/example/limentinus/limentinus/simulator/RecordQueue" "numbers" "I" (.int w) ∧ Fld Z h q "com/example/limentinus/limentinus/simulator/RecordQueue" "first" "Lcom/example/limentinus/limentinus/simulator/RecordQueue$Block;" (.ref b1) ∧ Fld Z h q "com/example/limentinus/limentinus/simulator/RecordQueue" "last" "Lcom/example/limentinus/limentinus/simulator/RecordQueue$Block;" (.ref b3) ∧ Fld Z h q "com/example/limentinus/limentinus/simulator/RecordQueue" "head" "I" (.int hd) ∧ Fld Z h q "com/example/limentinus/limentinus/simulator/RecordQueue" "tail" "I" (.int tl) ∧ n0 ≤ q ∧ Exa Z h b1 "com/example/limentinus/limentinus/simulator/RecordQueue$Block" ∧ Fld Z h b1 "com/example/limentinus/limentinus/simulator/RecordQueue$Block" "records" "I" (.int z1) ∧ Fld Z h b1 "com/example/limentinus/limentinus/simulator/RecordQueue$Block" "references" "[Ljava/lang/Object;" (.ref a1) ∧ Fld Z h b1 "com/example/limentinus/limentinus/simulator/RecordQueue$Block" "next" "Lcom/example/limentinus/limentinus/simulator/RecordQueue$Block;" (.ref b2) ∧ own_Arz Z h a1 (.object "java/lang/Object") (z1 * r) ∧ n0 ≤ b1 ∧ n0 ≤ a1 ∧ Exa Z h b2 "com/example/limentinus/limentinus/simulator/RecordQueue$Block" ∧ Fld Z h b2 "com/example/limentinus/limentinus/simulator/RecordQueue$Block" "records" "I" (.int z2) ∧ Fld Z h b2 "com/example/limentinus/limentinus/simulator/RecordQueue$Block" "references" "[Ljava/lang/Object;" (.ref a2) ∧ Fld Z h b2 "com/example/limentinus/limentinus/simulator/RecordQueue$Block" "next" "Lcom/example/limentinus/limentinus/simulator/RecordQueue$Block;" (.ref b3) ∧ own_Arz Z h a2 (.object "java/lang/Object") (z2 * r) ∧ n0 ≤ b2 ∧ n0 ≤ a2 ∧ Exa Z h b3 "com/example/limentinus/limentinus/simulator/RecordQueue$Block" ∧ Fld Z h b3 "com/example/limentinus/limentinus/simulator/RecordQueue$Block" "records" "I" (.int z3) ∧ Fld Z h b3 "com/example/limentinus/limentinus/simulator/RecordQueue$Block" "references" "[Ljava/lang/Object;" (.ref a3) ∧ Fld Z h b3 "com/example/limentinus/limentinus/simulator/RecordQueue$Block" "next" "Lcom/example/limentinus/limentinus/simulator/RecordQueue$Block;" .null ∧ own_Arz Z h a3 (.object "java/lang/Object") (z3 * r) ∧ n0 ≤ b3 ∧ n0 ≤ a3 ∧ b1 ≠ b2 ∧ b1 ≠ b3 ∧ b2 ≠ b3 ∧ a1 ≠ a2 ∧ a1 ≠ a3 ∧ a2 ≠ a3
theorem own_d10_0 : decode jdk_29_method_69_code 0 = .ok (.iload_n 0, 1) := by decide +kernel
theorem own_d10_1 : decode jdk_29_method_69_code 1 = .ok (.iload_n 1, 1) := by decide +kernel
theorem own_d10_2 : decode jdk_29_method_69_code 2 = .ok (.if_icmp .gt 7, 3) := by decide +kernel
theorem own_d10_9 : decode jdk_29_method_69_code 9 = .ok (.iload_n 1, 1) := by decide +kernel
theorem own_d10_10 : decode jdk_29_method_69_code 10 = .ok (.ireturn, 1) := by decide +kernel
theorem own_d10_5 : decode jdk_29_method_69_code 5 = .ok (.iload_n 0, 1) := by decide +kernel
theorem own_d10_6 : decode jdk_29_method_69_code 6 = .ok (.goto 4, 3) := by decide +kernel
def Q_own_cmin (Z : State) (u1 : Int32) (u2 : Int32) (h0 : Heap) (n0 : Nat) (v : Option Value) (h : Heap) (L : List Loc) : Prop := v = some (.int (own_min u1 u2)) ∧ Fr n0 L ∧ h = h0
theorem own_ef_own_cmin (m : MethodId) (u1 : Int32) (u2 : Int32) : entryFrame m #[(.int u1), (.int u2)] 2 = mkF m 0 #[iv u1, iv u2] [] := by first | (simp [entryFrame, mkF, argsToLocals, Value.category]; done) | rfl
set_option maxRecDepth 65536 in
set_option maxHeartbeats 40000000 in
theorem own_cmin (l : Launch) (Z : State) (a0 : Array Value) (hw : ∀ d ∈ tables_1, d.before a0 Z = true) (ws : List Jvm.Cond) (u1 : Int32) (u2 : Int32) (h0 : Heap) (n0 : Nat) (Z0 : n0 ≤ h0.size)  :
    own_Ctr l Z (⟨"java/lang/Math", "min", "(II)I"⟩ : MethodName) jdk_29_method_69_code 2 (some .int) ws ({ frames := 0, cells := 0, slots := 0, locals := 0 } : Room) (({ frames := 0, cells := 0, slots := 0, locals := 0 } : Room)).cells (({ frames := 0, cells := 0, slots := 0, locals := 0 } : Room)).slots #[(.int u1), (.int u2)] h0 (Q_own_cmin Z u1 u2 h0 n0) := by
  refine own_enter (Jvm.Free.JP.mathPlain rfl (by decide +kernel)) ?_
  intro p e s m below meth c s₁ X0 hx hZ hby hml hown hnm hlk hret e0
  have N0 := Fr.nil n0
  refine own_cast (own_ef_own_cmin m u1 u2) ?_
  refine own_by (g' := (mkF m 2 #[iv u1, iv u2] [(.int u2), (.int u1)])) (fun t k => XS.iloadN X0.here hx rfl (hb hby own_d10_0) rfl (XS.iloadN X0.here hx rfl (hb hby own_d10_1) rfl k)) ?_
  by_cases hc101 : u2 < u1
  ·
    refine own_by (g' := (mkF m 10 #[iv u1, iv u2] [(.int u2)])) (fun t k => XS.icmpYes X0.here hx rfl (pc0 := 2) (pc' := 9) rfl (hb hby own_d10_2) rfl (tlt hc101).2.2.1 (by decide) (by decide) (XS.iloadN X0.here hx rfl (hb hby own_d10_9) rfl k)) ?_
    refine own_retI X0 hx hlk hret (hb hby own_d10_10) (by decide) (by decide) ?_
    exact ⟨(by simp [own_min, hc101]), N0, e0⟩
  ·
    refine own_by (g' := (mkF m 10 #[iv u1, iv u2] [(.int u1)])) (fun t k => XS.icmpNo X0.here hx rfl (hb hby own_d10_2) rfl (flt hc101).2.2.1 (XS.iloadN X0.here hx rfl (hb hby own_d10_5) rfl (XS.goto X0.here hx rfl (pc0 := 6) (pc' := 10) rfl (hb hby own_d10_6) (by decide) (by decide) k))) ?_
    refine own_retI X0 hx hlk hret (hb hby own_d10_10) (by decide) (by decide) ?_
    exact ⟨(by simp [own_min, hc101]), N0, e0⟩
theorem own_pn0 : plainName "com/example/limentinus/limentinus/simulator/RecordQueue" = true := by first | (simp [plainName, overriddenIn]; done) | decide +kernel
theorem own_d1_0 : decode prog_85_method_1_code 0 = .ok (.aload_n 0, 1) := by decide +kernel
theorem own_d1_1 : decode prog_85_method_1_code 1 = .ok (.invokespecial 1, 3) := by decide +kernel
theorem own_d1_4 : decode prog_85_method_1_code 4 = .ok (.aload_n 0, 1) := by decide +kernel
theorem own_d1_5 : decode prog_85_method_1_code 5 = .ok (.iload_n 1, 1) := by decide +kernel
theorem own_d1_6 : decode prog_85_method_1_code 6 = .ok (.putfield 7, 3) := by decide +kernel
theorem own_d1_9 : decode prog_85_method_1_code 9 = .ok (.aload_n 0, 1) := by decide +kernel
theorem own_d1_10 : decode prog_85_method_1_code 10 = .ok (.iload_n 2, 1) := by decide +kernel
theorem own_d1_11 : decode prog_85_method_1_code 11 = .ok (.putfield 13, 3) := by decide +kernel
theorem own_d1_14 : decode prog_85_method_1_code 14 = .ok (.return_, 1) := by decide +kernel
def Q_own_ini (Z : State) (q : Addr) (r : Int32) (w : Int32) (h0 : Heap) (n0 : Nat) (v : Option Value) (h : Heap) (L : List Loc) : Prop := v = none ∧ Fr n0 L ∧ Keep h0 h [q] ∧ own_Q0 Z h (q) (n0) (r) (w)
theorem own_ef_own_ini (m : MethodId) (q : Addr) (r : Int32) (w : Int32) : entryFrame m #[(.ref q), (.int r), (.int w)] 3 = mkF m 0 #[rv q, iv r, iv w] [] := by first | (simp [entryFrame, mkF, argsToLocals, Value.category]; done) | rfl
set_option maxRecDepth 65536 in
set_option maxHeartbeats 40000000 in
theorem own_ini (l : Launch) (Z : State) (a0 : Array Value) (hw : ∀ d ∈ tables_1, d.before a0 Z = true) (ws : List Jvm.Cond) (q : Addr) (r : Int32) (w : Int32) (h0 : Heap) (n0 : Nat) (Z0 : n0 ≤ h0.size) (E1 : Exa Z h0 q "com/example/limentinus/limentinus/simulator/RecordQueue") (F1 : Fld Z h0 q "com/example/limentinus/limentinus/simulator/RecordQueue" "references" "I" (.int (0 : Int32))) (F2 : Fld Z h0 q "com/example/limentinus/limentinus/simulator/RecordQueue" "numbers" "I" (.int (0 : Int32))) (F3 : Fld Z h0 q "com/example/limentinus/limentinus/simulator/RecordQueue" "first" "Lcom/example/limentinus/limentinus/simulator/RecordQueue$Block;" .null) (F4 : Fld Z h0 q "com/example/limentinus/limentinus/simulator/RecordQueue" "last" "Lcom/example/limentinus/limentinus/simulator/RecordQueue$Block;" .null) (F5 : Fld Z h0 q "com/example/limentinus/limentinus/simulator/RecordQueue" "head" "I" (.int (0 : Int32))) (F6 : Fld Z h0 q "com/example/limentinus/limentinus/simulator/RecordQueue" "tail" "I" (.int (0 : Int32))) (g1 : n0 ≤ q) :
    own_Ctr l Z (⟨"com/example/limentinus/limentinus/simulator/RecordQueue", "<init>", "(II)V"⟩ : MethodName) prog_85_method_1_code 3 none ws ({ frames := 1, cells := 0, slots := 0, locals := 12 } : Room) (({ frames := 1, cells := 0, slots := 0, locals := 12 } : Room)).cells (({ frames := 1, cells := 0, slots := 0, locals := 12 } : Room)).slots #[(.ref q), (.int r), (.int w)] h0 (Q_own_ini Z q r w h0 n0) := by
  refine own_enter (plainFor_of_name own_pn0) ?_
  intro p e s m below meth c s₁ X0 hx hZ hby hml hown hnm hlk hret e0
  have N0 := Fr.nil n0
  refine own_cast (own_ef_own_ini m q r w) ?_
  refine own_by (g' := (mkF m 1 #[rv q, iv r, iv w] [(.ref q)])) (fun t k => XS.aloadN X0.here hx rfl (hb hby own_d1_0) rfl rfl k) ?_
  obtain ⟨T101, X101, e101, st101⟩ := initO X0 hx hZ hown (hw _ (List.mem_of_getElem? (i := 6) rfl)) (hw _ (List.mem_of_getElem? (i := 7) rfl)) (hw _ (List.mem_of_getElem? (i := 8) rfl)) e0 (g := (mkF m 1 #[rv q, iv r, iv w] [(.ref q)])) rfl (by rw [hml]; rfl) rfl (hb hby own_d1_1) (by decide) (W := 0) (by show 2 * 0 + _ ≤ _; exact Nat.le_of_eq rfl) (by decide)
  refine own_by (g' := (mkF m 4 #[rv q, iv r, iv w] [])) st101 ?_
  refine own_by (g' := (mkF m 6 #[rv q, iv r, iv w] [(.int r), (.ref q)])) (fun t k => XS.aloadN X101.here hx rfl (hb hby own_d1_4) rfl rfl (XS.iloadN X101.here hx rfl (hb hby own_d1_5) rfl k)) ?_
  obtain ⟨T102, h102, X102, e102, W102, st102⟩ := putF X101 hx hZ hown (host := "") (Or.inl (hw _ (List.mem_of_getElem? (i := 9) rfl))) Via.refl e101 F1 E1 (Or.inr ⟨(hw _ (List.mem_of_getElem? (i := 10) rfl)), rfl, hnm⟩) (hw _ (List.mem_of_getElem? (i := 1) rfl)) (ty := .int) (by decide) rfl rfl (g := (mkF m 6 #[rv q, iv r, iv w] [(.int r), (.ref q)])) rfl rfl (hb hby own_d1_6)
  have f103 := F1.same W102
  have N102 := Fr.snoc X102 N0 g1
  refine own_by (g' := (mkF m 9 #[rv q, iv r, iv w] [])) st102 ?_
  refine own_by (g' := (mkF m 11 #[rv q, iv r, iv w] [(.int w), (.ref q)])) (fun t k => XS.aloadN X102.here hx rfl (hb hby own_d1_9) rfl rfl (XS.iloadN X102.here hx rfl (hb hby own_d1_10) rfl k)) ?_
  have f104 := (F2.other W102 (Or.inr (slot_ne (Or.inr (hw _ (List.mem_of_getElem? (i := 12) rfl))) (Or.inr (hw _ (List.mem_of_getElem? (i := 10) rfl))) (by decide) (t := .int) (t' := .int) (by decide) (by decide))))
  have f105 := (E1.wr W102)
  obtain ⟨T106, h106, X106, e106, W106, st106⟩ := putF X102 hx hZ hown (host := "") (Or.inl (hw _ (List.mem_of_getElem? (i := 11) rfl))) Via.refl e102 f104 f105 (Or.inr ⟨(hw _ (List.mem_of_getElem? (i := 12) rfl)), rfl, hnm⟩) (hw _ (List.mem_of_getElem? (i := 1) rfl)) (ty := .int) (by decide) rfl rfl (g := (mkF m 11 #[rv q, iv r, iv w] [(.int w), (.ref q)])) rfl rfl (hb hby own_d1_11)
  have f107 := f104.same W106
  have N106 := Fr.snoc X106 N102 g1
  refine own_by (g' := (mkF m 14 #[rv q, iv r, iv w] [])) st106 ?_
  have f108 := (f105.wr W106)
  have f109 := (f103.other W106 (Or.inr (slot_ne (Or.inr (hw _ (List.mem_of_getElem? (i := 10) rfl))) (Or.inr (hw _ (List.mem_of_getElem? (i := 12) rfl))) (by decide) (t := .int) (t' := .int) (by decide) (by decide))))
  have f110 := ((F3.other W102 (Or.inr (slot_ne (Or.inl (hw _ (List.mem_of_getElem? (i := 19) rfl))) (Or.inr (hw _ (List.mem_of_getElem? (i := 10) rfl))) (by decide) (t := (.object "com/example/limentinus/limentinus/simulator/RecordQueue$Block")) (t' := .int) (by decide) (by decide)))).other W106 (Or.inr (slot_ne (Or.inl (hw _ (List.mem_of_getElem? (i := 19) rfl))) (Or.inr (hw _ (List.mem_of_getElem? (i := 12) rfl))) (by decide) (t := (.object "com/example/limentinus/limentinus/simulator/RecordQueue$Block")) (t' := .int) (by decide) (by decide))))
  have f111 := ((F4.other W102 (Or.inr (slot_ne (Or.inl (hw _ (List.mem_of_getElem? (i := 21) rfl))) (Or.inr (hw _ (List.mem_of_getElem? (i := 10) rfl))) (by decide) (t := (.object "com/example/limentinus/limentinus/simulator/RecordQueue$Block")) (t' := .int) (by decide) (by decide)))).other W106 (Or.inr (slot_ne (Or.inl (hw _ (List.mem_of_getElem? (i := 21) rfl))) (Or.inr (hw _ (List.mem_of_getElem? (i := 12) rfl))) (by decide) (t := (.object "com/example/limentinus/limentinus/simulator/RecordQueue$Block")) (t' := .int) (by decide) (by decide))))
  have f112 := ((F5.other W102 (Or.inr (slot_ne (Or.inl (hw _ (List.mem_of_getElem? (i := 23) rfl))) (Or.inr (hw _ (List.mem_of_getElem? (i := 10) rfl))) (by decide) (t := .int) (t' := .int) (by decide) (by decide)))).other W106 (Or.inr (slot_ne (Or.inl (hw _ (List.mem_of_getElem? (i := 23) rfl))) (Or.inr (hw _ (List.mem_of_getElem? (i := 12) rfl))) (by decide) (t := .int) (t' := .int) (by decide) (by decide))))
  have f113 := ((F6.other W102 (Or.inr (slot_ne (Or.inl (hw _ (List.mem_of_getElem? (i := 25) rfl))) (Or.inr (hw _ (List.mem_of_getElem? (i := 10) rfl))) (by decide) (t := .int) (t' := .int) (by decide) (by decide)))).other W106 (Or.inr (slot_ne (Or.inl (hw _ (List.mem_of_getElem? (i := 25) rfl))) (Or.inr (hw _ (List.mem_of_getElem? (i := 12) rfl))) (by decide) (t := .int) (t' := .int) (by decide) (by decide))))
  refine own_retV X106 hx hlk hret (hb hby own_d1_14) (by decide) (by decide) ?_
  rw [e106]
  exact ⟨rfl, N106, (((Keep.refl h0 [q]).wr W102 (Or.inl (List.mem_of_getElem? (i := 0) rfl))).wr W106 (Or.inl (List.mem_of_getElem? (i := 0) rfl))), ⟨f108, f109, f107, f110, f111, f112, f113, g1⟩⟩
theorem own_pn1 : plainName "com/example/limentinus/limentinus/simulator/RecordQueue$Block" = true := by first | (simp [plainName, overriddenIn]; done) | decide +kernel
theorem own_d7_0 : decode prog_86_method_1_code 0 = .ok (.aload_n 0, 1) := by decide +kernel
theorem own_d7_1 : decode prog_86_method_1_code 1 = .ok (.invokespecial 1, 3) := by decide +kernel
theorem own_d7_4 : decode prog_86_method_1_code 4 = .ok (.aload_n 0, 1) := by decide +kernel
theorem own_d7_5 : decode prog_86_method_1_code 5 = .ok (.iload_n 1, 1) := by decide +kernel
theorem own_d7_6 : decode prog_86_method_1_code 6 = .ok (.putfield 7, 3) := by decide +kernel
theorem own_d7_9 : decode prog_86_method_1_code 9 = .ok (.aload_n 0, 1) := by decide +kernel
theorem own_d7_10 : decode prog_86_method_1_code 10 = .ok (.aload_n 2, 1) := by decide +kernel
theorem own_d7_11 : decode prog_86_method_1_code 11 = .ok (.putfield 13, 3) := by decide +kernel
theorem own_d7_14 : decode prog_86_method_1_code 14 = .ok (.aload_n 0, 1) := by decide +kernel
theorem own_d7_15 : decode prog_86_method_1_code 15 = .ok (.aload_n 3, 1) := by decide +kernel
theorem own_d7_16 : decode prog_86_method_1_code 16 = .ok (.putfield 17, 3) := by decide +kernel
theorem own_d7_19 : decode prog_86_method_1_code 19 = .ok (.return_, 1) := by decide +kernel
def Q_own_bini (Z : State) (r1 : Addr) (u1 : Int32) (r2 : Addr) (r3 : Addr) (h0 : Heap) (n0 : Nat) (v : Option Value) (h : Heap) (L : List Loc) : Prop := v = none ∧ Fr n0 L ∧ Keep h0 h [r1] ∧ Exa Z h r1 "com/example/limentinus/limentinus/simulator/RecordQueue$Block" ∧ Fld Z h r1 "com/example/limentinus/limentinus/simulator/RecordQueue$Block" "records" "I" (.int u1) ∧ Fld Z h r1 "com/example/limentinus/limentinus/simulator/RecordQueue$Block" "references" "[Ljava/lang/Object;" (.ref r2) ∧ Fld Z h r1 "com/example/limentinus/limentinus/simulator/RecordQueue$Block" "next" "Lcom/example/limentinus/limentinus/simulator/RecordQueue$Block;" .null
theorem own_ef_own_bini (m : MethodId) (r1 : Addr) (u1 : Int32) (r2 : Addr) (r3 : Addr) : entryFrame m #[(.ref r1), (.int u1), (.ref r2), (.ref r3)] 4 = mkF m 0 #[rv r1, iv u1, rv r2, rv r3] [] := by first | (simp [entryFrame, mkF, argsToLocals, Value.category]; done) | rfl
set_option maxRecDepth 65536 in
set_option maxHeartbeats 40000000 in
theorem own_bini (l : Launch) (Z : State) (a0 : Array Value) (hw : ∀ d ∈ tables_1, d.before a0 Z = true) (ws : List Jvm.Cond) (r1 : Addr) (u1 : Int32) (r2 : Addr) (r3 : Addr) (h0 : Heap) (n0 : Nat) (Z0 : n0 ≤ h0.size) (E1 : Exa Z h0 r1 "com/example/limentinus/limentinus/simulator/RecordQueue$Block") (F1 : Fld Z h0 r1 "com/example/limentinus/limentinus/simulator/RecordQueue$Block" "records" "I" (.int (0 : Int32))) (F2 : Fld Z h0 r1 "com/example/limentinus/limentinus/simulator/RecordQueue$Block" "references" "[Ljava/lang/Object;" .null) (F3 : Fld Z h0 r1 "com/example/limentinus/limentinus/simulator/RecordQueue$Block" "numbers" "[J" .null) (F4 : Fld Z h0 r1 "com/example/limentinus/limentinus/simulator/RecordQueue$Block" "next" "Lcom/example/limentinus/limentinus/simulator/RecordQueue$Block;" .null) (g1 : n0 ≤ r1) :
    own_Ctr l Z (⟨"com/example/limentinus/limentinus/simulator/RecordQueue$Block", "<init>", "(I[Ljava/lang/Object;[J)V"⟩ : MethodName) prog_86_method_1_code 4 none ws ({ frames := 1, cells := 0, slots := 0, locals := 12 } : Room) (({ frames := 1, cells := 0, slots := 0, locals := 12 } : Room)).cells (({ frames := 1, cells := 0, slots := 0, locals := 12 } : Room)).slots #[(.ref r1), (.int u1), (.ref r2), (.ref r3)] h0 (Q_own_bini Z r1 u1 r2 r3 h0 n0) := by
  refine own_enter (plainFor_of_name own_pn1) ?_
  intro p e s m below meth c s₁ X0 hx hZ hby hml hown hnm hlk hret e0
  have N0 := Fr.nil n0
  refine own_cast (own_ef_own_bini m r1 u1 r2 r3) ?_
  refine own_by (g' := (mkF m 1 #[rv r1, iv u1, rv r2, rv r3] [(.ref r1)])) (fun t k => XS.aloadN X0.here hx rfl (hb hby own_d7_0) rfl rfl k) ?_
  obtain ⟨T101, X101, e101, st101⟩ := initO X0 hx hZ hown (hw _ (List.mem_of_getElem? (i := 48) rfl)) (hw _ (List.mem_of_getElem? (i := 7) rfl)) (hw _ (List.mem_of_getElem? (i := 8) rfl)) e0 (g := (mkF m 1 #[rv r1, iv u1, rv r2, rv r3] [(.ref r1)])) rfl (by rw [hml]; rfl) rfl (hb hby own_d7_1) (by decide) (W := 0) (by show 2 * 0 + _ ≤ _; exact Nat.le_of_eq rfl) (by decide)
  refine own_by (g' := (mkF m 4 #[rv r1, iv u1, rv r2, rv r3] [])) st101 ?_
  refine own_by (g' := (mkF m 6 #[rv r1, iv u1, rv r2, rv r3] [(.int u1), (.ref r1)])) (fun t k => XS.aloadN X101.here hx rfl (hb hby own_d7_4) rfl rfl (XS.iloadN X101.here hx rfl (hb hby own_d7_5) rfl k)) ?_
  obtain ⟨T102, h102, X102, e102, W102, st102⟩ := putF X101 hx hZ hown (host := "") (Or.inl (hw _ (List.mem_of_getElem? (i := 49) rfl))) Via.refl e101 F1 E1 (Or.inr ⟨(hw _ (List.mem_of_getElem? (i := 50) rfl)), rfl, hnm⟩) (hw _ (List.mem_of_getElem? (i := 40) rfl)) (ty := .int) (by decide) rfl rfl (g := (mkF m 6 #[rv r1, iv u1, rv r2, rv r3] [(.int u1), (.ref r1)])) rfl rfl (hb hby own_d7_6)
  have f103 := F1.same W102
  have N102 := Fr.snoc X102 N0 g1
  refine own_by (g' := (mkF m 9 #[rv r1, iv u1, rv r2, rv r3] [])) st102 ?_
  refine own_by (g' := (mkF m 11 #[rv r1, iv u1, rv r2, rv r3] [(.ref r2), (.ref r1)])) (fun t k => XS.aloadN X102.here hx rfl (hb hby own_d7_9) rfl rfl (XS.aloadN X102.here hx rfl (hb hby own_d7_10) rfl rfl k)) ?_
  have f104 := (F2.other W102 (Or.inr (slot_ne (Or.inr (hw _ (List.mem_of_getElem? (i := 52) rfl))) (Or.inr (hw _ (List.mem_of_getElem? (i := 50) rfl))) (by decide) (t := (.array (.object "java/lang/Object"))) (t' := .int) (by decide) (by decide))))
  have f105 := (E1.wr W102)
  obtain ⟨T106, h106, X106, e106, W106, st106⟩ := putF X102 hx hZ hown (host := "") (Or.inl (hw _ (List.mem_of_getElem? (i := 51) rfl))) Via.refl e102 f104 f105 (Or.inr ⟨(hw _ (List.mem_of_getElem? (i := 52) rfl)), rfl, hnm⟩) (hw _ (List.mem_of_getElem? (i := 40) rfl)) (ty := (.array (.object "java/lang/Object"))) (by decide) rfl rfl (g := (mkF m 11 #[rv r1, iv u1, rv r2, rv r3] [(.ref r2), (.ref r1)])) rfl rfl (hb hby own_d7_11)
  have f107 := f104.same W106
  have N106 := Fr.snoc X106 N102 g1
  refine own_by (g' := (mkF m 14 #[rv r1, iv u1, rv r2, rv r3] [])) st106 ?_
  refine own_by (g' := (mkF m 16 #[rv r1, iv u1, rv r2, rv r3] [(.ref r3), (.ref r1)])) (fun t k => XS.aloadN X106.here hx rfl (hb hby own_d7_14) rfl rfl (XS.aloadN X106.here hx rfl (hb hby own_d7_15) rfl rfl k)) ?_
  have f108 := ((F3.other W102 (Or.inr (slot_ne (Or.inr (hw _ (List.mem_of_getElem? (i := 54) rfl))) (Or.inr (hw _ (List.mem_of_getElem? (i := 50) rfl))) (by decide) (t := (.array .long)) (t' := .int) (by decide) (by decide)))).other W106 (Or.inr (slot_ne (Or.inr (hw _ (List.mem_of_getElem? (i := 54) rfl))) (Or.inr (hw _ (List.mem_of_getElem? (i := 52) rfl))) (by decide) (t := (.array .long)) (t' := (.array (.object "java/lang/Object"))) (by decide) (by decide))))
  have f109 := (f105.wr W106)
  obtain ⟨T110, h110, X110, e110, W110, st110⟩ := putF X106 hx hZ hown (host := "") (Or.inl (hw _ (List.mem_of_getElem? (i := 53) rfl))) Via.refl e106 f108 f109 (Or.inr ⟨(hw _ (List.mem_of_getElem? (i := 54) rfl)), rfl, hnm⟩) (hw _ (List.mem_of_getElem? (i := 40) rfl)) (ty := (.array .long)) (by decide) rfl rfl (g := (mkF m 16 #[rv r1, iv u1, rv r2, rv r3] [(.ref r3), (.ref r1)])) rfl rfl (hb hby own_d7_16)
  have f111 := f108.same W110
  have N110 := Fr.snoc X110 N106 g1
  refine own_by (g' := (mkF m 19 #[rv r1, iv u1, rv r2, rv r3] [])) st110 ?_
  have f112 := (f109.wr W110)
  have f113 := ((f103.other W106 (Or.inr (slot_ne (Or.inr (hw _ (List.mem_of_getElem? (i := 50) rfl))) (Or.inr (hw _ (List.mem_of_getElem? (i := 52) rfl))) (by decide) (t := .int) (t' := (.array (.object "java/lang/Object"))) (by decide) (by decide)))).other W110 (Or.inr (slot_ne (Or.inr (hw _ (List.mem_of_getElem? (i := 50) rfl))) (Or.inr (hw _ (List.mem_of_getElem? (i := 54) rfl))) (by decide) (t := .int) (t' := (.array .long)) (by decide) (by decide))))
  have f114 := (f107.other W110 (Or.inr (slot_ne (Or.inr (hw _ (List.mem_of_getElem? (i := 52) rfl))) (Or.inr (hw _ (List.mem_of_getElem? (i := 54) rfl))) (by decide) (t := (.array (.object "java/lang/Object"))) (t' := (.array .long)) (by decide) (by decide))))
  have f115 := (((F4.other W102 (Or.inr (slot_ne (Or.inl (hw _ (List.mem_of_getElem? (i := 72) rfl))) (Or.inr (hw _ (List.mem_of_getElem? (i := 50) rfl))) (by decide) (t := (.object "com/example/limentinus/limentinus/simulator/RecordQueue$Block")) (t' := .int) (by decide) (by decide)))).other W106 (Or.inr (slot_ne (Or.inl (hw _ (List.mem_of_getElem? (i := 72) rfl))) (Or.inr (hw _ (List.mem_of_getElem? (i := 52) rfl))) (by decide) (t := (.object "com/example/limentinus/limentinus/simulator/RecordQueue$Block")) (t' := (.array (.object "java/lang/Object"))) (by decide) (by decide)))).other W110 (Or.inr (slot_ne (Or.inl (hw _ (List.mem_of_getElem? (i := 72) rfl))) (Or.inr (hw _ (List.mem_of_getElem? (i := 54) rfl))) (by decide) (t := (.object "com/example/limentinus/limentinus/simulator/RecordQueue$Block")) (t' := (.array .long)) (by decide) (by decide))))
  refine own_retV X110 hx hlk hret (hb hby own_d7_19) (by decide) (by decide) ?_
  rw [e110]
  exact ⟨rfl, N110, ((((Keep.refl h0 [r1]).wr W102 (Or.inl (List.mem_of_getElem? (i := 0) rfl))).wr W106 (Or.inl (List.mem_of_getElem? (i := 0) rfl))).wr W110 (Or.inl (List.mem_of_getElem? (i := 0) rfl))), f112, f113, f114, f115⟩
theorem own_d6_0 : decode prog_85_method_10_code 0 = .ok (.new 34, 3) := by decide +kernel
theorem own_d6_3 : decode prog_85_method_10_code 3 = .ok (.dup, 1) := by decide +kernel
theorem own_d6_4 : decode prog_85_method_10_code 4 = .ok (.iload_n 1, 1) := by decide +kernel
theorem own_d6_5 : decode prog_85_method_10_code 5 = .ok (.iload_n 1, 1) := by decide +kernel
theorem own_d6_6 : decode prog_85_method_10_code 6 = .ok (.aload_n 0, 1) := by decide +kernel
theorem own_d6_7 : decode prog_85_method_10_code 7 = .ok (.getfield 7, 3) := by decide +kernel
theorem own_d6_10 : decode prog_85_method_10_code 10 = .ok (.imul, 1) := by decide +kernel
theorem own_d6_11 : decode prog_85_method_10_code 11 = .ok (.anewarray 2, 3) := by decide +kernel
theorem own_ad_java_lang_Object : "[" ++ (FieldType.object "java/lang/Object").toString = "[Ljava/lang/Object;" := by decide +kernel
theorem own_d6_14 : decode prog_85_method_10_code 14 = .ok (.iload_n 1, 1) := by decide +kernel
theorem own_d6_15 : decode prog_85_method_10_code 15 = .ok (.aload_n 0, 1) := by decide +kernel
theorem own_d6_16 : decode prog_85_method_10_code 16 = .ok (.getfield 13, 3) := by decide +kernel
theorem own_d6_19 : decode prog_85_method_10_code 19 = .ok (.imul, 1) := by decide +kernel
theorem own_d6_20 : decode prog_85_method_10_code 20 = .ok (.newarray .long, 2) := by decide +kernel
theorem own_ad_long : "[" ++ (newarray.typeOf .long).toString = "[J" := by decide +kernel
theorem own_d6_22 : decode prog_85_method_10_code 22 = .ok (.invokespecial 68, 3) := by decide +kernel
theorem own_pd0 : parseMethodDescriptor "(I[Ljava/lang/Object;[J)V" = some ⟨[.int, (.array (.object "java/lang/Object")), (.array .long)], none⟩ := by decide +kernel
theorem own_d6_25 : decode prog_85_method_10_code 25 = .ok (.areturn, 1) := by decide +kernel
def Q_own_block2 (Z : State) (q : Addr) (r : Int32) (w : Int32) (h0 : Heap) (n0 : Nat) (v : Option Value) (h : Heap) (L : List Loc) : Prop := ∃ (bo : Addr), ∃ (ba : Addr), v = some (.ref bo) ∧ Fr n0 L ∧ Keep h0 h [] ∧ h0.size ≤ bo ∧ h0.size ≤ ba ∧ Exa Z h bo "com/example/limentinus/limentinus/simulator/RecordQueue$Block" ∧ Fld Z h bo "com/example/limentinus/limentinus/simulator/RecordQueue$Block" "records" "I" (.int (2 : Int32)) ∧ Fld Z h bo "com/example/limentinus/limentinus/simulator/RecordQueue$Block" "references" "[Ljava/lang/Object;" (.ref ba) ∧ Fld Z h bo "com/example/limentinus/limentinus/simulator/RecordQueue$Block" "next" "Lcom/example/limentinus/limentinus/simulator/RecordQueue$Block;" .null ∧ own_Arz Z h ba (.object "java/lang/Object") ((2 : Int32) * r)
theorem own_ef_own_block2 (m : MethodId) (q : Addr) : entryFrame m #[(.ref q), (.int (2 : Int32))] 2 = mkF m 0 #[rv q, iv (2 : Int32)] [] := by first | (simp [entryFrame, mkF, argsToLocals, Value.category]; done) | rfl
set_option maxRecDepth 65536 in
set_option maxHeartbeats 40000000 in
theorem own_block2 (l : Launch) (Z : State) (a0 : Array Value) (hw : ∀ d ∈ tables_1, d.before a0 Z = true) (ws : List Jvm.Cond) (q : Addr) (r : Int32) (w : Int32) (h0 : Heap) (n0 : Nat) (Z0 : n0 ≤ h0.size) (F1 : Fld Z h0 q "com/example/limentinus/limentinus/simulator/RecordQueue" "references" "I" (.int r)) (F2 : Fld Z h0 q "com/example/limentinus/limentinus/simulator/RecordQueue" "numbers" "I" (.int w)) (hr : own_03 r) (hw3 : own_03 w) :
    own_Ctr l Z (⟨"com/example/limentinus/limentinus/simulator/RecordQueue", "block", "(I)Lcom/example/limentinus/limentinus/simulator/RecordQueue$Block;"⟩ : MethodName) prog_85_method_10_code 2 (some (.object "com/example/limentinus/limentinus/simulator/RecordQueue$Block")) ws ({ frames := 2, cells := 3, slots := 16, locals := 28 } : Room) (({ frames := 2, cells := 3, slots := 16, locals := 28 } : Room)).cells (({ frames := 2, cells := 3, slots := 16, locals := 28 } : Room)).slots #[(.ref q), (.int (2 : Int32))] h0 (Q_own_block2 Z q r w h0 n0) := by
  refine own_enter (plainFor_of_name own_pn0) ?_
  intro p e s m below meth c s₁ X0 hx hZ hby hml hown hnm hlk hret e0
  have N0 := Fr.nil n0
  refine own_cast (own_ef_own_block2 m q) ?_
  obtain ⟨T101, h101, X101, e101, E101, A101, D101, U101, st101⟩ := newO X0 hx hZ hown (hw _ (List.mem_of_getElem? (i := 39) rfl)) (hw _ (List.mem_of_getElem? (i := 40) rfl)) (hw _ (List.mem_of_getElem? (i := 41) rfl)) e0 (g := (mkF m 0 #[rv q, iv (2 : Int32)] [])) rfl (hb hby own_d6_0) (by decide) (by decide)
  obtain ⟨b101, g101⟩ : ∃ z, z = h0.size := ⟨_, rfl⟩
  rw [← g101] at A101 D101 U101 st101
  have sz_b101 : h0.size ≤ b101 := Nat.le_trans (Nat.le_refl _) (Nat.le_of_eq g101.symm)
  have g_b101 : n0 ≤ b101 := Nat.le_trans Z0 sz_b101
  have f102 : Fld Z h101 b101 "com/example/limentinus/limentinus/simulator/RecordQueue$Block" "records" "I" (.int (0 : Int32)) := D101 (Or.inr (hw _ (List.mem_of_getElem? (i := 50) rfl))) (ty := .int) (by decide)
  have f103 : Fld Z h101 b101 "com/example/limentinus/limentinus/simulator/RecordQueue$Block" "references" "[Ljava/lang/Object;" .null := D101 (Or.inr (hw _ (List.mem_of_getElem? (i := 52) rfl))) (ty := (.array (.object "java/lang/Object"))) (by decide)
  have f104 : Fld Z h101 b101 "com/example/limentinus/limentinus/simulator/RecordQueue$Block" "numbers" "[J" .null := D101 (Or.inr (hw _ (List.mem_of_getElem? (i := 54) rfl))) (ty := (.array .long)) (by decide)
  have f105 : Fld Z h101 b101 "com/example/limentinus/limentinus/simulator/RecordQueue$Block" "next" "Lcom/example/limentinus/limentinus/simulator/RecordQueue$Block;" .null := D101 (Or.inl (hw _ (List.mem_of_getElem? (i := 72) rfl))) (ty := (.object "com/example/limentinus/limentinus/simulator/RecordQueue$Block")) (by decide)
  refine own_by (g' := (mkF m 3 #[rv q, iv (2 : Int32)] [(.ref b101)])) st101 ?_
  refine own_by (g' := (mkF m 7 #[rv q, iv (2 : Int32)] [(.ref q), (.int (2 : Int32)), (.int (2 : Int32)), (.ref b101), (.ref b101)])) (fun t k => XS.dup X101.here hx rfl (hb hby own_d6_3) rfl rfl (XS.iloadN X101.here hx rfl (hb hby own_d6_4) rfl (XS.iloadN X101.here hx rfl (hb hby own_d6_5) rfl (XS.aloadN X101.here hx rfl (hb hby own_d6_6) rfl rfl k)))) ?_
  have f106 := (F1.ext E101)
  obtain ⟨T107, X107, e107, st107⟩ := getF X101 hx hZ hown (host := "") (Or.inl (hw _ (List.mem_of_getElem? (i := 9) rfl))) Via.refl e101 f106 (g := (mkF m 7 #[rv q, iv (2 : Int32)] [(.ref q), (.int (2 : Int32)), (.int (2 : Int32)), (.ref b101), (.ref b101)])) rfl rfl (hb hby own_d6_7)
  refine own_by (g' := (mkF m 10 #[rv q, iv (2 : Int32)] [(.int r), (.int (2 : Int32)), (.int (2 : Int32)), (.ref b101), (.ref b101)])) st107 ?_
  refine own_by (g' := (mkF m 11 #[rv q, iv (2 : Int32)] [(.int ((2 : Int32) * r)), (.int (2 : Int32)), (.ref b101), (.ref b101)])) (fun t k => XS.imul X107.here hx rfl (hb hby own_d6_10) rfl k) ?_
  obtain ⟨T108, h108, k108, X108, e108, E108, A108, Y108, O108, st108⟩ := newRE X107 hx hZ hown (hw _ (List.mem_of_getElem? (i := 42) rfl)) (hw _ (List.mem_of_getElem? (i := 43) rfl)) e107 (g := (mkF m 11 #[rv q, iv (2 : Int32)] [(.int ((2 : Int32) * r)), (.int (2 : Int32)), (.ref b101), (.ref b101)])) rfl (hb hby own_d6_11) rfl (own_cap2 hr).1 (cap := 6) (own_cap2 hr).2 (by decide) (by decide) (by decide) (ad := "[Ljava/lang/Object;") own_ad_java_lang_Object
  obtain ⟨b108, g108⟩ : ∃ z, z = h101.size := ⟨_, rfl⟩
  rw [← g108] at A108 Y108 st108
  have sz_b108 : h0.size ≤ b108 := Nat.le_trans E101.1 (Nat.le_of_eq g108.symm)
  have g_b108 : n0 ≤ b108 := Nat.le_trans Z0 sz_b108
  have V108 : Arv Z h108 b108 k108 (.object "java/lang/Object") ((2 : Int32) * r) [] .null := Arv.new A108 (own_cap2 hr).1
  refine own_by (g' := (mkF m 14 #[rv q, iv (2 : Int32)] [(.ref b108), (.int (2 : Int32)), (.ref b101), (.ref b101)])) st108 ?_
  refine own_by (g' := (mkF m 16 #[rv q, iv (2 : Int32)] [(.ref q), (.int (2 : Int32)), (.ref b108), (.int (2 : Int32)), (.ref b101), (.ref b101)])) (fun t k => XS.iloadN X108.here hx rfl (hb hby own_d6_14) rfl (XS.aloadN X108.here hx rfl (hb hby own_d6_15) rfl rfl k)) ?_
  have f109 := ((F2.ext E101).ext E108)
  obtain ⟨T110, X110, e110, st110⟩ := getF X108 hx hZ hown (host := "") (Or.inl (hw _ (List.mem_of_getElem? (i := 11) rfl))) Via.refl e108 f109 (g := (mkF m 16 #[rv q, iv (2 : Int32)] [(.ref q), (.int (2 : Int32)), (.ref b108), (.int (2 : Int32)), (.ref b101), (.ref b101)])) rfl rfl (hb hby own_d6_16)
  refine own_by (g' := (mkF m 19 #[rv q, iv (2 : Int32)] [(.int w), (.int (2 : Int32)), (.ref b108), (.int (2 : Int32)), (.ref b101), (.ref b101)])) st110 ?_
  refine own_by (g' := (mkF m 20 #[rv q, iv (2 : Int32)] [(.int ((2 : Int32) * w)), (.ref b108), (.int (2 : Int32)), (.ref b101), (.ref b101)])) (fun t k => XS.imul X110.here hx rfl (hb hby own_d6_19) rfl k) ?_
  obtain ⟨T111, h111, k111, X111, e111, E111, A111, Y111, st111⟩ := newPE X110 hx hZ (hw _ (List.mem_of_getElem? (i := 44) rfl)) e110 (g := (mkF m 20 #[rv q, iv (2 : Int32)] [(.int ((2 : Int32) * w)), (.ref b108), (.int (2 : Int32)), (.ref b101), (.ref b101)])) rfl (hb hby own_d6_20) rfl (own_cap2 hw3).1 (cap := 6) (own_cap2 hw3).2 (by decide) (by decide) (by decide) (ad := "[J") own_ad_long
  obtain ⟨b111, g111⟩ : ∃ z, z = h108.size := ⟨_, rfl⟩
  rw [← g111] at A111 Y111 st111
  have sz_b111 : h0.size ≤ b111 := Nat.le_trans (Nat.le_trans E101.1 E108.1) (Nat.le_of_eq g111.symm)
  have g_b111 : n0 ≤ b111 := Nat.le_trans Z0 sz_b111
  have V111 : Arv Z h111 b111 k111 .long ((2 : Int32) * w) [] (.long (0 : Int64)) := Arv.new A111 (own_cap2 hw3).1
  refine own_by (g' := (mkF m 22 #[rv q, iv (2 : Int32)] [(.ref b111), (.ref b108), (.int (2 : Int32)), (.ref b101), (.ref b101)])) st111 ?_
  have f112 := ((A101.ext E108).ext E111)
  have f113 := ((f102.ext E108).ext E111)
  have f114 := ((f103.ext E108).ext E111)
  have f115 := ((f104.ext E108).ext E111)
  have f116 := ((f105.ext E108).ext E111)
  refine own_callIR X111 hx hZ hown rfl (hw _ (List.mem_of_getElem? (i := 45) rfl)) (hw _ (List.mem_of_getElem? (i := 46) rfl)) (hw _ (List.mem_of_getElem? (i := 41) rfl)) (hw _ (List.mem_of_getElem? (i := 47) rfl)) (by decide) (a := b101) (own_bini l Z a0 hw [] (b101) ((2 : Int32)) (b108) (b111) h111 n0 (Nat.le_trans Z0 (Nat.le_trans (Nat.le_trans E101.1 E108.1) E111.1)) f112 f113 f114 f115 f116 g_b101) 1 (by decide) (by decide) (by decide) (by decide) e111 (g := (mkF m 22 #[rv q, iv (2 : Int32)] [(.ref b111), (.ref b108), (.int (2 : Int32)), (.ref b101), (.ref b101)])) rfl (by rw [hml]; rfl) (argsL := [(.int (2 : Int32)), (.ref b108), (.ref b111)]) (rest := [(.ref b101)]) (lenOf own_pd0 rfl) rfl (by show 2 * 0 + _ ≤ _; exact Nat.le_of_eq rfl) (hb hby own_d6_22) ?_
  intro v117 T117 L117 X117 q117
  obtain ⟨rfl, N117q, K117, f118, f119, f120, f121⟩ := q117
  have N117 := Fr.app N0 N117q
  show own_Goes p e below s _ _ _ T117 (mkF m 25 #[rv q, iv (2 : Int32)] [(.ref b101)])
  have f122 := ((V108.ext E111).keep K117 (ninS (Ne.symm (Nat.ne_of_lt (Nat.lt_of_lt_of_le (Nat.lt_of_lt_of_le A101.lt (Nat.le_refl _)) (Nat.le_of_eq g108.symm)))) nin0))
  refine own_retA X117 hx hlk hret rfl rfl (hb hby own_d6_25) (by decide) (by decide) ?_
  exact ⟨b101, b108, rfl, N117, (((((Keep.refl h0 []).ext E101).ext E108).ext E111).trans K117 (allS (Or.inr sz_b101) all0)), sz_b101, sz_b108, f118, f119, f120, f121, (own_Arz.of f122)⟩
def Q_own_block4 (Z : State) (q : Addr) (r : Int32) (w : Int32) (h0 : Heap) (n0 : Nat) (v : Option Value) (h : Heap) (L : List Loc) : Prop := ∃ (bo : Addr), ∃ (ba : Addr), v = some (.ref bo) ∧ Fr n0 L ∧ Keep h0 h [] ∧ h0.size ≤ bo ∧ h0.size ≤ ba ∧ Exa Z h bo "com/example/limentinus/limentinus/simulator/RecordQueue$Block" ∧ Fld Z h bo "com/example/limentinus/limentinus/simulator/RecordQueue$Block" "records" "I" (.int (4 : Int32)) ∧ Fld Z h bo "com/example/limentinus/limentinus/simulator/RecordQueue$Block" "references" "[Ljava/lang/Object;" (.ref ba) ∧ Fld Z h bo "com/example/limentinus/limentinus/simulator/RecordQueue$Block" "next" "Lcom/example/limentinus/limentinus/simulator/RecordQueue$Block;" .null ∧ own_Arz Z h ba (.object "java/lang/Object") ((4 : Int32) * r)
theorem own_ef_own_block4 (m : MethodId) (q : Addr) : entryFrame m #[(.ref q), (.int (4 : Int32))] 2 = mkF m 0 #[rv q, iv (4 : Int32)] [] := by first | (simp [entryFrame, mkF, argsToLocals, Value.category]; done) | rfl
set_option maxRecDepth 65536 in
set_option maxHeartbeats 40000000 in
theorem own_block4 (l : Launch) (Z : State) (a0 : Array Value) (hw : ∀ d ∈ tables_1, d.before a0 Z = true) (ws : List Jvm.Cond) (q : Addr) (r : Int32) (w : Int32) (h0 : Heap) (n0 : Nat) (Z0 : n0 ≤ h0.size) (F1 : Fld Z h0 q "com/example/limentinus/limentinus/simulator/RecordQueue" "references" "I" (.int r)) (F2 : Fld Z h0 q "com/example/limentinus/limentinus/simulator/RecordQueue" "numbers" "I" (.int w)) (hr : own_03 r) (hw3 : own_03 w) :
    own_Ctr l Z (⟨"com/example/limentinus/limentinus/simulator/RecordQueue", "block", "(I)Lcom/example/limentinus/limentinus/simulator/RecordQueue$Block;"⟩ : MethodName) prog_85_method_10_code 2 (some (.object "com/example/limentinus/limentinus/simulator/RecordQueue$Block")) ws ({ frames := 2, cells := 3, slots := 28, locals := 28 } : Room) (({ frames := 2, cells := 3, slots := 28, locals := 28 } : Room)).cells (({ frames := 2, cells := 3, slots := 28, locals := 28 } : Room)).slots #[(.ref q), (.int (4 : Int32))] h0 (Q_own_block4 Z q r w h0 n0) := by
  refine own_enter (plainFor_of_name own_pn0) ?_
  intro p e s m below meth c s₁ X0 hx hZ hby hml hown hnm hlk hret e0
  have N0 := Fr.nil n0
  refine own_cast (own_ef_own_block4 m q) ?_
  obtain ⟨T101, h101, X101, e101, E101, A101, D101, U101, st101⟩ := newO X0 hx hZ hown (hw _ (List.mem_of_getElem? (i := 39) rfl)) (hw _ (List.mem_of_getElem? (i := 40) rfl)) (hw _ (List.mem_of_getElem? (i := 41) rfl)) e0 (g := (mkF m 0 #[rv q, iv (4 : Int32)] [])) rfl (hb hby own_d6_0) (by decide) (by decide)
  obtain ⟨b101, g101⟩ : ∃ z, z = h0.size := ⟨_, rfl⟩
  rw [← g101] at A101 D101 U101 st101
  have sz_b101 : h0.size ≤ b101 := Nat.le_trans (Nat.le_refl _) (Nat.le_of_eq g101.symm)
  have g_b101 : n0 ≤ b101 := Nat.le_trans Z0 sz_b101
  have f102 : Fld Z h101 b101 "com/example/limentinus/limentinus/simulator/RecordQueue$Block" "records" "I" (.int (0 : Int32)) := D101 (Or.inr (hw _ (List.mem_of_getElem? (i := 50) rfl))) (ty := .int) (by decide)
  have f103 : Fld Z h101 b101 "com/example/limentinus/limentinus/simulator/RecordQueue$Block" "references" "[Ljava/lang/Object;" .null := D101 (Or.inr (hw _ (List.mem_of_getElem? (i := 52) rfl))) (ty := (.array (.object "java/lang/Object"))) (by decide)
  have f104 : Fld Z h101 b101 "com/example/limentinus/limentinus/simulator/RecordQueue$Block" "numbers" "[J" .null := D101 (Or.inr (hw _ (List.mem_of_getElem? (i := 54) rfl))) (ty := (.array .long)) (by decide)
  have f105 : Fld Z h101 b101 "com/example/limentinus/limentinus/simulator/RecordQueue$Block" "next" "Lcom/example/limentinus/limentinus/simulator/RecordQueue$Block;" .null := D101 (Or.inl (hw _ (List.mem_of_getElem? (i := 72) rfl))) (ty := (.object "com/example/limentinus/limentinus/simulator/RecordQueue$Block")) (by decide)
  refine own_by (g' := (mkF m 3 #[rv q, iv (4 : Int32)] [(.ref b101)])) st101 ?_
  refine own_by (g' := (mkF m 7 #[rv q, iv (4 : Int32)] [(.ref q), (.int (4 : Int32)), (.int (4 : Int32)), (.ref b101), (.ref b101)])) (fun t k => XS.dup X101.here hx rfl (hb hby own_d6_3) rfl rfl (XS.iloadN X101.here hx rfl (hb hby own_d6_4) rfl (XS.iloadN X101.here hx rfl (hb hby own_d6_5) rfl (XS.aloadN X101.here hx rfl (hb hby own_d6_6) rfl rfl k)))) ?_
  have f106 := (F1.ext E101)
  obtain ⟨T107, X107, e107, st107⟩ := getF X101 hx hZ hown (host := "") (Or.inl (hw _ (List.mem_of_getElem? (i := 9) rfl))) Via.refl e101 f106 (g := (mkF m 7 #[rv q, iv (4 : Int32)] [(.ref q), (.int (4 : Int32)), (.int (4 : Int32)), (.ref b101), (.ref b101)])) rfl rfl (hb hby own_d6_7)
  refine own_by (g' := (mkF m 10 #[rv q, iv (4 : Int32)] [(.int r), (.int (4 : Int32)), (.int (4 : Int32)), (.ref b101), (.ref b101)])) st107 ?_
  refine own_by (g' := (mkF m 11 #[rv q, iv (4 : Int32)] [(.int ((4 : Int32) * r)), (.int (4 : Int32)), (.ref b101), (.ref b101)])) (fun t k => XS.imul X107.here hx rfl (hb hby own_d6_10) rfl k) ?_
  obtain ⟨T108, h108, k108, X108, e108, E108, A108, Y108, O108, st108⟩ := newRE X107 hx hZ hown (hw _ (List.mem_of_getElem? (i := 42) rfl)) (hw _ (List.mem_of_getElem? (i := 43) rfl)) e107 (g := (mkF m 11 #[rv q, iv (4 : Int32)] [(.int ((4 : Int32) * r)), (.int (4 : Int32)), (.ref b101), (.ref b101)])) rfl (hb hby own_d6_11) rfl (own_cap4 hr).1 (cap := 12) (own_cap4 hr).2 (by decide) (by decide) (by decide) (ad := "[Ljava/lang/Object;") own_ad_java_lang_Object
  obtain ⟨b108, g108⟩ : ∃ z, z = h101.size := ⟨_, rfl⟩
  rw [← g108] at A108 Y108 st108
  have sz_b108 : h0.size ≤ b108 := Nat.le_trans E101.1 (Nat.le_of_eq g108.symm)
  have g_b108 : n0 ≤ b108 := Nat.le_trans Z0 sz_b108
  have V108 : Arv Z h108 b108 k108 (.object "java/lang/Object") ((4 : Int32) * r) [] .null := Arv.new A108 (own_cap4 hr).1
  refine own_by (g' := (mkF m 14 #[rv q, iv (4 : Int32)] [(.ref b108), (.int (4 : Int32)), (.ref b101), (.ref b101)])) st108 ?_
  refine own_by (g' := (mkF m 16 #[rv q, iv (4 : Int32)] [(.ref q), (.int (4 : Int32)), (.ref b108), (.int (4 : Int32)), (.ref b101), (.ref b101)])) (fun t k => XS.iloadN X108.here hx rfl (hb hby own_d6_14) rfl (XS.aloadN X108.here hx rfl (hb hby own_d6_15) rfl rfl k)) ?_
  have f109 := ((F2.ext E101).ext E108)
  obtain ⟨T110, X110, e110, st110⟩ := getF X108 hx hZ hown (host := "") (Or.inl (hw _ (List.mem_of_getElem? (i := 11) rfl))) Via.refl e108 f109 (g := (mkF m 16 #[rv q, iv (4 : Int32)] [(.ref q), (.int (4 : Int32)), (.ref b108), (.int (4 : Int32)), (.ref b101), (.ref b101)])) rfl rfl (hb hby own_d6_16)
  refine own_by (g' := (mkF m 19 #[rv q, iv (4 : Int32)] [(.int w), (.int (4 : Int32)), (.ref b108), (.int (4 : Int32)), (.ref b101), (.ref b101)])) st110 ?_
  refine own_by (g' := (mkF m 20 #[rv q, iv (4 : Int32)] [(.int ((4 : Int32) * w)), (.ref b108), (.int (4 : Int32)), (.ref b101), (.ref b101)])) (fun t k => XS.imul X110.here hx rfl (hb hby own_d6_19) rfl k) ?_
  obtain ⟨T111, h111, k111, X111, e111, E111, A111, Y111, st111⟩ := newPE X110 hx hZ (hw _ (List.mem_of_getElem? (i := 44) rfl)) e110 (g := (mkF m 20 #[rv q, iv (4 : Int32)] [(.int ((4 : Int32) * w)), (.ref b108), (.int (4 : Int32)), (.ref b101), (.ref b101)])) rfl (hb hby own_d6_20) rfl (own_cap4 hw3).1 (cap := 12) (own_cap4 hw3).2 (by decide) (by decide) (by decide) (ad := "[J") own_ad_long
  obtain ⟨b111, g111⟩ : ∃ z, z = h108.size := ⟨_, rfl⟩
  rw [← g111] at A111 Y111 st111
  have sz_b111 : h0.size ≤ b111 := Nat.le_trans (Nat.le_trans E101.1 E108.1) (Nat.le_of_eq g111.symm)
  have g_b111 : n0 ≤ b111 := Nat.le_trans Z0 sz_b111
  have V111 : Arv Z h111 b111 k111 .long ((4 : Int32) * w) [] (.long (0 : Int64)) := Arv.new A111 (own_cap4 hw3).1
  refine own_by (g' := (mkF m 22 #[rv q, iv (4 : Int32)] [(.ref b111), (.ref b108), (.int (4 : Int32)), (.ref b101), (.ref b101)])) st111 ?_
  have f112 := ((A101.ext E108).ext E111)
  have f113 := ((f102.ext E108).ext E111)
  have f114 := ((f103.ext E108).ext E111)
  have f115 := ((f104.ext E108).ext E111)
  have f116 := ((f105.ext E108).ext E111)
  refine own_callIR X111 hx hZ hown rfl (hw _ (List.mem_of_getElem? (i := 45) rfl)) (hw _ (List.mem_of_getElem? (i := 46) rfl)) (hw _ (List.mem_of_getElem? (i := 41) rfl)) (hw _ (List.mem_of_getElem? (i := 47) rfl)) (by decide) (a := b101) (own_bini l Z a0 hw [] (b101) ((4 : Int32)) (b108) (b111) h111 n0 (Nat.le_trans Z0 (Nat.le_trans (Nat.le_trans E101.1 E108.1) E111.1)) f112 f113 f114 f115 f116 g_b101) 1 (by decide) (by decide) (by decide) (by decide) e111 (g := (mkF m 22 #[rv q, iv (4 : Int32)] [(.ref b111), (.ref b108), (.int (4 : Int32)), (.ref b101), (.ref b101)])) rfl (by rw [hml]; rfl) (argsL := [(.int (4 : Int32)), (.ref b108), (.ref b111)]) (rest := [(.ref b101)]) (lenOf own_pd0 rfl) rfl (by show 2 * 0 + _ ≤ _; exact Nat.le_of_eq rfl) (hb hby own_d6_22) ?_
  intro v117 T117 L117 X117 q117
  obtain ⟨rfl, N117q, K117, f118, f119, f120, f121⟩ := q117
  have N117 := Fr.app N0 N117q
  show own_Goes p e below s _ _ _ T117 (mkF m 25 #[rv q, iv (4 : Int32)] [(.ref b101)])
  have f122 := ((V108.ext E111).keep K117 (ninS (Ne.symm (Nat.ne_of_lt (Nat.lt_of_lt_of_le (Nat.lt_of_lt_of_le A101.lt (Nat.le_refl _)) (Nat.le_of_eq g108.symm)))) nin0))
  refine own_retA X117 hx hlk hret rfl rfl (hb hby own_d6_25) (by decide) (by decide) ?_
  exact ⟨b101, b108, rfl, N117, (((((Keep.refl h0 []).ext E101).ext E108).ext E111).trans K117 (allS (Or.inr sz_b101) all0)), sz_b101, sz_b108, f118, f119, f120, f121, (own_Arz.of f122)⟩
def Q_own_block8 (Z : State) (q : Addr) (r : Int32) (w : Int32) (h0 : Heap) (n0 : Nat) (v : Option Value) (h : Heap) (L : List Loc) : Prop := ∃ (bo : Addr), ∃ (ba : Addr), v = some (.ref bo) ∧ Fr n0 L ∧ Keep h0 h [] ∧ h0.size ≤ bo ∧ h0.size ≤ ba ∧ Exa Z h bo "com/example/limentinus/limentinus/simulator/RecordQueue$Block" ∧ Fld Z h bo "com/example/limentinus/limentinus/simulator/RecordQueue$Block" "records" "I" (.int (8 : Int32)) ∧ Fld Z h bo "com/example/limentinus/limentinus/simulator/RecordQueue$Block" "references" "[Ljava/lang/Object;" (.ref ba) ∧ Fld Z h bo "com/example/limentinus/limentinus/simulator/RecordQueue$Block" "next" "Lcom/example/limentinus/limentinus/simulator/RecordQueue$Block;" .null ∧ own_Arz Z h ba (.object "java/lang/Object") ((8 : Int32) * r)
theorem own_ef_own_block8 (m : MethodId) (q : Addr) : entryFrame m #[(.ref q), (.int (8 : Int32))] 2 = mkF m 0 #[rv q, iv (8 : Int32)] [] := by first | (simp [entryFrame, mkF, argsToLocals, Value.category]; done) | rfl
set_option maxRecDepth 65536 in
set_option maxHeartbeats 40000000 in
theorem own_block8 (l : Launch) (Z : State) (a0 : Array Value) (hw : ∀ d ∈ tables_1, d.before a0 Z = true) (ws : List Jvm.Cond) (q : Addr) (r : Int32) (w : Int32) (h0 : Heap) (n0 : Nat) (Z0 : n0 ≤ h0.size) (F1 : Fld Z h0 q "com/example/limentinus/limentinus/simulator/RecordQueue" "references" "I" (.int r)) (F2 : Fld Z h0 q "com/example/limentinus/limentinus/simulator/RecordQueue" "numbers" "I" (.int w)) (hr : own_03 r) (hw3 : own_03 w) :
    own_Ctr l Z (⟨"com/example/limentinus/limentinus/simulator/RecordQueue", "block", "(I)Lcom/example/limentinus/limentinus/simulator/RecordQueue$Block;"⟩ : MethodName) prog_85_method_10_code 2 (some (.object "com/example/limentinus/limentinus/simulator/RecordQueue$Block")) ws ({ frames := 2, cells := 3, slots := 52, locals := 28 } : Room) (({ frames := 2, cells := 3, slots := 52, locals := 28 } : Room)).cells (({ frames := 2, cells := 3, slots := 52, locals := 28 } : Room)).slots #[(.ref q), (.int (8 : Int32))] h0 (Q_own_block8 Z q r w h0 n0) := by
  refine own_enter (plainFor_of_name own_pn0) ?_
  intro p e s m below meth c s₁ X0 hx hZ hby hml hown hnm hlk hret e0
  have N0 := Fr.nil n0
  refine own_cast (own_ef_own_block8 m q) ?_
  obtain ⟨T101, h101, X101, e101, E101, A101, D101, U101, st101⟩ := newO X0 hx hZ hown (hw _ (List.mem_of_getElem? (i := 39) rfl)) (hw _ (List.mem_of_getElem? (i := 40) rfl)) (hw _ (List.mem_of_getElem? (i := 41) rfl)) e0 (g := (mkF m 0 #[rv q, iv (8 : Int32)] [])) rfl (hb hby own_d6_0) (by decide) (by decide)
  obtain ⟨b101, g101⟩ : ∃ z, z = h0.size := ⟨_, rfl⟩
  rw [← g101] at A101 D101 U101 st101
  have sz_b101 : h0.size ≤ b101 := Nat.le_trans (Nat.le_refl _) (Nat.le_of_eq g101.symm)
  have g_b101 : n0 ≤ b101 := Nat.le_trans Z0 sz_b101
  have f102 : Fld Z h101 b101 "com/example/limentinus/limentinus/simulator/RecordQueue$Block" "records" "I" (.int (0 : Int32)) := D101 (Or.inr (hw _ (List.mem_of_getElem? (i := 50) rfl))) (ty := .int) (by decide)
  have f103 : Fld Z h101 b101 "com/example/limentinus/limentinus/simulator/RecordQueue$Block" "references" "[Ljava/lang/Object;" .null := D101 (Or.inr (hw _ (List.mem_of_getElem? (i := 52) rfl))) (ty := (.array (.object "java/lang/Object"))) (by decide)
  have f104 : Fld Z h101 b101 "com/example/limentinus/limentinus/simulator/RecordQueue$Block" "numbers" "[J" .null := D101 (Or.inr (hw _ (List.mem_of_getElem? (i := 54) rfl))) (ty := (.array .long)) (by decide)
  have f105 : Fld Z h101 b101 "com/example/limentinus/limentinus/simulator/RecordQueue$Block" "next" "Lcom/example/limentinus/limentinus/simulator/RecordQueue$Block;" .null := D101 (Or.inl (hw _ (List.mem_of_getElem? (i := 72) rfl))) (ty := (.object "com/example/limentinus/limentinus/simulator/RecordQueue$Block")) (by decide)
  refine own_by (g' := (mkF m 3 #[rv q, iv (8 : Int32)] [(.ref b101)])) st101 ?_
  refine own_by (g' := (mkF m 7 #[rv q, iv (8 : Int32)] [(.ref q), (.int (8 : Int32)), (.int (8 : Int32)), (.ref b101), (.ref b101)])) (fun t k => XS.dup X101.here hx rfl (hb hby own_d6_3) rfl rfl (XS.iloadN X101.here hx rfl (hb hby own_d6_4) rfl (XS.iloadN X101.here hx rfl (hb hby own_d6_5) rfl (XS.aloadN X101.here hx rfl (hb hby own_d6_6) rfl rfl k)))) ?_
  have f106 := (F1.ext E101)
  obtain ⟨T107, X107, e107, st107⟩ := getF X101 hx hZ hown (host := "") (Or.inl (hw _ (List.mem_of_getElem? (i := 9) rfl))) Via.refl e101 f106 (g := (mkF m 7 #[rv q, iv (8 : Int32)] [(.ref q), (.int (8 : Int32)), (.int (8 : Int32)), (.ref b101), (.ref b101)])) rfl rfl (hb hby own_d6_7)
  refine own_by (g' := (mkF m 10 #[rv q, iv (8 : Int32)] [(.int r), (.int (8 : Int32)), (.int (8 : Int32)), (.ref b101), (.ref b101)])) st107 ?_
  refine own_by (g' := (mkF m 11 #[rv q, iv (8 : Int32)] [(.int ((8 : Int32) * r)), (.int (8 : Int32)), (.ref b101), (.ref b101)])) (fun t k => XS.imul X107.here hx rfl (hb hby own_d6_10) rfl k) ?_
  obtain ⟨T108, h108, k108, X108, e108, E108, A108, Y108, O108, st108⟩ := newRE X107 hx hZ hown (hw _ (List.mem_of_getElem? (i := 42) rfl)) (hw _ (List.mem_of_getElem? (i := 43) rfl)) e107 (g := (mkF m 11 #[rv q, iv (8 : Int32)] [(.int ((8 : Int32) * r)), (.int (8 : Int32)), (.ref b101), (.ref b101)])) rfl (hb hby own_d6_11) rfl (own_cap8 hr).1 (cap := 24) (own_cap8 hr).2 (by decide) (by decide) (by decide) (ad := "[Ljava/lang/Object;") own_ad_java_lang_Object
  obtain ⟨b108, g108⟩ : ∃ z, z = h101.size := ⟨_, rfl⟩
  rw [← g108] at A108 Y108 st108
  have sz_b108 : h0.size ≤ b108 := Nat.le_trans E101.1 (Nat.le_of_eq g108.symm)
  have g_b108 : n0 ≤ b108 := Nat.le_trans Z0 sz_b108
  have V108 : Arv Z h108 b108 k108 (.object "java/lang/Object") ((8 : Int32) * r) [] .null := Arv.new A108 (own_cap8 hr).1
  refine own_by (g' := (mkF m 14 #[rv q, iv (8 : Int32)] [(.ref b108), (.int (8 : Int32)), (.ref b101), (.ref b101)])) st108 ?_
  refine own_by (g' := (mkF m 16 #[rv q, iv (8 : Int32)] [(.ref q), (.int (8 : Int32)), (.ref b108), (.int (8 : Int32)), (.ref b101), (.ref b101)])) (fun t k => XS.iloadN X108.here hx rfl (hb hby own_d6_14) rfl (XS.aloadN X108.here hx rfl (hb hby own_d6_15) rfl rfl k)) ?_
  have f109 := ((F2.ext E101).ext E108)
  obtain ⟨T110, X110, e110, st110⟩ := getF X108 hx hZ hown (host := "") (Or.inl (hw _ (List.mem_of_getElem? (i := 11) rfl))) Via.refl e108 f109 (g := (mkF m 16 #[rv q, iv (8 : Int32)] [(.ref q), (.int (8 : Int32)), (.ref b108), (.int (8 : Int32)), (.ref b101), (.ref b101)])) rfl rfl (hb hby own_d6_16)
  refine own_by (g' := (mkF m 19 #[rv q, iv (8 : Int32)] [(.int w), (.int (8 : Int32)), (.ref b108), (.int (8 : Int32)), (.ref b101), (.ref b101)])) st110 ?_
  refine own_by (g' := (mkF m 20 #[rv q, iv (8 : Int32)] [(.int ((8 : Int32) * w)), (.ref b108), (.int (8 : Int32)), (.ref b101), (.ref b101)])) (fun t k => XS.imul X110.here hx rfl (hb hby own_d6_19) rfl k) ?_
  obtain ⟨T111, h111, k111, X111, e111, E111, A111, Y111, st111⟩ := newPE X110 hx hZ (hw _ (List.mem_of_getElem? (i := 44) rfl)) e110 (g := (mkF m 20 #[rv q, iv (8 : Int32)] [(.int ((8 : Int32) * w)), (.ref b108), (.int (8 : Int32)), (.ref b101), (.ref b101)])) rfl (hb hby own_d6_20) rfl (own_cap8 hw3).1 (cap := 24) (own_cap8 hw3).2 (by decide) (by decide) (by decide) (ad := "[J") own_ad_long
  obtain ⟨b111, g111⟩ : ∃ z, z = h108.size := ⟨_, rfl⟩
  rw [← g111] at A111 Y111 st111
  have sz_b111 : h0.size ≤ b111 := Nat.le_trans (Nat.le_trans E101.1 E108.1) (Nat.le_of_eq g111.symm)
  have g_b111 : n0 ≤ b111 := Nat.le_trans Z0 sz_b111
  have V111 : Arv Z h111 b111 k111 .long ((8 : Int32) * w) [] (.long (0 : Int64)) := Arv.new A111 (own_cap8 hw3).1
  refine own_by (g' := (mkF m 22 #[rv q, iv (8 : Int32)] [(.ref b111), (.ref b108), (.int (8 : Int32)), (.ref b101), (.ref b101)])) st111 ?_
  have f112 := ((A101.ext E108).ext E111)
  have f113 := ((f102.ext E108).ext E111)
  have f114 := ((f103.ext E108).ext E111)
  have f115 := ((f104.ext E108).ext E111)
  have f116 := ((f105.ext E108).ext E111)
  refine own_callIR X111 hx hZ hown rfl (hw _ (List.mem_of_getElem? (i := 45) rfl)) (hw _ (List.mem_of_getElem? (i := 46) rfl)) (hw _ (List.mem_of_getElem? (i := 41) rfl)) (hw _ (List.mem_of_getElem? (i := 47) rfl)) (by decide) (a := b101) (own_bini l Z a0 hw [] (b101) ((8 : Int32)) (b108) (b111) h111 n0 (Nat.le_trans Z0 (Nat.le_trans (Nat.le_trans E101.1 E108.1) E111.1)) f112 f113 f114 f115 f116 g_b101) 1 (by decide) (by decide) (by decide) (by decide) e111 (g := (mkF m 22 #[rv q, iv (8 : Int32)] [(.ref b111), (.ref b108), (.int (8 : Int32)), (.ref b101), (.ref b101)])) rfl (by rw [hml]; rfl) (argsL := [(.int (8 : Int32)), (.ref b108), (.ref b111)]) (rest := [(.ref b101)]) (lenOf own_pd0 rfl) rfl (by show 2 * 0 + _ ≤ _; exact Nat.le_of_eq rfl) (hb hby own_d6_22) ?_
  intro v117 T117 L117 X117 q117
  obtain ⟨rfl, N117q, K117, f118, f119, f120, f121⟩ := q117
  have N117 := Fr.app N0 N117q
  show own_Goes p e below s _ _ _ T117 (mkF m 25 #[rv q, iv (8 : Int32)] [(.ref b101)])
  have f122 := ((V108.ext E111).keep K117 (ninS (Ne.symm (Nat.ne_of_lt (Nat.lt_of_lt_of_le (Nat.lt_of_lt_of_le A101.lt (Nat.le_refl _)) (Nat.le_of_eq g108.symm)))) nin0))
  refine own_retA X117 hx hlk hret rfl rfl (hb hby own_d6_25) (by decide) (by decide) ?_
  exact ⟨b101, b108, rfl, N117, (((((Keep.refl h0 []).ext E101).ext E108).ext E111).trans K117 (allS (Or.inr sz_b101) all0)), sz_b101, sz_b108, f118, f119, f120, f121, (own_Arz.of f122)⟩
theorem own_d5_0 : decode prog_85_method_3_code 0 = .ok (.aload_n 0, 1) := by decide +kernel
theorem own_d5_1 : decode prog_85_method_3_code 1 = .ok (.getfield 20, 3) := by decide +kernel
theorem own_d5_4 : decode prog_85_method_3_code 4 = .ok (.ifnonnull 23, 3) := by decide +kernel
theorem own_d5_7 : decode prog_85_method_3_code 7 = .ok (.aload_n 0, 1) := by decide +kernel
theorem own_d5_8 : decode prog_85_method_3_code 8 = .ok (.aload_n 0, 1) := by decide +kernel
theorem own_d5_9 : decode prog_85_method_3_code 9 = .ok (.iconst 2, 1) := by decide +kernel
theorem own_d5_10 : decode prog_85_method_3_code 10 = .ok (.invokevirtual 29, 3) := by decide +kernel
theorem own_pd1 : parseMethodDescriptor "(I)Lcom/example/limentinus/limentinus/simulator/RecordQueue$Block;" = some ⟨[.int], some (.object "com/example/limentinus/limentinus/simulator/RecordQueue$Block")⟩ := by decide +kernel
theorem own_d5_13 : decode prog_85_method_3_code 13 = .ok (.putfield 16, 3) := by decide +kernel
theorem own_d5_16 : decode prog_85_method_3_code 16 = .ok (.aload_n 0, 1) := by decide +kernel
theorem own_d5_17 : decode prog_85_method_3_code 17 = .ok (.aload_n 0, 1) := by decide +kernel
theorem own_d5_18 : decode prog_85_method_3_code 18 = .ok (.getfield 16, 3) := by decide +kernel
theorem own_d5_21 : decode prog_85_method_3_code 21 = .ok (.putfield 20, 3) := by decide +kernel
theorem own_d5_24 : decode prog_85_method_3_code 24 = .ok (.goto 55, 3) := by decide +kernel
theorem own_d5_79 : decode prog_85_method_3_code 79 = .ok (.aload_n 0, 1) := by decide +kernel
theorem own_d5_80 : decode prog_85_method_3_code 80 = .ok (.dup, 1) := by decide +kernel
theorem own_d5_81 : decode prog_85_method_3_code 81 = .ok (.getfield 26, 3) := by decide +kernel
theorem own_d5_84 : decode prog_85_method_3_code 84 = .ok (.iconst 1, 1) := by decide +kernel
theorem own_d5_85 : decode prog_85_method_3_code 85 = .ok (.iadd, 1) := by decide +kernel
theorem own_d5_86 : decode prog_85_method_3_code 86 = .ok (.putfield 26, 3) := by decide +kernel
theorem own_d5_89 : decode prog_85_method_3_code 89 = .ok (.return_, 1) := by decide +kernel
def Q_own_add0 (Z : State) (q : Addr) (r : Int32) (w : Int32) (h0 : Heap) (n0 : Nat) (v : Option Value) (h : Heap) (L : List Loc) : Prop := ∃ (b1 : Addr), ∃ (a1 : Addr), v = none ∧ Fr n0 L ∧ Keep h0 h [q] ∧ own_Q1 Z h (q) (n0) (r) (w) ((0 : Int32)) ((1 : Int32)) (b1) (a1) ((2 : Int32)) ∧ h0.size ≤ b1 ∧ h0.size ≤ a1
theorem own_ef_own_add0 (m : MethodId) (q : Addr) : entryFrame m #[(.ref q)] 2 = mkF m 0 #[rv q, .unset] [] := by first | (simp [entryFrame, mkF, argsToLocals, Value.category]; done) | rfl
set_option maxRecDepth 65536 in
set_option maxHeartbeats 40000000 in
theorem own_add0 (l : Launch) (Z : State) (a0 : Array Value) (hw : ∀ d ∈ tables_1, d.before a0 Z = true) (ws : List Jvm.Cond) (q : Addr) (r : Int32) (w : Int32) (h0 : Heap) (n0 : Nat) (Z0 : n0 ≤ h0.size) (B0 : own_Q0 Z h0 (q) (n0) (r) (w)) (hr : own_03 r) (hw3 : own_03 w) :
    own_Ctr l Z (⟨"com/example/limentinus/limentinus/simulator/RecordQueue", "add", "()V"⟩ : MethodName) prog_85_method_3_code 2 none ws ({ frames := 3, cells := 3, slots := 16, locals := 42 } : Room) (({ frames := 3, cells := 3, slots := 16, locals := 42 } : Room)).cells (({ frames := 3, cells := 3, slots := 16, locals := 42 } : Room)).slots #[(.ref q)] h0 (Q_own_add0 Z q r w h0 n0) := by
  refine own_enter (plainFor_of_name own_pn0) ?_
  intro p e s m below meth c s₁ X0 hx hZ hby hml hown hnm hlk hret e0
  have N0 := Fr.nil n0
  refine own_cast (own_ef_own_add0 m q) ?_
  obtain ⟨f101, f102, f103, f104, f105, f106, f107, f108⟩ := B0
  refine own_by (g' := (mkF m 1 #[rv q, .unset] [(.ref q)])) (fun t k => XS.aloadN X0.here hx rfl (hb hby own_d5_0) rfl rfl k) ?_
  obtain ⟨T109, X109, e109, st109⟩ := getF X0 hx hZ hown (host := "") (Or.inl (hw _ (List.mem_of_getElem? (i := 20) rfl))) Via.refl e0 f105 (g := (mkF m 1 #[rv q, .unset] [(.ref q)])) rfl rfl (hb hby own_d5_1)
  refine own_by (g' := (mkF m 4 #[rv q, .unset] [.null])) st109 ?_
  refine own_by (g' := (mkF m 10 #[rv q, .unset] [(.int (2 : Int32)), (.ref q), (.ref q)])) (fun t k => XS.ifnonnullNo X109.here hx rfl (hb hby own_d5_4) rfl (XS.aloadN X109.here hx rfl (hb hby own_d5_7) rfl rfl (XS.aloadN X109.here hx rfl (hb hby own_d5_8) rfl rfl (XS.iconst X109.here hx rfl (hb hby own_d5_9) k)))) ?_
  refine own_callP X109 hx hZ hown (hw _ (List.mem_of_getElem? (i := 35) rfl)) (hw _ (List.mem_of_getElem? (i := 36) rfl)) (own_selp (hw _ (List.mem_of_getElem? (i := 1) rfl)) (hw _ (List.mem_of_getElem? (i := 36) rfl)) (hw _ (List.mem_of_getElem? (i := 37) rfl)) (by decide)) (hw _ (List.mem_of_getElem? (i := 37) rfl)) (hw _ (List.mem_of_getElem? (i := 38) rfl)) (hw _ (List.mem_of_getElem? (i := 2) rfl)) (by decide) (a := q) f101 (own_block2 l Z a0 hw [] (q) (r) (w) h0 n0 Z0 f102 f103 (by first | assumption | decide) (by first | assumption | decide)) 1 (by decide) (by decide) (by decide) (by decide) e109 (g := (mkF m 10 #[rv q, .unset] [(.int (2 : Int32)), (.ref q), (.ref q)])) rfl (by rw [hml]; rfl) (argsL := [(.int (2 : Int32))]) (rest := [(.ref q)]) (lenOf own_pd1 rfl) rfl (by show 2 * 0 + _ ≤ _; exact Nat.le_of_eq rfl) (hb hby own_d5_10) ?_
  intro v110 T110 L110 X110 q110
  obtain ⟨bo110, ba110, rfl, N110q, K110, f111, f112, f113, f114, f115, f116, f117⟩ := q110
  have N110 := Fr.app N0 N110q
  show own_Goes p e below s _ _ _ T110 (mkF m 13 #[rv q, .unset] [(.ref bo110), (.ref q)])
  have f118 := (f104.keep K110 nin0)
  have f119 := (f101.keep K110)
  obtain ⟨T120, h120, X120, e120, W120, st120⟩ := putF X110 hx hZ hown (host := "") (Or.inl (hw _ (List.mem_of_getElem? (i := 18) rfl))) Via.refl rfl f118 f119 (Or.inl (hw _ (List.mem_of_getElem? (i := 19) rfl))) (hw _ (List.mem_of_getElem? (i := 1) rfl)) (ty := (.object "com/example/limentinus/limentinus/simulator/RecordQueue$Block")) (by decide) rfl rfl (g := (mkF m 13 #[rv q, .unset] [(.ref bo110), (.ref q)])) rfl rfl (hb hby own_d5_13)
  have f121 := f118.same W120
  have N120 := Fr.snoc X120 N110 f108
  refine own_by (g' := (mkF m 16 #[rv q, .unset] [])) st120 ?_
  refine own_by (g' := (mkF m 18 #[rv q, .unset] [(.ref q), (.ref q)])) (fun t k => XS.aloadN X120.here hx rfl (hb hby own_d5_16) rfl rfl (XS.aloadN X120.here hx rfl (hb hby own_d5_17) rfl rfl k)) ?_
  obtain ⟨T122, X122, e122, st122⟩ := getF X120 hx hZ hown (host := "") (Or.inl (hw _ (List.mem_of_getElem? (i := 18) rfl))) Via.refl e120 f121 (g := (mkF m 18 #[rv q, .unset] [(.ref q), (.ref q)])) rfl rfl (hb hby own_d5_18)
  refine own_by (g' := (mkF m 21 #[rv q, .unset] [(.ref bo110), (.ref q)])) st122 ?_
  have f123 := ((f105.keep K110 nin0).other W120 (Or.inr (slot_ne (Or.inl (hw _ (List.mem_of_getElem? (i := 21) rfl))) (Or.inl (hw _ (List.mem_of_getElem? (i := 19) rfl))) (by decide) (t := (.object "com/example/limentinus/limentinus/simulator/RecordQueue$Block")) (t' := (.object "com/example/limentinus/limentinus/simulator/RecordQueue$Block")) (by decide) (by decide))))
  have f124 := (f119.wr W120)
  obtain ⟨T125, h125, X125, e125, W125, st125⟩ := putF X122 hx hZ hown (host := "") (Or.inl (hw _ (List.mem_of_getElem? (i := 20) rfl))) Via.refl e122 f123 f124 (Or.inl (hw _ (List.mem_of_getElem? (i := 21) rfl))) (hw _ (List.mem_of_getElem? (i := 1) rfl)) (ty := (.object "com/example/limentinus/limentinus/simulator/RecordQueue$Block")) (by decide) rfl rfl (g := (mkF m 21 #[rv q, .unset] [(.ref bo110), (.ref q)])) rfl rfl (hb hby own_d5_21)
  have f126 := f123.same W125
  have N125 := Fr.snoc X125 N120 f108
  refine own_by (g' := (mkF m 24 #[rv q, .unset] [])) st125 ?_
  refine own_by (g' := (mkF m 81 #[rv q, .unset] [(.ref q), (.ref q)])) (fun t k => XS.goto X125.here hx rfl (pc0 := 24) (pc' := 79) rfl (hb hby own_d5_24) (by decide) (by decide) (XS.aloadN X125.here hx rfl (hb hby own_d5_79) rfl rfl (XS.dup X125.here hx rfl (hb hby own_d5_80) rfl rfl k))) ?_
  have f127 := (((f107.keep K110 nin0).other W120 (Or.inr (slot_ne (Or.inl (hw _ (List.mem_of_getElem? (i := 25) rfl))) (Or.inl (hw _ (List.mem_of_getElem? (i := 19) rfl))) (by decide) (t := .int) (t' := (.object "com/example/limentinus/limentinus/simulator/RecordQueue$Block")) (by decide) (by decide)))).other W125 (Or.inr (slot_ne (Or.inl (hw _ (List.mem_of_getElem? (i := 25) rfl))) (Or.inl (hw _ (List.mem_of_getElem? (i := 21) rfl))) (by decide) (t := .int) (t' := (.object "com/example/limentinus/limentinus/simulator/RecordQueue$Block")) (by decide) (by decide))))
  obtain ⟨T128, X128, e128, st128⟩ := getF X125 hx hZ hown (host := "") (Or.inl (hw _ (List.mem_of_getElem? (i := 24) rfl))) Via.refl e125 f127 (g := (mkF m 81 #[rv q, .unset] [(.ref q), (.ref q)])) rfl rfl (hb hby own_d5_81)
  refine own_by (g' := (mkF m 84 #[rv q, .unset] [(.int (0 : Int32)), (.ref q)])) st128 ?_
  refine own_by (g' := (mkF m 86 #[rv q, .unset] [(.int (1 : Int32)), (.ref q)])) (fun t k => XS.iconst X128.here hx rfl (hb hby own_d5_84) (XS.iadd X128.here hx rfl (hb hby own_d5_85) rfl k)) ?_
  have f129 := (f124.wr W125)
  obtain ⟨T130, h130, X130, e130, W130, st130⟩ := putF X128 hx hZ hown (host := "") (Or.inl (hw _ (List.mem_of_getElem? (i := 24) rfl))) Via.refl e128 f127 f129 (Or.inl (hw _ (List.mem_of_getElem? (i := 25) rfl))) (hw _ (List.mem_of_getElem? (i := 1) rfl)) (ty := .int) (by decide) rfl rfl (g := (mkF m 86 #[rv q, .unset] [(.int (1 : Int32)), (.ref q)])) rfl rfl (hb hby own_d5_86)
  have f131 := f127.same W130
  have N130 := Fr.snoc X130 N125 f108
  refine own_by (g' := (mkF m 89 #[rv q, .unset] [])) st130 ?_
  have f132 := (f129.wr W130)
  have f133 := ((((f102.keep K110 nin0).other W120 (Or.inr (slot_ne (Or.inr (hw _ (List.mem_of_getElem? (i := 10) rfl))) (Or.inl (hw _ (List.mem_of_getElem? (i := 19) rfl))) (by decide) (t := .int) (t' := (.object "com/example/limentinus/limentinus/simulator/RecordQueue$Block")) (by decide) (by decide)))).other W125 (Or.inr (slot_ne (Or.inr (hw _ (List.mem_of_getElem? (i := 10) rfl))) (Or.inl (hw _ (List.mem_of_getElem? (i := 21) rfl))) (by decide) (t := .int) (t' := (.object "com/example/limentinus/limentinus/simulator/RecordQueue$Block")) (by decide) (by decide)))).other W130 (Or.inr (slot_ne (Or.inr (hw _ (List.mem_of_getElem? (i := 10) rfl))) (Or.inl (hw _ (List.mem_of_getElem? (i := 25) rfl))) (by decide) (t := .int) (t' := .int) (by decide) (by decide))))
  have f134 := ((((f103.keep K110 nin0).other W120 (Or.inr (slot_ne (Or.inr (hw _ (List.mem_of_getElem? (i := 12) rfl))) (Or.inl (hw _ (List.mem_of_getElem? (i := 19) rfl))) (by decide) (t := .int) (t' := (.object "com/example/limentinus/limentinus/simulator/RecordQueue$Block")) (by decide) (by decide)))).other W125 (Or.inr (slot_ne (Or.inr (hw _ (List.mem_of_getElem? (i := 12) rfl))) (Or.inl (hw _ (List.mem_of_getElem? (i := 21) rfl))) (by decide) (t := .int) (t' := (.object "com/example/limentinus/limentinus/simulator/RecordQueue$Block")) (by decide) (by decide)))).other W130 (Or.inr (slot_ne (Or.inr (hw _ (List.mem_of_getElem? (i := 12) rfl))) (Or.inl (hw _ (List.mem_of_getElem? (i := 25) rfl))) (by decide) (t := .int) (t' := .int) (by decide) (by decide))))
  have f135 := ((f121.other W125 (Or.inr (slot_ne (Or.inl (hw _ (List.mem_of_getElem? (i := 19) rfl))) (Or.inl (hw _ (List.mem_of_getElem? (i := 21) rfl))) (by decide) (t := (.object "com/example/limentinus/limentinus/simulator/RecordQueue$Block")) (t' := (.object "com/example/limentinus/limentinus/simulator/RecordQueue$Block")) (by decide) (by decide)))).other W130 (Or.inr (slot_ne (Or.inl (hw _ (List.mem_of_getElem? (i := 19) rfl))) (Or.inl (hw _ (List.mem_of_getElem? (i := 25) rfl))) (by decide) (t := (.object "com/example/limentinus/limentinus/simulator/RecordQueue$Block")) (t' := .int) (by decide) (by decide))))
  have f136 := (f126.other W130 (Or.inr (slot_ne (Or.inl (hw _ (List.mem_of_getElem? (i := 21) rfl))) (Or.inl (hw _ (List.mem_of_getElem? (i := 25) rfl))) (by decide) (t := (.object "com/example/limentinus/limentinus/simulator/RecordQueue$Block")) (t' := .int) (by decide) (by decide))))
  have f137 := ((((f106.keep K110 nin0).other W120 (Or.inr (slot_ne (Or.inl (hw _ (List.mem_of_getElem? (i := 23) rfl))) (Or.inl (hw _ (List.mem_of_getElem? (i := 19) rfl))) (by decide) (t := .int) (t' := (.object "com/example/limentinus/limentinus/simulator/RecordQueue$Block")) (by decide) (by decide)))).other W125 (Or.inr (slot_ne (Or.inl (hw _ (List.mem_of_getElem? (i := 23) rfl))) (Or.inl (hw _ (List.mem_of_getElem? (i := 21) rfl))) (by decide) (t := .int) (t' := (.object "com/example/limentinus/limentinus/simulator/RecordQueue$Block")) (by decide) (by decide)))).other W130 (Or.inr (slot_ne (Or.inl (hw _ (List.mem_of_getElem? (i := 23) rfl))) (Or.inl (hw _ (List.mem_of_getElem? (i := 25) rfl))) (by decide) (t := .int) (t' := .int) (by decide) (by decide))))
  have f138 := (((f113.wr W120).wr W125).wr W130)
  have f139 := (((f114.other W120 (Or.inl (Ne.symm (Nat.ne_of_lt (Nat.lt_of_lt_of_le (Nat.lt_of_lt_of_le f101.lt (Nat.le_refl _)) f111))))).other W125 (Or.inl (Ne.symm (Nat.ne_of_lt (Nat.lt_of_lt_of_le (Nat.lt_of_lt_of_le f101.lt (Nat.le_refl _)) f111))))).other W130 (Or.inl (Ne.symm (Nat.ne_of_lt (Nat.lt_of_lt_of_le (Nat.lt_of_lt_of_le f101.lt (Nat.le_refl _)) f111)))))
  have f140 := (((f115.other W120 (Or.inl (Ne.symm (Nat.ne_of_lt (Nat.lt_of_lt_of_le (Nat.lt_of_lt_of_le f101.lt (Nat.le_refl _)) f111))))).other W125 (Or.inl (Ne.symm (Nat.ne_of_lt (Nat.lt_of_lt_of_le (Nat.lt_of_lt_of_le f101.lt (Nat.le_refl _)) f111))))).other W130 (Or.inl (Ne.symm (Nat.ne_of_lt (Nat.lt_of_lt_of_le (Nat.lt_of_lt_of_le f101.lt (Nat.le_refl _)) f111)))))
  have f141 := (((f116.other W120 (Or.inl (Ne.symm (Nat.ne_of_lt (Nat.lt_of_lt_of_le (Nat.lt_of_lt_of_le f101.lt (Nat.le_refl _)) f111))))).other W125 (Or.inl (Ne.symm (Nat.ne_of_lt (Nat.lt_of_lt_of_le (Nat.lt_of_lt_of_le f101.lt (Nat.le_refl _)) f111))))).other W130 (Or.inl (Ne.symm (Nat.ne_of_lt (Nat.lt_of_lt_of_le (Nat.lt_of_lt_of_le f101.lt (Nat.le_refl _)) f111)))))
  have f142 := (((f117.other W120 (Ne.symm (Nat.ne_of_lt (Nat.lt_of_lt_of_le (Nat.lt_of_lt_of_le f101.lt (Nat.le_refl _)) f112)))).other W125 (Ne.symm (Nat.ne_of_lt (Nat.lt_of_lt_of_le (Nat.lt_of_lt_of_le f101.lt (Nat.le_refl _)) f112)))).other W130 (Ne.symm (Nat.ne_of_lt (Nat.lt_of_lt_of_le (Nat.lt_of_lt_of_le f101.lt (Nat.le_refl _)) f112))))
  refine own_retV X130 hx hlk hret (hb hby own_d5_89) (by decide) (by decide) ?_
  rw [e130]
  exact ⟨bo110, ba110, rfl, N130, (((((Keep.refl h0 [q]).trans K110 all0).wr W120 (Or.inl (List.mem_of_getElem? (i := 0) rfl))).wr W125 (Or.inl (List.mem_of_getElem? (i := 0) rfl))).wr W130 (Or.inl (List.mem_of_getElem? (i := 0) rfl))), ⟨f132, f133, f134, f135, f136, f137, f131, f108, f138, f139, f140, f141, f142, (Nat.le_trans Z0 f111), (Nat.le_trans Z0 f112)⟩, (Nat.le_trans (Nat.le_refl _) f111), (Nat.le_trans (Nat.le_refl _) f112)⟩
theorem own_d5_27 : decode prog_85_method_3_code 27 = .ok (.aload_n 0, 1) := by decide +kernel
theorem own_d5_28 : decode prog_85_method_3_code 28 = .ok (.getfield 26, 3) := by decide +kernel
theorem own_d5_31 : decode prog_85_method_3_code 31 = .ok (.aload_n 0, 1) := by decide +kernel
theorem own_d5_32 : decode prog_85_method_3_code 32 = .ok (.getfield 20, 3) := by decide +kernel
theorem own_d5_35 : decode prog_85_method_3_code 35 = .ok (.getfield 33, 3) := by decide +kernel
theorem own_d5_38 : decode prog_85_method_3_code 38 = .ok (.if_icmp .ne 41, 3) := by decide +kernel
def Q_own_add1n (Z : State) (q : Addr) (r : Int32) (w : Int32) (hd : Int32) (tl : Int32) (b1 : Addr) (a1 : Addr) (z1 : Int32) (h0 : Heap) (n0 : Nat) (v : Option Value) (h : Heap) (L : List Loc) : Prop := v = none ∧ Fr n0 L ∧ Keep h0 h [q] ∧ own_Q1 Z h (q) (n0) (r) (w) (hd) ((tl + (1 : Int32))) (b1) (a1) (z1)
theorem own_ef_own_add1n (m : MethodId) (q : Addr) : entryFrame m #[(.ref q)] 2 = mkF m 0 #[rv q, .unset] [] := by first | (simp [entryFrame, mkF, argsToLocals, Value.category]; done) | rfl
set_option maxRecDepth 65536 in
set_option maxHeartbeats 40000000 in
theorem own_add1n (l : Launch) (Z : State) (a0 : Array Value) (hw : ∀ d ∈ tables_1, d.before a0 Z = true) (ws : List Jvm.Cond) (q : Addr) (r : Int32) (w : Int32) (hd : Int32) (tl : Int32) (b1 : Addr) (a1 : Addr) (z1 : Int32) (h0 : Heap) (n0 : Nat) (Z0 : n0 ≤ h0.size) (B0 : own_Q1 Z h0 (q) (n0) (r) (w) (hd) (tl) (b1) (a1) (z1)) (hr : own_03 r) (hw3 : own_03 w) (hp : ¬ tl = z1) :
    own_Ctr l Z (⟨"com/example/limentinus/limentinus/simulator/RecordQueue", "add", "()V"⟩ : MethodName) prog_85_method_3_code 2 none ws ({ frames := 0, cells := 0, slots := 0, locals := 0 } : Room) (({ frames := 0, cells := 0, slots := 0, locals := 0 } : Room)).cells (({ frames := 0, cells := 0, slots := 0, locals := 0 } : Room)).slots #[(.ref q)] h0 (Q_own_add1n Z q r w hd tl b1 a1 z1 h0 n0) := by
  refine own_enter (plainFor_of_name own_pn0) ?_
  intro p e s m below meth c s₁ X0 hx hZ hby hml hown hnm hlk hret e0
  have N0 := Fr.nil n0
  refine own_cast (own_ef_own_add1n m q) ?_
  obtain ⟨f101, f102, f103, f104, f105, f106, f107, f108, f109, f110, f111, f112, f113, f114, f115⟩ := B0
  refine own_by (g' := (mkF m 1 #[rv q, .unset] [(.ref q)])) (fun t k => XS.aloadN X0.here hx rfl (hb hby own_d5_0) rfl rfl k) ?_
  obtain ⟨T116, X116, e116, st116⟩ := getF X0 hx hZ hown (host := "") (Or.inl (hw _ (List.mem_of_getElem? (i := 20) rfl))) Via.refl e0 f105 (g := (mkF m 1 #[rv q, .unset] [(.ref q)])) rfl rfl (hb hby own_d5_1)
  refine own_by (g' := (mkF m 4 #[rv q, .unset] [(.ref b1)])) st116 ?_
  refine own_by (g' := (mkF m 28 #[rv q, .unset] [(.ref q)])) (fun t k => XS.ifnonnullYes X116.here hx rfl (pc0 := 4) (pc' := 27) rfl (hb hby own_d5_4) rfl (by decide) (by decide) (XS.aloadN X116.here hx rfl (hb hby own_d5_27) rfl rfl k)) ?_
  obtain ⟨T117, X117, e117, st117⟩ := getF X116 hx hZ hown (host := "") (Or.inl (hw _ (List.mem_of_getElem? (i := 24) rfl))) Via.refl e116 f107 (g := (mkF m 28 #[rv q, .unset] [(.ref q)])) rfl rfl (hb hby own_d5_28)
  refine own_by (g' := (mkF m 31 #[rv q, .unset] [(.int tl)])) st117 ?_
  refine own_by (g' := (mkF m 32 #[rv q, .unset] [(.ref q), (.int tl)])) (fun t k => XS.aloadN X117.here hx rfl (hb hby own_d5_31) rfl rfl k) ?_
  obtain ⟨T118, X118, e118, st118⟩ := getF X117 hx hZ hown (host := "") (Or.inl (hw _ (List.mem_of_getElem? (i := 20) rfl))) Via.refl e117 f105 (g := (mkF m 32 #[rv q, .unset] [(.ref q), (.int tl)])) rfl rfl (hb hby own_d5_32)
  refine own_by (g' := (mkF m 35 #[rv q, .unset] [(.ref b1), (.int tl)])) st118 ?_
  obtain ⟨T119, X119, e119, st119⟩ := own_getR X118 hx hZ hown (hw _ (List.mem_of_getElem? (i := 65) rfl)) e118 f110 (g := (mkF m 35 #[rv q, .unset] [(.ref b1), (.int tl)])) rfl rfl (hb hby own_d5_35)
  refine own_by (g' := (mkF m 38 #[rv q, .unset] [(.int z1), (.int tl)])) st119 ?_
  refine own_by (g' := (mkF m 81 #[rv q, .unset] [(.ref q), (.ref q)])) (fun t k => XS.icmpYes X119.here hx rfl (pc0 := 38) (pc' := 79) rfl (hb hby own_d5_38) rfl (feq hp).2 (by decide) (by decide) (XS.aloadN X119.here hx rfl (hb hby own_d5_79) rfl rfl (XS.dup X119.here hx rfl (hb hby own_d5_80) rfl rfl k))) ?_
  obtain ⟨T120, X120, e120, st120⟩ := getF X119 hx hZ hown (host := "") (Or.inl (hw _ (List.mem_of_getElem? (i := 24) rfl))) Via.refl e119 f107 (g := (mkF m 81 #[rv q, .unset] [(.ref q), (.ref q)])) rfl rfl (hb hby own_d5_81)
  refine own_by (g' := (mkF m 84 #[rv q, .unset] [(.int tl), (.ref q)])) st120 ?_
  refine own_by (g' := (mkF m 86 #[rv q, .unset] [(.int (tl + (1 : Int32))), (.ref q)])) (fun t k => XS.iconst X120.here hx rfl (hb hby own_d5_84) (XS.iadd X120.here hx rfl (hb hby own_d5_85) rfl k)) ?_
  obtain ⟨T121, h121, X121, e121, W121, st121⟩ := putF X120 hx hZ hown (host := "") (Or.inl (hw _ (List.mem_of_getElem? (i := 24) rfl))) Via.refl e120 f107 f101 (Or.inl (hw _ (List.mem_of_getElem? (i := 25) rfl))) (hw _ (List.mem_of_getElem? (i := 1) rfl)) (ty := .int) (by decide) rfl rfl (g := (mkF m 86 #[rv q, .unset] [(.int (tl + (1 : Int32))), (.ref q)])) rfl rfl (hb hby own_d5_86)
  have f122 := f107.same W121
  have N121 := Fr.snoc X121 N0 f108
  refine own_by (g' := (mkF m 89 #[rv q, .unset] [])) st121 ?_
  have f123 := (f101.wr W121)
  have f124 := (f102.other W121 (Or.inr (slot_ne (Or.inr (hw _ (List.mem_of_getElem? (i := 10) rfl))) (Or.inl (hw _ (List.mem_of_getElem? (i := 25) rfl))) (by decide) (t := .int) (t' := .int) (by decide) (by decide))))
  have f125 := (f103.other W121 (Or.inr (slot_ne (Or.inr (hw _ (List.mem_of_getElem? (i := 12) rfl))) (Or.inl (hw _ (List.mem_of_getElem? (i := 25) rfl))) (by decide) (t := .int) (t' := .int) (by decide) (by decide))))
  have f126 := (f104.other W121 (Or.inr (slot_ne (Or.inl (hw _ (List.mem_of_getElem? (i := 19) rfl))) (Or.inl (hw _ (List.mem_of_getElem? (i := 25) rfl))) (by decide) (t := (.object "com/example/limentinus/limentinus/simulator/RecordQueue$Block")) (t' := .int) (by decide) (by decide))))
  have f127 := (f105.other W121 (Or.inr (slot_ne (Or.inl (hw _ (List.mem_of_getElem? (i := 21) rfl))) (Or.inl (hw _ (List.mem_of_getElem? (i := 25) rfl))) (by decide) (t := (.object "com/example/limentinus/limentinus/simulator/RecordQueue$Block")) (t' := .int) (by decide) (by decide))))
  have f128 := (f106.other W121 (Or.inr (slot_ne (Or.inl (hw _ (List.mem_of_getElem? (i := 23) rfl))) (Or.inl (hw _ (List.mem_of_getElem? (i := 25) rfl))) (by decide) (t := .int) (t' := .int) (by decide) (by decide))))
  have f129 := (f109.wr W121)
  have f130 := (f110.other W121 (Or.inl (ne_exa f109 f101 (by decide))))
  have f131 := (f111.other W121 (Or.inl (ne_exa f109 f101 (by decide))))
  have f132 := (f112.other W121 (Or.inl (ne_exa f109 f101 (by decide))))
  have f133 := (f113.other W121 (Ne.symm (own_neY f101 (hw _ (List.mem_of_getElem? (i := 1) rfl)) f113)))
  refine own_retV X121 hx hlk hret (hb hby own_d5_89) (by decide) (by decide) ?_
  rw [e121]
  exact ⟨rfl, N121, ((Keep.refl h0 [q]).wr W121 (Or.inl (List.mem_of_getElem? (i := 0) rfl))), ⟨f123, f124, f125, f126, f127, f128, f122, f108, f129, f130, f131, f132, f133, f114, f115⟩⟩
def Q_own_add2n (Z : State) (q : Addr) (r : Int32) (w : Int32) (hd : Int32) (tl : Int32) (b1 : Addr) (a1 : Addr) (z1 : Int32) (b2 : Addr) (a2 : Addr) (z2 : Int32) (h0 : Heap) (n0 : Nat) (v : Option Value) (h : Heap) (L : List Loc) : Prop := v = none ∧ Fr n0 L ∧ Keep h0 h [q] ∧ own_Q2 Z h (q) (n0) (r) (w) (hd) ((tl + (1 : Int32))) (b1) (a1) (z1) (b2) (a2) (z2)
theorem own_ef_own_add2n (m : MethodId) (q : Addr) : entryFrame m #[(.ref q)] 2 = mkF m 0 #[rv q, .unset] [] := by first | (simp [entryFrame, mkF, argsToLocals, Value.category]; done) | rfl
set_option maxRecDepth 65536 in
set_option maxHeartbeats 40000000 in
theorem own_add2n (l : Launch) (Z : State) (a0 : Array Value) (hw : ∀ d ∈ tables_1, d.before a0 Z = true) (ws : List Jvm.Cond) (q : Addr) (r : Int32) (w : Int32) (hd : Int32) (tl : Int32) (b1 : Addr) (a1 : Addr) (z1 : Int32) (b2 : Addr) (a2 : Addr) (z2 : Int32) (h0 : Heap) (n0 : Nat) (Z0 : n0 ≤ h0.size) (B0 : own_Q2 Z h0 (q) (n0) (r) (w) (hd) (tl) (b1) (a1) (z1) (b2) (a2) (z2)) (hr : own_03 r) (hw3 : own_03 w) (hp : ¬ tl = z2) :
    own_Ctr l Z (⟨"com/example/limentinus/limentinus/simulator/RecordQueue", "add", "()V"⟩ : MethodName) prog_85_method_3_code 2 none ws ({ frames := 0, cells := 0, slots := 0, locals := 0 } : Room) (({ frames := 0, cells := 0, slots := 0, locals := 0 } : Room)).cells (({ frames := 0, cells := 0, slots := 0, locals := 0 } : Room)).slots #[(.ref q)] h0 (Q_own_add2n Z q r w hd tl b1 a1 z1 b2 a2 z2 h0 n0) := by
  refine own_enter (plainFor_of_name own_pn0) ?_
  intro p e s m below meth c s₁ X0 hx hZ hby hml hown hnm hlk hret e0
  have N0 := Fr.nil n0
  refine own_cast (own_ef_own_add2n m q) ?_
  obtain ⟨f101, f102, f103, f104, f105, f106, f107, f108, f109, f110, f111, f112, f113, f114, f115, f116, f117, f118, f119, f120, f121, f122, f123, f124⟩ := B0
  refine own_by (g' := (mkF m 1 #[rv q, .unset] [(.ref q)])) (fun t k => XS.aloadN X0.here hx rfl (hb hby own_d5_0) rfl rfl k) ?_
  obtain ⟨T125, X125, e125, st125⟩ := getF X0 hx hZ hown (host := "") (Or.inl (hw _ (List.mem_of_getElem? (i := 20) rfl))) Via.refl e0 f105 (g := (mkF m 1 #[rv q, .unset] [(.ref q)])) rfl rfl (hb hby own_d5_1)
  refine own_by (g' := (mkF m 4 #[rv q, .unset] [(.ref b2)])) st125 ?_
  refine own_by (g' := (mkF m 28 #[rv q, .unset] [(.ref q)])) (fun t k => XS.ifnonnullYes X125.here hx rfl (pc0 := 4) (pc' := 27) rfl (hb hby own_d5_4) rfl (by decide) (by decide) (XS.aloadN X125.here hx rfl (hb hby own_d5_27) rfl rfl k)) ?_
  obtain ⟨T126, X126, e126, st126⟩ := getF X125 hx hZ hown (host := "") (Or.inl (hw _ (List.mem_of_getElem? (i := 24) rfl))) Via.refl e125 f107 (g := (mkF m 28 #[rv q, .unset] [(.ref q)])) rfl rfl (hb hby own_d5_28)
  refine own_by (g' := (mkF m 31 #[rv q, .unset] [(.int tl)])) st126 ?_
  refine own_by (g' := (mkF m 32 #[rv q, .unset] [(.ref q), (.int tl)])) (fun t k => XS.aloadN X126.here hx rfl (hb hby own_d5_31) rfl rfl k) ?_
  obtain ⟨T127, X127, e127, st127⟩ := getF X126 hx hZ hown (host := "") (Or.inl (hw _ (List.mem_of_getElem? (i := 20) rfl))) Via.refl e126 f105 (g := (mkF m 32 #[rv q, .unset] [(.ref q), (.int tl)])) rfl rfl (hb hby own_d5_32)
  refine own_by (g' := (mkF m 35 #[rv q, .unset] [(.ref b2), (.int tl)])) st127 ?_
  obtain ⟨T128, X128, e128, st128⟩ := own_getR X127 hx hZ hown (hw _ (List.mem_of_getElem? (i := 65) rfl)) e127 f117 (g := (mkF m 35 #[rv q, .unset] [(.ref b2), (.int tl)])) rfl rfl (hb hby own_d5_35)
  refine own_by (g' := (mkF m 38 #[rv q, .unset] [(.int z2), (.int tl)])) st128 ?_
  refine own_by (g' := (mkF m 81 #[rv q, .unset] [(.ref q), (.ref q)])) (fun t k => XS.icmpYes X128.here hx rfl (pc0 := 38) (pc' := 79) rfl (hb hby own_d5_38) rfl (feq hp).2 (by decide) (by decide) (XS.aloadN X128.here hx rfl (hb hby own_d5_79) rfl rfl (XS.dup X128.here hx rfl (hb hby own_d5_80) rfl rfl k))) ?_
  obtain ⟨T129, X129, e129, st129⟩ := getF X128 hx hZ hown (host := "") (Or.inl (hw _ (List.mem_of_getElem? (i := 24) rfl))) Via.refl e128 f107 (g := (mkF m 81 #[rv q, .unset] [(.ref q), (.ref q)])) rfl rfl (hb hby own_d5_81)
  refine own_by (g' := (mkF m 84 #[rv q, .unset] [(.int tl), (.ref q)])) st129 ?_
  refine own_by (g' := (mkF m 86 #[rv q, .unset] [(.int (tl + (1 : Int32))), (.ref q)])) (fun t k => XS.iconst X129.here hx rfl (hb hby own_d5_84) (XS.iadd X129.here hx rfl (hb hby own_d5_85) rfl k)) ?_
  obtain ⟨T130, h130, X130, e130, W130, st130⟩ := putF X129 hx hZ hown (host := "") (Or.inl (hw _ (List.mem_of_getElem? (i := 24) rfl))) Via.refl e129 f107 f101 (Or.inl (hw _ (List.mem_of_getElem? (i := 25) rfl))) (hw _ (List.mem_of_getElem? (i := 1) rfl)) (ty := .int) (by decide) rfl rfl (g := (mkF m 86 #[rv q, .unset] [(.int (tl + (1 : Int32))), (.ref q)])) rfl rfl (hb hby own_d5_86)
  have f131 := f107.same W130
  have N130 := Fr.snoc X130 N0 f108
  refine own_by (g' := (mkF m 89 #[rv q, .unset] [])) st130 ?_
  have f132 := (f101.wr W130)
  have f133 := (f102.other W130 (Or.inr (slot_ne (Or.inr (hw _ (List.mem_of_getElem? (i := 10) rfl))) (Or.inl (hw _ (List.mem_of_getElem? (i := 25) rfl))) (by decide) (t := .int) (t' := .int) (by decide) (by decide))))
  have f134 := (f103.other W130 (Or.inr (slot_ne (Or.inr (hw _ (List.mem_of_getElem? (i := 12) rfl))) (Or.inl (hw _ (List.mem_of_getElem? (i := 25) rfl))) (by decide) (t := .int) (t' := .int) (by decide) (by decide))))
  have f135 := (f104.other W130 (Or.inr (slot_ne (Or.inl (hw _ (List.mem_of_getElem? (i := 19) rfl))) (Or.inl (hw _ (List.mem_of_getElem? (i := 25) rfl))) (by decide) (t := (.object "com/example/limentinus/limentinus/simulator/RecordQueue$Block")) (t' := .int) (by decide) (by decide))))
  have f136 := (f105.other W130 (Or.inr (slot_ne (Or.inl (hw _ (List.mem_of_getElem? (i := 21) rfl))) (Or.inl (hw _ (List.mem_of_getElem? (i := 25) rfl))) (by decide) (t := (.object "com/example/limentinus/limentinus/simulator/RecordQueue$Block")) (t' := .int) (by decide) (by decide))))
  have f137 := (f106.other W130 (Or.inr (slot_ne (Or.inl (hw _ (List.mem_of_getElem? (i := 23) rfl))) (Or.inl (hw _ (List.mem_of_getElem? (i := 25) rfl))) (by decide) (t := .int) (t' := .int) (by decide) (by decide))))
  have f138 := (f109.wr W130)
  have f139 := (f110.other W130 (Or.inl (ne_exa f109 f101 (by decide))))
  have f140 := (f111.other W130 (Or.inl (ne_exa f109 f101 (by decide))))
  have f141 := (f112.other W130 (Or.inl (ne_exa f109 f101 (by decide))))
  have f142 := (f113.other W130 (Ne.symm (own_neY f101 (hw _ (List.mem_of_getElem? (i := 1) rfl)) f113)))
  have f143 := (f116.wr W130)
  have f144 := (f117.other W130 (Or.inl (ne_exa f116 f101 (by decide))))
  have f145 := (f118.other W130 (Or.inl (ne_exa f116 f101 (by decide))))
  have f146 := (f119.other W130 (Or.inl (ne_exa f116 f101 (by decide))))
  have f147 := (f120.other W130 (Ne.symm (own_neY f101 (hw _ (List.mem_of_getElem? (i := 1) rfl)) f120)))
  refine own_retV X130 hx hlk hret (hb hby own_d5_89) (by decide) (by decide) ?_
  rw [e130]
  exact ⟨rfl, N130, ((Keep.refl h0 [q]).wr W130 (Or.inl (List.mem_of_getElem? (i := 0) rfl))), ⟨f132, f133, f134, f135, f136, f137, f131, f108, f138, f139, f140, f141, f142, f114, f115, f143, f144, f145, f146, f147, f121, f122, f123, f124⟩⟩
def Q_own_add3n (Z : State) (q : Addr) (r : Int32) (w : Int32) (hd : Int32) (tl : Int32) (b1 : Addr) (a1 : Addr) (z1 : Int32) (b2 : Addr) (a2 : Addr) (z2 : Int32) (b3 : Addr) (a3 : Addr) (z3 : Int32) (h0 : Heap) (n0 : Nat) (v : Option Value) (h : Heap) (L : List Loc) : Prop := v = none ∧ Fr n0 L ∧ Keep h0 h [q] ∧ own_Q3 Z h (q) (n0) (r) (w) (hd) ((tl + (1 : Int32))) (b1) (a1) (z1) (b2) (a2) (z2) (b3) (a3) (z3)
theorem own_ef_own_add3n (m : MethodId) (q : Addr) : entryFrame m #[(.ref q)] 2 = mkF m 0 #[rv q, .unset] [] := by first | (simp [entryFrame, mkF, argsToLocals, Value.category]; done) | rfl
set_option maxRecDepth 65536 in
set_option maxHeartbeats 40000000 in
theorem own_add3n (l : Launch) (Z : State) (a0 : Array Value) (hw : ∀ d ∈ tables_1, d.before a0 Z = true) (ws : List Jvm.Cond) (q : Addr) (r : Int32) (w : Int32) (hd : Int32) (tl : Int32) (b1 : Addr) (a1 : Addr) (z1 : Int32) (b2 : Addr) (a2 : Addr) (z2 : Int32) (b3 : Addr) (a3 : Addr) (z3 : Int32) (h0 : Heap) (n0 : Nat) (Z0 : n0 ≤ h0.size) (B0 : own_Q3 Z h0 (q) (n0) (r) (w) (hd) (tl) (b1) (a1) (z1) (b2) (a2) (z2) (b3) (a3) (z3)) (hr : own_03 r) (hw3 : own_03 w) (hp : ¬ tl = z3) :
    own_Ctr l Z (⟨"com/example/limentinus/limentinus/simulator/RecordQueue", "add", "()V"⟩ : MethodName) prog_85_method_3_code 2 none ws ({ frames := 0, cells := 0, slots := 0, locals := 0 } : Room) (({ frames := 0, cells := 0, slots := 0, locals := 0 } : Room)).cells (({ frames := 0, cells := 0, slots := 0, locals := 0 } : Room)).slots #[(.ref q)] h0 (Q_own_add3n Z q r w hd tl b1 a1 z1 b2 a2 z2 b3 a3 z3 h0 n0) := by
  refine own_enter (plainFor_of_name own_pn0) ?_
  intro p e s m below meth c s₁ X0 hx hZ hby hml hown hnm hlk hret e0
  have N0 := Fr.nil n0
  refine own_cast (own_ef_own_add3n m q) ?_
  obtain ⟨f101, f102, f103, f104, f105, f106, f107, f108, f109, f110, f111, f112, f113, f114, f115, f116, f117, f118, f119, f120, f121, f122, f123, f124, f125, f126, f127, f128, f129, f130, f131, f132, f133, f134, f135⟩ := B0
  refine own_by (g' := (mkF m 1 #[rv q, .unset] [(.ref q)])) (fun t k => XS.aloadN X0.here hx rfl (hb hby own_d5_0) rfl rfl k) ?_
  obtain ⟨T136, X136, e136, st136⟩ := getF X0 hx hZ hown (host := "") (Or.inl (hw _ (List.mem_of_getElem? (i := 20) rfl))) Via.refl e0 f105 (g := (mkF m 1 #[rv q, .unset] [(.ref q)])) rfl rfl (hb hby own_d5_1)
  refine own_by (g' := (mkF m 4 #[rv q, .unset] [(.ref b3)])) st136 ?_
  refine own_by (g' := (mkF m 28 #[rv q, .unset] [(.ref q)])) (fun t k => XS.ifnonnullYes X136.here hx rfl (pc0 := 4) (pc' := 27) rfl (hb hby own_d5_4) rfl (by decide) (by decide) (XS.aloadN X136.here hx rfl (hb hby own_d5_27) rfl rfl k)) ?_
  obtain ⟨T137, X137, e137, st137⟩ := getF X136 hx hZ hown (host := "") (Or.inl (hw _ (List.mem_of_getElem? (i := 24) rfl))) Via.refl e136 f107 (g := (mkF m 28 #[rv q, .unset] [(.ref q)])) rfl rfl (hb hby own_d5_28)
  refine own_by (g' := (mkF m 31 #[rv q, .unset] [(.int tl)])) st137 ?_
  refine own_by (g' := (mkF m 32 #[rv q, .unset] [(.ref q), (.int tl)])) (fun t k => XS.aloadN X137.here hx rfl (hb hby own_d5_31) rfl rfl k) ?_
  obtain ⟨T138, X138, e138, st138⟩ := getF X137 hx hZ hown (host := "") (Or.inl (hw _ (List.mem_of_getElem? (i := 20) rfl))) Via.refl e137 f105 (g := (mkF m 32 #[rv q, .unset] [(.ref q), (.int tl)])) rfl rfl (hb hby own_d5_32)
  refine own_by (g' := (mkF m 35 #[rv q, .unset] [(.ref b3), (.int tl)])) st138 ?_
  obtain ⟨T139, X139, e139, st139⟩ := own_getR X138 hx hZ hown (hw _ (List.mem_of_getElem? (i := 65) rfl)) e138 f124 (g := (mkF m 35 #[rv q, .unset] [(.ref b3), (.int tl)])) rfl rfl (hb hby own_d5_35)
  refine own_by (g' := (mkF m 38 #[rv q, .unset] [(.int z3), (.int tl)])) st139 ?_
  refine own_by (g' := (mkF m 81 #[rv q, .unset] [(.ref q), (.ref q)])) (fun t k => XS.icmpYes X139.here hx rfl (pc0 := 38) (pc' := 79) rfl (hb hby own_d5_38) rfl (feq hp).2 (by decide) (by decide) (XS.aloadN X139.here hx rfl (hb hby own_d5_79) rfl rfl (XS.dup X139.here hx rfl (hb hby own_d5_80) rfl rfl k))) ?_
  obtain ⟨T140, X140, e140, st140⟩ := getF X139 hx hZ hown (host := "") (Or.inl (hw _ (List.mem_of_getElem? (i := 24) rfl))) Via.refl e139 f107 (g := (mkF m 81 #[rv q, .unset] [(.ref q), (.ref q)])) rfl rfl (hb hby own_d5_81)
  refine own_by (g' := (mkF m 84 #[rv q, .unset] [(.int tl), (.ref q)])) st140 ?_
  refine own_by (g' := (mkF m 86 #[rv q, .unset] [(.int (tl + (1 : Int32))), (.ref q)])) (fun t k => XS.iconst X140.here hx rfl (hb hby own_d5_84) (XS.iadd X140.here hx rfl (hb hby own_d5_85) rfl k)) ?_
  obtain ⟨T141, h141, X141, e141, W141, st141⟩ := putF X140 hx hZ hown (host := "") (Or.inl (hw _ (List.mem_of_getElem? (i := 24) rfl))) Via.refl e140 f107 f101 (Or.inl (hw _ (List.mem_of_getElem? (i := 25) rfl))) (hw _ (List.mem_of_getElem? (i := 1) rfl)) (ty := .int) (by decide) rfl rfl (g := (mkF m 86 #[rv q, .unset] [(.int (tl + (1 : Int32))), (.ref q)])) rfl rfl (hb hby own_d5_86)
  have f142 := f107.same W141
  have N141 := Fr.snoc X141 N0 f108
  refine own_by (g' := (mkF m 89 #[rv q, .unset] [])) st141 ?_
  have f143 := (f101.wr W141)
  have f144 := (f102.other W141 (Or.inr (slot_ne (Or.inr (hw _ (List.mem_of_getElem? (i := 10) rfl))) (Or.inl (hw _ (List.mem_of_getElem? (i := 25) rfl))) (by decide) (t := .int) (t' := .int) (by decide) (by decide))))
  have f145 := (f103.other W141 (Or.inr (slot_ne (Or.inr (hw _ (List.mem_of_getElem? (i := 12) rfl))) (Or.inl (hw _ (List.mem_of_getElem? (i := 25) rfl))) (by decide) (t := .int) (t' := .int) (by decide) (by decide))))
  have f146 := (f104.other W141 (Or.inr (slot_ne (Or.inl (hw _ (List.mem_of_getElem? (i := 19) rfl))) (Or.inl (hw _ (List.mem_of_getElem? (i := 25) rfl))) (by decide) (t := (.object "com/example/limentinus/limentinus/simulator/RecordQueue$Block")) (t' := .int) (by decide) (by decide))))
  have f147 := (f105.other W141 (Or.inr (slot_ne (Or.inl (hw _ (List.mem_of_getElem? (i := 21) rfl))) (Or.inl (hw _ (List.mem_of_getElem? (i := 25) rfl))) (by decide) (t := (.object "com/example/limentinus/limentinus/simulator/RecordQueue$Block")) (t' := .int) (by decide) (by decide))))
  have f148 := (f106.other W141 (Or.inr (slot_ne (Or.inl (hw _ (List.mem_of_getElem? (i := 23) rfl))) (Or.inl (hw _ (List.mem_of_getElem? (i := 25) rfl))) (by decide) (t := .int) (t' := .int) (by decide) (by decide))))
  have f149 := (f109.wr W141)
  have f150 := (f110.other W141 (Or.inl (ne_exa f109 f101 (by decide))))
  have f151 := (f111.other W141 (Or.inl (ne_exa f109 f101 (by decide))))
  have f152 := (f112.other W141 (Or.inl (ne_exa f109 f101 (by decide))))
  have f153 := (f113.other W141 (Ne.symm (own_neY f101 (hw _ (List.mem_of_getElem? (i := 1) rfl)) f113)))
  have f154 := (f116.wr W141)
  have f155 := (f117.other W141 (Or.inl (ne_exa f116 f101 (by decide))))
  have f156 := (f118.other W141 (Or.inl (ne_exa f116 f101 (by decide))))
  have f157 := (f119.other W141 (Or.inl (ne_exa f116 f101 (by decide))))
  have f158 := (f120.other W141 (Ne.symm (own_neY f101 (hw _ (List.mem_of_getElem? (i := 1) rfl)) f120)))
  have f159 := (f123.wr W141)
  have f160 := (f124.other W141 (Or.inl (ne_exa f123 f101 (by decide))))
  have f161 := (f125.other W141 (Or.inl (ne_exa f123 f101 (by decide))))
  have f162 := (f126.other W141 (Or.inl (ne_exa f123 f101 (by decide))))
  have f163 := (f127.other W141 (Ne.symm (own_neY f101 (hw _ (List.mem_of_getElem? (i := 1) rfl)) f127)))
  refine own_retV X141 hx hlk hret (hb hby own_d5_89) (by decide) (by decide) ?_
  rw [e141]
  exact ⟨rfl, N141, ((Keep.refl h0 [q]).wr W141 (Or.inl (List.mem_of_getElem? (i := 0) rfl))), ⟨f143, f144, f145, f146, f147, f148, f142, f108, f149, f150, f151, f152, f153, f114, f115, f154, f155, f156, f157, f158, f121, f122, f159, f160, f161, f162, f163, f128, f129, f130, f131, f132, f133, f134, f135⟩⟩
theorem own_d5_41 : decode prog_85_method_3_code 41 = .ok (.aload_n 0, 1) := by decide +kernel
theorem own_d5_42 : decode prog_85_method_3_code 42 = .ok (.iconst 2, 1) := by decide +kernel
theorem own_d5_43 : decode prog_85_method_3_code 43 = .ok (.aload_n 0, 1) := by decide +kernel
theorem own_d5_44 : decode prog_85_method_3_code 44 = .ok (.getfield 20, 3) := by decide +kernel
theorem own_d5_47 : decode prog_85_method_3_code 47 = .ok (.getfield 33, 3) := by decide +kernel
theorem own_d5_50 : decode prog_85_method_3_code 50 = .ok (.imul, 1) := by decide +kernel
theorem own_d5_51 : decode prog_85_method_3_code 51 = .ok (.sipush 1024, 3) := by decide +kernel
theorem own_d5_54 : decode prog_85_method_3_code 54 = .ok (.invokestatic 38, 3) := by decide +kernel
theorem own_pd2 : parseMethodDescriptor "(II)I" = some ⟨[.int, .int], some .int⟩ := by decide +kernel
theorem own_d5_57 : decode prog_85_method_3_code 57 = .ok (.invokevirtual 29, 3) := by decide +kernel
theorem own_d5_60 : decode prog_85_method_3_code 60 = .ok (.astore_n 1, 1) := by decide +kernel
theorem own_d5_61 : decode prog_85_method_3_code 61 = .ok (.aload_n 0, 1) := by decide +kernel
theorem own_d5_62 : decode prog_85_method_3_code 62 = .ok (.getfield 20, 3) := by decide +kernel
theorem own_d5_65 : decode prog_85_method_3_code 65 = .ok (.aload_n 1, 1) := by decide +kernel
theorem own_d5_66 : decode prog_85_method_3_code 66 = .ok (.putfield 44, 3) := by decide +kernel
theorem own_d5_69 : decode prog_85_method_3_code 69 = .ok (.aload_n 0, 1) := by decide +kernel
theorem own_d5_70 : decode prog_85_method_3_code 70 = .ok (.aload_n 1, 1) := by decide +kernel
theorem own_d5_71 : decode prog_85_method_3_code 71 = .ok (.putfield 20, 3) := by decide +kernel
theorem own_d5_74 : decode prog_85_method_3_code 74 = .ok (.aload_n 0, 1) := by decide +kernel
theorem own_d5_75 : decode prog_85_method_3_code 75 = .ok (.iconst 0, 1) := by decide +kernel
theorem own_d5_76 : decode prog_85_method_3_code 76 = .ok (.putfield 26, 3) := by decide +kernel
def Q_own_add1a2 (Z : State) (q : Addr) (r : Int32) (w : Int32) (hd : Int32) (b1 : Addr) (a1 : Addr) (h0 : Heap) (n0 : Nat) (v : Option Value) (h : Heap) (L : List Loc) : Prop := ∃ (b2 : Addr), ∃ (a2 : Addr), v = none ∧ Fr n0 L ∧ Keep h0 h [q, b1] ∧ own_Q2 Z h (q) (n0) (r) (w) (hd) ((1 : Int32)) (b1) (a1) ((2 : Int32)) (b2) (a2) ((4 : Int32)) ∧ h0.size ≤ b2 ∧ h0.size ≤ a2
theorem own_ef_own_add1a2 (m : MethodId) (q : Addr) : entryFrame m #[(.ref q)] 2 = mkF m 0 #[rv q, .unset] [] := by first | (simp [entryFrame, mkF, argsToLocals, Value.category]; done) | rfl
set_option maxRecDepth 65536 in
set_option maxHeartbeats 40000000 in
theorem own_add1a2 (l : Launch) (Z : State) (a0 : Array Value) (hw : ∀ d ∈ tables_1, d.before a0 Z = true) (ws : List Jvm.Cond) (q : Addr) (r : Int32) (w : Int32) (hd : Int32) (b1 : Addr) (a1 : Addr) (h0 : Heap) (n0 : Nat) (Z0 : n0 ≤ h0.size) (B0 : own_Q1 Z h0 (q) (n0) (r) (w) (hd) ((2 : Int32)) (b1) (a1) ((2 : Int32))) (hr : own_03 r) (hw3 : own_03 w) :
    own_Ctr l Z (⟨"com/example/limentinus/limentinus/simulator/RecordQueue", "add", "()V"⟩ : MethodName) prog_85_method_3_code 2 none ws ({ frames := 3, cells := 3, slots := 28, locals := 41 } : Room) (({ frames := 3, cells := 3, slots := 28, locals := 41 } : Room)).cells (({ frames := 3, cells := 3, slots := 28, locals := 41 } : Room)).slots #[(.ref q)] h0 (Q_own_add1a2 Z q r w hd b1 a1 h0 n0) := by
  refine own_enter (plainFor_of_name own_pn0) ?_
  intro p e s m below meth c s₁ X0 hx hZ hby hml hown hnm hlk hret e0
  have N0 := Fr.nil n0
  refine own_cast (own_ef_own_add1a2 m q) ?_
  obtain ⟨f101, f102, f103, f104, f105, f106, f107, f108, f109, f110, f111, f112, f113, f114, f115⟩ := B0
  refine own_by (g' := (mkF m 1 #[rv q, .unset] [(.ref q)])) (fun t k => XS.aloadN X0.here hx rfl (hb hby own_d5_0) rfl rfl k) ?_
  obtain ⟨T116, X116, e116, st116⟩ := getF X0 hx hZ hown (host := "") (Or.inl (hw _ (List.mem_of_getElem? (i := 20) rfl))) Via.refl e0 f105 (g := (mkF m 1 #[rv q, .unset] [(.ref q)])) rfl rfl (hb hby own_d5_1)
  refine own_by (g' := (mkF m 4 #[rv q, .unset] [(.ref b1)])) st116 ?_
  refine own_by (g' := (mkF m 28 #[rv q, .unset] [(.ref q)])) (fun t k => XS.ifnonnullYes X116.here hx rfl (pc0 := 4) (pc' := 27) rfl (hb hby own_d5_4) rfl (by decide) (by decide) (XS.aloadN X116.here hx rfl (hb hby own_d5_27) rfl rfl k)) ?_
  obtain ⟨T117, X117, e117, st117⟩ := getF X116 hx hZ hown (host := "") (Or.inl (hw _ (List.mem_of_getElem? (i := 24) rfl))) Via.refl e116 f107 (g := (mkF m 28 #[rv q, .unset] [(.ref q)])) rfl rfl (hb hby own_d5_28)
  refine own_by (g' := (mkF m 31 #[rv q, .unset] [(.int (2 : Int32))])) st117 ?_
  refine own_by (g' := (mkF m 32 #[rv q, .unset] [(.ref q), (.int (2 : Int32))])) (fun t k => XS.aloadN X117.here hx rfl (hb hby own_d5_31) rfl rfl k) ?_
  obtain ⟨T118, X118, e118, st118⟩ := getF X117 hx hZ hown (host := "") (Or.inl (hw _ (List.mem_of_getElem? (i := 20) rfl))) Via.refl e117 f105 (g := (mkF m 32 #[rv q, .unset] [(.ref q), (.int (2 : Int32))])) rfl rfl (hb hby own_d5_32)
  refine own_by (g' := (mkF m 35 #[rv q, .unset] [(.ref b1), (.int (2 : Int32))])) st118 ?_
  obtain ⟨T119, X119, e119, st119⟩ := own_getR X118 hx hZ hown (hw _ (List.mem_of_getElem? (i := 65) rfl)) e118 f110 (g := (mkF m 35 #[rv q, .unset] [(.ref b1), (.int (2 : Int32))])) rfl rfl (hb hby own_d5_35)
  refine own_by (g' := (mkF m 38 #[rv q, .unset] [(.int (2 : Int32)), (.int (2 : Int32))])) st119 ?_
  refine own_by (g' := (mkF m 44 #[rv q, .unset] [(.ref q), (.int (2 : Int32)), (.ref q)])) (fun t k => XS.icmpNo X119.here hx rfl (hb hby own_d5_38) rfl (teq (by decide : (2 : Int32) = (2 : Int32))).2 (XS.aloadN X119.here hx rfl (hb hby own_d5_41) rfl rfl (XS.iconst X119.here hx rfl (hb hby own_d5_42) (XS.aloadN X119.here hx rfl (hb hby own_d5_43) rfl rfl k)))) ?_
  obtain ⟨T120, X120, e120, st120⟩ := getF X119 hx hZ hown (host := "") (Or.inl (hw _ (List.mem_of_getElem? (i := 20) rfl))) Via.refl e119 f105 (g := (mkF m 44 #[rv q, .unset] [(.ref q), (.int (2 : Int32)), (.ref q)])) rfl rfl (hb hby own_d5_44)
  refine own_by (g' := (mkF m 47 #[rv q, .unset] [(.ref b1), (.int (2 : Int32)), (.ref q)])) st120 ?_
  obtain ⟨T121, X121, e121, st121⟩ := own_getR X120 hx hZ hown (hw _ (List.mem_of_getElem? (i := 65) rfl)) e120 f110 (g := (mkF m 47 #[rv q, .unset] [(.ref b1), (.int (2 : Int32)), (.ref q)])) rfl rfl (hb hby own_d5_47)
  refine own_by (g' := (mkF m 50 #[rv q, .unset] [(.int (2 : Int32)), (.int (2 : Int32)), (.ref q)])) st121 ?_
  refine own_by (g' := (mkF m 54 #[rv q, .unset] [(.int (1024 : Int32)), (.int (4 : Int32)), (.ref q)])) (fun t k => XS.imul X121.here hx rfl (hb hby own_d5_50) rfl (XS.sipush X121.here hx rfl (hb hby own_d5_51) k)) ?_
  refine own_callS X121 hx hZ hown (hw _ (List.mem_of_getElem? (i := 67) rfl)) (hw _ (List.mem_of_getElem? (i := 68) rfl)) (hw _ (List.mem_of_getElem? (i := 69) rfl)) (hw _ (List.mem_of_getElem? (i := 70) rfl)) (by decide) (own_cmin l Z a0 hw [] ((4 : Int32)) ((1024 : Int32)) h0 n0 Z0 ) 1 (by decide) (by decide) (by decide) (by decide) e121 (g := (mkF m 54 #[rv q, .unset] [(.int (1024 : Int32)), (.int (4 : Int32)), (.ref q)])) rfl (by rw [hml]; rfl) (argsL := [(.int (4 : Int32)), (.int (1024 : Int32))]) (rest := [(.ref q)]) (lenOf own_pd2 rfl) rfl (by show 2 * 0 + _ ≤ _; exact Nat.le_of_eq rfl) (hb hby own_d5_54) ?_
  intro v122 T122 L122 X122 q122
  obtain ⟨rfl, N122q, e122⟩ := q122
  have N122 := Fr.app N0 N122q
  show own_Goes p e below s _ _ _ T122 (mkF m 57 #[rv q, .unset] [(.int (own_min (4 : Int32) (1024 : Int32))), (.ref q)])
  rw [show (own_min (4 : Int32) (1024 : Int32)) = (4 : Int32) from by decide]
  refine own_callP X122 hx hZ hown (hw _ (List.mem_of_getElem? (i := 35) rfl)) (hw _ (List.mem_of_getElem? (i := 36) rfl)) (own_selp (hw _ (List.mem_of_getElem? (i := 1) rfl)) (hw _ (List.mem_of_getElem? (i := 36) rfl)) (hw _ (List.mem_of_getElem? (i := 37) rfl)) (by decide)) (hw _ (List.mem_of_getElem? (i := 37) rfl)) (hw _ (List.mem_of_getElem? (i := 38) rfl)) (hw _ (List.mem_of_getElem? (i := 2) rfl)) (by decide) (a := q) f101 (own_block4 l Z a0 hw [] (q) (r) (w) h0 n0 Z0 f102 f103 (by first | assumption | decide) (by first | assumption | decide)) 0 (by decide) (by decide) (by decide) (by decide) e122 (g := (mkF m 57 #[rv q, .unset] [(.int (4 : Int32)), (.ref q)])) rfl (by rw [hml]; rfl) (argsL := [(.int (4 : Int32))]) (rest := []) (lenOf own_pd1 rfl) rfl (by show 2 * 0 + _ ≤ _; exact Nat.le_of_eq rfl) (hb hby own_d5_57) ?_
  intro v123 T123 L123 X123 q123
  obtain ⟨bo123, ba123, rfl, N123q, K123, f124, f125, f126, f127, f128, f129, f130⟩ := q123
  have N123 := Fr.app N122 N123q
  show own_Goes p e below s _ _ _ T123 (mkF m 60 #[rv q, .unset] [(.ref bo123)])
  refine own_by (g' := (mkF m 62 #[rv q, rv bo123] [(.ref q)])) (fun t k => XS.astoreN X123.here hx rfl (hb hby own_d5_60) rfl rfl (l' := #[rv q, rv bo123]) rfl (XS.aloadN X123.here hx rfl (hb hby own_d5_61) rfl rfl k)) ?_
  have f131 := (f105.keep K123 nin0)
  obtain ⟨T132, X132, e132, st132⟩ := getF X123 hx hZ hown (host := "") (Or.inl (hw _ (List.mem_of_getElem? (i := 20) rfl))) Via.refl rfl f131 (g := (mkF m 62 #[rv q, rv bo123] [(.ref q)])) rfl rfl (hb hby own_d5_62)
  refine own_by (g' := (mkF m 65 #[rv q, rv bo123] [(.ref b1)])) st132 ?_
  refine own_by (g' := (mkF m 66 #[rv q, rv bo123] [(.ref bo123), (.ref b1)])) (fun t k => XS.aloadN X132.here hx rfl (hb hby own_d5_65) rfl rfl k) ?_
  have f133 := (f112.keep K123 nin0)
  have f134 := (f109.keep K123)
  obtain ⟨T135, h135, X135, e135, W135, st135⟩ := own_putR X132 hx hZ hown (hw _ (List.mem_of_getElem? (i := 71) rfl)) e132 f133 f134 (hw _ (List.mem_of_getElem? (i := 72) rfl)) (hw _ (List.mem_of_getElem? (i := 40) rfl)) (ty := (.object "com/example/limentinus/limentinus/simulator/RecordQueue$Block")) (by decide) rfl rfl (g := (mkF m 66 #[rv q, rv bo123] [(.ref bo123), (.ref b1)])) rfl rfl (hb hby own_d5_66)
  have f136 := f133.same W135
  have N135 := Fr.snoc X135 N123 f114
  refine own_by (g' := (mkF m 69 #[rv q, rv bo123] [])) st135 ?_
  refine own_by (g' := (mkF m 71 #[rv q, rv bo123] [(.ref bo123), (.ref q)])) (fun t k => XS.aloadN X135.here hx rfl (hb hby own_d5_69) rfl rfl (XS.aloadN X135.here hx rfl (hb hby own_d5_70) rfl rfl k)) ?_
  have f137 := (f131.other W135 (Or.inl (ne_exa f101 f109 (by decide))))
  have f138 := ((f101.keep K123).wr W135)
  obtain ⟨T139, h139, X139, e139, W139, st139⟩ := putF X135 hx hZ hown (host := "") (Or.inl (hw _ (List.mem_of_getElem? (i := 20) rfl))) Via.refl e135 f137 f138 (Or.inl (hw _ (List.mem_of_getElem? (i := 21) rfl))) (hw _ (List.mem_of_getElem? (i := 1) rfl)) (ty := (.object "com/example/limentinus/limentinus/simulator/RecordQueue$Block")) (by decide) rfl rfl (g := (mkF m 71 #[rv q, rv bo123] [(.ref bo123), (.ref q)])) rfl rfl (hb hby own_d5_71)
  have f140 := f137.same W139
  have N139 := Fr.snoc X139 N135 f108
  refine own_by (g' := (mkF m 74 #[rv q, rv bo123] [])) st139 ?_
  refine own_by (g' := (mkF m 76 #[rv q, rv bo123] [(.int (0 : Int32)), (.ref q)])) (fun t k => XS.aloadN X139.here hx rfl (hb hby own_d5_74) rfl rfl (XS.iconst X139.here hx rfl (hb hby own_d5_75) k)) ?_
  have f141 := (((f107.keep K123 nin0).other W135 (Or.inl (ne_exa f101 f109 (by decide)))).other W139 (Or.inr (slot_ne (Or.inl (hw _ (List.mem_of_getElem? (i := 25) rfl))) (Or.inl (hw _ (List.mem_of_getElem? (i := 21) rfl))) (by decide) (t := .int) (t' := (.object "com/example/limentinus/limentinus/simulator/RecordQueue$Block")) (by decide) (by decide))))
  have f142 := (f138.wr W139)
  obtain ⟨T143, h143, X143, e143, W143, st143⟩ := putF X139 hx hZ hown (host := "") (Or.inl (hw _ (List.mem_of_getElem? (i := 24) rfl))) Via.refl e139 f141 f142 (Or.inl (hw _ (List.mem_of_getElem? (i := 25) rfl))) (hw _ (List.mem_of_getElem? (i := 1) rfl)) (ty := .int) (by decide) rfl rfl (g := (mkF m 76 #[rv q, rv bo123] [(.int (0 : Int32)), (.ref q)])) rfl rfl (hb hby own_d5_76)
  have f144 := f141.same W143
  have N143 := Fr.snoc X143 N139 f108
  refine own_by (g' := (mkF m 79 #[rv q, rv bo123] [])) st143 ?_
  refine own_by (g' := (mkF m 81 #[rv q, rv bo123] [(.ref q), (.ref q)])) (fun t k => XS.aloadN X143.here hx rfl (hb hby own_d5_79) rfl rfl (XS.dup X143.here hx rfl (hb hby own_d5_80) rfl rfl k)) ?_
  obtain ⟨T145, X145, e145, st145⟩ := getF X143 hx hZ hown (host := "") (Or.inl (hw _ (List.mem_of_getElem? (i := 24) rfl))) Via.refl e143 f144 (g := (mkF m 81 #[rv q, rv bo123] [(.ref q), (.ref q)])) rfl rfl (hb hby own_d5_81)
  refine own_by (g' := (mkF m 84 #[rv q, rv bo123] [(.int (0 : Int32)), (.ref q)])) st145 ?_
  refine own_by (g' := (mkF m 86 #[rv q, rv bo123] [(.int (1 : Int32)), (.ref q)])) (fun t k => XS.iconst X145.here hx rfl (hb hby own_d5_84) (XS.iadd X145.here hx rfl (hb hby own_d5_85) rfl k)) ?_
  have f146 := (f142.wr W143)
  obtain ⟨T147, h147, X147, e147, W147, st147⟩ := putF X145 hx hZ hown (host := "") (Or.inl (hw _ (List.mem_of_getElem? (i := 24) rfl))) Via.refl e145 f144 f146 (Or.inl (hw _ (List.mem_of_getElem? (i := 25) rfl))) (hw _ (List.mem_of_getElem? (i := 1) rfl)) (ty := .int) (by decide) rfl rfl (g := (mkF m 86 #[rv q, rv bo123] [(.int (1 : Int32)), (.ref q)])) rfl rfl (hb hby own_d5_86)
  have f148 := f144.same W147
  have N147 := Fr.snoc X147 N143 f108
  refine own_by (g' := (mkF m 89 #[rv q, rv bo123] [])) st147 ?_
  have f149 := (f146.wr W147)
  have f150 := (((((f102.keep K123 nin0).other W135 (Or.inl (ne_exa f101 f109 (by decide)))).other W139 (Or.inr (slot_ne (Or.inr (hw _ (List.mem_of_getElem? (i := 10) rfl))) (Or.inl (hw _ (List.mem_of_getElem? (i := 21) rfl))) (by decide) (t := .int) (t' := (.object "com/example/limentinus/limentinus/simulator/RecordQueue$Block")) (by decide) (by decide)))).other W143 (Or.inr (slot_ne (Or.inr (hw _ (List.mem_of_getElem? (i := 10) rfl))) (Or.inl (hw _ (List.mem_of_getElem? (i := 25) rfl))) (by decide) (t := .int) (t' := .int) (by decide) (by decide)))).other W147 (Or.inr (slot_ne (Or.inr (hw _ (List.mem_of_getElem? (i := 10) rfl))) (Or.inl (hw _ (List.mem_of_getElem? (i := 25) rfl))) (by decide) (t := .int) (t' := .int) (by decide) (by decide))))
  have f151 := (((((f103.keep K123 nin0).other W135 (Or.inl (ne_exa f101 f109 (by decide)))).other W139 (Or.inr (slot_ne (Or.inr (hw _ (List.mem_of_getElem? (i := 12) rfl))) (Or.inl (hw _ (List.mem_of_getElem? (i := 21) rfl))) (by decide) (t := .int) (t' := (.object "com/example/limentinus/limentinus/simulator/RecordQueue$Block")) (by decide) (by decide)))).other W143 (Or.inr (slot_ne (Or.inr (hw _ (List.mem_of_getElem? (i := 12) rfl))) (Or.inl (hw _ (List.mem_of_getElem? (i := 25) rfl))) (by decide) (t := .int) (t' := .int) (by decide) (by decide)))).other W147 (Or.inr (slot_ne (Or.inr (hw _ (List.mem_of_getElem? (i := 12) rfl))) (Or.inl (hw _ (List.mem_of_getElem? (i := 25) rfl))) (by decide) (t := .int) (t' := .int) (by decide) (by decide))))
  have f152 := (((((f104.keep K123 nin0).other W135 (Or.inl (ne_exa f101 f109 (by decide)))).other W139 (Or.inr (slot_ne (Or.inl (hw _ (List.mem_of_getElem? (i := 19) rfl))) (Or.inl (hw _ (List.mem_of_getElem? (i := 21) rfl))) (by decide) (t := (.object "com/example/limentinus/limentinus/simulator/RecordQueue$Block")) (t' := (.object "com/example/limentinus/limentinus/simulator/RecordQueue$Block")) (by decide) (by decide)))).other W143 (Or.inr (slot_ne (Or.inl (hw _ (List.mem_of_getElem? (i := 19) rfl))) (Or.inl (hw _ (List.mem_of_getElem? (i := 25) rfl))) (by decide) (t := (.object "com/example/limentinus/limentinus/simulator/RecordQueue$Block")) (t' := .int) (by decide) (by decide)))).other W147 (Or.inr (slot_ne (Or.inl (hw _ (List.mem_of_getElem? (i := 19) rfl))) (Or.inl (hw _ (List.mem_of_getElem? (i := 25) rfl))) (by decide) (t := (.object "com/example/limentinus/limentinus/simulator/RecordQueue$Block")) (t' := .int) (by decide) (by decide))))
  have f153 := ((f140.other W143 (Or.inr (slot_ne (Or.inl (hw _ (List.mem_of_getElem? (i := 21) rfl))) (Or.inl (hw _ (List.mem_of_getElem? (i := 25) rfl))) (by decide) (t := (.object "com/example/limentinus/limentinus/simulator/RecordQueue$Block")) (t' := .int) (by decide) (by decide)))).other W147 (Or.inr (slot_ne (Or.inl (hw _ (List.mem_of_getElem? (i := 21) rfl))) (Or.inl (hw _ (List.mem_of_getElem? (i := 25) rfl))) (by decide) (t := (.object "com/example/limentinus/limentinus/simulator/RecordQueue$Block")) (t' := .int) (by decide) (by decide))))
  have f154 := (((((f106.keep K123 nin0).other W135 (Or.inl (ne_exa f101 f109 (by decide)))).other W139 (Or.inr (slot_ne (Or.inl (hw _ (List.mem_of_getElem? (i := 23) rfl))) (Or.inl (hw _ (List.mem_of_getElem? (i := 21) rfl))) (by decide) (t := .int) (t' := (.object "com/example/limentinus/limentinus/simulator/RecordQueue$Block")) (by decide) (by decide)))).other W143 (Or.inr (slot_ne (Or.inl (hw _ (List.mem_of_getElem? (i := 23) rfl))) (Or.inl (hw _ (List.mem_of_getElem? (i := 25) rfl))) (by decide) (t := .int) (t' := .int) (by decide) (by decide)))).other W147 (Or.inr (slot_ne (Or.inl (hw _ (List.mem_of_getElem? (i := 23) rfl))) (Or.inl (hw _ (List.mem_of_getElem? (i := 25) rfl))) (by decide) (t := .int) (t' := .int) (by decide) (by decide))))
  have f155 := ((((f134.wr W135).wr W139).wr W143).wr W147)
  have f156 := (((((f110.keep K123 nin0).other W135 (Or.inr (slot_ne (Or.inr (hw _ (List.mem_of_getElem? (i := 50) rfl))) (Or.inl (hw _ (List.mem_of_getElem? (i := 72) rfl))) (by decide) (t := .int) (t' := (.object "com/example/limentinus/limentinus/simulator/RecordQueue$Block")) (by decide) (by decide)))).other W139 (Or.inl (ne_exa f109 f101 (by decide)))).other W143 (Or.inl (ne_exa f109 f101 (by decide)))).other W147 (Or.inl (ne_exa f109 f101 (by decide))))
  have f157 := (((((f111.keep K123 nin0).other W135 (Or.inr (slot_ne (Or.inr (hw _ (List.mem_of_getElem? (i := 52) rfl))) (Or.inl (hw _ (List.mem_of_getElem? (i := 72) rfl))) (by decide) (t := (.array (.object "java/lang/Object"))) (t' := (.object "com/example/limentinus/limentinus/simulator/RecordQueue$Block")) (by decide) (by decide)))).other W139 (Or.inl (ne_exa f109 f101 (by decide)))).other W143 (Or.inl (ne_exa f109 f101 (by decide)))).other W147 (Or.inl (ne_exa f109 f101 (by decide))))
  have f158 := (((f136.other W139 (Or.inl (ne_exa f109 f101 (by decide)))).other W143 (Or.inl (ne_exa f109 f101 (by decide)))).other W147 (Or.inl (ne_exa f109 f101 (by decide))))
  have f159 := (((((f113.keep K123 nin0).other W135 (Ne.symm (own_neY f109 (hw _ (List.mem_of_getElem? (i := 40) rfl)) f113))).other W139 (Ne.symm (own_neY f101 (hw _ (List.mem_of_getElem? (i := 1) rfl)) f113))).other W143 (Ne.symm (own_neY f101 (hw _ (List.mem_of_getElem? (i := 1) rfl)) f113))).other W147 (Ne.symm (own_neY f101 (hw _ (List.mem_of_getElem? (i := 1) rfl)) f113)))
  have f160 := ((((f126.wr W135).wr W139).wr W143).wr W147)
  have f161 := ((((f127.other W135 (Or.inl (Ne.symm (Nat.ne_of_lt (Nat.lt_of_lt_of_le (Nat.lt_of_lt_of_le f109.lt (Nat.le_refl _)) f124))))).other W139 (Or.inl (Ne.symm (Nat.ne_of_lt (Nat.lt_of_lt_of_le (Nat.lt_of_lt_of_le f101.lt (Nat.le_refl _)) f124))))).other W143 (Or.inl (Ne.symm (Nat.ne_of_lt (Nat.lt_of_lt_of_le (Nat.lt_of_lt_of_le f101.lt (Nat.le_refl _)) f124))))).other W147 (Or.inl (Ne.symm (Nat.ne_of_lt (Nat.lt_of_lt_of_le (Nat.lt_of_lt_of_le f101.lt (Nat.le_refl _)) f124)))))
  have f162 := ((((f128.other W135 (Or.inl (Ne.symm (Nat.ne_of_lt (Nat.lt_of_lt_of_le (Nat.lt_of_lt_of_le f109.lt (Nat.le_refl _)) f124))))).other W139 (Or.inl (Ne.symm (Nat.ne_of_lt (Nat.lt_of_lt_of_le (Nat.lt_of_lt_of_le f101.lt (Nat.le_refl _)) f124))))).other W143 (Or.inl (Ne.symm (Nat.ne_of_lt (Nat.lt_of_lt_of_le (Nat.lt_of_lt_of_le f101.lt (Nat.le_refl _)) f124))))).other W147 (Or.inl (Ne.symm (Nat.ne_of_lt (Nat.lt_of_lt_of_le (Nat.lt_of_lt_of_le f101.lt (Nat.le_refl _)) f124)))))
  have f163 := ((((f129.other W135 (Or.inl (Ne.symm (Nat.ne_of_lt (Nat.lt_of_lt_of_le (Nat.lt_of_lt_of_le f109.lt (Nat.le_refl _)) f124))))).other W139 (Or.inl (Ne.symm (Nat.ne_of_lt (Nat.lt_of_lt_of_le (Nat.lt_of_lt_of_le f101.lt (Nat.le_refl _)) f124))))).other W143 (Or.inl (Ne.symm (Nat.ne_of_lt (Nat.lt_of_lt_of_le (Nat.lt_of_lt_of_le f101.lt (Nat.le_refl _)) f124))))).other W147 (Or.inl (Ne.symm (Nat.ne_of_lt (Nat.lt_of_lt_of_le (Nat.lt_of_lt_of_le f101.lt (Nat.le_refl _)) f124)))))
  have f164 := ((((f130.other W135 (Ne.symm (Nat.ne_of_lt (Nat.lt_of_lt_of_le (Nat.lt_of_lt_of_le f109.lt (Nat.le_refl _)) f125)))).other W139 (Ne.symm (Nat.ne_of_lt (Nat.lt_of_lt_of_le (Nat.lt_of_lt_of_le f101.lt (Nat.le_refl _)) f125)))).other W143 (Ne.symm (Nat.ne_of_lt (Nat.lt_of_lt_of_le (Nat.lt_of_lt_of_le f101.lt (Nat.le_refl _)) f125)))).other W147 (Ne.symm (Nat.ne_of_lt (Nat.lt_of_lt_of_le (Nat.lt_of_lt_of_le f101.lt (Nat.le_refl _)) f125))))
  refine own_retV X147 hx hlk hret (hb hby own_d5_89) (by decide) (by decide) ?_
  rw [e147]
  exact ⟨bo123, ba123, rfl, N147, ((((((Keep.refl h0 [q, b1]).trans K123 all0).wr W135 (Or.inl (List.mem_of_getElem? (i := 1) rfl))).wr W139 (Or.inl (List.mem_of_getElem? (i := 0) rfl))).wr W143 (Or.inl (List.mem_of_getElem? (i := 0) rfl))).wr W147 (Or.inl (List.mem_of_getElem? (i := 0) rfl))), ⟨f149, f150, f151, f152, f153, f154, f148, f108, f155, f156, f157, f158, f159, f114, f115, f160, f161, f162, f163, f164, (Nat.le_trans Z0 f124), (Nat.le_trans Z0 f125), (Nat.ne_of_lt (Nat.lt_of_lt_of_le (Nat.lt_of_lt_of_le f109.lt (Nat.le_refl _)) f124)), (Nat.ne_of_lt (Nat.lt_of_lt_of_le (Nat.lt_of_lt_of_le f113.lt (Nat.le_refl _)) f125))⟩, (Nat.le_trans (Nat.le_refl _) f124), (Nat.le_trans (Nat.le_refl _) f125)⟩
def Q_own_add1a4 (Z : State) (q : Addr) (r : Int32) (w : Int32) (hd : Int32) (b1 : Addr) (a1 : Addr) (h0 : Heap) (n0 : Nat) (v : Option Value) (h : Heap) (L : List Loc) : Prop := ∃ (b2 : Addr), ∃ (a2 : Addr), v = none ∧ Fr n0 L ∧ Keep h0 h [q, b1] ∧ own_Q2 Z h (q) (n0) (r) (w) (hd) ((1 : Int32)) (b1) (a1) ((4 : Int32)) (b2) (a2) ((8 : Int32)) ∧ h0.size ≤ b2 ∧ h0.size ≤ a2
theorem own_ef_own_add1a4 (m : MethodId) (q : Addr) : entryFrame m #[(.ref q)] 2 = mkF m 0 #[rv q, .unset] [] := by first | (simp [entryFrame, mkF, argsToLocals, Value.category]; done) | rfl
set_option maxRecDepth 65536 in
set_option maxHeartbeats 40000000 in
theorem own_add1a4 (l : Launch) (Z : State) (a0 : Array Value) (hw : ∀ d ∈ tables_1, d.before a0 Z = true) (ws : List Jvm.Cond) (q : Addr) (r : Int32) (w : Int32) (hd : Int32) (b1 : Addr) (a1 : Addr) (h0 : Heap) (n0 : Nat) (Z0 : n0 ≤ h0.size) (B0 : own_Q1 Z h0 (q) (n0) (r) (w) (hd) ((4 : Int32)) (b1) (a1) ((4 : Int32))) (hr : own_03 r) (hw3 : own_03 w) :
    own_Ctr l Z (⟨"com/example/limentinus/limentinus/simulator/RecordQueue", "add", "()V"⟩ : MethodName) prog_85_method_3_code 2 none ws ({ frames := 3, cells := 3, slots := 52, locals := 41 } : Room) (({ frames := 3, cells := 3, slots := 52, locals := 41 } : Room)).cells (({ frames := 3, cells := 3, slots := 52, locals := 41 } : Room)).slots #[(.ref q)] h0 (Q_own_add1a4 Z q r w hd b1 a1 h0 n0) := by
  refine own_enter (plainFor_of_name own_pn0) ?_
  intro p e s m below meth c s₁ X0 hx hZ hby hml hown hnm hlk hret e0
  have N0 := Fr.nil n0
  refine own_cast (own_ef_own_add1a4 m q) ?_
  obtain ⟨f101, f102, f103, f104, f105, f106, f107, f108, f109, f110, f111, f112, f113, f114, f115⟩ := B0
  refine own_by (g' := (mkF m 1 #[rv q, .unset] [(.ref q)])) (fun t k => XS.aloadN X0.here hx rfl (hb hby own_d5_0) rfl rfl k) ?_
  obtain ⟨T116, X116, e116, st116⟩ := getF X0 hx hZ hown (host := "") (Or.inl (hw _ (List.mem_of_getElem? (i := 20) rfl))) Via.refl e0 f105 (g := (mkF m 1 #[rv q, .unset] [(.ref q)])) rfl rfl (hb hby own_d5_1)
  refine own_by (g' := (mkF m 4 #[rv q, .unset] [(.ref b1)])) st116 ?_
  refine own_by (g' := (mkF m 28 #[rv q, .unset] [(.ref q)])) (fun t k => XS.ifnonnullYes X116.here hx rfl (pc0 := 4) (pc' := 27) rfl (hb hby own_d5_4) rfl (by decide) (by decide) (XS.aloadN X116.here hx rfl (hb hby own_d5_27) rfl rfl k)) ?_
  obtain ⟨T117, X117, e117, st117⟩ := getF X116 hx hZ hown (host := "") (Or.inl (hw _ (List.mem_of_getElem? (i := 24) rfl))) Via.refl e116 f107 (g := (mkF m 28 #[rv q, .unset] [(.ref q)])) rfl rfl (hb hby own_d5_28)
  refine own_by (g' := (mkF m 31 #[rv q, .unset] [(.int (4 : Int32))])) st117 ?_
  refine own_by (g' := (mkF m 32 #[rv q, .unset] [(.ref q), (.int (4 : Int32))])) (fun t k => XS.aloadN X117.here hx rfl (hb hby own_d5_31) rfl rfl k) ?_
  obtain ⟨T118, X118, e118, st118⟩ := getF X117 hx hZ hown (host := "") (Or.inl (hw _ (List.mem_of_getElem? (i := 20) rfl))) Via.refl e117 f105 (g := (mkF m 32 #[rv q, .unset] [(.ref q), (.int (4 : Int32))])) rfl rfl (hb hby own_d5_32)
  refine own_by (g' := (mkF m 35 #[rv q, .unset] [(.ref b1), (.int (4 : Int32))])) st118 ?_
  obtain ⟨T119, X119, e119, st119⟩ := own_getR X118 hx hZ hown (hw _ (List.mem_of_getElem? (i := 65) rfl)) e118 f110 (g := (mkF m 35 #[rv q, .unset] [(.ref b1), (.int (4 : Int32))])) rfl rfl (hb hby own_d5_35)
  refine own_by (g' := (mkF m 38 #[rv q, .unset] [(.int (4 : Int32)), (.int (4 : Int32))])) st119 ?_
  refine own_by (g' := (mkF m 44 #[rv q, .unset] [(.ref q), (.int (2 : Int32)), (.ref q)])) (fun t k => XS.icmpNo X119.here hx rfl (hb hby own_d5_38) rfl (teq (by decide : (4 : Int32) = (4 : Int32))).2 (XS.aloadN X119.here hx rfl (hb hby own_d5_41) rfl rfl (XS.iconst X119.here hx rfl (hb hby own_d5_42) (XS.aloadN X119.here hx rfl (hb hby own_d5_43) rfl rfl k)))) ?_
  obtain ⟨T120, X120, e120, st120⟩ := getF X119 hx hZ hown (host := "") (Or.inl (hw _ (List.mem_of_getElem? (i := 20) rfl))) Via.refl e119 f105 (g := (mkF m 44 #[rv q, .unset] [(.ref q), (.int (2 : Int32)), (.ref q)])) rfl rfl (hb hby own_d5_44)
  refine own_by (g' := (mkF m 47 #[rv q, .unset] [(.ref b1), (.int (2 : Int32)), (.ref q)])) st120 ?_
  obtain ⟨T121, X121, e121, st121⟩ := own_getR X120 hx hZ hown (hw _ (List.mem_of_getElem? (i := 65) rfl)) e120 f110 (g := (mkF m 47 #[rv q, .unset] [(.ref b1), (.int (2 : Int32)), (.ref q)])) rfl rfl (hb hby own_d5_47)
  refine own_by (g' := (mkF m 50 #[rv q, .unset] [(.int (4 : Int32)), (.int (2 : Int32)), (.ref q)])) st121 ?_
  refine own_by (g' := (mkF m 54 #[rv q, .unset] [(.int (1024 : Int32)), (.int (8 : Int32)), (.ref q)])) (fun t k => XS.imul X121.here hx rfl (hb hby own_d5_50) rfl (XS.sipush X121.here hx rfl (hb hby own_d5_51) k)) ?_
  refine own_callS X121 hx hZ hown (hw _ (List.mem_of_getElem? (i := 67) rfl)) (hw _ (List.mem_of_getElem? (i := 68) rfl)) (hw _ (List.mem_of_getElem? (i := 69) rfl)) (hw _ (List.mem_of_getElem? (i := 70) rfl)) (by decide) (own_cmin l Z a0 hw [] ((8 : Int32)) ((1024 : Int32)) h0 n0 Z0 ) 1 (by decide) (by decide) (by decide) (by decide) e121 (g := (mkF m 54 #[rv q, .unset] [(.int (1024 : Int32)), (.int (8 : Int32)), (.ref q)])) rfl (by rw [hml]; rfl) (argsL := [(.int (8 : Int32)), (.int (1024 : Int32))]) (rest := [(.ref q)]) (lenOf own_pd2 rfl) rfl (by show 2 * 0 + _ ≤ _; exact Nat.le_of_eq rfl) (hb hby own_d5_54) ?_
  intro v122 T122 L122 X122 q122
  obtain ⟨rfl, N122q, e122⟩ := q122
  have N122 := Fr.app N0 N122q
  show own_Goes p e below s _ _ _ T122 (mkF m 57 #[rv q, .unset] [(.int (own_min (8 : Int32) (1024 : Int32))), (.ref q)])
  rw [show (own_min (8 : Int32) (1024 : Int32)) = (8 : Int32) from by decide]
  refine own_callP X122 hx hZ hown (hw _ (List.mem_of_getElem? (i := 35) rfl)) (hw _ (List.mem_of_getElem? (i := 36) rfl)) (own_selp (hw _ (List.mem_of_getElem? (i := 1) rfl)) (hw _ (List.mem_of_getElem? (i := 36) rfl)) (hw _ (List.mem_of_getElem? (i := 37) rfl)) (by decide)) (hw _ (List.mem_of_getElem? (i := 37) rfl)) (hw _ (List.mem_of_getElem? (i := 38) rfl)) (hw _ (List.mem_of_getElem? (i := 2) rfl)) (by decide) (a := q) f101 (own_block8 l Z a0 hw [] (q) (r) (w) h0 n0 Z0 f102 f103 (by first | assumption | decide) (by first | assumption | decide)) 0 (by decide) (by decide) (by decide) (by decide) e122 (g := (mkF m 57 #[rv q, .unset] [(.int (8 : Int32)), (.ref q)])) rfl (by rw [hml]; rfl) (argsL := [(.int (8 : Int32))]) (rest := []) (lenOf own_pd1 rfl) rfl (by show 2 * 0 + _ ≤ _; exact Nat.le_of_eq rfl) (hb hby own_d5_57) ?_
  intro v123 T123 L123 X123 q123
  obtain ⟨bo123, ba123, rfl, N123q, K123, f124, f125, f126, f127, f128, f129, f130⟩ := q123
  have N123 := Fr.app N122 N123q
  show own_Goes p e below s _ _ _ T123 (mkF m 60 #[rv q, .unset] [(.ref bo123)])
  refine own_by (g' := (mkF m 62 #[rv q, rv bo123] [(.ref q)])) (fun t k => XS.astoreN X123.here hx rfl (hb hby own_d5_60) rfl rfl (l' := #[rv q, rv bo123]) rfl (XS.aloadN X123.here hx rfl (hb hby own_d5_61) rfl rfl k)) ?_
  have f131 := (f105.keep K123 nin0)
  obtain ⟨T132, X132, e132, st132⟩ := getF X123 hx hZ hown (host := "") (Or.inl (hw _ (List.mem_of_getElem? (i := 20) rfl))) Via.refl rfl f131 (g := (mkF m 62 #[rv q, rv bo123] [(.ref q)])) rfl rfl (hb hby own_d5_62)
  refine own_by (g' := (mkF m 65 #[rv q, rv bo123] [(.ref b1)])) st132 ?_
  refine own_by (g' := (mkF m 66 #[rv q, rv bo123] [(.ref bo123), (.ref b1)])) (fun t k => XS.aloadN X132.here hx rfl (hb hby own_d5_65) rfl rfl k) ?_
  have f133 := (f112.keep K123 nin0)
  have f134 := (f109.keep K123)
  obtain ⟨T135, h135, X135, e135, W135, st135⟩ := own_putR X132 hx hZ hown (hw _ (List.mem_of_getElem? (i := 71) rfl)) e132 f133 f134 (hw _ (List.mem_of_getElem? (i := 72) rfl)) (hw _ (List.mem_of_getElem? (i := 40) rfl)) (ty := (.object "com/example/limentinus/limentinus/simulator/RecordQueue$Block")) (by decide) rfl rfl (g := (mkF m 66 #[rv q, rv bo123] [(.ref bo123), (.ref b1)])) rfl rfl (hb hby own_d5_66)
  have f136 := f133.same W135
  have N135 := Fr.snoc X135 N123 f114
  refine own_by (g' := (mkF m 69 #[rv q, rv bo123] [])) st135 ?_
  refine own_by (g' := (mkF m 71 #[rv q, rv bo123] [(.ref bo123), (.ref q)])) (fun t k => XS.aloadN X135.here hx rfl (hb hby own_d5_69) rfl rfl (XS.aloadN X135.here hx rfl (hb hby own_d5_70) rfl rfl k)) ?_
  have f137 := (f131.other W135 (Or.inl (ne_exa f101 f109 (by decide))))
  have f138 := ((f101.keep K123).wr W135)
  obtain ⟨T139, h139, X139, e139, W139, st139⟩ := putF X135 hx hZ hown (host := "") (Or.inl (hw _ (List.mem_of_getElem? (i := 20) rfl))) Via.refl e135 f137 f138 (Or.inl (hw _ (List.mem_of_getElem? (i := 21) rfl))) (hw _ (List.mem_of_getElem? (i := 1) rfl)) (ty := (.object "com/example/limentinus/limentinus/simulator/RecordQueue$Block")) (by decide) rfl rfl (g := (mkF m 71 #[rv q, rv bo123] [(.ref bo123), (.ref q)])) rfl rfl (hb hby own_d5_71)
  have f140 := f137.same W139
  have N139 := Fr.snoc X139 N135 f108
  refine own_by (g' := (mkF m 74 #[rv q, rv bo123] [])) st139 ?_
  refine own_by (g' := (mkF m 76 #[rv q, rv bo123] [(.int (0 : Int32)), (.ref q)])) (fun t k => XS.aloadN X139.here hx rfl (hb hby own_d5_74) rfl rfl (XS.iconst X139.here hx rfl (hb hby own_d5_75) k)) ?_
  have f141 := (((f107.keep K123 nin0).other W135 (Or.inl (ne_exa f101 f109 (by decide)))).other W139 (Or.inr (slot_ne (Or.inl (hw _ (List.mem_of_getElem? (i := 25) rfl))) (Or.inl (hw _ (List.mem_of_getElem? (i := 21) rfl))) (by decide) (t := .int) (t' := (.object "com/example/limentinus/limentinus/simulator/RecordQueue$Block")) (by decide) (by decide))))
  have f142 := (f138.wr W139)
  obtain ⟨T143, h143, X143, e143, W143, st143⟩ := putF X139 hx hZ hown (host := "") (Or.inl (hw _ (List.mem_of_getElem? (i := 24) rfl))) Via.refl e139 f141 f142 (Or.inl (hw _ (List.mem_of_getElem? (i := 25) rfl))) (hw _ (List.mem_of_getElem? (i := 1) rfl)) (ty := .int) (by decide) rfl rfl (g := (mkF m 76 #[rv q, rv bo123] [(.int (0 : Int32)), (.ref q)])) rfl rfl (hb hby own_d5_76)
  have f144 := f141.same W143
  have N143 := Fr.snoc X143 N139 f108
  refine own_by (g' := (mkF m 79 #[rv q, rv bo123] [])) st143 ?_
  refine own_by (g' := (mkF m 81 #[rv q, rv bo123] [(.ref q), (.ref q)])) (fun t k => XS.aloadN X143.here hx rfl (hb hby own_d5_79) rfl rfl (XS.dup X143.here hx rfl (hb hby own_d5_80) rfl rfl k)) ?_
  obtain ⟨T145, X145, e145, st145⟩ := getF X143 hx hZ hown (host := "") (Or.inl (hw _ (List.mem_of_getElem? (i := 24) rfl))) Via.refl e143 f144 (g := (mkF m 81 #[rv q, rv bo123] [(.ref q), (.ref q)])) rfl rfl (hb hby own_d5_81)
  refine own_by (g' := (mkF m 84 #[rv q, rv bo123] [(.int (0 : Int32)), (.ref q)])) st145 ?_
  refine own_by (g' := (mkF m 86 #[rv q, rv bo123] [(.int (1 : Int32)), (.ref q)])) (fun t k => XS.iconst X145.here hx rfl (hb hby own_d5_84) (XS.iadd X145.here hx rfl (hb hby own_d5_85) rfl k)) ?_
  have f146 := (f142.wr W143)
  obtain ⟨T147, h147, X147, e147, W147, st147⟩ := putF X145 hx hZ hown (host := "") (Or.inl (hw _ (List.mem_of_getElem? (i := 24) rfl))) Via.refl e145 f144 f146 (Or.inl (hw _ (List.mem_of_getElem? (i := 25) rfl))) (hw _ (List.mem_of_getElem? (i := 1) rfl)) (ty := .int) (by decide) rfl rfl (g := (mkF m 86 #[rv q, rv bo123] [(.int (1 : Int32)), (.ref q)])) rfl rfl (hb hby own_d5_86)
  have f148 := f144.same W147
  have N147 := Fr.snoc X147 N143 f108
  refine own_by (g' := (mkF m 89 #[rv q, rv bo123] [])) st147 ?_
  have f149 := (f146.wr W147)
  have f150 := (((((f102.keep K123 nin0).other W135 (Or.inl (ne_exa f101 f109 (by decide)))).other W139 (Or.inr (slot_ne (Or.inr (hw _ (List.mem_of_getElem? (i := 10) rfl))) (Or.inl (hw _ (List.mem_of_getElem? (i := 21) rfl))) (by decide) (t := .int) (t' := (.object "com/example/limentinus/limentinus/simulator/RecordQueue$Block")) (by decide) (by decide)))).other W143 (Or.inr (slot_ne (Or.inr (hw _ (List.mem_of_getElem? (i := 10) rfl))) (Or.inl (hw _ (List.mem_of_getElem? (i := 25) rfl))) (by decide) (t := .int) (t' := .int) (by decide) (by decide)))).other W147 (Or.inr (slot_ne (Or.inr (hw _ (List.mem_of_getElem? (i := 10) rfl))) (Or.inl (hw _ (List.mem_of_getElem? (i := 25) rfl))) (by decide) (t := .int) (t' := .int) (by decide) (by decide))))
  have f151 := (((((f103.keep K123 nin0).other W135 (Or.inl (ne_exa f101 f109 (by decide)))).other W139 (Or.inr (slot_ne (Or.inr (hw _ (List.mem_of_getElem? (i := 12) rfl))) (Or.inl (hw _ (List.mem_of_getElem? (i := 21) rfl))) (by decide) (t := .int) (t' := (.object "com/example/limentinus/limentinus/simulator/RecordQueue$Block")) (by decide) (by decide)))).other W143 (Or.inr (slot_ne (Or.inr (hw _ (List.mem_of_getElem? (i := 12) rfl))) (Or.inl (hw _ (List.mem_of_getElem? (i := 25) rfl))) (by decide) (t := .int) (t' := .int) (by decide) (by decide)))).other W147 (Or.inr (slot_ne (Or.inr (hw _ (List.mem_of_getElem? (i := 12) rfl))) (Or.inl (hw _ (List.mem_of_getElem? (i := 25) rfl))) (by decide) (t := .int) (t' := .int) (by decide) (by decide))))
  have f152 := (((((f104.keep K123 nin0).other W135 (Or.inl (ne_exa f101 f109 (by decide)))).other W139 (Or.inr (slot_ne (Or.inl (hw _ (List.mem_of_getElem? (i := 19) rfl))) (Or.inl (hw _ (List.mem_of_getElem? (i := 21) rfl))) (by decide) (t := (.object "com/example/limentinus/limentinus/simulator/RecordQueue$Block")) (t' := (.object "com/example/limentinus/limentinus/simulator/RecordQueue$Block")) (by decide) (by decide)))).other W143 (Or.inr (slot_ne (Or.inl (hw _ (List.mem_of_getElem? (i := 19) rfl))) (Or.inl (hw _ (List.mem_of_getElem? (i := 25) rfl))) (by decide) (t := (.object "com/example/limentinus/limentinus/simulator/RecordQueue$Block")) (t' := .int) (by decide) (by decide)))).other W147 (Or.inr (slot_ne (Or.inl (hw _ (List.mem_of_getElem? (i := 19) rfl))) (Or.inl (hw _ (List.mem_of_getElem? (i := 25) rfl))) (by decide) (t := (.object "com/example/limentinus/limentinus/simulator/RecordQueue$Block")) (t' := .int) (by decide) (by decide))))
  have f153 := ((f140.other W143 (Or.inr (slot_ne (Or.inl (hw _ (List.mem_of_getElem? (i := 21) rfl))) (Or.inl (hw _ (List.mem_of_getElem? (i := 25) rfl))) (by decide) (t := (.object "com/example/limentinus/limentinus/simulator/RecordQueue$Block")) (t' := .int) (by decide) (by decide)))).other W147 (Or.inr (slot_ne (Or.inl (hw _ (List.mem_of_getElem? (i := 21) rfl))) (Or.inl (hw _ (List.mem_of_getElem? (i := 25) rfl))) (by decide) (t := (.object "com/example/limentinus/limentinus/simulator/RecordQueue$Block")) (t' := .int) (by decide) (by decide))))
  have f154 := (((((f106.keep K123 nin0).other W135 (Or.inl (ne_exa f101 f109 (by decide)))).other W139 (Or.inr (slot_ne (Or.inl (hw _ (List.mem_of_getElem? (i := 23) rfl))) (Or.inl (hw _ (List.mem_of_getElem? (i := 21) rfl))) (by decide) (t := .int) (t' := (.object "com/example/limentinus/limentinus/simulator/RecordQueue$Block")) (by decide) (by decide)))).other W143 (Or.inr (slot_ne (Or.inl (hw _ (List.mem_of_getElem? (i := 23) rfl))) (Or.inl (hw _ (List.mem_of_getElem? (i := 25) rfl))) (by decide) (t := .int) (t' := .int) (by decide) (by decide)))).other W147 (Or.inr (slot_ne (Or.inl (hw _ (List.mem_of_getElem? (i := 23) rfl))) (Or.inl (hw _ (List.mem_of_getElem? (i := 25) rfl))) (by decide) (t := .int) (t' := .int) (by decide) (by decide))))
  have f155 := ((((f134.wr W135).wr W139).wr W143).wr W147)
  have f156 := (((((f110.keep K123 nin0).other W135 (Or.inr (slot_ne (Or.inr (hw _ (List.mem_of_getElem? (i := 50) rfl))) (Or.inl (hw _ (List.mem_of_getElem? (i := 72) rfl))) (by decide) (t := .int) (t' := (.object "com/example/limentinus/limentinus/simulator/RecordQueue$Block")) (by decide) (by decide)))).other W139 (Or.inl (ne_exa f109 f101 (by decide)))).other W143 (Or.inl (ne_exa f109 f101 (by decide)))).other W147 (Or.inl (ne_exa f109 f101 (by decide))))
  have f157 := (((((f111.keep K123 nin0).other W135 (Or.inr (slot_ne (Or.inr (hw _ (List.mem_of_getElem? (i := 52) rfl))) (Or.inl (hw _ (List.mem_of_getElem? (i := 72) rfl))) (by decide) (t := (.array (.object "java/lang/Object"))) (t' := (.object "com/example/limentinus/limentinus/simulator/RecordQueue$Block")) (by decide) (by decide)))).other W139 (Or.inl (ne_exa f109 f101 (by decide)))).other W143 (Or.inl (ne_exa f109 f101 (by decide)))).other W147 (Or.inl (ne_exa f109 f101 (by decide))))
  have f158 := (((f136.other W139 (Or.inl (ne_exa f109 f101 (by decide)))).other W143 (Or.inl (ne_exa f109 f101 (by decide)))).other W147 (Or.inl (ne_exa f109 f101 (by decide))))
  have f159 := (((((f113.keep K123 nin0).other W135 (Ne.symm (own_neY f109 (hw _ (List.mem_of_getElem? (i := 40) rfl)) f113))).other W139 (Ne.symm (own_neY f101 (hw _ (List.mem_of_getElem? (i := 1) rfl)) f113))).other W143 (Ne.symm (own_neY f101 (hw _ (List.mem_of_getElem? (i := 1) rfl)) f113))).other W147 (Ne.symm (own_neY f101 (hw _ (List.mem_of_getElem? (i := 1) rfl)) f113)))
  have f160 := ((((f126.wr W135).wr W139).wr W143).wr W147)
  have f161 := ((((f127.other W135 (Or.inl (Ne.symm (Nat.ne_of_lt (Nat.lt_of_lt_of_le (Nat.lt_of_lt_of_le f109.lt (Nat.le_refl _)) f124))))).other W139 (Or.inl (Ne.symm (Nat.ne_of_lt (Nat.lt_of_lt_of_le (Nat.lt_of_lt_of_le f101.lt (Nat.le_refl _)) f124))))).other W143 (Or.inl (Ne.symm (Nat.ne_of_lt (Nat.lt_of_lt_of_le (Nat.lt_of_lt_of_le f101.lt (Nat.le_refl _)) f124))))).other W147 (Or.inl (Ne.symm (Nat.ne_of_lt (Nat.lt_of_lt_of_le (Nat.lt_of_lt_of_le f101.lt (Nat.le_refl _)) f124)))))
  have f162 := ((((f128.other W135 (Or.inl (Ne.symm (Nat.ne_of_lt (Nat.lt_of_lt_of_le (Nat.lt_of_lt_of_le f109.lt (Nat.le_refl _)) f124))))).other W139 (Or.inl (Ne.symm (Nat.ne_of_lt (Nat.lt_of_lt_of_le (Nat.lt_of_lt_of_le f101.lt (Nat.le_refl _)) f124))))).other W143 (Or.inl (Ne.symm (Nat.ne_of_lt (Nat.lt_of_lt_of_le (Nat.lt_of_lt_of_le f101.lt (Nat.le_refl _)) f124))))).other W147 (Or.inl (Ne.symm (Nat.ne_of_lt (Nat.lt_of_lt_of_le (Nat.lt_of_lt_of_le f101.lt (Nat.le_refl _)) f124)))))
  have f163 := ((((f129.other W135 (Or.inl (Ne.symm (Nat.ne_of_lt (Nat.lt_of_lt_of_le (Nat.lt_of_lt_of_le f109.lt (Nat.le_refl _)) f124))))).other W139 (Or.inl (Ne.symm (Nat.ne_of_lt (Nat.lt_of_lt_of_le (Nat.lt_of_lt_of_le f101.lt (Nat.le_refl _)) f124))))).other W143 (Or.inl (Ne.symm (Nat.ne_of_lt (Nat.lt_of_lt_of_le (Nat.lt_of_lt_of_le f101.lt (Nat.le_refl _)) f124))))).other W147 (Or.inl (Ne.symm (Nat.ne_of_lt (Nat.lt_of_lt_of_le (Nat.lt_of_lt_of_le f101.lt (Nat.le_refl _)) f124)))))
  have f164 := ((((f130.other W135 (Ne.symm (Nat.ne_of_lt (Nat.lt_of_lt_of_le (Nat.lt_of_lt_of_le f109.lt (Nat.le_refl _)) f125)))).other W139 (Ne.symm (Nat.ne_of_lt (Nat.lt_of_lt_of_le (Nat.lt_of_lt_of_le f101.lt (Nat.le_refl _)) f125)))).other W143 (Ne.symm (Nat.ne_of_lt (Nat.lt_of_lt_of_le (Nat.lt_of_lt_of_le f101.lt (Nat.le_refl _)) f125)))).other W147 (Ne.symm (Nat.ne_of_lt (Nat.lt_of_lt_of_le (Nat.lt_of_lt_of_le f101.lt (Nat.le_refl _)) f125))))
  refine own_retV X147 hx hlk hret (hb hby own_d5_89) (by decide) (by decide) ?_
  rw [e147]
  exact ⟨bo123, ba123, rfl, N147, ((((((Keep.refl h0 [q, b1]).trans K123 all0).wr W135 (Or.inl (List.mem_of_getElem? (i := 1) rfl))).wr W139 (Or.inl (List.mem_of_getElem? (i := 0) rfl))).wr W143 (Or.inl (List.mem_of_getElem? (i := 0) rfl))).wr W147 (Or.inl (List.mem_of_getElem? (i := 0) rfl))), ⟨f149, f150, f151, f152, f153, f154, f148, f108, f155, f156, f157, f158, f159, f114, f115, f160, f161, f162, f163, f164, (Nat.le_trans Z0 f124), (Nat.le_trans Z0 f125), (Nat.ne_of_lt (Nat.lt_of_lt_of_le (Nat.lt_of_lt_of_le f109.lt (Nat.le_refl _)) f124)), (Nat.ne_of_lt (Nat.lt_of_lt_of_le (Nat.lt_of_lt_of_le f113.lt (Nat.le_refl _)) f125))⟩, (Nat.le_trans (Nat.le_refl _) f124), (Nat.le_trans (Nat.le_refl _) f125)⟩
def Q_own_add2a (Z : State) (q : Addr) (r : Int32) (w : Int32) (hd : Int32) (b1 : Addr) (a1 : Addr) (b2 : Addr) (a2 : Addr) (h0 : Heap) (n0 : Nat) (v : Option Value) (h : Heap) (L : List Loc) : Prop := ∃ (b3 : Addr), ∃ (a3 : Addr), v = none ∧ Fr n0 L ∧ Keep h0 h [q, b2] ∧ own_Q3 Z h (q) (n0) (r) (w) (hd) ((1 : Int32)) (b1) (a1) ((2 : Int32)) (b2) (a2) ((4 : Int32)) (b3) (a3) ((8 : Int32)) ∧ h0.size ≤ b3 ∧ h0.size ≤ a3
theorem own_ef_own_add2a (m : MethodId) (q : Addr) : entryFrame m #[(.ref q)] 2 = mkF m 0 #[rv q, .unset] [] := by first | (simp [entryFrame, mkF, argsToLocals, Value.category]; done) | rfl
set_option maxRecDepth 65536 in
set_option maxHeartbeats 40000000 in
theorem own_add2a (l : Launch) (Z : State) (a0 : Array Value) (hw : ∀ d ∈ tables_1, d.before a0 Z = true) (ws : List Jvm.Cond) (q : Addr) (r : Int32) (w : Int32) (hd : Int32) (b1 : Addr) (a1 : Addr) (b2 : Addr) (a2 : Addr) (h0 : Heap) (n0 : Nat) (Z0 : n0 ≤ h0.size) (B0 : own_Q2 Z h0 (q) (n0) (r) (w) (hd) ((4 : Int32)) (b1) (a1) ((2 : Int32)) (b2) (a2) ((4 : Int32))) (hr : own_03 r) (hw3 : own_03 w) :
    own_Ctr l Z (⟨"com/example/limentinus/limentinus/simulator/RecordQueue", "add", "()V"⟩ : MethodName) prog_85_method_3_code 2 none ws ({ frames := 3, cells := 3, slots := 52, locals := 41 } : Room) (({ frames := 3, cells := 3, slots := 52, locals := 41 } : Room)).cells (({ frames := 3, cells := 3, slots := 52, locals := 41 } : Room)).slots #[(.ref q)] h0 (Q_own_add2a Z q r w hd b1 a1 b2 a2 h0 n0) := by
  refine own_enter (plainFor_of_name own_pn0) ?_
  intro p e s m below meth c s₁ X0 hx hZ hby hml hown hnm hlk hret e0
  have N0 := Fr.nil n0
  refine own_cast (own_ef_own_add2a m q) ?_
  obtain ⟨f101, f102, f103, f104, f105, f106, f107, f108, f109, f110, f111, f112, f113, f114, f115, f116, f117, f118, f119, f120, f121, f122, f123, f124⟩ := B0
  refine own_by (g' := (mkF m 1 #[rv q, .unset] [(.ref q)])) (fun t k => XS.aloadN X0.here hx rfl (hb hby own_d5_0) rfl rfl k) ?_
  obtain ⟨T125, X125, e125, st125⟩ := getF X0 hx hZ hown (host := "") (Or.inl (hw _ (List.mem_of_getElem? (i := 20) rfl))) Via.refl e0 f105 (g := (mkF m 1 #[rv q, .unset] [(.ref q)])) rfl rfl (hb hby own_d5_1)
  refine own_by (g' := (mkF m 4 #[rv q, .unset] [(.ref b2)])) st125 ?_
  refine own_by (g' := (mkF m 28 #[rv q, .unset] [(.ref q)])) (fun t k => XS.ifnonnullYes X125.here hx rfl (pc0 := 4) (pc' := 27) rfl (hb hby own_d5_4) rfl (by decide) (by decide) (XS.aloadN X125.here hx rfl (hb hby own_d5_27) rfl rfl k)) ?_
  obtain ⟨T126, X126, e126, st126⟩ := getF X125 hx hZ hown (host := "") (Or.inl (hw _ (List.mem_of_getElem? (i := 24) rfl))) Via.refl e125 f107 (g := (mkF m 28 #[rv q, .unset] [(.ref q)])) rfl rfl (hb hby own_d5_28)
  refine own_by (g' := (mkF m 31 #[rv q, .unset] [(.int (4 : Int32))])) st126 ?_
  refine own_by (g' := (mkF m 32 #[rv q, .unset] [(.ref q), (.int (4 : Int32))])) (fun t k => XS.aloadN X126.here hx rfl (hb hby own_d5_31) rfl rfl k) ?_
  obtain ⟨T127, X127, e127, st127⟩ := getF X126 hx hZ hown (host := "") (Or.inl (hw _ (List.mem_of_getElem? (i := 20) rfl))) Via.refl e126 f105 (g := (mkF m 32 #[rv q, .unset] [(.ref q), (.int (4 : Int32))])) rfl rfl (hb hby own_d5_32)
  refine own_by (g' := (mkF m 35 #[rv q, .unset] [(.ref b2), (.int (4 : Int32))])) st127 ?_
  obtain ⟨T128, X128, e128, st128⟩ := own_getR X127 hx hZ hown (hw _ (List.mem_of_getElem? (i := 65) rfl)) e127 f117 (g := (mkF m 35 #[rv q, .unset] [(.ref b2), (.int (4 : Int32))])) rfl rfl (hb hby own_d5_35)
  refine own_by (g' := (mkF m 38 #[rv q, .unset] [(.int (4 : Int32)), (.int (4 : Int32))])) st128 ?_
  refine own_by (g' := (mkF m 44 #[rv q, .unset] [(.ref q), (.int (2 : Int32)), (.ref q)])) (fun t k => XS.icmpNo X128.here hx rfl (hb hby own_d5_38) rfl (teq (by decide : (4 : Int32) = (4 : Int32))).2 (XS.aloadN X128.here hx rfl (hb hby own_d5_41) rfl rfl (XS.iconst X128.here hx rfl (hb hby own_d5_42) (XS.aloadN X128.here hx rfl (hb hby own_d5_43) rfl rfl k)))) ?_
  obtain ⟨T129, X129, e129, st129⟩ := getF X128 hx hZ hown (host := "") (Or.inl (hw _ (List.mem_of_getElem? (i := 20) rfl))) Via.refl e128 f105 (g := (mkF m 44 #[rv q, .unset] [(.ref q), (.int (2 : Int32)), (.ref q)])) rfl rfl (hb hby own_d5_44)
  refine own_by (g' := (mkF m 47 #[rv q, .unset] [(.ref b2), (.int (2 : Int32)), (.ref q)])) st129 ?_
  obtain ⟨T130, X130, e130, st130⟩ := own_getR X129 hx hZ hown (hw _ (List.mem_of_getElem? (i := 65) rfl)) e129 f117 (g := (mkF m 47 #[rv q, .unset] [(.ref b2), (.int (2 : Int32)), (.ref q)])) rfl rfl (hb hby own_d5_47)
  refine own_by (g' := (mkF m 50 #[rv q, .unset] [(.int (4 : Int32)), (.int (2 : Int32)), (.ref q)])) st130 ?_
  refine own_by (g' := (mkF m 54 #[rv q, .unset] [(.int (1024 : Int32)), (.int (8 : Int32)), (.ref q)])) (fun t k => XS.imul X130.here hx rfl (hb hby own_d5_50) rfl (XS.sipush X130.here hx rfl (hb hby own_d5_51) k)) ?_
  refine own_callS X130 hx hZ hown (hw _ (List.mem_of_getElem? (i := 67) rfl)) (hw _ (List.mem_of_getElem? (i := 68) rfl)) (hw _ (List.mem_of_getElem? (i := 69) rfl)) (hw _ (List.mem_of_getElem? (i := 70) rfl)) (by decide) (own_cmin l Z a0 hw [] ((8 : Int32)) ((1024 : Int32)) h0 n0 Z0 ) 1 (by decide) (by decide) (by decide) (by decide) e130 (g := (mkF m 54 #[rv q, .unset] [(.int (1024 : Int32)), (.int (8 : Int32)), (.ref q)])) rfl (by rw [hml]; rfl) (argsL := [(.int (8 : Int32)), (.int (1024 : Int32))]) (rest := [(.ref q)]) (lenOf own_pd2 rfl) rfl (by show 2 * 0 + _ ≤ _; exact Nat.le_of_eq rfl) (hb hby own_d5_54) ?_
  intro v131 T131 L131 X131 q131
  obtain ⟨rfl, N131q, e131⟩ := q131
  have N131 := Fr.app N0 N131q
  show own_Goes p e below s _ _ _ T131 (mkF m 57 #[rv q, .unset] [(.int (own_min (8 : Int32) (1024 : Int32))), (.ref q)])
  rw [show (own_min (8 : Int32) (1024 : Int32)) = (8 : Int32) from by decide]
  refine own_callP X131 hx hZ hown (hw _ (List.mem_of_getElem? (i := 35) rfl)) (hw _ (List.mem_of_getElem? (i := 36) rfl)) (own_selp (hw _ (List.mem_of_getElem? (i := 1) rfl)) (hw _ (List.mem_of_getElem? (i := 36) rfl)) (hw _ (List.mem_of_getElem? (i := 37) rfl)) (by decide)) (hw _ (List.mem_of_getElem? (i := 37) rfl)) (hw _ (List.mem_of_getElem? (i := 38) rfl)) (hw _ (List.mem_of_getElem? (i := 2) rfl)) (by decide) (a := q) f101 (own_block8 l Z a0 hw [] (q) (r) (w) h0 n0 Z0 f102 f103 (by first | assumption | decide) (by first | assumption | decide)) 0 (by decide) (by decide) (by decide) (by decide) e131 (g := (mkF m 57 #[rv q, .unset] [(.int (8 : Int32)), (.ref q)])) rfl (by rw [hml]; rfl) (argsL := [(.int (8 : Int32))]) (rest := []) (lenOf own_pd1 rfl) rfl (by show 2 * 0 + _ ≤ _; exact Nat.le_of_eq rfl) (hb hby own_d5_57) ?_
  intro v132 T132 L132 X132 q132
  obtain ⟨bo132, ba132, rfl, N132q, K132, f133, f134, f135, f136, f137, f138, f139⟩ := q132
  have N132 := Fr.app N131 N132q
  show own_Goes p e below s _ _ _ T132 (mkF m 60 #[rv q, .unset] [(.ref bo132)])
  refine own_by (g' := (mkF m 62 #[rv q, rv bo132] [(.ref q)])) (fun t k => XS.astoreN X132.here hx rfl (hb hby own_d5_60) rfl rfl (l' := #[rv q, rv bo132]) rfl (XS.aloadN X132.here hx rfl (hb hby own_d5_61) rfl rfl k)) ?_
  have f140 := (f105.keep K132 nin0)
  obtain ⟨T141, X141, e141, st141⟩ := getF X132 hx hZ hown (host := "") (Or.inl (hw _ (List.mem_of_getElem? (i := 20) rfl))) Via.refl rfl f140 (g := (mkF m 62 #[rv q, rv bo132] [(.ref q)])) rfl rfl (hb hby own_d5_62)
  refine own_by (g' := (mkF m 65 #[rv q, rv bo132] [(.ref b2)])) st141 ?_
  refine own_by (g' := (mkF m 66 #[rv q, rv bo132] [(.ref bo132), (.ref b2)])) (fun t k => XS.aloadN X141.here hx rfl (hb hby own_d5_65) rfl rfl k) ?_
  have f142 := (f119.keep K132 nin0)
  have f143 := (f116.keep K132)
  obtain ⟨T144, h144, X144, e144, W144, st144⟩ := own_putR X141 hx hZ hown (hw _ (List.mem_of_getElem? (i := 71) rfl)) e141 f142 f143 (hw _ (List.mem_of_getElem? (i := 72) rfl)) (hw _ (List.mem_of_getElem? (i := 40) rfl)) (ty := (.object "com/example/limentinus/limentinus/simulator/RecordQueue$Block")) (by decide) rfl rfl (g := (mkF m 66 #[rv q, rv bo132] [(.ref bo132), (.ref b2)])) rfl rfl (hb hby own_d5_66)
  have f145 := f142.same W144
  have N144 := Fr.snoc X144 N132 f121
  refine own_by (g' := (mkF m 69 #[rv q, rv bo132] [])) st144 ?_
  refine own_by (g' := (mkF m 71 #[rv q, rv bo132] [(.ref bo132), (.ref q)])) (fun t k => XS.aloadN X144.here hx rfl (hb hby own_d5_69) rfl rfl (XS.aloadN X144.here hx rfl (hb hby own_d5_70) rfl rfl k)) ?_
  have f146 := (f140.other W144 (Or.inl (ne_exa f101 f116 (by decide))))
  have f147 := ((f101.keep K132).wr W144)
  obtain ⟨T148, h148, X148, e148, W148, st148⟩ := putF X144 hx hZ hown (host := "") (Or.inl (hw _ (List.mem_of_getElem? (i := 20) rfl))) Via.refl e144 f146 f147 (Or.inl (hw _ (List.mem_of_getElem? (i := 21) rfl))) (hw _ (List.mem_of_getElem? (i := 1) rfl)) (ty := (.object "com/example/limentinus/limentinus/simulator/RecordQueue$Block")) (by decide) rfl rfl (g := (mkF m 71 #[rv q, rv bo132] [(.ref bo132), (.ref q)])) rfl rfl (hb hby own_d5_71)
  have f149 := f146.same W148
  have N148 := Fr.snoc X148 N144 f108
  refine own_by (g' := (mkF m 74 #[rv q, rv bo132] [])) st148 ?_
  refine own_by (g' := (mkF m 76 #[rv q, rv bo132] [(.int (0 : Int32)), (.ref q)])) (fun t k => XS.aloadN X148.here hx rfl (hb hby own_d5_74) rfl rfl (XS.iconst X148.here hx rfl (hb hby own_d5_75) k)) ?_
  have f150 := (((f107.keep K132 nin0).other W144 (Or.inl (ne_exa f101 f116 (by decide)))).other W148 (Or.inr (slot_ne (Or.inl (hw _ (List.mem_of_getElem? (i := 25) rfl))) (Or.inl (hw _ (List.mem_of_getElem? (i := 21) rfl))) (by decide) (t := .int) (t' := (.object "com/example/limentinus/limentinus/simulator/RecordQueue$Block")) (by decide) (by decide))))
  have f151 := (f147.wr W148)
  obtain ⟨T152, h152, X152, e152, W152, st152⟩ := putF X148 hx hZ hown (host := "") (Or.inl (hw _ (List.mem_of_getElem? (i := 24) rfl))) Via.refl e148 f150 f151 (Or.inl (hw _ (List.mem_of_getElem? (i := 25) rfl))) (hw _ (List.mem_of_getElem? (i := 1) rfl)) (ty := .int) (by decide) rfl rfl (g := (mkF m 76 #[rv q, rv bo132] [(.int (0 : Int32)), (.ref q)])) rfl rfl (hb hby own_d5_76)
  have f153 := f150.same W152
  have N152 := Fr.snoc X152 N148 f108
  refine own_by (g' := (mkF m 79 #[rv q, rv bo132] [])) st152 ?_
  refine own_by (g' := (mkF m 81 #[rv q, rv bo132] [(.ref q), (.ref q)])) (fun t k => XS.aloadN X152.here hx rfl (hb hby own_d5_79) rfl rfl (XS.dup X152.here hx rfl (hb hby own_d5_80) rfl rfl k)) ?_
  obtain ⟨T154, X154, e154, st154⟩ := getF X152 hx hZ hown (host := "") (Or.inl (hw _ (List.mem_of_getElem? (i := 24) rfl))) Via.refl e152 f153 (g := (mkF m 81 #[rv q, rv bo132] [(.ref q), (.ref q)])) rfl rfl (hb hby own_d5_81)
  refine own_by (g' := (mkF m 84 #[rv q, rv bo132] [(.int (0 : Int32)), (.ref q)])) st154 ?_
  refine own_by (g' := (mkF m 86 #[rv q, rv bo132] [(.int (1 : Int32)), (.ref q)])) (fun t k => XS.iconst X154.here hx rfl (hb hby own_d5_84) (XS.iadd X154.here hx rfl (hb hby own_d5_85) rfl k)) ?_
  have f155 := (f151.wr W152)
  obtain ⟨T156, h156, X156, e156, W156, st156⟩ := putF X154 hx hZ hown (host := "") (Or.inl (hw _ (List.mem_of_getElem? (i := 24) rfl))) Via.refl e154 f153 f155 (Or.inl (hw _ (List.mem_of_getElem? (i := 25) rfl))) (hw _ (List.mem_of_getElem? (i := 1) rfl)) (ty := .int) (by decide) rfl rfl (g := (mkF m 86 #[rv q, rv bo132] [(.int (1 : Int32)), (.ref q)])) rfl rfl (hb hby own_d5_86)
  have f157 := f153.same W156
  have N156 := Fr.snoc X156 N152 f108
  refine own_by (g' := (mkF m 89 #[rv q, rv bo132] [])) st156 ?_
  have f158 := (f155.wr W156)
  have f159 := (((((f102.keep K132 nin0).other W144 (Or.inl (ne_exa f101 f116 (by decide)))).other W148 (Or.inr (slot_ne (Or.inr (hw _ (List.mem_of_getElem? (i := 10) rfl))) (Or.inl (hw _ (List.mem_of_getElem? (i := 21) rfl))) (by decide) (t := .int) (t' := (.object "com/example/limentinus/limentinus/simulator/RecordQueue$Block")) (by decide) (by decide)))).other W152 (Or.inr (slot_ne (Or.inr (hw _ (List.mem_of_getElem? (i := 10) rfl))) (Or.inl (hw _ (List.mem_of_getElem? (i := 25) rfl))) (by decide) (t := .int) (t' := .int) (by decide) (by decide)))).other W156 (Or.inr (slot_ne (Or.inr (hw _ (List.mem_of_getElem? (i := 10) rfl))) (Or.inl (hw _ (List.mem_of_getElem? (i := 25) rfl))) (by decide) (t := .int) (t' := .int) (by decide) (by decide))))
  have f160 := (((((f103.keep K132 nin0).other W144 (Or.inl (ne_exa f101 f116 (by decide)))).other W148 (Or.inr (slot_ne (Or.inr (hw _ (List.mem_of_getElem? (i := 12) rfl))) (Or.inl (hw _ (List.mem_of_getElem? (i := 21) rfl))) (by decide) (t := .int) (t' := (.object "com/example/limentinus/limentinus/simulator/RecordQueue$Block")) (by decide) (by decide)))).other W152 (Or.inr (slot_ne (Or.inr (hw _ (List.mem_of_getElem? (i := 12) rfl))) (Or.inl (hw _ (List.mem_of_getElem? (i := 25) rfl))) (by decide) (t := .int) (t' := .int) (by decide) (by decide)))).other W156 (Or.inr (slot_ne (Or.inr (hw _ (List.mem_of_getElem? (i := 12) rfl))) (Or.inl (hw _ (List.mem_of_getElem? (i := 25) rfl))) (by decide) (t := .int) (t' := .int) (by decide) (by decide))))
  have f161 := (((((f104.keep K132 nin0).other W144 (Or.inl (ne_exa f101 f116 (by decide)))).other W148 (Or.inr (slot_ne (Or.inl (hw _ (List.mem_of_getElem? (i := 19) rfl))) (Or.inl (hw _ (List.mem_of_getElem? (i := 21) rfl))) (by decide) (t := (.object "com/example/limentinus/limentinus/simulator/RecordQueue$Block")) (t' := (.object "com/example/limentinus/limentinus/simulator/RecordQueue$Block")) (by decide) (by decide)))).other W152 (Or.inr (slot_ne (Or.inl (hw _ (List.mem_of_getElem? (i := 19) rfl))) (Or.inl (hw _ (List.mem_of_getElem? (i := 25) rfl))) (by decide) (t := (.object "com/example/limentinus/limentinus/simulator/RecordQueue$Block")) (t' := .int) (by decide) (by decide)))).other W156 (Or.inr (slot_ne (Or.inl (hw _ (List.mem_of_getElem? (i := 19) rfl))) (Or.inl (hw _ (List.mem_of_getElem? (i := 25) rfl))) (by decide) (t := (.object "com/example/limentinus/limentinus/simulator/RecordQueue$Block")) (t' := .int) (by decide) (by decide))))
  have f162 := ((f149.other W152 (Or.inr (slot_ne (Or.inl (hw _ (List.mem_of_getElem? (i := 21) rfl))) (Or.inl (hw _ (List.mem_of_getElem? (i := 25) rfl))) (by decide) (t := (.object "com/example/limentinus/limentinus/simulator/RecordQueue$Block")) (t' := .int) (by decide) (by decide)))).other W156 (Or.inr (slot_ne (Or.inl (hw _ (List.mem_of_getElem? (i := 21) rfl))) (Or.inl (hw _ (List.mem_of_getElem? (i := 25) rfl))) (by decide) (t := (.object "com/example/limentinus/limentinus/simulator/RecordQueue$Block")) (t' := .int) (by decide) (by decide))))
  have f163 := (((((f106.keep K132 nin0).other W144 (Or.inl (ne_exa f101 f116 (by decide)))).other W148 (Or.inr (slot_ne (Or.inl (hw _ (List.mem_of_getElem? (i := 23) rfl))) (Or.inl (hw _ (List.mem_of_getElem? (i := 21) rfl))) (by decide) (t := .int) (t' := (.object "com/example/limentinus/limentinus/simulator/RecordQueue$Block")) (by decide) (by decide)))).other W152 (Or.inr (slot_ne (Or.inl (hw _ (List.mem_of_getElem? (i := 23) rfl))) (Or.inl (hw _ (List.mem_of_getElem? (i := 25) rfl))) (by decide) (t := .int) (t' := .int) (by decide) (by decide)))).other W156 (Or.inr (slot_ne (Or.inl (hw _ (List.mem_of_getElem? (i := 23) rfl))) (Or.inl (hw _ (List.mem_of_getElem? (i := 25) rfl))) (by decide) (t := .int) (t' := .int) (by decide) (by decide))))
  have f164 := (((((f109.keep K132).wr W144).wr W148).wr W152).wr W156)
  have f165 := (((((f110.keep K132 nin0).other W144 (Or.inl f123)).other W148 (Or.inl (ne_exa f109 f101 (by decide)))).other W152 (Or.inl (ne_exa f109 f101 (by decide)))).other W156 (Or.inl (ne_exa f109 f101 (by decide))))
  have f166 := (((((f111.keep K132 nin0).other W144 (Or.inl f123)).other W148 (Or.inl (ne_exa f109 f101 (by decide)))).other W152 (Or.inl (ne_exa f109 f101 (by decide)))).other W156 (Or.inl (ne_exa f109 f101 (by decide))))
  have f167 := (((((f112.keep K132 nin0).other W144 (Or.inl f123)).other W148 (Or.inl (ne_exa f109 f101 (by decide)))).other W152 (Or.inl (ne_exa f109 f101 (by decide)))).other W156 (Or.inl (ne_exa f109 f101 (by decide))))
  have f168 := (((((f113.keep K132 nin0).other W144 (Ne.symm (own_neY f116 (hw _ (List.mem_of_getElem? (i := 40) rfl)) f113))).other W148 (Ne.symm (own_neY f101 (hw _ (List.mem_of_getElem? (i := 1) rfl)) f113))).other W152 (Ne.symm (own_neY f101 (hw _ (List.mem_of_getElem? (i := 1) rfl)) f113))).other W156 (Ne.symm (own_neY f101 (hw _ (List.mem_of_getElem? (i := 1) rfl)) f113)))
  have f169 := ((((f143.wr W144).wr W148).wr W152).wr W156)
  have f170 := (((((f117.keep K132 nin0).other W144 (Or.inr (slot_ne (Or.inr (hw _ (List.mem_of_getElem? (i := 50) rfl))) (Or.inl (hw _ (List.mem_of_getElem? (i := 72) rfl))) (by decide) (t := .int) (t' := (.object "com/example/limentinus/limentinus/simulator/RecordQueue$Block")) (by decide) (by decide)))).other W148 (Or.inl (ne_exa f116 f101 (by decide)))).other W152 (Or.inl (ne_exa f116 f101 (by decide)))).other W156 (Or.inl (ne_exa f116 f101 (by decide))))
  have f171 := (((((f118.keep K132 nin0).other W144 (Or.inr (slot_ne (Or.inr (hw _ (List.mem_of_getElem? (i := 52) rfl))) (Or.inl (hw _ (List.mem_of_getElem? (i := 72) rfl))) (by decide) (t := (.array (.object "java/lang/Object"))) (t' := (.object "com/example/limentinus/limentinus/simulator/RecordQueue$Block")) (by decide) (by decide)))).other W148 (Or.inl (ne_exa f116 f101 (by decide)))).other W152 (Or.inl (ne_exa f116 f101 (by decide)))).other W156 (Or.inl (ne_exa f116 f101 (by decide))))
  have f172 := (((f145.other W148 (Or.inl (ne_exa f116 f101 (by decide)))).other W152 (Or.inl (ne_exa f116 f101 (by decide)))).other W156 (Or.inl (ne_exa f116 f101 (by decide))))
  have f173 := (((((f120.keep K132 nin0).other W144 (Ne.symm (own_neY f116 (hw _ (List.mem_of_getElem? (i := 40) rfl)) f120))).other W148 (Ne.symm (own_neY f101 (hw _ (List.mem_of_getElem? (i := 1) rfl)) f120))).other W152 (Ne.symm (own_neY f101 (hw _ (List.mem_of_getElem? (i := 1) rfl)) f120))).other W156 (Ne.symm (own_neY f101 (hw _ (List.mem_of_getElem? (i := 1) rfl)) f120)))
  have f174 := ((((f135.wr W144).wr W148).wr W152).wr W156)
  have f175 := ((((f136.other W144 (Or.inl (Ne.symm (Nat.ne_of_lt (Nat.lt_of_lt_of_le (Nat.lt_of_lt_of_le f116.lt (Nat.le_refl _)) f133))))).other W148 (Or.inl (Ne.symm (Nat.ne_of_lt (Nat.lt_of_lt_of_le (Nat.lt_of_lt_of_le f101.lt (Nat.le_refl _)) f133))))).other W152 (Or.inl (Ne.symm (Nat.ne_of_lt (Nat.lt_of_lt_of_le (Nat.lt_of_lt_of_le f101.lt (Nat.le_refl _)) f133))))).other W156 (Or.inl (Ne.symm (Nat.ne_of_lt (Nat.lt_of_lt_of_le (Nat.lt_of_lt_of_le f101.lt (Nat.le_refl _)) f133)))))
  have f176 := ((((f137.other W144 (Or.inl (Ne.symm (Nat.ne_of_lt (Nat.lt_of_lt_of_le (Nat.lt_of_lt_of_le f116.lt (Nat.le_refl _)) f133))))).other W148 (Or.inl (Ne.symm (Nat.ne_of_lt (Nat.lt_of_lt_of_le (Nat.lt_of_lt_of_le f101.lt (Nat.le_refl _)) f133))))).other W152 (Or.inl (Ne.symm (Nat.ne_of_lt (Nat.lt_of_lt_of_le (Nat.lt_of_lt_of_le f101.lt (Nat.le_refl _)) f133))))).other W156 (Or.inl (Ne.symm (Nat.ne_of_lt (Nat.lt_of_lt_of_le (Nat.lt_of_lt_of_le f101.lt (Nat.le_refl _)) f133)))))
  have f177 := ((((f138.other W144 (Or.inl (Ne.symm (Nat.ne_of_lt (Nat.lt_of_lt_of_le (Nat.lt_of_lt_of_le f116.lt (Nat.le_refl _)) f133))))).other W148 (Or.inl (Ne.symm (Nat.ne_of_lt (Nat.lt_of_lt_of_le (Nat.lt_of_lt_of_le f101.lt (Nat.le_refl _)) f133))))).other W152 (Or.inl (Ne.symm (Nat.ne_of_lt (Nat.lt_of_lt_of_le (Nat.lt_of_lt_of_le f101.lt (Nat.le_refl _)) f133))))).other W156 (Or.inl (Ne.symm (Nat.ne_of_lt (Nat.lt_of_lt_of_le (Nat.lt_of_lt_of_le f101.lt (Nat.le_refl _)) f133)))))
  have f178 := ((((f139.other W144 (Ne.symm (Nat.ne_of_lt (Nat.lt_of_lt_of_le (Nat.lt_of_lt_of_le f116.lt (Nat.le_refl _)) f134)))).other W148 (Ne.symm (Nat.ne_of_lt (Nat.lt_of_lt_of_le (Nat.lt_of_lt_of_le f101.lt (Nat.le_refl _)) f134)))).other W152 (Ne.symm (Nat.ne_of_lt (Nat.lt_of_lt_of_le (Nat.lt_of_lt_of_le f101.lt (Nat.le_refl _)) f134)))).other W156 (Ne.symm (Nat.ne_of_lt (Nat.lt_of_lt_of_le (Nat.lt_of_lt_of_le f101.lt (Nat.le_refl _)) f134))))
  refine own_retV X156 hx hlk hret (hb hby own_d5_89) (by decide) (by decide) ?_
  rw [e156]
  exact ⟨bo132, ba132, rfl, N156, ((((((Keep.refl h0 [q, b2]).trans K132 all0).wr W144 (Or.inl (List.mem_of_getElem? (i := 1) rfl))).wr W148 (Or.inl (List.mem_of_getElem? (i := 0) rfl))).wr W152 (Or.inl (List.mem_of_getElem? (i := 0) rfl))).wr W156 (Or.inl (List.mem_of_getElem? (i := 0) rfl))), ⟨f158, f159, f160, f161, f162, f163, f157, f108, f164, f165, f166, f167, f168, f114, f115, f169, f170, f171, f172, f173, f121, f122, f174, f175, f176, f177, f178, (Nat.le_trans Z0 f133), (Nat.le_trans Z0 f134), f123, (Nat.ne_of_lt (Nat.lt_of_lt_of_le (Nat.lt_of_lt_of_le f109.lt (Nat.le_refl _)) f133)), (Nat.ne_of_lt (Nat.lt_of_lt_of_le (Nat.lt_of_lt_of_le f116.lt (Nat.le_refl _)) f133)), f124, (Nat.ne_of_lt (Nat.lt_of_lt_of_le (Nat.lt_of_lt_of_le f113.lt (Nat.le_refl _)) f134)), (Nat.ne_of_lt (Nat.lt_of_lt_of_le (Nat.lt_of_lt_of_le f120.lt (Nat.le_refl _)) f134))⟩, (Nat.le_trans (Nat.le_refl _) f133), (Nat.le_trans (Nat.le_refl _) f134)⟩
theorem own_d3_0 : decode prog_85_method_2_code 0 = .ok (.aload_n 0, 1) := by decide +kernel
theorem own_d3_1 : decode prog_85_method_2_code 1 = .ok (.getfield 16, 3) := by decide +kernel
theorem own_d3_4 : decode prog_85_method_2_code 4 = .ok (.aload_n 0, 1) := by decide +kernel
theorem own_d3_5 : decode prog_85_method_2_code 5 = .ok (.getfield 20, 3) := by decide +kernel
theorem own_d3_8 : decode prog_85_method_2_code 8 = .ok (.if_acmp .ne 18, 3) := by decide +kernel
theorem own_d3_11 : decode prog_85_method_2_code 11 = .ok (.aload_n 0, 1) := by decide +kernel
theorem own_d3_12 : decode prog_85_method_2_code 12 = .ok (.getfield 23, 3) := by decide +kernel
theorem own_d3_15 : decode prog_85_method_2_code 15 = .ok (.aload_n 0, 1) := by decide +kernel
theorem own_d3_16 : decode prog_85_method_2_code 16 = .ok (.getfield 26, 3) := by decide +kernel
theorem own_d3_19 : decode prog_85_method_2_code 19 = .ok (.if_icmp .ne 7, 3) := by decide +kernel
theorem own_d3_22 : decode prog_85_method_2_code 22 = .ok (.iconst 1, 1) := by decide +kernel
theorem own_d3_23 : decode prog_85_method_2_code 23 = .ok (.goto 4, 3) := by decide +kernel
theorem own_d3_27 : decode prog_85_method_2_code 27 = .ok (.ireturn, 1) := by decide +kernel
def Q_own_em0 (Z : State) (q : Addr) (r : Int32) (w : Int32) (h0 : Heap) (n0 : Nat) (v : Option Value) (h : Heap) (L : List Loc) : Prop := v = some (.int (1 : Int32)) ∧ Fr n0 L ∧ h = h0
theorem own_ef_own_em0 (m : MethodId) (q : Addr) : entryFrame m #[(.ref q)] 1 = mkF m 0 #[rv q] [] := by first | (simp [entryFrame, mkF, argsToLocals, Value.category]; done) | rfl
set_option maxRecDepth 65536 in
set_option maxHeartbeats 40000000 in
theorem own_em0 (l : Launch) (Z : State) (a0 : Array Value) (hw : ∀ d ∈ tables_1, d.before a0 Z = true) (ws : List Jvm.Cond) (q : Addr) (r : Int32) (w : Int32) (h0 : Heap) (n0 : Nat) (Z0 : n0 ≤ h0.size) (B0 : own_Q0 Z h0 (q) (n0) (r) (w)) :
    own_Ctr l Z (⟨"com/example/limentinus/limentinus/simulator/RecordQueue", "isEmpty", "()Z"⟩ : MethodName) prog_85_method_2_code 1 (some .boolean) ws ({ frames := 0, cells := 0, slots := 0, locals := 0 } : Room) (({ frames := 0, cells := 0, slots := 0, locals := 0 } : Room)).cells (({ frames := 0, cells := 0, slots := 0, locals := 0 } : Room)).slots #[(.ref q)] h0 (Q_own_em0 Z q r w h0 n0) := by
  refine own_enter (plainFor_of_name own_pn0) ?_
  intro p e s m below meth c s₁ X0 hx hZ hby hml hown hnm hlk hret e0
  have N0 := Fr.nil n0
  refine own_cast (own_ef_own_em0 m q) ?_
  obtain ⟨f101, f102, f103, f104, f105, f106, f107, f108⟩ := B0
  refine own_by (g' := (mkF m 1 #[rv q] [(.ref q)])) (fun t k => XS.aloadN X0.here hx rfl (hb hby own_d3_0) rfl rfl k) ?_
  obtain ⟨T109, X109, e109, st109⟩ := getF X0 hx hZ hown (host := "") (Or.inl (hw _ (List.mem_of_getElem? (i := 18) rfl))) Via.refl e0 f104 (g := (mkF m 1 #[rv q] [(.ref q)])) rfl rfl (hb hby own_d3_1)
  refine own_by (g' := (mkF m 4 #[rv q] [.null])) st109 ?_
  refine own_by (g' := (mkF m 5 #[rv q] [(.ref q), .null])) (fun t k => XS.aloadN X109.here hx rfl (hb hby own_d3_4) rfl rfl k) ?_
  obtain ⟨T110, X110, e110, st110⟩ := getF X109 hx hZ hown (host := "") (Or.inl (hw _ (List.mem_of_getElem? (i := 20) rfl))) Via.refl e109 f105 (g := (mkF m 5 #[rv q] [(.ref q), .null])) rfl rfl (hb hby own_d3_5)
  refine own_by (g' := (mkF m 8 #[rv q] [.null, .null])) st110 ?_
  refine own_by (g' := (mkF m 12 #[rv q] [(.ref q)])) (fun t k => Jvm.RoadKit.acmp (g := (mkF m 8 #[rv q] [.null, .null])) X110 hx rfl rfl rfl (pc0 := 8) (pc' := 11) (same := true) rfl (hb hby own_d3_8) rfl (decide_eq_true rfl) (by decide) (by decide) (XS.aloadN X110.here hx rfl (hb hby own_d3_11) rfl rfl k)) ?_
  obtain ⟨T111, X111, e111, st111⟩ := getF X110 hx hZ hown (host := "") (Or.inl (hw _ (List.mem_of_getElem? (i := 22) rfl))) Via.refl e110 f106 (g := (mkF m 12 #[rv q] [(.ref q)])) rfl rfl (hb hby own_d3_12)
  refine own_by (g' := (mkF m 15 #[rv q] [(.int (0 : Int32))])) st111 ?_
  refine own_by (g' := (mkF m 16 #[rv q] [(.ref q), (.int (0 : Int32))])) (fun t k => XS.aloadN X111.here hx rfl (hb hby own_d3_15) rfl rfl k) ?_
  obtain ⟨T112, X112, e112, st112⟩ := getF X111 hx hZ hown (host := "") (Or.inl (hw _ (List.mem_of_getElem? (i := 24) rfl))) Via.refl e111 f107 (g := (mkF m 16 #[rv q] [(.ref q), (.int (0 : Int32))])) rfl rfl (hb hby own_d3_16)
  refine own_by (g' := (mkF m 19 #[rv q] [(.int (0 : Int32)), (.int (0 : Int32))])) st112 ?_
  refine own_by (g' := (mkF m 27 #[rv q] [(.int (1 : Int32))])) (fun t k => XS.icmpNo X112.here hx rfl (hb hby own_d3_19) rfl (teq (by decide : (0 : Int32) = (0 : Int32))).2 (XS.iconst X112.here hx rfl (hb hby own_d3_22) (XS.goto X112.here hx rfl (pc0 := 23) (pc' := 27) rfl (hb hby own_d3_23) (by decide) (by decide) k))) ?_
  refine own_retN X112 hx hlk hret (t := .boolean) (by simp) (hb hby own_d3_27) (by decide) (by decide) ?_
  exact ⟨rfl, N0, e112⟩
def Q_own_em1t (Z : State) (q : Addr) (r : Int32) (w : Int32) (hd : Int32) (tl : Int32) (b1 : Addr) (a1 : Addr) (z1 : Int32) (h0 : Heap) (n0 : Nat) (v : Option Value) (h : Heap) (L : List Loc) : Prop := v = some (.int (1 : Int32)) ∧ Fr n0 L ∧ h = h0
theorem own_ef_own_em1t (m : MethodId) (q : Addr) : entryFrame m #[(.ref q)] 1 = mkF m 0 #[rv q] [] := by first | (simp [entryFrame, mkF, argsToLocals, Value.category]; done) | rfl
set_option maxRecDepth 65536 in
set_option maxHeartbeats 40000000 in
theorem own_em1t (l : Launch) (Z : State) (a0 : Array Value) (hw : ∀ d ∈ tables_1, d.before a0 Z = true) (ws : List Jvm.Cond) (q : Addr) (r : Int32) (w : Int32) (hd : Int32) (tl : Int32) (b1 : Addr) (a1 : Addr) (z1 : Int32) (h0 : Heap) (n0 : Nat) (Z0 : n0 ≤ h0.size) (B0 : own_Q1 Z h0 (q) (n0) (r) (w) (hd) (tl) (b1) (a1) (z1)) (hp : hd = tl) :
    own_Ctr l Z (⟨"com/example/limentinus/limentinus/simulator/RecordQueue", "isEmpty", "()Z"⟩ : MethodName) prog_85_method_2_code 1 (some .boolean) ws ({ frames := 0, cells := 0, slots := 0, locals := 0 } : Room) (({ frames := 0, cells := 0, slots := 0, locals := 0 } : Room)).cells (({ frames := 0, cells := 0, slots := 0, locals := 0 } : Room)).slots #[(.ref q)] h0 (Q_own_em1t Z q r w hd tl b1 a1 z1 h0 n0) := by
  refine own_enter (plainFor_of_name own_pn0) ?_
  intro p e s m below meth c s₁ X0 hx hZ hby hml hown hnm hlk hret e0
  have N0 := Fr.nil n0
  refine own_cast (own_ef_own_em1t m q) ?_
  obtain ⟨f101, f102, f103, f104, f105, f106, f107, f108, f109, f110, f111, f112, f113, f114, f115⟩ := B0
  refine own_by (g' := (mkF m 1 #[rv q] [(.ref q)])) (fun t k => XS.aloadN X0.here hx rfl (hb hby own_d3_0) rfl rfl k) ?_
  obtain ⟨T116, X116, e116, st116⟩ := getF X0 hx hZ hown (host := "") (Or.inl (hw _ (List.mem_of_getElem? (i := 18) rfl))) Via.refl e0 f104 (g := (mkF m 1 #[rv q] [(.ref q)])) rfl rfl (hb hby own_d3_1)
  refine own_by (g' := (mkF m 4 #[rv q] [(.ref b1)])) st116 ?_
  refine own_by (g' := (mkF m 5 #[rv q] [(.ref q), (.ref b1)])) (fun t k => XS.aloadN X116.here hx rfl (hb hby own_d3_4) rfl rfl k) ?_
  obtain ⟨T117, X117, e117, st117⟩ := getF X116 hx hZ hown (host := "") (Or.inl (hw _ (List.mem_of_getElem? (i := 20) rfl))) Via.refl e116 f105 (g := (mkF m 5 #[rv q] [(.ref q), (.ref b1)])) rfl rfl (hb hby own_d3_5)
  refine own_by (g' := (mkF m 8 #[rv q] [(.ref b1), (.ref b1)])) st117 ?_
  refine own_by (g' := (mkF m 12 #[rv q] [(.ref q)])) (fun t k => Jvm.RoadKit.acmp (g := (mkF m 8 #[rv q] [(.ref b1), (.ref b1)])) X117 hx rfl rfl rfl (pc0 := 8) (pc' := 11) (same := true) rfl (hb hby own_d3_8) rfl (decide_eq_true rfl) (by decide) (by decide) (XS.aloadN X117.here hx rfl (hb hby own_d3_11) rfl rfl k)) ?_
  obtain ⟨T118, X118, e118, st118⟩ := getF X117 hx hZ hown (host := "") (Or.inl (hw _ (List.mem_of_getElem? (i := 22) rfl))) Via.refl e117 f106 (g := (mkF m 12 #[rv q] [(.ref q)])) rfl rfl (hb hby own_d3_12)
  refine own_by (g' := (mkF m 15 #[rv q] [(.int hd)])) st118 ?_
  refine own_by (g' := (mkF m 16 #[rv q] [(.ref q), (.int hd)])) (fun t k => XS.aloadN X118.here hx rfl (hb hby own_d3_15) rfl rfl k) ?_
  obtain ⟨T119, X119, e119, st119⟩ := getF X118 hx hZ hown (host := "") (Or.inl (hw _ (List.mem_of_getElem? (i := 24) rfl))) Via.refl e118 f107 (g := (mkF m 16 #[rv q] [(.ref q), (.int hd)])) rfl rfl (hb hby own_d3_16)
  refine own_by (g' := (mkF m 19 #[rv q] [(.int tl), (.int hd)])) st119 ?_
  refine own_by (g' := (mkF m 27 #[rv q] [(.int (1 : Int32))])) (fun t k => XS.icmpNo X119.here hx rfl (hb hby own_d3_19) rfl (teq hp).2 (XS.iconst X119.here hx rfl (hb hby own_d3_22) (XS.goto X119.here hx rfl (pc0 := 23) (pc' := 27) rfl (hb hby own_d3_23) (by decide) (by decide) k))) ?_
  refine own_retN X119 hx hlk hret (t := .boolean) (by simp) (hb hby own_d3_27) (by decide) (by decide) ?_
  exact ⟨rfl, N0, e119⟩
theorem own_d3_26 : decode prog_85_method_2_code 26 = .ok (.iconst 0, 1) := by decide +kernel
def Q_own_em1f (Z : State) (q : Addr) (r : Int32) (w : Int32) (hd : Int32) (tl : Int32) (b1 : Addr) (a1 : Addr) (z1 : Int32) (h0 : Heap) (n0 : Nat) (v : Option Value) (h : Heap) (L : List Loc) : Prop := v = some (.int (0 : Int32)) ∧ Fr n0 L ∧ h = h0
theorem own_ef_own_em1f (m : MethodId) (q : Addr) : entryFrame m #[(.ref q)] 1 = mkF m 0 #[rv q] [] := by first | (simp [entryFrame, mkF, argsToLocals, Value.category]; done) | rfl
set_option maxRecDepth 65536 in
set_option maxHeartbeats 40000000 in
theorem own_em1f (l : Launch) (Z : State) (a0 : Array Value) (hw : ∀ d ∈ tables_1, d.before a0 Z = true) (ws : List Jvm.Cond) (q : Addr) (r : Int32) (w : Int32) (hd : Int32) (tl : Int32) (b1 : Addr) (a1 : Addr) (z1 : Int32) (h0 : Heap) (n0 : Nat) (Z0 : n0 ≤ h0.size) (B0 : own_Q1 Z h0 (q) (n0) (r) (w) (hd) (tl) (b1) (a1) (z1)) (hp : ¬ hd = tl) :
    own_Ctr l Z (⟨"com/example/limentinus/limentinus/simulator/RecordQueue", "isEmpty", "()Z"⟩ : MethodName) prog_85_method_2_code 1 (some .boolean) ws ({ frames := 0, cells := 0, slots := 0, locals := 0 } : Room) (({ frames := 0, cells := 0, slots := 0, locals := 0 } : Room)).cells (({ frames := 0, cells := 0, slots := 0, locals := 0 } : Room)).slots #[(.ref q)] h0 (Q_own_em1f Z q r w hd tl b1 a1 z1 h0 n0) := by
  refine own_enter (plainFor_of_name own_pn0) ?_
  intro p e s m below meth c s₁ X0 hx hZ hby hml hown hnm hlk hret e0
  have N0 := Fr.nil n0
  refine own_cast (own_ef_own_em1f m q) ?_
  obtain ⟨f101, f102, f103, f104, f105, f106, f107, f108, f109, f110, f111, f112, f113, f114, f115⟩ := B0
  refine own_by (g' := (mkF m 1 #[rv q] [(.ref q)])) (fun t k => XS.aloadN X0.here hx rfl (hb hby own_d3_0) rfl rfl k) ?_
  obtain ⟨T116, X116, e116, st116⟩ := getF X0 hx hZ hown (host := "") (Or.inl (hw _ (List.mem_of_getElem? (i := 18) rfl))) Via.refl e0 f104 (g := (mkF m 1 #[rv q] [(.ref q)])) rfl rfl (hb hby own_d3_1)
  refine own_by (g' := (mkF m 4 #[rv q] [(.ref b1)])) st116 ?_
  refine own_by (g' := (mkF m 5 #[rv q] [(.ref q), (.ref b1)])) (fun t k => XS.aloadN X116.here hx rfl (hb hby own_d3_4) rfl rfl k) ?_
  obtain ⟨T117, X117, e117, st117⟩ := getF X116 hx hZ hown (host := "") (Or.inl (hw _ (List.mem_of_getElem? (i := 20) rfl))) Via.refl e116 f105 (g := (mkF m 5 #[rv q] [(.ref q), (.ref b1)])) rfl rfl (hb hby own_d3_5)
  refine own_by (g' := (mkF m 8 #[rv q] [(.ref b1), (.ref b1)])) st117 ?_
  refine own_by (g' := (mkF m 12 #[rv q] [(.ref q)])) (fun t k => Jvm.RoadKit.acmp (g := (mkF m 8 #[rv q] [(.ref b1), (.ref b1)])) X117 hx rfl rfl rfl (pc0 := 8) (pc' := 11) (same := true) rfl (hb hby own_d3_8) rfl (decide_eq_true rfl) (by decide) (by decide) (XS.aloadN X117.here hx rfl (hb hby own_d3_11) rfl rfl k)) ?_
  obtain ⟨T118, X118, e118, st118⟩ := getF X117 hx hZ hown (host := "") (Or.inl (hw _ (List.mem_of_getElem? (i := 22) rfl))) Via.refl e117 f106 (g := (mkF m 12 #[rv q] [(.ref q)])) rfl rfl (hb hby own_d3_12)
  refine own_by (g' := (mkF m 15 #[rv q] [(.int hd)])) st118 ?_
  refine own_by (g' := (mkF m 16 #[rv q] [(.ref q), (.int hd)])) (fun t k => XS.aloadN X118.here hx rfl (hb hby own_d3_15) rfl rfl k) ?_
  obtain ⟨T119, X119, e119, st119⟩ := getF X118 hx hZ hown (host := "") (Or.inl (hw _ (List.mem_of_getElem? (i := 24) rfl))) Via.refl e118 f107 (g := (mkF m 16 #[rv q] [(.ref q), (.int hd)])) rfl rfl (hb hby own_d3_16)
  refine own_by (g' := (mkF m 19 #[rv q] [(.int tl), (.int hd)])) st119 ?_
  refine own_by (g' := (mkF m 27 #[rv q] [(.int (0 : Int32))])) (fun t k => XS.icmpYes X119.here hx rfl (pc0 := 19) (pc' := 26) rfl (hb hby own_d3_19) rfl (feq hp).2 (by decide) (by decide) (XS.iconst X119.here hx rfl (hb hby own_d3_26) k)) ?_
  refine own_retN X119 hx hlk hret (t := .boolean) (by simp) (hb hby own_d3_27) (by decide) (by decide) ?_
  exact ⟨rfl, N0, e119⟩
def Q_own_em2 (Z : State) (q : Addr) (r : Int32) (w : Int32) (hd : Int32) (tl : Int32) (b1 : Addr) (a1 : Addr) (z1 : Int32) (b2 : Addr) (a2 : Addr) (z2 : Int32) (h0 : Heap) (n0 : Nat) (v : Option Value) (h : Heap) (L : List Loc) : Prop := v = some (.int (0 : Int32)) ∧ Fr n0 L ∧ h = h0
theorem own_ef_own_em2 (m : MethodId) (q : Addr) : entryFrame m #[(.ref q)] 1 = mkF m 0 #[rv q] [] := by first | (simp [entryFrame, mkF, argsToLocals, Value.category]; done) | rfl
set_option maxRecDepth 65536 in
set_option maxHeartbeats 40000000 in
theorem own_em2 (l : Launch) (Z : State) (a0 : Array Value) (hw : ∀ d ∈ tables_1, d.before a0 Z = true) (ws : List Jvm.Cond) (q : Addr) (r : Int32) (w : Int32) (hd : Int32) (tl : Int32) (b1 : Addr) (a1 : Addr) (z1 : Int32) (b2 : Addr) (a2 : Addr) (z2 : Int32) (h0 : Heap) (n0 : Nat) (Z0 : n0 ≤ h0.size) (B0 : own_Q2 Z h0 (q) (n0) (r) (w) (hd) (tl) (b1) (a1) (z1) (b2) (a2) (z2)) :
    own_Ctr l Z (⟨"com/example/limentinus/limentinus/simulator/RecordQueue", "isEmpty", "()Z"⟩ : MethodName) prog_85_method_2_code 1 (some .boolean) ws ({ frames := 0, cells := 0, slots := 0, locals := 0 } : Room) (({ frames := 0, cells := 0, slots := 0, locals := 0 } : Room)).cells (({ frames := 0, cells := 0, slots := 0, locals := 0 } : Room)).slots #[(.ref q)] h0 (Q_own_em2 Z q r w hd tl b1 a1 z1 b2 a2 z2 h0 n0) := by
  refine own_enter (plainFor_of_name own_pn0) ?_
  intro p e s m below meth c s₁ X0 hx hZ hby hml hown hnm hlk hret e0
  have N0 := Fr.nil n0
  refine own_cast (own_ef_own_em2 m q) ?_
  obtain ⟨f101, f102, f103, f104, f105, f106, f107, f108, f109, f110, f111, f112, f113, f114, f115, f116, f117, f118, f119, f120, f121, f122, f123, f124⟩ := B0
  refine own_by (g' := (mkF m 1 #[rv q] [(.ref q)])) (fun t k => XS.aloadN X0.here hx rfl (hb hby own_d3_0) rfl rfl k) ?_
  obtain ⟨T125, X125, e125, st125⟩ := getF X0 hx hZ hown (host := "") (Or.inl (hw _ (List.mem_of_getElem? (i := 18) rfl))) Via.refl e0 f104 (g := (mkF m 1 #[rv q] [(.ref q)])) rfl rfl (hb hby own_d3_1)
  refine own_by (g' := (mkF m 4 #[rv q] [(.ref b1)])) st125 ?_
  refine own_by (g' := (mkF m 5 #[rv q] [(.ref q), (.ref b1)])) (fun t k => XS.aloadN X125.here hx rfl (hb hby own_d3_4) rfl rfl k) ?_
  obtain ⟨T126, X126, e126, st126⟩ := getF X125 hx hZ hown (host := "") (Or.inl (hw _ (List.mem_of_getElem? (i := 20) rfl))) Via.refl e125 f105 (g := (mkF m 5 #[rv q] [(.ref q), (.ref b1)])) rfl rfl (hb hby own_d3_5)
  refine own_by (g' := (mkF m 8 #[rv q] [(.ref b2), (.ref b1)])) st126 ?_
  refine own_by (g' := (mkF m 27 #[rv q] [(.int (0 : Int32))])) (fun t k => Jvm.RoadKit.acmp (g := (mkF m 8 #[rv q] [(.ref b2), (.ref b1)])) X126 hx rfl rfl rfl (pc0 := 8) (pc' := 26) (same := false) rfl (hb hby own_d3_8) rfl (decide_eq_false fun q => f123 (Value.ref.inj q)) (by decide) (by decide) (XS.iconst X126.here hx rfl (hb hby own_d3_26) k)) ?_
  refine own_retN X126 hx hlk hret (t := .boolean) (by simp) (hb hby own_d3_27) (by decide) (by decide) ?_
  exact ⟨rfl, N0, e126⟩
def Q_own_em3 (Z : State) (q : Addr) (r : Int32) (w : Int32) (hd : Int32) (tl : Int32) (b1 : Addr) (a1 : Addr) (z1 : Int32) (b2 : Addr) (a2 : Addr) (z2 : Int32) (b3 : Addr) (a3 : Addr) (z3 : Int32) (h0 : Heap) (n0 : Nat) (v : Option Value) (h : Heap) (L : List Loc) : Prop := v = some (.int (0 : Int32)) ∧ Fr n0 L ∧ h = h0
theorem own_ef_own_em3 (m : MethodId) (q : Addr) : entryFrame m #[(.ref q)] 1 = mkF m 0 #[rv q] [] := by first | (simp [entryFrame, mkF, argsToLocals, Value.category]; done) | rfl
set_option maxRecDepth 65536 in
set_option maxHeartbeats 40000000 in
theorem own_em3 (l : Launch) (Z : State) (a0 : Array Value) (hw : ∀ d ∈ tables_1, d.before a0 Z = true) (ws : List Jvm.Cond) (q : Addr) (r : Int32) (w : Int32) (hd : Int32) (tl : Int32) (b1 : Addr) (a1 : Addr) (z1 : Int32) (b2 : Addr) (a2 : Addr) (z2 : Int32) (b3 : Addr) (a3 : Addr) (z3 : Int32) (h0 : Heap) (n0 : Nat) (Z0 : n0 ≤ h0.size) (B0 : own_Q3 Z h0 (q) (n0) (r) (w) (hd) (tl) (b1) (a1) (z1) (b2) (a2) (z2) (b3) (a3) (z3)) :
    own_Ctr l Z (⟨"com/example/limentinus/limentinus/simulator/RecordQueue", "isEmpty", "()Z"⟩ : MethodName) prog_85_method_2_code 1 (some .boolean) ws ({ frames := 0, cells := 0, slots := 0, locals := 0 } : Room) (({ frames := 0, cells := 0, slots := 0, locals := 0 } : Room)).cells (({ frames := 0, cells := 0, slots := 0, locals := 0 } : Room)).slots #[(.ref q)] h0 (Q_own_em3 Z q r w hd tl b1 a1 z1 b2 a2 z2 b3 a3 z3 h0 n0) := by
  refine own_enter (plainFor_of_name own_pn0) ?_
  intro p e s m below meth c s₁ X0 hx hZ hby hml hown hnm hlk hret e0
  have N0 := Fr.nil n0
  refine own_cast (own_ef_own_em3 m q) ?_
  obtain ⟨f101, f102, f103, f104, f105, f106, f107, f108, f109, f110, f111, f112, f113, f114, f115, f116, f117, f118, f119, f120, f121, f122, f123, f124, f125, f126, f127, f128, f129, f130, f131, f132, f133, f134, f135⟩ := B0
  refine own_by (g' := (mkF m 1 #[rv q] [(.ref q)])) (fun t k => XS.aloadN X0.here hx rfl (hb hby own_d3_0) rfl rfl k) ?_
  obtain ⟨T136, X136, e136, st136⟩ := getF X0 hx hZ hown (host := "") (Or.inl (hw _ (List.mem_of_getElem? (i := 18) rfl))) Via.refl e0 f104 (g := (mkF m 1 #[rv q] [(.ref q)])) rfl rfl (hb hby own_d3_1)
  refine own_by (g' := (mkF m 4 #[rv q] [(.ref b1)])) st136 ?_
  refine own_by (g' := (mkF m 5 #[rv q] [(.ref q), (.ref b1)])) (fun t k => XS.aloadN X136.here hx rfl (hb hby own_d3_4) rfl rfl k) ?_
  obtain ⟨T137, X137, e137, st137⟩ := getF X136 hx hZ hown (host := "") (Or.inl (hw _ (List.mem_of_getElem? (i := 20) rfl))) Via.refl e136 f105 (g := (mkF m 5 #[rv q] [(.ref q), (.ref b1)])) rfl rfl (hb hby own_d3_5)
  refine own_by (g' := (mkF m 8 #[rv q] [(.ref b3), (.ref b1)])) st137 ?_
  refine own_by (g' := (mkF m 27 #[rv q] [(.int (0 : Int32))])) (fun t k => Jvm.RoadKit.acmp (g := (mkF m 8 #[rv q] [(.ref b3), (.ref b1)])) X137 hx rfl rfl rfl (pc0 := 8) (pc' := 26) (same := false) rfl (hb hby own_d3_8) rfl (decide_eq_false fun q => f131 (Value.ref.inj q)) (by decide) (by decide) (XS.iconst X137.here hx rfl (hb hby own_d3_26) k)) ?_
  refine own_retN X137 hx hlk hret (t := .boolean) (by simp) (hb hby own_d3_27) (by decide) (by decide) ?_
  exact ⟨rfl, N0, e137⟩
theorem own_d9_0 : decode prog_85_method_9_code 0 = .ok (.aload_n 0, 1) := by decide +kernel
theorem own_d9_1 : decode prog_85_method_9_code 1 = .ok (.invokevirtual 57, 3) := by decide +kernel
theorem own_pd3 : parseMethodDescriptor "()Z" = some ⟨[], some .boolean⟩ := by decide +kernel
theorem own_d9_4 : decode prog_85_method_9_code 4 = .ok (.ifCond .eq 13, 3) := by decide +kernel
theorem own_d9_17 : decode prog_85_method_9_code 17 = .ok (.aload_n 0, 1) := by decide +kernel
theorem own_d9_18 : decode prog_85_method_9_code 18 = .ok (.getfield 23, 3) := by decide +kernel
theorem own_d9_21 : decode prog_85_method_9_code 21 = .ok (.ireturn, 1) := by decide +kernel
def Q_own_fr1 (Z : State) (q : Addr) (r : Int32) (w : Int32) (hd : Int32) (tl : Int32) (b1 : Addr) (a1 : Addr) (z1 : Int32) (h0 : Heap) (n0 : Nat) (v : Option Value) (h : Heap) (L : List Loc) : Prop := v = some (.int hd) ∧ Fr n0 L ∧ h = h0
theorem own_ef_own_fr1 (m : MethodId) (q : Addr) : entryFrame m #[(.ref q)] 1 = mkF m 0 #[rv q] [] := by first | (simp [entryFrame, mkF, argsToLocals, Value.category]; done) | rfl
set_option maxRecDepth 65536 in
set_option maxHeartbeats 40000000 in
theorem own_fr1 (l : Launch) (Z : State) (a0 : Array Value) (hw : ∀ d ∈ tables_1, d.before a0 Z = true) (ws : List Jvm.Cond) (q : Addr) (r : Int32) (w : Int32) (hd : Int32) (tl : Int32) (b1 : Addr) (a1 : Addr) (z1 : Int32) (h0 : Heap) (n0 : Nat) (Z0 : n0 ≤ h0.size) (B0 : own_Q1 Z h0 (q) (n0) (r) (w) (hd) (tl) (b1) (a1) (z1)) (hp : ¬ hd = tl) :
    own_Ctr l Z (⟨"com/example/limentinus/limentinus/simulator/RecordQueue", "firstRecord", "()I"⟩ : MethodName) prog_85_method_9_code 1 (some .int) ws ({ frames := 1, cells := 0, slots := 0, locals := 12 } : Room) (({ frames := 1, cells := 0, slots := 0, locals := 12 } : Room)).cells (({ frames := 1, cells := 0, slots := 0, locals := 12 } : Room)).slots #[(.ref q)] h0 (Q_own_fr1 Z q r w hd tl b1 a1 z1 h0 n0) := by
  refine own_enter (plainFor_of_name own_pn0) ?_
  intro p e s m below meth c s₁ X0 hx hZ hby hml hown hnm hlk hret e0
  have N0 := Fr.nil n0
  refine own_cast (own_ef_own_fr1 m q) ?_
  obtain ⟨f101, f102, f103, f104, f105, f106, f107, f108, f109, f110, f111, f112, f113, f114, f115⟩ := B0
  refine own_by (g' := (mkF m 1 #[rv q] [(.ref q)])) (fun t k => XS.aloadN X0.here hx rfl (hb hby own_d9_0) rfl rfl k) ?_
  refine own_callV X0 hx hZ hown (hw _ (List.mem_of_getElem? (i := 64) rfl)) (hw _ (List.mem_of_getElem? (i := 14) rfl)) (notFace_of_selects (args := #[]) (mvT hZ (hw _ (List.mem_of_getElem? (i := 16) rfl)))) (hw _ (List.mem_of_getElem? (i := 16) rfl)) (hw _ (List.mem_of_getElem? (i := 15) rfl)) (hw _ (List.mem_of_getElem? (i := 17) rfl)) (hw _ (List.mem_of_getElem? (i := 2) rfl)) (by decide) (a := q) f101 (own_em1f l Z a0 hw [] (q) (r) (w) (hd) (tl) (b1) (a1) (z1) h0 n0 Z0 ⟨f101, f102, f103, f104, f105, f106, f107, f108, f109, f110, f111, f112, f113, f114, f115⟩ (by first | assumption | decide)) 0 (by decide) (by decide) (by decide) (by decide) e0 (g := (mkF m 1 #[rv q] [(.ref q)])) rfl (by rw [hml]; rfl) (argsL := []) (rest := []) (lenOf own_pd3 rfl) rfl (by show 2 * 0 + _ ≤ _; exact Nat.le_of_eq rfl) (hb hby own_d9_1) ?_
  intro v116 T116 L116 X116 q116
  obtain ⟨rfl, N116q, e116⟩ := q116
  have N116 := Fr.app N0 N116q
  show own_Goes p e below s _ _ _ T116 (mkF m 4 #[rv q] [(.int (0 : Int32))])
  refine own_by (g' := (mkF m 18 #[rv q] [(.ref q)])) (fun t k => XS.ifYes X116.here hx rfl (pc0 := 4) (pc' := 17) rfl (hb hby own_d9_4) rfl ((if0 _ _).trans (teq (by decide : (0 : Int32) = (0 : Int32))).1) (by decide) (by decide) (XS.aloadN X116.here hx rfl (hb hby own_d9_17) rfl rfl k)) ?_
  obtain ⟨T117, X117, e117, st117⟩ := getF X116 hx hZ hown (host := "") (Or.inl (hw _ (List.mem_of_getElem? (i := 22) rfl))) Via.refl e116 f106 (g := (mkF m 18 #[rv q] [(.ref q)])) rfl rfl (hb hby own_d9_18)
  refine own_by (g' := (mkF m 21 #[rv q] [(.int hd)])) st117 ?_
  refine own_retI X117 hx hlk hret (hb hby own_d9_21) (by decide) (by decide) ?_
  exact ⟨rfl, N116, e117⟩
def Q_own_fr2 (Z : State) (q : Addr) (r : Int32) (w : Int32) (hd : Int32) (tl : Int32) (b1 : Addr) (a1 : Addr) (z1 : Int32) (b2 : Addr) (a2 : Addr) (z2 : Int32) (h0 : Heap) (n0 : Nat) (v : Option Value) (h : Heap) (L : List Loc) : Prop := v = some (.int hd) ∧ Fr n0 L ∧ h = h0
theorem own_ef_own_fr2 (m : MethodId) (q : Addr) : entryFrame m #[(.ref q)] 1 = mkF m 0 #[rv q] [] := by first | (simp [entryFrame, mkF, argsToLocals, Value.category]; done) | rfl
set_option maxRecDepth 65536 in
set_option maxHeartbeats 40000000 in
theorem own_fr2 (l : Launch) (Z : State) (a0 : Array Value) (hw : ∀ d ∈ tables_1, d.before a0 Z = true) (ws : List Jvm.Cond) (q : Addr) (r : Int32) (w : Int32) (hd : Int32) (tl : Int32) (b1 : Addr) (a1 : Addr) (z1 : Int32) (b2 : Addr) (a2 : Addr) (z2 : Int32) (h0 : Heap) (n0 : Nat) (Z0 : n0 ≤ h0.size) (B0 : own_Q2 Z h0 (q) (n0) (r) (w) (hd) (tl) (b1) (a1) (z1) (b2) (a2) (z2)) :
    own_Ctr l Z (⟨"com/example/limentinus/limentinus/simulator/RecordQueue", "firstRecord", "()I"⟩ : MethodName) prog_85_method_9_code 1 (some .int) ws ({ frames := 1, cells := 0, slots := 0, locals := 12 } : Room) (({ frames := 1, cells := 0, slots := 0, locals := 12 } : Room)).cells (({ frames := 1, cells := 0, slots := 0, locals := 12 } : Room)).slots #[(.ref q)] h0 (Q_own_fr2 Z q r w hd tl b1 a1 z1 b2 a2 z2 h0 n0) := by
  refine own_enter (plainFor_of_name own_pn0) ?_
  intro p e s m below meth c s₁ X0 hx hZ hby hml hown hnm hlk hret e0
  have N0 := Fr.nil n0
  refine own_cast (own_ef_own_fr2 m q) ?_
  obtain ⟨f101, f102, f103, f104, f105, f106, f107, f108, f109, f110, f111, f112, f113, f114, f115, f116, f117, f118, f119, f120, f121, f122, f123, f124⟩ := B0
  refine own_by (g' := (mkF m 1 #[rv q] [(.ref q)])) (fun t k => XS.aloadN X0.here hx rfl (hb hby own_d9_0) rfl rfl k) ?_
  refine own_callV X0 hx hZ hown (hw _ (List.mem_of_getElem? (i := 64) rfl)) (hw _ (List.mem_of_getElem? (i := 14) rfl)) (notFace_of_selects (args := #[]) (mvT hZ (hw _ (List.mem_of_getElem? (i := 16) rfl)))) (hw _ (List.mem_of_getElem? (i := 16) rfl)) (hw _ (List.mem_of_getElem? (i := 15) rfl)) (hw _ (List.mem_of_getElem? (i := 17) rfl)) (hw _ (List.mem_of_getElem? (i := 2) rfl)) (by decide) (a := q) f101 (own_em2 l Z a0 hw [] (q) (r) (w) (hd) (tl) (b1) (a1) (z1) (b2) (a2) (z2) h0 n0 Z0 ⟨f101, f102, f103, f104, f105, f106, f107, f108, f109, f110, f111, f112, f113, f114, f115, f116, f117, f118, f119, f120, f121, f122, f123, f124⟩) 0 (by decide) (by decide) (by decide) (by decide) e0 (g := (mkF m 1 #[rv q] [(.ref q)])) rfl (by rw [hml]; rfl) (argsL := []) (rest := []) (lenOf own_pd3 rfl) rfl (by show 2 * 0 + _ ≤ _; exact Nat.le_of_eq rfl) (hb hby own_d9_1) ?_
  intro v125 T125 L125 X125 q125
  obtain ⟨rfl, N125q, e125⟩ := q125
  have N125 := Fr.app N0 N125q
  show own_Goes p e below s _ _ _ T125 (mkF m 4 #[rv q] [(.int (0 : Int32))])
  refine own_by (g' := (mkF m 18 #[rv q] [(.ref q)])) (fun t k => XS.ifYes X125.here hx rfl (pc0 := 4) (pc' := 17) rfl (hb hby own_d9_4) rfl ((if0 _ _).trans (teq (by decide : (0 : Int32) = (0 : Int32))).1) (by decide) (by decide) (XS.aloadN X125.here hx rfl (hb hby own_d9_17) rfl rfl k)) ?_
  obtain ⟨T126, X126, e126, st126⟩ := getF X125 hx hZ hown (host := "") (Or.inl (hw _ (List.mem_of_getElem? (i := 22) rfl))) Via.refl e125 f106 (g := (mkF m 18 #[rv q] [(.ref q)])) rfl rfl (hb hby own_d9_18)
  refine own_by (g' := (mkF m 21 #[rv q] [(.int hd)])) st126 ?_
  refine own_retI X126 hx hlk hret (hb hby own_d9_21) (by decide) (by decide) ?_
  exact ⟨rfl, N125, e126⟩
def Q_own_fr3 (Z : State) (q : Addr) (r : Int32) (w : Int32) (hd : Int32) (tl : Int32) (b1 : Addr) (a1 : Addr) (z1 : Int32) (b2 : Addr) (a2 : Addr) (z2 : Int32) (b3 : Addr) (a3 : Addr) (z3 : Int32) (h0 : Heap) (n0 : Nat) (v : Option Value) (h : Heap) (L : List Loc) : Prop := v = some (.int hd) ∧ Fr n0 L ∧ h = h0
theorem own_ef_own_fr3 (m : MethodId) (q : Addr) : entryFrame m #[(.ref q)] 1 = mkF m 0 #[rv q] [] := by first | (simp [entryFrame, mkF, argsToLocals, Value.category]; done) | rfl
set_option maxRecDepth 65536 in
set_option maxHeartbeats 40000000 in
theorem own_fr3 (l : Launch) (Z : State) (a0 : Array Value) (hw : ∀ d ∈ tables_1, d.before a0 Z = true) (ws : List Jvm.Cond) (q : Addr) (r : Int32) (w : Int32) (hd : Int32) (tl : Int32) (b1 : Addr) (a1 : Addr) (z1 : Int32) (b2 : Addr) (a2 : Addr) (z2 : Int32) (b3 : Addr) (a3 : Addr) (z3 : Int32) (h0 : Heap) (n0 : Nat) (Z0 : n0 ≤ h0.size) (B0 : own_Q3 Z h0 (q) (n0) (r) (w) (hd) (tl) (b1) (a1) (z1) (b2) (a2) (z2) (b3) (a3) (z3)) :
    own_Ctr l Z (⟨"com/example/limentinus/limentinus/simulator/RecordQueue", "firstRecord", "()I"⟩ : MethodName) prog_85_method_9_code 1 (some .int) ws ({ frames := 1, cells := 0, slots := 0, locals := 12 } : Room) (({ frames := 1, cells := 0, slots := 0, locals := 12 } : Room)).cells (({ frames := 1, cells := 0, slots := 0, locals := 12 } : Room)).slots #[(.ref q)] h0 (Q_own_fr3 Z q r w hd tl b1 a1 z1 b2 a2 z2 b3 a3 z3 h0 n0) := by
  refine own_enter (plainFor_of_name own_pn0) ?_
  intro p e s m below meth c s₁ X0 hx hZ hby hml hown hnm hlk hret e0
  have N0 := Fr.nil n0
  refine own_cast (own_ef_own_fr3 m q) ?_
  obtain ⟨f101, f102, f103, f104, f105, f106, f107, f108, f109, f110, f111, f112, f113, f114, f115, f116, f117, f118, f119, f120, f121, f122, f123, f124, f125, f126, f127, f128, f129, f130, f131, f132, f133, f134, f135⟩ := B0
  refine own_by (g' := (mkF m 1 #[rv q] [(.ref q)])) (fun t k => XS.aloadN X0.here hx rfl (hb hby own_d9_0) rfl rfl k) ?_
  refine own_callV X0 hx hZ hown (hw _ (List.mem_of_getElem? (i := 64) rfl)) (hw _ (List.mem_of_getElem? (i := 14) rfl)) (notFace_of_selects (args := #[]) (mvT hZ (hw _ (List.mem_of_getElem? (i := 16) rfl)))) (hw _ (List.mem_of_getElem? (i := 16) rfl)) (hw _ (List.mem_of_getElem? (i := 15) rfl)) (hw _ (List.mem_of_getElem? (i := 17) rfl)) (hw _ (List.mem_of_getElem? (i := 2) rfl)) (by decide) (a := q) f101 (own_em3 l Z a0 hw [] (q) (r) (w) (hd) (tl) (b1) (a1) (z1) (b2) (a2) (z2) (b3) (a3) (z3) h0 n0 Z0 ⟨f101, f102, f103, f104, f105, f106, f107, f108, f109, f110, f111, f112, f113, f114, f115, f116, f117, f118, f119, f120, f121, f122, f123, f124, f125, f126, f127, f128, f129, f130, f131, f132, f133, f134, f135⟩) 0 (by decide) (by decide) (by decide) (by decide) e0 (g := (mkF m 1 #[rv q] [(.ref q)])) rfl (by rw [hml]; rfl) (argsL := []) (rest := []) (lenOf own_pd3 rfl) rfl (by show 2 * 0 + _ ≤ _; exact Nat.le_of_eq rfl) (hb hby own_d9_1) ?_
  intro v136 T136 L136 X136 q136
  obtain ⟨rfl, N136q, e136⟩ := q136
  have N136 := Fr.app N0 N136q
  show own_Goes p e below s _ _ _ T136 (mkF m 4 #[rv q] [(.int (0 : Int32))])
  refine own_by (g' := (mkF m 18 #[rv q] [(.ref q)])) (fun t k => XS.ifYes X136.here hx rfl (pc0 := 4) (pc' := 17) rfl (hb hby own_d9_4) rfl ((if0 _ _).trans (teq (by decide : (0 : Int32) = (0 : Int32))).1) (by decide) (by decide) (XS.aloadN X136.here hx rfl (hb hby own_d9_17) rfl rfl k)) ?_
  obtain ⟨T137, X137, e137, st137⟩ := getF X136 hx hZ hown (host := "") (Or.inl (hw _ (List.mem_of_getElem? (i := 22) rfl))) Via.refl e136 f106 (g := (mkF m 18 #[rv q] [(.ref q)])) rfl rfl (hb hby own_d9_18)
  refine own_by (g' := (mkF m 21 #[rv q] [(.int hd)])) st137 ?_
  refine own_retI X137 hx hlk hret (hb hby own_d9_21) (by decide) (by decide) ?_
  exact ⟨rfl, N136, e137⟩
def Q_own_rem1e (Z : State) (q : Addr) (r : Int32) (w : Int32) (hd : Int32) (tl : Int32) (b1 : Addr) (a1 : Addr) (z1 : Int32) (h0 : Heap) (n0 : Nat) (v : Option Value) (h : Heap) (L : List Loc) : Prop := v = none ∧ Fr n0 L ∧ Keep h0 h [q, a1] ∧ own_Q1 Z h (q) (n0) (r) (w) ((0 : Int32)) ((0 : Int32)) (b1) (a1) (z1)
theorem own_d8_38 : decode prog_85_method_8_code 38 = .ok (.aload_n 0, 1) := by decide +kernel
theorem own_d8_39 : decode prog_85_method_8_code 39 = .ok (.dup, 1) := by decide +kernel
theorem own_d8_40 : decode prog_85_method_8_code 40 = .ok (.getfield 23, 3) := by decide +kernel
theorem own_d8_43 : decode prog_85_method_8_code 43 = .ok (.iconst 1, 1) := by decide +kernel
theorem own_d8_44 : decode prog_85_method_8_code 44 = .ok (.iadd, 1) := by decide +kernel
theorem own_d8_45 : decode prog_85_method_8_code 45 = .ok (.putfield 23, 3) := by decide +kernel
theorem own_d8_48 : decode prog_85_method_8_code 48 = .ok (.aload_n 0, 1) := by decide +kernel
theorem own_d8_49 : decode prog_85_method_8_code 49 = .ok (.getfield 16, 3) := by decide +kernel
theorem own_d8_52 : decode prog_85_method_8_code 52 = .ok (.aload_n 0, 1) := by decide +kernel
theorem own_d8_53 : decode prog_85_method_8_code 53 = .ok (.getfield 20, 3) := by decide +kernel
theorem own_d8_56 : decode prog_85_method_8_code 56 = .ok (.if_acmp .ne 27, 3) := by decide +kernel
theorem own_d8_59 : decode prog_85_method_8_code 59 = .ok (.aload_n 0, 1) := by decide +kernel
theorem own_d8_60 : decode prog_85_method_8_code 60 = .ok (.getfield 23, 3) := by decide +kernel
theorem own_d8_63 : decode prog_85_method_8_code 63 = .ok (.aload_n 0, 1) := by decide +kernel
theorem own_d8_64 : decode prog_85_method_8_code 64 = .ok (.getfield 26, 3) := by decide +kernel
theorem own_d8_67 : decode prog_85_method_8_code 67 = .ok (.if_icmp .ne 16, 3) := by decide +kernel
theorem own_d8_70 : decode prog_85_method_8_code 70 = .ok (.aload_n 0, 1) := by decide +kernel
theorem own_d8_71 : decode prog_85_method_8_code 71 = .ok (.iconst 0, 1) := by decide +kernel
theorem own_d8_72 : decode prog_85_method_8_code 72 = .ok (.putfield 23, 3) := by decide +kernel
theorem own_d8_75 : decode prog_85_method_8_code 75 = .ok (.aload_n 0, 1) := by decide +kernel
theorem own_d8_76 : decode prog_85_method_8_code 76 = .ok (.iconst 0, 1) := by decide +kernel
theorem own_d8_77 : decode prog_85_method_8_code 77 = .ok (.putfield 26, 3) := by decide +kernel
theorem own_d8_80 : decode prog_85_method_8_code 80 = .ok (.goto 33, 3) := by decide +kernel
theorem own_d8_113 : decode prog_85_method_8_code 113 = .ok (.return_, 1) := by decide +kernel
set_option maxRecDepth 65536 in
set_option maxHeartbeats 40000000 in
theorem own_rem1e_38 {p : Program} {l : Launch} {e : Env} {s : State} {m : MethodId} {args : Array Value} {below : List Frame} {meth : Method} {c : Code} {T0 : State} {locs : List Loc} {Z : State} {a0 : Array Value} {h0 h1 : Heap} {n0 : Nat} (q : Addr) (r : Int32) (w : Int32) (hd : Int32) (tl : Int32) (b1 : Addr) (a1 : Addr) (z1 : Int32) (ix : Int32)
    (X0 : Stand p l e ({ frames := 2, cells := 0, slots := 0, locals := 26 } : Room) s m args below meth c T0 locs 0 0) (hx : p.tables.exec = Jvm.exec) (hZ : Z.Warmed39 s.vm) (hw : ∀ d ∈ tables_1, d.before a0 Z = true) (hby : c.code = prog_85_method_8_code) (hml : c.maxLocals = 3) (hown : s.vm.findClass "com/example/limentinus/limentinus/simulator/RecordQueue" = some m.cls) (hnm : meth.name = "removeFirst") (hlk : meth.locks = false) (hret : meth.sig.returnType = none) (Z0 : n0 ≤ h0.size) (e0 : T0.heap = h1) (N0 : Fr n0 locs) (K0 : Keep h0 h1 [q, a1]) (x0 : Exa Z h1 q "com/example/limentinus/limentinus/simulator/RecordQueue") (x1 : Fld Z h1 q "com/example/limentinus/limentinus/simulator/RecordQueue" "references" "I" (.int r)) (x2 : Fld Z h1 q "com/example/limentinus/limentinus/simulator/RecordQueue" "numbers" "I" (.int w)) (x3 : Fld Z h1 q "com/example/limentinus/limentinus/simulator/RecordQueue" "first" "Lcom/example/limentinus/limentinus/simulator/RecordQueue$Block;" (.ref b1)) (x4 : Fld Z h1 q "com/example/limentinus/limentinus/simulator/RecordQueue" "last" "Lcom/example/limentinus/limentinus/simulator/RecordQueue$Block;" (.ref b1)) (x5 : Fld Z h1 q "com/example/limentinus/limentinus/simulator/RecordQueue" "head" "I" (.int hd)) (x6 : Fld Z h1 q "com/example/limentinus/limentinus/simulator/RecordQueue" "tail" "I" (.int tl)) (x7 : n0 ≤ q) (x8 : Exa Z h1 b1 "com/example/limentinus/limentinus/simulator/RecordQueue$Block") (x9 : Fld Z h1 b1 "com/example/limentinus/limentinus/simulator/RecordQueue$Block" "records" "I" (.int z1)) (x10 : Fld Z h1 b1 "com/example/limentinus/limentinus/simulator/RecordQueue$Block" "references" "[Ljava/lang/Object;" (.ref a1)) (x11 : Fld Z h1 b1 "com/example/limentinus/limentinus/simulator/RecordQueue$Block" "next" "Lcom/example/limentinus/limentinus/simulator/RecordQueue$Block;" .null) (x12 : own_Arz Z h1 a1 (.object "java/lang/Object") (z1 * r)) (x13 : n0 ≤ b1) (x14 : n0 ≤ a1) (hr : own_03 r) (h0p : 0 ≤ hd.toInt) (h1p : hd.toInt < z1.toInt) (h2p : z1.toInt ≤ 8) (hpe : ¬ hd = tl) (hq : (hd + (1 : Int32)) = tl) :
    own_Goes p e below s (({ frames := 2, cells := 0, slots := 0, locals := 26 } : Room)).cells (({ frames := 2, cells := 0, slots := 0, locals := 26 } : Room)).slots (Q_own_rem1e Z q r w hd tl b1 a1 z1 h0 n0) T0 (mkF m 38 #[rv q, iv hd, iv ix] []) := by
  refine own_by (g' := (mkF m 40 #[rv q, iv hd, iv ix] [(.ref q), (.ref q)])) (fun t k => XS.aloadN X0.here hx rfl (hb hby own_d8_38) rfl rfl (XS.dup X0.here hx rfl (hb hby own_d8_39) rfl rfl k)) ?_
  obtain ⟨T101, X101, e101, st101⟩ := getF X0 hx hZ hown (host := "") (Or.inl (hw _ (List.mem_of_getElem? (i := 22) rfl))) Via.refl e0 x5 (g := (mkF m 40 #[rv q, iv hd, iv ix] [(.ref q), (.ref q)])) rfl rfl (hb hby own_d8_40)
  refine own_by (g' := (mkF m 43 #[rv q, iv hd, iv ix] [(.int hd), (.ref q)])) st101 ?_
  refine own_by (g' := (mkF m 45 #[rv q, iv hd, iv ix] [(.int (hd + (1 : Int32))), (.ref q)])) (fun t k => XS.iconst X101.here hx rfl (hb hby own_d8_43) (XS.iadd X101.here hx rfl (hb hby own_d8_44) rfl k)) ?_
  obtain ⟨T102, h102, X102, e102, W102, st102⟩ := putF X101 hx hZ hown (host := "") (Or.inl (hw _ (List.mem_of_getElem? (i := 22) rfl))) Via.refl e101 x5 x0 (Or.inl (hw _ (List.mem_of_getElem? (i := 23) rfl))) (hw _ (List.mem_of_getElem? (i := 1) rfl)) (ty := .int) (by decide) rfl rfl (g := (mkF m 45 #[rv q, iv hd, iv ix] [(.int (hd + (1 : Int32))), (.ref q)])) rfl rfl (hb hby own_d8_45)
  have f103 := x5.same W102
  have N102 := Fr.snoc X102 N0 x7
  refine own_by (g' := (mkF m 48 #[rv q, iv hd, iv ix] [])) st102 ?_
  refine own_by (g' := (mkF m 49 #[rv q, iv hd, iv ix] [(.ref q)])) (fun t k => XS.aloadN X102.here hx rfl (hb hby own_d8_48) rfl rfl k) ?_
  have f104 := (x3.other W102 (Or.inr (slot_ne (Or.inl (hw _ (List.mem_of_getElem? (i := 19) rfl))) (Or.inl (hw _ (List.mem_of_getElem? (i := 23) rfl))) (by decide) (t := (.object "com/example/limentinus/limentinus/simulator/RecordQueue$Block")) (t' := .int) (by decide) (by decide))))
  obtain ⟨T105, X105, e105, st105⟩ := getF X102 hx hZ hown (host := "") (Or.inl (hw _ (List.mem_of_getElem? (i := 18) rfl))) Via.refl e102 f104 (g := (mkF m 49 #[rv q, iv hd, iv ix] [(.ref q)])) rfl rfl (hb hby own_d8_49)
  refine own_by (g' := (mkF m 52 #[rv q, iv hd, iv ix] [(.ref b1)])) st105 ?_
  refine own_by (g' := (mkF m 53 #[rv q, iv hd, iv ix] [(.ref q), (.ref b1)])) (fun t k => XS.aloadN X105.here hx rfl (hb hby own_d8_52) rfl rfl k) ?_
  have f106 := (x4.other W102 (Or.inr (slot_ne (Or.inl (hw _ (List.mem_of_getElem? (i := 21) rfl))) (Or.inl (hw _ (List.mem_of_getElem? (i := 23) rfl))) (by decide) (t := (.object "com/example/limentinus/limentinus/simulator/RecordQueue$Block")) (t' := .int) (by decide) (by decide))))
  obtain ⟨T107, X107, e107, st107⟩ := getF X105 hx hZ hown (host := "") (Or.inl (hw _ (List.mem_of_getElem? (i := 20) rfl))) Via.refl e105 f106 (g := (mkF m 53 #[rv q, iv hd, iv ix] [(.ref q), (.ref b1)])) rfl rfl (hb hby own_d8_53)
  refine own_by (g' := (mkF m 56 #[rv q, iv hd, iv ix] [(.ref b1), (.ref b1)])) st107 ?_
  refine own_by (g' := (mkF m 60 #[rv q, iv hd, iv ix] [(.ref q)])) (fun t k => Jvm.RoadKit.acmp (g := (mkF m 56 #[rv q, iv hd, iv ix] [(.ref b1), (.ref b1)])) X107 hx rfl rfl rfl (pc0 := 56) (pc' := 59) (same := true) rfl (hb hby own_d8_56) rfl (decide_eq_true rfl) (by decide) (by decide) (XS.aloadN X107.here hx rfl (hb hby own_d8_59) rfl rfl k)) ?_
  obtain ⟨T108, X108, e108, st108⟩ := getF X107 hx hZ hown (host := "") (Or.inl (hw _ (List.mem_of_getElem? (i := 22) rfl))) Via.refl e107 f103 (g := (mkF m 60 #[rv q, iv hd, iv ix] [(.ref q)])) rfl rfl (hb hby own_d8_60)
  refine own_by (g' := (mkF m 63 #[rv q, iv hd, iv ix] [(.int (hd + (1 : Int32)))])) st108 ?_
  refine own_by (g' := (mkF m 64 #[rv q, iv hd, iv ix] [(.ref q), (.int (hd + (1 : Int32)))])) (fun t k => XS.aloadN X108.here hx rfl (hb hby own_d8_63) rfl rfl k) ?_
  have f109 := (x6.other W102 (Or.inr (slot_ne (Or.inl (hw _ (List.mem_of_getElem? (i := 25) rfl))) (Or.inl (hw _ (List.mem_of_getElem? (i := 23) rfl))) (by decide) (t := .int) (t' := .int) (by decide) (by decide))))
  obtain ⟨T110, X110, e110, st110⟩ := getF X108 hx hZ hown (host := "") (Or.inl (hw _ (List.mem_of_getElem? (i := 24) rfl))) Via.refl e108 f109 (g := (mkF m 64 #[rv q, iv hd, iv ix] [(.ref q), (.int (hd + (1 : Int32)))])) rfl rfl (hb hby own_d8_64)
  refine own_by (g' := (mkF m 67 #[rv q, iv hd, iv ix] [(.int tl), (.int (hd + (1 : Int32)))])) st110 ?_
  refine own_by (g' := (mkF m 72 #[rv q, iv hd, iv ix] [(.int (0 : Int32)), (.ref q)])) (fun t k => XS.icmpNo X110.here hx rfl (hb hby own_d8_67) rfl (teq hq).2 (XS.aloadN X110.here hx rfl (hb hby own_d8_70) rfl rfl (XS.iconst X110.here hx rfl (hb hby own_d8_71) k))) ?_
  have f111 := (x0.wr W102)
  obtain ⟨T112, h112, X112, e112, W112, st112⟩ := putF X110 hx hZ hown (host := "") (Or.inl (hw _ (List.mem_of_getElem? (i := 22) rfl))) Via.refl e110 f103 f111 (Or.inl (hw _ (List.mem_of_getElem? (i := 23) rfl))) (hw _ (List.mem_of_getElem? (i := 1) rfl)) (ty := .int) (by decide) rfl rfl (g := (mkF m 72 #[rv q, iv hd, iv ix] [(.int (0 : Int32)), (.ref q)])) rfl rfl (hb hby own_d8_72)
  have f113 := f103.same W112
  have N112 := Fr.snoc X112 N102 x7
  refine own_by (g' := (mkF m 75 #[rv q, iv hd, iv ix] [])) st112 ?_
  refine own_by (g' := (mkF m 77 #[rv q, iv hd, iv ix] [(.int (0 : Int32)), (.ref q)])) (fun t k => XS.aloadN X112.here hx rfl (hb hby own_d8_75) rfl rfl (XS.iconst X112.here hx rfl (hb hby own_d8_76) k)) ?_
  have f114 := (f109.other W112 (Or.inr (slot_ne (Or.inl (hw _ (List.mem_of_getElem? (i := 25) rfl))) (Or.inl (hw _ (List.mem_of_getElem? (i := 23) rfl))) (by decide) (t := .int) (t' := .int) (by decide) (by decide))))
  have f115 := (f111.wr W112)
  obtain ⟨T116, h116, X116, e116, W116, st116⟩ := putF X112 hx hZ hown (host := "") (Or.inl (hw _ (List.mem_of_getElem? (i := 24) rfl))) Via.refl e112 f114 f115 (Or.inl (hw _ (List.mem_of_getElem? (i := 25) rfl))) (hw _ (List.mem_of_getElem? (i := 1) rfl)) (ty := .int) (by decide) rfl rfl (g := (mkF m 77 #[rv q, iv hd, iv ix] [(.int (0 : Int32)), (.ref q)])) rfl rfl (hb hby own_d8_77)
  have f117 := f114.same W116
  have N116 := Fr.snoc X116 N112 x7
  refine own_by (g' := (mkF m 80 #[rv q, iv hd, iv ix] [])) st116 ?_
  refine own_by (g' := (mkF m 113 #[rv q, iv hd, iv ix] [])) (fun t k => XS.goto X116.here hx rfl (pc0 := 80) (pc' := 113) rfl (hb hby own_d8_80) (by decide) (by decide) k) ?_
  have f118 := (f115.wr W116)
  have f119 := (((x1.other W102 (Or.inr (slot_ne (Or.inr (hw _ (List.mem_of_getElem? (i := 10) rfl))) (Or.inl (hw _ (List.mem_of_getElem? (i := 23) rfl))) (by decide) (t := .int) (t' := .int) (by decide) (by decide)))).other W112 (Or.inr (slot_ne (Or.inr (hw _ (List.mem_of_getElem? (i := 10) rfl))) (Or.inl (hw _ (List.mem_of_getElem? (i := 23) rfl))) (by decide) (t := .int) (t' := .int) (by decide) (by decide)))).other W116 (Or.inr (slot_ne (Or.inr (hw _ (List.mem_of_getElem? (i := 10) rfl))) (Or.inl (hw _ (List.mem_of_getElem? (i := 25) rfl))) (by decide) (t := .int) (t' := .int) (by decide) (by decide))))
  have f120 := (((x2.other W102 (Or.inr (slot_ne (Or.inr (hw _ (List.mem_of_getElem? (i := 12) rfl))) (Or.inl (hw _ (List.mem_of_getElem? (i := 23) rfl))) (by decide) (t := .int) (t' := .int) (by decide) (by decide)))).other W112 (Or.inr (slot_ne (Or.inr (hw _ (List.mem_of_getElem? (i := 12) rfl))) (Or.inl (hw _ (List.mem_of_getElem? (i := 23) rfl))) (by decide) (t := .int) (t' := .int) (by decide) (by decide)))).other W116 (Or.inr (slot_ne (Or.inr (hw _ (List.mem_of_getElem? (i := 12) rfl))) (Or.inl (hw _ (List.mem_of_getElem? (i := 25) rfl))) (by decide) (t := .int) (t' := .int) (by decide) (by decide))))
  have f121 := ((f104.other W112 (Or.inr (slot_ne (Or.inl (hw _ (List.mem_of_getElem? (i := 19) rfl))) (Or.inl (hw _ (List.mem_of_getElem? (i := 23) rfl))) (by decide) (t := (.object "com/example/limentinus/limentinus/simulator/RecordQueue$Block")) (t' := .int) (by decide) (by decide)))).other W116 (Or.inr (slot_ne (Or.inl (hw _ (List.mem_of_getElem? (i := 19) rfl))) (Or.inl (hw _ (List.mem_of_getElem? (i := 25) rfl))) (by decide) (t := (.object "com/example/limentinus/limentinus/simulator/RecordQueue$Block")) (t' := .int) (by decide) (by decide))))
  have f122 := ((f106.other W112 (Or.inr (slot_ne (Or.inl (hw _ (List.mem_of_getElem? (i := 21) rfl))) (Or.inl (hw _ (List.mem_of_getElem? (i := 23) rfl))) (by decide) (t := (.object "com/example/limentinus/limentinus/simulator/RecordQueue$Block")) (t' := .int) (by decide) (by decide)))).other W116 (Or.inr (slot_ne (Or.inl (hw _ (List.mem_of_getElem? (i := 21) rfl))) (Or.inl (hw _ (List.mem_of_getElem? (i := 25) rfl))) (by decide) (t := (.object "com/example/limentinus/limentinus/simulator/RecordQueue$Block")) (t' := .int) (by decide) (by decide))))
  have f123 := (f113.other W116 (Or.inr (slot_ne (Or.inl (hw _ (List.mem_of_getElem? (i := 23) rfl))) (Or.inl (hw _ (List.mem_of_getElem? (i := 25) rfl))) (by decide) (t := .int) (t' := .int) (by decide) (by decide))))
  have f124 := (((x8.wr W102).wr W112).wr W116)
  have f125 := (((x9.other W102 (Or.inl (ne_exa x8 x0 (by decide)))).other W112 (Or.inl (ne_exa x8 x0 (by decide)))).other W116 (Or.inl (ne_exa x8 x0 (by decide))))
  have f126 := (((x10.other W102 (Or.inl (ne_exa x8 x0 (by decide)))).other W112 (Or.inl (ne_exa x8 x0 (by decide)))).other W116 (Or.inl (ne_exa x8 x0 (by decide))))
  have f127 := (((x11.other W102 (Or.inl (ne_exa x8 x0 (by decide)))).other W112 (Or.inl (ne_exa x8 x0 (by decide)))).other W116 (Or.inl (ne_exa x8 x0 (by decide))))
  have f128 := (((x12.other W102 (Ne.symm (own_neY x0 (hw _ (List.mem_of_getElem? (i := 1) rfl)) x12))).other W112 (Ne.symm (own_neY x0 (hw _ (List.mem_of_getElem? (i := 1) rfl)) x12))).other W116 (Ne.symm (own_neY x0 (hw _ (List.mem_of_getElem? (i := 1) rfl)) x12)))
  refine own_retV X116 hx hlk hret (hb hby own_d8_113) (by decide) (by decide) ?_
  rw [e116]
  exact ⟨rfl, N116, (((((Keep.refl h0 [q, a1]).trans K0 (allS (Or.inl (List.mem_of_getElem? (i := 0) rfl)) (allS (Or.inl (List.mem_of_getElem? (i := 1) rfl)) all0))).wr W102 (Or.inl (List.mem_of_getElem? (i := 0) rfl))).wr W112 (Or.inl (List.mem_of_getElem? (i := 0) rfl))).wr W116 (Or.inl (List.mem_of_getElem? (i := 0) rfl))), ⟨f118, f119, f120, f121, f122, f123, f117, x7, f124, f125, f126, f127, f128, x13, x14⟩⟩
theorem own_d8_0 : decode prog_85_method_8_code 0 = .ok (.aload_n 0, 1) := by decide +kernel
theorem own_d8_1 : decode prog_85_method_8_code 1 = .ok (.invokevirtual 53, 3) := by decide +kernel
theorem own_pd4 : parseMethodDescriptor "()I" = some ⟨[], some .int⟩ := by decide +kernel
theorem own_d8_4 : decode prog_85_method_8_code 4 = .ok (.istore_n 1, 1) := by decide +kernel
theorem own_d8_5 : decode prog_85_method_8_code 5 = .ok (.iconst 0, 1) := by decide +kernel
theorem own_d8_6 : decode prog_85_method_8_code 6 = .ok (.istore_n 2, 1) := by decide +kernel
theorem own_d8_7 : decode prog_85_method_8_code 7 = .ok (.iload_n 2, 1) := by decide +kernel
theorem own_d8_8 : decode prog_85_method_8_code 8 = .ok (.aload_n 0, 1) := by decide +kernel
theorem own_d8_9 : decode prog_85_method_8_code 9 = .ok (.getfield 7, 3) := by decide +kernel
theorem own_d8_12 : decode prog_85_method_8_code 12 = .ok (.if_icmp .ge 26, 3) := by decide +kernel
theorem own_d8_15 : decode prog_85_method_8_code 15 = .ok (.aload_n 0, 1) := by decide +kernel
theorem own_d8_16 : decode prog_85_method_8_code 16 = .ok (.getfield 16, 3) := by decide +kernel
theorem own_d8_19 : decode prog_85_method_8_code 19 = .ok (.getfield 47, 3) := by decide +kernel
theorem own_d8_22 : decode prog_85_method_8_code 22 = .ok (.iload_n 1, 1) := by decide +kernel
theorem own_d8_23 : decode prog_85_method_8_code 23 = .ok (.aload_n 0, 1) := by decide +kernel
theorem own_d8_24 : decode prog_85_method_8_code 24 = .ok (.getfield 7, 3) := by decide +kernel
theorem own_d8_27 : decode prog_85_method_8_code 27 = .ok (.imul, 1) := by decide +kernel
theorem own_d8_28 : decode prog_85_method_8_code 28 = .ok (.iload_n 2, 1) := by decide +kernel
theorem own_d8_29 : decode prog_85_method_8_code 29 = .ok (.iadd, 1) := by decide +kernel
theorem own_d8_30 : decode prog_85_method_8_code 30 = .ok (.aconst_null, 1) := by decide +kernel
theorem own_d8_31 : decode prog_85_method_8_code 31 = .ok (.aastore, 1) := by decide +kernel
theorem own_d8_32 : decode prog_85_method_8_code 32 = .ok (.iinc 2 1, 3) := by decide +kernel
theorem own_d8_35 : decode prog_85_method_8_code 35 = .ok (.goto (-28), 3) := by decide +kernel
theorem own_ef_own_rem1e (m : MethodId) (q : Addr) : entryFrame m #[(.ref q)] 3 = mkF m 0 #[rv q, .unset, .unset] [] := by first | (simp [entryFrame, mkF, argsToLocals, Value.category]; done) | rfl
set_option maxRecDepth 65536 in
set_option maxHeartbeats 40000000 in
theorem own_rem1e (l : Launch) (Z : State) (a0 : Array Value) (hw : ∀ d ∈ tables_1, d.before a0 Z = true) (ws : List Jvm.Cond) (q : Addr) (r : Int32) (w : Int32) (hd : Int32) (tl : Int32) (b1 : Addr) (a1 : Addr) (z1 : Int32) (h0 : Heap) (n0 : Nat) (Z0 : n0 ≤ h0.size) (B0 : own_Q1 Z h0 (q) (n0) (r) (w) (hd) (tl) (b1) (a1) (z1)) (hr : own_03 r) (h0p : 0 ≤ hd.toInt) (h1p : hd.toInt < z1.toInt) (h2p : z1.toInt ≤ 8) (hpe : ¬ hd = tl) (hq : (hd + (1 : Int32)) = tl) :
    own_Ctr l Z (⟨"com/example/limentinus/limentinus/simulator/RecordQueue", "removeFirst", "()V"⟩ : MethodName) prog_85_method_8_code 3 none ws ({ frames := 2, cells := 0, slots := 0, locals := 26 } : Room) (({ frames := 2, cells := 0, slots := 0, locals := 26 } : Room)).cells (({ frames := 2, cells := 0, slots := 0, locals := 26 } : Room)).slots #[(.ref q)] h0 (Q_own_rem1e Z q r w hd tl b1 a1 z1 h0 n0) := by
  refine own_enter (plainFor_of_name own_pn0) ?_
  intro p e s m below meth c s₁ X0 hx hZ hby hml hown hnm hlk hret e0
  have N0 := Fr.nil n0
  refine own_cast (own_ef_own_rem1e m q) ?_
  obtain ⟨f101, f102, f103, f104, f105, f106, f107, f108, f109, f110, f111, f112, f113, f114, f115⟩ := B0
  refine own_by (g' := (mkF m 1 #[rv q, .unset, .unset] [(.ref q)])) (fun t k => XS.aloadN X0.here hx rfl (hb hby own_d8_0) rfl rfl k) ?_
  refine own_callP X0 hx hZ hown (hw _ (List.mem_of_getElem? (i := 60) rfl)) (hw _ (List.mem_of_getElem? (i := 61) rfl)) (own_selp (hw _ (List.mem_of_getElem? (i := 1) rfl)) (hw _ (List.mem_of_getElem? (i := 61) rfl)) (hw _ (List.mem_of_getElem? (i := 62) rfl)) (by decide)) (hw _ (List.mem_of_getElem? (i := 62) rfl)) (hw _ (List.mem_of_getElem? (i := 63) rfl)) (hw _ (List.mem_of_getElem? (i := 2) rfl)) (by decide) (a := q) f101 (own_fr1 l Z a0 hw [] (q) (r) (w) (hd) (tl) (b1) (a1) (z1) h0 n0 Z0 ⟨f101, f102, f103, f104, f105, f106, f107, f108, f109, f110, f111, f112, f113, f114, f115⟩ hpe) 0 (by decide) (by decide) (by decide) (by decide) e0 (g := (mkF m 1 #[rv q, .unset, .unset] [(.ref q)])) rfl (by rw [hml]; rfl) (argsL := []) (rest := []) (lenOf own_pd4 rfl) rfl (by show 2 * 0 + _ ≤ _; exact Nat.le_of_eq rfl) (hb hby own_d8_1) ?_
  intro v116 T116 L116 X116 q116
  obtain ⟨rfl, N116q, e116⟩ := q116
  have N116 := Fr.app N0 N116q
  show own_Goes p e below s _ _ _ T116 (mkF m 4 #[rv q, .unset, .unset] [(.int hd)])
  refine own_by (g' := (mkF m 7 #[rv q, iv hd, iv (0 : Int32)] [])) (fun t k => XS.istoreN X116.here hx rfl (hb hby own_d8_4) rfl (l' := #[rv q, iv hd, .unset]) rfl (XS.iconst X116.here hx rfl (hb hby own_d8_5) (XS.istoreN X116.here hx rfl (hb hby own_d8_6) rfl (l' := #[rv q, iv hd, iv (0 : Int32)]) rfl k))) ?_
  rcases id hr with hr1 | hr1 | hr1 | hr1
  ·
    refine own_by (g' := (mkF m 9 #[rv q, iv hd, iv (0 : Int32)] [(.ref q), (.int (0 : Int32))])) (fun t k => XS.iloadN X116.here hx rfl (hb hby own_d8_7) rfl (XS.aloadN X116.here hx rfl (hb hby own_d8_8) rfl rfl k)) ?_
    obtain ⟨T117, X117, e117, st117⟩ := getF X116 hx hZ hown (host := "") (Or.inl (hw _ (List.mem_of_getElem? (i := 9) rfl))) Via.refl e116 f102 (g := (mkF m 9 #[rv q, iv hd, iv (0 : Int32)] [(.ref q), (.int (0 : Int32))])) rfl rfl (hb hby own_d8_9)
    refine own_by (g' := (mkF m 12 #[rv q, iv hd, iv (0 : Int32)] [(.int r), (.int (0 : Int32))])) st117 ?_
    refine own_by (g' := (mkF m 38 #[rv q, iv hd, iv (0 : Int32)] [])) (fun t k => XS.icmpYes X117.here hx rfl (pc0 := 12) (pc' := 38) rfl (hb hby own_d8_12) rfl (flt (by rw [hr1]; decide)).2.1 (by decide) (by decide) k) ?_
    exact own_rem1e_38 q r w hd tl b1 a1 z1 ((0 : Int32)) X117 hx hZ hw hby hml hown hnm hlk hret Z0 e117 N116 (Keep.refl h0 [q, a1]) f101 f102 f103 f104 f105 f106 f107 f108 f109 f110 f111 f112 f113 f114 f115 (by first | assumption | decide) (by first | assumption | decide) (by first | assumption | decide) (by first | assumption | decide) (by first | assumption | decide) (by first | assumption | decide)
  ·
    refine own_by (g' := (mkF m 9 #[rv q, iv hd, iv (0 : Int32)] [(.ref q), (.int (0 : Int32))])) (fun t k => XS.iloadN X116.here hx rfl (hb hby own_d8_7) rfl (XS.aloadN X116.here hx rfl (hb hby own_d8_8) rfl rfl k)) ?_
    obtain ⟨T118, X118, e118, st118⟩ := getF X116 hx hZ hown (host := "") (Or.inl (hw _ (List.mem_of_getElem? (i := 9) rfl))) Via.refl e116 f102 (g := (mkF m 9 #[rv q, iv hd, iv (0 : Int32)] [(.ref q), (.int (0 : Int32))])) rfl rfl (hb hby own_d8_9)
    refine own_by (g' := (mkF m 12 #[rv q, iv hd, iv (0 : Int32)] [(.int r), (.int (0 : Int32))])) st118 ?_
    refine own_by (g' := (mkF m 16 #[rv q, iv hd, iv (0 : Int32)] [(.ref q)])) (fun t k => XS.icmpNo X118.here hx rfl (hb hby own_d8_12) rfl (tlt (by rw [hr1]; decide)).2.1 (XS.aloadN X118.here hx rfl (hb hby own_d8_15) rfl rfl k)) ?_
    obtain ⟨T119, X119, e119, st119⟩ := getF X118 hx hZ hown (host := "") (Or.inl (hw _ (List.mem_of_getElem? (i := 18) rfl))) Via.refl e118 f104 (g := (mkF m 16 #[rv q, iv hd, iv (0 : Int32)] [(.ref q)])) rfl rfl (hb hby own_d8_16)
    refine own_by (g' := (mkF m 19 #[rv q, iv hd, iv (0 : Int32)] [(.ref b1)])) st119 ?_
    obtain ⟨T120, X120, e120, st120⟩ := own_getR X119 hx hZ hown (hw _ (List.mem_of_getElem? (i := 66) rfl)) e119 f111 (g := (mkF m 19 #[rv q, iv hd, iv (0 : Int32)] [(.ref b1)])) rfl rfl (hb hby own_d8_19)
    refine own_by (g' := (mkF m 22 #[rv q, iv hd, iv (0 : Int32)] [(.ref a1)])) st120 ?_
    refine own_by (g' := (mkF m 24 #[rv q, iv hd, iv (0 : Int32)] [(.ref q), (.int hd), (.ref a1)])) (fun t k => XS.iloadN X120.here hx rfl (hb hby own_d8_22) rfl (XS.aloadN X120.here hx rfl (hb hby own_d8_23) rfl rfl k)) ?_
    obtain ⟨T121, X121, e121, st121⟩ := getF X120 hx hZ hown (host := "") (Or.inl (hw _ (List.mem_of_getElem? (i := 9) rfl))) Via.refl e120 f102 (g := (mkF m 24 #[rv q, iv hd, iv (0 : Int32)] [(.ref q), (.int hd), (.ref a1)])) rfl rfl (hb hby own_d8_24)
    refine own_by (g' := (mkF m 27 #[rv q, iv hd, iv (0 : Int32)] [(.int r), (.int hd), (.ref a1)])) st121 ?_
    refine own_by (g' := (mkF m 31 #[rv q, iv hd, iv (0 : Int32)] [.null, (.int ((hd * r) + (0 : Int32))), (.ref a1)])) (fun t k => XS.imul X121.here hx rfl (hb hby own_d8_27) rfl (XS.iloadN X121.here hx rfl (hb hby own_d8_28) rfl (XS.iadd X121.here hx rfl (hb hby own_d8_29) rfl (XS.aconstNull X121.here hx rfl (hb hby own_d8_30) k)))) ?_
    obtain ⟨c122, Ar122, S122, G122⟩ := id f113
    have hin122 : ¬ (((hd * r) + (0 : Int32)) < 0 ∨ c122.slots.size ≤ (((hd * r) + (0 : Int32))).toNatClampNeg) := inb_of S122 (own_inb h0p h1p h2p r (0 : Int32) 1 0 (by rw [hr1]; decide) (by decide) (by decide))
    obtain ⟨T122, h122, X122, e122, W122, st122⟩ := stR X121 hx hZ e121 Ar122 (j := ((hd * r) + (0 : Int32))) hin122 rfl (Or.inl rfl) (g := (mkF m 31 #[rv q, iv hd, iv (0 : Int32)] [.null, (.int ((hd * r) + (0 : Int32))), (.ref a1)])) rfl rfl (hb hby own_d8_31)
    have Al122 := own_Arz.same (⟨c122, Ar122, S122, G122⟩ : own_Arz Z _ a1 (.object "java/lang/Object") (z1 * r)) W122
    have N122 := Fr.snoc X122 N116 f115
    refine own_by (g' := (mkF m 32 #[rv q, iv hd, iv (0 : Int32)] [])) st122 ?_
    refine own_by (g' := (mkF m 9 #[rv q, iv hd, iv (1 : Int32)] [(.ref q), (.int (1 : Int32))])) (fun t k => XS.iinc X122.here hx rfl (hb hby own_d8_32) rfl (l' := #[rv q, iv hd, iv (1 : Int32)]) rfl (XS.goto X122.here hx rfl (pc0 := 35) (pc' := 7) rfl (hb hby own_d8_35) (by decide) (by decide) (XS.iloadN X122.here hx rfl (hb hby own_d8_7) rfl (XS.aloadN X122.here hx rfl (hb hby own_d8_8) rfl rfl k)))) ?_
    have f123 := (f102.other W122 (Or.inl (own_neY f101 (hw _ (List.mem_of_getElem? (i := 1) rfl)) f113)))
    obtain ⟨T124, X124, e124, st124⟩ := getF X122 hx hZ hown (host := "") (Or.inl (hw _ (List.mem_of_getElem? (i := 9) rfl))) Via.refl e122 f123 (g := (mkF m 9 #[rv q, iv hd, iv (1 : Int32)] [(.ref q), (.int (1 : Int32))])) rfl rfl (hb hby own_d8_9)
    refine own_by (g' := (mkF m 12 #[rv q, iv hd, iv (1 : Int32)] [(.int r), (.int (1 : Int32))])) st124 ?_
    refine own_by (g' := (mkF m 38 #[rv q, iv hd, iv (1 : Int32)] [])) (fun t k => XS.icmpYes X124.here hx rfl (pc0 := 12) (pc' := 38) rfl (hb hby own_d8_12) rfl (flt (by rw [hr1]; decide)).2.1 (by decide) (by decide) k) ?_
    have f125 := (f101.wr W122)
    have f126 := (f103.other W122 (Or.inl (own_neY f101 (hw _ (List.mem_of_getElem? (i := 1) rfl)) f113)))
    have f127 := (f104.other W122 (Or.inl (own_neY f101 (hw _ (List.mem_of_getElem? (i := 1) rfl)) f113)))
    have f128 := (f105.other W122 (Or.inl (own_neY f101 (hw _ (List.mem_of_getElem? (i := 1) rfl)) f113)))
    have f129 := (f106.other W122 (Or.inl (own_neY f101 (hw _ (List.mem_of_getElem? (i := 1) rfl)) f113)))
    have f130 := (f107.other W122 (Or.inl (own_neY f101 (hw _ (List.mem_of_getElem? (i := 1) rfl)) f113)))
    have f131 := (f109.wr W122)
    have f132 := (f110.other W122 (Or.inl (own_neY f109 (hw _ (List.mem_of_getElem? (i := 40) rfl)) f113)))
    have f133 := (f111.other W122 (Or.inl (own_neY f109 (hw _ (List.mem_of_getElem? (i := 40) rfl)) f113)))
    have f134 := (f112.other W122 (Or.inl (own_neY f109 (hw _ (List.mem_of_getElem? (i := 40) rfl)) f113)))
    exact own_rem1e_38 q r w hd tl b1 a1 z1 ((1 : Int32)) X124 hx hZ hw hby hml hown hnm hlk hret Z0 e124 N122 ((Keep.refl h0 [q, a1]).wr W122 (Or.inl (List.mem_of_getElem? (i := 1) rfl))) f125 f123 f126 f127 f128 f129 f130 f108 f131 f132 f133 f134 Al122 f114 f115 (by first | assumption | decide) (by first | assumption | decide) (by first | assumption | decide) (by first | assumption | decide) (by first | assumption | decide) (by first | assumption | decide)
  ·
    refine own_by (g' := (mkF m 9 #[rv q, iv hd, iv (0 : Int32)] [(.ref q), (.int (0 : Int32))])) (fun t k => XS.iloadN X116.here hx rfl (hb hby own_d8_7) rfl (XS.aloadN X116.here hx rfl (hb hby own_d8_8) rfl rfl k)) ?_
    obtain ⟨T135, X135, e135, st135⟩ := getF X116 hx hZ hown (host := "") (Or.inl (hw _ (List.mem_of_getElem? (i := 9) rfl))) Via.refl e116 f102 (g := (mkF m 9 #[rv q, iv hd, iv (0 : Int32)] [(.ref q), (.int (0 : Int32))])) rfl rfl (hb hby own_d8_9)
    refine own_by (g' := (mkF m 12 #[rv q, iv hd, iv (0 : Int32)] [(.int r), (.int (0 : Int32))])) st135 ?_
    refine own_by (g' := (mkF m 16 #[rv q, iv hd, iv (0 : Int32)] [(.ref q)])) (fun t k => XS.icmpNo X135.here hx rfl (hb hby own_d8_12) rfl (tlt (by rw [hr1]; decide)).2.1 (XS.aloadN X135.here hx rfl (hb hby own_d8_15) rfl rfl k)) ?_
    obtain ⟨T136, X136, e136, st136⟩ := getF X135 hx hZ hown (host := "") (Or.inl (hw _ (List.mem_of_getElem? (i := 18) rfl))) Via.refl e135 f104 (g := (mkF m 16 #[rv q, iv hd, iv (0 : Int32)] [(.ref q)])) rfl rfl (hb hby own_d8_16)
    refine own_by (g' := (mkF m 19 #[rv q, iv hd, iv (0 : Int32)] [(.ref b1)])) st136 ?_
    obtain ⟨T137, X137, e137, st137⟩ := own_getR X136 hx hZ hown (hw _ (List.mem_of_getElem? (i := 66) rfl)) e136 f111 (g := (mkF m 19 #[rv q, iv hd, iv (0 : Int32)] [(.ref b1)])) rfl rfl (hb hby own_d8_19)
    refine own_by (g' := (mkF m 22 #[rv q, iv hd, iv (0 : Int32)] [(.ref a1)])) st137 ?_
    refine own_by (g' := (mkF m 24 #[rv q, iv hd, iv (0 : Int32)] [(.ref q), (.int hd), (.ref a1)])) (fun t k => XS.iloadN X137.here hx rfl (hb hby own_d8_22) rfl (XS.aloadN X137.here hx rfl (hb hby own_d8_23) rfl rfl k)) ?_
    obtain ⟨T138, X138, e138, st138⟩ := getF X137 hx hZ hown (host := "") (Or.inl (hw _ (List.mem_of_getElem? (i := 9) rfl))) Via.refl e137 f102 (g := (mkF m 24 #[rv q, iv hd, iv (0 : Int32)] [(.ref q), (.int hd), (.ref a1)])) rfl rfl (hb hby own_d8_24)
    refine own_by (g' := (mkF m 27 #[rv q, iv hd, iv (0 : Int32)] [(.int r), (.int hd), (.ref a1)])) st138 ?_
    refine own_by (g' := (mkF m 31 #[rv q, iv hd, iv (0 : Int32)] [.null, (.int ((hd * r) + (0 : Int32))), (.ref a1)])) (fun t k => XS.imul X138.here hx rfl (hb hby own_d8_27) rfl (XS.iloadN X138.here hx rfl (hb hby own_d8_28) rfl (XS.iadd X138.here hx rfl (hb hby own_d8_29) rfl (XS.aconstNull X138.here hx rfl (hb hby own_d8_30) k)))) ?_
    obtain ⟨c139, Ar139, S139, G139⟩ := id f113
    have hin139 : ¬ (((hd * r) + (0 : Int32)) < 0 ∨ c139.slots.size ≤ (((hd * r) + (0 : Int32))).toNatClampNeg) := inb_of S139 (own_inb h0p h1p h2p r (0 : Int32) 2 0 (by rw [hr1]; decide) (by decide) (by decide))
    obtain ⟨T139, h139, X139, e139, W139, st139⟩ := stR X138 hx hZ e138 Ar139 (j := ((hd * r) + (0 : Int32))) hin139 rfl (Or.inl rfl) (g := (mkF m 31 #[rv q, iv hd, iv (0 : Int32)] [.null, (.int ((hd * r) + (0 : Int32))), (.ref a1)])) rfl rfl (hb hby own_d8_31)
    have Al139 := own_Arz.same (⟨c139, Ar139, S139, G139⟩ : own_Arz Z _ a1 (.object "java/lang/Object") (z1 * r)) W139
    have N139 := Fr.snoc X139 N116 f115
    refine own_by (g' := (mkF m 32 #[rv q, iv hd, iv (0 : Int32)] [])) st139 ?_
    refine own_by (g' := (mkF m 9 #[rv q, iv hd, iv (1 : Int32)] [(.ref q), (.int (1 : Int32))])) (fun t k => XS.iinc X139.here hx rfl (hb hby own_d8_32) rfl (l' := #[rv q, iv hd, iv (1 : Int32)]) rfl (XS.goto X139.here hx rfl (pc0 := 35) (pc' := 7) rfl (hb hby own_d8_35) (by decide) (by decide) (XS.iloadN X139.here hx rfl (hb hby own_d8_7) rfl (XS.aloadN X139.here hx rfl (hb hby own_d8_8) rfl rfl k)))) ?_
    have f140 := (f102.other W139 (Or.inl (own_neY f101 (hw _ (List.mem_of_getElem? (i := 1) rfl)) f113)))
    obtain ⟨T141, X141, e141, st141⟩ := getF X139 hx hZ hown (host := "") (Or.inl (hw _ (List.mem_of_getElem? (i := 9) rfl))) Via.refl e139 f140 (g := (mkF m 9 #[rv q, iv hd, iv (1 : Int32)] [(.ref q), (.int (1 : Int32))])) rfl rfl (hb hby own_d8_9)
    refine own_by (g' := (mkF m 12 #[rv q, iv hd, iv (1 : Int32)] [(.int r), (.int (1 : Int32))])) st141 ?_
    refine own_by (g' := (mkF m 16 #[rv q, iv hd, iv (1 : Int32)] [(.ref q)])) (fun t k => XS.icmpNo X141.here hx rfl (hb hby own_d8_12) rfl (tlt (by rw [hr1]; decide)).2.1 (XS.aloadN X141.here hx rfl (hb hby own_d8_15) rfl rfl k)) ?_
    have f142 := (f104.other W139 (Or.inl (own_neY f101 (hw _ (List.mem_of_getElem? (i := 1) rfl)) f113)))
    obtain ⟨T143, X143, e143, st143⟩ := getF X141 hx hZ hown (host := "") (Or.inl (hw _ (List.mem_of_getElem? (i := 18) rfl))) Via.refl e141 f142 (g := (mkF m 16 #[rv q, iv hd, iv (1 : Int32)] [(.ref q)])) rfl rfl (hb hby own_d8_16)
    refine own_by (g' := (mkF m 19 #[rv q, iv hd, iv (1 : Int32)] [(.ref b1)])) st143 ?_
    have f144 := (f111.other W139 (Or.inl (own_neY f109 (hw _ (List.mem_of_getElem? (i := 40) rfl)) f113)))
    obtain ⟨T145, X145, e145, st145⟩ := own_getR X143 hx hZ hown (hw _ (List.mem_of_getElem? (i := 66) rfl)) e143 f144 (g := (mkF m 19 #[rv q, iv hd, iv (1 : Int32)] [(.ref b1)])) rfl rfl (hb hby own_d8_19)
    refine own_by (g' := (mkF m 22 #[rv q, iv hd, iv (1 : Int32)] [(.ref a1)])) st145 ?_
    refine own_by (g' := (mkF m 24 #[rv q, iv hd, iv (1 : Int32)] [(.ref q), (.int hd), (.ref a1)])) (fun t k => XS.iloadN X145.here hx rfl (hb hby own_d8_22) rfl (XS.aloadN X145.here hx rfl (hb hby own_d8_23) rfl rfl k)) ?_
    obtain ⟨T146, X146, e146, st146⟩ := getF X145 hx hZ hown (host := "") (Or.inl (hw _ (List.mem_of_getElem? (i := 9) rfl))) Via.refl e145 f140 (g := (mkF m 24 #[rv q, iv hd, iv (1 : Int32)] [(.ref q), (.int hd), (.ref a1)])) rfl rfl (hb hby own_d8_24)
    refine own_by (g' := (mkF m 27 #[rv q, iv hd, iv (1 : Int32)] [(.int r), (.int hd), (.ref a1)])) st146 ?_
    refine own_by (g' := (mkF m 31 #[rv q, iv hd, iv (1 : Int32)] [.null, (.int ((hd * r) + (1 : Int32))), (.ref a1)])) (fun t k => XS.imul X146.here hx rfl (hb hby own_d8_27) rfl (XS.iloadN X146.here hx rfl (hb hby own_d8_28) rfl (XS.iadd X146.here hx rfl (hb hby own_d8_29) rfl (XS.aconstNull X146.here hx rfl (hb hby own_d8_30) k)))) ?_
    obtain ⟨c147, Ar147, S147, G147⟩ := id Al139
    have hin147 : ¬ (((hd * r) + (1 : Int32)) < 0 ∨ c147.slots.size ≤ (((hd * r) + (1 : Int32))).toNatClampNeg) := inb_of S147 (own_inb h0p h1p h2p r (1 : Int32) 2 1 (by rw [hr1]; decide) (by decide) (by decide))
    obtain ⟨T147, h147, X147, e147, W147, st147⟩ := stR X146 hx hZ e146 Ar147 (j := ((hd * r) + (1 : Int32))) hin147 rfl (Or.inl rfl) (g := (mkF m 31 #[rv q, iv hd, iv (1 : Int32)] [.null, (.int ((hd * r) + (1 : Int32))), (.ref a1)])) rfl rfl (hb hby own_d8_31)
    have Al147 := own_Arz.same (⟨c147, Ar147, S147, G147⟩ : own_Arz Z _ a1 (.object "java/lang/Object") (z1 * r)) W147
    have N147 := Fr.snoc X147 N139 f115
    refine own_by (g' := (mkF m 32 #[rv q, iv hd, iv (1 : Int32)] [])) st147 ?_
    refine own_by (g' := (mkF m 9 #[rv q, iv hd, iv (2 : Int32)] [(.ref q), (.int (2 : Int32))])) (fun t k => XS.iinc X147.here hx rfl (hb hby own_d8_32) rfl (l' := #[rv q, iv hd, iv (2 : Int32)]) rfl (XS.goto X147.here hx rfl (pc0 := 35) (pc' := 7) rfl (hb hby own_d8_35) (by decide) (by decide) (XS.iloadN X147.here hx rfl (hb hby own_d8_7) rfl (XS.aloadN X147.here hx rfl (hb hby own_d8_8) rfl rfl k)))) ?_
    have f148 := (f140.other W147 (Or.inl (own_neY f101 (hw _ (List.mem_of_getElem? (i := 1) rfl)) f113)))
    obtain ⟨T149, X149, e149, st149⟩ := getF X147 hx hZ hown (host := "") (Or.inl (hw _ (List.mem_of_getElem? (i := 9) rfl))) Via.refl e147 f148 (g := (mkF m 9 #[rv q, iv hd, iv (2 : Int32)] [(.ref q), (.int (2 : Int32))])) rfl rfl (hb hby own_d8_9)
    refine own_by (g' := (mkF m 12 #[rv q, iv hd, iv (2 : Int32)] [(.int r), (.int (2 : Int32))])) st149 ?_
    refine own_by (g' := (mkF m 38 #[rv q, iv hd, iv (2 : Int32)] [])) (fun t k => XS.icmpYes X149.here hx rfl (pc0 := 12) (pc' := 38) rfl (hb hby own_d8_12) rfl (flt (by rw [hr1]; decide)).2.1 (by decide) (by decide) k) ?_
    have f150 := ((f101.wr W139).wr W147)
    have f151 := ((f103.other W139 (Or.inl (own_neY f101 (hw _ (List.mem_of_getElem? (i := 1) rfl)) f113))).other W147 (Or.inl (own_neY f101 (hw _ (List.mem_of_getElem? (i := 1) rfl)) f113)))
    have f152 := (f142.other W147 (Or.inl (own_neY f101 (hw _ (List.mem_of_getElem? (i := 1) rfl)) f113)))
    have f153 := ((f105.other W139 (Or.inl (own_neY f101 (hw _ (List.mem_of_getElem? (i := 1) rfl)) f113))).other W147 (Or.inl (own_neY f101 (hw _ (List.mem_of_getElem? (i := 1) rfl)) f113)))
    have f154 := ((f106.other W139 (Or.inl (own_neY f101 (hw _ (List.mem_of_getElem? (i := 1) rfl)) f113))).other W147 (Or.inl (own_neY f101 (hw _ (List.mem_of_getElem? (i := 1) rfl)) f113)))
    have f155 := ((f107.other W139 (Or.inl (own_neY f101 (hw _ (List.mem_of_getElem? (i := 1) rfl)) f113))).other W147 (Or.inl (own_neY f101 (hw _ (List.mem_of_getElem? (i := 1) rfl)) f113)))
    have f156 := ((f109.wr W139).wr W147)
    have f157 := ((f110.other W139 (Or.inl (own_neY f109 (hw _ (List.mem_of_getElem? (i := 40) rfl)) f113))).other W147 (Or.inl (own_neY f109 (hw _ (List.mem_of_getElem? (i := 40) rfl)) f113)))
    have f158 := (f144.other W147 (Or.inl (own_neY f109 (hw _ (List.mem_of_getElem? (i := 40) rfl)) f113)))
    have f159 := ((f112.other W139 (Or.inl (own_neY f109 (hw _ (List.mem_of_getElem? (i := 40) rfl)) f113))).other W147 (Or.inl (own_neY f109 (hw _ (List.mem_of_getElem? (i := 40) rfl)) f113)))
    exact own_rem1e_38 q r w hd tl b1 a1 z1 ((2 : Int32)) X149 hx hZ hw hby hml hown hnm hlk hret Z0 e149 N147 (((Keep.refl h0 [q, a1]).wr W139 (Or.inl (List.mem_of_getElem? (i := 1) rfl))).wr W147 (Or.inl (List.mem_of_getElem? (i := 1) rfl))) f150 f148 f151 f152 f153 f154 f155 f108 f156 f157 f158 f159 Al147 f114 f115 (by first | assumption | decide) (by first | assumption | decide) (by first | assumption | decide) (by first | assumption | decide) (by first | assumption | decide) (by first | assumption | decide)
  ·
    refine own_by (g' := (mkF m 9 #[rv q, iv hd, iv (0 : Int32)] [(.ref q), (.int (0 : Int32))])) (fun t k => XS.iloadN X116.here hx rfl (hb hby own_d8_7) rfl (XS.aloadN X116.here hx rfl (hb hby own_d8_8) rfl rfl k)) ?_
    obtain ⟨T160, X160, e160, st160⟩ := getF X116 hx hZ hown (host := "") (Or.inl (hw _ (List.mem_of_getElem? (i := 9) rfl))) Via.refl e116 f102 (g := (mkF m 9 #[rv q, iv hd, iv (0 : Int32)] [(.ref q), (.int (0 : Int32))])) rfl rfl (hb hby own_d8_9)
    refine own_by (g' := (mkF m 12 #[rv q, iv hd, iv (0 : Int32)] [(.int r), (.int (0 : Int32))])) st160 ?_
    refine own_by (g' := (mkF m 16 #[rv q, iv hd, iv (0 : Int32)] [(.ref q)])) (fun t k => XS.icmpNo X160.here hx rfl (hb hby own_d8_12) rfl (tlt (by rw [hr1]; decide)).2.1 (XS.aloadN X160.here hx rfl (hb hby own_d8_15) rfl rfl k)) ?_
    obtain ⟨T161, X161, e161, st161⟩ := getF X160 hx hZ hown (host := "") (Or.inl (hw _ (List.mem_of_getElem? (i := 18) rfl))) Via.refl e160 f104 (g := (mkF m 16 #[rv q, iv hd, iv (0 : Int32)] [(.ref q)])) rfl rfl (hb hby own_d8_16)
    refine own_by (g' := (mkF m 19 #[rv q, iv hd, iv (0 : Int32)] [(.ref b1)])) st161 ?_
    obtain ⟨T162, X162, e162, st162⟩ := own_getR X161 hx hZ hown (hw _ (List.mem_of_getElem? (i := 66) rfl)) e161 f111 (g := (mkF m 19 #[rv q, iv hd, iv (0 : Int32)] [(.ref b1)])) rfl rfl (hb hby own_d8_19)
    refine own_by (g' := (mkF m 22 #[rv q, iv hd, iv (0 : Int32)] [(.ref a1)])) st162 ?_
    refine own_by (g' := (mkF m 24 #[rv q, iv hd, iv (0 : Int32)] [(.ref q), (.int hd), (.ref a1)])) (fun t k => XS.iloadN X162.here hx rfl (hb hby own_d8_22) rfl (XS.aloadN X162.here hx rfl (hb hby own_d8_23) rfl rfl k)) ?_
    obtain ⟨T163, X163, e163, st163⟩ := getF X162 hx hZ hown (host := "") (Or.inl (hw _ (List.mem_of_getElem? (i := 9) rfl))) Via.refl e162 f102 (g := (mkF m 24 #[rv q, iv hd, iv (0 : Int32)] [(.ref q), (.int hd), (.ref a1)])) rfl rfl (hb hby own_d8_24)
    refine own_by (g' := (mkF m 27 #[rv q, iv hd, iv (0 : Int32)] [(.int r), (.int hd), (.ref a1)])) st163 ?_
    refine own_by (g' := (mkF m 31 #[rv q, iv hd, iv (0 : Int32)] [.null, (.int ((hd * r) + (0 : Int32))), (.ref a1)])) (fun t k => XS.imul X163.here hx rfl (hb hby own_d8_27) rfl (XS.iloadN X163.here hx rfl (hb hby own_d8_28) rfl (XS.iadd X163.here hx rfl (hb hby own_d8_29) rfl (XS.aconstNull X163.here hx rfl (hb hby own_d8_30) k)))) ?_
    obtain ⟨c164, Ar164, S164, G164⟩ := id f113
    have hin164 : ¬ (((hd * r) + (0 : Int32)) < 0 ∨ c164.slots.size ≤ (((hd * r) + (0 : Int32))).toNatClampNeg) := inb_of S164 (own_inb h0p h1p h2p r (0 : Int32) 3 0 (by rw [hr1]; decide) (by decide) (by decide))
    obtain ⟨T164, h164, X164, e164, W164, st164⟩ := stR X163 hx hZ e163 Ar164 (j := ((hd * r) + (0 : Int32))) hin164 rfl (Or.inl rfl) (g := (mkF m 31 #[rv q, iv hd, iv (0 : Int32)] [.null, (.int ((hd * r) + (0 : Int32))), (.ref a1)])) rfl rfl (hb hby own_d8_31)
    have Al164 := own_Arz.same (⟨c164, Ar164, S164, G164⟩ : own_Arz Z _ a1 (.object "java/lang/Object") (z1 * r)) W164
    have N164 := Fr.snoc X164 N116 f115
    refine own_by (g' := (mkF m 32 #[rv q, iv hd, iv (0 : Int32)] [])) st164 ?_
    refine own_by (g' := (mkF m 9 #[rv q, iv hd, iv (1 : Int32)] [(.ref q), (.int (1 : Int32))])) (fun t k => XS.iinc X164.here hx rfl (hb hby own_d8_32) rfl (l' := #[rv q, iv hd, iv (1 : Int32)]) rfl (XS.goto X164.here hx rfl (pc0 := 35) (pc' := 7) rfl (hb hby own_d8_35) (by decide) (by decide) (XS.iloadN X164.here hx rfl (hb hby own_d8_7) rfl (XS.aloadN X164.here hx rfl (hb hby own_d8_8) rfl rfl k)))) ?_
    have f165 := (f102.other W164 (Or.inl (own_neY f101 (hw _ (List.mem_of_getElem? (i := 1) rfl)) f113)))
    obtain ⟨T166, X166, e166, st166⟩ := getF X164 hx hZ hown (host := "") (Or.inl (hw _ (List.mem_of_getElem? (i := 9) rfl))) Via.refl e164 f165 (g := (mkF m 9 #[rv q, iv hd, iv (1 : Int32)] [(.ref q), (.int (1 : Int32))])) rfl rfl (hb hby own_d8_9)
    refine own_by (g' := (mkF m 12 #[rv q, iv hd, iv (1 : Int32)] [(.int r), (.int (1 : Int32))])) st166 ?_
    refine own_by (g' := (mkF m 16 #[rv q, iv hd, iv (1 : Int32)] [(.ref q)])) (fun t k => XS.icmpNo X166.here hx rfl (hb hby own_d8_12) rfl (tlt (by rw [hr1]; decide)).2.1 (XS.aloadN X166.here hx rfl (hb hby own_d8_15) rfl rfl k)) ?_
    have f167 := (f104.other W164 (Or.inl (own_neY f101 (hw _ (List.mem_of_getElem? (i := 1) rfl)) f113)))
    obtain ⟨T168, X168, e168, st168⟩ := getF X166 hx hZ hown (host := "") (Or.inl (hw _ (List.mem_of_getElem? (i := 18) rfl))) Via.refl e166 f167 (g := (mkF m 16 #[rv q, iv hd, iv (1 : Int32)] [(.ref q)])) rfl rfl (hb hby own_d8_16)
    refine own_by (g' := (mkF m 19 #[rv q, iv hd, iv (1 : Int32)] [(.ref b1)])) st168 ?_
    have f169 := (f111.other W164 (Or.inl (own_neY f109 (hw _ (List.mem_of_getElem? (i := 40) rfl)) f113)))
    obtain ⟨T170, X170, e170, st170⟩ := own_getR X168 hx hZ hown (hw _ (List.mem_of_getElem? (i := 66) rfl)) e168 f169 (g := (mkF m 19 #[rv q, iv hd, iv (1 : Int32)] [(.ref b1)])) rfl rfl (hb hby own_d8_19)
    refine own_by (g' := (mkF m 22 #[rv q, iv hd, iv (1 : Int32)] [(.ref a1)])) st170 ?_
    refine own_by (g' := (mkF m 24 #[rv q, iv hd, iv (1 : Int32)] [(.ref q), (.int hd), (.ref a1)])) (fun t k => XS.iloadN X170.here hx rfl (hb hby own_d8_22) rfl (XS.aloadN X170.here hx rfl (hb hby own_d8_23) rfl rfl k)) ?_
    obtain ⟨T171, X171, e171, st171⟩ := getF X170 hx hZ hown (host := "") (Or.inl (hw _ (List.mem_of_getElem? (i := 9) rfl))) Via.refl e170 f165 (g := (mkF m 24 #[rv q, iv hd, iv (1 : Int32)] [(.ref q), (.int hd), (.ref a1)])) rfl rfl (hb hby own_d8_24)
    refine own_by (g' := (mkF m 27 #[rv q, iv hd, iv (1 : Int32)] [(.int r), (.int hd), (.ref a1)])) st171 ?_
    refine own_by (g' := (mkF m 31 #[rv q, iv hd, iv (1 : Int32)] [.null, (.int ((hd * r) + (1 : Int32))), (.ref a1)])) (fun t k => XS.imul X171.here hx rfl (hb hby own_d8_27) rfl (XS.iloadN X171.here hx rfl (hb hby own_d8_28) rfl (XS.iadd X171.here hx rfl (hb hby own_d8_29) rfl (XS.aconstNull X171.here hx rfl (hb hby own_d8_30) k)))) ?_
    obtain ⟨c172, Ar172, S172, G172⟩ := id Al164
    have hin172 : ¬ (((hd * r) + (1 : Int32)) < 0 ∨ c172.slots.size ≤ (((hd * r) + (1 : Int32))).toNatClampNeg) := inb_of S172 (own_inb h0p h1p h2p r (1 : Int32) 3 1 (by rw [hr1]; decide) (by decide) (by decide))
    obtain ⟨T172, h172, X172, e172, W172, st172⟩ := stR X171 hx hZ e171 Ar172 (j := ((hd * r) + (1 : Int32))) hin172 rfl (Or.inl rfl) (g := (mkF m 31 #[rv q, iv hd, iv (1 : Int32)] [.null, (.int ((hd * r) + (1 : Int32))), (.ref a1)])) rfl rfl (hb hby own_d8_31)
    have Al172 := own_Arz.same (⟨c172, Ar172, S172, G172⟩ : own_Arz Z _ a1 (.object "java/lang/Object") (z1 * r)) W172
    have N172 := Fr.snoc X172 N164 f115
    refine own_by (g' := (mkF m 32 #[rv q, iv hd, iv (1 : Int32)] [])) st172 ?_
    refine own_by (g' := (mkF m 9 #[rv q, iv hd, iv (2 : Int32)] [(.ref q), (.int (2 : Int32))])) (fun t k => XS.iinc X172.here hx rfl (hb hby own_d8_32) rfl (l' := #[rv q, iv hd, iv (2 : Int32)]) rfl (XS.goto X172.here hx rfl (pc0 := 35) (pc' := 7) rfl (hb hby own_d8_35) (by decide) (by decide) (XS.iloadN X172.here hx rfl (hb hby own_d8_7) rfl (XS.aloadN X172.here hx rfl (hb hby own_d8_8) rfl rfl k)))) ?_
    have f173 := (f165.other W172 (Or.inl (own_neY f101 (hw _ (List.mem_of_getElem? (i := 1) rfl)) f113)))
    obtain ⟨T174, X174, e174, st174⟩ := getF X172 hx hZ hown (host := "") (Or.inl (hw _ (List.mem_of_getElem? (i := 9) rfl))) Via.refl e172 f173 (g := (mkF m 9 #[rv q, iv hd, iv (2 : Int32)] [(.ref q), (.int (2 : Int32))])) rfl rfl (hb hby own_d8_9)
    refine own_by (g' := (mkF m 12 #[rv q, iv hd, iv (2 : Int32)] [(.int r), (.int (2 : Int32))])) st174 ?_
    refine own_by (g' := (mkF m 16 #[rv q, iv hd, iv (2 : Int32)] [(.ref q)])) (fun t k => XS.icmpNo X174.here hx rfl (hb hby own_d8_12) rfl (tlt (by rw [hr1]; decide)).2.1 (XS.aloadN X174.here hx rfl (hb hby own_d8_15) rfl rfl k)) ?_
    have f175 := (f167.other W172 (Or.inl (own_neY f101 (hw _ (List.mem_of_getElem? (i := 1) rfl)) f113)))
    obtain ⟨T176, X176, e176, st176⟩ := getF X174 hx hZ hown (host := "") (Or.inl (hw _ (List.mem_of_getElem? (i := 18) rfl))) Via.refl e174 f175 (g := (mkF m 16 #[rv q, iv hd, iv (2 : Int32)] [(.ref q)])) rfl rfl (hb hby own_d8_16)
    refine own_by (g' := (mkF m 19 #[rv q, iv hd, iv (2 : Int32)] [(.ref b1)])) st176 ?_
    have f177 := (f169.other W172 (Or.inl (own_neY f109 (hw _ (List.mem_of_getElem? (i := 40) rfl)) f113)))
    obtain ⟨T178, X178, e178, st178⟩ := own_getR X176 hx hZ hown (hw _ (List.mem_of_getElem? (i := 66) rfl)) e176 f177 (g := (mkF m 19 #[rv q, iv hd, iv (2 : Int32)] [(.ref b1)])) rfl rfl (hb hby own_d8_19)
    refine own_by (g' := (mkF m 22 #[rv q, iv hd, iv (2 : Int32)] [(.ref a1)])) st178 ?_
    refine own_by (g' := (mkF m 24 #[rv q, iv hd, iv (2 : Int32)] [(.ref q), (.int hd), (.ref a1)])) (fun t k => XS.iloadN X178.here hx rfl (hb hby own_d8_22) rfl (XS.aloadN X178.here hx rfl (hb hby own_d8_23) rfl rfl k)) ?_
    obtain ⟨T179, X179, e179, st179⟩ := getF X178 hx hZ hown (host := "") (Or.inl (hw _ (List.mem_of_getElem? (i := 9) rfl))) Via.refl e178 f173 (g := (mkF m 24 #[rv q, iv hd, iv (2 : Int32)] [(.ref q), (.int hd), (.ref a1)])) rfl rfl (hb hby own_d8_24)
    refine own_by (g' := (mkF m 27 #[rv q, iv hd, iv (2 : Int32)] [(.int r), (.int hd), (.ref a1)])) st179 ?_
    refine own_by (g' := (mkF m 31 #[rv q, iv hd, iv (2 : Int32)] [.null, (.int ((hd * r) + (2 : Int32))), (.ref a1)])) (fun t k => XS.imul X179.here hx rfl (hb hby own_d8_27) rfl (XS.iloadN X179.here hx rfl (hb hby own_d8_28) rfl (XS.iadd X179.here hx rfl (hb hby own_d8_29) rfl (XS.aconstNull X179.here hx rfl (hb hby own_d8_30) k)))) ?_
    obtain ⟨c180, Ar180, S180, G180⟩ := id Al172
    have hin180 : ¬ (((hd * r) + (2 : Int32)) < 0 ∨ c180.slots.size ≤ (((hd * r) + (2 : Int32))).toNatClampNeg) := inb_of S180 (own_inb h0p h1p h2p r (2 : Int32) 3 2 (by rw [hr1]; decide) (by decide) (by decide))
    obtain ⟨T180, h180, X180, e180, W180, st180⟩ := stR X179 hx hZ e179 Ar180 (j := ((hd * r) + (2 : Int32))) hin180 rfl (Or.inl rfl) (g := (mkF m 31 #[rv q, iv hd, iv (2 : Int32)] [.null, (.int ((hd * r) + (2 : Int32))), (.ref a1)])) rfl rfl (hb hby own_d8_31)
    have Al180 := own_Arz.same (⟨c180, Ar180, S180, G180⟩ : own_Arz Z _ a1 (.object "java/lang/Object") (z1 * r)) W180
    have N180 := Fr.snoc X180 N172 f115
    refine own_by (g' := (mkF m 32 #[rv q, iv hd, iv (2 : Int32)] [])) st180 ?_
    refine own_by (g' := (mkF m 9 #[rv q, iv hd, iv (3 : Int32)] [(.ref q), (.int (3 : Int32))])) (fun t k => XS.iinc X180.here hx rfl (hb hby own_d8_32) rfl (l' := #[rv q, iv hd, iv (3 : Int32)]) rfl (XS.goto X180.here hx rfl (pc0 := 35) (pc' := 7) rfl (hb hby own_d8_35) (by decide) (by decide) (XS.iloadN X180.here hx rfl (hb hby own_d8_7) rfl (XS.aloadN X180.here hx rfl (hb hby own_d8_8) rfl rfl k)))) ?_
    have f181 := (f173.other W180 (Or.inl (own_neY f101 (hw _ (List.mem_of_getElem? (i := 1) rfl)) f113)))
    obtain ⟨T182, X182, e182, st182⟩ := getF X180 hx hZ hown (host := "") (Or.inl (hw _ (List.mem_of_getElem? (i := 9) rfl))) Via.refl e180 f181 (g := (mkF m 9 #[rv q, iv hd, iv (3 : Int32)] [(.ref q), (.int (3 : Int32))])) rfl rfl (hb hby own_d8_9)
    refine own_by (g' := (mkF m 12 #[rv q, iv hd, iv (3 : Int32)] [(.int r), (.int (3 : Int32))])) st182 ?_
    refine own_by (g' := (mkF m 38 #[rv q, iv hd, iv (3 : Int32)] [])) (fun t k => XS.icmpYes X182.here hx rfl (pc0 := 12) (pc' := 38) rfl (hb hby own_d8_12) rfl (flt (by rw [hr1]; decide)).2.1 (by decide) (by decide) k) ?_
    have f183 := (((f101.wr W164).wr W172).wr W180)
    have f184 := (((f103.other W164 (Or.inl (own_neY f101 (hw _ (List.mem_of_getElem? (i := 1) rfl)) f113))).other W172 (Or.inl (own_neY f101 (hw _ (List.mem_of_getElem? (i := 1) rfl)) f113))).other W180 (Or.inl (own_neY f101 (hw _ (List.mem_of_getElem? (i := 1) rfl)) f113)))
    have f185 := (f175.other W180 (Or.inl (own_neY f101 (hw _ (List.mem_of_getElem? (i := 1) rfl)) f113)))
    have f186 := (((f105.other W164 (Or.inl (own_neY f101 (hw _ (List.mem_of_getElem? (i := 1) rfl)) f113))).other W172 (Or.inl (own_neY f101 (hw _ (List.mem_of_getElem? (i := 1) rfl)) f113))).other W180 (Or.inl (own_neY f101 (hw _ (List.mem_of_getElem? (i := 1) rfl)) f113)))
    have f187 := (((f106.other W164 (Or.inl (own_neY f101 (hw _ (List.mem_of_getElem? (i := 1) rfl)) f113))).other W172 (Or.inl (own_neY f101 (hw _ (List.mem_of_getElem? (i := 1) rfl)) f113))).other W180 (Or.inl (own_neY f101 (hw _ (List.mem_of_getElem? (i := 1) rfl)) f113)))
    have f188 := (((f107.other W164 (Or.inl (own_neY f101 (hw _ (List.mem_of_getElem? (i := 1) rfl)) f113))).other W172 (Or.inl (own_neY f101 (hw _ (List.mem_of_getElem? (i := 1) rfl)) f113))).other W180 (Or.inl (own_neY f101 (hw _ (List.mem_of_getElem? (i := 1) rfl)) f113)))
    have f189 := (((f109.wr W164).wr W172).wr W180)
    have f190 := (((f110.other W164 (Or.inl (own_neY f109 (hw _ (List.mem_of_getElem? (i := 40) rfl)) f113))).other W172 (Or.inl (own_neY f109 (hw _ (List.mem_of_getElem? (i := 40) rfl)) f113))).other W180 (Or.inl (own_neY f109 (hw _ (List.mem_of_getElem? (i := 40) rfl)) f113)))
    have f191 := (f177.other W180 (Or.inl (own_neY f109 (hw _ (List.mem_of_getElem? (i := 40) rfl)) f113)))
    have f192 := (((f112.other W164 (Or.inl (own_neY f109 (hw _ (List.mem_of_getElem? (i := 40) rfl)) f113))).other W172 (Or.inl (own_neY f109 (hw _ (List.mem_of_getElem? (i := 40) rfl)) f113))).other W180 (Or.inl (own_neY f109 (hw _ (List.mem_of_getElem? (i := 40) rfl)) f113)))
    exact own_rem1e_38 q r w hd tl b1 a1 z1 ((3 : Int32)) X182 hx hZ hw hby hml hown hnm hlk hret Z0 e182 N180 ((((Keep.refl h0 [q, a1]).wr W164 (Or.inl (List.mem_of_getElem? (i := 1) rfl))).wr W172 (Or.inl (List.mem_of_getElem? (i := 1) rfl))).wr W180 (Or.inl (List.mem_of_getElem? (i := 1) rfl))) f183 f181 f184 f185 f186 f187 f188 f108 f189 f190 f191 f192 Al180 f114 f115 (by first | assumption | decide) (by first | assumption | decide) (by first | assumption | decide) (by first | assumption | decide) (by first | assumption | decide) (by first | assumption | decide)
def Q_own_rem1n (Z : State) (q : Addr) (r : Int32) (w : Int32) (hd : Int32) (tl : Int32) (b1 : Addr) (a1 : Addr) (z1 : Int32) (h0 : Heap) (n0 : Nat) (v : Option Value) (h : Heap) (L : List Loc) : Prop := v = none ∧ Fr n0 L ∧ Keep h0 h [q, a1] ∧ own_Q1 Z h (q) (n0) (r) (w) ((hd + (1 : Int32))) (tl) (b1) (a1) (z1)
theorem own_d8_83 : decode prog_85_method_8_code 83 = .ok (.aload_n 0, 1) := by decide +kernel
theorem own_d8_84 : decode prog_85_method_8_code 84 = .ok (.getfield 23, 3) := by decide +kernel
theorem own_d8_87 : decode prog_85_method_8_code 87 = .ok (.aload_n 0, 1) := by decide +kernel
theorem own_d8_88 : decode prog_85_method_8_code 88 = .ok (.getfield 16, 3) := by decide +kernel
theorem own_d8_91 : decode prog_85_method_8_code 91 = .ok (.getfield 33, 3) := by decide +kernel
theorem own_d8_94 : decode prog_85_method_8_code 94 = .ok (.if_icmp .ne 19, 3) := by decide +kernel
set_option maxRecDepth 65536 in
set_option maxHeartbeats 40000000 in
theorem own_rem1n_38 {p : Program} {l : Launch} {e : Env} {s : State} {m : MethodId} {args : Array Value} {below : List Frame} {meth : Method} {c : Code} {T0 : State} {locs : List Loc} {Z : State} {a0 : Array Value} {h0 h1 : Heap} {n0 : Nat} (q : Addr) (r : Int32) (w : Int32) (hd : Int32) (tl : Int32) (b1 : Addr) (a1 : Addr) (z1 : Int32) (ix : Int32)
    (X0 : Stand p l e ({ frames := 2, cells := 0, slots := 0, locals := 26 } : Room) s m args below meth c T0 locs 0 0) (hx : p.tables.exec = Jvm.exec) (hZ : Z.Warmed39 s.vm) (hw : ∀ d ∈ tables_1, d.before a0 Z = true) (hby : c.code = prog_85_method_8_code) (hml : c.maxLocals = 3) (hown : s.vm.findClass "com/example/limentinus/limentinus/simulator/RecordQueue" = some m.cls) (hnm : meth.name = "removeFirst") (hlk : meth.locks = false) (hret : meth.sig.returnType = none) (Z0 : n0 ≤ h0.size) (e0 : T0.heap = h1) (N0 : Fr n0 locs) (K0 : Keep h0 h1 [q, a1]) (x0 : Exa Z h1 q "com/example/limentinus/limentinus/simulator/RecordQueue") (x1 : Fld Z h1 q "com/example/limentinus/limentinus/simulator/RecordQueue" "references" "I" (.int r)) (x2 : Fld Z h1 q "com/example/limentinus/limentinus/simulator/RecordQueue" "numbers" "I" (.int w)) (x3 : Fld Z h1 q "com/example/limentinus/limentinus/simulator/RecordQueue" "first" "Lcom/example/limentinus/limentinus/simulator/RecordQueue$Block;" (.ref b1)) (x4 : Fld Z h1 q "com/example/limentinus/limentinus/simulator/RecordQueue" "last" "Lcom/example/limentinus/limentinus/simulator/RecordQueue$Block;" (.ref b1)) (x5 : Fld Z h1 q "com/example/limentinus/limentinus/simulator/RecordQueue" "head" "I" (.int hd)) (x6 : Fld Z h1 q "com/example/limentinus/limentinus/simulator/RecordQueue" "tail" "I" (.int tl)) (x7 : n0 ≤ q) (x8 : Exa Z h1 b1 "com/example/limentinus/limentinus/simulator/RecordQueue$Block") (x9 : Fld Z h1 b1 "com/example/limentinus/limentinus/simulator/RecordQueue$Block" "records" "I" (.int z1)) (x10 : Fld Z h1 b1 "com/example/limentinus/limentinus/simulator/RecordQueue$Block" "references" "[Ljava/lang/Object;" (.ref a1)) (x11 : Fld Z h1 b1 "com/example/limentinus/limentinus/simulator/RecordQueue$Block" "next" "Lcom/example/limentinus/limentinus/simulator/RecordQueue$Block;" .null) (x12 : own_Arz Z h1 a1 (.object "java/lang/Object") (z1 * r)) (x13 : n0 ≤ b1) (x14 : n0 ≤ a1) (hr : own_03 r) (h0p : 0 ≤ hd.toInt) (h1p : hd.toInt < z1.toInt) (h2p : z1.toInt ≤ 8) (hpe : ¬ hd = tl) (hq : ¬ (hd + (1 : Int32)) = tl) (hq2 : ¬ (hd + (1 : Int32)) = z1) :
    own_Goes p e below s (({ frames := 2, cells := 0, slots := 0, locals := 26 } : Room)).cells (({ frames := 2, cells := 0, slots := 0, locals := 26 } : Room)).slots (Q_own_rem1n Z q r w hd tl b1 a1 z1 h0 n0) T0 (mkF m 38 #[rv q, iv hd, iv ix] []) := by
  refine own_by (g' := (mkF m 40 #[rv q, iv hd, iv ix] [(.ref q), (.ref q)])) (fun t k => XS.aloadN X0.here hx rfl (hb hby own_d8_38) rfl rfl (XS.dup X0.here hx rfl (hb hby own_d8_39) rfl rfl k)) ?_
  obtain ⟨T101, X101, e101, st101⟩ := getF X0 hx hZ hown (host := "") (Or.inl (hw _ (List.mem_of_getElem? (i := 22) rfl))) Via.refl e0 x5 (g := (mkF m 40 #[rv q, iv hd, iv ix] [(.ref q), (.ref q)])) rfl rfl (hb hby own_d8_40)
  refine own_by (g' := (mkF m 43 #[rv q, iv hd, iv ix] [(.int hd), (.ref q)])) st101 ?_
  refine own_by (g' := (mkF m 45 #[rv q, iv hd, iv ix] [(.int (hd + (1 : Int32))), (.ref q)])) (fun t k => XS.iconst X101.here hx rfl (hb hby own_d8_43) (XS.iadd X101.here hx rfl (hb hby own_d8_44) rfl k)) ?_
  obtain ⟨T102, h102, X102, e102, W102, st102⟩ := putF X101 hx hZ hown (host := "") (Or.inl (hw _ (List.mem_of_getElem? (i := 22) rfl))) Via.refl e101 x5 x0 (Or.inl (hw _ (List.mem_of_getElem? (i := 23) rfl))) (hw _ (List.mem_of_getElem? (i := 1) rfl)) (ty := .int) (by decide) rfl rfl (g := (mkF m 45 #[rv q, iv hd, iv ix] [(.int (hd + (1 : Int32))), (.ref q)])) rfl rfl (hb hby own_d8_45)
  have f103 := x5.same W102
  have N102 := Fr.snoc X102 N0 x7
  refine own_by (g' := (mkF m 48 #[rv q, iv hd, iv ix] [])) st102 ?_
  refine own_by (g' := (mkF m 49 #[rv q, iv hd, iv ix] [(.ref q)])) (fun t k => XS.aloadN X102.here hx rfl (hb hby own_d8_48) rfl rfl k) ?_
  have f104 := (x3.other W102 (Or.inr (slot_ne (Or.inl (hw _ (List.mem_of_getElem? (i := 19) rfl))) (Or.inl (hw _ (List.mem_of_getElem? (i := 23) rfl))) (by decide) (t := (.object "com/example/limentinus/limentinus/simulator/RecordQueue$Block")) (t' := .int) (by decide) (by decide))))
  obtain ⟨T105, X105, e105, st105⟩ := getF X102 hx hZ hown (host := "") (Or.inl (hw _ (List.mem_of_getElem? (i := 18) rfl))) Via.refl e102 f104 (g := (mkF m 49 #[rv q, iv hd, iv ix] [(.ref q)])) rfl rfl (hb hby own_d8_49)
  refine own_by (g' := (mkF m 52 #[rv q, iv hd, iv ix] [(.ref b1)])) st105 ?_
  refine own_by (g' := (mkF m 53 #[rv q, iv hd, iv ix] [(.ref q), (.ref b1)])) (fun t k => XS.aloadN X105.here hx rfl (hb hby own_d8_52) rfl rfl k) ?_
  have f106 := (x4.other W102 (Or.inr (slot_ne (Or.inl (hw _ (List.mem_of_getElem? (i := 21) rfl))) (Or.inl (hw _ (List.mem_of_getElem? (i := 23) rfl))) (by decide) (t := (.object "com/example/limentinus/limentinus/simulator/RecordQueue$Block")) (t' := .int) (by decide) (by decide))))
  obtain ⟨T107, X107, e107, st107⟩ := getF X105 hx hZ hown (host := "") (Or.inl (hw _ (List.mem_of_getElem? (i := 20) rfl))) Via.refl e105 f106 (g := (mkF m 53 #[rv q, iv hd, iv ix] [(.ref q), (.ref b1)])) rfl rfl (hb hby own_d8_53)
  refine own_by (g' := (mkF m 56 #[rv q, iv hd, iv ix] [(.ref b1), (.ref b1)])) st107 ?_
  refine own_by (g' := (mkF m 60 #[rv q, iv hd, iv ix] [(.ref q)])) (fun t k => Jvm.RoadKit.acmp (g := (mkF m 56 #[rv q, iv hd, iv ix] [(.ref b1), (.ref b1)])) X107 hx rfl rfl rfl (pc0 := 56) (pc' := 59) (same := true) rfl (hb hby own_d8_56) rfl (decide_eq_true rfl) (by decide) (by decide) (XS.aloadN X107.here hx rfl (hb hby own_d8_59) rfl rfl k)) ?_
  obtain ⟨T108, X108, e108, st108⟩ := getF X107 hx hZ hown (host := "") (Or.inl (hw _ (List.mem_of_getElem? (i := 22) rfl))) Via.refl e107 f103 (g := (mkF m 60 #[rv q, iv hd, iv ix] [(.ref q)])) rfl rfl (hb hby own_d8_60)
  refine own_by (g' := (mkF m 63 #[rv q, iv hd, iv ix] [(.int (hd + (1 : Int32)))])) st108 ?_
  refine own_by (g' := (mkF m 64 #[rv q, iv hd, iv ix] [(.ref q), (.int (hd + (1 : Int32)))])) (fun t k => XS.aloadN X108.here hx rfl (hb hby own_d8_63) rfl rfl k) ?_
  have f109 := (x6.other W102 (Or.inr (slot_ne (Or.inl (hw _ (List.mem_of_getElem? (i := 25) rfl))) (Or.inl (hw _ (List.mem_of_getElem? (i := 23) rfl))) (by decide) (t := .int) (t' := .int) (by decide) (by decide))))
  obtain ⟨T110, X110, e110, st110⟩ := getF X108 hx hZ hown (host := "") (Or.inl (hw _ (List.mem_of_getElem? (i := 24) rfl))) Via.refl e108 f109 (g := (mkF m 64 #[rv q, iv hd, iv ix] [(.ref q), (.int (hd + (1 : Int32)))])) rfl rfl (hb hby own_d8_64)
  refine own_by (g' := (mkF m 67 #[rv q, iv hd, iv ix] [(.int tl), (.int (hd + (1 : Int32)))])) st110 ?_
  refine own_by (g' := (mkF m 84 #[rv q, iv hd, iv ix] [(.ref q)])) (fun t k => XS.icmpYes X110.here hx rfl (pc0 := 67) (pc' := 83) rfl (hb hby own_d8_67) rfl (feq hq).2 (by decide) (by decide) (XS.aloadN X110.here hx rfl (hb hby own_d8_83) rfl rfl k)) ?_
  obtain ⟨T111, X111, e111, st111⟩ := getF X110 hx hZ hown (host := "") (Or.inl (hw _ (List.mem_of_getElem? (i := 22) rfl))) Via.refl e110 f103 (g := (mkF m 84 #[rv q, iv hd, iv ix] [(.ref q)])) rfl rfl (hb hby own_d8_84)
  refine own_by (g' := (mkF m 87 #[rv q, iv hd, iv ix] [(.int (hd + (1 : Int32)))])) st111 ?_
  refine own_by (g' := (mkF m 88 #[rv q, iv hd, iv ix] [(.ref q), (.int (hd + (1 : Int32)))])) (fun t k => XS.aloadN X111.here hx rfl (hb hby own_d8_87) rfl rfl k) ?_
  obtain ⟨T112, X112, e112, st112⟩ := getF X111 hx hZ hown (host := "") (Or.inl (hw _ (List.mem_of_getElem? (i := 18) rfl))) Via.refl e111 f104 (g := (mkF m 88 #[rv q, iv hd, iv ix] [(.ref q), (.int (hd + (1 : Int32)))])) rfl rfl (hb hby own_d8_88)
  refine own_by (g' := (mkF m 91 #[rv q, iv hd, iv ix] [(.ref b1), (.int (hd + (1 : Int32)))])) st112 ?_
  have f113 := (x9.other W102 (Or.inl (ne_exa x8 x0 (by decide))))
  obtain ⟨T114, X114, e114, st114⟩ := own_getR X112 hx hZ hown (hw _ (List.mem_of_getElem? (i := 65) rfl)) e112 f113 (g := (mkF m 91 #[rv q, iv hd, iv ix] [(.ref b1), (.int (hd + (1 : Int32)))])) rfl rfl (hb hby own_d8_91)
  refine own_by (g' := (mkF m 94 #[rv q, iv hd, iv ix] [(.int z1), (.int (hd + (1 : Int32)))])) st114 ?_
  refine own_by (g' := (mkF m 113 #[rv q, iv hd, iv ix] [])) (fun t k => XS.icmpYes X114.here hx rfl (pc0 := 94) (pc' := 113) rfl (hb hby own_d8_94) rfl (feq hq2).2 (by decide) (by decide) k) ?_
  have f115 := (x0.wr W102)
  have f116 := (x1.other W102 (Or.inr (slot_ne (Or.inr (hw _ (List.mem_of_getElem? (i := 10) rfl))) (Or.inl (hw _ (List.mem_of_getElem? (i := 23) rfl))) (by decide) (t := .int) (t' := .int) (by decide) (by decide))))
  have f117 := (x2.other W102 (Or.inr (slot_ne (Or.inr (hw _ (List.mem_of_getElem? (i := 12) rfl))) (Or.inl (hw _ (List.mem_of_getElem? (i := 23) rfl))) (by decide) (t := .int) (t' := .int) (by decide) (by decide))))
  have f118 := (x8.wr W102)
  have f119 := (x10.other W102 (Or.inl (ne_exa x8 x0 (by decide))))
  have f120 := (x11.other W102 (Or.inl (ne_exa x8 x0 (by decide))))
  have f121 := (x12.other W102 (Ne.symm (own_neY x0 (hw _ (List.mem_of_getElem? (i := 1) rfl)) x12)))
  refine own_retV X114 hx hlk hret (hb hby own_d8_113) (by decide) (by decide) ?_
  rw [e114]
  exact ⟨rfl, N102, (((Keep.refl h0 [q, a1]).trans K0 (allS (Or.inl (List.mem_of_getElem? (i := 0) rfl)) (allS (Or.inl (List.mem_of_getElem? (i := 1) rfl)) all0))).wr W102 (Or.inl (List.mem_of_getElem? (i := 0) rfl))), ⟨f115, f116, f117, f104, f106, f103, f109, x7, f118, f113, f119, f120, f121, x13, x14⟩⟩
theorem own_ef_own_rem1n (m : MethodId) (q : Addr) : entryFrame m #[(.ref q)] 3 = mkF m 0 #[rv q, .unset, .unset] [] := by first | (simp [entryFrame, mkF, argsToLocals, Value.category]; done) | rfl
set_option maxRecDepth 65536 in
set_option maxHeartbeats 40000000 in
theorem own_rem1n (l : Launch) (Z : State) (a0 : Array Value) (hw : ∀ d ∈ tables_1, d.before a0 Z = true) (ws : List Jvm.Cond) (q : Addr) (r : Int32) (w : Int32) (hd : Int32) (tl : Int32) (b1 : Addr) (a1 : Addr) (z1 : Int32) (h0 : Heap) (n0 : Nat) (Z0 : n0 ≤ h0.size) (B0 : own_Q1 Z h0 (q) (n0) (r) (w) (hd) (tl) (b1) (a1) (z1)) (hr : own_03 r) (h0p : 0 ≤ hd.toInt) (h1p : hd.toInt < z1.toInt) (h2p : z1.toInt ≤ 8) (hpe : ¬ hd = tl) (hq : ¬ (hd + (1 : Int32)) = tl) (hq2 : ¬ (hd + (1 : Int32)) = z1) :
    own_Ctr l Z (⟨"com/example/limentinus/limentinus/simulator/RecordQueue", "removeFirst", "()V"⟩ : MethodName) prog_85_method_8_code 3 none ws ({ frames := 2, cells := 0, slots := 0, locals := 26 } : Room) (({ frames := 2, cells := 0, slots := 0, locals := 26 } : Room)).cells (({ frames := 2, cells := 0, slots := 0, locals := 26 } : Room)).slots #[(.ref q)] h0 (Q_own_rem1n Z q r w hd tl b1 a1 z1 h0 n0) := by
  refine own_enter (plainFor_of_name own_pn0) ?_
  intro p e s m below meth c s₁ X0 hx hZ hby hml hown hnm hlk hret e0
  have N0 := Fr.nil n0
  refine own_cast (own_ef_own_rem1n m q) ?_
  obtain ⟨f101, f102, f103, f104, f105, f106, f107, f108, f109, f110, f111, f112, f113, f114, f115⟩ := B0
  refine own_by (g' := (mkF m 1 #[rv q, .unset, .unset] [(.ref q)])) (fun t k => XS.aloadN X0.here hx rfl (hb hby own_d8_0) rfl rfl k) ?_
  refine own_callP X0 hx hZ hown (hw _ (List.mem_of_getElem? (i := 60) rfl)) (hw _ (List.mem_of_getElem? (i := 61) rfl)) (own_selp (hw _ (List.mem_of_getElem? (i := 1) rfl)) (hw _ (List.mem_of_getElem? (i := 61) rfl)) (hw _ (List.mem_of_getElem? (i := 62) rfl)) (by decide)) (hw _ (List.mem_of_getElem? (i := 62) rfl)) (hw _ (List.mem_of_getElem? (i := 63) rfl)) (hw _ (List.mem_of_getElem? (i := 2) rfl)) (by decide) (a := q) f101 (own_fr1 l Z a0 hw [] (q) (r) (w) (hd) (tl) (b1) (a1) (z1) h0 n0 Z0 ⟨f101, f102, f103, f104, f105, f106, f107, f108, f109, f110, f111, f112, f113, f114, f115⟩ hpe) 0 (by decide) (by decide) (by decide) (by decide) e0 (g := (mkF m 1 #[rv q, .unset, .unset] [(.ref q)])) rfl (by rw [hml]; rfl) (argsL := []) (rest := []) (lenOf own_pd4 rfl) rfl (by show 2 * 0 + _ ≤ _; exact Nat.le_of_eq rfl) (hb hby own_d8_1) ?_
  intro v116 T116 L116 X116 q116
  obtain ⟨rfl, N116q, e116⟩ := q116
  have N116 := Fr.app N0 N116q
  show own_Goes p e below s _ _ _ T116 (mkF m 4 #[rv q, .unset, .unset] [(.int hd)])
  refine own_by (g' := (mkF m 7 #[rv q, iv hd, iv (0 : Int32)] [])) (fun t k => XS.istoreN X116.here hx rfl (hb hby own_d8_4) rfl (l' := #[rv q, iv hd, .unset]) rfl (XS.iconst X116.here hx rfl (hb hby own_d8_5) (XS.istoreN X116.here hx rfl (hb hby own_d8_6) rfl (l' := #[rv q, iv hd, iv (0 : Int32)]) rfl k))) ?_
  rcases id hr with hr1 | hr1 | hr1 | hr1
  ·
    refine own_by (g' := (mkF m 9 #[rv q, iv hd, iv (0 : Int32)] [(.ref q), (.int (0 : Int32))])) (fun t k => XS.iloadN X116.here hx rfl (hb hby own_d8_7) rfl (XS.aloadN X116.here hx rfl (hb hby own_d8_8) rfl rfl k)) ?_
    obtain ⟨T117, X117, e117, st117⟩ := getF X116 hx hZ hown (host := "") (Or.inl (hw _ (List.mem_of_getElem? (i := 9) rfl))) Via.refl e116 f102 (g := (mkF m 9 #[rv q, iv hd, iv (0 : Int32)] [(.ref q), (.int (0 : Int32))])) rfl rfl (hb hby own_d8_9)
    refine own_by (g' := (mkF m 12 #[rv q, iv hd, iv (0 : Int32)] [(.int r), (.int (0 : Int32))])) st117 ?_
    refine own_by (g' := (mkF m 38 #[rv q, iv hd, iv (0 : Int32)] [])) (fun t k => XS.icmpYes X117.here hx rfl (pc0 := 12) (pc' := 38) rfl (hb hby own_d8_12) rfl (flt (by rw [hr1]; decide)).2.1 (by decide) (by decide) k) ?_
    exact own_rem1n_38 q r w hd tl b1 a1 z1 ((0 : Int32)) X117 hx hZ hw hby hml hown hnm hlk hret Z0 e117 N116 (Keep.refl h0 [q, a1]) f101 f102 f103 f104 f105 f106 f107 f108 f109 f110 f111 f112 f113 f114 f115 (by first | assumption | decide) (by first | assumption | decide) (by first | assumption | decide) (by first | assumption | decide) (by first | assumption | decide) (by first | assumption | decide) (by first | assumption | decide)
  ·
    refine own_by (g' := (mkF m 9 #[rv q, iv hd, iv (0 : Int32)] [(.ref q), (.int (0 : Int32))])) (fun t k => XS.iloadN X116.here hx rfl (hb hby own_d8_7) rfl (XS.aloadN X116.here hx rfl (hb hby own_d8_8) rfl rfl k)) ?_
    obtain ⟨T118, X118, e118, st118⟩ := getF X116 hx hZ hown (host := "") (Or.inl (hw _ (List.mem_of_getElem? (i := 9) rfl))) Via.refl e116 f102 (g := (mkF m 9 #[rv q, iv hd, iv (0 : Int32)] [(.ref q), (.int (0 : Int32))])) rfl rfl (hb hby own_d8_9)
    refine own_by (g' := (mkF m 12 #[rv q, iv hd, iv (0 : Int32)] [(.int r), (.int (0 : Int32))])) st118 ?_
    refine own_by (g' := (mkF m 16 #[rv q, iv hd, iv (0 : Int32)] [(.ref q)])) (fun t k => XS.icmpNo X118.here hx rfl (hb hby own_d8_12) rfl (tlt (by rw [hr1]; decide)).2.1 (XS.aloadN X118.here hx rfl (hb hby own_d8_15) rfl rfl k)) ?_
    obtain ⟨T119, X119, e119, st119⟩ := getF X118 hx hZ hown (host := "") (Or.inl (hw _ (List.mem_of_getElem? (i := 18) rfl))) Via.refl e118 f104 (g := (mkF m 16 #[rv q, iv hd, iv (0 : Int32)] [(.ref q)])) rfl rfl (hb hby own_d8_16)
    refine own_by (g' := (mkF m 19 #[rv q, iv hd, iv (0 : Int32)] [(.ref b1)])) st119 ?_
    obtain ⟨T120, X120, e120, st120⟩ := own_getR X119 hx hZ hown (hw _ (List.mem_of_getElem? (i := 66) rfl)) e119 f111 (g := (mkF m 19 #[rv q, iv hd, iv (0 : Int32)] [(.ref b1)])) rfl rfl (hb hby own_d8_19)
    refine own_by (g' := (mkF m 22 #[rv q, iv hd, iv (0 : Int32)] [(.ref a1)])) st120 ?_
    refine own_by (g' := (mkF m 24 #[rv q, iv hd, iv (0 : Int32)] [(.ref q), (.int hd), (.ref a1)])) (fun t k => XS.iloadN X120.here hx rfl (hb hby own_d8_22) rfl (XS.aloadN X120.here hx rfl (hb hby own_d8_23) rfl rfl k)) ?_
    obtain ⟨T121, X121, e121, st121⟩ := getF X120 hx hZ hown (host := "") (Or.inl (hw _ (List.mem_of_getElem? (i := 9) rfl))) Via.refl e120 f102 (g := (mkF m 24 #[rv q, iv hd, iv (0 : Int32)] [(.ref q), (.int hd), (.ref a1)])) rfl rfl (hb hby own_d8_24)
    refine own_by (g' := (mkF m 27 #[rv q, iv hd, iv (0 : Int32)] [(.int r), (.int hd), (.ref a1)])) st121 ?_
    refine own_by (g' := (mkF m 31 #[rv q, iv hd, iv (0 : Int32)] [.null, (.int ((hd * r) + (0 : Int32))), (.ref a1)])) (fun t k => XS.imul X121.here hx rfl (hb hby own_d8_27) rfl (XS.iloadN X121.here hx rfl (hb hby own_d8_28) rfl (XS.iadd X121.here hx rfl (hb hby own_d8_29) rfl (XS.aconstNull X121.here hx rfl (hb hby own_d8_30) k)))) ?_
    obtain ⟨c122, Ar122, S122, G122⟩ := id f113
    have hin122 : ¬ (((hd * r) + (0 : Int32)) < 0 ∨ c122.slots.size ≤ (((hd * r) + (0 : Int32))).toNatClampNeg) := inb_of S122 (own_inb h0p h1p h2p r (0 : Int32) 1 0 (by rw [hr1]; decide) (by decide) (by decide))
    obtain ⟨T122, h122, X122, e122, W122, st122⟩ := stR X121 hx hZ e121 Ar122 (j := ((hd * r) + (0 : Int32))) hin122 rfl (Or.inl rfl) (g := (mkF m 31 #[rv q, iv hd, iv (0 : Int32)] [.null, (.int ((hd * r) + (0 : Int32))), (.ref a1)])) rfl rfl (hb hby own_d8_31)
    have Al122 := own_Arz.same (⟨c122, Ar122, S122, G122⟩ : own_Arz Z _ a1 (.object "java/lang/Object") (z1 * r)) W122
    have N122 := Fr.snoc X122 N116 f115
    refine own_by (g' := (mkF m 32 #[rv q, iv hd, iv (0 : Int32)] [])) st122 ?_
    refine own_by (g' := (mkF m 9 #[rv q, iv hd, iv (1 : Int32)] [(.ref q), (.int (1 : Int32))])) (fun t k => XS.iinc X122.here hx rfl (hb hby own_d8_32) rfl (l' := #[rv q, iv hd, iv (1 : Int32)]) rfl (XS.goto X122.here hx rfl (pc0 := 35) (pc' := 7) rfl (hb hby own_d8_35) (by decide) (by decide) (XS.iloadN X122.here hx rfl (hb hby own_d8_7) rfl (XS.aloadN X122.here hx rfl (hb hby own_d8_8) rfl rfl k)))) ?_
    have f123 := (f102.other W122 (Or.inl (own_neY f101 (hw _ (List.mem_of_getElem? (i := 1) rfl)) f113)))
    obtain ⟨T124, X124, e124, st124⟩ := getF X122 hx hZ hown (host := "") (Or.inl (hw _ (List.mem_of_getElem? (i := 9) rfl))) Via.refl e122 f123 (g := (mkF m 9 #[rv q, iv hd, iv (1 : Int32)] [(.ref q), (.int (1 : Int32))])) rfl rfl (hb hby own_d8_9)
    refine own_by (g' := (mkF m 12 #[rv q, iv hd, iv (1 : Int32)] [(.int r), (.int (1 : Int32))])) st124 ?_
    refine own_by (g' := (mkF m 38 #[rv q, iv hd, iv (1 : Int32)] [])) (fun t k => XS.icmpYes X124.here hx rfl (pc0 := 12) (pc' := 38) rfl (hb hby own_d8_12) rfl (flt (by rw [hr1]; decide)).2.1 (by decide) (by decide) k) ?_
    have f125 := (f101.wr W122)
    have f126 := (f103.other W122 (Or.inl (own_neY f101 (hw _ (List.mem_of_getElem? (i := 1) rfl)) f113)))
    have f127 := (f104.other W122 (Or.inl (own_neY f101 (hw _ (List.mem_of_getElem? (i := 1) rfl)) f113)))
    have f128 := (f105.other W122 (Or.inl (own_neY f101 (hw _ (List.mem_of_getElem? (i := 1) rfl)) f113)))
    have f129 := (f106.other W122 (Or.inl (own_neY f101 (hw _ (List.mem_of_getElem? (i := 1) rfl)) f113)))
    have f130 := (f107.other W122 (Or.inl (own_neY f101 (hw _ (List.mem_of_getElem? (i := 1) rfl)) f113)))
    have f131 := (f109.wr W122)
    have f132 := (f110.other W122 (Or.inl (own_neY f109 (hw _ (List.mem_of_getElem? (i := 40) rfl)) f113)))
    have f133 := (f111.other W122 (Or.inl (own_neY f109 (hw _ (List.mem_of_getElem? (i := 40) rfl)) f113)))
    have f134 := (f112.other W122 (Or.inl (own_neY f109 (hw _ (List.mem_of_getElem? (i := 40) rfl)) f113)))
    exact own_rem1n_38 q r w hd tl b1 a1 z1 ((1 : Int32)) X124 hx hZ hw hby hml hown hnm hlk hret Z0 e124 N122 ((Keep.refl h0 [q, a1]).wr W122 (Or.inl (List.mem_of_getElem? (i := 1) rfl))) f125 f123 f126 f127 f128 f129 f130 f108 f131 f132 f133 f134 Al122 f114 f115 (by first | assumption | decide) (by first | assumption | decide) (by first | assumption | decide) (by first | assumption | decide) (by first | assumption | decide) (by first | assumption | decide) (by first | assumption | decide)
  ·
    refine own_by (g' := (mkF m 9 #[rv q, iv hd, iv (0 : Int32)] [(.ref q), (.int (0 : Int32))])) (fun t k => XS.iloadN X116.here hx rfl (hb hby own_d8_7) rfl (XS.aloadN X116.here hx rfl (hb hby own_d8_8) rfl rfl k)) ?_
    obtain ⟨T135, X135, e135, st135⟩ := getF X116 hx hZ hown (host := "") (Or.inl (hw _ (List.mem_of_getElem? (i := 9) rfl))) Via.refl e116 f102 (g := (mkF m 9 #[rv q, iv hd, iv (0 : Int32)] [(.ref q), (.int (0 : Int32))])) rfl rfl (hb hby own_d8_9)
    refine own_by (g' := (mkF m 12 #[rv q, iv hd, iv (0 : Int32)] [(.int r), (.int (0 : Int32))])) st135 ?_
    refine own_by (g' := (mkF m 16 #[rv q, iv hd, iv (0 : Int32)] [(.ref q)])) (fun t k => XS.icmpNo X135.here hx rfl (hb hby own_d8_12) rfl (tlt (by rw [hr1]; decide)).2.1 (XS.aloadN X135.here hx rfl (hb hby own_d8_15) rfl rfl k)) ?_
    obtain ⟨T136, X136, e136, st136⟩ := getF X135 hx hZ hown (host := "") (Or.inl (hw _ (List.mem_of_getElem? (i := 18) rfl))) Via.refl e135 f104 (g := (mkF m 16 #[rv q, iv hd, iv (0 : Int32)] [(.ref q)])) rfl rfl (hb hby own_d8_16)
    refine own_by (g' := (mkF m 19 #[rv q, iv hd, iv (0 : Int32)] [(.ref b1)])) st136 ?_
    obtain ⟨T137, X137, e137, st137⟩ := own_getR X136 hx hZ hown (hw _ (List.mem_of_getElem? (i := 66) rfl)) e136 f111 (g := (mkF m 19 #[rv q, iv hd, iv (0 : Int32)] [(.ref b1)])) rfl rfl (hb hby own_d8_19)
    refine own_by (g' := (mkF m 22 #[rv q, iv hd, iv (0 : Int32)] [(.ref a1)])) st137 ?_
    refine own_by (g' := (mkF m 24 #[rv q, iv hd, iv (0 : Int32)] [(.ref q), (.int hd), (.ref a1)])) (fun t k => XS.iloadN X137.here hx rfl (hb hby own_d8_22) rfl (XS.aloadN X137.here hx rfl (hb hby own_d8_23) rfl rfl k)) ?_
    obtain ⟨T138, X138, e138, st138⟩ := getF X137 hx hZ hown (host := "") (Or.inl (hw _ (List.mem_of_getElem? (i := 9) rfl))) Via.refl e137 f102 (g := (mkF m 24 #[rv q, iv hd, iv (0 : Int32)] [(.ref q), (.int hd), (.ref a1)])) rfl rfl (hb hby own_d8_24)
    refine own_by (g' := (mkF m 27 #[rv q, iv hd, iv (0 : Int32)] [(.int r), (.int hd), (.ref a1)])) st138 ?_
    refine own_by (g' := (mkF m 31 #[rv q, iv hd, iv (0 : Int32)] [.null, (.int ((hd * r) + (0 : Int32))), (.ref a1)])) (fun t k => XS.imul X138.here hx rfl (hb hby own_d8_27) rfl (XS.iloadN X138.here hx rfl (hb hby own_d8_28) rfl (XS.iadd X138.here hx rfl (hb hby own_d8_29) rfl (XS.aconstNull X138.here hx rfl (hb hby own_d8_30) k)))) ?_
    obtain ⟨c139, Ar139, S139, G139⟩ := id f113
    have hin139 : ¬ (((hd * r) + (0 : Int32)) < 0 ∨ c139.slots.size ≤ (((hd * r) + (0 : Int32))).toNatClampNeg) := inb_of S139 (own_inb h0p h1p h2p r (0 : Int32) 2 0 (by rw [hr1]; decide) (by decide) (by decide))
    obtain ⟨T139, h139, X139, e139, W139, st139⟩ := stR X138 hx hZ e138 Ar139 (j := ((hd * r) + (0 : Int32))) hin139 rfl (Or.inl rfl) (g := (mkF m 31 #[rv q, iv hd, iv (0 : Int32)] [.null, (.int ((hd * r) + (0 : Int32))), (.ref a1)])) rfl rfl (hb hby own_d8_31)
    have Al139 := own_Arz.same (⟨c139, Ar139, S139, G139⟩ : own_Arz Z _ a1 (.object "java/lang/Object") (z1 * r)) W139
    have N139 := Fr.snoc X139 N116 f115
    refine own_by (g' := (mkF m 32 #[rv q, iv hd, iv (0 : Int32)] [])) st139 ?_
    refine own_by (g' := (mkF m 9 #[rv q, iv hd, iv (1 : Int32)] [(.ref q), (.int (1 : Int32))])) (fun t k => XS.iinc X139.here hx rfl (hb hby own_d8_32) rfl (l' := #[rv q, iv hd, iv (1 : Int32)]) rfl (XS.goto X139.here hx rfl (pc0 := 35) (pc' := 7) rfl (hb hby own_d8_35) (by decide) (by decide) (XS.iloadN X139.here hx rfl (hb hby own_d8_7) rfl (XS.aloadN X139.here hx rfl (hb hby own_d8_8) rfl rfl k)))) ?_
    have f140 := (f102.other W139 (Or.inl (own_neY f101 (hw _ (List.mem_of_getElem? (i := 1) rfl)) f113)))
    obtain ⟨T141, X141, e141, st141⟩ := getF X139 hx hZ hown (host := "") (Or.inl (hw _ (List.mem_of_getElem? (i := 9) rfl))) Via.refl e139 f140 (g := (mkF m 9 #[rv q, iv hd, iv (1 : Int32)] [(.ref q), (.int (1 : Int32))])) rfl rfl (hb hby own_d8_9)
    refine own_by (g' := (mkF m 12 #[rv q, iv hd, iv (1 : Int32)] [(.int r), (.int (1 : Int32))])) st141 ?_
    refine own_by (g' := (mkF m 16 #[rv q, iv hd, iv (1 : Int32)] [(.ref q)])) (fun t k => XS.icmpNo X141.here hx rfl (hb hby own_d8_12) rfl (tlt (by rw [hr1]; decide)).2.1 (XS.aloadN X141.here hx rfl (hb hby own_d8_15) rfl rfl k)) ?_
    have f142 := (f104.other W139 (Or.inl (own_neY f101 (hw _ (List.mem_of_getElem? (i := 1) rfl)) f113)))
    obtain ⟨T143, X143, e143, st143⟩ := getF X141 hx hZ hown (host := "") (Or.inl (hw _ (List.mem_of_getElem? (i := 18) rfl))) Via.refl e141 f142 (g := (mkF m 16 #[rv q, iv hd, iv (1 : Int32)] [(.ref q)])) rfl rfl (hb hby own_d8_16)
    refine own_by (g' := (mkF m 19 #[rv q, iv hd, iv (1 : Int32)] [(.ref b1)])) st143 ?_
    have f144 := (f111.other W139 (Or.inl (own_neY f109 (hw _ (List.mem_of_getElem? (i := 40) rfl)) f113)))
    obtain ⟨T145, X145, e145, st145⟩ := own_getR X143 hx hZ hown (hw _ (List.mem_of_getElem? (i := 66) rfl)) e143 f144 (g := (mkF m 19 #[rv q, iv hd, iv (1 : Int32)] [(.ref b1)])) rfl rfl (hb hby own_d8_19)
    refine own_by (g' := (mkF m 22 #[rv q, iv hd, iv (1 : Int32)] [(.ref a1)])) st145 ?_
    refine own_by (g' := (mkF m 24 #[rv q, iv hd, iv (1 : Int32)] [(.ref q), (.int hd), (.ref a1)])) (fun t k => XS.iloadN X145.here hx rfl (hb hby own_d8_22) rfl (XS.aloadN X145.here hx rfl (hb hby own_d8_23) rfl rfl k)) ?_
    obtain ⟨T146, X146, e146, st146⟩ := getF X145 hx hZ hown (host := "") (Or.inl (hw _ (List.mem_of_getElem? (i := 9) rfl))) Via.refl e145 f140 (g := (mkF m 24 #[rv q, iv hd, iv (1 : Int32)] [(.ref q), (.int hd), (.ref a1)])) rfl rfl (hb hby own_d8_24)
    refine own_by (g' := (mkF m 27 #[rv q, iv hd, iv (1 : Int32)] [(.int r), (.int hd), (.ref a1)])) st146 ?_
    refine own_by (g' := (mkF m 31 #[rv q, iv hd, iv (1 : Int32)] [.null, (.int ((hd * r) + (1 : Int32))), (.ref a1)])) (fun t k => XS.imul X146.here hx rfl (hb hby own_d8_27) rfl (XS.iloadN X146.here hx rfl (hb hby own_d8_28) rfl (XS.iadd X146.here hx rfl (hb hby own_d8_29) rfl (XS.aconstNull X146.here hx rfl (hb hby own_d8_30) k)))) ?_
    obtain ⟨c147, Ar147, S147, G147⟩ := id Al139
    have hin147 : ¬ (((hd * r) + (1 : Int32)) < 0 ∨ c147.slots.size ≤ (((hd * r) + (1 : Int32))).toNatClampNeg) := inb_of S147 (own_inb h0p h1p h2p r (1 : Int32) 2 1 (by rw [hr1]; decide) (by decide) (by decide))
    obtain ⟨T147, h147, X147, e147, W147, st147⟩ := stR X146 hx hZ e146 Ar147 (j := ((hd * r) + (1 : Int32))) hin147 rfl (Or.inl rfl) (g := (mkF m 31 #[rv q, iv hd, iv (1 : Int32)] [.null, (.int ((hd * r) + (1 : Int32))), (.ref a1)])) rfl rfl (hb hby own_d8_31)
    have Al147 := own_Arz.same (⟨c147, Ar147, S147, G147⟩ : own_Arz Z _ a1 (.object "java/lang/Object") (z1 * r)) W147
    have N147 := Fr.snoc X147 N139 f115
    refine own_by (g' := (mkF m 32 #[rv q, iv hd, iv (1 : Int32)] [])) st147 ?_
    refine own_by (g' := (mkF m 9 #[rv q, iv hd, iv (2 : Int32)] [(.ref q), (.int (2 : Int32))])) (fun t k => XS.iinc X147.here hx rfl (hb hby own_d8_32) rfl (l' := #[rv q, iv hd, iv (2 : Int32)]) rfl (XS.goto X147.here hx rfl (pc0 := 35) (pc' := 7) rfl (hb hby own_d8_35) (by decide) (by decide) (XS.iloadN X147.here hx rfl (hb hby own_d8_7) rfl (XS.aloadN X147.here hx rfl (hb hby own_d8_8) rfl rfl k)))) ?_
    have f148 := (f140.other W147 (Or.inl (own_neY f101 (hw _ (List.mem_of_getElem? (i := 1) rfl)) f113)))
    obtain ⟨T149, X149, e149, st149⟩ := getF X147 hx hZ hown (host := "") (Or.inl (hw _ (List.mem_of_getElem? (i := 9) rfl))) Via.refl e147 f148 (g := (mkF m 9 #[rv q, iv hd, iv (2 : Int32)] [(.ref q), (.int (2 : Int32))])) rfl rfl (hb hby own_d8_9)
    refine own_by (g' := (mkF m 12 #[rv q, iv hd, iv (2 : Int32)] [(.int r), (.int (2 : Int32))])) st149 ?_
    refine own_by (g' := (mkF m 38 #[rv q, iv hd, iv (2 : Int32)] [])) (fun t k => XS.icmpYes X149.here hx rfl (pc0 := 12) (pc' := 38) rfl (hb hby own_d8_12) rfl (flt (by rw [hr1]; decide)).2.1 (by decide) (by decide) k) ?_
    have f150 := ((f101.wr W139).wr W147)
    have f151 := ((f103.other W139 (Or.inl (own_neY f101 (hw _ (List.mem_of_getElem? (i := 1) rfl)) f113))).other W147 (Or.inl (own_neY f101 (hw _ (List.mem_of_getElem? (i := 1) rfl)) f113)))
    have f152 := (f142.other W147 (Or.inl (own_neY f101 (hw _ (List.mem_of_getElem? (i := 1) rfl)) f113)))
    have f153 := ((f105.other W139 (Or.inl (own_neY f101 (hw _ (List.mem_of_getElem? (i := 1) rfl)) f113))).other W147 (Or.inl (own_neY f101 (hw _ (List.mem_of_getElem? (i := 1) rfl)) f113)))
    have f154 := ((f106.other W139 (Or.inl (own_neY f101 (hw _ (List.mem_of_getElem? (i := 1) rfl)) f113))).other W147 (Or.inl (own_neY f101 (hw _ (List.mem_of_getElem? (i := 1) rfl)) f113)))
    have f155 := ((f107.other W139 (Or.inl (own_neY f101 (hw _ (List.mem_of_getElem? (i := 1) rfl)) f113))).other W147 (Or.inl (own_neY f101 (hw _ (List.mem_of_getElem? (i := 1) rfl)) f113)))
    have f156 := ((f109.wr W139).wr W147)
    have f157 := ((f110.other W139 (Or.inl (own_neY f109 (hw _ (List.mem_of_getElem? (i := 40) rfl)) f113))).other W147 (Or.inl (own_neY f109 (hw _ (List.mem_of_getElem? (i := 40) rfl)) f113)))
    have f158 := (f144.other W147 (Or.inl (own_neY f109 (hw _ (List.mem_of_getElem? (i := 40) rfl)) f113)))
    have f159 := ((f112.other W139 (Or.inl (own_neY f109 (hw _ (List.mem_of_getElem? (i := 40) rfl)) f113))).other W147 (Or.inl (own_neY f109 (hw _ (List.mem_of_getElem? (i := 40) rfl)) f113)))
    exact own_rem1n_38 q r w hd tl b1 a1 z1 ((2 : Int32)) X149 hx hZ hw hby hml hown hnm hlk hret Z0 e149 N147 (((Keep.refl h0 [q, a1]).wr W139 (Or.inl (List.mem_of_getElem? (i := 1) rfl))).wr W147 (Or.inl (List.mem_of_getElem? (i := 1) rfl))) f150 f148 f151 f152 f153 f154 f155 f108 f156 f157 f158 f159 Al147 f114 f115 (by first | assumption | decide) (by first | assumption | decide) (by first | assumption | decide) (by first | assumption | decide) (by first | assumption | decide) (by first | assumption | decide) (by first | assumption | decide)
  ·
    refine own_by (g' := (mkF m 9 #[rv q, iv hd, iv (0 : Int32)] [(.ref q), (.int (0 : Int32))])) (fun t k => XS.iloadN X116.here hx rfl (hb hby own_d8_7) rfl (XS.aloadN X116.here hx rfl (hb hby own_d8_8) rfl rfl k)) ?_
    obtain ⟨T160, X160, e160, st160⟩ := getF X116 hx hZ hown (host := "") (Or.inl (hw _ (List.mem_of_getElem? (i := 9) rfl))) Via.refl e116 f102 (g := (mkF m 9 #[rv q, iv hd, iv (0 : Int32)] [(.ref q), (.int (0 : Int32))])) rfl rfl (hb hby own_d8_9)
    refine own_by (g' := (mkF m 12 #[rv q, iv hd, iv (0 : Int32)] [(.int r), (.int (0 : Int32))])) st160 ?_
    refine own_by (g' := (mkF m 16 #[rv q, iv hd, iv (0 : Int32)] [(.ref q)])) (fun t k => XS.icmpNo X160.here hx rfl (hb hby own_d8_12) rfl (tlt (by rw [hr1]; decide)).2.1 (XS.aloadN X160.here hx rfl (hb hby own_d8_15) rfl rfl k)) ?_
    obtain ⟨T161, X161, e161, st161⟩ := getF X160 hx hZ hown (host := "") (Or.inl (hw _ (List.mem_of_getElem? (i := 18) rfl))) Via.refl e160 f104 (g := (mkF m 16 #[rv q, iv hd, iv (0 : Int32)] [(.ref q)])) rfl rfl (hb hby own_d8_16)
    refine own_by (g' := (mkF m 19 #[rv q, iv hd, iv (0 : Int32)] [(.ref b1)])) st161 ?_
    obtain ⟨T162, X162, e162, st162⟩ := own_getR X161 hx hZ hown (hw _ (List.mem_of_getElem? (i := 66) rfl)) e161 f111 (g := (mkF m 19 #[rv q, iv hd, iv (0 : Int32)] [(.ref b1)])) rfl rfl (hb hby own_d8_19)
    refine own_by (g' := (mkF m 22 #[rv q, iv hd, iv (0 : Int32)] [(.ref a1)])) st162 ?_
    refine own_by (g' := (mkF m 24 #[rv q, iv hd, iv (0 : Int32)] [(.ref q), (.int hd), (.ref a1)])) (fun t k => XS.iloadN X162.here hx rfl (hb hby own_d8_22) rfl (XS.aloadN X162.here hx rfl (hb hby own_d8_23) rfl rfl k)) ?_
    obtain ⟨T163, X163, e163, st163⟩ := getF X162 hx hZ hown (host := "") (Or.inl (hw _ (List.mem_of_getElem? (i := 9) rfl))) Via.refl e162 f102 (g := (mkF m 24 #[rv q, iv hd, iv (0 : Int32)] [(.ref q), (.int hd), (.ref a1)])) rfl rfl (hb hby own_d8_24)
    refine own_by (g' := (mkF m 27 #[rv q, iv hd, iv (0 : Int32)] [(.int r), (.int hd), (.ref a1)])) st163 ?_
    refine own_by (g' := (mkF m 31 #[rv q, iv hd, iv (0 : Int32)] [.null, (.int ((hd * r) + (0 : Int32))), (.ref a1)])) (fun t k => XS.imul X163.here hx rfl (hb hby own_d8_27) rfl (XS.iloadN X163.here hx rfl (hb hby own_d8_28) rfl (XS.iadd X163.here hx rfl (hb hby own_d8_29) rfl (XS.aconstNull X163.here hx rfl (hb hby own_d8_30) k)))) ?_
    obtain ⟨c164, Ar164, S164, G164⟩ := id f113
    have hin164 : ¬ (((hd * r) + (0 : Int32)) < 0 ∨ c164.slots.size ≤ (((hd * r) + (0 : Int32))).toNatClampNeg) := inb_of S164 (own_inb h0p h1p h2p r (0 : Int32) 3 0 (by rw [hr1]; decide) (by decide) (by decide))
    obtain ⟨T164, h164, X164, e164, W164, st164⟩ := stR X163 hx hZ e163 Ar164 (j := ((hd * r) + (0 : Int32))) hin164 rfl (Or.inl rfl) (g := (mkF m 31 #[rv q, iv hd, iv (0 : Int32)] [.null, (.int ((hd * r) + (0 : Int32))), (.ref a1)])) rfl rfl (hb hby own_d8_31)
    have Al164 := own_Arz.same (⟨c164, Ar164, S164, G164⟩ : own_Arz Z _ a1 (.object "java/lang/Object") (z1 * r)) W164
    have N164 := Fr.snoc X164 N116 f115
    refine own_by (g' := (mkF m 32 #[rv q, iv hd, iv (0 : Int32)] [])) st164 ?_
    refine own_by (g' := (mkF m 9 #[rv q, iv hd, iv (1 : Int32)] [(.ref q), (.int (1 : Int32))])) (fun t k => XS.iinc X164.here hx rfl (hb hby own_d8_32) rfl (l' := #[rv q, iv hd, iv (1 : Int32)]) rfl (XS.goto X164.here hx rfl (pc0 := 35) (pc' := 7) rfl (hb hby own_d8_35) (by decide) (by decide) (XS.iloadN X164.here hx rfl (hb hby own_d8_7) rfl (XS.aloadN X164.here hx rfl (hb hby own_d8_8) rfl rfl k)))) ?_
    have f165 := (f102.other W164 (Or.inl (own_neY f101 (hw _ (List.mem_of_getElem? (i := 1) rfl)) f113)))
    obtain ⟨T166, X166, e166, st166⟩ := getF X164 hx hZ hown (host := "") (Or.inl (hw _ (List.mem_of_getElem? (i := 9) rfl))) Via.refl e164 f165 (g := (mkF m 9 #[rv q, iv hd, iv (1 : Int32)] [(.ref q), (.int (1 : Int32))])) rfl rfl (hb hby own_d8_9)
    refine own_by (g' := (mkF m 12 #[rv q, iv hd, iv (1 : Int32)] [(.int r), (.int (1 : Int32))])) st166 ?_
    refine own_by (g' := (mkF m 16 #[rv q, iv hd, iv (1 : Int32)] [(.ref q)])) (fun t k => XS.icmpNo X166.here hx rfl (hb hby own_d8_12) rfl (tlt (by rw [hr1]; decide)).2.1 (XS.aloadN X166.here hx rfl (hb hby own_d8_15) rfl rfl k)) ?_
    have f167 := (f104.other W164 (Or.inl (own_neY f101 (hw _ (List.mem_of_getElem? (i := 1) rfl)) f113)))
    obtain ⟨T168, X168, e168, st168⟩ := getF X166 hx hZ hown (host := "") (Or.inl (hw _ (List.mem_of_getElem? (i := 18) rfl))) Via.refl e166 f167 (g := (mkF m 16 #[rv q, iv hd, iv (1 : Int32)] [(.ref q)])) rfl rfl (hb hby own_d8_16)
    refine own_by (g' := (mkF m 19 #[rv q, iv hd, iv (1 : Int32)] [(.ref b1)])) st168 ?_
    have f169 := (f111.other W164 (Or.inl (own_neY f109 (hw _ (List.mem_of_getElem? (i := 40) rfl)) f113)))
    obtain ⟨T170, X170, e170, st170⟩ := own_getR X168 hx hZ hown (hw _ (List.mem_of_getElem? (i := 66) rfl)) e168 f169 (g := (mkF m 19 #[rv q, iv hd, iv (1 : Int32)] [(.ref b1)])) rfl rfl (hb hby own_d8_19)
    refine own_by (g' := (mkF m 22 #[rv q, iv hd, iv (1 : Int32)] [(.ref a1)])) st170 ?_
    refine own_by (g' := (mkF m 24 #[rv q, iv hd, iv (1 : Int32)] [(.ref q), (.int hd), (.ref a1)])) (fun t k => XS.iloadN X170.here hx rfl (hb hby own_d8_22) rfl (XS.aloadN X170.here hx rfl (hb hby own_d8_23) rfl rfl k)) ?_
    obtain ⟨T171, X171, e171, st171⟩ := getF X170 hx hZ hown (host := "") (Or.inl (hw _ (List.mem_of_getElem? (i := 9) rfl))) Via.refl e170 f165 (g := (mkF m 24 #[rv q, iv hd, iv (1 : Int32)] [(.ref q), (.int hd), (.ref a1)])) rfl rfl (hb hby own_d8_24)
    refine own_by (g' := (mkF m 27 #[rv q, iv hd, iv (1 : Int32)] [(.int r), (.int hd), (.ref a1)])) st171 ?_
    refine own_by (g' := (mkF m 31 #[rv q, iv hd, iv (1 : Int32)] [.null, (.int ((hd * r) + (1 : Int32))), (.ref a1)])) (fun t k => XS.imul X171.here hx rfl (hb hby own_d8_27) rfl (XS.iloadN X171.here hx rfl (hb hby own_d8_28) rfl (XS.iadd X171.here hx rfl (hb hby own_d8_29) rfl (XS.aconstNull X171.here hx rfl (hb hby own_d8_30) k)))) ?_
    obtain ⟨c172, Ar172, S172, G172⟩ := id Al164
    have hin172 : ¬ (((hd * r) + (1 : Int32)) < 0 ∨ c172.slots.size ≤ (((hd * r) + (1 : Int32))).toNatClampNeg) := inb_of S172 (own_inb h0p h1p h2p r (1 : Int32) 3 1 (by rw [hr1]; decide) (by decide) (by decide))
    obtain ⟨T172, h172, X172, e172, W172, st172⟩ := stR X171 hx hZ e171 Ar172 (j := ((hd * r) + (1 : Int32))) hin172 rfl (Or.inl rfl) (g := (mkF m 31 #[rv q, iv hd, iv (1 : Int32)] [.null, (.int ((hd * r) + (1 : Int32))), (.ref a1)])) rfl rfl (hb hby own_d8_31)
    have Al172 := own_Arz.same (⟨c172, Ar172, S172, G172⟩ : own_Arz Z _ a1 (.object "java/lang/Object") (z1 * r)) W172
    have N172 := Fr.snoc X172 N164 f115
    refine own_by (g' := (mkF m 32 #[rv q, iv hd, iv (1 : Int32)] [])) st172 ?_
    refine own_by (g' := (mkF m 9 #[rv q, iv hd, iv (2 : Int32)] [(.ref q), (.int (2 : Int32))])) (fun t k => XS.iinc X172.here hx rfl (hb hby own_d8_32) rfl (l' := #[rv q, iv hd, iv (2 : Int32)]) rfl (XS.goto X172.here hx rfl (pc0 := 35) (pc' := 7) rfl (hb hby own_d8_35) (by decide) (by decide) (XS.iloadN X172.here hx rfl (hb hby own_d8_7) rfl (XS.aloadN X172.here hx rfl (hb hby own_d8_8) rfl rfl k)))) ?_
    have f173 := (f165.other W172 (Or.inl (own_neY f101 (hw _ (List.mem_of_getElem? (i := 1) rfl)) f113)))
    obtain ⟨T174, X174, e174, st174⟩ := getF X172 hx hZ hown (host := "") (Or.inl (hw _ (List.mem_of_getElem? (i := 9) rfl))) Via.refl e172 f173 (g := (mkF m 9 #[rv q, iv hd, iv (2 : Int32)] [(.ref q), (.int (2 : Int32))])) rfl rfl (hb hby own_d8_9)
    refine own_by (g' := (mkF m 12 #[rv q, iv hd, iv (2 : Int32)] [(.int r), (.int (2 : Int32))])) st174 ?_
    refine own_by (g' := (mkF m 16 #[rv q, iv hd, iv (2 : Int32)] [(.ref q)])) (fun t k => XS.icmpNo X174.here hx rfl (hb hby own_d8_12) rfl (tlt (by rw [hr1]; decide)).2.1 (XS.aloadN X174.here hx rfl (hb hby own_d8_15) rfl rfl k)) ?_
    have f175 := (f167.other W172 (Or.inl (own_neY f101 (hw _ (List.mem_of_getElem? (i := 1) rfl)) f113)))
    obtain ⟨T176, X176, e176, st176⟩ := getF X174 hx hZ hown (host := "") (Or.inl (hw _ (List.mem_of_getElem? (i := 18) rfl))) Via.refl e174 f175 (g := (mkF m 16 #[rv q, iv hd, iv (2 : Int32)] [(.ref q)])) rfl rfl (hb hby own_d8_16)
    refine own_by (g' := (mkF m 19 #[rv q, iv hd, iv (2 : Int32)] [(.ref b1)])) st176 ?_
    have f177 := (f169.other W172 (Or.inl (own_neY f109 (hw _ (List.mem_of_getElem? (i := 40) rfl)) f113)))
    obtain ⟨T178, X178, e178, st178⟩ := own_getR X176 hx hZ hown (hw _ (List.mem_of_getElem? (i := 66) rfl)) e176 f177 (g := (mkF m 19 #[rv q, iv hd, iv (2 : Int32)] [(.ref b1)])) rfl rfl (hb hby own_d8_19)
    refine own_by (g' := (mkF m 22 #[rv q, iv hd, iv (2 : Int32)] [(.ref a1)])) st178 ?_
    refine own_by (g' := (mkF m 24 #[rv q, iv hd, iv (2 : Int32)] [(.ref q), (.int hd), (.ref a1)])) (fun t k => XS.iloadN X178.here hx rfl (hb hby own_d8_22) rfl (XS.aloadN X178.here hx rfl (hb hby own_d8_23) rfl rfl k)) ?_
    obtain ⟨T179, X179, e179, st179⟩ := getF X178 hx hZ hown (host := "") (Or.inl (hw _ (List.mem_of_getElem? (i := 9) rfl))) Via.refl e178 f173 (g := (mkF m 24 #[rv q, iv hd, iv (2 : Int32)] [(.ref q), (.int hd), (.ref a1)])) rfl rfl (hb hby own_d8_24)
    refine own_by (g' := (mkF m 27 #[rv q, iv hd, iv (2 : Int32)] [(.int r), (.int hd), (.ref a1)])) st179 ?_
    refine own_by (g' := (mkF m 31 #[rv q, iv hd, iv (2 : Int32)] [.null, (.int ((hd * r) + (2 : Int32))), (.ref a1)])) (fun t k => XS.imul X179.here hx rfl (hb hby own_d8_27) rfl (XS.iloadN X179.here hx rfl (hb hby own_d8_28) rfl (XS.iadd X179.here hx rfl (hb hby own_d8_29) rfl (XS.aconstNull X179.here hx rfl (hb hby own_d8_30) k)))) ?_
    obtain ⟨c180, Ar180, S180, G180⟩ := id Al172
    have hin180 : ¬ (((hd * r) + (2 : Int32)) < 0 ∨ c180.slots.size ≤ (((hd * r) + (2 : Int32))).toNatClampNeg) := inb_of S180 (own_inb h0p h1p h2p r (2 : Int32) 3 2 (by rw [hr1]; decide) (by decide) (by decide))
    obtain ⟨T180, h180, X180, e180, W180, st180⟩ := stR X179 hx hZ e179 Ar180 (j := ((hd * r) + (2 : Int32))) hin180 rfl (Or.inl rfl) (g := (mkF m 31 #[rv q, iv hd, iv (2 : Int32)] [.null, (.int ((hd * r) + (2 : Int32))), (.ref a1)])) rfl rfl (hb hby own_d8_31)
    have Al180 := own_Arz.same (⟨c180, Ar180, S180, G180⟩ : own_Arz Z _ a1 (.object "java/lang/Object") (z1 * r)) W180
    have N180 := Fr.snoc X180 N172 f115
    refine own_by (g' := (mkF m 32 #[rv q, iv hd, iv (2 : Int32)] [])) st180 ?_
    refine own_by (g' := (mkF m 9 #[rv q, iv hd, iv (3 : Int32)] [(.ref q), (.int (3 : Int32))])) (fun t k => XS.iinc X180.here hx rfl (hb hby own_d8_32) rfl (l' := #[rv q, iv hd, iv (3 : Int32)]) rfl (XS.goto X180.here hx rfl (pc0 := 35) (pc' := 7) rfl (hb hby own_d8_35) (by decide) (by decide) (XS.iloadN X180.here hx rfl (hb hby own_d8_7) rfl (XS.aloadN X180.here hx rfl (hb hby own_d8_8) rfl rfl k)))) ?_
    have f181 := (f173.other W180 (Or.inl (own_neY f101 (hw _ (List.mem_of_getElem? (i := 1) rfl)) f113)))
    obtain ⟨T182, X182, e182, st182⟩ := getF X180 hx hZ hown (host := "") (Or.inl (hw _ (List.mem_of_getElem? (i := 9) rfl))) Via.refl e180 f181 (g := (mkF m 9 #[rv q, iv hd, iv (3 : Int32)] [(.ref q), (.int (3 : Int32))])) rfl rfl (hb hby own_d8_9)
    refine own_by (g' := (mkF m 12 #[rv q, iv hd, iv (3 : Int32)] [(.int r), (.int (3 : Int32))])) st182 ?_
    refine own_by (g' := (mkF m 38 #[rv q, iv hd, iv (3 : Int32)] [])) (fun t k => XS.icmpYes X182.here hx rfl (pc0 := 12) (pc' := 38) rfl (hb hby own_d8_12) rfl (flt (by rw [hr1]; decide)).2.1 (by decide) (by decide) k) ?_
    have f183 := (((f101.wr W164).wr W172).wr W180)
    have f184 := (((f103.other W164 (Or.inl (own_neY f101 (hw _ (List.mem_of_getElem? (i := 1) rfl)) f113))).other W172 (Or.inl (own_neY f101 (hw _ (List.mem_of_getElem? (i := 1) rfl)) f113))).other W180 (Or.inl (own_neY f101 (hw _ (List.mem_of_getElem? (i := 1) rfl)) f113)))
    have f185 := (f175.other W180 (Or.inl (own_neY f101 (hw _ (List.mem_of_getElem? (i := 1) rfl)) f113)))
    have f186 := (((f105.other W164 (Or.inl (own_neY f101 (hw _ (List.mem_of_getElem? (i := 1) rfl)) f113))).other W172 (Or.inl (own_neY f101 (hw _ (List.mem_of_getElem? (i := 1) rfl)) f113))).other W180 (Or.inl (own_neY f101 (hw _ (List.mem_of_getElem? (i := 1) rfl)) f113)))
    have f187 := (((f106.other W164 (Or.inl (own_neY f101 (hw _ (List.mem_of_getElem? (i := 1) rfl)) f113))).other W172 (Or.inl (own_neY f101 (hw _ (List.mem_of_getElem? (i := 1) rfl)) f113))).other W180 (Or.inl (own_neY f101 (hw _ (List.mem_of_getElem? (i := 1) rfl)) f113)))
    have f188 := (((f107.other W164 (Or.inl (own_neY f101 (hw _ (List.mem_of_getElem? (i := 1) rfl)) f113))).other W172 (Or.inl (own_neY f101 (hw _ (List.mem_of_getElem? (i := 1) rfl)) f113))).other W180 (Or.inl (own_neY f101 (hw _ (List.mem_of_getElem? (i := 1) rfl)) f113)))
    have f189 := (((f109.wr W164).wr W172).wr W180)
    have f190 := (((f110.other W164 (Or.inl (own_neY f109 (hw _ (List.mem_of_getElem? (i := 40) rfl)) f113))).other W172 (Or.inl (own_neY f109 (hw _ (List.mem_of_getElem? (i := 40) rfl)) f113))).other W180 (Or.inl (own_neY f109 (hw _ (List.mem_of_getElem? (i := 40) rfl)) f113)))
    have f191 := (f177.other W180 (Or.inl (own_neY f109 (hw _ (List.mem_of_getElem? (i := 40) rfl)) f113)))
    have f192 := (((f112.other W164 (Or.inl (own_neY f109 (hw _ (List.mem_of_getElem? (i := 40) rfl)) f113))).other W172 (Or.inl (own_neY f109 (hw _ (List.mem_of_getElem? (i := 40) rfl)) f113))).other W180 (Or.inl (own_neY f109 (hw _ (List.mem_of_getElem? (i := 40) rfl)) f113)))
    exact own_rem1n_38 q r w hd tl b1 a1 z1 ((3 : Int32)) X182 hx hZ hw hby hml hown hnm hlk hret Z0 e182 N180 ((((Keep.refl h0 [q, a1]).wr W164 (Or.inl (List.mem_of_getElem? (i := 1) rfl))).wr W172 (Or.inl (List.mem_of_getElem? (i := 1) rfl))).wr W180 (Or.inl (List.mem_of_getElem? (i := 1) rfl))) f183 f181 f184 f185 f186 f187 f188 f108 f189 f190 f191 f192 Al180 f114 f115 (by first | assumption | decide) (by first | assumption | decide) (by first | assumption | decide) (by first | assumption | decide) (by first | assumption | decide) (by first | assumption | decide) (by first | assumption | decide)
def Q_own_rem2n (Z : State) (q : Addr) (r : Int32) (w : Int32) (hd : Int32) (tl : Int32) (b1 : Addr) (a1 : Addr) (z1 : Int32) (b2 : Addr) (a2 : Addr) (z2 : Int32) (h0 : Heap) (n0 : Nat) (v : Option Value) (h : Heap) (L : List Loc) : Prop := v = none ∧ Fr n0 L ∧ Keep h0 h [q, a1] ∧ own_Q2 Z h (q) (n0) (r) (w) ((hd + (1 : Int32))) (tl) (b1) (a1) (z1) (b2) (a2) (z2)
set_option maxRecDepth 65536 in
set_option maxHeartbeats 40000000 in
theorem own_rem2n_38 {p : Program} {l : Launch} {e : Env} {s : State} {m : MethodId} {args : Array Value} {below : List Frame} {meth : Method} {c : Code} {T0 : State} {locs : List Loc} {Z : State} {a0 : Array Value} {h0 h1 : Heap} {n0 : Nat} (q : Addr) (r : Int32) (w : Int32) (hd : Int32) (tl : Int32) (b1 : Addr) (a1 : Addr) (z1 : Int32) (b2 : Addr) (a2 : Addr) (z2 : Int32) (ix : Int32)
    (X0 : Stand p l e ({ frames := 2, cells := 0, slots := 0, locals := 26 } : Room) s m args below meth c T0 locs 0 0) (hx : p.tables.exec = Jvm.exec) (hZ : Z.Warmed39 s.vm) (hw : ∀ d ∈ tables_1, d.before a0 Z = true) (hby : c.code = prog_85_method_8_code) (hml : c.maxLocals = 3) (hown : s.vm.findClass "com/example/limentinus/limentinus/simulator/RecordQueue" = some m.cls) (hnm : meth.name = "removeFirst") (hlk : meth.locks = false) (hret : meth.sig.returnType = none) (Z0 : n0 ≤ h0.size) (e0 : T0.heap = h1) (N0 : Fr n0 locs) (K0 : Keep h0 h1 [q, a1]) (x0 : Exa Z h1 q "com/example/limentinus/limentinus/simulator/RecordQueue") (x1 : Fld Z h1 q "com/example/limentinus/limentinus/simulator/RecordQueue" "references" "I" (.int r)) (x2 : Fld Z h1 q "com/example/limentinus/limentinus/simulator/RecordQueue" "numbers" "I" (.int w)) (x3 : Fld Z h1 q "com/example/limentinus/limentinus/simulator/RecordQueue" "first" "Lcom/example/limentinus/limentinus/simulator/RecordQueue$Block;" (.ref b1)) (x4 : Fld Z h1 q "com/example/limentinus/limentinus/simulator/RecordQueue" "last" "Lcom/example/limentinus/limentinus/simulator/RecordQueue$Block;" (.ref b2)) (x5 : Fld Z h1 q "com/example/limentinus/limentinus/simulator/RecordQueue" "head" "I" (.int hd)) (x6 : Fld Z h1 q "com/example/limentinus/limentinus/simulator/RecordQueue" "tail" "I" (.int tl)) (x7 : n0 ≤ q) (x8 : Exa Z h1 b1 "com/example/limentinus/limentinus/simulator/RecordQueue$Block") (x9 : Fld Z h1 b1 "com/example/limentinus/limentinus/simulator/RecordQueue$Block" "records" "I" (.int z1)) (x10 : Fld Z h1 b1 "com/example/limentinus/limentinus/simulator/RecordQueue$Block" "references" "[Ljava/lang/Object;" (.ref a1)) (x11 : Fld Z h1 b1 "com/example/limentinus/limentinus/simulator/RecordQueue$Block" "next" "Lcom/example/limentinus/limentinus/simulator/RecordQueue$Block;" (.ref b2)) (x12 : own_Arz Z h1 a1 (.object "java/lang/Object") (z1 * r)) (x13 : n0 ≤ b1) (x14 : n0 ≤ a1) (x15 : Exa Z h1 b2 "com/example/limentinus/limentinus/simulator/RecordQueue$Block") (x16 : Fld Z h1 b2 "com/example/limentinus/limentinus/simulator/RecordQueue$Block" "records" "I" (.int z2)) (x17 : Fld Z h1 b2 "com/example/limentinus/limentinus/simulator/RecordQueue$Block" "references" "[Ljava/lang/Object;" (.ref a2)) (x18 : Fld Z h1 b2 "com/example/limentinus/limentinus/simulator/RecordQueue$Block" "next" "Lcom/example/limentinus/limentinus/simulator/RecordQueue$Block;" .null) (x19 : own_Arz Z h1 a2 (.object "java/lang/Object") (z2 * r)) (x20 : n0 ≤ b2) (x21 : n0 ≤ a2) (x22 : b1 ≠ b2) (x23 : a1 ≠ a2) (hr : own_03 r) (h0p : 0 ≤ hd.toInt) (h1p : hd.toInt < z1.toInt) (h2p : z1.toInt ≤ 8) (hq2 : ¬ (hd + (1 : Int32)) = z1) :
    own_Goes p e below s (({ frames := 2, cells := 0, slots := 0, locals := 26 } : Room)).cells (({ frames := 2, cells := 0, slots := 0, locals := 26 } : Room)).slots (Q_own_rem2n Z q r w hd tl b1 a1 z1 b2 a2 z2 h0 n0) T0 (mkF m 38 #[rv q, iv hd, iv ix] []) := by
  refine own_by (g' := (mkF m 40 #[rv q, iv hd, iv ix] [(.ref q), (.ref q)])) (fun t k => XS.aloadN X0.here hx rfl (hb hby own_d8_38) rfl rfl (XS.dup X0.here hx rfl (hb hby own_d8_39) rfl rfl k)) ?_
  obtain ⟨T101, X101, e101, st101⟩ := getF X0 hx hZ hown (host := "") (Or.inl (hw _ (List.mem_of_getElem? (i := 22) rfl))) Via.refl e0 x5 (g := (mkF m 40 #[rv q, iv hd, iv ix] [(.ref q), (.ref q)])) rfl rfl (hb hby own_d8_40)
  refine own_by (g' := (mkF m 43 #[rv q, iv hd, iv ix] [(.int hd), (.ref q)])) st101 ?_
  refine own_by (g' := (mkF m 45 #[rv q, iv hd, iv ix] [(.int (hd + (1 : Int32))), (.ref q)])) (fun t k => XS.iconst X101.here hx rfl (hb hby own_d8_43) (XS.iadd X101.here hx rfl (hb hby own_d8_44) rfl k)) ?_
  obtain ⟨T102, h102, X102, e102, W102, st102⟩ := putF X101 hx hZ hown (host := "") (Or.inl (hw _ (List.mem_of_getElem? (i := 22) rfl))) Via.refl e101 x5 x0 (Or.inl (hw _ (List.mem_of_getElem? (i := 23) rfl))) (hw _ (List.mem_of_getElem? (i := 1) rfl)) (ty := .int) (by decide) rfl rfl (g := (mkF m 45 #[rv q, iv hd, iv ix] [(.int (hd + (1 : Int32))), (.ref q)])) rfl rfl (hb hby own_d8_45)
  have f103 := x5.same W102
  have N102 := Fr.snoc X102 N0 x7
  refine own_by (g' := (mkF m 48 #[rv q, iv hd, iv ix] [])) st102 ?_
  refine own_by (g' := (mkF m 49 #[rv q, iv hd, iv ix] [(.ref q)])) (fun t k => XS.aloadN X102.here hx rfl (hb hby own_d8_48) rfl rfl k) ?_
  have f104 := (x3.other W102 (Or.inr (slot_ne (Or.inl (hw _ (List.mem_of_getElem? (i := 19) rfl))) (Or.inl (hw _ (List.mem_of_getElem? (i := 23) rfl))) (by decide) (t := (.object "com/example/limentinus/limentinus/simulator/RecordQueue$Block")) (t' := .int) (by decide) (by decide))))
  obtain ⟨T105, X105, e105, st105⟩ := getF X102 hx hZ hown (host := "") (Or.inl (hw _ (List.mem_of_getElem? (i := 18) rfl))) Via.refl e102 f104 (g := (mkF m 49 #[rv q, iv hd, iv ix] [(.ref q)])) rfl rfl (hb hby own_d8_49)
  refine own_by (g' := (mkF m 52 #[rv q, iv hd, iv ix] [(.ref b1)])) st105 ?_
  refine own_by (g' := (mkF m 53 #[rv q, iv hd, iv ix] [(.ref q), (.ref b1)])) (fun t k => XS.aloadN X105.here hx rfl (hb hby own_d8_52) rfl rfl k) ?_
  have f106 := (x4.other W102 (Or.inr (slot_ne (Or.inl (hw _ (List.mem_of_getElem? (i := 21) rfl))) (Or.inl (hw _ (List.mem_of_getElem? (i := 23) rfl))) (by decide) (t := (.object "com/example/limentinus/limentinus/simulator/RecordQueue$Block")) (t' := .int) (by decide) (by decide))))
  obtain ⟨T107, X107, e107, st107⟩ := getF X105 hx hZ hown (host := "") (Or.inl (hw _ (List.mem_of_getElem? (i := 20) rfl))) Via.refl e105 f106 (g := (mkF m 53 #[rv q, iv hd, iv ix] [(.ref q), (.ref b1)])) rfl rfl (hb hby own_d8_53)
  refine own_by (g' := (mkF m 56 #[rv q, iv hd, iv ix] [(.ref b2), (.ref b1)])) st107 ?_
  refine own_by (g' := (mkF m 84 #[rv q, iv hd, iv ix] [(.ref q)])) (fun t k => Jvm.RoadKit.acmp (g := (mkF m 56 #[rv q, iv hd, iv ix] [(.ref b2), (.ref b1)])) X107 hx rfl rfl rfl (pc0 := 56) (pc' := 83) (same := false) rfl (hb hby own_d8_56) rfl (decide_eq_false fun q => x22 (Value.ref.inj q)) (by decide) (by decide) (XS.aloadN X107.here hx rfl (hb hby own_d8_83) rfl rfl k)) ?_
  obtain ⟨T108, X108, e108, st108⟩ := getF X107 hx hZ hown (host := "") (Or.inl (hw _ (List.mem_of_getElem? (i := 22) rfl))) Via.refl e107 f103 (g := (mkF m 84 #[rv q, iv hd, iv ix] [(.ref q)])) rfl rfl (hb hby own_d8_84)
  refine own_by (g' := (mkF m 87 #[rv q, iv hd, iv ix] [(.int (hd + (1 : Int32)))])) st108 ?_
  refine own_by (g' := (mkF m 88 #[rv q, iv hd, iv ix] [(.ref q), (.int (hd + (1 : Int32)))])) (fun t k => XS.aloadN X108.here hx rfl (hb hby own_d8_87) rfl rfl k) ?_
  obtain ⟨T109, X109, e109, st109⟩ := getF X108 hx hZ hown (host := "") (Or.inl (hw _ (List.mem_of_getElem? (i := 18) rfl))) Via.refl e108 f104 (g := (mkF m 88 #[rv q, iv hd, iv ix] [(.ref q), (.int (hd + (1 : Int32)))])) rfl rfl (hb hby own_d8_88)
  refine own_by (g' := (mkF m 91 #[rv q, iv hd, iv ix] [(.ref b1), (.int (hd + (1 : Int32)))])) st109 ?_
  have f110 := (x9.other W102 (Or.inl (ne_exa x8 x0 (by decide))))
  obtain ⟨T111, X111, e111, st111⟩ := own_getR X109 hx hZ hown (hw _ (List.mem_of_getElem? (i := 65) rfl)) e109 f110 (g := (mkF m 91 #[rv q, iv hd, iv ix] [(.ref b1), (.int (hd + (1 : Int32)))])) rfl rfl (hb hby own_d8_91)
  refine own_by (g' := (mkF m 94 #[rv q, iv hd, iv ix] [(.int z1), (.int (hd + (1 : Int32)))])) st111 ?_
  refine own_by (g' := (mkF m 113 #[rv q, iv hd, iv ix] [])) (fun t k => XS.icmpYes X111.here hx rfl (pc0 := 94) (pc' := 113) rfl (hb hby own_d8_94) rfl (feq hq2).2 (by decide) (by decide) k) ?_
  have f112 := (x0.wr W102)
  have f113 := (x1.other W102 (Or.inr (slot_ne (Or.inr (hw _ (List.mem_of_getElem? (i := 10) rfl))) (Or.inl (hw _ (List.mem_of_getElem? (i := 23) rfl))) (by decide) (t := .int) (t' := .int) (by decide) (by decide))))
  have f114 := (x2.other W102 (Or.inr (slot_ne (Or.inr (hw _ (List.mem_of_getElem? (i := 12) rfl))) (Or.inl (hw _ (List.mem_of_getElem? (i := 23) rfl))) (by decide) (t := .int) (t' := .int) (by decide) (by decide))))
  have f115 := (x6.other W102 (Or.inr (slot_ne (Or.inl (hw _ (List.mem_of_getElem? (i := 25) rfl))) (Or.inl (hw _ (List.mem_of_getElem? (i := 23) rfl))) (by decide) (t := .int) (t' := .int) (by decide) (by decide))))
  have f116 := (x8.wr W102)
  have f117 := (x10.other W102 (Or.inl (ne_exa x8 x0 (by decide))))
  have f118 := (x11.other W102 (Or.inl (ne_exa x8 x0 (by decide))))
  have f119 := (x12.other W102 (Ne.symm (own_neY x0 (hw _ (List.mem_of_getElem? (i := 1) rfl)) x12)))
  have f120 := (x15.wr W102)
  have f121 := (x16.other W102 (Or.inl (ne_exa x15 x0 (by decide))))
  have f122 := (x17.other W102 (Or.inl (ne_exa x15 x0 (by decide))))
  have f123 := (x18.other W102 (Or.inl (ne_exa x15 x0 (by decide))))
  have f124 := (x19.other W102 (Ne.symm (own_neY x0 (hw _ (List.mem_of_getElem? (i := 1) rfl)) x19)))
  refine own_retV X111 hx hlk hret (hb hby own_d8_113) (by decide) (by decide) ?_
  rw [e111]
  exact ⟨rfl, N102, (((Keep.refl h0 [q, a1]).trans K0 (allS (Or.inl (List.mem_of_getElem? (i := 0) rfl)) (allS (Or.inl (List.mem_of_getElem? (i := 1) rfl)) all0))).wr W102 (Or.inl (List.mem_of_getElem? (i := 0) rfl))), ⟨f112, f113, f114, f104, f106, f103, f115, x7, f116, f110, f117, f118, f119, x13, x14, f120, f121, f122, f123, f124, x20, x21, x22, x23⟩⟩
theorem own_ef_own_rem2n (m : MethodId) (q : Addr) : entryFrame m #[(.ref q)] 3 = mkF m 0 #[rv q, .unset, .unset] [] := by first | (simp [entryFrame, mkF, argsToLocals, Value.category]; done) | rfl
set_option maxRecDepth 65536 in
set_option maxHeartbeats 40000000 in
theorem own_rem2n (l : Launch) (Z : State) (a0 : Array Value) (hw : ∀ d ∈ tables_1, d.before a0 Z = true) (ws : List Jvm.Cond) (q : Addr) (r : Int32) (w : Int32) (hd : Int32) (tl : Int32) (b1 : Addr) (a1 : Addr) (z1 : Int32) (b2 : Addr) (a2 : Addr) (z2 : Int32) (h0 : Heap) (n0 : Nat) (Z0 : n0 ≤ h0.size) (B0 : own_Q2 Z h0 (q) (n0) (r) (w) (hd) (tl) (b1) (a1) (z1) (b2) (a2) (z2)) (hr : own_03 r) (h0p : 0 ≤ hd.toInt) (h1p : hd.toInt < z1.toInt) (h2p : z1.toInt ≤ 8) (hq2 : ¬ (hd + (1 : Int32)) = z1) :
    own_Ctr l Z (⟨"com/example/limentinus/limentinus/simulator/RecordQueue", "removeFirst", "()V"⟩ : MethodName) prog_85_method_8_code 3 none ws ({ frames := 2, cells := 0, slots := 0, locals := 26 } : Room) (({ frames := 2, cells := 0, slots := 0, locals := 26 } : Room)).cells (({ frames := 2, cells := 0, slots := 0, locals := 26 } : Room)).slots #[(.ref q)] h0 (Q_own_rem2n Z q r w hd tl b1 a1 z1 b2 a2 z2 h0 n0) := by
  refine own_enter (plainFor_of_name own_pn0) ?_
  intro p e s m below meth c s₁ X0 hx hZ hby hml hown hnm hlk hret e0
  have N0 := Fr.nil n0
  refine own_cast (own_ef_own_rem2n m q) ?_
  obtain ⟨f101, f102, f103, f104, f105, f106, f107, f108, f109, f110, f111, f112, f113, f114, f115, f116, f117, f118, f119, f120, f121, f122, f123, f124⟩ := B0
  refine own_by (g' := (mkF m 1 #[rv q, .unset, .unset] [(.ref q)])) (fun t k => XS.aloadN X0.here hx rfl (hb hby own_d8_0) rfl rfl k) ?_
  refine own_callP X0 hx hZ hown (hw _ (List.mem_of_getElem? (i := 60) rfl)) (hw _ (List.mem_of_getElem? (i := 61) rfl)) (own_selp (hw _ (List.mem_of_getElem? (i := 1) rfl)) (hw _ (List.mem_of_getElem? (i := 61) rfl)) (hw _ (List.mem_of_getElem? (i := 62) rfl)) (by decide)) (hw _ (List.mem_of_getElem? (i := 62) rfl)) (hw _ (List.mem_of_getElem? (i := 63) rfl)) (hw _ (List.mem_of_getElem? (i := 2) rfl)) (by decide) (a := q) f101 (own_fr2 l Z a0 hw [] (q) (r) (w) (hd) (tl) (b1) (a1) (z1) (b2) (a2) (z2) h0 n0 Z0 ⟨f101, f102, f103, f104, f105, f106, f107, f108, f109, f110, f111, f112, f113, f114, f115, f116, f117, f118, f119, f120, f121, f122, f123, f124⟩) 0 (by decide) (by decide) (by decide) (by decide) e0 (g := (mkF m 1 #[rv q, .unset, .unset] [(.ref q)])) rfl (by rw [hml]; rfl) (argsL := []) (rest := []) (lenOf own_pd4 rfl) rfl (by show 2 * 0 + _ ≤ _; exact Nat.le_of_eq rfl) (hb hby own_d8_1) ?_
  intro v125 T125 L125 X125 q125
  obtain ⟨rfl, N125q, e125⟩ := q125
  have N125 := Fr.app N0 N125q
  show own_Goes p e below s _ _ _ T125 (mkF m 4 #[rv q, .unset, .unset] [(.int hd)])
  refine own_by (g' := (mkF m 7 #[rv q, iv hd, iv (0 : Int32)] [])) (fun t k => XS.istoreN X125.here hx rfl (hb hby own_d8_4) rfl (l' := #[rv q, iv hd, .unset]) rfl (XS.iconst X125.here hx rfl (hb hby own_d8_5) (XS.istoreN X125.here hx rfl (hb hby own_d8_6) rfl (l' := #[rv q, iv hd, iv (0 : Int32)]) rfl k))) ?_
  rcases id hr with hr1 | hr1 | hr1 | hr1
  ·
    refine own_by (g' := (mkF m 9 #[rv q, iv hd, iv (0 : Int32)] [(.ref q), (.int (0 : Int32))])) (fun t k => XS.iloadN X125.here hx rfl (hb hby own_d8_7) rfl (XS.aloadN X125.here hx rfl (hb hby own_d8_8) rfl rfl k)) ?_
    obtain ⟨T126, X126, e126, st126⟩ := getF X125 hx hZ hown (host := "") (Or.inl (hw _ (List.mem_of_getElem? (i := 9) rfl))) Via.refl e125 f102 (g := (mkF m 9 #[rv q, iv hd, iv (0 : Int32)] [(.ref q), (.int (0 : Int32))])) rfl rfl (hb hby own_d8_9)
    refine own_by (g' := (mkF m 12 #[rv q, iv hd, iv (0 : Int32)] [(.int r), (.int (0 : Int32))])) st126 ?_
    refine own_by (g' := (mkF m 38 #[rv q, iv hd, iv (0 : Int32)] [])) (fun t k => XS.icmpYes X126.here hx rfl (pc0 := 12) (pc' := 38) rfl (hb hby own_d8_12) rfl (flt (by rw [hr1]; decide)).2.1 (by decide) (by decide) k) ?_
    exact own_rem2n_38 q r w hd tl b1 a1 z1 b2 a2 z2 ((0 : Int32)) X126 hx hZ hw hby hml hown hnm hlk hret Z0 e126 N125 (Keep.refl h0 [q, a1]) f101 f102 f103 f104 f105 f106 f107 f108 f109 f110 f111 f112 f113 f114 f115 f116 f117 f118 f119 f120 f121 f122 f123 f124 (by first | assumption | decide) (by first | assumption | decide) (by first | assumption | decide) (by first | assumption | decide) (by first | assumption | decide)
  ·
    refine own_by (g' := (mkF m 9 #[rv q, iv hd, iv (0 : Int32)] [(.ref q), (.int (0 : Int32))])) (fun t k => XS.iloadN X125.here hx rfl (hb hby own_d8_7) rfl (XS.aloadN X125.here hx rfl (hb hby own_d8_8) rfl rfl k)) ?_
    obtain ⟨T127, X127, e127, st127⟩ := getF X125 hx hZ hown (host := "") (Or.inl (hw _ (List.mem_of_getElem? (i := 9) rfl))) Via.refl e125 f102 (g := (mkF m 9 #[rv q, iv hd, iv (0 : Int32)] [(.ref q), (.int (0 : Int32))])) rfl rfl (hb hby own_d8_9)
    refine own_by (g' := (mkF m 12 #[rv q, iv hd, iv (0 : Int32)] [(.int r), (.int (0 : Int32))])) st127 ?_
    refine own_by (g' := (mkF m 16 #[rv q, iv hd, iv (0 : Int32)] [(.ref q)])) (fun t k => XS.icmpNo X127.here hx rfl (hb hby own_d8_12) rfl (tlt (by rw [hr1]; decide)).2.1 (XS.aloadN X127.here hx rfl (hb hby own_d8_15) rfl rfl k)) ?_
    obtain ⟨T128, X128, e128, st128⟩ := getF X127 hx hZ hown (host := "") (Or.inl (hw _ (List.mem_of_getElem? (i := 18) rfl))) Via.refl e127 f104 (g := (mkF m 16 #[rv q, iv hd, iv (0 : Int32)] [(.ref q)])) rfl rfl (hb hby own_d8_16)
    refine own_by (g' := (mkF m 19 #[rv q, iv hd, iv (0 : Int32)] [(.ref b1)])) st128 ?_
    obtain ⟨T129, X129, e129, st129⟩ := own_getR X128 hx hZ hown (hw _ (List.mem_of_getElem? (i := 66) rfl)) e128 f111 (g := (mkF m 19 #[rv q, iv hd, iv (0 : Int32)] [(.ref b1)])) rfl rfl (hb hby own_d8_19)
    refine own_by (g' := (mkF m 22 #[rv q, iv hd, iv (0 : Int32)] [(.ref a1)])) st129 ?_
    refine own_by (g' := (mkF m 24 #[rv q, iv hd, iv (0 : Int32)] [(.ref q), (.int hd), (.ref a1)])) (fun t k => XS.iloadN X129.here hx rfl (hb hby own_d8_22) rfl (XS.aloadN X129.here hx rfl (hb hby own_d8_23) rfl rfl k)) ?_
    obtain ⟨T130, X130, e130, st130⟩ := getF X129 hx hZ hown (host := "") (Or.inl (hw _ (List.mem_of_getElem? (i := 9) rfl))) Via.refl e129 f102 (g := (mkF m 24 #[rv q, iv hd, iv (0 : Int32)] [(.ref q), (.int hd), (.ref a1)])) rfl rfl (hb hby own_d8_24)
    refine own_by (g' := (mkF m 27 #[rv q, iv hd, iv (0 : Int32)] [(.int r), (.int hd), (.ref a1)])) st130 ?_
    refine own_by (g' := (mkF m 31 #[rv q, iv hd, iv (0 : Int32)] [.null, (.int ((hd * r) + (0 : Int32))), (.ref a1)])) (fun t k => XS.imul X130.here hx rfl (hb hby own_d8_27) rfl (XS.iloadN X130.here hx rfl (hb hby own_d8_28) rfl (XS.iadd X130.here hx rfl (hb hby own_d8_29) rfl (XS.aconstNull X130.here hx rfl (hb hby own_d8_30) k)))) ?_
    obtain ⟨c131, Ar131, S131, G131⟩ := id f113
    have hin131 : ¬ (((hd * r) + (0 : Int32)) < 0 ∨ c131.slots.size ≤ (((hd * r) + (0 : Int32))).toNatClampNeg) := inb_of S131 (own_inb h0p h1p h2p r (0 : Int32) 1 0 (by rw [hr1]; decide) (by decide) (by decide))
    obtain ⟨T131, h131, X131, e131, W131, st131⟩ := stR X130 hx hZ e130 Ar131 (j := ((hd * r) + (0 : Int32))) hin131 rfl (Or.inl rfl) (g := (mkF m 31 #[rv q, iv hd, iv (0 : Int32)] [.null, (.int ((hd * r) + (0 : Int32))), (.ref a1)])) rfl rfl (hb hby own_d8_31)
    have Al131 := own_Arz.same (⟨c131, Ar131, S131, G131⟩ : own_Arz Z _ a1 (.object "java/lang/Object") (z1 * r)) W131
    have N131 := Fr.snoc X131 N125 f115
    refine own_by (g' := (mkF m 32 #[rv q, iv hd, iv (0 : Int32)] [])) st131 ?_
    refine own_by (g' := (mkF m 9 #[rv q, iv hd, iv (1 : Int32)] [(.ref q), (.int (1 : Int32))])) (fun t k => XS.iinc X131.here hx rfl (hb hby own_d8_32) rfl (l' := #[rv q, iv hd, iv (1 : Int32)]) rfl (XS.goto X131.here hx rfl (pc0 := 35) (pc' := 7) rfl (hb hby own_d8_35) (by decide) (by decide) (XS.iloadN X131.here hx rfl (hb hby own_d8_7) rfl (XS.aloadN X131.here hx rfl (hb hby own_d8_8) rfl rfl k)))) ?_
    have f132 := (f102.other W131 (Or.inl (own_neY f101 (hw _ (List.mem_of_getElem? (i := 1) rfl)) f113)))
    obtain ⟨T133, X133, e133, st133⟩ := getF X131 hx hZ hown (host := "") (Or.inl (hw _ (List.mem_of_getElem? (i := 9) rfl))) Via.refl e131 f132 (g := (mkF m 9 #[rv q, iv hd, iv (1 : Int32)] [(.ref q), (.int (1 : Int32))])) rfl rfl (hb hby own_d8_9)
    refine own_by (g' := (mkF m 12 #[rv q, iv hd, iv (1 : Int32)] [(.int r), (.int (1 : Int32))])) st133 ?_
    refine own_by (g' := (mkF m 38 #[rv q, iv hd, iv (1 : Int32)] [])) (fun t k => XS.icmpYes X133.here hx rfl (pc0 := 12) (pc' := 38) rfl (hb hby own_d8_12) rfl (flt (by rw [hr1]; decide)).2.1 (by decide) (by decide) k) ?_
    have f134 := (f101.wr W131)
    have f135 := (f103.other W131 (Or.inl (own_neY f101 (hw _ (List.mem_of_getElem? (i := 1) rfl)) f113)))
    have f136 := (f104.other W131 (Or.inl (own_neY f101 (hw _ (List.mem_of_getElem? (i := 1) rfl)) f113)))
    have f137 := (f105.other W131 (Or.inl (own_neY f101 (hw _ (List.mem_of_getElem? (i := 1) rfl)) f113)))
    have f138 := (f106.other W131 (Or.inl (own_neY f101 (hw _ (List.mem_of_getElem? (i := 1) rfl)) f113)))
    have f139 := (f107.other W131 (Or.inl (own_neY f101 (hw _ (List.mem_of_getElem? (i := 1) rfl)) f113)))
    have f140 := (f109.wr W131)
    have f141 := (f110.other W131 (Or.inl (own_neY f109 (hw _ (List.mem_of_getElem? (i := 40) rfl)) f113)))
    have f142 := (f111.other W131 (Or.inl (own_neY f109 (hw _ (List.mem_of_getElem? (i := 40) rfl)) f113)))
    have f143 := (f112.other W131 (Or.inl (own_neY f109 (hw _ (List.mem_of_getElem? (i := 40) rfl)) f113)))
    have f144 := (f116.wr W131)
    have f145 := (f117.other W131 (Or.inl (own_neY f116 (hw _ (List.mem_of_getElem? (i := 40) rfl)) f113)))
    have f146 := (f118.other W131 (Or.inl (own_neY f116 (hw _ (List.mem_of_getElem? (i := 40) rfl)) f113)))
    have f147 := (f119.other W131 (Or.inl (own_neY f116 (hw _ (List.mem_of_getElem? (i := 40) rfl)) f113)))
    have f148 := (f120.other W131 (Ne.symm f124))
    exact own_rem2n_38 q r w hd tl b1 a1 z1 b2 a2 z2 ((1 : Int32)) X133 hx hZ hw hby hml hown hnm hlk hret Z0 e133 N131 ((Keep.refl h0 [q, a1]).wr W131 (Or.inl (List.mem_of_getElem? (i := 1) rfl))) f134 f132 f135 f136 f137 f138 f139 f108 f140 f141 f142 f143 Al131 f114 f115 f144 f145 f146 f147 f148 f121 f122 f123 f124 (by first | assumption | decide) (by first | assumption | decide) (by first | assumption | decide) (by first | assumption | decide) (by first | assumption | decide)
  ·
    refine own_by (g' := (mkF m 9 #[rv q, iv hd, iv (0 : Int32)] [(.ref q), (.int (0 : Int32))])) (fun t k => XS.iloadN X125.here hx rfl (hb hby own_d8_7) rfl (XS.aloadN X125.here hx rfl (hb hby own_d8_8) rfl rfl k)) ?_
    obtain ⟨T149, X149, e149, st149⟩ := getF X125 hx hZ hown (host := "") (Or.inl (hw _ (List.mem_of_getElem? (i := 9) rfl))) Via.refl e125 f102 (g := (mkF m 9 #[rv q, iv hd, iv (0 : Int32)] [(.ref q), (.int (0 : Int32))])) rfl rfl (hb hby own_d8_9)
    refine own_by (g' := (mkF m 12 #[rv q, iv hd, iv (0 : Int32)] [(.int r), (.int (0 : Int32))])) st149 ?_
    refine own_by (g' := (mkF m 16 #[rv q, iv hd, iv (0 : Int32)] [(.ref q)])) (fun t k => XS.icmpNo X149.here hx rfl (hb hby own_d8_12) rfl (tlt (by rw [hr1]; decide)).2.1 (XS.aloadN X149.here hx rfl (hb hby own_d8_15) rfl rfl k)) ?_
    obtain ⟨T150, X150, e150, st150⟩ := getF X149 hx hZ hown (host := "") (Or.inl (hw _ (List.mem_of_getElem? (i := 18) rfl))) Via.refl e149 f104 (g := (mkF m 16 #[rv q, iv hd, iv (0 : Int32)] [(.ref q)])) rfl rfl (hb hby own_d8_16)
    refine own_by (g' := (mkF m 19 #[rv q, iv hd, iv (0 : Int32)] [(.ref b1)])) st150 ?_
    obtain ⟨T151, X151, e151, st151⟩ := own_getR X150 hx hZ hown (hw _ (List.mem_of_getElem? (i := 66) rfl)) e150 f111 (g := (mkF m 19 #[rv q, iv hd, iv (0 : Int32)] [(.ref b1)])) rfl rfl (hb hby own_d8_19)
    refine own_by (g' := (mkF m 22 #[rv q, iv hd, iv (0 : Int32)] [(.ref a1)])) st151 ?_
    refine own_by (g' := (mkF m 24 #[rv q, iv hd, iv (0 : Int32)] [(.ref q), (.int hd), (.ref a1)])) (fun t k => XS.iloadN X151.here hx rfl (hb hby own_d8_22) rfl (XS.aloadN X151.here hx rfl (hb hby own_d8_23) rfl rfl k)) ?_
    obtain ⟨T152, X152, e152, st152⟩ := getF X151 hx hZ hown (host := "") (Or.inl (hw _ (List.mem_of_getElem? (i := 9) rfl))) Via.refl e151 f102 (g := (mkF m 24 #[rv q, iv hd, iv (0 : Int32)] [(.ref q), (.int hd), (.ref a1)])) rfl rfl (hb hby own_d8_24)
    refine own_by (g' := (mkF m 27 #[rv q, iv hd, iv (0 : Int32)] [(.int r), (.int hd), (.ref a1)])) st152 ?_
    refine own_by (g' := (mkF m 31 #[rv q, iv hd, iv (0 : Int32)] [.null, (.int ((hd * r) + (0 : Int32))), (.ref a1)])) (fun t k => XS.imul X152.here hx rfl (hb hby own_d8_27) rfl (XS.iloadN X152.here hx rfl (hb hby own_d8_28) rfl (XS.iadd X152.here hx rfl (hb hby own_d8_29) rfl (XS.aconstNull X152.here hx rfl (hb hby own_d8_30) k)))) ?_
    obtain ⟨c153, Ar153, S153, G153⟩ := id f113
    have hin153 : ¬ (((hd * r) + (0 : Int32)) < 0 ∨ c153.slots.size ≤ (((hd * r) + (0 : Int32))).toNatClampNeg) := inb_of S153 (own_inb h0p h1p h2p r (0 : Int32) 2 0 (by rw [hr1]; decide) (by decide) (by decide))
    obtain ⟨T153, h153, X153, e153, W153, st153⟩ := stR X152 hx hZ e152 Ar153 (j := ((hd * r) + (0 : Int32))) hin153 rfl (Or.inl rfl) (g := (mkF m 31 #[rv q, iv hd, iv (0 : Int32)] [.null, (.int ((hd * r) + (0 : Int32))), (.ref a1)])) rfl rfl (hb hby own_d8_31)
    have Al153 := own_Arz.same (⟨c153, Ar153, S153, G153⟩ : own_Arz Z _ a1 (.object "java/lang/Object") (z1 * r)) W153
    have N153 := Fr.snoc X153 N125 f115
    refine own_by (g' := (mkF m 32 #[rv q, iv hd, iv (0 : Int32)] [])) st153 ?_
    refine own_by (g' := (mkF m 9 #[rv q, iv hd, iv (1 : Int32)] [(.ref q), (.int (1 : Int32))])) (fun t k => XS.iinc X153.here hx rfl (hb hby own_d8_32) rfl (l' := #[rv q, iv hd, iv (1 : Int32)]) rfl (XS.goto X153.here hx rfl (pc0 := 35) (pc' := 7) rfl (hb hby own_d8_35) (by decide) (by decide) (XS.iloadN X153.here hx rfl (hb hby own_d8_7) rfl (XS.aloadN X153.here hx rfl (hb hby own_d8_8) rfl rfl k)))) ?_
    have f154 := (f102.other W153 (Or.inl (own_neY f101 (hw _ (List.mem_of_getElem? (i := 1) rfl)) f113)))
    obtain ⟨T155, X155, e155, st155⟩ := getF X153 hx hZ hown (host := "") (Or.inl (hw _ (List.mem_of_getElem? (i := 9) rfl))) Via.refl e153 f154 (g := (mkF m 9 #[rv q, iv hd, iv (1 : Int32)] [(.ref q), (.int (1 : Int32))])) rfl rfl (hb hby own_d8_9)
    refine own_by (g' := (mkF m 12 #[rv q, iv hd, iv (1 : Int32)] [(.int r), (.int (1 : Int32))])) st155 ?_
    refine own_by (g' := (mkF m 16 #[rv q, iv hd, iv (1 : Int32)] [(.ref q)])) (fun t k => XS.icmpNo X155.here hx rfl (hb hby own_d8_12) rfl (tlt (by rw [hr1]; decide)).2.1 (XS.aloadN X155.here hx rfl (hb hby own_d8_15) rfl rfl k)) ?_
    have f156 := (f104.other W153 (Or.inl (own_neY f101 (hw _ (List.mem_of_getElem? (i := 1) rfl)) f113)))
    obtain ⟨T157, X157, e157, st157⟩ := getF X155 hx hZ hown (host := "") (Or.inl (hw _ (List.mem_of_getElem? (i := 18) rfl))) Via.refl e155 f156 (g := (mkF m 16 #[rv q, iv hd, iv (1 : Int32)] [(.ref q)])) rfl rfl (hb hby own_d8_16)
    refine own_by (g' := (mkF m 19 #[rv q, iv hd, iv (1 : Int32)] [(.ref b1)])) st157 ?_
    have f158 := (f111.other W153 (Or.inl (own_neY f109 (hw _ (List.mem_of_getElem? (i := 40) rfl)) f113)))
    obtain ⟨T159, X159, e159, st159⟩ := own_getR X157 hx hZ hown (hw _ (List.mem_of_getElem? (i := 66) rfl)) e157 f158 (g := (mkF m 19 #[rv q, iv hd, iv (1 : Int32)] [(.ref b1)])) rfl rfl (hb hby own_d8_19)
    refine own_by (g' := (mkF m 22 #[rv q, iv hd, iv (1 : Int32)] [(.ref a1)])) st159 ?_
    refine own_by (g' := (mkF m 24 #[rv q, iv hd, iv (1 : Int32)] [(.ref q), (.int hd), (.ref a1)])) (fun t k => XS.iloadN X159.here hx rfl (hb hby own_d8_22) rfl (XS.aloadN X159.here hx rfl (hb hby own_d8_23) rfl rfl k)) ?_
    obtain ⟨T160, X160, e160, st160⟩ := getF X159 hx hZ hown (host := "") (Or.inl (hw _ (List.mem_of_getElem? (i := 9) rfl))) Via.refl e159 f154 (g := (mkF m 24 #[rv q, iv hd, iv (1 : Int32)] [(.ref q), (.int hd), (.ref a1)])) rfl rfl (hb hby own_d8_24)
    refine own_by (g' := (mkF m 27 #[rv q, iv hd, iv (1 : Int32)] [(.int r), (.int hd), (.ref a1)])) st160 ?_
    refine own_by (g' := (mkF m 31 #[rv q, iv hd, iv (1 : Int32)] [.null, (.int ((hd * r) + (1 : Int32))), (.ref a1)])) (fun t k => XS.imul X160.here hx rfl (hb hby own_d8_27) rfl (XS.iloadN X160.here hx rfl (hb hby own_d8_28) rfl (XS.iadd X160.here hx rfl (hb hby own_d8_29) rfl (XS.aconstNull X160.here hx rfl (hb hby own_d8_30) k)))) ?_
    obtain ⟨c161, Ar161, S161, G161⟩ := id Al153
    have hin161 : ¬ (((hd * r) + (1 : Int32)) < 0 ∨ c161.slots.size ≤ (((hd * r) + (1 : Int32))).toNatClampNeg) := inb_of S161 (own_inb h0p h1p h2p r (1 : Int32) 2 1 (by rw [hr1]; decide) (by decide) (by decide))
    obtain ⟨T161, h161, X161, e161, W161, st161⟩ := stR X160 hx hZ e160 Ar161 (j := ((hd * r) + (1 : Int32))) hin161 rfl (Or.inl rfl) (g := (mkF m 31 #[rv q, iv hd, iv (1 : Int32)] [.null, (.int ((hd * r) + (1 : Int32))), (.ref a1)])) rfl rfl (hb hby own_d8_31)
    have Al161 := own_Arz.same (⟨c161, Ar161, S161, G161⟩ : own_Arz Z _ a1 (.object "java/lang/Object") (z1 * r)) W161
    have N161 := Fr.snoc X161 N153 f115
    refine own_by (g' := (mkF m 32 #[rv q, iv hd, iv (1 : Int32)] [])) st161 ?_
    refine own_by (g' := (mkF m 9 #[rv q, iv hd, iv (2 : Int32)] [(.ref q), (.int (2 : Int32))])) (fun t k => XS.iinc X161.here hx rfl (hb hby own_d8_32) rfl (l' := #[rv q, iv hd, iv (2 : Int32)]) rfl (XS.goto X161.here hx rfl (pc0 := 35) (pc' := 7) rfl (hb hby own_d8_35) (by decide) (by decide) (XS.iloadN X161.here hx rfl (hb hby own_d8_7) rfl (XS.aloadN X161.here hx rfl (hb hby own_d8_8) rfl rfl k)))) ?_
    have f162 := (f154.other W161 (Or.inl (own_neY f101 (hw _ (List.mem_of_getElem? (i := 1) rfl)) f113)))
    obtain ⟨T163, X163, e163, st163⟩ := getF X161 hx hZ hown (host := "") (Or.inl (hw _ (List.mem_of_getElem? (i := 9) rfl))) Via.refl e161 f162 (g := (mkF m 9 #[rv q, iv hd, iv (2 : Int32)] [(.ref q), (.int (2 : Int32))])) rfl rfl (hb hby own_d8_9)
    refine own_by (g' := (mkF m 12 #[rv q, iv hd, iv (2 : Int32)] [(.int r), (.int (2 : Int32))])) st163 ?_
    refine own_by (g' := (mkF m 38 #[rv q, iv hd, iv (2 : Int32)] [])) (fun t k => XS.icmpYes X163.here hx rfl (pc0 := 12) (pc' := 38) rfl (hb hby own_d8_12) rfl (flt (by rw [hr1]; decide)).2.1 (by decide) (by decide) k) ?_
    have f164 := ((f101.wr W153).wr W161)
    have f165 := ((f103.other W153 (Or.inl (own_neY f101 (hw _ (List.mem_of_getElem? (i := 1) rfl)) f113))).other W161 (Or.inl (own_neY f101 (hw _ (List.mem_of_getElem? (i := 1) rfl)) f113)))
    have f166 := (f156.other W161 (Or.inl (own_neY f101 (hw _ (List.mem_of_getElem? (i := 1) rfl)) f113)))
    have f167 := ((f105.other W153 (Or.inl (own_neY f101 (hw _ (List.mem_of_getElem? (i := 1) rfl)) f113))).other W161 (Or.inl (own_neY f101 (hw _ (List.mem_of_getElem? (i := 1) rfl)) f113)))
    have f168 := ((f106.other W153 (Or.inl (own_neY f101 (hw _ (List.mem_of_getElem? (i := 1) rfl)) f113))).other W161 (Or.inl (own_neY f101 (hw _ (List.mem_of_getElem? (i := 1) rfl)) f113)))
    have f169 := ((f107.other W153 (Or.inl (own_neY f101 (hw _ (List.mem_of_getElem? (i := 1) rfl)) f113))).other W161 (Or.inl (own_neY f101 (hw _ (List.mem_of_getElem? (i := 1) rfl)) f113)))
    have f170 := ((f109.wr W153).wr W161)
    have f171 := ((f110.other W153 (Or.inl (own_neY f109 (hw _ (List.mem_of_getElem? (i := 40) rfl)) f113))).other W161 (Or.inl (own_neY f109 (hw _ (List.mem_of_getElem? (i := 40) rfl)) f113)))
    have f172 := (f158.other W161 (Or.inl (own_neY f109 (hw _ (List.mem_of_getElem? (i := 40) rfl)) f113)))
    have f173 := ((f112.other W153 (Or.inl (own_neY f109 (hw _ (List.mem_of_getElem? (i := 40) rfl)) f113))).other W161 (Or.inl (own_neY f109 (hw _ (List.mem_of_getElem? (i := 40) rfl)) f113)))
    have f174 := ((f116.wr W153).wr W161)
    have f175 := ((f117.other W153 (Or.inl (own_neY f116 (hw _ (List.mem_of_getElem? (i := 40) rfl)) f113))).other W161 (Or.inl (own_neY f116 (hw _ (List.mem_of_getElem? (i := 40) rfl)) f113)))
    have f176 := ((f118.other W153 (Or.inl (own_neY f116 (hw _ (List.mem_of_getElem? (i := 40) rfl)) f113))).other W161 (Or.inl (own_neY f116 (hw _ (List.mem_of_getElem? (i := 40) rfl)) f113)))
    have f177 := ((f119.other W153 (Or.inl (own_neY f116 (hw _ (List.mem_of_getElem? (i := 40) rfl)) f113))).other W161 (Or.inl (own_neY f116 (hw _ (List.mem_of_getElem? (i := 40) rfl)) f113)))
    have f178 := ((f120.other W153 (Ne.symm f124)).other W161 (Ne.symm f124))
    exact own_rem2n_38 q r w hd tl b1 a1 z1 b2 a2 z2 ((2 : Int32)) X163 hx hZ hw hby hml hown hnm hlk hret Z0 e163 N161 (((Keep.refl h0 [q, a1]).wr W153 (Or.inl (List.mem_of_getElem? (i := 1) rfl))).wr W161 (Or.inl (List.mem_of_getElem? (i := 1) rfl))) f164 f162 f165 f166 f167 f168 f169 f108 f170 f171 f172 f173 Al161 f114 f115 f174 f175 f176 f177 f178 f121 f122 f123 f124 (by first | assumption | decide) (by first | assumption | decide) (by first | assumption | decide) (by first | assumption | decide) (by first | assumption | decide)
  ·
    refine own_by (g' := (mkF m 9 #[rv q, iv hd, iv (0 : Int32)] [(.ref q), (.int (0 : Int32))])) (fun t k => XS.iloadN X125.here hx rfl (hb hby own_d8_7) rfl (XS.aloadN X125.here hx rfl (hb hby own_d8_8) rfl rfl k)) ?_
    obtain ⟨T179, X179, e179, st179⟩ := getF X125 hx hZ hown (host := "") (Or.inl (hw _ (List.mem_of_getElem? (i := 9) rfl))) Via.refl e125 f102 (g := (mkF m 9 #[rv q, iv hd, iv (0 : Int32)] [(.ref q), (.int (0 : Int32))])) rfl rfl (hb hby own_d8_9)
    refine own_by (g' := (mkF m 12 #[rv q, iv hd, iv (0 : Int32)] [(.int r), (.int (0 : Int32))])) st179 ?_
    refine own_by (g' := (mkF m 16 #[rv q, iv hd, iv (0 : Int32)] [(.ref q)])) (fun t k => XS.icmpNo X179.here hx rfl (hb hby own_d8_12) rfl (tlt (by rw [hr1]; decide)).2.1 (XS.aloadN X179.here hx rfl (hb hby own_d8_15) rfl rfl k)) ?_
    obtain ⟨T180, X180, e180, st180⟩ := getF X179 hx hZ hown (host := "") (Or.inl (hw _ (List.mem_of_getElem? (i := 18) rfl))) Via.refl e179 f104 (g := (mkF m 16 #[rv q, iv hd, iv (0 : Int32)] [(.ref q)])) rfl rfl (hb hby own_d8_16)
    refine own_by (g' := (mkF m 19 #[rv q, iv hd, iv (0 : Int32)] [(.ref b1)])) st180 ?_
    obtain ⟨T181, X181, e181, st181⟩ := own_getR X180 hx hZ hown (hw _ (List.mem_of_getElem? (i := 66) rfl)) e180 f111 (g := (mkF m 19 #[rv q, iv hd, iv (0 : Int32)] [(.ref b1)])) rfl rfl (hb hby own_d8_19)
    refine own_by (g' := (mkF m 22 #[rv q, iv hd, iv (0 : Int32)] [(.ref a1)])) st181 ?_
    refine own_by (g' := (mkF m 24 #[rv q, iv hd, iv (0 : Int32)] [(.ref q), (.int hd), (.ref a1)])) (fun t k => XS.iloadN X181.here hx rfl (hb hby own_d8_22) rfl (XS.aloadN X181.here hx rfl (hb hby own_d8_23) rfl rfl k)) ?_
    obtain ⟨T182, X182, e182, st182⟩ := getF X181 hx hZ hown (host := "") (Or.inl (hw _ (List.mem_of_getElem? (i := 9) rfl))) Via.refl e181 f102 (g := (mkF m 24 #[rv q, iv hd, iv (0 : Int32)] [(.ref q), (.int hd), (.ref a1)])) rfl rfl (hb hby own_d8_24)
    refine own_by (g' := (mkF m 27 #[rv q, iv hd, iv (0 : Int32)] [(.int r), (.int hd), (.ref a1)])) st182 ?_
    refine own_by (g' := (mkF m 31 #[rv q, iv hd, iv (0 : Int32)] [.null, (.int ((hd * r) + (0 : Int32))), (.ref a1)])) (fun t k => XS.imul X182.here hx rfl (hb hby own_d8_27) rfl (XS.iloadN X182.here hx rfl (hb hby own_d8_28) rfl (XS.iadd X182.here hx rfl (hb hby own_d8_29) rfl (XS.aconstNull X182.here hx rfl (hb hby own_d8_30) k)))) ?_
    obtain ⟨c183, Ar183, S183, G183⟩ := id f113
    have hin183 : ¬ (((hd * r) + (0 : Int32)) < 0 ∨ c183.slots.size ≤ (((hd * r) + (0 : Int32))).toNatClampNeg) := inb_of S183 (own_inb h0p h1p h2p r (0 : Int32) 3 0 (by rw [hr1]; decide) (by decide) (by decide))
    obtain ⟨T183, h183, X183, e183, W183, st183⟩ := stR X182 hx hZ e182 Ar183 (j := ((hd * r) + (0 : Int32))) hin183 rfl (Or.inl rfl) (g := (mkF m 31 #[rv q, iv hd, iv (0 : Int32)] [.null, (.int ((hd * r) + (0 : Int32))), (.ref a1)])) rfl rfl (hb hby own_d8_31)
    have Al183 := own_Arz.same (⟨c183, Ar183, S183, G183⟩ : own_Arz Z _ a1 (.object "java/lang/Object") (z1 * r)) W183
    have N183 := Fr.snoc X183 N125 f115
    refine own_by (g' := (mkF m 32 #[rv q, iv hd, iv (0 : Int32)] [])) st183 ?_
    refine own_by (g' := (mkF m 9 #[rv q, iv hd, iv (1 : Int32)] [(.ref q), (.int (1 : Int32))])) (fun t k => XS.iinc X183.here hx rfl (hb hby own_d8_32) rfl (l' := #[rv q, iv hd, iv (1 : Int32)]) rfl (XS.goto X183.here hx rfl (pc0 := 35) (pc' := 7) rfl (hb hby own_d8_35) (by decide) (by decide) (XS.iloadN X183.here hx rfl (hb hby own_d8_7) rfl (XS.aloadN X183.here hx rfl (hb hby own_d8_8) rfl rfl k)))) ?_
    have f184 := (f102.other W183 (Or.inl (own_neY f101 (hw _ (List.mem_of_getElem? (i := 1) rfl)) f113)))
    obtain ⟨T185, X185, e185, st185⟩ := getF X183 hx hZ hown (host := "") (Or.inl (hw _ (List.mem_of_getElem? (i := 9) rfl))) Via.refl e183 f184 (g := (mkF m 9 #[rv q, iv hd, iv (1 : Int32)] [(.ref q), (.int (1 : Int32))])) rfl rfl (hb hby own_d8_9)
    refine own_by (g' := (mkF m 12 #[rv q, iv hd, iv (1 : Int32)] [(.int r), (.int (1 : Int32))])) st185 ?_
    refine own_by (g' := (mkF m 16 #[rv q, iv hd, iv (1 : Int32)] [(.ref q)])) (fun t k => XS.icmpNo X185.here hx rfl (hb hby own_d8_12) rfl (tlt (by rw [hr1]; decide)).2.1 (XS.aloadN X185.here hx rfl (hb hby own_d8_15) rfl rfl k)) ?_
    have f186 := (f104.other W183 (Or.inl (own_neY f101 (hw _ (List.mem_of_getElem? (i := 1) rfl)) f113)))
    obtain ⟨T187, X187, e187, st187⟩ := getF X185 hx hZ hown (host := "") (Or.inl (hw _ (List.mem_of_getElem? (i := 18) rfl))) Via.refl e185 f186 (g := (mkF m 16 #[rv q, iv hd, iv (1 : Int32)] [(.ref q)])) rfl rfl (hb hby own_d8_16)
    refine own_by (g' := (mkF m 19 #[rv q, iv hd, iv (1 : Int32)] [(.ref b1)])) st187 ?_
    have f188 := (f111.other W183 (Or.inl (own_neY f109 (hw _ (List.mem_of_getElem? (i := 40) rfl)) f113)))
    obtain ⟨T189, X189, e189, st189⟩ := own_getR X187 hx hZ hown (hw _ (List.mem_of_getElem? (i := 66) rfl)) e187 f188 (g := (mkF m 19 #[rv q, iv hd, iv (1 : Int32)] [(.ref b1)])) rfl rfl (hb hby own_d8_19)
    refine own_by (g' := (mkF m 22 #[rv q, iv hd, iv (1 : Int32)] [(.ref a1)])) st189 ?_
    refine own_by (g' := (mkF m 24 #[rv q, iv hd, iv (1 : Int32)] [(.ref q), (.int hd), (.ref a1)])) (fun t k => XS.iloadN X189.here hx rfl (hb hby own_d8_22) rfl (XS.aloadN X189.here hx rfl (hb hby own_d8_23) rfl rfl k)) ?_
    obtain ⟨T190, X190, e190, st190⟩ := getF X189 hx hZ hown (host := "") (Or.inl (hw _ (List.mem_of_getElem? (i := 9) rfl))) Via.refl e189 f184 (g := (mkF m 24 #[rv q, iv hd, iv (1 : Int32)] [(.ref q), (.int hd), (.ref a1)])) rfl rfl (hb hby own_d8_24)
    refine own_by (g' := (mkF m 27 #[rv q, iv hd, iv (1 : Int32)] [(.int r), (.int hd), (.ref a1)])) st190 ?_
    refine own_by (g' := (mkF m 31 #[rv q, iv hd, iv (1 : Int32)] [.null, (.int ((hd * r) + (1 : Int32))), (.ref a1)])) (fun t k => XS.imul X190.here hx rfl (hb hby own_d8_27) rfl (XS.iloadN X190.here hx rfl (hb hby own_d8_28) rfl (XS.iadd X190.here hx rfl (hb hby own_d8_29) rfl (XS.aconstNull X190.here hx rfl (hb hby own_d8_30) k)))) ?_
    obtain ⟨c191, Ar191, S191, G191⟩ := id Al183
    have hin191 : ¬ (((hd * r) + (1 : Int32)) < 0 ∨ c191.slots.size ≤ (((hd * r) + (1 : Int32))).toNatClampNeg) := inb_of S191 (own_inb h0p h1p h2p r (1 : Int32) 3 1 (by rw [hr1]; decide) (by decide) (by decide))
    obtain ⟨T191, h191, X191, e191, W191, st191⟩ := stR X190 hx hZ e190 Ar191 (j := ((hd * r) + (1 : Int32))) hin191 rfl (Or.inl rfl) (g := (mkF m 31 #[rv q, iv hd, iv (1 : Int32)] [.null, (.int ((hd * r) + (1 : Int32))), (.ref a1)])) rfl rfl (hb hby own_d8_31)
    have Al191 := own_Arz.same (⟨c191, Ar191, S191, G191⟩ : own_Arz Z _ a1 (.object "java/lang/Object") (z1 * r)) W191
    have N191 := Fr.snoc X191 N183 f115
    refine own_by (g' := (mkF m 32 #[rv q, iv hd, iv (1 : Int32)] [])) st191 ?_
    refine own_by (g' := (mkF m 9 #[rv q, iv hd, iv (2 : Int32)] [(.ref q), (.int (2 : Int32))])) (fun t k => XS.iinc X191.here hx rfl (hb hby own_d8_32) rfl (l' := #[rv q, iv hd, iv (2 : Int32)]) rfl (XS.goto X191.here hx rfl (pc0 := 35) (pc' := 7) rfl (hb hby own_d8_35) (by decide) (by decide) (XS.iloadN X191.here hx rfl (hb hby own_d8_7) rfl (XS.aloadN X191.here hx rfl (hb hby own_d8_8) rfl rfl k)))) ?_
    have f192 := (f184.other W191 (Or.inl (own_neY f101 (hw _ (List.mem_of_getElem? (i := 1) rfl)) f113)))
    obtain ⟨T193, X193, e193, st193⟩ := getF X191 hx hZ hown (host := "") (Or.inl (hw _ (List.mem_of_getElem? (i := 9) rfl))) Via.refl e191 f192 (g := (mkF m 9 #[rv q, iv hd, iv (2 : Int32)] [(.ref q), (.int (2 : Int32))])) rfl rfl (hb hby own_d8_9)
    refine own_by (g' := (mkF m 12 #[rv q, iv hd, iv (2 : Int32)] [(.int r), (.int (2 : Int32))])) st193 ?_
    refine own_by (g' := (mkF m 16 #[rv q, iv hd, iv (2 : Int32)] [(.ref q)])) (fun t k => XS.icmpNo X193.here hx rfl (hb hby own_d8_12) rfl (tlt (by rw [hr1]; decide)).2.1 (XS.aloadN X193.here hx rfl (hb hby own_d8_15) rfl rfl k)) ?_
    have f194 := (f186.other W191 (Or.inl (own_neY f101 (hw _ (List.mem_of_getElem? (i := 1) rfl)) f113)))
    obtain ⟨T195, X195, e195, st195⟩ := getF X193 hx hZ hown (host := "") (Or.inl (hw _ (List.mem_of_getElem? (i := 18) rfl))) Via.refl e193 f194 (g := (mkF m 16 #[rv q, iv hd, iv (2 : Int32)] [(.ref q)])) rfl rfl (hb hby own_d8_16)
    refine own_by (g' := (mkF m 19 #[rv q, iv hd, iv (2 : Int32)] [(.ref b1)])) st195 ?_
    have f196 := (f188.other W191 (Or.inl (own_neY f109 (hw _ (List.mem_of_getElem? (i := 40) rfl)) f113)))
    obtain ⟨T197, X197, e197, st197⟩ := own_getR X195 hx hZ hown (hw _ (List.mem_of_getElem? (i := 66) rfl)) e195 f196 (g := (mkF m 19 #[rv q, iv hd, iv (2 : Int32)] [(.ref b1)])) rfl rfl (hb hby own_d8_19)
    refine own_by (g' := (mkF m 22 #[rv q, iv hd, iv (2 : Int32)] [(.ref a1)])) st197 ?_
    refine own_by (g' := (mkF m 24 #[rv q, iv hd, iv (2 : Int32)] [(.ref q), (.int hd), (.ref a1)])) (fun t k => XS.iloadN X197.here hx rfl (hb hby own_d8_22) rfl (XS.aloadN X197.here hx rfl (hb hby own_d8_23) rfl rfl k)) ?_
    obtain ⟨T198, X198, e198, st198⟩ := getF X197 hx hZ hown (host := "") (Or.inl (hw _ (List.mem_of_getElem? (i := 9) rfl))) Via.refl e197 f192 (g := (mkF m 24 #[rv q, iv hd, iv (2 : Int32)] [(.ref q), (.int hd), (.ref a1)])) rfl rfl (hb hby own_d8_24)
    refine own_by (g' := (mkF m 27 #[rv q, iv hd, iv (2 : Int32)] [(.int r), (.int hd), (.ref a1)])) st198 ?_
    refine own_by (g' := (mkF m 31 #[rv q, iv hd, iv (2 : Int32)] [.null, (.int ((hd * r) + (2 : Int32))), (.ref a1)])) (fun t k => XS.imul X198.here hx rfl (hb hby own_d8_27) rfl (XS.iloadN X198.here hx rfl (hb hby own_d8_28) rfl (XS.iadd X198.here hx rfl (hb hby own_d8_29) rfl (XS.aconstNull X198.here hx rfl (hb hby own_d8_30) k)))) ?_
    obtain ⟨c199, Ar199, S199, G199⟩ := id Al191
    have hin199 : ¬ (((hd * r) + (2 : Int32)) < 0 ∨ c199.slots.size ≤ (((hd * r) + (2 : Int32))).toNatClampNeg) := inb_of S199 (own_inb h0p h1p h2p r (2 : Int32) 3 2 (by rw [hr1]; decide) (by decide) (by decide))
    obtain ⟨T199, h199, X199, e199, W199, st199⟩ := stR X198 hx hZ e198 Ar199 (j := ((hd * r) + (2 : Int32))) hin199 rfl (Or.inl rfl) (g := (mkF m 31 #[rv q, iv hd, iv (2 : Int32)] [.null, (.int ((hd * r) + (2 : Int32))), (.ref a1)])) rfl rfl (hb hby own_d8_31)
    have Al199 := own_Arz.same (⟨c199, Ar199, S199, G199⟩ : own_Arz Z _ a1 (.object "java/lang/Object") (z1 * r)) W199
    have N199 := Fr.snoc X199 N191 f115
    refine own_by (g' := (mkF m 32 #[rv q, iv hd, iv (2 : Int32)] [])) st199 ?_
    refine own_by (g' := (mkF m 9 #[rv q, iv hd, iv (3 : Int32)] [(.ref q), (.int (3 : Int32))])) (fun t k => XS.iinc X199.here hx rfl (hb hby own_d8_32) rfl (l' := #[rv q, iv hd, iv (3 : Int32)]) rfl (XS.goto X199.here hx rfl (pc0 := 35) (pc' := 7) rfl (hb hby own_d8_35) (by decide) (by decide) (XS.iloadN X199.here hx rfl (hb hby own_d8_7) rfl (XS.aloadN X199.here hx rfl (hb hby own_d8_8) rfl rfl k)))) ?_
    have f200 := (f192.other W199 (Or.inl (own_neY f101 (hw _ (List.mem_of_getElem? (i := 1) rfl)) f113)))
    obtain ⟨T201, X201, e201, st201⟩ := getF X199 hx hZ hown (host := "") (Or.inl (hw _ (List.mem_of_getElem? (i := 9) rfl))) Via.refl e199 f200 (g := (mkF m 9 #[rv q, iv hd, iv (3 : Int32)] [(.ref q), (.int (3 : Int32))])) rfl rfl (hb hby own_d8_9)
    refine own_by (g' := (mkF m 12 #[rv q, iv hd, iv (3 : Int32)] [(.int r), (.int (3 : Int32))])) st201 ?_
    refine own_by (g' := (mkF m 38 #[rv q, iv hd, iv (3 : Int32)] [])) (fun t k => XS.icmpYes X201.here hx rfl (pc0 := 12) (pc' := 38) rfl (hb hby own_d8_12) rfl (flt (by rw [hr1]; decide)).2.1 (by decide) (by decide) k) ?_
    have f202 := (((f101.wr W183).wr W191).wr W199)
    have f203 := (((f103.other W183 (Or.inl (own_neY f101 (hw _ (List.mem_of_getElem? (i := 1) rfl)) f113))).other W191 (Or.inl (own_neY f101 (hw _ (List.mem_of_getElem? (i := 1) rfl)) f113))).other W199 (Or.inl (own_neY f101 (hw _ (List.mem_of_getElem? (i := 1) rfl)) f113)))
    have f204 := (f194.other W199 (Or.inl (own_neY f101 (hw _ (List.mem_of_getElem? (i := 1) rfl)) f113)))
    have f205 := (((f105.other W183 (Or.inl (own_neY f101 (hw _ (List.mem_of_getElem? (i := 1) rfl)) f113))).other W191 (Or.inl (own_neY f101 (hw _ (List.mem_of_getElem? (i := 1) rfl)) f113))).other W199 (Or.inl (own_neY f101 (hw _ (List.mem_of_getElem? (i := 1) rfl)) f113)))
    have f206 := (((f106.other W183 (Or.inl (own_neY f101 (hw _ (List.mem_of_getElem? (i := 1) rfl)) f113))).other W191 (Or.inl (own_neY f101 (hw _ (List.mem_of_getElem? (i := 1) rfl)) f113))).other W199 (Or.inl (own_neY f101 (hw _ (List.mem_of_getElem? (i := 1) rfl)) f113)))
    have f207 := (((f107.other W183 (Or.inl (own_neY f101 (hw _ (List.mem_of_getElem? (i := 1) rfl)) f113))).other W191 (Or.inl (own_neY f101 (hw _ (List.mem_of_getElem? (i := 1) rfl)) f113))).other W199 (Or.inl (own_neY f101 (hw _ (List.mem_of_getElem? (i := 1) rfl)) f113)))
    have f208 := (((f109.wr W183).wr W191).wr W199)
    have f209 := (((f110.other W183 (Or.inl (own_neY f109 (hw _ (List.mem_of_getElem? (i := 40) rfl)) f113))).other W191 (Or.inl (own_neY f109 (hw _ (List.mem_of_getElem? (i := 40) rfl)) f113))).other W199 (Or.inl (own_neY f109 (hw _ (List.mem_of_getElem? (i := 40) rfl)) f113)))
    have f210 := (f196.other W199 (Or.inl (own_neY f109 (hw _ (List.mem_of_getElem? (i := 40) rfl)) f113)))
    have f211 := (((f112.other W183 (Or.inl (own_neY f109 (hw _ (List.mem_of_getElem? (i := 40) rfl)) f113))).other W191 (Or.inl (own_neY f109 (hw _ (List.mem_of_getElem? (i := 40) rfl)) f113))).other W199 (Or.inl (own_neY f109 (hw _ (List.mem_of_getElem? (i := 40) rfl)) f113)))
    have f212 := (((f116.wr W183).wr W191).wr W199)
    have f213 := (((f117.other W183 (Or.inl (own_neY f116 (hw _ (List.mem_of_getElem? (i := 40) rfl)) f113))).other W191 (Or.inl (own_neY f116 (hw _ (List.mem_of_getElem? (i := 40) rfl)) f113))).other W199 (Or.inl (own_neY f116 (hw _ (List.mem_of_getElem? (i := 40) rfl)) f113)))
    have f214 := (((f118.other W183 (Or.inl (own_neY f116 (hw _ (List.mem_of_getElem? (i := 40) rfl)) f113))).other W191 (Or.inl (own_neY f116 (hw _ (List.mem_of_getElem? (i := 40) rfl)) f113))).other W199 (Or.inl (own_neY f116 (hw _ (List.mem_of_getElem? (i := 40) rfl)) f113)))
    have f215 := (((f119.other W183 (Or.inl (own_neY f116 (hw _ (List.mem_of_getElem? (i := 40) rfl)) f113))).other W191 (Or.inl (own_neY f116 (hw _ (List.mem_of_getElem? (i := 40) rfl)) f113))).other W199 (Or.inl (own_neY f116 (hw _ (List.mem_of_getElem? (i := 40) rfl)) f113)))
    have f216 := (((f120.other W183 (Ne.symm f124)).other W191 (Ne.symm f124)).other W199 (Ne.symm f124))
    exact own_rem2n_38 q r w hd tl b1 a1 z1 b2 a2 z2 ((3 : Int32)) X201 hx hZ hw hby hml hown hnm hlk hret Z0 e201 N199 ((((Keep.refl h0 [q, a1]).wr W183 (Or.inl (List.mem_of_getElem? (i := 1) rfl))).wr W191 (Or.inl (List.mem_of_getElem? (i := 1) rfl))).wr W199 (Or.inl (List.mem_of_getElem? (i := 1) rfl))) f202 f200 f203 f204 f205 f206 f207 f108 f208 f209 f210 f211 Al199 f114 f115 f212 f213 f214 f215 f216 f121 f122 f123 f124 (by first | assumption | decide) (by first | assumption | decide) (by first | assumption | decide) (by first | assumption | decide) (by first | assumption | decide)
def Q_own_rem2a (Z : State) (q : Addr) (r : Int32) (w : Int32) (hd : Int32) (tl : Int32) (b1 : Addr) (a1 : Addr) (z1 : Int32) (b2 : Addr) (a2 : Addr) (z2 : Int32) (h0 : Heap) (n0 : Nat) (v : Option Value) (h : Heap) (L : List Loc) : Prop := v = none ∧ Fr n0 L ∧ Keep h0 h [q, a1] ∧ own_Q1 Z h (q) (n0) (r) (w) ((0 : Int32)) (tl) (b2) (a2) (z2)
theorem own_d8_97 : decode prog_85_method_8_code 97 = .ok (.aload_n 0, 1) := by decide +kernel
theorem own_d8_98 : decode prog_85_method_8_code 98 = .ok (.aload_n 0, 1) := by decide +kernel
theorem own_d8_99 : decode prog_85_method_8_code 99 = .ok (.getfield 16, 3) := by decide +kernel
theorem own_d8_102 : decode prog_85_method_8_code 102 = .ok (.getfield 44, 3) := by decide +kernel
theorem own_d8_105 : decode prog_85_method_8_code 105 = .ok (.putfield 16, 3) := by decide +kernel
theorem own_d8_108 : decode prog_85_method_8_code 108 = .ok (.aload_n 0, 1) := by decide +kernel
theorem own_d8_109 : decode prog_85_method_8_code 109 = .ok (.iconst 0, 1) := by decide +kernel
theorem own_d8_110 : decode prog_85_method_8_code 110 = .ok (.putfield 23, 3) := by decide +kernel
set_option maxRecDepth 65536 in
set_option maxHeartbeats 40000000 in
theorem own_rem2a_38 {p : Program} {l : Launch} {e : Env} {s : State} {m : MethodId} {args : Array Value} {below : List Frame} {meth : Method} {c : Code} {T0 : State} {locs : List Loc} {Z : State} {a0 : Array Value} {h0 h1 : Heap} {n0 : Nat} (q : Addr) (r : Int32) (w : Int32) (hd : Int32) (tl : Int32) (b1 : Addr) (a1 : Addr) (z1 : Int32) (b2 : Addr) (a2 : Addr) (z2 : Int32) (ix : Int32)
    (X0 : Stand p l e ({ frames := 2, cells := 0, slots := 0, locals := 26 } : Room) s m args below meth c T0 locs 0 0) (hx : p.tables.exec = Jvm.exec) (hZ : Z.Warmed39 s.vm) (hw : ∀ d ∈ tables_1, d.before a0 Z = true) (hby : c.code = prog_85_method_8_code) (hml : c.maxLocals = 3) (hown : s.vm.findClass "com/example/limentinus/limentinus/simulator/RecordQueue" = some m.cls) (hnm : meth.name = "removeFirst") (hlk : meth.locks = false) (hret : meth.sig.returnType = none) (Z0 : n0 ≤ h0.size) (e0 : T0.heap = h1) (N0 : Fr n0 locs) (K0 : Keep h0 h1 [q, a1]) (x0 : Exa Z h1 q "com/example/limentinus/limentinus/simulator/RecordQueue") (x1 : Fld Z h1 q "com/example/limentinus/limentinus/simulator/RecordQueue" "references" "I" (.int r)) (x2 : Fld Z h1 q "com/example/limentinus/limentinus/simulator/RecordQueue" "numbers" "I" (.int w)) (x3 : Fld Z h1 q "com/example/limentinus/limentinus/simulator/RecordQueue" "first" "Lcom/example/limentinus/limentinus/simulator/RecordQueue$Block;" (.ref b1)) (x4 : Fld Z h1 q "com/example/limentinus/limentinus/simulator/RecordQueue" "last" "Lcom/example/limentinus/limentinus/simulator/RecordQueue$Block;" (.ref b2)) (x5 : Fld Z h1 q "com/example/limentinus/limentinus/simulator/RecordQueue" "head" "I" (.int hd)) (x6 : Fld Z h1 q "com/example/limentinus/limentinus/simulator/RecordQueue" "tail" "I" (.int tl)) (x7 : n0 ≤ q) (x8 : Exa Z h1 b1 "com/example/limentinus/limentinus/simulator/RecordQueue$Block") (x9 : Fld Z h1 b1 "com/example/limentinus/limentinus/simulator/RecordQueue$Block" "records" "I" (.int z1)) (x10 : Fld Z h1 b1 "com/example/limentinus/limentinus/simulator/RecordQueue$Block" "references" "[Ljava/lang/Object;" (.ref a1)) (x11 : Fld Z h1 b1 "com/example/limentinus/limentinus/simulator/RecordQueue$Block" "next" "Lcom/example/limentinus/limentinus/simulator/RecordQueue$Block;" (.ref b2)) (x12 : own_Arz Z h1 a1 (.object "java/lang/Object") (z1 * r)) (x13 : n0 ≤ b1) (x14 : n0 ≤ a1) (x15 : Exa Z h1 b2 "com/example/limentinus/limentinus/simulator/RecordQueue$Block") (x16 : Fld Z h1 b2 "com/example/limentinus/limentinus/simulator/RecordQueue$Block" "records" "I" (.int z2)) (x17 : Fld Z h1 b2 "com/example/limentinus/limentinus/simulator/RecordQueue$Block" "references" "[Ljava/lang/Object;" (.ref a2)) (x18 : Fld Z h1 b2 "com/example/limentinus/limentinus/simulator/RecordQueue$Block" "next" "Lcom/example/limentinus/limentinus/simulator/RecordQueue$Block;" .null) (x19 : own_Arz Z h1 a2 (.object "java/lang/Object") (z2 * r)) (x20 : n0 ≤ b2) (x21 : n0 ≤ a2) (x22 : b1 ≠ b2) (x23 : a1 ≠ a2) (hr : own_03 r) (h0p : 0 ≤ hd.toInt) (h1p : hd.toInt < z1.toInt) (h2p : z1.toInt ≤ 8) (hq2 : (hd + (1 : Int32)) = z1) :
    own_Goes p e below s (({ frames := 2, cells := 0, slots := 0, locals := 26 } : Room)).cells (({ frames := 2, cells := 0, slots := 0, locals := 26 } : Room)).slots (Q_own_rem2a Z q r w hd tl b1 a1 z1 b2 a2 z2 h0 n0) T0 (mkF m 38 #[rv q, iv hd, iv ix] []) := by
  refine own_by (g' := (mkF m 40 #[rv q, iv hd, iv ix] [(.ref q), (.ref q)])) (fun t k => XS.aloadN X0.here hx rfl (hb hby own_d8_38) rfl rfl (XS.dup X0.here hx rfl (hb hby own_d8_39) rfl rfl k)) ?_
  obtain ⟨T101, X101, e101, st101⟩ := getF X0 hx hZ hown (host := "") (Or.inl (hw _ (List.mem_of_getElem? (i := 22) rfl))) Via.refl e0 x5 (g := (mkF m 40 #[rv q, iv hd, iv ix] [(.ref q), (.ref q)])) rfl rfl (hb hby own_d8_40)
  refine own_by (g' := (mkF m 43 #[rv q, iv hd, iv ix] [(.int hd), (.ref q)])) st101 ?_
  refine own_by (g' := (mkF m 45 #[rv q, iv hd, iv ix] [(.int (hd + (1 : Int32))), (.ref q)])) (fun t k => XS.iconst X101.here hx rfl (hb hby own_d8_43) (XS.iadd X101.here hx rfl (hb hby own_d8_44) rfl k)) ?_
  obtain ⟨T102, h102, X102, e102, W102, st102⟩ := putF X101 hx hZ hown (host := "") (Or.inl (hw _ (List.mem_of_getElem? (i := 22) rfl))) Via.refl e101 x5 x0 (Or.inl (hw _ (List.mem_of_getElem? (i := 23) rfl))) (hw _ (List.mem_of_getElem? (i := 1) rfl)) (ty := .int) (by decide) rfl rfl (g := (mkF m 45 #[rv q, iv hd, iv ix] [(.int (hd + (1 : Int32))), (.ref q)])) rfl rfl (hb hby own_d8_45)
  have f103 := x5.same W102
  have N102 := Fr.snoc X102 N0 x7
  refine own_by (g' := (mkF m 48 #[rv q, iv hd, iv ix] [])) st102 ?_
  refine own_by (g' := (mkF m 49 #[rv q, iv hd, iv ix] [(.ref q)])) (fun t k => XS.aloadN X102.here hx rfl (hb hby own_d8_48) rfl rfl k) ?_
  have f104 := (x3.other W102 (Or.inr (slot_ne (Or.inl (hw _ (List.mem_of_getElem? (i := 19) rfl))) (Or.inl (hw _ (List.mem_of_getElem? (i := 23) rfl))) (by decide) (t := (.object "com/example/limentinus/limentinus/simulator/RecordQueue$Block")) (t' := .int) (by decide) (by decide))))
  obtain ⟨T105, X105, e105, st105⟩ := getF X102 hx hZ hown (host := "") (Or.inl (hw _ (List.mem_of_getElem? (i := 18) rfl))) Via.refl e102 f104 (g := (mkF m 49 #[rv q, iv hd, iv ix] [(.ref q)])) rfl rfl (hb hby own_d8_49)
  refine own_by (g' := (mkF m 52 #[rv q, iv hd, iv ix] [(.ref b1)])) st105 ?_
  refine own_by (g' := (mkF m 53 #[rv q, iv hd, iv ix] [(.ref q), (.ref b1)])) (fun t k => XS.aloadN X105.here hx rfl (hb hby own_d8_52) rfl rfl k) ?_
  have f106 := (x4.other W102 (Or.inr (slot_ne (Or.inl (hw _ (List.mem_of_getElem? (i := 21) rfl))) (Or.inl (hw _ (List.mem_of_getElem? (i := 23) rfl))) (by decide) (t := (.object "com/example/limentinus/limentinus/simulator/RecordQueue$Block")) (t' := .int) (by decide) (by decide))))
  obtain ⟨T107, X107, e107, st107⟩ := getF X105 hx hZ hown (host := "") (Or.inl (hw _ (List.mem_of_getElem? (i := 20) rfl))) Via.refl e105 f106 (g := (mkF m 53 #[rv q, iv hd, iv ix] [(.ref q), (.ref b1)])) rfl rfl (hb hby own_d8_53)
  refine own_by (g' := (mkF m 56 #[rv q, iv hd, iv ix] [(.ref b2), (.ref b1)])) st107 ?_
  refine own_by (g' := (mkF m 84 #[rv q, iv hd, iv ix] [(.ref q)])) (fun t k => Jvm.RoadKit.acmp (g := (mkF m 56 #[rv q, iv hd, iv ix] [(.ref b2), (.ref b1)])) X107 hx rfl rfl rfl (pc0 := 56) (pc' := 83) (same := false) rfl (hb hby own_d8_56) rfl (decide_eq_false fun q => x22 (Value.ref.inj q)) (by decide) (by decide) (XS.aloadN X107.here hx rfl (hb hby own_d8_83) rfl rfl k)) ?_
  obtain ⟨T108, X108, e108, st108⟩ := getF X107 hx hZ hown (host := "") (Or.inl (hw _ (List.mem_of_getElem? (i := 22) rfl))) Via.refl e107 f103 (g := (mkF m 84 #[rv q, iv hd, iv ix] [(.ref q)])) rfl rfl (hb hby own_d8_84)
  refine own_by (g' := (mkF m 87 #[rv q, iv hd, iv ix] [(.int (hd + (1 : Int32)))])) st108 ?_
  refine own_by (g' := (mkF m 88 #[rv q, iv hd, iv ix] [(.ref q), (.int (hd + (1 : Int32)))])) (fun t k => XS.aloadN X108.here hx rfl (hb hby own_d8_87) rfl rfl k) ?_
  obtain ⟨T109, X109, e109, st109⟩ := getF X108 hx hZ hown (host := "") (Or.inl (hw _ (List.mem_of_getElem? (i := 18) rfl))) Via.refl e108 f104 (g := (mkF m 88 #[rv q, iv hd, iv ix] [(.ref q), (.int (hd + (1 : Int32)))])) rfl rfl (hb hby own_d8_88)
  refine own_by (g' := (mkF m 91 #[rv q, iv hd, iv ix] [(.ref b1), (.int (hd + (1 : Int32)))])) st109 ?_
  have f110 := (x9.other W102 (Or.inl (ne_exa x8 x0 (by decide))))
  obtain ⟨T111, X111, e111, st111⟩ := own_getR X109 hx hZ hown (hw _ (List.mem_of_getElem? (i := 65) rfl)) e109 f110 (g := (mkF m 91 #[rv q, iv hd, iv ix] [(.ref b1), (.int (hd + (1 : Int32)))])) rfl rfl (hb hby own_d8_91)
  refine own_by (g' := (mkF m 94 #[rv q, iv hd, iv ix] [(.int z1), (.int (hd + (1 : Int32)))])) st111 ?_
  refine own_by (g' := (mkF m 99 #[rv q, iv hd, iv ix] [(.ref q), (.ref q)])) (fun t k => XS.icmpNo X111.here hx rfl (hb hby own_d8_94) rfl (teq hq2).2 (XS.aloadN X111.here hx rfl (hb hby own_d8_97) rfl rfl (XS.aloadN X111.here hx rfl (hb hby own_d8_98) rfl rfl k))) ?_
  obtain ⟨T112, X112, e112, st112⟩ := getF X111 hx hZ hown (host := "") (Or.inl (hw _ (List.mem_of_getElem? (i := 18) rfl))) Via.refl e111 f104 (g := (mkF m 99 #[rv q, iv hd, iv ix] [(.ref q), (.ref q)])) rfl rfl (hb hby own_d8_99)
  refine own_by (g' := (mkF m 102 #[rv q, iv hd, iv ix] [(.ref b1), (.ref q)])) st112 ?_
  have f113 := (x11.other W102 (Or.inl (ne_exa x8 x0 (by decide))))
  obtain ⟨T114, X114, e114, st114⟩ := own_getR X112 hx hZ hown (hw _ (List.mem_of_getElem? (i := 71) rfl)) e112 f113 (g := (mkF m 102 #[rv q, iv hd, iv ix] [(.ref b1), (.ref q)])) rfl rfl (hb hby own_d8_102)
  refine own_by (g' := (mkF m 105 #[rv q, iv hd, iv ix] [(.ref b2), (.ref q)])) st114 ?_
  have f115 := (x0.wr W102)
  obtain ⟨T116, h116, X116, e116, W116, st116⟩ := putF X114 hx hZ hown (host := "") (Or.inl (hw _ (List.mem_of_getElem? (i := 18) rfl))) Via.refl e114 f104 f115 (Or.inl (hw _ (List.mem_of_getElem? (i := 19) rfl))) (hw _ (List.mem_of_getElem? (i := 1) rfl)) (ty := (.object "com/example/limentinus/limentinus/simulator/RecordQueue$Block")) (by decide) rfl rfl (g := (mkF m 105 #[rv q, iv hd, iv ix] [(.ref b2), (.ref q)])) rfl rfl (hb hby own_d8_105)
  have f117 := f104.same W116
  have N116 := Fr.snoc X116 N102 x7
  refine own_by (g' := (mkF m 108 #[rv q, iv hd, iv ix] [])) st116 ?_
  refine own_by (g' := (mkF m 110 #[rv q, iv hd, iv ix] [(.int (0 : Int32)), (.ref q)])) (fun t k => XS.aloadN X116.here hx rfl (hb hby own_d8_108) rfl rfl (XS.iconst X116.here hx rfl (hb hby own_d8_109) k)) ?_
  have f118 := (f103.other W116 (Or.inr (slot_ne (Or.inl (hw _ (List.mem_of_getElem? (i := 23) rfl))) (Or.inl (hw _ (List.mem_of_getElem? (i := 19) rfl))) (by decide) (t := .int) (t' := (.object "com/example/limentinus/limentinus/simulator/RecordQueue$Block")) (by decide) (by decide))))
  have f119 := (f115.wr W116)
  obtain ⟨T120, h120, X120, e120, W120, st120⟩ := putF X116 hx hZ hown (host := "") (Or.inl (hw _ (List.mem_of_getElem? (i := 22) rfl))) Via.refl e116 f118 f119 (Or.inl (hw _ (List.mem_of_getElem? (i := 23) rfl))) (hw _ (List.mem_of_getElem? (i := 1) rfl)) (ty := .int) (by decide) rfl rfl (g := (mkF m 110 #[rv q, iv hd, iv ix] [(.int (0 : Int32)), (.ref q)])) rfl rfl (hb hby own_d8_110)
  have f121 := f118.same W120
  have N120 := Fr.snoc X120 N116 x7
  refine own_by (g' := (mkF m 113 #[rv q, iv hd, iv ix] [])) st120 ?_
  have f122 := (f119.wr W120)
  have f123 := (((x1.other W102 (Or.inr (slot_ne (Or.inr (hw _ (List.mem_of_getElem? (i := 10) rfl))) (Or.inl (hw _ (List.mem_of_getElem? (i := 23) rfl))) (by decide) (t := .int) (t' := .int) (by decide) (by decide)))).other W116 (Or.inr (slot_ne (Or.inr (hw _ (List.mem_of_getElem? (i := 10) rfl))) (Or.inl (hw _ (List.mem_of_getElem? (i := 19) rfl))) (by decide) (t := .int) (t' := (.object "com/example/limentinus/limentinus/simulator/RecordQueue$Block")) (by decide) (by decide)))).other W120 (Or.inr (slot_ne (Or.inr (hw _ (List.mem_of_getElem? (i := 10) rfl))) (Or.inl (hw _ (List.mem_of_getElem? (i := 23) rfl))) (by decide) (t := .int) (t' := .int) (by decide) (by decide))))
  have f124 := (((x2.other W102 (Or.inr (slot_ne (Or.inr (hw _ (List.mem_of_getElem? (i := 12) rfl))) (Or.inl (hw _ (List.mem_of_getElem? (i := 23) rfl))) (by decide) (t := .int) (t' := .int) (by decide) (by decide)))).other W116 (Or.inr (slot_ne (Or.inr (hw _ (List.mem_of_getElem? (i := 12) rfl))) (Or.inl (hw _ (List.mem_of_getElem? (i := 19) rfl))) (by decide) (t := .int) (t' := (.object "com/example/limentinus/limentinus/simulator/RecordQueue$Block")) (by decide) (by decide)))).other W120 (Or.inr (slot_ne (Or.inr (hw _ (List.mem_of_getElem? (i := 12) rfl))) (Or.inl (hw _ (List.mem_of_getElem? (i := 23) rfl))) (by decide) (t := .int) (t' := .int) (by decide) (by decide))))
  have f125 := (f117.other W120 (Or.inr (slot_ne (Or.inl (hw _ (List.mem_of_getElem? (i := 19) rfl))) (Or.inl (hw _ (List.mem_of_getElem? (i := 23) rfl))) (by decide) (t := (.object "com/example/limentinus/limentinus/simulator/RecordQueue$Block")) (t' := .int) (by decide) (by decide))))
  have f126 := ((f106.other W116 (Or.inr (slot_ne (Or.inl (hw _ (List.mem_of_getElem? (i := 21) rfl))) (Or.inl (hw _ (List.mem_of_getElem? (i := 19) rfl))) (by decide) (t := (.object "com/example/limentinus/limentinus/simulator/RecordQueue$Block")) (t' := (.object "com/example/limentinus/limentinus/simulator/RecordQueue$Block")) (by decide) (by decide)))).other W120 (Or.inr (slot_ne (Or.inl (hw _ (List.mem_of_getElem? (i := 21) rfl))) (Or.inl (hw _ (List.mem_of_getElem? (i := 23) rfl))) (by decide) (t := (.object "com/example/limentinus/limentinus/simulator/RecordQueue$Block")) (t' := .int) (by decide) (by decide))))
  have f127 := (((x6.other W102 (Or.inr (slot_ne (Or.inl (hw _ (List.mem_of_getElem? (i := 25) rfl))) (Or.inl (hw _ (List.mem_of_getElem? (i := 23) rfl))) (by decide) (t := .int) (t' := .int) (by decide) (by decide)))).other W116 (Or.inr (slot_ne (Or.inl (hw _ (List.mem_of_getElem? (i := 25) rfl))) (Or.inl (hw _ (List.mem_of_getElem? (i := 19) rfl))) (by decide) (t := .int) (t' := (.object "com/example/limentinus/limentinus/simulator/RecordQueue$Block")) (by decide) (by decide)))).other W120 (Or.inr (slot_ne (Or.inl (hw _ (List.mem_of_getElem? (i := 25) rfl))) (Or.inl (hw _ (List.mem_of_getElem? (i := 23) rfl))) (by decide) (t := .int) (t' := .int) (by decide) (by decide))))
  have f128 := (((x15.wr W102).wr W116).wr W120)
  have f129 := (((x16.other W102 (Or.inl (ne_exa x15 x0 (by decide)))).other W116 (Or.inl (ne_exa x15 x0 (by decide)))).other W120 (Or.inl (ne_exa x15 x0 (by decide))))
  have f130 := (((x17.other W102 (Or.inl (ne_exa x15 x0 (by decide)))).other W116 (Or.inl (ne_exa x15 x0 (by decide)))).other W120 (Or.inl (ne_exa x15 x0 (by decide))))
  have f131 := (((x18.other W102 (Or.inl (ne_exa x15 x0 (by decide)))).other W116 (Or.inl (ne_exa x15 x0 (by decide)))).other W120 (Or.inl (ne_exa x15 x0 (by decide))))
  have f132 := (((x19.other W102 (Ne.symm (own_neY x0 (hw _ (List.mem_of_getElem? (i := 1) rfl)) x19))).other W116 (Ne.symm (own_neY x0 (hw _ (List.mem_of_getElem? (i := 1) rfl)) x19))).other W120 (Ne.symm (own_neY x0 (hw _ (List.mem_of_getElem? (i := 1) rfl)) x19)))
  refine own_retV X120 hx hlk hret (hb hby own_d8_113) (by decide) (by decide) ?_
  rw [e120]
  exact ⟨rfl, N120, (((((Keep.refl h0 [q, a1]).trans K0 (allS (Or.inl (List.mem_of_getElem? (i := 0) rfl)) (allS (Or.inl (List.mem_of_getElem? (i := 1) rfl)) all0))).wr W102 (Or.inl (List.mem_of_getElem? (i := 0) rfl))).wr W116 (Or.inl (List.mem_of_getElem? (i := 0) rfl))).wr W120 (Or.inl (List.mem_of_getElem? (i := 0) rfl))), ⟨f122, f123, f124, f125, f126, f121, f127, x7, f128, f129, f130, f131, f132, x20, x21⟩⟩
theorem own_ef_own_rem2a (m : MethodId) (q : Addr) : entryFrame m #[(.ref q)] 3 = mkF m 0 #[rv q, .unset, .unset] [] := by first | (simp [entryFrame, mkF, argsToLocals, Value.category]; done) | rfl
set_option maxRecDepth 65536 in
set_option maxHeartbeats 40000000 in
theorem own_rem2a (l : Launch) (Z : State) (a0 : Array Value) (hw : ∀ d ∈ tables_1, d.before a0 Z = true) (ws : List Jvm.Cond) (q : Addr) (r : Int32) (w : Int32) (hd : Int32) (tl : Int32) (b1 : Addr) (a1 : Addr) (z1 : Int32) (b2 : Addr) (a2 : Addr) (z2 : Int32) (h0 : Heap) (n0 : Nat) (Z0 : n0 ≤ h0.size) (B0 : own_Q2 Z h0 (q) (n0) (r) (w) (hd) (tl) (b1) (a1) (z1) (b2) (a2) (z2)) (hr : own_03 r) (h0p : 0 ≤ hd.toInt) (h1p : hd.toInt < z1.toInt) (h2p : z1.toInt ≤ 8) (hq2 : (hd + (1 : Int32)) = z1) :
    own_Ctr l Z (⟨"com/example/limentinus/limentinus/simulator/RecordQueue", "removeFirst", "()V"⟩ : MethodName) prog_85_method_8_code 3 none ws ({ frames := 2, cells := 0, slots := 0, locals := 26 } : Room) (({ frames := 2, cells := 0, slots := 0, locals := 26 } : Room)).cells (({ frames := 2, cells := 0, slots := 0, locals := 26 } : Room)).slots #[(.ref q)] h0 (Q_own_rem2a Z q r w hd tl b1 a1 z1 b2 a2 z2 h0 n0) := by
  refine own_enter (plainFor_of_name own_pn0) ?_
  intro p e s m below meth c s₁ X0 hx hZ hby hml hown hnm hlk hret e0
  have N0 := Fr.nil n0
  refine own_cast (own_ef_own_rem2a m q) ?_
  obtain ⟨f101, f102, f103, f104, f105, f106, f107, f108, f109, f110, f111, f112, f113, f114, f115, f116, f117, f118, f119, f120, f121, f122, f123, f124⟩ := B0
  refine own_by (g' := (mkF m 1 #[rv q, .unset, .unset] [(.ref q)])) (fun t k => XS.aloadN X0.here hx rfl (hb hby own_d8_0) rfl rfl k) ?_
  refine own_callP X0 hx hZ hown (hw _ (List.mem_of_getElem? (i := 60) rfl)) (hw _ (List.mem_of_getElem? (i := 61) rfl)) (own_selp (hw _ (List.mem_of_getElem? (i := 1) rfl)) (hw _ (List.mem_of_getElem? (i := 61) rfl)) (hw _ (List.mem_of_getElem? (i := 62) rfl)) (by decide)) (hw _ (List.mem_of_getElem? (i := 62) rfl)) (hw _ (List.mem_of_getElem? (i := 63) rfl)) (hw _ (List.mem_of_getElem? (i := 2) rfl)) (by decide) (a := q) f101 (own_fr2 l Z a0 hw [] (q) (r) (w) (hd) (tl) (b1) (a1) (z1) (b2) (a2) (z2) h0 n0 Z0 ⟨f101, f102, f103, f104, f105, f106, f107, f108, f109, f110, f111, f112, f113, f114, f115, f116, f117, f118, f119, f120, f121, f122, f123, f124⟩) 0 (by decide) (by decide) (by decide) (by decide) e0 (g := (mkF m 1 #[rv q, .unset, .unset] [(.ref q)])) rfl (by rw [hml]; rfl) (argsL := []) (rest := []) (lenOf own_pd4 rfl) rfl (by show 2 * 0 + _ ≤ _; exact Nat.le_of_eq rfl) (hb hby own_d8_1) ?_
  intro v125 T125 L125 X125 q125
  obtain ⟨rfl, N125q, e125⟩ := q125
  have N125 := Fr.app N0 N125q
  show own_Goes p e below s _ _ _ T125 (mkF m 4 #[rv q, .unset, .unset] [(.int hd)])
  refine own_by (g' := (mkF m 7 #[rv q, iv hd, iv (0 : Int32)] [])) (fun t k => XS.istoreN X125.here hx rfl (hb hby own_d8_4) rfl (l' := #[rv q, iv hd, .unset]) rfl (XS.iconst X125.here hx rfl (hb hby own_d8_5) (XS.istoreN X125.here hx rfl (hb hby own_d8_6) rfl (l' := #[rv q, iv hd, iv (0 : Int32)]) rfl k))) ?_
  rcases id hr with hr1 | hr1 | hr1 | hr1
  ·
    refine own_by (g' := (mkF m 9 #[rv q, iv hd, iv (0 : Int32)] [(.ref q), (.int (0 : Int32))])) (fun t k => XS.iloadN X125.here hx rfl (hb hby own_d8_7) rfl (XS.aloadN X125.here hx rfl (hb hby own_d8_8) rfl rfl k)) ?_
    obtain ⟨T126, X126, e126, st126⟩ := getF X125 hx hZ hown (host := "") (Or.inl (hw _ (List.mem_of_getElem? (i := 9) rfl))) Via.refl e125 f102 (g := (mkF m 9 #[rv q, iv hd, iv (0 : Int32)] [(.ref q), (.int (0 : Int32))])) rfl rfl (hb hby own_d8_9)
    refine own_by (g' := (mkF m 12 #[rv q, iv hd, iv (0 : Int32)] [(.int r), (.int (0 : Int32))])) st126 ?_
    refine own_by (g' := (mkF m 38 #[rv q, iv hd, iv (0 : Int32)] [])) (fun t k => XS.icmpYes X126.here hx rfl (pc0 := 12) (pc' := 38) rfl (hb hby own_d8_12) rfl (flt (by rw [hr1]; decide)).2.1 (by decide) (by decide) k) ?_
    exact own_rem2a_38 q r w hd tl b1 a1 z1 b2 a2 z2 ((0 : Int32)) X126 hx hZ hw hby hml hown hnm hlk hret Z0 e126 N125 (Keep.refl h0 [q, a1]) f101 f102 f103 f104 f105 f106 f107 f108 f109 f110 f111 f112 f113 f114 f115 f116 f117 f118 f119 f120 f121 f122 f123 f124 (by first | assumption | decide) (by first | assumption | decide) (by first | assumption | decide) (by first | assumption | decide) (by first | assumption | decide)
  ·
    refine own_by (g' := (mkF m 9 #[rv q, iv hd, iv (0 : Int32)] [(.ref q), (.int (0 : Int32))])) (fun t k => XS.iloadN X125.here hx rfl (hb hby own_d8_7) rfl (XS.aloadN X125.here hx rfl (hb hby own_d8_8) rfl rfl k)) ?_
    obtain ⟨T127, X127, e127, st127⟩ := getF X125 hx hZ hown (host := "") (Or.inl (hw _ (List.mem_of_getElem? (i := 9) rfl))) Via.refl e125 f102 (g := (mkF m 9 #[rv q, iv hd, iv (0 : Int32)] [(.ref q), (.int (0 : Int32))])) rfl rfl (hb hby own_d8_9)
    refine own_by (g' := (mkF m 12 #[rv q, iv hd, iv (0 : Int32)] [(.int r), (.int (0 : Int32))])) st127 ?_
    refine own_by (g' := (mkF m 16 #[rv q, iv hd, iv (0 : Int32)] [(.ref q)])) (fun t k => XS.icmpNo X127.here hx rfl (hb hby own_d8_12) rfl (tlt (by rw [hr1]; decide)).2.1 (XS.aloadN X127.here hx rfl (hb hby own_d8_15) rfl rfl k)) ?_
    obtain ⟨T128, X128, e128, st128⟩ := getF X127 hx hZ hown (host := "") (Or.inl (hw _ (List.mem_of_getElem? (i := 18) rfl))) Via.refl e127 f104 (g := (mkF m 16 #[rv q, iv hd, iv (0 : Int32)] [(.ref q)])) rfl rfl (hb hby own_d8_16)
    refine own_by (g' := (mkF m 19 #[rv q, iv hd, iv (0 : Int32)] [(.ref b1)])) st128 ?_
    obtain ⟨T129, X129, e129, st129⟩ := own_getR X128 hx hZ hown (hw _ (List.mem_of_getElem? (i := 66) rfl)) e128 f111 (g := (mkF m 19 #[rv q, iv hd, iv (0 : Int32)] [(.ref b1)])) rfl rfl (hb hby own_d8_19)
    refine own_by (g' := (mkF m 22 #[rv q, iv hd, iv (0 : Int32)] [(.ref a1)])) st129 ?_
    refine own_by (g' := (mkF m 24 #[rv q, iv hd, iv (0 : Int32)] [(.ref q), (.int hd), (.ref a1)])) (fun t k => XS.iloadN X129.here hx rfl (hb hby own_d8_22) rfl (XS.aloadN X129.here hx rfl (hb hby own_d8_23) rfl rfl k)) ?_
    obtain ⟨T130, X130, e130, st130⟩ := getF X129 hx hZ hown (host := "") (Or.inl (hw _ (List.mem_of_getElem? (i := 9) rfl))) Via.refl e129 f102 (g := (mkF m 24 #[rv q, iv hd, iv (0 : Int32)] [(.ref q), (.int hd), (.ref a1)])) rfl rfl (hb hby own_d8_24)
    refine own_by (g' := (mkF m 27 #[rv q, iv hd, iv (0 : Int32)] [(.int r), (.int hd), (.ref a1)])) st130 ?_
    refine own_by (g' := (mkF m 31 #[rv q, iv hd, iv (0 : Int32)] [.null, (.int ((hd * r) + (0 : Int32))), (.ref a1)])) (fun t k => XS.imul X130.here hx rfl (hb hby own_d8_27) rfl (XS.iloadN X130.here hx rfl (hb hby own_d8_28) rfl (XS.iadd X130.here hx rfl (hb hby own_d8_29) rfl (XS.aconstNull X130.here hx rfl (hb hby own_d8_30) k)))) ?_
    obtain ⟨c131, Ar131, S131, G131⟩ := id f113
    have hin131 : ¬ (((hd * r) + (0 : Int32)) < 0 ∨ c131.slots.size ≤ (((hd * r) + (0 : Int32))).toNatClampNeg) := inb_of S131 (own_inb h0p h1p h2p r (0 : Int32) 1 0 (by rw [hr1]; decide) (by decide) (by decide))
    obtain ⟨T131, h131, X131, e131, W131, st131⟩ := stR X130 hx hZ e130 Ar131 (j := ((hd * r) + (0 : Int32))) hin131 rfl (Or.inl rfl) (g := (mkF m 31 #[rv q, iv hd, iv (0 : Int32)] [.null, (.int ((hd * r) + (0 : Int32))), (.ref a1)])) rfl rfl (hb hby own_d8_31)
    have Al131 := own_Arz.same (⟨c131, Ar131, S131, G131⟩ : own_Arz Z _ a1 (.object "java/lang/Object") (z1 * r)) W131
    have N131 := Fr.snoc X131 N125 f115
    refine own_by (g' := (mkF m 32 #[rv q, iv hd, iv (0 : Int32)] [])) st131 ?_
    refine own_by (g' := (mkF m 9 #[rv q, iv hd, iv (1 : Int32)] [(.ref q), (.int (1 : Int32))])) (fun t k => XS.iinc X131.here hx rfl (hb hby own_d8_32) rfl (l' := #[rv q, iv hd, iv (1 : Int32)]) rfl (XS.goto X131.here hx rfl (pc0 := 35) (pc' := 7) rfl (hb hby own_d8_35) (by decide) (by decide) (XS.iloadN X131.here hx rfl (hb hby own_d8_7) rfl (XS.aloadN X131.here hx rfl (hb hby own_d8_8) rfl rfl k)))) ?_
    have f132 := (f102.other W131 (Or.inl (own_neY f101 (hw _ (List.mem_of_getElem? (i := 1) rfl)) f113)))
    obtain ⟨T133, X133, e133, st133⟩ := getF X131 hx hZ hown (host := "") (Or.inl (hw _ (List.mem_of_getElem? (i := 9) rfl))) Via.refl e131 f132 (g := (mkF m 9 #[rv q, iv hd, iv (1 : Int32)] [(.ref q), (.int (1 : Int32))])) rfl rfl (hb hby own_d8_9)
    refine own_by (g' := (mkF m 12 #[rv q, iv hd, iv (1 : Int32)] [(.int r), (.int (1 : Int32))])) st133 ?_
    refine own_by (g' := (mkF m 38 #[rv q, iv hd, iv (1 : Int32)] [])) (fun t k => XS.icmpYes X133.here hx rfl (pc0 := 12) (pc' := 38) rfl (hb hby own_d8_12) rfl (flt (by rw [hr1]; decide)).2.1 (by decide) (by decide) k) ?_
    have f134 := (f101.wr W131)
    have f135 := (f103.other W131 (Or.inl (own_neY f101 (hw _ (List.mem_of_getElem? (i := 1) rfl)) f113)))
    have f136 := (f104.other W131 (Or.inl (own_neY f101 (hw _ (List.mem_of_getElem? (i := 1) rfl)) f113)))
    have f137 := (f105.other W131 (Or.inl (own_neY f101 (hw _ (List.mem_of_getElem? (i := 1) rfl)) f113)))
    have f138 := (f106.other W131 (Or.inl (own_neY f101 (hw _ (List.mem_of_getElem? (i := 1) rfl)) f113)))
    have f139 := (f107.other W131 (Or.inl (own_neY f101 (hw _ (List.mem_of_getElem? (i := 1) rfl)) f113)))
    have f140 := (f109.wr W131)
    have f141 := (f110.other W131 (Or.inl (own_neY f109 (hw _ (List.mem_of_getElem? (i := 40) rfl)) f113)))
    have f142 := (f111.other W131 (Or.inl (own_neY f109 (hw _ (List.mem_of_getElem? (i := 40) rfl)) f113)))
    have f143 := (f112.other W131 (Or.inl (own_neY f109 (hw _ (List.mem_of_getElem? (i := 40) rfl)) f113)))
    have f144 := (f116.wr W131)
    have f145 := (f117.other W131 (Or.inl (own_neY f116 (hw _ (List.mem_of_getElem? (i := 40) rfl)) f113)))
    have f146 := (f118.other W131 (Or.inl (own_neY f116 (hw _ (List.mem_of_getElem? (i := 40) rfl)) f113)))
    have f147 := (f119.other W131 (Or.inl (own_neY f116 (hw _ (List.mem_of_getElem? (i := 40) rfl)) f113)))
    have f148 := (f120.other W131 (Ne.symm f124))
    exact own_rem2a_38 q r w hd tl b1 a1 z1 b2 a2 z2 ((1 : Int32)) X133 hx hZ hw hby hml hown hnm hlk hret Z0 e133 N131 ((Keep.refl h0 [q, a1]).wr W131 (Or.inl (List.mem_of_getElem? (i := 1) rfl))) f134 f132 f135 f136 f137 f138 f139 f108 f140 f141 f142 f143 Al131 f114 f115 f144 f145 f146 f147 f148 f121 f122 f123 f124 (by first | assumption | decide) (by first | assumption | decide) (by first | assumption | decide) (by first | assumption | decide) (by first | assumption | decide)
  ·
    refine own_by (g' := (mkF m 9 #[rv q, iv hd, iv (0 : Int32)] [(.ref q), (.int (0 : Int32))])) (fun t k => XS.iloadN X125.here hx rfl (hb hby own_d8_7) rfl (XS.aloadN X125.here hx rfl (hb hby own_d8_8) rfl rfl k)) ?_
    obtain ⟨T149, X149, e149, st149⟩ := getF X125 hx hZ hown (host := "") (Or.inl (hw _ (List.mem_of_getElem? (i := 9) rfl))) Via.refl e125 f102 (g := (mkF m 9 #[rv q, iv hd, iv (0 : Int32)] [(.ref q), (.int (0 : Int32))])) rfl rfl (hb hby own_d8_9)
    refine own_by (g' := (mkF m 12 #[rv q, iv hd, iv (0 : Int32)] [(.int r), (.int (0 : Int32))])) st149 ?_
    refine own_by (g' := (mkF m 16 #[rv q, iv hd, iv (0 : Int32)] [(.ref q)])) (fun t k => XS.icmpNo X149.here hx rfl (hb hby own_d8_12) rfl (tlt (by rw [hr1]; decide)).2.1 (XS.aloadN X149.here hx rfl (hb hby own_d8_15) rfl rfl k)) ?_
    obtain ⟨T150, X150, e150, st150⟩ := getF X149 hx hZ hown (host := "") (Or.inl (hw _ (List.mem_of_getElem? (i := 18) rfl))) Via.refl e149 f104 (g := (mkF m 16 #[rv q, iv hd, iv (0 : Int32)] [(.ref q)])) rfl rfl (hb hby own_d8_16)
    refine own_by (g' := (mkF m 19 #[rv q, iv hd, iv (0 : Int32)] [(.ref b1)])) st150 ?_
    obtain ⟨T151, X151, e151, st151⟩ := own_getR X150 hx hZ hown (hw _ (List.mem_of_getElem? (i := 66) rfl)) e150 f111 (g := (mkF m 19 #[rv q, iv hd, iv (0 : Int32)] [(.ref b1)])) rfl rfl (hb hby own_d8_19)
    refine own_by (g' := (mkF m 22 #[rv q, iv hd, iv (0 : Int32)] [(.ref a1)])) st151 ?_
    refine own_by (g' := (mkF m 24 #[rv q, iv hd, iv (0 : Int32)] [(.ref q), (.int hd), (.ref a1)])) (fun t k => XS.iloadN X151.here hx rfl (hb hby own_d8_22) rfl (XS.aloadN X151.here hx rfl (hb hby own_d8_23) rfl rfl k)) ?_
    obtain ⟨T152, X152, e152, st152⟩ := getF X151 hx hZ hown (host := "") (Or.inl (hw _ (List.mem_of_getElem? (i := 9) rfl))) Via.refl e151 f102 (g := (mkF m 24 #[rv q, iv hd, iv (0 : Int32)] [(.ref q), (.int hd), (.ref a1)])) rfl rfl (hb hby own_d8_24)
    refine own_by (g' := (mkF m 27 #[rv q, iv hd, iv (0 : Int32)] [(.int r), (.int hd), (.ref a1)])) st152 ?_
    refine own_by (g' := (mkF m 31 #[rv q, iv hd, iv (0 : Int32)] [.null, (.int ((hd * r) + (0 : Int32))), (.ref a1)])) (fun t k => XS.imul X152.here hx rfl (hb hby own_d8_27) rfl (XS.iloadN X152.here hx rfl (hb hby own_d8_28) rfl (XS.iadd X152.here hx rfl (hb hby own_d8_29) rfl (XS.aconstNull X152.here hx rfl (hb hby own_d8_30) k)))) ?_
    obtain ⟨c153, Ar153, S153, G153⟩ := id f113
    have hin153 : ¬ (((hd * r) + (0 : Int32)) < 0 ∨ c153.slots.size ≤ (((hd * r) + (0 : Int32))).toNatClampNeg) := inb_of S153 (own_inb h0p h1p h2p r (0 : Int32) 2 0 (by rw [hr1]; decide) (by decide) (by decide))
    obtain ⟨T153, h153, X153, e153, W153, st153⟩ := stR X152 hx hZ e152 Ar153 (j := ((hd * r) + (0 : Int32))) hin153 rfl (Or.inl rfl) (g := (mkF m 31 #[rv q, iv hd, iv (0 : Int32)] [.null, (.int ((hd * r) + (0 : Int32))), (.ref a1)])) rfl rfl (hb hby own_d8_31)
    have Al153 := own_Arz.same (⟨c153, Ar153, S153, G153⟩ : own_Arz Z _ a1 (.object "java/lang/Object") (z1 * r)) W153
    have N153 := Fr.snoc X153 N125 f115
    refine own_by (g' := (mkF m 32 #[rv q, iv hd, iv (0 : Int32)] [])) st153 ?_
    refine own_by (g' := (mkF m 9 #[rv q, iv hd, iv (1 : Int32)] [(.ref q), (.int (1 : Int32))])) (fun t k => XS.iinc X153.here hx rfl (hb hby own_d8_32) rfl (l' := #[rv q, iv hd, iv (1 : Int32)]) rfl (XS.goto X153.here hx rfl (pc0 := 35) (pc' := 7) rfl (hb hby own_d8_35) (by decide) (by decide) (XS.iloadN X153.here hx rfl (hb hby own_d8_7) rfl (XS.aloadN X153.here hx rfl (hb hby own_d8_8) rfl rfl k)))) ?_
    have f154 := (f102.other W153 (Or.inl (own_neY f101 (hw _ (List.mem_of_getElem? (i := 1) rfl)) f113)))
    obtain ⟨T155, X155, e155, st155⟩ := getF X153 hx hZ hown (host := "") (Or.inl (hw _ (List.mem_of_getElem? (i := 9) rfl))) Via.refl e153 f154 (g := (mkF m 9 #[rv q, iv hd, iv (1 : Int32)] [(.ref q), (.int (1 : Int32))])) rfl rfl (hb hby own_d8_9)
    refine own_by (g' := (mkF m 12 #[rv q, iv hd, iv (1 : Int32)] [(.int r), (.int (1 : Int32))])) st155 ?_
    refine own_by (g' := (mkF m 16 #[rv q, iv hd, iv (1 : Int32)] [(.ref q)])) (fun t k => XS.icmpNo X155.here hx rfl (hb hby own_d8_12) rfl (tlt (by rw [hr1]; decide)).2.1 (XS.aloadN X155.here hx rfl (hb hby own_d8_15) rfl rfl k)) ?_
    have f156 := (f104.other W153 (Or.inl (own_neY f101 (hw _ (List.mem_of_getElem? (i := 1) rfl)) f113)))
    obtain ⟨T157, X157, e157, st157⟩ := getF X155 hx hZ hown (host := "") (Or.inl (hw _ (List.mem_of_getElem? (i := 18) rfl))) Via.refl e155 f156 (g := (mkF m 16 #[rv q, iv hd, iv (1 : Int32)] [(.ref q)])) rfl rfl (hb hby own_d8_16)
    refine own_by (g' := (mkF m 19 #[rv q, iv hd, iv (1 : Int32)] [(.ref b1)])) st157 ?_
    have f158 := (f111.other W153 (Or.inl (own_neY f109 (hw _ (List.mem_of_getElem? (i := 40) rfl)) f113)))
    obtain ⟨T159, X159, e159, st159⟩ := own_getR X157 hx hZ hown (hw _ (List.mem_of_getElem? (i := 66) rfl)) e157 f158 (g := (mkF m 19 #[rv q, iv hd, iv (1 : Int32)] [(.ref b1)])) rfl rfl (hb hby own_d8_19)
    refine own_by (g' := (mkF m 22 #[rv q, iv hd, iv (1 : Int32)] [(.ref a1)])) st159 ?_
    refine own_by (g' := (mkF m 24 #[rv q, iv hd, iv (1 : Int32)] [(.ref q), (.int hd), (.ref a1)])) (fun t k => XS.iloadN X159.here hx rfl (hb hby own_d8_22) rfl (XS.aloadN X159.here hx rfl (hb hby own_d8_23) rfl rfl k)) ?_
    obtain ⟨T160, X160, e160, st160⟩ := getF X159 hx hZ hown (host := "") (Or.inl (hw _ (List.mem_of_getElem? (i := 9) rfl))) Via.refl e159 f154 (g := (mkF m 24 #[rv q, iv hd, iv (1 : Int32)] [(.ref q), (.int hd), (.ref a1)])) rfl rfl (hb hby own_d8_24)
    refine own_by (g' := (mkF m 27 #[rv q, iv hd, iv (1 : Int32)] [(.int r), (.int hd), (.ref a1)])) st160 ?_
    refine own_by (g' := (mkF m 31 #[rv q, iv hd, iv (1 : Int32)] [.null, (.int ((hd * r) + (1 : Int32))), (.ref a1)])) (fun t k => XS.imul X160.here hx rfl (hb hby own_d8_27) rfl (XS.iloadN X160.here hx rfl (hb hby own_d8_28) rfl (XS.iadd X160.here hx rfl (hb hby own_d8_29) rfl (XS.aconstNull X160.here hx rfl (hb hby own_d8_30) k)))) ?_
    obtain ⟨c161, Ar161, S161, G161⟩ := id Al153
    have hin161 : ¬ (((hd * r) + (1 : Int32)) < 0 ∨ c161.slots.size ≤ (((hd * r) + (1 : Int32))).toNatClampNeg) := inb_of S161 (own_inb h0p h1p h2p r (1 : Int32) 2 1 (by rw [hr1]; decide) (by decide) (by decide))
    obtain ⟨T161, h161, X161, e161, W161, st161⟩ := stR X160 hx hZ e160 Ar161 (j := ((hd * r) + (1 : Int32))) hin161 rfl (Or.inl rfl) (g := (mkF m 31 #[rv q, iv hd, iv (1 : Int32)] [.null, (.int ((hd * r) + (1 : Int32))), (.ref a1)])) rfl rfl (hb hby own_d8_31)
    have Al161 := own_Arz.same (⟨c161, Ar161, S161, G161⟩ : own_Arz Z _ a1 (.object "java/lang/Object") (z1 * r)) W161
    have N161 := Fr.snoc X161 N153 f115
    refine own_by (g' := (mkF m 32 #[rv q, iv hd, iv (1 : Int32)] [])) st161 ?_
    refine own_by (g' := (mkF m 9 #[rv q, iv hd, iv (2 : Int32)] [(.ref q), (.int (2 : Int32))])) (fun t k => XS.iinc X161.here hx rfl (hb hby own_d8_32) rfl (l' := #[rv q, iv hd, iv (2 : Int32)]) rfl (XS.goto X161.here hx rfl (pc0 := 35) (pc' := 7) rfl (hb hby own_d8_35) (by decide) (by decide) (XS.iloadN X161.here hx rfl (hb hby own_d8_7) rfl (XS.aloadN X161.here hx rfl (hb hby own_d8_8) rfl rfl k)))) ?_
    have f162 := (f154.other W161 (Or.inl (own_neY f101 (hw _ (List.mem_of_getElem? (i := 1) rfl)) f113)))
    obtain ⟨T163, X163, e163, st163⟩ := getF X161 hx hZ hown (host := "") (Or.inl (hw _ (List.mem_of_getElem? (i := 9) rfl))) Via.refl e161 f162 (g := (mkF m 9 #[rv q, iv hd, iv (2 : Int32)] [(.ref q), (.int (2 : Int32))])) rfl rfl (hb hby own_d8_9)
    refine own_by (g' := (mkF m 12 #[rv q, iv hd, iv (2 : Int32)] [(.int r), (.int (2 : Int32))])) st163 ?_
    refine own_by (g' := (mkF m 38 #[rv q, iv hd, iv (2 : Int32)] [])) (fun t k => XS.icmpYes X163.here hx rfl (pc0 := 12) (pc' := 38) rfl (hb hby own_d8_12) rfl (flt (by rw [hr1]; decide)).2.1 (by decide) (by decide) k) ?_
    have f164 := ((f101.wr W153).wr W161)
    have f165 := ((f103.other W153 (Or.inl (own_neY f101 (hw _ (List.mem_of_getElem? (i := 1) rfl)) f113))).other W161 (Or.inl (own_neY f101 (hw _ (List.mem_of_getElem? (i := 1) rfl)) f113)))
    have f166 := (f156.other W161 (Or.inl (own_neY f101 (hw _ (List.mem_of_getElem? (i := 1) rfl)) f113)))
    have f167 := ((f105.other W153 (Or.inl (own_neY f101 (hw _ (List.mem_of_getElem? (i := 1) rfl)) f113))).other W161 (Or.inl (own_neY f101 (hw _ (List.mem_of_getElem? (i := 1) rfl)) f113)))
    have f168 := ((f106.other W153 (Or.inl (own_neY f101 (hw _ (List.mem_of_getElem? (i := 1) rfl)) f113))).other W161 (Or.inl (own_neY f101 (hw _ (List.mem_of_getElem? (i := 1) rfl)) f113)))
    have f169 := ((f107.other W153 (Or.inl (own_neY f101 (hw _ (List.mem_of_getElem? (i := 1) rfl)) f113))).other W161 (Or.inl (own_neY f101 (hw _ (List.mem_of_getElem? (i := 1) rfl)) f113)))
    have f170 := ((f109.wr W153).wr W161)
    have f171 := ((f110.other W153 (Or.inl (own_neY f109 (hw _ (List.mem_of_getElem? (i := 40) rfl)) f113))).other W161 (Or.inl (own_neY f109 (hw _ (List.mem_of_getElem? (i := 40) rfl)) f113)))
    have f172 := (f158.other W161 (Or.inl (own_neY f109 (hw _ (List.mem_of_getElem? (i := 40) rfl)) f113)))
    have f173 := ((f112.other W153 (Or.inl (own_neY f109 (hw _ (List.mem_of_getElem? (i := 40) rfl)) f113))).other W161 (Or.inl (own_neY f109 (hw _ (List.mem_of_getElem? (i := 40) rfl)) f113)))
    have f174 := ((f116.wr W153).wr W161)
    have f175 := ((f117.other W153 (Or.inl (own_neY f116 (hw _ (List.mem_of_getElem? (i := 40) rfl)) f113))).other W161 (Or.inl (own_neY f116 (hw _ (List.mem_of_getElem? (i := 40) rfl)) f113)))
    have f176 := ((f118.other W153 (Or.inl (own_neY f116 (hw _ (List.mem_of_getElem? (i := 40) rfl)) f113))).other W161 (Or.inl (own_neY f116 (hw _ (List.mem_of_getElem? (i := 40) rfl)) f113)))
    have f177 := ((f119.other W153 (Or.inl (own_neY f116 (hw _ (List.mem_of_getElem? (i := 40) rfl)) f113))).other W161 (Or.inl (own_neY f116 (hw _ (List.mem_of_getElem? (i := 40) rfl)) f113)))
    have f178 := ((f120.other W153 (Ne.symm f124)).other W161 (Ne.symm f124))
    exact own_rem2a_38 q r w hd tl b1 a1 z1 b2 a2 z2 ((2 : Int32)) X163 hx hZ hw hby hml hown hnm hlk hret Z0 e163 N161 (((Keep.refl h0 [q, a1]).wr W153 (Or.inl (List.mem_of_getElem? (i := 1) rfl))).wr W161 (Or.inl (List.mem_of_getElem? (i := 1) rfl))) f164 f162 f165 f166 f167 f168 f169 f108 f170 f171 f172 f173 Al161 f114 f115 f174 f175 f176 f177 f178 f121 f122 f123 f124 (by first | assumption | decide) (by first | assumption | decide) (by first | assumption | decide) (by first | assumption | decide) (by first | assumption | decide)
  ·
    refine own_by (g' := (mkF m 9 #[rv q, iv hd, iv (0 : Int32)] [(.ref q), (.int (0 : Int32))])) (fun t k => XS.iloadN X125.here hx rfl (hb hby own_d8_7) rfl (XS.aloadN X125.here hx rfl (hb hby own_d8_8) rfl rfl k)) ?_
    obtain ⟨T179, X179, e179, st179⟩ := getF X125 hx hZ hown (host := "") (Or.inl (hw _ (List.mem_of_getElem? (i := 9) rfl))) Via.refl e125 f102 (g := (mkF m 9 #[rv q, iv hd, iv (0 : Int32)] [(.ref q), (.int (0 : Int32))])) rfl rfl (hb hby own_d8_9)
    refine own_by (g' := (mkF m 12 #[rv q, iv hd, iv (0 : Int32)] [(.int r), (.int (0 : Int32))])) st179 ?_
    refine own_by (g' := (mkF m 16 #[rv q, iv hd, iv (0 : Int32)] [(.ref q)])) (fun t k => XS.icmpNo X179.here hx rfl (hb hby own_d8_12) rfl (tlt (by rw [hr1]; decide)).2.1 (XS.aloadN X179.here hx rfl (hb hby own_d8_15) rfl rfl k)) ?_
    obtain ⟨T180, X180, e180, st180⟩ := getF X179 hx hZ hown (host := "") (Or.inl (hw _ (List.mem_of_getElem? (i := 18) rfl))) Via.refl e179 f104 (g := (mkF m 16 #[rv q, iv hd, iv (0 : Int32)] [(.ref q)])) rfl rfl (hb hby own_d8_16)
    refine own_by (g' := (mkF m 19 #[rv q, iv hd, iv (0 : Int32)] [(.ref b1)])) st180 ?_
    obtain ⟨T181, X181, e181, st181⟩ := own_getR X180 hx hZ hown (hw _ (List.mem_of_getElem? (i := 66) rfl)) e180 f111 (g := (mkF m 19 #[rv q, iv hd, iv (0 : Int32)] [(.ref b1)])) rfl rfl (hb hby own_d8_19)
    refine own_by (g' := (mkF m 22 #[rv q, iv hd, iv (0 : Int32)] [(.ref a1)])) st181 ?_
    refine own_by (g' := (mkF m 24 #[rv q, iv hd, iv (0 : Int32)] [(.ref q), (.int hd), (.ref a1)])) (fun t k => XS.iloadN X181.here hx rfl (hb hby own_d8_22) rfl (XS.aloadN X181.here hx rfl (hb hby own_d8_23) rfl rfl k)) ?_
    obtain ⟨T182, X182, e182, st182⟩ := getF X181 hx hZ hown (host := "") (Or.inl (hw _ (List.mem_of_getElem? (i := 9) rfl))) Via.refl e181 f102 (g := (mkF m 24 #[rv q, iv hd, iv (0 : Int32)] [(.ref q), (.int hd), (.ref a1)])) rfl rfl (hb hby own_d8_24)
    refine own_by (g' := (mkF m 27 #[rv q, iv hd, iv (0 : Int32)] [(.int r), (.int hd), (.ref a1)])) st182 ?_
    refine own_by (g' := (mkF m 31 #[rv q, iv hd, iv (0 : Int32)] [.null, (.int ((hd * r) + (0 : Int32))), (.ref a1)])) (fun t k => XS.imul X182.here hx rfl (hb hby own_d8_27) rfl (XS.iloadN X182.here hx rfl (hb hby own_d8_28) rfl (XS.iadd X182.here hx rfl (hb hby own_d8_29) rfl (XS.aconstNull X182.here hx rfl (hb hby own_d8_30) k)))) ?_
    obtain ⟨c183, Ar183, S183, G183⟩ := id f113
    have hin183 : ¬ (((hd * r) + (0 : Int32)) < 0 ∨ c183.slots.size ≤ (((hd * r) + (0 : Int32))).toNatClampNeg) := inb_of S183 (own_inb h0p h1p h2p r (0 : Int32) 3 0 (by rw [hr1]; decide) (by decide) (by decide))
    obtain ⟨T183, h183, X183, e183, W183, st183⟩ := stR X182 hx hZ e182 Ar183 (j := ((hd * r) + (0 : Int32))) hin183 rfl (Or.inl rfl) (g := (mkF m 31 #[rv q, iv hd, iv (0 : Int32)] [.null, (.int ((hd * r) + (0 : Int32))), (.ref a1)])) rfl rfl (hb hby own_d8_31)
    have Al183 := own_Arz.same (⟨c183, Ar183, S183, G183⟩ : own_Arz Z _ a1 (.object "java/lang/Object") (z1 * r)) W183
    have N183 := Fr.snoc X183 N125 f115
    refine own_by (g' := (mkF m 32 #[rv q, iv hd, iv (0 : Int32)] [])) st183 ?_
    refine own_by (g' := (mkF m 9 #[rv q, iv hd, iv (1 : Int32)] [(.ref q), (.int (1 : Int32))])) (fun t k => XS.iinc X183.here hx rfl (hb hby own_d8_32) rfl (l' := #[rv q, iv hd, iv (1 : Int32)]) rfl (XS.goto X183.here hx rfl (pc0 := 35) (pc' := 7) rfl (hb hby own_d8_35) (by decide) (by decide) (XS.iloadN X183.here hx rfl (hb hby own_d8_7) rfl (XS.aloadN X183.here hx rfl (hb hby own_d8_8) rfl rfl k)))) ?_
    have f184 := (f102.other W183 (Or.inl (own_neY f101 (hw _ (List.mem_of_getElem? (i := 1) rfl)) f113)))
    obtain ⟨T185, X185, e185, st185⟩ := getF X183 hx hZ hown (host := "") (Or.inl (hw _ (List.mem_of_getElem? (i := 9) rfl))) Via.refl e183 f184 (g := (mkF m 9 #[rv q, iv hd, iv (1 : Int32)] [(.ref q), (.int (1 : Int32))])) rfl rfl (hb hby own_d8_9)
    refine own_by (g' := (mkF m 12 #[rv q, iv hd, iv (1 : Int32)] [(.int r), (.int (1 : Int32))])) st185 ?_
    refine own_by (g' := (mkF m 16 #[rv q, iv hd, iv (1 : Int32)] [(.ref q)])) (fun t k => XS.icmpNo X185.here hx rfl (hb hby own_d8_12) rfl (tlt (by rw [hr1]; decide)).2.1 (XS.aloadN X185.here hx rfl (hb hby own_d8_15) rfl rfl k)) ?_
    have f186 := (f104.other W183 (Or.inl (own_neY f101 (hw _ (List.mem_of_getElem? (i := 1) rfl)) f113)))
    obtain ⟨T187, X187, e187, st187⟩ := getF X185 hx hZ hown (host := "") (Or.inl (hw _ (List.mem_of_getElem? (i := 18) rfl))) Via.refl e185 f186 (g := (mkF m 16 #[rv q, iv hd, iv (1 : Int32)] [(.ref q)])) rfl rfl (hb hby own_d8_16)
    refine own_by (g' := (mkF m 19 #[rv q, iv hd, iv (1 : Int32)] [(.ref b1)])) st187 ?_
    have f188 := (f111.other W183 (Or.inl (own_neY f109 (hw _ (List.mem_of_getElem? (i := 40) rfl)) f113)))
    obtain ⟨T189, X189, e189, st189⟩ := own_getR X187 hx hZ hown (hw _ (List.mem_of_getElem? (i := 66) rfl)) e187 f188 (g := (mkF m 19 #[rv q, iv hd, iv (1 : Int32)] [(.ref b1)])) rfl rfl (hb hby own_d8_19)
    refine own_by (g' := (mkF m 22 #[rv q, iv hd, iv (1 : Int32)] [(.ref a1)])) st189 ?_
    refine own_by (g' := (mkF m 24 #[rv q, iv hd, iv (1 : Int32)] [(.ref q), (.int hd), (.ref a1)])) (fun t k => XS.iloadN X189.here hx rfl (hb hby own_d8_22) rfl (XS.aloadN X189.here hx rfl (hb hby own_d8_23) rfl rfl k)) ?_
    obtain ⟨T190, X190, e190, st190⟩ := getF X189 hx hZ hown (host := "") (Or.inl (hw _ (List.mem_of_getElem? (i := 9) rfl))) Via.refl e189 f184 (g := (mkF m 24 #[rv q, iv hd, iv (1 : Int32)] [(.ref q), (.int hd), (.ref a1)])) rfl rfl (hb hby own_d8_24)
    refine own_by (g' := (mkF m 27 #[rv q, iv hd, iv (1 : Int32)] [(.int r), (.int hd), (.ref a1)])) st190 ?_
    refine own_by (g' := (mkF m 31 #[rv q, iv hd, iv (1 : Int32)] [.null, (.int ((hd * r) + (1 : Int32))), (.ref a1)])) (fun t k => XS.imul X190.here hx rfl (hb hby own_d8_27) rfl (XS.iloadN X190.here hx rfl (hb hby own_d8_28) rfl (XS.iadd X190.here hx rfl (hb hby own_d8_29) rfl (XS.aconstNull X190.here hx rfl (hb hby own_d8_30) k)))) ?_
    obtain ⟨c191, Ar191, S191, G191⟩ := id Al183
    have hin191 : ¬ (((hd * r) + (1 : Int32)) < 0 ∨ c191.slots.size ≤ (((hd * r) + (1 : Int32))).toNatClampNeg) := inb_of S191 (own_inb h0p h1p h2p r (1 : Int32) 3 1 (by rw [hr1]; decide) (by decide) (by decide))
    obtain ⟨T191, h191, X191, e191, W191, st191⟩ := stR X190 hx hZ e190 Ar191 (j := ((hd * r) + (1 : Int32))) hin191 rfl (Or.inl rfl) (g := (mkF m 31 #[rv q, iv hd, iv (1 : Int32)] [.null, (.int ((hd * r) + (1 : Int32))), (.ref a1)])) rfl rfl (hb hby own_d8_31)
    have Al191 := own_Arz.same (⟨c191, Ar191, S191, G191⟩ : own_Arz Z _ a1 (.object "java/lang/Object") (z1 * r)) W191
    have N191 := Fr.snoc X191 N183 f115
    refine own_by (g' := (mkF m 32 #[rv q, iv hd, iv (1 : Int32)] [])) st191 ?_
    refine own_by (g' := (mkF m 9 #[rv q, iv hd, iv (2 : Int32)] [(.ref q), (.int (2 : Int32))])) (fun t k => XS.iinc X191.here hx rfl (hb hby own_d8_32) rfl (l' := #[rv q, iv hd, iv (2 : Int32)]) rfl (XS.goto X191.here hx rfl (pc0 := 35) (pc' := 7) rfl (hb hby own_d8_35) (by decide) (by decide) (XS.iloadN X191.here hx rfl (hb hby own_d8_7) rfl (XS.aloadN X191.here hx rfl (hb hby own_d8_8) rfl rfl k)))) ?_
    have f192 := (f184.other W191 (Or.inl (own_neY f101 (hw _ (List.mem_of_getElem? (i := 1) rfl)) f113)))
    obtain ⟨T193, X193, e193, st193⟩ := getF X191 hx hZ hown (host := "") (Or.inl (hw _ (List.mem_of_getElem? (i := 9) rfl))) Via.refl e191 f192 (g := (mkF m 9 #[rv q, iv hd, iv (2 : Int32)] [(.ref q), (.int (2 : Int32))])) rfl rfl (hb hby own_d8_9)
    refine own_by (g' := (mkF m 12 #[rv q, iv hd, iv (2 : Int32)] [(.int r), (.int (2 : Int32))])) st193 ?_
    refine own_by (g' := (mkF m 16 #[rv q, iv hd, iv (2 : Int32)] [(.ref q)])) (fun t k => XS.icmpNo X193.here hx rfl (hb hby own_d8_12) rfl (tlt (by rw [hr1]; decide)).2.1 (XS.aloadN X193.here hx rfl (hb hby own_d8_15) rfl rfl k)) ?_
    have f194 := (f186.other W191 (Or.inl (own_neY f101 (hw _ (List.mem_of_getElem? (i := 1) rfl)) f113)))
    obtain ⟨T195, X195, e195, st195⟩ := getF X193 hx hZ hown (host := "") (Or.inl (hw _ (List.mem_of_getElem? (i := 18) rfl))) Via.refl e193 f194 (g := (mkF m 16 #[rv q, iv hd, iv (2 : Int32)] [(.ref q)])) rfl rfl (hb hby own_d8_16)
    refine own_by (g' := (mkF m 19 #[rv q, iv hd, iv (2 : Int32)] [(.ref b1)])) st195 ?_
    have f196 := (f188.other W191 (Or.inl (own_neY f109 (hw _ (List.mem_of_getElem? (i := 40) rfl)) f113)))
    obtain ⟨T197, X197, e197, st197⟩ := own_getR X195 hx hZ hown (hw _ (List.mem_of_getElem? (i := 66) rfl)) e195 f196 (g := (mkF m 19 #[rv q, iv hd, iv (2 : Int32)] [(.ref b1)])) rfl rfl (hb hby own_d8_19)
    refine own_by (g' := (mkF m 22 #[rv q, iv hd, iv (2 : Int32)] [(.ref a1)])) st197 ?_
    refine own_by (g' := (mkF m 24 #[rv q, iv hd, iv (2 : Int32)] [(.ref q), (.int hd), (.ref a1)])) (fun t k => XS.iloadN X197.here hx rfl (hb hby own_d8_22) rfl (XS.aloadN X197.here hx rfl (hb hby own_d8_23) rfl rfl k)) ?_
    obtain ⟨T198, X198, e198, st198⟩ := getF X197 hx hZ hown (host := "") (Or.inl (hw _ (List.mem_of_getElem? (i := 9) rfl))) Via.refl e197 f192 (g := (mkF m 24 #[rv q, iv hd, iv (2 : Int32)] [(.ref q), (.int hd), (.ref a1)])) rfl rfl (hb hby own_d8_24)
    refine own_by (g' := (mkF m 27 #[rv q, iv hd, iv (2 : Int32)] [(.int r), (.int hd), (.ref a1)])) st198 ?_
    refine own_by (g' := (mkF m 31 #[rv q, iv hd, iv (2 : Int32)] [.null, (.int ((hd * r) + (2 : Int32))), (.ref a1)])) (fun t k => XS.imul X198.here hx rfl (hb hby own_d8_27) rfl (XS.iloadN X198.here hx rfl (hb hby own_d8_28) rfl (XS.iadd X198.here hx rfl (hb hby own_d8_29) rfl (XS.aconstNull X198.here hx rfl (hb hby own_d8_30) k)))) ?_
    obtain ⟨c199, Ar199, S199, G199⟩ := id Al191
    have hin199 : ¬ (((hd * r) + (2 : Int32)) < 0 ∨ c199.slots.size ≤ (((hd * r) + (2 : Int32))).toNatClampNeg) := inb_of S199 (own_inb h0p h1p h2p r (2 : Int32) 3 2 (by rw [hr1]; decide) (by decide) (by decide))
    obtain ⟨T199, h199, X199, e199, W199, st199⟩ := stR X198 hx hZ e198 Ar199 (j := ((hd * r) + (2 : Int32))) hin199 rfl (Or.inl rfl) (g := (mkF m 31 #[rv q, iv hd, iv (2 : Int32)] [.null, (.int ((hd * r) + (2 : Int32))), (.ref a1)])) rfl rfl (hb hby own_d8_31)
    have Al199 := own_Arz.same (⟨c199, Ar199, S199, G199⟩ : own_Arz Z _ a1 (.object "java/lang/Object") (z1 * r)) W199
    have N199 := Fr.snoc X199 N191 f115
    refine own_by (g' := (mkF m 32 #[rv q, iv hd, iv (2 : Int32)] [])) st199 ?_
    refine own_by (g' := (mkF m 9 #[rv q, iv hd, iv (3 : Int32)] [(.ref q), (.int (3 : Int32))])) (fun t k => XS.iinc X199.here hx rfl (hb hby own_d8_32) rfl (l' := #[rv q, iv hd, iv (3 : Int32)]) rfl (XS.goto X199.here hx rfl (pc0 := 35) (pc' := 7) rfl (hb hby own_d8_35) (by decide) (by decide) (XS.iloadN X199.here hx rfl (hb hby own_d8_7) rfl (XS.aloadN X199.here hx rfl (hb hby own_d8_8) rfl rfl k)))) ?_
    have f200 := (f192.other W199 (Or.inl (own_neY f101 (hw _ (List.mem_of_getElem? (i := 1) rfl)) f113)))
    obtain ⟨T201, X201, e201, st201⟩ := getF X199 hx hZ hown (host := "") (Or.inl (hw _ (List.mem_of_getElem? (i := 9) rfl))) Via.refl e199 f200 (g := (mkF m 9 #[rv q, iv hd, iv (3 : Int32)] [(.ref q), (.int (3 : Int32))])) rfl rfl (hb hby own_d8_9)
    refine own_by (g' := (mkF m 12 #[rv q, iv hd, iv (3 : Int32)] [(.int r), (.int (3 : Int32))])) st201 ?_
    refine own_by (g' := (mkF m 38 #[rv q, iv hd, iv (3 : Int32)] [])) (fun t k => XS.icmpYes X201.here hx rfl (pc0 := 12) (pc' := 38) rfl (hb hby own_d8_12) rfl (flt (by rw [hr1]; decide)).2.1 (by decide) (by decide) k) ?_
    have f202 := (((f101.wr W183).wr W191).wr W199)
    have f203 := (((f103.other W183 (Or.inl (own_neY f101 (hw _ (List.mem_of_getElem? (i := 1) rfl)) f113))).other W191 (Or.inl (own_neY f101 (hw _ (List.mem_of_getElem? (i := 1) rfl)) f113))).other W199 (Or.inl (own_neY f101 (hw _ (List.mem_of_getElem? (i := 1) rfl)) f113)))
    have f204 := (f194.other W199 (Or.inl (own_neY f101 (hw _ (List.mem_of_getElem? (i := 1) rfl)) f113)))
    have f205 := (((f105.other W183 (Or.inl (own_neY f101 (hw _ (List.mem_of_getElem? (i := 1) rfl)) f113))).other W191 (Or.inl (own_neY f101 (hw _ (List.mem_of_getElem? (i := 1) rfl)) f113))).other W199 (Or.inl (own_neY f101 (hw _ (List.mem_of_getElem? (i := 1) rfl)) f113)))
    have f206 := (((f106.other W183 (Or.inl (own_neY f101 (hw _ (List.mem_of_getElem? (i := 1) rfl)) f113))).other W191 (Or.inl (own_neY f101 (hw _ (List.mem_of_getElem? (i := 1) rfl)) f113))).other W199 (Or.inl (own_neY f101 (hw _ (List.mem_of_getElem? (i := 1) rfl)) f113)))
    have f207 := (((f107.other W183 (Or.inl (own_neY f101 (hw _ (List.mem_of_getElem? (i := 1) rfl)) f113))).other W191 (Or.inl (own_neY f101 (hw _ (List.mem_of_getElem? (i := 1) rfl)) f113))).other W199 (Or.inl (own_neY f101 (hw _ (List.mem_of_getElem? (i := 1) rfl)) f113)))
    have f208 := (((f109.wr W183).wr W191).wr W199)
    have f209 := (((f110.other W183 (Or.inl (own_neY f109 (hw _ (List.mem_of_getElem? (i := 40) rfl)) f113))).other W191 (Or.inl (own_neY f109 (hw _ (List.mem_of_getElem? (i := 40) rfl)) f113))).other W199 (Or.inl (own_neY f109 (hw _ (List.mem_of_getElem? (i := 40) rfl)) f113)))
    have f210 := (f196.other W199 (Or.inl (own_neY f109 (hw _ (List.mem_of_getElem? (i := 40) rfl)) f113)))
    have f211 := (((f112.other W183 (Or.inl (own_neY f109 (hw _ (List.mem_of_getElem? (i := 40) rfl)) f113))).other W191 (Or.inl (own_neY f109 (hw _ (List.mem_of_getElem? (i := 40) rfl)) f113))).other W199 (Or.inl (own_neY f109 (hw _ (List.mem_of_getElem? (i := 40) rfl)) f113)))
    have f212 := (((f116.wr W183).wr W191).wr W199)
    have f213 := (((f117.other W183 (Or.inl (own_neY f116 (hw _ (List.mem_of_getElem? (i := 40) rfl)) f113))).other W191 (Or.inl (own_neY f116 (hw _ (List.mem_of_getElem? (i := 40) rfl)) f113))).other W199 (Or.inl (own_neY f116 (hw _ (List.mem_of_getElem? (i := 40) rfl)) f113)))
    have f214 := (((f118.other W183 (Or.inl (own_neY f116 (hw _ (List.mem_of_getElem? (i := 40) rfl)) f113))).other W191 (Or.inl (own_neY f116 (hw _ (List.mem_of_getElem? (i := 40) rfl)) f113))).other W199 (Or.inl (own_neY f116 (hw _ (List.mem_of_getElem? (i := 40) rfl)) f113)))
    have f215 := (((f119.other W183 (Or.inl (own_neY f116 (hw _ (List.mem_of_getElem? (i := 40) rfl)) f113))).other W191 (Or.inl (own_neY f116 (hw _ (List.mem_of_getElem? (i := 40) rfl)) f113))).other W199 (Or.inl (own_neY f116 (hw _ (List.mem_of_getElem? (i := 40) rfl)) f113)))
    have f216 := (((f120.other W183 (Ne.symm f124)).other W191 (Ne.symm f124)).other W199 (Ne.symm f124))
    exact own_rem2a_38 q r w hd tl b1 a1 z1 b2 a2 z2 ((3 : Int32)) X201 hx hZ hw hby hml hown hnm hlk hret Z0 e201 N199 ((((Keep.refl h0 [q, a1]).wr W183 (Or.inl (List.mem_of_getElem? (i := 1) rfl))).wr W191 (Or.inl (List.mem_of_getElem? (i := 1) rfl))).wr W199 (Or.inl (List.mem_of_getElem? (i := 1) rfl))) f202 f200 f203 f204 f205 f206 f207 f108 f208 f209 f210 f211 Al199 f114 f115 f212 f213 f214 f215 f216 f121 f122 f123 f124 (by first | assumption | decide) (by first | assumption | decide) (by first | assumption | decide) (by first | assumption | decide) (by first | assumption | decide)
def Q_own_rem3n (Z : State) (q : Addr) (r : Int32) (w : Int32) (hd : Int32) (tl : Int32) (b1 : Addr) (a1 : Addr) (z1 : Int32) (b2 : Addr) (a2 : Addr) (z2 : Int32) (b3 : Addr) (a3 : Addr) (z3 : Int32) (h0 : Heap) (n0 : Nat) (v : Option Value) (h : Heap) (L : List Loc) : Prop := v = none ∧ Fr n0 L ∧ Keep h0 h [q, a1] ∧ own_Q3 Z h (q) (n0) (r) (w) ((hd + (1 : Int32))) (tl) (b1) (a1) (z1) (b2) (a2) (z2) (b3) (a3) (z3)
set_option maxRecDepth 65536 in
set_option maxHeartbeats 40000000 in
theorem own_rem3n_38 {p : Program} {l : Launch} {e : Env} {s : State} {m : MethodId} {args : Array Value} {below : List Frame} {meth : Method} {c : Code} {T0 : State} {locs : List Loc} {Z : State} {a0 : Array Value} {h0 h1 : Heap} {n0 : Nat} (q : Addr) (r : Int32) (w : Int32) (hd : Int32) (tl : Int32) (b1 : Addr) (a1 : Addr) (z1 : Int32) (b2 : Addr) (a2 : Addr) (z2 : Int32) (b3 : Addr) (a3 : Addr) (z3 : Int32) (ix : Int32)
    (X0 : Stand p l e ({ frames := 2, cells := 0, slots := 0, locals := 26 } : Room) s m args below meth c T0 locs 0 0) (hx : p.tables.exec = Jvm.exec) (hZ : Z.Warmed39 s.vm) (hw : ∀ d ∈ tables_1, d.before a0 Z = true) (hby : c.code = prog_85_method_8_code) (hml : c.maxLocals = 3) (hown : s.vm.findClass "com/example/limentinus/limentinus/simulator/RecordQueue" = some m.cls) (hnm : meth.name = "removeFirst") (hlk : meth.locks = false) (hret : meth.sig.returnType = none) (Z0 : n0 ≤ h0.size) (e0 : T0.heap = h1) (N0 : Fr n0 locs) (K0 : Keep h0 h1 [q, a1]) (x0 : Exa Z h1 q "com/example/limentinus/limentinus/simulator/RecordQueue") (x1 : Fld Z h1 q "com/example/limentinus/limentinus/simulator/RecordQueue" "references" "I" (.int r)) (x2 : Fld Z h1 q "com/example/limentinus/limentinus/simulator/RecordQueue" "numbers" "I" (.int w)) (x3 : Fld Z h1 q "com/example/limentinus/limentinus/simulator/RecordQueue" "first" "Lcom/example/limentinus/limentinus/simulator/RecordQueue$Block;" (.ref b1)) (x4 : Fld Z h1 q "com/example/limentinus/limentinus/simulator/RecordQueue" "last" "Lcom/example/limentinus/limentinus/simulator/RecordQueue$Block;" (.ref b3)) (x5 : Fld Z h1 q "com/example/limentinus/limentinus/simulator/RecordQueue" "head" "I" (.int hd)) (x6 : Fld Z h1 q "com/example/limentinus/limentinus/simulator/RecordQueue" "tail" "I" (.int tl)) (x7 : n0 ≤ q) (x8 : Exa Z h1 b1 "com/example/limentinus/limentinus/simulator/RecordQueue$Block") (x9 : Fld Z h1 b1 "com/example/limentinus/limentinus/simulator/RecordQueue$Block" "records" "I" (.int z1)) (x10 : Fld Z h1 b1 "com/example/limentinus/limentinus/simulator/RecordQueue$Block" "references" "[Ljava/lang/Object;" (.ref a1)) (x11 : Fld Z h1 b1 "com/example/limentinus/limentinus/simulator/RecordQueue$Block" "next" "Lcom/example/limentinus/limentinus/simulator/RecordQueue$Block;" (.ref b2)) (x12 : own_Arz Z h1 a1 (.object "java/lang/Object") (z1 * r)) (x13 : n0 ≤ b1) (x14 : n0 ≤ a1) (x15 : Exa Z h1 b2 "com/example/limentinus/limentinus/simulator/RecordQueue$Block") (x16 : Fld Z h1 b2 "com/example/limentinus/limentinus/simulator/RecordQueue$Block" "records" "I" (.int z2)) (x17 : Fld Z h1 b2 "com/example/limentinus/limentinus/simulator/RecordQueue$Block" "references" "[Ljava/lang/Object;" (.ref a2)) (x18 : Fld Z h1 b2 "com/example/limentinus/limentinus/simulator/RecordQueue$Block" "next" "Lcom/example/limentinus/limentinus/simulator/RecordQueue$Block;" (.ref b3)) (x19 : own_Arz Z h1 a2 (.object "java/lang/Object") (z2 * r)) (x20 : n0 ≤ b2) (x21 : n0 ≤ a2) (x22 : Exa Z h1 b3 "com/example/limentinus/limentinus/simulator/RecordQueue$Block") (x23 : Fld Z h1 b3 "com/example/limentinus/limentinus/simulator/RecordQueue$Block" "records" "I" (.int z3)) (x24 : Fld Z h1 b3 "com/example/limentinus/limentinus/simulator/RecordQueue$Block" "references" "[Ljava/lang/Object;" (.ref a3)) (x25 : Fld Z h1 b3 "com/example/limentinus/limentinus/simulator/RecordQueue$Block" "next" "Lcom/example/limentinus/limentinus/simulator/RecordQueue$Block;" .null) (x26 : own_Arz Z h1 a3 (.object "java/lang/Object") (z3 * r)) (x27 : n0 ≤ b3) (x28 : n0 ≤ a3) (x29 : b1 ≠ b2) (x30 : b1 ≠ b3) (x31 : b2 ≠ b3) (x32 : a1 ≠ a2) (x33 : a1 ≠ a3) (x34 : a2 ≠ a3) (hr : own_03 r) (h0p : 0 ≤ hd.toInt) (h1p : hd.toInt < z1.toInt) (h2p : z1.toInt ≤ 8) (hq2 : ¬ (hd + (1 : Int32)) = z1) :
    own_Goes p e below s (({ frames := 2, cells := 0, slots := 0, locals := 26 } : Room)).cells (({ frames := 2, cells := 0, slots := 0, locals := 26 } : Room)).slots (Q_own_rem3n Z q r w hd tl b1 a1 z1 b2 a2 z2 b3 a3 z3 h0 n0) T0 (mkF m 38 #[rv q, iv hd, iv ix] []) := by
  refine own_by (g' := (mkF m 40 #[rv q, iv hd, iv ix] [(.ref q), (.ref q)])) (fun t k => XS.aloadN X0.here hx rfl (hb hby own_d8_38) rfl rfl (XS.dup X0.here hx rfl (hb hby own_d8_39) rfl rfl k)) ?_
  obtain ⟨T101, X101, e101, st101⟩ := getF X0 hx hZ hown (host := "") (Or.inl (hw _ (List.mem_of_getElem? (i := 22) rfl))) Via.refl e0 x5 (g := (mkF m 40 #[rv q, iv hd, iv ix] [(.ref q), (.ref q)])) rfl rfl (hb hby own_d8_40)
  refine own_by (g' := (mkF m 43 #[rv q, iv hd, iv ix] [(.int hd), (.ref q)])) st101 ?_
  refine own_by (g' := (mkF m 45 #[rv q, iv hd, iv ix] [(.int (hd + (1 : Int32))), (.ref q)])) (fun t k => XS.iconst X101.here hx rfl (hb hby own_d8_43) (XS.iadd X101.here hx rfl (hb hby own_d8_44) rfl k)) ?_
  obtain ⟨T102, h102, X102, e102, W102, st102⟩ := putF X101 hx hZ hown (host := "") (Or.inl (hw _ (List.mem_of_getElem? (i := 22) rfl))) Via.refl e101 x5 x0 (Or.inl (hw _ (List.mem_of_getElem? (i := 23) rfl))) (hw _ (List.mem_of_getElem? (i := 1) rfl)) (ty := .int) (by decide) rfl rfl (g := (mkF m 45 #[rv q, iv hd, iv ix] [(.int (hd + (1 : Int32))), (.ref q)])) rfl rfl (hb hby own_d8_45)
  have f103 := x5.same W102
  have N102 := Fr.snoc X102 N0 x7
  refine own_by (g' := (mkF m 48 #[rv q, iv hd, iv ix] [])) st102 ?_
  refine own_by (g' := (mkF m 49 #[rv q, iv hd, iv ix] [(.ref q)])) (fun t k => XS.aloadN X102.here hx rfl (hb hby own_d8_48) rfl rfl k) ?_
  have f104 := (x3.other W102 (Or.inr (slot_ne (Or.inl (hw _ (List.mem_of_getElem? (i := 19) rfl))) (Or.inl (hw _ (List.mem_of_getElem? (i := 23) rfl))) (by decide) (t := (.object "com/example/limentinus/limentinus/simulator/RecordQueue$Block")) (t' := .int) (by decide) (by decide))))
  obtain ⟨T105, X105, e105, st105⟩ := getF X102 hx hZ hown (host := "") (Or.inl (hw _ (List.mem_of_getElem? (i := 18) rfl))) Via.refl e102 f104 (g := (mkF m 49 #[rv q, iv hd, iv ix] [(.ref q)])) rfl rfl (hb hby own_d8_49)
  refine own_by (g' := (mkF m 52 #[rv q, iv hd, iv ix] [(.ref b1)])) st105 ?_
  refine own_by (g' := (mkF m 53 #[rv q, iv hd, iv ix] [(.ref q), (.ref b1)])) (fun t k => XS.aloadN X105.here hx rfl (hb hby own_d8_52) rfl rfl k) ?_
  have f106 := (x4.other W102 (Or.inr (slot_ne (Or.inl (hw _ (List.mem_of_getElem? (i := 21) rfl))) (Or.inl (hw _ (List.mem_of_getElem? (i := 23) rfl))) (by decide) (t := (.object "com/example/limentinus/limentinus/simulator/RecordQueue$Block")) (t' := .int) (by decide) (by decide))))
  obtain ⟨T107, X107, e107, st107⟩ := getF X105 hx hZ hown (host := "") (Or.inl (hw _ (List.mem_of_getElem? (i := 20) rfl))) Via.refl e105 f106 (g := (mkF m 53 #[rv q, iv hd, iv ix] [(.ref q), (.ref b1)])) rfl rfl (hb hby own_d8_53)
  refine own_by (g' := (mkF m 56 #[rv q, iv hd, iv ix] [(.ref b3), (.ref b1)])) st107 ?_
  refine own_by (g' := (mkF m 84 #[rv q, iv hd, iv ix] [(.ref q)])) (fun t k => Jvm.RoadKit.acmp (g := (mkF m 56 #[rv q, iv hd, iv ix] [(.ref b3), (.ref b1)])) X107 hx rfl rfl rfl (pc0 := 56) (pc' := 83) (same := false) rfl (hb hby own_d8_56) rfl (decide_eq_false fun q => x30 (Value.ref.inj q)) (by decide) (by decide) (XS.aloadN X107.here hx rfl (hb hby own_d8_83) rfl rfl k)) ?_
  obtain ⟨T108, X108, e108, st108⟩ := getF X107 hx hZ hown (host := "") (Or.inl (hw _ (List.mem_of_getElem? (i := 22) rfl))) Via.refl e107 f103 (g := (mkF m 84 #[rv q, iv hd, iv ix] [(.ref q)])) rfl rfl (hb hby own_d8_84)
  refine own_by (g' := (mkF m 87 #[rv q, iv hd, iv ix] [(.int (hd + (1 : Int32)))])) st108 ?_
  refine own_by (g' := (mkF m 88 #[rv q, iv hd, iv ix] [(.ref q), (.int (hd + (1 : Int32)))])) (fun t k => XS.aloadN X108.here hx rfl (hb hby own_d8_87) rfl rfl k) ?_
  obtain ⟨T109, X109, e109, st109⟩ := getF X108 hx hZ hown (host := "") (Or.inl (hw _ (List.mem_of_getElem? (i := 18) rfl))) Via.refl e108 f104 (g := (mkF m 88 #[rv q, iv hd, iv ix] [(.ref q), (.int (hd + (1 : Int32)))])) rfl rfl (hb hby own_d8_88)
  refine own_by (g' := (mkF m 91 #[rv q, iv hd, iv ix] [(.ref b1), (.int (hd + (1 : Int32)))])) st109 ?_
  have f110 := (x9.other W102 (Or.inl (ne_exa x8 x0 (by decide))))
  obtain ⟨T111, X111, e111, st111⟩ := own_getR X109 hx hZ hown (hw _ (List.mem_of_getElem? (i := 65) rfl)) e109 f110 (g := (mkF m 91 #[rv q, iv hd, iv ix] [(.ref b1), (.int (hd + (1 : Int32)))])) rfl rfl (hb hby own_d8_91)
  refine own_by (g' := (mkF m 94 #[rv q, iv hd, iv ix] [(.int z1), (.int (hd + (1 : Int32)))])) st111 ?_
  refine own_by (g' := (mkF m 113 #[rv q, iv hd, iv ix] [])) (fun t k => XS.icmpYes X111.here hx rfl (pc0 := 94) (pc' := 113) rfl (hb hby own_d8_94) rfl (feq hq2).2 (by decide) (by decide) k) ?_
  have f112 := (x0.wr W102)
  have f113 := (x1.other W102 (Or.inr (slot_ne (Or.inr (hw _ (List.mem_of_getElem? (i := 10) rfl))) (Or.inl (hw _ (List.mem_of_getElem? (i := 23) rfl))) (by decide) (t := .int) (t' := .int) (by decide) (by decide))))
  have f114 := (x2.other W102 (Or.inr (slot_ne (Or.inr (hw _ (List.mem_of_getElem? (i := 12) rfl))) (Or.inl (hw _ (List.mem_of_getElem? (i := 23) rfl))) (by decide) (t := .int) (t' := .int) (by decide) (by decide))))
  have f115 := (x6.other W102 (Or.inr (slot_ne (Or.inl (hw _ (List.mem_of_getElem? (i := 25) rfl))) (Or.inl (hw _ (List.mem_of_getElem? (i := 23) rfl))) (by decide) (t := .int) (t' := .int) (by decide) (by decide))))
  have f116 := (x8.wr W102)
  have f117 := (x10.other W102 (Or.inl (ne_exa x8 x0 (by decide))))
  have f118 := (x11.other W102 (Or.inl (ne_exa x8 x0 (by decide))))
  have f119 := (x12.other W102 (Ne.symm (own_neY x0 (hw _ (List.mem_of_getElem? (i := 1) rfl)) x12)))
  have f120 := (x15.wr W102)
  have f121 := (x16.other W102 (Or.inl (ne_exa x15 x0 (by decide))))
  have f122 := (x17.other W102 (Or.inl (ne_exa x15 x0 (by decide))))
  have f123 := (x18.other W102 (Or.inl (ne_exa x15 x0 (by decide))))
  have f124 := (x19.other W102 (Ne.symm (own_neY x0 (hw _ (List.mem_of_getElem? (i := 1) rfl)) x19)))
  have f125 := (x22.wr W102)
  have f126 := (x23.other W102 (Or.inl (ne_exa x22 x0 (by decide))))
  have f127 := (x24.other W102 (Or.inl (ne_exa x22 x0 (by decide))))
  have f128 := (x25.other W102 (Or.inl (ne_exa x22 x0 (by decide))))
  have f129 := (x26.other W102 (Ne.symm (own_neY x0 (hw _ (List.mem_of_getElem? (i := 1) rfl)) x26)))
  refine own_retV X111 hx hlk hret (hb hby own_d8_113) (by decide) (by decide) ?_
  rw [e111]
  exact ⟨rfl, N102, (((Keep.refl h0 [q, a1]).trans K0 (allS (Or.inl (List.mem_of_getElem? (i := 0) rfl)) (allS (Or.inl (List.mem_of_getElem? (i := 1) rfl)) all0))).wr W102 (Or.inl (List.mem_of_getElem? (i := 0) rfl))), ⟨f112, f113, f114, f104, f106, f103, f115, x7, f116, f110, f117, f118, f119, x13, x14, f120, f121, f122, f123, f124, x20, x21, f125, f126, f127, f128, f129, x27, x28, x29, x30, x31, x32, x33, x34⟩⟩
theorem own_ef_own_rem3n (m : MethodId) (q : Addr) : entryFrame m #[(.ref q)] 3 = mkF m 0 #[rv q, .unset, .unset] [] := by first | (simp [entryFrame, mkF, argsToLocals, Value.category]; done) | rfl
set_option maxRecDepth 65536 in
set_option maxHeartbeats 40000000 in
theorem own_rem3n (l : Launch) (Z : State) (a0 : Array Value) (hw : ∀ d ∈ tables_1, d.before a0 Z = true) (ws : List Jvm.Cond) (q : Addr) (r : Int32) (w : Int32) (hd : Int32) (tl : Int32) (b1 : Addr) (a1 : Addr) (z1 : Int32) (b2 : Addr) (a2 : Addr) (z2 : Int32) (b3 : Addr) (a3 : Addr) (z3 : Int32) (h0 : Heap) (n0 : Nat) (Z0 : n0 ≤ h0.size) (B0 : own_Q3 Z h0 (q) (n0) (r) (w) (hd) (tl) (b1) (a1) (z1) (b2) (a2) (z2) (b3) (a3) (z3)) (hr : own_03 r) (h0p : 0 ≤ hd.toInt) (h1p : hd.toInt < z1.toInt) (h2p : z1.toInt ≤ 8) (hq2 : ¬ (hd + (1 : Int32)) = z1) :
    own_Ctr l Z (⟨"com/example/limentinus/limentinus/simulator/RecordQueue", "removeFirst", "()V"⟩ : MethodName) prog_85_method_8_code 3 none ws ({ frames := 2, cells := 0, slots := 0, locals := 26 } : Room) (({ frames := 2, cells := 0, slots := 0, locals := 26 } : Room)).cells (({ frames := 2, cells := 0, slots := 0, locals := 26 } : Room)).slots #[(.ref q)] h0 (Q_own_rem3n Z q r w hd tl b1 a1 z1 b2 a2 z2 b3 a3 z3 h0 n0) := by
  refine own_enter (plainFor_of_name own_pn0) ?_
  intro p e s m below meth c s₁ X0 hx hZ hby hml hown hnm hlk hret e0
  have N0 := Fr.nil n0
  refine own_cast (own_ef_own_rem3n m q) ?_
  obtain ⟨f101, f102, f103, f104, f105, f106, f107, f108, f109, f110, f111, f112, f113, f114, f115, f116, f117, f118, f119, f120, f121, f122, f123, f124, f125, f126, f127, f128, f129, f130, f131, f132, f133, f134, f135⟩ := B0
  refine own_by (g' := (mkF m 1 #[rv q, .unset, .unset] [(.ref q)])) (fun t k => XS.aloadN X0.here hx rfl (hb hby own_d8_0) rfl rfl k) ?_
  refine own_callP X0 hx hZ hown (hw _ (List.mem_of_getElem? (i := 60) rfl)) (hw _ (List.mem_of_getElem? (i := 61) rfl)) (own_selp (hw _ (List.mem_of_getElem? (i := 1) rfl)) (hw _ (List.mem_of_getElem? (i := 61) rfl)) (hw _ (List.mem_of_getElem? (i := 62) rfl)) (by decide)) (hw _ (List.mem_of_getElem? (i := 62) rfl)) (hw _ (List.mem_of_getElem? (i := 63) rfl)) (hw _ (List.mem_of_getElem? (i := 2) rfl)) (by decide) (a := q) f101 (own_fr3 l Z a0 hw [] (q) (r) (w) (hd) (tl) (b1) (a1) (z1) (b2) (a2) (z2) (b3) (a3) (z3) h0 n0 Z0 ⟨f101, f102, f103, f104, f105, f106, f107, f108, f109, f110, f111, f112, f113, f114, f115, f116, f117, f118, f119, f120, f121, f122, f123, f124, f125, f126, f127, f128, f129, f130, f131, f132, f133, f134, f135⟩) 0 (by decide) (by decide) (by decide) (by decide) e0 (g := (mkF m 1 #[rv q, .unset, .unset] [(.ref q)])) rfl (by rw [hml]; rfl) (argsL := []) (rest := []) (lenOf own_pd4 rfl) rfl (by show 2 * 0 + _ ≤ _; exact Nat.le_of_eq rfl) (hb hby own_d8_1) ?_
  intro v136 T136 L136 X136 q136
  obtain ⟨rfl, N136q, e136⟩ := q136
  have N136 := Fr.app N0 N136q
  show own_Goes p e below s _ _ _ T136 (mkF m 4 #[rv q, .unset, .unset] [(.int hd)])
  refine own_by (g' := (mkF m 7 #[rv q, iv hd, iv (0 : Int32)] [])) (fun t k => XS.istoreN X136.here hx rfl (hb hby own_d8_4) rfl (l' := #[rv q, iv hd, .unset]) rfl (XS.iconst X136.here hx rfl (hb hby own_d8_5) (XS.istoreN X136.here hx rfl (hb hby own_d8_6) rfl (l' := #[rv q, iv hd, iv (0 : Int32)]) rfl k))) ?_
  rcases id hr with hr1 | hr1 | hr1 | hr1
  ·
    refine own_by (g' := (mkF m 9 #[rv q, iv hd, iv (0 : Int32)] [(.ref q), (.int (0 : Int32))])) (fun t k => XS.iloadN X136.here hx rfl (hb hby own_d8_7) rfl (XS.aloadN X136.here hx rfl (hb hby own_d8_8) rfl rfl k)) ?_
    obtain ⟨T137, X137, e137, st137⟩ := getF X136 hx hZ hown (host := "") (Or.inl (hw _ (List.mem_of_getElem? (i := 9) rfl))) Via.refl e136 f102 (g := (mkF m 9 #[rv q, iv hd, iv (0 : Int32)] [(.ref q), (.int (0 : Int32))])) rfl rfl (hb hby own_d8_9)
    refine own_by (g' := (mkF m 12 #[rv q, iv hd, iv (0 : Int32)] [(.int r), (.int (0 : Int32))])) st137 ?_
    refine own_by (g' := (mkF m 38 #[rv q, iv hd, iv (0 : Int32)] [])) (fun t k => XS.icmpYes X137.here hx rfl (pc0 := 12) (pc' := 38) rfl (hb hby own_d8_12) rfl (flt (by rw [hr1]; decide)).2.1 (by decide) (by decide) k) ?_
    exact own_rem3n_38 q r w hd tl b1 a1 z1 b2 a2 z2 b3 a3 z3 ((0 : Int32)) X137 hx hZ hw hby hml hown hnm hlk hret Z0 e137 N136 (Keep.refl h0 [q, a1]) f101 f102 f103 f104 f105 f106 f107 f108 f109 f110 f111 f112 f113 f114 f115 f116 f117 f118 f119 f120 f121 f122 f123 f124 f125 f126 f127 f128 f129 f130 f131 f132 f133 f134 f135 (by first | assumption | decide) (by first | assumption | decide) (by first | assumption | decide) (by first | assumption | decide) (by first | assumption | decide)
  ·
    refine own_by (g' := (mkF m 9 #[rv q, iv hd, iv (0 : Int32)] [(.ref q), (.int (0 : Int32))])) (fun t k => XS.iloadN X136.here hx rfl (hb hby own_d8_7) rfl (XS.aloadN X136.here hx rfl (hb hby own_d8_8) rfl rfl k)) ?_
    obtain ⟨T138, X138, e138, st138⟩ := getF X136 hx hZ hown (host := "") (Or.inl (hw _ (List.mem_of_getElem? (i := 9) rfl))) Via.refl e136 f102 (g := (mkF m 9 #[rv q, iv hd, iv (0 : Int32)] [(.ref q), (.int (0 : Int32))])) rfl rfl (hb hby own_d8_9)
    refine own_by (g' := (mkF m 12 #[rv q, iv hd, iv (0 : Int32)] [(.int r), (.int (0 : Int32))])) st138 ?_
    refine own_by (g' := (mkF m 16 #[rv q, iv hd, iv (0 : Int32)] [(.ref q)])) (fun t k => XS.icmpNo X138.here hx rfl (hb hby own_d8_12) rfl (tlt (by rw [hr1]; decide)).2.1 (XS.aloadN X138.here hx rfl (hb hby own_d8_15) rfl rfl k)) ?_
    obtain ⟨T139, X139, e139, st139⟩ := getF X138 hx hZ hown (host := "") (Or.inl (hw _ (List.mem_of_getElem? (i := 18) rfl))) Via.refl e138 f104 (g := (mkF m 16 #[rv q, iv hd, iv (0 : Int32)] [(.ref q)])) rfl rfl (hb hby own_d8_16)
    refine own_by (g' := (mkF m 19 #[rv q, iv hd, iv (0 : Int32)] [(.ref b1)])) st139 ?_
    obtain ⟨T140, X140, e140, st140⟩ := own_getR X139 hx hZ hown (hw _ (List.mem_of_getElem? (i := 66) rfl)) e139 f111 (g := (mkF m 19 #[rv q, iv hd, iv (0 : Int32)] [(.ref b1)])) rfl rfl (hb hby own_d8_19)
    refine own_by (g' := (mkF m 22 #[rv q, iv hd, iv (0 : Int32)] [(.ref a1)])) st140 ?_
    refine own_by (g' := (mkF m 24 #[rv q, iv hd, iv (0 : Int32)] [(.ref q), (.int hd), (.ref a1)])) (fun t k => XS.iloadN X140.here hx rfl (hb hby own_d8_22) rfl (XS.aloadN X140.here hx rfl (hb hby own_d8_23) rfl rfl k)) ?_
    obtain ⟨T141, X141, e141, st141⟩ := getF X140 hx hZ hown (host := "") (Or.inl (hw _ (List.mem_of_getElem? (i := 9) rfl))) Via.refl e140 f102 (g := (mkF m 24 #[rv q, iv hd, iv (0 : Int32)] [(.ref q), (.int hd), (.ref a1)])) rfl rfl (hb hby own_d8_24)
    refine own_by (g' := (mkF m 27 #[rv q, iv hd, iv (0 : Int32)] [(.int r), (.int hd), (.ref a1)])) st141 ?_
    refine own_by (g' := (mkF m 31 #[rv q, iv hd, iv (0 : Int32)] [.null, (.int ((hd * r) + (0 : Int32))), (.ref a1)])) (fun t k => XS.imul X141.here hx rfl (hb hby own_d8_27) rfl (XS.iloadN X141.here hx rfl (hb hby own_d8_28) rfl (XS.iadd X141.here hx rfl (hb hby own_d8_29) rfl (XS.aconstNull X141.here hx rfl (hb hby own_d8_30) k)))) ?_
    obtain ⟨c142, Ar142, S142, G142⟩ := id f113
    have hin142 : ¬ (((hd * r) + (0 : Int32)) < 0 ∨ c142.slots.size ≤ (((hd * r) + (0 : Int32))).toNatClampNeg) := inb_of S142 (own_inb h0p h1p h2p r (0 : Int32) 1 0 (by rw [hr1]; decide) (by decide) (by decide))
    obtain ⟨T142, h142, X142, e142, W142, st142⟩ := stR X141 hx hZ e141 Ar142 (j := ((hd * r) + (0 : Int32))) hin142 rfl (Or.inl rfl) (g := (mkF m 31 #[rv q, iv hd, iv (0 : Int32)] [.null, (.int ((hd * r) + (0 : Int32))), (.ref a1)])) rfl rfl (hb hby own_d8_31)
    have Al142 := own_Arz.same (⟨c142, Ar142, S142, G142⟩ : own_Arz Z _ a1 (.object "java/lang/Object") (z1 * r)) W142
    have N142 := Fr.snoc X142 N136 f115
    refine own_by (g' := (mkF m 32 #[rv q, iv hd, iv (0 : Int32)] [])) st142 ?_
    refine own_by (g' := (mkF m 9 #[rv q, iv hd, iv (1 : Int32)] [(.ref q), (.int (1 : Int32))])) (fun t k => XS.iinc X142.here hx rfl (hb hby own_d8_32) rfl (l' := #[rv q, iv hd, iv (1 : Int32)]) rfl (XS.goto X142.here hx rfl (pc0 := 35) (pc' := 7) rfl (hb hby own_d8_35) (by decide) (by decide) (XS.iloadN X142.here hx rfl (hb hby own_d8_7) rfl (XS.aloadN X142.here hx rfl (hb hby own_d8_8) rfl rfl k)))) ?_
    have f143 := (f102.other W142 (Or.inl (own_neY f101 (hw _ (List.mem_of_getElem? (i := 1) rfl)) f113)))
    obtain ⟨T144, X144, e144, st144⟩ := getF X142 hx hZ hown (host := "") (Or.inl (hw _ (List.mem_of_getElem? (i := 9) rfl))) Via.refl e142 f143 (g := (mkF m 9 #[rv q, iv hd, iv (1 : Int32)] [(.ref q), (.int (1 : Int32))])) rfl rfl (hb hby own_d8_9)
    refine own_by (g' := (mkF m 12 #[rv q, iv hd, iv (1 : Int32)] [(.int r), (.int (1 : Int32))])) st144 ?_
    refine own_by (g' := (mkF m 38 #[rv q, iv hd, iv (1 : Int32)] [])) (fun t k => XS.icmpYes X144.here hx rfl (pc0 := 12) (pc' := 38) rfl (hb hby own_d8_12) rfl (flt (by rw [hr1]; decide)).2.1 (by decide) (by decide) k) ?_
    have f145 := (f101.wr W142)
    have f146 := (f103.other W142 (Or.inl (own_neY f101 (hw _ (List.mem_of_getElem? (i := 1) rfl)) f113)))
    have f147 := (f104.other W142 (Or.inl (own_neY f101 (hw _ (List.mem_of_getElem? (i := 1) rfl)) f113)))
    have f148 := (f105.other W142 (Or.inl (own_neY f101 (hw _ (List.mem_of_getElem? (i := 1) rfl)) f113)))
    have f149 := (f106.other W142 (Or.inl (own_neY f101 (hw _ (List.mem_of_getElem? (i := 1) rfl)) f113)))
    have f150 := (f107.other W142 (Or.inl (own_neY f101 (hw _ (List.mem_of_getElem? (i := 1) rfl)) f113)))
    have f151 := (f109.wr W142)
    have f152 := (f110.other W142 (Or.inl (own_neY f109 (hw _ (List.mem_of_getElem? (i := 40) rfl)) f113)))
    have f153 := (f111.other W142 (Or.inl (own_neY f109 (hw _ (List.mem_of_getElem? (i := 40) rfl)) f113)))
    have f154 := (f112.other W142 (Or.inl (own_neY f109 (hw _ (List.mem_of_getElem? (i := 40) rfl)) f113)))
    have f155 := (f116.wr W142)
    have f156 := (f117.other W142 (Or.inl (own_neY f116 (hw _ (List.mem_of_getElem? (i := 40) rfl)) f113)))
    have f157 := (f118.other W142 (Or.inl (own_neY f116 (hw _ (List.mem_of_getElem? (i := 40) rfl)) f113)))
    have f158 := (f119.other W142 (Or.inl (own_neY f116 (hw _ (List.mem_of_getElem? (i := 40) rfl)) f113)))
    have f159 := (f120.other W142 (Ne.symm f133))
    have f160 := (f123.wr W142)
    have f161 := (f124.other W142 (Or.inl (own_neY f123 (hw _ (List.mem_of_getElem? (i := 40) rfl)) f113)))
    have f162 := (f125.other W142 (Or.inl (own_neY f123 (hw _ (List.mem_of_getElem? (i := 40) rfl)) f113)))
    have f163 := (f126.other W142 (Or.inl (own_neY f123 (hw _ (List.mem_of_getElem? (i := 40) rfl)) f113)))
    have f164 := (f127.other W142 (Ne.symm f134))
    exact own_rem3n_38 q r w hd tl b1 a1 z1 b2 a2 z2 b3 a3 z3 ((1 : Int32)) X144 hx hZ hw hby hml hown hnm hlk hret Z0 e144 N142 ((Keep.refl h0 [q, a1]).wr W142 (Or.inl (List.mem_of_getElem? (i := 1) rfl))) f145 f143 f146 f147 f148 f149 f150 f108 f151 f152 f153 f154 Al142 f114 f115 f155 f156 f157 f158 f159 f121 f122 f160 f161 f162 f163 f164 f128 f129 f130 f131 f132 f133 f134 f135 (by first | assumption | decide) (by first | assumption | decide) (by first | assumption | decide) (by first | assumption | decide) (by first | assumption | decide)
  ·
    refine own_by (g' := (mkF m 9 #[rv q, iv hd, iv (0 : Int32)] [(.ref q), (.int (0 : Int32))])) (fun t k => XS.iloadN X136.here hx rfl (hb hby own_d8_7) rfl (XS.aloadN X136.here hx rfl (hb hby own_d8_8) rfl rfl k)) ?_
    obtain ⟨T165, X165, e165, st165⟩ := getF X136 hx hZ hown (host := "") (Or.inl (hw _ (List.mem_of_getElem? (i := 9) rfl))) Via.refl e136 f102 (g := (mkF m 9 #[rv q, iv hd, iv (0 : Int32)] [(.ref q), (.int (0 : Int32))])) rfl rfl (hb hby own_d8_9)
    refine own_by (g' := (mkF m 12 #[rv q, iv hd, iv (0 : Int32)] [(.int r), (.int (0 : Int32))])) st165 ?_
    refine own_by (g' := (mkF m 16 #[rv q, iv hd, iv (0 : Int32)] [(.ref q)])) (fun t k => XS.icmpNo X165.here hx rfl (hb hby own_d8_12) rfl (tlt (by rw [hr1]; decide)).2.1 (XS.aloadN X165.here hx rfl (hb hby own_d8_15) rfl rfl k)) ?_
    obtain ⟨T166, X166, e166, st166⟩ := getF X165 hx hZ hown (host := "") (Or.inl (hw _ (List.mem_of_getElem? (i := 18) rfl))) Via.refl e165 f104 (g := (mkF m 16 #[rv q, iv hd, iv (0 : Int32)] [(.ref q)])) rfl rfl (hb hby own_d8_16)
    refine own_by (g' := (mkF m 19 #[rv q, iv hd, iv (0 : Int32)] [(.ref b1)])) st166 ?_
    obtain ⟨T167, X167, e167, st167⟩ := own_getR X166 hx hZ hown (hw _ (List.mem_of_getElem? (i := 66) rfl)) e166 f111 (g := (mkF m 19 #[rv q, iv hd, iv (0 : Int32)] [(.ref b1)])) rfl rfl (hb hby own_d8_19)
    refine own_by (g' := (mkF m 22 #[rv q, iv hd, iv (0 : Int32)] [(.ref a1)])) st167 ?_
    refine own_by (g' := (mkF m 24 #[rv q, iv hd, iv (0 : Int32)] [(.ref q), (.int hd), (.ref a1)])) (fun t k => XS.iloadN X167.here hx rfl (hb hby own_d8_22) rfl (XS.aloadN X167.here hx rfl (hb hby own_d8_23) rfl rfl k)) ?_
    obtain ⟨T168, X168, e168, st168⟩ := getF X167 hx hZ hown (host := "") (Or.inl (hw _ (List.mem_of_getElem? (i := 9) rfl))) Via.refl e167 f102 (g := (mkF m 24 #[rv q, iv hd, iv (0 : Int32)] [(.ref q), (.int hd), (.ref a1)])) rfl rfl (hb hby own_d8_24)
    refine own_by (g' := (mkF m 27 #[rv q, iv hd, iv (0 : Int32)] [(.int r), (.int hd), (.ref a1)])) st168 ?_
    refine own_by (g' := (mkF m 31 #[rv q, iv hd, iv (0 : Int32)] [.null, (.int ((hd * r) + (0 : Int32))), (.ref a1)])) (fun t k => XS.imul X168.here hx rfl (hb hby own_d8_27) rfl (XS.iloadN X168.here hx rfl (hb hby own_d8_28) rfl (XS.iadd X168.here hx rfl (hb hby own_d8_29) rfl (XS.aconstNull X168.here hx rfl (hb hby own_d8_30) k)))) ?_
    obtain ⟨c169, Ar169, S169, G169⟩ := id f113
    have hin169 : ¬ (((hd * r) + (0 : Int32)) < 0 ∨ c169.slots.size ≤ (((hd * r) + (0 : Int32))).toNatClampNeg) := inb_of S169 (own_inb h0p h1p h2p r (0 : Int32) 2 0 (by rw [hr1]; decide) (by decide) (by decide))
    obtain ⟨T169, h169, X169, e169, W169, st169⟩ := stR X168 hx hZ e168 Ar169 (j := ((hd * r) + (0 : Int32))) hin169 rfl (Or.inl rfl) (g := (mkF m 31 #[rv q, iv hd, iv (0 : Int32)] [.null, (.int ((hd * r) + (0 : Int32))), (.ref a1)])) rfl rfl (hb hby own_d8_31)
    have Al169 := own_Arz.same (⟨c169, Ar169, S169, G169⟩ : own_Arz Z _ a1 (.object "java/lang/Object") (z1 * r)) W169
    have N169 := Fr.snoc X169 N136 f115
    refine own_by (g' := (mkF m 32 #[rv q, iv hd, iv (0 : Int32)] [])) st169 ?_
    refine own_by (g' := (mkF m 9 #[rv q, iv hd, iv (1 : Int32)] [(.ref q), (.int (1 : Int32))])) (fun t k => XS.iinc X169.here hx rfl (hb hby own_d8_32) rfl (l' := #[rv q, iv hd, iv (1 : Int32)]) rfl (XS.goto X169.here hx rfl (pc0 := 35) (pc' := 7) rfl (hb hby own_d8_35) (by decide) (by decide) (XS.iloadN X169.here hx rfl (hb hby own_d8_7) rfl (XS.aloadN X169.here hx rfl (hb hby own_d8_8) rfl rfl k)))) ?_
    have f170 := (f102.other W169 (Or.inl (own_neY f101 (hw _ (List.mem_of_getElem? (i := 1) rfl)) f113)))
    obtain ⟨T171, X171, e171, st171⟩ := getF X169 hx hZ hown (host := "") (Or.inl (hw _ (List.mem_of_getElem? (i := 9) rfl))) Via.refl e169 f170 (g := (mkF m 9 #[rv q, iv hd, iv (1 : Int32)] [(.ref q), (.int (1 : Int32))])) rfl rfl (hb hby own_d8_9)
    refine own_by (g' := (mkF m 12 #[rv q, iv hd, iv (1 : Int32)] [(.int r), (.int (1 : Int32))])) st171 ?_
    refine own_by (g' := (mkF m 16 #[rv q, iv hd, iv (1 : Int32)] [(.ref q)])) (fun t k => XS.icmpNo X171.here hx rfl (hb hby own_d8_12) rfl (tlt (by rw [hr1]; decide)).2.1 (XS.aloadN X171.here hx rfl (hb hby own_d8_15) rfl rfl k)) ?_
    have f172 := (f104.other W169 (Or.inl (own_neY f101 (hw _ (List.mem_of_getElem? (i := 1) rfl)) f113)))
    obtain ⟨T173, X173, e173, st173⟩ := getF X171 hx hZ hown (host := "") (Or.inl (hw _ (List.mem_of_getElem? (i := 18) rfl))) Via.refl e171 f172 (g := (mkF m 16 #[rv q, iv hd, iv (1 : Int32)] [(.ref q)])) rfl rfl (hb hby own_d8_16)
    refine own_by (g' := (mkF m 19 #[rv q, iv hd, iv (1 : Int32)] [(.ref b1)])) st173 ?_
    have f174 := (f111.other W169 (Or.inl (own_neY f109 (hw _ (List.mem_of_getElem? (i := 40) rfl)) f113)))
    obtain ⟨T175, X175, e175, st175⟩ := own_getR X173 hx hZ hown (hw _ (List.mem_of_getElem? (i := 66) rfl)) e173 f174 (g := (mkF m 19 #[rv q, iv hd, iv (1 : Int32)] [(.ref b1)])) rfl rfl (hb hby own_d8_19)
    refine own_by (g' := (mkF m 22 #[rv q, iv hd, iv (1 : Int32)] [(.ref a1)])) st175 ?_
    refine own_by (g' := (mkF m 24 #[rv q, iv hd, iv (1 : Int32)] [(.ref q), (.int hd), (.ref a1)])) (fun t k => XS.iloadN X175.here hx rfl (hb hby own_d8_22) rfl (XS.aloadN X175.here hx rfl (hb hby own_d8_23) rfl rfl k)) ?_
    obtain ⟨T176, X176, e176, st176⟩ := getF X175 hx hZ hown (host := "") (Or.inl (hw _ (List.mem_of_getElem? (i := 9) rfl))) Via.refl e175 f170 (g := (mkF m 24 #[rv q, iv hd, iv (1 : Int32)] [(.ref q), (.int hd), (.ref a1)])) rfl rfl (hb hby own_d8_24)
    refine own_by (g' := (mkF m 27 #[rv q, iv hd, iv (1 : Int32)] [(.int r), (.int hd), (.ref a1)])) st176 ?_
    refine own_by (g' := (mkF m 31 #[rv q, iv hd, iv (1 : Int32)] [.null, (.int ((hd * r) + (1 : Int32))), (.ref a1)])) (fun t k => XS.imul X176.here hx rfl (hb hby own_d8_27) rfl (XS.iloadN X176.here hx rfl (hb hby own_d8_28) rfl (XS.iadd X176.here hx rfl (hb hby own_d8_29) rfl (XS.aconstNull X176.here hx rfl (hb hby own_d8_30) k)))) ?_
    obtain ⟨c177, Ar177, S177, G177⟩ := id Al169
    have hin177 : ¬ (((hd * r) + (1 : Int32)) < 0 ∨ c177.slots.size ≤ (((hd * r) + (1 : Int32))).toNatClampNeg) := inb_of S177 (own_inb h0p h1p h2p r (1 : Int32) 2 1 (by rw [hr1]; decide) (by decide) (by decide))
    obtain ⟨T177, h177, X177, e177, W177, st177⟩ := stR X176 hx hZ e176 Ar177 (j := ((hd * r) + (1 : Int32))) hin177 rfl (Or.inl rfl) (g := (mkF m 31 #[rv q, iv hd, iv (1 : Int32)] [.null, (.int ((hd * r) + (1 : Int32))), (.ref a1)])) rfl rfl (hb hby own_d8_31)
    have Al177 := own_Arz.same (⟨c177, Ar177, S177, G177⟩ : own_Arz Z _ a1 (.object "java/lang/Object") (z1 * r)) W177
    have N177 := Fr.snoc X177 N169 f115
    refine own_by (g' := (mkF m 32 #[rv q, iv hd, iv (1 : Int32)] [])) st177 ?_
    refine own_by (g' := (mkF m 9 #[rv q, iv hd, iv (2 : Int32)] [(.ref q), (.int (2 : Int32))])) (fun t k => XS.iinc X177.here hx rfl (hb hby own_d8_32) rfl (l' := #[rv q, iv hd, iv (2 : Int32)]) rfl (XS.goto X177.here hx rfl (pc0 := 35) (pc' := 7) rfl (hb hby own_d8_35) (by decide) (by decide) (XS.iloadN X177.here hx rfl (hb hby own_d8_7) rfl (XS.aloadN X177.here hx rfl (hb hby own_d8_8) rfl rfl k)))) ?_
    have f178 := (f170.other W177 (Or.inl (own_neY f101 (hw _ (List.mem_of_getElem? (i := 1) rfl)) f113)))
    obtain ⟨T179, X179, e179, st179⟩ := getF X177 hx hZ hown (host := "") (Or.inl (hw _ (List.mem_of_getElem? (i := 9) rfl))) Via.refl e177 f178 (g := (mkF m 9 #[rv q, iv hd, iv (2 : Int32)] [(.ref q), (.int (2 : Int32))])) rfl rfl (hb hby own_d8_9)
    refine own_by (g' := (mkF m 12 #[rv q, iv hd, iv (2 : Int32)] [(.int r), (.int (2 : Int32))])) st179 ?_
    refine own_by (g' := (mkF m 38 #[rv q, iv hd, iv (2 : Int32)] [])) (fun t k => XS.icmpYes X179.here hx rfl (pc0 := 12) (pc' := 38) rfl (hb hby own_d8_12) rfl (flt (by rw [hr1]; decide)).2.1 (by decide) (by decide) k) ?_
    have f180 := ((f101.wr W169).wr W177)
    have f181 := ((f103.other W169 (Or.inl (own_neY f101 (hw _ (List.mem_of_getElem? (i := 1) rfl)) f113))).other W177 (Or.inl (own_neY f101 (hw _ (List.mem_of_getElem? (i := 1) rfl)) f113)))
    have f182 := (f172.other W177 (Or.inl (own_neY f101 (hw _ (List.mem_of_getElem? (i := 1) rfl)) f113)))
    have f183 := ((f105.other W169 (Or.inl (own_neY f101 (hw _ (List.mem_of_getElem? (i := 1) rfl)) f113))).other W177 (Or.inl (own_neY f101 (hw _ (List.mem_of_getElem? (i := 1) rfl)) f113)))
    have f184 := ((f106.other W169 (Or.inl (own_neY f101 (hw _ (List.mem_of_getElem? (i := 1) rfl)) f113))).other W177 (Or.inl (own_neY f101 (hw _ (List.mem_of_getElem? (i := 1) rfl)) f113)))
    have f185 := ((f107.other W169 (Or.inl (own_neY f101 (hw _ (List.mem_of_getElem? (i := 1) rfl)) f113))).other W177 (Or.inl (own_neY f101 (hw _ (List.mem_of_getElem? (i := 1) rfl)) f113)))
    have f186 := ((f109.wr W169).wr W177)
    have f187 := ((f110.other W169 (Or.inl (own_neY f109 (hw _ (List.mem_of_getElem? (i := 40) rfl)) f113))).other W177 (Or.inl (own_neY f109 (hw _ (List.mem_of_getElem? (i := 40) rfl)) f113)))
    have f188 := (f174.other W177 (Or.inl (own_neY f109 (hw _ (List.mem_of_getElem? (i := 40) rfl)) f113)))
    have f189 := ((f112.other W169 (Or.inl (own_neY f109 (hw _ (List.mem_of_getElem? (i := 40) rfl)) f113))).other W177 (Or.inl (own_neY f109 (hw _ (List.mem_of_getElem? (i := 40) rfl)) f113)))
    have f190 := ((f116.wr W169).wr W177)
    have f191 := ((f117.other W169 (Or.inl (own_neY f116 (hw _ (List.mem_of_getElem? (i := 40) rfl)) f113))).other W177 (Or.inl (own_neY f116 (hw _ (List.mem_of_getElem? (i := 40) rfl)) f113)))
    have f192 := ((f118.other W169 (Or.inl (own_neY f116 (hw _ (List.mem_of_getElem? (i := 40) rfl)) f113))).other W177 (Or.inl (own_neY f116 (hw _ (List.mem_of_getElem? (i := 40) rfl)) f113)))
    have f193 := ((f119.other W169 (Or.inl (own_neY f116 (hw _ (List.mem_of_getElem? (i := 40) rfl)) f113))).other W177 (Or.inl (own_neY f116 (hw _ (List.mem_of_getElem? (i := 40) rfl)) f113)))
    have f194 := ((f120.other W169 (Ne.symm f133)).other W177 (Ne.symm f133))
    have f195 := ((f123.wr W169).wr W177)
    have f196 := ((f124.other W169 (Or.inl (own_neY f123 (hw _ (List.mem_of_getElem? (i := 40) rfl)) f113))).other W177 (Or.inl (own_neY f123 (hw _ (List.mem_of_getElem? (i := 40) rfl)) f113)))
    have f197 := ((f125.other W169 (Or.inl (own_neY f123 (hw _ (List.mem_of_getElem? (i := 40) rfl)) f113))).other W177 (Or.inl (own_neY f123 (hw _ (List.mem_of_getElem? (i := 40) rfl)) f113)))
    have f198 := ((f126.other W169 (Or.inl (own_neY f123 (hw _ (List.mem_of_getElem? (i := 40) rfl)) f113))).other W177 (Or.inl (own_neY f123 (hw _ (List.mem_of_getElem? (i := 40) rfl)) f113)))
    have f199 := ((f127.other W169 (Ne.symm f134)).other W177 (Ne.symm f134))
    exact own_rem3n_38 q r w hd tl b1 a1 z1 b2 a2 z2 b3 a3 z3 ((2 : Int32)) X179 hx hZ hw hby hml hown hnm hlk hret Z0 e179 N177 (((Keep.refl h0 [q, a1]).wr W169 (Or.inl (List.mem_of_getElem? (i := 1) rfl))).wr W177 (Or.inl (List.mem_of_getElem? (i := 1) rfl))) f180 f178 f181 f182 f183 f184 f185 f108 f186 f187 f188 f189 Al177 f114 f115 f190 f191 f192 f193 f194 f121 f122 f195 f196 f197 f198 f199 f128 f129 f130 f131 f132 f133 f134 f135 (by first | assumption | decide) (by first | assumption | decide) (by first | assumption | decide) (by first | assumption | decide) (by first | assumption | decide)
  ·
    refine own_by (g' := (mkF m 9 #[rv q, iv hd, iv (0 : Int32)] [(.ref q), (.int (0 : Int32))])) (fun t k => XS.iloadN X136.here hx rfl (hb hby own_d8_7) rfl (XS.aloadN X136.here hx rfl (hb hby own_d8_8) rfl rfl k)) ?_
    obtain ⟨T200, X200, e200, st200⟩ := getF X136 hx hZ hown (host := "") (Or.inl (hw _ (List.mem_of_getElem? (i := 9) rfl))) Via.refl e136 f102 (g := (mkF m 9 #[rv q, iv hd, iv (0 : Int32)] [(.ref q), (.int (0 : Int32))])) rfl rfl (hb hby own_d8_9)
    refine own_by (g' := (mkF m 12 #[rv q, iv hd, iv (0 : Int32)] [(.int r), (.int (0 : Int32))])) st200 ?_
    refine own_by (g' := (mkF m 16 #[rv q, iv hd, iv (0 : Int32)] [(.ref q)])) (fun t k => XS.icmpNo X200.here hx rfl (hb hby own_d8_12) rfl (tlt (by rw [hr1]; decide)).2.1 (XS.aloadN X200.here hx rfl (hb hby own_d8_15) rfl rfl k)) ?_
    obtain ⟨T201, X201, e201, st201⟩ := getF X200 hx hZ hown (host := "") (Or.inl (hw _ (List.mem_of_getElem? (i := 18) rfl))) Via.refl e200 f104 (g := (mkF m 16 #[rv q, iv hd, iv (0 : Int32)] [(.ref q)])) rfl rfl (hb hby own_d8_16)
    refine own_by (g' := (mkF m 19 #[rv q, iv hd, iv (0 : Int32)] [(.ref b1)])) st201 ?_
    obtain ⟨T202, X202, e202, st202⟩ := own_getR X201 hx hZ hown (hw _ (List.mem_of_getElem? (i := 66) rfl)) e201 f111 (g := (mkF m 19 #[rv q, iv hd, iv (0 : Int32)] [(.ref b1)])) rfl rfl (hb hby own_d8_19)
    refine own_by (g' := (mkF m 22 #[rv q, iv hd, iv (0 : Int32)] [(.ref a1)])) st202 ?_
    refine own_by (g' := (mkF m 24 #[rv q, iv hd, iv (0 : Int32)] [(.ref q), (.int hd), (.ref a1)])) (fun t k => XS.iloadN X202.here hx rfl (hb hby own_d8_22) rfl (XS.aloadN X202.here hx rfl (hb hby own_d8_23) rfl rfl k)) ?_
    obtain ⟨T203, X203, e203, st203⟩ := getF X202 hx hZ hown (host := "") (Or.inl (hw _ (List.mem_of_getElem? (i := 9) rfl))) Via.refl e202 f102 (g := (mkF m 24 #[rv q, iv hd, iv (0 : Int32)] [(.ref q), (.int hd), (.ref a1)])) rfl rfl (hb hby own_d8_24)
    refine own_by (g' := (mkF m 27 #[rv q, iv hd, iv (0 : Int32)] [(.int r), (.int hd), (.ref a1)])) st203 ?_
    refine own_by (g' := (mkF m 31 #[rv q, iv hd, iv (0 : Int32)] [.null, (.int ((hd * r) + (0 : Int32))), (.ref a1)])) (fun t k => XS.imul X203.here hx rfl (hb hby own_d8_27) rfl (XS.iloadN X203.here hx rfl (hb hby own_d8_28) rfl (XS.iadd X203.here hx rfl (hb hby own_d8_29) rfl (XS.aconstNull X203.here hx rfl (hb hby own_d8_30) k)))) ?_
    obtain ⟨c204, Ar204, S204, G204⟩ := id f113
    have hin204 : ¬ (((hd * r) + (0 : Int32)) < 0 ∨ c204.slots.size ≤ (((hd * r) + (0 : Int32))).toNatClampNeg) := inb_of S204 (own_inb h0p h1p h2p r (0 : Int32) 3 0 (by rw [hr1]; decide) (by decide) (by decide))
    obtain ⟨T204, h204, X204, e204, W204, st204⟩ := stR X203 hx hZ e203 Ar204 (j := ((hd * r) + (0 : Int32))) hin204 rfl (Or.inl rfl) (g := (mkF m 31 #[rv q, iv hd, iv (0 : Int32)] [.null, (.int ((hd * r) + (0 : Int32))), (.ref a1)])) rfl rfl (hb hby own_d8_31)
    have Al204 := own_Arz.same (⟨c204, Ar204, S204, G204⟩ : own_Arz Z _ a1 (.object "java/lang/Object") (z1 * r)) W204
    have N204 := Fr.snoc X204 N136 f115
    refine own_by (g' := (mkF m 32 #[rv q, iv hd, iv (0 : Int32)] [])) st204 ?_
    refine own_by (g' := (mkF m 9 #[rv q, iv hd, iv (1 : Int32)] [(.ref q), (.int (1 : Int32))])) (fun t k => XS.iinc X204.here hx rfl (hb hby own_d8_32) rfl (l' := #[rv q, iv hd, iv (1 : Int32)]) rfl (XS.goto X204.here hx rfl (pc0 := 35) (pc' := 7) rfl (hb hby own_d8_35) (by decide) (by decide) (XS.iloadN X204.here hx rfl (hb hby own_d8_7) rfl (XS.aloadN X204.here hx rfl (hb hby own_d8_8) rfl rfl k)))) ?_
    have f205 := (f102.other W204 (Or.inl (own_neY f101 (hw _ (List.mem_of_getElem? (i := 1) rfl)) f113)))
    obtain ⟨T206, X206, e206, st206⟩ := getF X204 hx hZ hown (host := "") (Or.inl (hw _ (List.mem_of_getElem? (i := 9) rfl))) Via.refl e204 f205 (g := (mkF m 9 #[rv q, iv hd, iv (1 : Int32)] [(.ref q), (.int (1 : Int32))])) rfl rfl (hb hby own_d8_9)
    refine own_by (g' := (mkF m 12 #[rv q, iv hd, iv (1 : Int32)] [(.int r), (.int (1 : Int32))])) st206 ?_
    refine own_by (g' := (mkF m 16 #[rv q, iv hd, iv (1 : Int32)] [(.ref q)])) (fun t k => XS.icmpNo X206.here hx rfl (hb hby own_d8_12) rfl (tlt (by rw [hr1]; decide)).2.1 (XS.aloadN X206.here hx rfl (hb hby own_d8_15) rfl rfl k)) ?_
    have f207 := (f104.other W204 (Or.inl (own_neY f101 (hw _ (List.mem_of_getElem? (i := 1) rfl)) f113)))
    obtain ⟨T208, X208, e208, st208⟩ := getF X206 hx hZ hown (host := "") (Or.inl (hw _ (List.mem_of_getElem? (i := 18) rfl))) Via.refl e206 f207 (g := (mkF m 16 #[rv q, iv hd, iv (1 : Int32)] [(.ref q)])) rfl rfl (hb hby own_d8_16)
    refine own_by (g' := (mkF m 19 #[rv q, iv hd, iv (1 : Int32)] [(.ref b1)])) st208 ?_
    have f209 := (f111.other W204 (Or.inl (own_neY f109 (hw _ (List.mem_of_getElem? (i := 40) rfl)) f113)))
    obtain ⟨T210, X210, e210, st210⟩ := own_getR X208 hx hZ hown (hw _ (List.mem_of_getElem? (i := 66) rfl)) e208 f209 (g := (mkF m 19 #[rv q, iv hd, iv (1 : Int32)] [(.ref b1)])) rfl rfl (hb hby own_d8_19)
    refine own_by (g' := (mkF m 22 #[rv q, iv hd, iv (1 : Int32)] [(.ref a1)])) st210 ?_
    refine own_by (g' := (mkF m 24 #[rv q, iv hd, iv (1 : Int32)] [(.ref q), (.int hd), (.ref a1)])) (fun t k => XS.iloadN X210.here hx rfl (hb hby own_d8_22) rfl (XS.aloadN X210.here hx rfl (hb hby own_d8_23) rfl rfl k)) ?_
    obtain ⟨T211, X211, e211, st211⟩ := getF X210 hx hZ hown (host := "") (Or.inl (hw _ (List.mem_of_getElem? (i := 9) rfl))) Via.refl e210 f205 (g := (mkF m 24 #[rv q, iv hd, iv (1 : Int32)] [(.ref q), (.int hd), (.ref a1)])) rfl rfl (hb hby own_d8_24)
    refine own_by (g' := (mkF m 27 #[rv q, iv hd, iv (1 : Int32)] [(.int r), (.int hd), (.ref a1)])) st211 ?_
    refine own_by (g' := (mkF m 31 #[rv q, iv hd, iv (1 : Int32)] [.null, (.int ((hd * r) + (1 : Int32))), (.ref a1)])) (fun t k => XS.imul X211.here hx rfl (hb hby own_d8_27) rfl (XS.iloadN X211.here hx rfl (hb hby own_d8_28) rfl (XS.iadd X211.here hx rfl (hb hby own_d8_29) rfl (XS.aconstNull X211.here hx rfl (hb hby own_d8_30) k)))) ?_
    obtain ⟨c212, Ar212, S212, G212⟩ := id Al204
    have hin212 : ¬ (((hd * r) + (1 : Int32)) < 0 ∨ c212.slots.size ≤ (((hd * r) + (1 : Int32))).toNatClampNeg) := inb_of S212 (own_inb h0p h1p h2p r (1 : Int32) 3 1 (by rw [hr1]; decide) (by decide) (by decide))
    obtain ⟨T212, h212, X212, e212, W212, st212⟩ := stR X211 hx hZ e211 Ar212 (j := ((hd * r) + (1 : Int32))) hin212 rfl (Or.inl rfl) (g := (mkF m 31 #[rv q, iv hd, iv (1 : Int32)] [.null, (.int ((hd * r) + (1 : Int32))), (.ref a1)])) rfl rfl (hb hby own_d8_31)
    have Al212 := own_Arz.same (⟨c212, Ar212, S212, G212⟩ : own_Arz Z _ a1 (.object "java/lang/Object") (z1 * r)) W212
    have N212 := Fr.snoc X212 N204 f115
    refine own_by (g' := (mkF m 32 #[rv q, iv hd, iv (1 : Int32)] [])) st212 ?_
    refine own_by (g' := (mkF m 9 #[rv q, iv hd, iv (2 : Int32)] [(.ref q), (.int (2 : Int32))])) (fun t k => XS.iinc X212.here hx rfl (hb hby own_d8_32) rfl (l' := #[rv q, iv hd, iv (2 : Int32)]) rfl (XS.goto X212.here hx rfl (pc0 := 35) (pc' := 7) rfl (hb hby own_d8_35) (by decide) (by decide) (XS.iloadN X212.here hx rfl (hb hby own_d8_7) rfl (XS.aloadN X212.here hx rfl (hb hby own_d8_8) rfl rfl k)))) ?_
    have f213 := (f205.other W212 (Or.inl (own_neY f101 (hw _ (List.mem_of_getElem? (i := 1) rfl)) f113)))
    obtain ⟨T214, X214, e214, st214⟩ := getF X212 hx hZ hown (host := "") (Or.inl (hw _ (List.mem_of_getElem? (i := 9) rfl))) Via.refl e212 f213 (g := (mkF m 9 #[rv q, iv hd, iv (2 : Int32)] [(.ref q), (.int (2 : Int32))])) rfl rfl (hb hby own_d8_9)
    refine own_by (g' := (mkF m 12 #[rv q, iv hd, iv (2 : Int32)] [(.int r), (.int (2 : Int32))])) st214 ?_
    refine own_by (g' := (mkF m 16 #[rv q, iv hd, iv (2 : Int32)] [(.ref q)])) (fun t k => XS.icmpNo X214.here hx rfl (hb hby own_d8_12) rfl (tlt (by rw [hr1]; decide)).2.1 (XS.aloadN X214.here hx rfl (hb hby own_d8_15) rfl rfl k)) ?_
    have f215 := (f207.other W212 (Or.inl (own_neY f101 (hw _ (List.mem_of_getElem? (i := 1) rfl)) f113)))
    obtain ⟨T216, X216, e216, st216⟩ := getF X214 hx hZ hown (host := "") (Or.inl (hw _ (List.mem_of_getElem? (i := 18) rfl))) Via.refl e214 f215 (g := (mkF m 16 #[rv q, iv hd, iv (2 : Int32)] [(.ref q)])) rfl rfl (hb hby own_d8_16)
    refine own_by (g' := (mkF m 19 #[rv q, iv hd, iv (2 : Int32)] [(.ref b1)])) st216 ?_
    have f217 := (f209.other W212 (Or.inl (own_neY f109 (hw _ (List.mem_of_getElem? (i := 40) rfl)) f113)))
    obtain ⟨T218, X218, e218, st218⟩ := own_getR X216 hx hZ hown (hw _ (List.mem_of_getElem? (i := 66) rfl)) e216 f217 (g := (mkF m 19 #[rv q, iv hd, iv (2 : Int32)] [(.ref b1)])) rfl rfl (hb hby own_d8_19)
    refine own_by (g' := (mkF m 22 #[rv q, iv hd, iv (2 : Int32)] [(.ref a1)])) st218 ?_
    refine own_by (g' := (mkF m 24 #[rv q, iv hd, iv (2 : Int32)] [(.ref q), (.int hd), (.ref a1)])) (fun t k => XS.iloadN X218.here hx rfl (hb hby own_d8_22) rfl (XS.aloadN X218.here hx rfl (hb hby own_d8_23) rfl rfl k)) ?_
    obtain ⟨T219, X219, e219, st219⟩ := getF X218 hx hZ hown (host := "") (Or.inl (hw _ (List.mem_of_getElem? (i := 9) rfl))) Via.refl e218 f213 (g := (mkF m 24 #[rv q, iv hd, iv (2 : Int32)] [(.ref q), (.int hd), (.ref a1)])) rfl rfl (hb hby own_d8_24)
    refine own_by (g' := (mkF m 27 #[rv q, iv hd, iv (2 : Int32)] [(.int r), (.int hd), (.ref a1)])) st219 ?_
    refine own_by (g' := (mkF m 31 #[rv q, iv hd, iv (2 : Int32)] [.null, (.int ((hd * r) + (2 : Int32))), (.ref a1)])) (fun t k => XS.imul X219.here hx rfl (hb hby own_d8_27) rfl (XS.iloadN X219.here hx rfl (hb hby own_d8_28) rfl (XS.iadd X219.here hx rfl (hb hby own_d8_29) rfl (XS.aconstNull X219.here hx rfl (hb hby own_d8_30) k)))) ?_
    obtain ⟨c220, Ar220, S220, G220⟩ := id Al212
    have hin220 : ¬ (((hd * r) + (2 : Int32)) < 0 ∨ c220.slots.size ≤ (((hd * r) + (2 : Int32))).toNatClampNeg) := inb_of S220 (own_inb h0p h1p h2p r (2 : Int32) 3 2 (by rw [hr1]; decide) (by decide) (by decide))
    obtain ⟨T220, h220, X220, e220, W220, st220⟩ := stR X219 hx hZ e219 Ar220 (j := ((hd * r) + (2 : Int32))) hin220 rfl (Or.inl rfl) (g := (mkF m 31 #[rv q, iv hd, iv (2 : Int32)] [.null, (.int ((hd * r) + (2 : Int32))), (.ref a1)])) rfl rfl (hb hby own_d8_31)
    have Al220 := own_Arz.same (⟨c220, Ar220, S220, G220⟩ : own_Arz Z _ a1 (.object "java/lang/Object") (z1 * r)) W220
    have N220 := Fr.snoc X220 N212 f115
    refine own_by (g' := (mkF m 32 #[rv q, iv hd, iv (2 : Int32)] [])) st220 ?_
    refine own_by (g' := (mkF m 9 #[rv q, iv hd, iv (3 : Int32)] [(.ref q), (.int (3 : Int32))])) (fun t k => XS.iinc X220.here hx rfl (hb hby own_d8_32) rfl (l' := #[rv q, iv hd, iv (3 : Int32)]) rfl (XS.goto X220.here hx rfl (pc0 := 35) (pc' := 7) rfl (hb hby own_d8_35) (by decide) (by decide) (XS.iloadN X220.here hx rfl (hb hby own_d8_7) rfl (XS.aloadN X220.here hx rfl (hb hby own_d8_8) rfl rfl k)))) ?_
    have f221 := (f213.other W220 (Or.inl (own_neY f101 (hw _ (List.mem_of_getElem? (i := 1) rfl)) f113)))
    obtain ⟨T222, X222, e222, st222⟩ := getF X220 hx hZ hown (host := "") (Or.inl (hw _ (List.mem_of_getElem? (i := 9) rfl))) Via.refl e220 f221 (g := (mkF m 9 #[rv q, iv hd, iv (3 : Int32)] [(.ref q), (.int (3 : Int32))])) rfl rfl (hb hby own_d8_9)
    refine own_by (g' := (mkF m 12 #[rv q, iv hd, iv (3 : Int32)] [(.int r), (.int (3 : Int32))])) st222 ?_
    refine own_by (g' := (mkF m 38 #[rv q, iv hd, iv (3 : Int32)] [])) (fun t k => XS.icmpYes X222.here hx rfl (pc0 := 12) (pc' := 38) rfl (hb hby own_d8_12) rfl (flt (by rw [hr1]; decide)).2.1 (by decide) (by decide) k) ?_
    have f223 := (((f101.wr W204).wr W212).wr W220)
    have f224 := (((f103.other W204 (Or.inl (own_neY f101 (hw _ (List.mem_of_getElem? (i := 1) rfl)) f113))).other W212 (Or.inl (own_neY f101 (hw _ (List.mem_of_getElem? (i := 1) rfl)) f113))).other W220 (Or.inl (own_neY f101 (hw _ (List.mem_of_getElem? (i := 1) rfl)) f113)))
    have f225 := (f215.other W220 (Or.inl (own_neY f101 (hw _ (List.mem_of_getElem? (i := 1) rfl)) f113)))
    have f226 := (((f105.other W204 (Or.inl (own_neY f101 (hw _ (List.mem_of_getElem? (i := 1) rfl)) f113))).other W212 (Or.inl (own_neY f101 (hw _ (List.mem_of_getElem? (i := 1) rfl)) f113))).other W220 (Or.inl (own_neY f101 (hw _ (List.mem_of_getElem? (i := 1) rfl)) f113)))
    have f227 := (((f106.other W204 (Or.inl (own_neY f101 (hw _ (List.mem_of_getElem? (i := 1) rfl)) f113))).other W212 (Or.inl (own_neY f101 (hw _ (List.mem_of_getElem? (i := 1) rfl)) f113))).other W220 (Or.inl (own_neY f101 (hw _ (List.mem_of_getElem? (i := 1) rfl)) f113)))
    have f228 := (((f107.other W204 (Or.inl (own_neY f101 (hw _ (List.mem_of_getElem? (i := 1) rfl)) f113))).other W212 (Or.inl (own_neY f101 (hw _ (List.mem_of_getElem? (i := 1) rfl)) f113))).other W220 (Or.inl (own_neY f101 (hw _ (List.mem_of_getElem? (i := 1) rfl)) f113)))
    have f229 := (((f109.wr W204).wr W212).wr W220)
    have f230 := (((f110.other W204 (Or.inl (own_neY f109 (hw _ (List.mem_of_getElem? (i := 40) rfl)) f113))).other W212 (Or.inl (own_neY f109 (hw _ (List.mem_of_getElem? (i := 40) rfl)) f113))).other W220 (Or.inl (own_neY f109 (hw _ (List.mem_of_getElem? (i := 40) rfl)) f113)))
    have f231 := (f217.other W220 (Or.inl (own_neY f109 (hw _ (List.mem_of_getElem? (i := 40) rfl)) f113)))
    have f232 := (((f112.other W204 (Or.inl (own_neY f109 (hw _ (List.mem_of_getElem? (i := 40) rfl)) f113))).other W212 (Or.inl (own_neY f109 (hw _ (List.mem_of_getElem? (i := 40) rfl)) f113))).other W220 (Or.inl (own_neY f109 (hw _ (List.mem_of_getElem? (i := 40) rfl)) f113)))
    have f233 := (((f116.wr W204).wr W212).wr W220)
    have f234 := (((f117.other W204 (Or.inl (own_neY f116 (hw _ (List.mem_of_getElem? (i := 40) rfl)) f113))).other W212 (Or.inl (own_neY f116 (hw _ (List.mem_of_getElem? (i := 40) rfl)) f113))).other W220 (Or.inl (own_neY f116 (hw _ (List.mem_of_getElem? (i := 40) rfl)) f113)))
    have f235 := (((f118.other W204 (Or.inl (own_neY f116 (hw _ (List.mem_of_getElem? (i := 40) rfl)) f113))).other W212 (Or.inl (own_neY f116 (hw _ (List.mem_of_getElem? (i := 40) rfl)) f113))).other W220 (Or.inl (own_neY f116 (hw _ (List.mem_of_getElem? (i := 40) rfl)) f113)))
    have f236 := (((f119.other W204 (Or.inl (own_neY f116 (hw _ (List.mem_of_getElem? (i := 40) rfl)) f113))).other W212 (Or.inl (own_neY f116 (hw _ (List.mem_of_getElem? (i := 40) rfl)) f113))).other W220 (Or.inl (own_neY f116 (hw _ (List.mem_of_getElem? (i := 40) rfl)) f113)))
    have f237 := (((f120.other W204 (Ne.symm f133)).other W212 (Ne.symm f133)).other W220 (Ne.symm f133))
    have f238 := (((f123.wr W204).wr W212).wr W220)
    have f239 := (((f124.other W204 (Or.inl (own_neY f123 (hw _ (List.mem_of_getElem? (i := 40) rfl)) f113))).other W212 (Or.inl (own_neY f123 (hw _ (List.mem_of_getElem? (i := 40) rfl)) f113))).other W220 (Or.inl (own_neY f123 (hw _ (List.mem_of_getElem? (i := 40) rfl)) f113)))
    have f240 := (((f125.other W204 (Or.inl (own_neY f123 (hw _ (List.mem_of_getElem? (i := 40) rfl)) f113))).other W212 (Or.inl (own_neY f123 (hw _ (List.mem_of_getElem? (i := 40) rfl)) f113))).other W220 (Or.inl (own_neY f123 (hw _ (List.mem_of_getElem? (i := 40) rfl)) f113)))
    have f241 := (((f126.other W204 (Or.inl (own_neY f123 (hw _ (List.mem_of_getElem? (i := 40) rfl)) f113))).other W212 (Or.inl (own_neY f123 (hw _ (List.mem_of_getElem? (i := 40) rfl)) f113))).other W220 (Or.inl (own_neY f123 (hw _ (List.mem_of_getElem? (i := 40) rfl)) f113)))
    have f242 := (((f127.other W204 (Ne.symm f134)).other W212 (Ne.symm f134)).other W220 (Ne.symm f134))
    exact own_rem3n_38 q r w hd tl b1 a1 z1 b2 a2 z2 b3 a3 z3 ((3 : Int32)) X222 hx hZ hw hby hml hown hnm hlk hret Z0 e222 N220 ((((Keep.refl h0 [q, a1]).wr W204 (Or.inl (List.mem_of_getElem? (i := 1) rfl))).wr W212 (Or.inl (List.mem_of_getElem? (i := 1) rfl))).wr W220 (Or.inl (List.mem_of_getElem? (i := 1) rfl))) f223 f221 f224 f225 f226 f227 f228 f108 f229 f230 f231 f232 Al220 f114 f115 f233 f234 f235 f236 f237 f121 f122 f238 f239 f240 f241 f242 f128 f129 f130 f131 f132 f133 f134 f135 (by first | assumption | decide) (by first | assumption | decide) (by first | assumption | decide) (by first | assumption | decide) (by first | assumption | decide)
def Q_own_rem3a (Z : State) (q : Addr) (r : Int32) (w : Int32) (hd : Int32) (tl : Int32) (b1 : Addr) (a1 : Addr) (z1 : Int32) (b2 : Addr) (a2 : Addr) (z2 : Int32) (b3 : Addr) (a3 : Addr) (z3 : Int32) (h0 : Heap) (n0 : Nat) (v : Option Value) (h : Heap) (L : List Loc) : Prop := v = none ∧ Fr n0 L ∧ Keep h0 h [q, a1] ∧ own_Q2 Z h (q) (n0) (r) (w) ((0 : Int32)) (tl) (b2) (a2) (z2) (b3) (a3) (z3)
set_option maxRecDepth 65536 in
set_option maxHeartbeats 40000000 in
theorem own_rem3a_38 {p : Program} {l : Launch} {e : Env} {s : State} {m : MethodId} {args : Array Value} {below : List Frame} {meth : Method} {c : Code} {T0 : State} {locs : List Loc} {Z : State} {a0 : Array Value} {h0 h1 : Heap} {n0 : Nat} (q : Addr) (r : Int32) (w : Int32) (hd : Int32) (tl : Int32) (b1 : Addr) (a1 : Addr) (z1 : Int32) (b2 : Addr) (a2 : Addr) (z2 : Int32) (b3 : Addr) (a3 : Addr) (z3 : Int32) (ix : Int32)
    (X0 : Stand p l e ({ frames := 2, cells := 0, slots := 0, locals := 26 } : Room) s m args below meth c T0 locs 0 0) (hx : p.tables.exec = Jvm.exec) (hZ : Z.Warmed39 s.vm) (hw : ∀ d ∈ tables_1, d.before a0 Z = true) (hby : c.code = prog_85_method_8_code) (hml : c.maxLocals = 3) (hown : s.vm.findClass "com/example/limentinus/limentinus/simulator/RecordQueue" = some m.cls) (hnm : meth.name = "removeFirst") (hlk : meth.locks = false) (hret : meth.sig.returnType = none) (Z0 : n0 ≤ h0.size) (e0 : T0.heap = h1) (N0 : Fr n0 locs) (K0 : Keep h0 h1 [q, a1]) (x0 : Exa Z h1 q "com/example/limentinus/limentinus/simulator/RecordQueue") (x1 : Fld Z h1 q "com/example/limentinus/limentinus/simulator/RecordQueue" "references" "I" (.int r)) (x2 : Fld Z h1 q "com/example/limentinus/limentinus/simulator/RecordQueue" "numbers" "I" (.int w)) (x3 : Fld Z h1 q "com/example/limentinus/limentinus/simulator/RecordQueue" "first" "Lcom/example/limentinus/limentinus/simulator/RecordQueue$Block;" (.ref b1)) (x4 : Fld Z h1 q "com/example/limentinus/limentinus/simulator/RecordQueue" "last" "Lcom/example/limentinus/limentinus/simulator/RecordQueue$Block;" (.ref b3)) (x5 : Fld Z h1 q "com/example/limentinus/limentinus/simulator/RecordQueue" "head" "I" (.int hd)) (x6 : Fld Z h1 q "com/example/limentinus/limentinus/simulator/RecordQueue" "tail" "I" (.int tl)) (x7 : n0 ≤ q) (x8 : Exa Z h1 b1 "com/example/limentinus/limentinus/simulator/RecordQueue$Block") (x9 : Fld Z h1 b1 "com/example/limentinus/limentinus/simulator/RecordQueue$Block" "records" "I" (.int z1)) (x10 : Fld Z h1 b1 "com/example/limentinus/limentinus/simulator/RecordQueue$Block" "references" "[Ljava/lang/Object;" (.ref a1)) (x11 : Fld Z h1 b1 "com/example/limentinus/limentinus/simulator/RecordQueue$Block" "next" "Lcom/example/limentinus/limentinus/simulator/RecordQueue$Block;" (.ref b2)) (x12 : own_Arz Z h1 a1 (.object "java/lang/Object") (z1 * r)) (x13 : n0 ≤ b1) (x14 : n0 ≤ a1) (x15 : Exa Z h1 b2 "com/example/limentinus/limentinus/simulator/RecordQueue$Block") (x16 : Fld Z h1 b2 "com/example/limentinus/limentinus/simulator/RecordQueue$Block" "records" "I" (.int z2)) (x17 : Fld Z h1 b2 "com/example/limentinus/limentinus/simulator/RecordQueue$Block" "references" "[Ljava/lang/Object;" (.ref a2)) (x18 : Fld Z h1 b2 "com/example/limentinus/limentinus/simulator/RecordQueue$Block" "next" "Lcom/example/limentinus/limentinus/simulator/RecordQueue$Block;" (.ref b3)) (x19 : own_Arz Z h1 a2 (.object "java/lang/Object") (z2 * r)) (x20 : n0 ≤ b2) (x21 : n0 ≤ a2) (x22 : Exa Z h1 b3 "com/example/limentinus/limentinus/simulator/RecordQueue$Block") (x23 : Fld Z h1 b3 "com/example/limentinus/limentinus/simulator/RecordQueue$Block" "records" "I" (.int z3)) (x24 : Fld Z h1 b3 "com/example/limentinus/limentinus/simulator/RecordQueue$Block" "references" "[Ljava/lang/Object;" (.ref a3)) (x25 : Fld Z h1 b3 "com/example/limentinus/limentinus/simulator/RecordQueue$Block" "next" "Lcom/example/limentinus/limentinus/simulator/RecordQueue$Block;" .null) (x26 : own_Arz Z h1 a3 (.object "java/lang/Object") (z3 * r)) (x27 : n0 ≤ b3) (x28 : n0 ≤ a3) (x29 : b1 ≠ b2) (x30 : b1 ≠ b3) (x31 : b2 ≠ b3) (x32 : a1 ≠ a2) (x33 : a1 ≠ a3) (x34 : a2 ≠ a3) (hr : own_03 r) (h0p : 0 ≤ hd.toInt) (h1p : hd.toInt < z1.toInt) (h2p : z1.toInt ≤ 8) (hq2 : (hd + (1 : Int32)) = z1) :
    own_Goes p e below s (({ frames := 2, cells := 0, slots := 0, locals := 26 } : Room)).cells (({ frames := 2, cells := 0, slots := 0, locals := 26 } : Room)).slots (Q_own_rem3a Z q r w hd tl b1 a1 z1 b2 a2 z2 b3 a3 z3 h0 n0) T0 (mkF m 38 #[rv q, iv hd, iv ix] []) := by
  refine own_by (g' := (mkF m 40 #[rv q, iv hd, iv ix] [(.ref q), (.ref q)])) (fun t k => XS.aloadN X0.here hx rfl (hb hby own_d8_38) rfl rfl (XS.dup X0.here hx rfl (hb hby own_d8_39) rfl rfl k)) ?_
  obtain ⟨T101, X101, e101, st101⟩ := getF X0 hx hZ hown (host := "") (Or.inl (hw _ (List.mem_of_getElem? (i := 22) rfl))) Via.refl e0 x5 (g := (mkF m 40 #[rv q, iv hd, iv ix] [(.ref q), (.ref q)])) rfl rfl (hb hby own_d8_40)
  refine own_by (g' := (mkF m 43 #[rv q, iv hd, iv ix] [(.int hd), (.ref q)])) st101 ?_
  refine own_by (g' := (mkF m 45 #[rv q, iv hd, iv ix] [(.int (hd + (1 : Int32))), (.ref q)])) (fun t k => XS.iconst X101.here hx rfl (hb hby own_d8_43) (XS.iadd X101.here hx rfl (hb hby own_d8_44) rfl k)) ?_
  obtain ⟨T102, h102, X102, e102, W102, st102⟩ := putF X101 hx hZ hown (host := "") (Or.inl (hw _ (List.mem_of_getElem? (i := 22) rfl))) Via.refl e101 x5 x0 (Or.inl (hw _ (List.mem_of_getElem? (i := 23) rfl))) (hw _ (List.mem_of_getElem? (i := 1) rfl)) (ty := .int) (by decide) rfl rfl (g := (mkF m 45 #[rv q, iv hd, iv ix] [(.int (hd + (1 : Int32))), (.ref q)])) rfl rfl (hb hby own_d8_45)
  have f103 := x5.same W102
  have N102 := Fr.snoc X102 N0 x7
  refine own_by (g' := (mkF m 48 #[rv q, iv hd, iv ix] [])) st102 ?_
  refine own_by (g' := (mkF m 49 #[rv q, iv hd, iv ix] [(.ref q)])) (fun t k => XS.aloadN X102.here hx rfl (hb hby own_d8_48) rfl rfl k) ?_
  have f104 := (x3.other W102 (Or.inr (slot_ne (Or.inl (hw _ (List.mem_of_getElem? (i := 19) rfl))) (Or.inl (hw _ (List.mem_of_getElem? (i := 23) rfl))) (by decide) (t := (.object "com/example/limentinus/limentinus/simulator/RecordQueue$Block")) (t' := .int) (by decide) (by decide))))
  obtain ⟨T105, X105, e105, st105⟩ := getF X102 hx hZ hown (host := "") (Or.inl (hw _ (List.mem_of_getElem? (i := 18) rfl))) Via.refl e102 f104 (g := (mkF m 49 #[rv q, iv hd, iv ix] [(.ref q)])) rfl rfl (hb hby own_d8_49)
  refine own_by (g' := (mkF m 52 #[rv q, iv hd, iv ix] [(.ref b1)])) st105 ?_
  refine own_by (g' := (mkF m 53 #[rv q, iv hd, iv ix] [(.ref q), (.ref b1)])) (fun t k => XS.aloadN X105.here hx rfl (hb hby own_d8_52) rfl rfl k) ?_
  have f106 := (x4.other W102 (Or.inr (slot_ne (Or.inl (hw _ (List.mem_of_getElem? (i := 21) rfl))) (Or.inl (hw _ (List.mem_of_getElem? (i := 23) rfl))) (by decide) (t := (.object "com/example/limentinus/limentinus/simulator/RecordQueue$Block")) (t' := .int) (by decide) (by decide))))
  obtain ⟨T107, X107, e107, st107⟩ := getF X105 hx hZ hown (host := "") (Or.inl (hw _ (List.mem_of_getElem? (i := 20) rfl))) Via.refl e105 f106 (g := (mkF m 53 #[rv q, iv hd, iv ix] [(.ref q), (.ref b1)])) rfl rfl (hb hby own_d8_53)
  refine own_by (g' := (mkF m 56 #[rv q, iv hd, iv ix] [(.ref b3), (.ref b1)])) st107 ?_
  refine own_by (g' := (mkF m 84 #[rv q, iv hd, iv ix] [(.ref q)])) (fun t k => Jvm.RoadKit.acmp (g := (mkF m 56 #[rv q, iv hd, iv ix] [(.ref b3), (.ref b1)])) X107 hx rfl rfl rfl (pc0 := 56) (pc' := 83) (same := false) rfl (hb hby own_d8_56) rfl (decide_eq_false fun q => x30 (Value.ref.inj q)) (by decide) (by decide) (XS.aloadN X107.here hx rfl (hb hby own_d8_83) rfl rfl k)) ?_
  obtain ⟨T108, X108, e108, st108⟩ := getF X107 hx hZ hown (host := "") (Or.inl (hw _ (List.mem_of_getElem? (i := 22) rfl))) Via.refl e107 f103 (g := (mkF m 84 #[rv q, iv hd, iv ix] [(.ref q)])) rfl rfl (hb hby own_d8_84)
  refine own_by (g' := (mkF m 87 #[rv q, iv hd, iv ix] [(.int (hd + (1 : Int32)))])) st108 ?_
  refine own_by (g' := (mkF m 88 #[rv q, iv hd, iv ix] [(.ref q), (.int (hd + (1 : Int32)))])) (fun t k => XS.aloadN X108.here hx rfl (hb hby own_d8_87) rfl rfl k) ?_
  obtain ⟨T109, X109, e109, st109⟩ := getF X108 hx hZ hown (host := "") (Or.inl (hw _ (List.mem_of_getElem? (i := 18) rfl))) Via.refl e108 f104 (g := (mkF m 88 #[rv q, iv hd, iv ix] [(.ref q), (.int (hd + (1 : Int32)))])) rfl rfl (hb hby own_d8_88)
  refine own_by (g' := (mkF m 91 #[rv q, iv hd, iv ix] [(.ref b1), (.int (hd + (1 : Int32)))])) st109 ?_
  have f110 := (x9.other W102 (Or.inl (ne_exa x8 x0 (by decide))))
  obtain ⟨T111, X111, e111, st111⟩ := own_getR X109 hx hZ hown (hw _ (List.mem_of_getElem? (i := 65) rfl)) e109 f110 (g := (mkF m 91 #[rv q, iv hd, iv ix] [(.ref b1), (.int (hd + (1 : Int32)))])) rfl rfl (hb hby own_d8_91)
  refine own_by (g' := (mkF m 94 #[rv q, iv hd, iv ix] [(.int z1), (.int (hd + (1 : Int32)))])) st111 ?_
  refine own_by (g' := (mkF m 99 #[rv q, iv hd, iv ix] [(.ref q), (.ref q)])) (fun t k => XS.icmpNo X111.here hx rfl (hb hby own_d8_94) rfl (teq hq2).2 (XS.aloadN X111.here hx rfl (hb hby own_d8_97) rfl rfl (XS.aloadN X111.here hx rfl (hb hby own_d8_98) rfl rfl k))) ?_
  obtain ⟨T112, X112, e112, st112⟩ := getF X111 hx hZ hown (host := "") (Or.inl (hw _ (List.mem_of_getElem? (i := 18) rfl))) Via.refl e111 f104 (g := (mkF m 99 #[rv q, iv hd, iv ix] [(.ref q), (.ref q)])) rfl rfl (hb hby own_d8_99)
  refine own_by (g' := (mkF m 102 #[rv q, iv hd, iv ix] [(.ref b1), (.ref q)])) st112 ?_
  have f113 := (x11.other W102 (Or.inl (ne_exa x8 x0 (by decide))))
  obtain ⟨T114, X114, e114, st114⟩ := own_getR X112 hx hZ hown (hw _ (List.mem_of_getElem? (i := 71) rfl)) e112 f113 (g := (mkF m 102 #[rv q, iv hd, iv ix] [(.ref b1), (.ref q)])) rfl rfl (hb hby own_d8_102)
  refine own_by (g' := (mkF m 105 #[rv q, iv hd, iv ix] [(.ref b2), (.ref q)])) st114 ?_
  have f115 := (x0.wr W102)
  obtain ⟨T116, h116, X116, e116, W116, st116⟩ := putF X114 hx hZ hown (host := "") (Or.inl (hw _ (List.mem_of_getElem? (i := 18) rfl))) Via.refl e114 f104 f115 (Or.inl (hw _ (List.mem_of_getElem? (i := 19) rfl))) (hw _ (List.mem_of_getElem? (i := 1) rfl)) (ty := (.object "com/example/limentinus/limentinus/simulator/RecordQueue$Block")) (by decide) rfl rfl (g := (mkF m 105 #[rv q, iv hd, iv ix] [(.ref b2), (.ref q)])) rfl rfl (hb hby own_d8_105)
  have f117 := f104.same W116
  have N116 := Fr.snoc X116 N102 x7
  refine own_by (g' := (mkF m 108 #[rv q, iv hd, iv ix] [])) st116 ?_
  refine own_by (g' := (mkF m 110 #[rv q, iv hd, iv ix] [(.int (0 : Int32)), (.ref q)])) (fun t k => XS.aloadN X116.here hx rfl (hb hby own_d8_108) rfl rfl (XS.iconst X116.here hx rfl (hb hby own_d8_109) k)) ?_
  have f118 := (f103.other W116 (Or.inr (slot_ne (Or.inl (hw _ (List.mem_of_getElem? (i := 23) rfl))) (Or.inl (hw _ (List.mem_of_getElem? (i := 19) rfl))) (by decide) (t := .int) (t' := (.object "com/example/limentinus/limentinus/simulator/RecordQueue$Block")) (by decide) (by decide))))
  have f119 := (f115.wr W116)
  obtain ⟨T120, h120, X120, e120, W120, st120⟩ := putF X116 hx hZ hown (host := "") (Or.inl (hw _ (List.mem_of_getElem? (i := 22) rfl))) Via.refl e116 f118 f119 (Or.inl (hw _ (List.mem_of_getElem? (i := 23) rfl))) (hw _ (List.mem_of_getElem? (i := 1) rfl)) (ty := .int) (by decide) rfl rfl (g := (mkF m 110 #[rv q, iv hd, iv ix] [(.int (0 : Int32)), (.ref q)])) rfl rfl (hb hby own_d8_110)
  have f121 := f118.same W120
  have N120 := Fr.snoc X120 N116 x7
  refine own_by (g' := (mkF m 113 #[rv q, iv hd, iv ix] [])) st120 ?_
  have f122 := (f119.wr W120)
  have f123 := (((x1.other W102 (Or.inr (slot_ne (Or.inr (hw _ (List.mem_of_getElem? (i := 10) rfl))) (Or.inl (hw _ (List.mem_of_getElem? (i := 23) rfl))) (by decide) (t := .int) (t' := .int) (by decide) (by decide)))).other W116 (Or.inr (slot_ne (Or.inr (hw _ (List.mem_of_getElem? (i := 10) rfl))) (Or.inl (hw _ (List.mem_of_getElem? (i := 19) rfl))) (by decide) (t := .int) (t' := (.object "com/example/limentinus/limentinus/simulator/RecordQueue$Block")) (by decide) (by decide)))).other W120 (Or.inr (slot_ne (Or.inr (hw _ (List.mem_of_getElem? (i := 10) rfl))) (Or.inl (hw _ (List.mem_of_getElem? (i := 23) rfl))) (by decide) (t := .int) (t' := .int) (by decide) (by decide))))
  have f124 := (((x2.other W102 (Or.inr (slot_ne (Or.inr (hw _ (List.mem_of_getElem? (i := 12) rfl))) (Or.inl (hw _ (List.mem_of_getElem? (i := 23) rfl))) (by decide) (t := .int) (t' := .int) (by decide) (by decide)))).other W116 (Or.inr (slot_ne (Or.inr (hw _ (List.mem_of_getElem? (i := 12) rfl))) (Or.inl (hw _ (List.mem_of_getElem? (i := 19) rfl))) (by decide) (t := .int) (t' := (.object "com/example/limentinus/limentinus/simulator/RecordQueue$Block")) (by decide) (by decide)))).other W120 (Or.inr (slot_ne (Or.inr (hw _ (List.mem_of_getElem? (i := 12) rfl))) (Or.inl (hw _ (List.mem_of_getElem? (i := 23) rfl))) (by decide) (t := .int) (t' := .int) (by decide) (by decide))))
  have f125 := (f117.other W120 (Or.inr (slot_ne (Or.inl (hw _ (List.mem_of_getElem? (i := 19) rfl))) (Or.inl (hw _ (List.mem_of_getElem? (i := 23) rfl))) (by decide) (t := (.object "com/example/limentinus/limentinus/simulator/RecordQueue$Block")) (t' := .int) (by decide) (by decide))))
  have f126 := ((f106.other W116 (Or.inr (slot_ne (Or.inl (hw _ (List.mem_of_getElem? (i := 21) rfl))) (Or.inl (hw _ (List.mem_of_getElem? (i := 19) rfl))) (by decide) (t := (.object "com/example/limentinus/limentinus/simulator/RecordQueue$Block")) (t' := (.object "com/example/limentinus/limentinus/simulator/RecordQueue$Block")) (by decide) (by decide)))).other W120 (Or.inr (slot_ne (Or.inl (hw _ (List.mem_of_getElem? (i := 21) rfl))) (Or.inl (hw _ (List.mem_of_getElem? (i := 23) rfl))) (by decide) (t := (.object "com/example/limentinus/limentinus/simulator/RecordQueue$Block")) (t' := .int) (by decide) (by decide))))
  have f127 := (((x6.other W102 (Or.inr (slot_ne (Or.inl (hw _ (List.mem_of_getElem? (i := 25) rfl))) (Or.inl (hw _ (List.mem_of_getElem? (i := 23) rfl))) (by decide) (t := .int) (t' := .int) (by decide) (by decide)))).other W116 (Or.inr (slot_ne (Or.inl (hw _ (List.mem_of_getElem? (i := 25) rfl))) (Or.inl (hw _ (List.mem_of_getElem? (i := 19) rfl))) (by decide) (t := .int) (t' := (.object "com/example/limentinus/limentinus/simulator/RecordQueue$Block")) (by decide) (by decide)))).other W120 (Or.inr (slot_ne (Or.inl (hw _ (List.mem_of_getElem? (i := 25) rfl))) (Or.inl (hw _ (List.mem_of_getElem? (i := 23) rfl))) (by decide) (t := .int) (t' := .int) (by decide) (by decide))))
  have f128 := (((x15.wr W102).wr W116).wr W120)
  have f129 := (((x16.other W102 (Or.inl (ne_exa x15 x0 (by decide)))).other W116 (Or.inl (ne_exa x15 x0 (by decide)))).other W120 (Or.inl (ne_exa x15 x0 (by decide))))
  have f130 := (((x17.other W102 (Or.inl (ne_exa x15 x0 (by decide)))).other W116 (Or.inl (ne_exa x15 x0 (by decide)))).other W120 (Or.inl (ne_exa x15 x0 (by decide))))
  have f131 := (((x18.other W102 (Or.inl (ne_exa x15 x0 (by decide)))).other W116 (Or.inl (ne_exa x15 x0 (by decide)))).other W120 (Or.inl (ne_exa x15 x0 (by decide))))
  have f132 := (((x19.other W102 (Ne.symm (own_neY x0 (hw _ (List.mem_of_getElem? (i := 1) rfl)) x19))).other W116 (Ne.symm (own_neY x0 (hw _ (List.mem_of_getElem? (i := 1) rfl)) x19))).other W120 (Ne.symm (own_neY x0 (hw _ (List.mem_of_getElem? (i := 1) rfl)) x19)))
  have f133 := (((x22.wr W102).wr W116).wr W120)
  have f134 := (((x23.other W102 (Or.inl (ne_exa x22 x0 (by decide)))).other W116 (Or.inl (ne_exa x22 x0 (by decide)))).other W120 (Or.inl (ne_exa x22 x0 (by decide))))
  have f135 := (((x24.other W102 (Or.inl (ne_exa x22 x0 (by decide)))).other W116 (Or.inl (ne_exa x22 x0 (by decide)))).other W120 (Or.inl (ne_exa x22 x0 (by decide))))
  have f136 := (((x25.other W102 (Or.inl (ne_exa x22 x0 (by decide)))).other W116 (Or.inl (ne_exa x22 x0 (by decide)))).other W120 (Or.inl (ne_exa x22 x0 (by decide))))
  have f137 := (((x26.other W102 (Ne.symm (own_neY x0 (hw _ (List.mem_of_getElem? (i := 1) rfl)) x26))).other W116 (Ne.symm (own_neY x0 (hw _ (List.mem_of_getElem? (i := 1) rfl)) x26))).other W120 (Ne.symm (own_neY x0 (hw _ (List.mem_of_getElem? (i := 1) rfl)) x26)))
  refine own_retV X120 hx hlk hret (hb hby own_d8_113) (by decide) (by decide) ?_
  rw [e120]
  exact ⟨rfl, N120, (((((Keep.refl h0 [q, a1]).trans K0 (allS (Or.inl (List.mem_of_getElem? (i := 0) rfl)) (allS (Or.inl (List.mem_of_getElem? (i := 1) rfl)) all0))).wr W102 (Or.inl (List.mem_of_getElem? (i := 0) rfl))).wr W116 (Or.inl (List.mem_of_getElem? (i := 0) rfl))).wr W120 (Or.inl (List.mem_of_getElem? (i := 0) rfl))), ⟨f122, f123, f124, f125, f126, f121, f127, x7, f128, f129, f130, f131, f132, x20, x21, f133, f134, f135, f136, f137, x27, x28, x31, x34⟩⟩
theorem own_ef_own_rem3a (m : MethodId) (q : Addr) : entryFrame m #[(.ref q)] 3 = mkF m 0 #[rv q, .unset, .unset] [] := by first | (simp [entryFrame, mkF, argsToLocals, Value.category]; done) | rfl
set_option maxRecDepth 65536 in
set_option maxHeartbeats 40000000 in
theorem own_rem3a (l : Launch) (Z : State) (a0 : Array Value) (hw : ∀ d ∈ tables_1, d.before a0 Z = true) (ws : List Jvm.Cond) (q : Addr) (r : Int32) (w : Int32) (hd : Int32) (tl : Int32) (b1 : Addr) (a1 : Addr) (z1 : Int32) (b2 : Addr) (a2 : Addr) (z2 : Int32) (b3 : Addr) (a3 : Addr) (z3 : Int32) (h0 : Heap) (n0 : Nat) (Z0 : n0 ≤ h0.size) (B0 : own_Q3 Z h0 (q) (n0) (r) (w) (hd) (tl) (b1) (a1) (z1) (b2) (a2) (z2) (b3) (a3) (z3)) (hr : own_03 r) (h0p : 0 ≤ hd.toInt) (h1p : hd.toInt < z1.toInt) (h2p : z1.toInt ≤ 8) (hq2 : (hd + (1 : Int32)) = z1) :
    own_Ctr l Z (⟨"com/example/limentinus/limentinus/simulator/RecordQueue", "removeFirst", "()V"⟩ : MethodName) prog_85_method_8_code 3 none ws ({ frames := 2, cells := 0, slots := 0, locals := 26 } : Room) (({ frames := 2, cells := 0, slots := 0, locals := 26 } : Room)).cells (({ frames := 2, cells := 0, slots := 0, locals := 26 } : Room)).slots #[(.ref q)] h0 (Q_own_rem3a Z q r w hd tl b1 a1 z1 b2 a2 z2 b3 a3 z3 h0 n0) := by
  refine own_enter (plainFor_of_name own_pn0) ?_
  intro p e s m below meth c s₁ X0 hx hZ hby hml hown hnm hlk hret e0
  have N0 := Fr.nil n0
  refine own_cast (own_ef_own_rem3a m q) ?_
  obtain ⟨f101, f102, f103, f104, f105, f106, f107, f108, f109, f110, f111, f112, f113, f114, f115, f116, f117, f118, f119, f120, f121, f122, f123, f124, f125, f126, f127, f128, f129, f130, f131, f132, f133, f134, f135⟩ := B0
  refine own_by (g' := (mkF m 1 #[rv q, .unset, .unset] [(.ref q)])) (fun t k => XS.aloadN X0.here hx rfl (hb hby own_d8_0) rfl rfl k) ?_
  refine own_callP X0 hx hZ hown (hw _ (List.mem_of_getElem? (i := 60) rfl)) (hw _ (List.mem_of_getElem? (i := 61) rfl)) (own_selp (hw _ (List.mem_of_getElem? (i := 1) rfl)) (hw _ (List.mem_of_getElem? (i := 61) rfl)) (hw _ (List.mem_of_getElem? (i := 62) rfl)) (by decide)) (hw _ (List.mem_of_getElem? (i := 62) rfl)) (hw _ (List.mem_of_getElem? (i := 63) rfl)) (hw _ (List.mem_of_getElem? (i := 2) rfl)) (by decide) (a := q) f101 (own_fr3 l Z a0 hw [] (q) (r) (w) (hd) (tl) (b1) (a1) (z1) (b2) (a2) (z2) (b3) (a3) (z3) h0 n0 Z0 ⟨f101, f102, f103, f104, f105, f106, f107, f108, f109, f110, f111, f112, f113, f114, f115, f116, f117, f118, f119, f120, f121, f122, f123, f124, f125, f126, f127, f128, f129, f130, f131, f132, f133, f134, f135⟩) 0 (by decide) (by decide) (by decide) (by decide) e0 (g := (mkF m 1 #[rv q, .unset, .unset] [(.ref q)])) rfl (by rw [hml]; rfl) (argsL := []) (rest := []) (lenOf own_pd4 rfl) rfl (by show 2 * 0 + _ ≤ _; exact Nat.le_of_eq rfl) (hb hby own_d8_1) ?_
  intro v136 T136 L136 X136 q136
  obtain ⟨rfl, N136q, e136⟩ := q136
  have N136 := Fr.app N0 N136q
  show own_Goes p e below s _ _ _ T136 (mkF m 4 #[rv q, .unset, .unset] [(.int hd)])
  refine own_by (g' := (mkF m 7 #[rv q, iv hd, iv (0 : Int32)] [])) (fun t k => XS.istoreN X136.here hx rfl (hb hby own_d8_4) rfl (l' := #[rv q, iv hd, .unset]) rfl (XS.iconst X136.here hx rfl (hb hby own_d8_5) (XS.istoreN X136.here hx rfl (hb hby own_d8_6) rfl (l' := #[rv q, iv hd, iv (0 : Int32)]) rfl k))) ?_
  rcases id hr with hr1 | hr1 | hr1 | hr1
  ·
    refine own_by (g' := (mkF m 9 #[rv q, iv hd, iv (0 : Int32)] [(.ref q), (.int (0 : Int32))])) (fun t k => XS.iloadN X136.here hx rfl (hb hby own_d8_7) rfl (XS.aloadN X136.here hx rfl (hb hby own_d8_8) rfl rfl k)) ?_
    obtain ⟨T137, X137, e137, st137⟩ := getF X136 hx hZ hown (host := "") (Or.inl (hw _ (List.mem_of_getElem? (i := 9) rfl))) Via.refl e136 f102 (g := (mkF m 9 #[rv q, iv hd, iv (0 : Int32)] [(.ref q), (.int (0 : Int32))])) rfl rfl (hb hby own_d8_9)
    refine own_by (g' := (mkF m 12 #[rv q, iv hd, iv (0 : Int32)] [(.int r), (.int (0 : Int32))])) st137 ?_
    refine own_by (g' := (mkF m 38 #[rv q, iv hd, iv (0 : Int32)] [])) (fun t k => XS.icmpYes X137.here hx rfl (pc0 := 12) (pc' := 38) rfl (hb hby own_d8_12) rfl (flt (by rw [hr1]; decide)).2.1 (by decide) (by decide) k) ?_
    exact own_rem3a_38 q r w hd tl b1 a1 z1 b2 a2 z2 b3 a3 z3 ((0 : Int32)) X137 hx hZ hw hby hml hown hnm hlk hret Z0 e137 N136 (Keep.refl h0 [q, a1]) f101 f102 f103 f104 f105 f106 f107 f108 f109 f110 f111 f112 f113 f114 f115 f116 f117 f118 f119 f120 f121 f122 f123 f124 f125 f126 f127 f128 f129 f130 f131 f132 f133 f134 f135 (by first | assumption | decide) (by first | assumption | decide) (by first | assumption | decide) (by first | assumption | decide) (by first | assumption | decide)
  ·
    refine own_by (g' := (mkF m 9 #[rv q, iv hd, iv (0 : Int32)] [(.ref q), (.int (0 : Int32))])) (fun t k => XS.iloadN X136.here hx rfl (hb hby own_d8_7) rfl (XS.aloadN X136.here hx rfl (hb hby own_d8_8) rfl rfl k)) ?_
    obtain ⟨T138, X138, e138, st138⟩ := getF X136 hx hZ hown (host := "") (Or.inl (hw _ (List.mem_of_getElem? (i := 9) rfl))) Via.refl e136 f102 (g := (mkF m 9 #[rv q, iv hd, iv (0 : Int32)] [(.ref q), (.int (0 : Int32))])) rfl rfl (hb hby own_d8_9)
    refine own_by (g' := (mkF m 12 #[rv q, iv hd, iv (0 : Int32)] [(.int r), (.int (0 : Int32))])) st138 ?_
    refine own_by (g' := (mkF m 16 #[rv q, iv hd, iv (0 : Int32)] [(.ref q)])) (fun t k => XS.icmpNo X138.here hx rfl (hb hby own_d8_12) rfl (tlt (by rw [hr1]; decide)).2.1 (XS.aloadN X138.here hx rfl (hb hby own_d8_15) rfl rfl k)) ?_
    obtain ⟨T139, X139, e139, st139⟩ := getF X138 hx hZ hown (host := "") (Or.inl (hw _ (List.mem_of_getElem? (i := 18) rfl))) Via.refl e138 f104 (g := (mkF m 16 #[rv q, iv hd, iv (0 : Int32)] [(.ref q)])) rfl rfl (hb hby own_d8_16)
    refine own_by (g' := (mkF m 19 #[rv q, iv hd, iv (0 : Int32)] [(.ref b1)])) st139 ?_
    obtain ⟨T140, X140, e140, st140⟩ := own_getR X139 hx hZ hown (hw _ (List.mem_of_getElem? (i := 66) rfl)) e139 f111 (g := (mkF m 19 #[rv q, iv hd, iv (0 : Int32)] [(.ref b1)])) rfl rfl (hb hby own_d8_19)
    refine own_by (g' := (mkF m 22 #[rv q, iv hd, iv (0 : Int32)] [(.ref a1)])) st140 ?_
    refine own_by (g' := (mkF m 24 #[rv q, iv hd, iv (0 : Int32)] [(.ref q), (.int hd), (.ref a1)])) (fun t k => XS.iloadN X140.here hx rfl (hb hby own_d8_22) rfl (XS.aloadN X140.here hx rfl (hb hby own_d8_23) rfl rfl k)) ?_
    obtain ⟨T141, X141, e141, st141⟩ := getF X140 hx hZ hown (host := "") (Or.inl (hw _ (List.mem_of_getElem? (i := 9) rfl))) Via.refl e140 f102 (g := (mkF m 24 #[rv q, iv hd, iv (0 : Int32)] [(.ref q), (.int hd), (.ref a1)])) rfl rfl (hb hby own_d8_24)
    refine own_by (g' := (mkF m 27 #[rv q, iv hd, iv (0 : Int32)] [(.int r), (.int hd), (.ref a1)])) st141 ?_
    refine own_by (g' := (mkF m 31 #[rv q, iv hd, iv (0 : Int32)] [.null, (.int ((hd * r) + (0 : Int32))), (.ref a1)])) (fun t k => XS.imul X141.here hx rfl (hb hby own_d8_27) rfl (XS.iloadN X141.here hx rfl (hb hby own_d8_28) rfl (XS.iadd X141.here hx rfl (hb hby own_d8_29) rfl (XS.aconstNull X141.here hx rfl (hb hby own_d8_30) k)))) ?_
    obtain ⟨c142, Ar142, S142, G142⟩ := id f113
    have hin142 : ¬ (((hd * r) + (0 : Int32)) < 0 ∨ c142.slots.size ≤ (((hd * r) + (0 : Int32))).toNatClampNeg) := inb_of S142 (own_inb h0p h1p h2p r (0 : Int32) 1 0 (by rw [hr1]; decide) (by decide) (by decide))
    obtain ⟨T142, h142, X142, e142, W142, st142⟩ := stR X141 hx hZ e141 Ar142 (j := ((hd * r) + (0 : Int32))) hin142 rfl (Or.inl rfl) (g := (mkF m 31 #[rv q, iv hd, iv (0 : Int32)] [.null, (.int ((hd * r) + (0 : Int32))), (.ref a1)])) rfl rfl (hb hby own_d8_31)
    have Al142 := own_Arz.same (⟨c142, Ar142, S142, G142⟩ : own_Arz Z _ a1 (.object "java/lang/Object") (z1 * r)) W142
    have N142 := Fr.snoc X142 N136 f115
    refine own_by (g' := (mkF m 32 #[rv q, iv hd, iv (0 : Int32)] [])) st142 ?_
    refine own_by (g' := (mkF m 9 #[rv q, iv hd, iv (1 : Int32)] [(.ref q), (.int (1 : Int32))])) (fun t k => XS.iinc X142.here hx rfl (hb hby own_d8_32) rfl (l' := #[rv q, iv hd, iv (1 : Int32)]) rfl (XS.goto X142.here hx rfl (pc0 := 35) (pc' := 7) rfl (hb hby own_d8_35) (by decide) (by decide) (XS.iloadN X142.here hx rfl (hb hby own_d8_7) rfl (XS.aloadN X142.here hx rfl (hb hby own_d8_8) rfl rfl k)))) ?_
    have f143 := (f102.other W142 (Or.inl (own_neY f101 (hw _ (List.mem_of_getElem? (i := 1) rfl)) f113)))
    obtain ⟨T144, X144, e144, st144⟩ := getF X142 hx hZ hown (host := "") (Or.inl (hw _ (List.mem_of_getElem? (i := 9) rfl))) Via.refl e142 f143 (g := (mkF m 9 #[rv q, iv hd, iv (1 : Int32)] [(.ref q), (.int (1 : Int32))])) rfl rfl (hb hby own_d8_9)
    refine own_by (g' := (mkF m 12 #[rv q, iv hd, iv (1 : Int32)] [(.int r), (.int (1 : Int32))])) st144 ?_
    refine own_by (g' := (mkF m 38 #[rv q, iv hd, iv (1 : Int32)] [])) (fun t k => XS.icmpYes X144.here hx rfl (pc0 := 12) (pc' := 38) rfl (hb hby own_d8_12) rfl (flt (by rw [hr1]; decide)).2.1 (by decide) (by decide) k) ?_
    have f145 := (f101.wr W142)
    have f146 := (f103.other W142 (Or.inl (own_neY f101 (hw _ (List.mem_of_getElem? (i := 1) rfl)) f113)))
    have f147 := (f104.other W142 (Or.inl (own_neY f101 (hw _ (List.mem_of_getElem? (i := 1) rfl)) f113)))
    have f148 := (f105.other W142 (Or.inl (own_neY f101 (hw _ (List.mem_of_getElem? (i := 1) rfl)) f113)))
    have f149 := (f106.other W142 (Or.inl (own_neY f101 (hw _ (List.mem_of_getElem? (i := 1) rfl)) f113)))
    have f150 := (f107.other W142 (Or.inl (own_neY f101 (hw _ (List.mem_of_getElem? (i := 1) rfl)) f113)))
    have f151 := (f109.wr W142)
    have f152 := (f110.other W142 (Or.inl (own_neY f109 (hw _ (List.mem_of_getElem? (i := 40) rfl)) f113)))
    have f153 := (f111.other W142 (Or.inl (own_neY f109 (hw _ (List.mem_of_getElem? (i := 40) rfl)) f113)))
    have f154 := (f112.other W142 (Or.inl (own_neY f109 (hw _ (List.mem_of_getElem? (i := 40) rfl)) f113)))
    have f155 := (f116.wr W142)
    have f156 := (f117.other W142 (Or.inl (own_neY f116 (hw _ (List.mem_of_getElem? (i := 40) rfl)) f113)))
    have f157 := (f118.other W142 (Or.inl (own_neY f116 (hw _ (List.mem_of_getElem? (i := 40) rfl)) f113)))
    have f158 := (f119.other W142 (Or.inl (own_neY f116 (hw _ (List.mem_of_getElem? (i := 40) rfl)) f113)))
    have f159 := (f120.other W142 (Ne.symm f133))
    have f160 := (f123.wr W142)
    have f161 := (f124.other W142 (Or.inl (own_neY f123 (hw _ (List.mem_of_getElem? (i := 40) rfl)) f113)))
    have f162 := (f125.other W142 (Or.inl (own_neY f123 (hw _ (List.mem_of_getElem? (i := 40) rfl)) f113)))
    have f163 := (f126.other W142 (Or.inl (own_neY f123 (hw _ (List.mem_of_getElem? (i := 40) rfl)) f113)))
    have f164 := (f127.other W142 (Ne.symm f134))
    exact own_rem3a_38 q r w hd tl b1 a1 z1 b2 a2 z2 b3 a3 z3 ((1 : Int32)) X144 hx hZ hw hby hml hown hnm hlk hret Z0 e144 N142 ((Keep.refl h0 [q, a1]).wr W142 (Or.inl (List.mem_of_getElem? (i := 1) rfl))) f145 f143 f146 f147 f148 f149 f150 f108 f151 f152 f153 f154 Al142 f114 f115 f155 f156 f157 f158 f159 f121 f122 f160 f161 f162 f163 f164 f128 f129 f130 f131 f132 f133 f134 f135 (by first | assumption | decide) (by first | assumption | decide) (by first | assumption | decide) (by first | assumption | decide) (by first | assumption | decide)
  ·
    refine own_by (g' := (mkF m 9 #[rv q, iv hd, iv (0 : Int32)] [(.ref q), (.int (0 : Int32))])) (fun t k => XS.iloadN X136.here hx rfl (hb hby own_d8_7) rfl (XS.aloadN X136.here hx rfl (hb hby own_d8_8) rfl rfl k)) ?_
    obtain ⟨T165, X165, e165, st165⟩ := getF X136 hx hZ hown (host := "") (Or.inl (hw _ (List.mem_of_getElem? (i := 9) rfl))) Via.refl e136 f102 (g := (mkF m 9 #[rv q, iv hd, iv (0 : Int32)] [(.ref q), (.int (0 : Int32))])) rfl rfl (hb hby own_d8_9)
    refine own_by (g' := (mkF m 12 #[rv q, iv hd, iv (0 : Int32)] [(.int r), (.int (0 : Int32))])) st165 ?_
    refine own_by (g' := (mkF m 16 #[rv q, iv hd, iv (0 : Int32)] [(.ref q)])) (fun t k => XS.icmpNo X165.here hx rfl (hb hby own_d8_12) rfl (tlt (by rw [hr1]; decide)).2.1 (XS.aloadN X165.here hx rfl (hb hby own_d8_15) rfl rfl k)) ?_
    obtain ⟨T166, X166, e166, st166⟩ := getF X165 hx hZ hown (host := "") (Or.inl (hw _ (List.mem_of_getElem? (i := 18) rfl))) Via.refl e165 f104 (g := (mkF m 16 #[rv q, iv hd, iv (0 : Int32)] [(.ref q)])) rfl rfl (hb hby own_d8_16)
    refine own_by (g' := (mkF m 19 #[rv q, iv hd, iv (0 : Int32)] [(.ref b1)])) st166 ?_
    obtain ⟨T167, X167, e167, st167⟩ := own_getR X166 hx hZ hown (hw _ (List.mem_of_getElem? (i := 66) rfl)) e166 f111 (g := (mkF m 19 #[rv q, iv hd, iv (0 : Int32)] [(.ref b1)])) rfl rfl (hb hby own_d8_19)
    refine own_by (g' := (mkF m 22 #[rv q, iv hd, iv (0 : Int32)] [(.ref a1)])) st167 ?_
    refine own_by (g' := (mkF m 24 #[rv q, iv hd, iv (0 : Int32)] [(.ref q), (.int hd), (.ref a1)])) (fun t k => XS.iloadN X167.here hx rfl (hb hby own_d8_22) rfl (XS.aloadN X167.here hx rfl (hb hby own_d8_23) rfl rfl k)) ?_
    obtain ⟨T168, X168, e168, st168⟩ := getF X167 hx hZ hown (host := "") (Or.inl (hw _ (List.mem_of_getElem? (i := 9) rfl))) Via.refl e167 f102 (g := (mkF m 24 #[rv q, iv hd, iv (0 : Int32)] [(.ref q), (.int hd), (.ref a1)])) rfl rfl (hb hby own_d8_24)
    refine own_by (g' := (mkF m 27 #[rv q, iv hd, iv (0 : Int32)] [(.int r), (.int hd), (.ref a1)])) st168 ?_
    refine own_by (g' := (mkF m 31 #[rv q, iv hd, iv (0 : Int32)] [.null, (.int ((hd * r) + (0 : Int32))), (.ref a1)])) (fun t k => XS.imul X168.here hx rfl (hb hby own_d8_27) rfl (XS.iloadN X168.here hx rfl (hb hby own_d8_28) rfl (XS.iadd X168.here hx rfl (hb hby own_d8_29) rfl (XS.aconstNull X168.here hx rfl (hb hby own_d8_30) k)))) ?_
    obtain ⟨c169, Ar169, S169, G169⟩ := id f113
    have hin169 : ¬ (((hd * r) + (0 : Int32)) < 0 ∨ c169.slots.size ≤ (((hd * r) + (0 : Int32))).toNatClampNeg) := inb_of S169 (own_inb h0p h1p h2p r (0 : Int32) 2 0 (by rw [hr1]; decide) (by decide) (by decide))
    obtain ⟨T169, h169, X169, e169, W169, st169⟩ := stR X168 hx hZ e168 Ar169 (j := ((hd * r) + (0 : Int32))) hin169 rfl (Or.inl rfl) (g := (mkF m 31 #[rv q, iv hd, iv (0 : Int32)] [.null, (.int ((hd * r) + (0 : Int32))), (.ref a1)])) rfl rfl (hb hby own_d8_31)
    have Al169 := own_Arz.same (⟨c169, Ar169, S169, G169⟩ : own_Arz Z _ a1 (.object "java/lang/Object") (z1 * r)) W169
    have N169 := Fr.snoc X169 N136 f115
    refine own_by (g' := (mkF m 32 #[rv q, iv hd, iv (0 : Int32)] [])) st169 ?_
    refine own_by (g' := (mkF m 9 #[rv q, iv hd, iv (1 : Int32)] [(.ref q), (.int (1 : Int32))])) (fun t k => XS.iinc X169.here hx rfl (hb hby own_d8_32) rfl (l' := #[rv q, iv hd, iv (1 : Int32)]) rfl (XS.goto X169.here hx rfl (pc0 := 35) (pc' := 7) rfl (hb hby own_d8_35) (by decide) (by decide) (XS.iloadN X169.here hx rfl (hb hby own_d8_7) rfl (XS.aloadN X169.here hx rfl (hb hby own_d8_8) rfl rfl k)))) ?_
    have f170 := (f102.other W169 (Or.inl (own_neY f101 (hw _ (List.mem_of_getElem? (i := 1) rfl)) f113)))
    obtain ⟨T171, X171, e171, st171⟩ := getF X169 hx hZ hown (host := "") (Or.inl (hw _ (List.mem_of_getElem? (i := 9) rfl))) Via.refl e169 f170 (g := (mkF m 9 #[rv q, iv hd, iv (1 : Int32)] [(.ref q), (.int (1 : Int32))])) rfl rfl (hb hby own_d8_9)
    refine own_by (g' := (mkF m 12 #[rv q, iv hd, iv (1 : Int32)] [(.int r), (.int (1 : Int32))])) st171 ?_
    refine own_by (g' := (mkF m 16 #[rv q, iv hd, iv (1 : Int32)] [(.ref q)])) (fun t k => XS.icmpNo X171.here hx rfl (hb hby own_d8_12) rfl (tlt (by rw [hr1]; decide)).2.1 (XS.aloadN X171.here hx rfl (hb hby own_d8_15) rfl rfl k)) ?_
    have f172 := (f104.other W169 (Or.inl (own_neY f101 (hw _ (List.mem_of_getElem? (i := 1) rfl)) f113)))
    obtain ⟨T173, X173, e173, st173⟩ := getF X171 hx hZ hown (host := "") (Or.inl (hw _ (List.mem_of_getElem? (i := 18) rfl))) Via.refl e171 f172 (g := (mkF m 16 #[rv q, iv hd, iv (1 : Int32)] [(.ref q)])) rfl rfl (hb hby own_d8_16)
    refine own_by (g' := (mkF m 19 #[rv q, iv hd, iv (1 : Int32)] [(.ref b1)])) st173 ?_
    have f174 := (f111.other W169 (Or.inl (own_neY f109 (hw _ (List.mem_of_getElem? (i := 40) rfl)) f113)))
    obtain ⟨T175, X175, e175, st175⟩ := own_getR X173 hx hZ hown (hw _ (List.mem_of_getElem? (i := 66) rfl)) e173 f174 (g := (mkF m 19 #[rv q, iv hd, iv (1 : Int32)] [(.ref b1)])) rfl rfl (hb hby own_d8_19)
    refine own_by (g' := (mkF m 22 #[rv q, iv hd, iv (1 : Int32)] [(.ref a1)])) st175 ?_
    refine own_by (g' := (mkF m 24 #[rv q, iv hd, iv (1 : Int32)] [(.ref q), (.int hd), (.ref a1)])) (fun t k => XS.iloadN X175.here hx rfl (hb hby own_d8_22) rfl (XS.aloadN X175.here hx rfl (hb hby own_d8_23) rfl rfl k)) ?_
    obtain ⟨T176, X176, e176, st176⟩ := getF X175 hx hZ hown (host := "") (Or.inl (hw _ (List.mem_of_getElem? (i := 9) rfl))) Via.refl e175 f170 (g := (mkF m 24 #[rv q, iv hd, iv (1 : Int32)] [(.ref q), (.int hd), (.ref a1)])) rfl rfl (hb hby own_d8_24)
    refine own_by (g' := (mkF m 27 #[rv q, iv hd, iv (1 : Int32)] [(.int r), (.int hd), (.ref a1)])) st176 ?_
    refine own_by (g' := (mkF m 31 #[rv q, iv hd, iv (1 : Int32)] [.null, (.int ((hd * r) + (1 : Int32))), (.ref a1)])) (fun t k => XS.imul X176.here hx rfl (hb hby own_d8_27) rfl (XS.iloadN X176.here hx rfl (hb hby own_d8_28) rfl (XS.iadd X176.here hx rfl (hb hby own_d8_29) rfl (XS.aconstNull X176.here hx rfl (hb hby own_d8_30) k)))) ?_
    obtain ⟨c177, Ar177, S177, G177⟩ := id Al169
    have hin177 : ¬ (((hd * r) + (1 : Int32)) < 0 ∨ c177.slots.size ≤ (((hd * r) + (1 : Int32))).toNatClampNeg) := inb_of S177 (own_inb h0p h1p h2p r (1 : Int32) 2 1 (by rw [hr1]; decide) (by decide) (by decide))
    obtain ⟨T177, h177, X177, e177, W177, st177⟩ := stR X176 hx hZ e176 Ar177 (j := ((hd * r) + (1 : Int32))) hin177 rfl (Or.inl rfl) (g := (mkF m 31 #[rv q, iv hd, iv (1 : Int32)] [.null, (.int ((hd * r) + (1 : Int32))), (.ref a1)])) rfl rfl (hb hby own_d8_31)
    have Al177 := own_Arz.same (⟨c177, Ar177, S177, G177⟩ : own_Arz Z _ a1 (.object "java/lang/Object") (z1 * r)) W177
    have N177 := Fr.snoc X177 N169 f115
    refine own_by (g' := (mkF m 32 #[rv q, iv hd, iv (1 : Int32)] [])) st177 ?_
    refine own_by (g' := (mkF m 9 #[rv q, iv hd, iv (2 : Int32)] [(.ref q), (.int (2 : Int32))])) (fun t k => XS.iinc X177.here hx rfl (hb hby own_d8_32) rfl (l' := #[rv q, iv hd, iv (2 : Int32)]) rfl (XS.goto X177.here hx rfl (pc0 := 35) (pc' := 7) rfl (hb hby own_d8_35) (by decide) (by decide) (XS.iloadN X177.here hx rfl (hb hby own_d8_7) rfl (XS.aloadN X177.here hx rfl (hb hby own_d8_8) rfl rfl k)))) ?_
    have f178 := (f170.other W177 (Or.inl (own_neY f101 (hw _ (List.mem_of_getElem? (i := 1) rfl)) f113)))
    obtain ⟨T179, X179, e179, st179⟩ := getF X177 hx hZ hown (host := "") (Or.inl (hw _ (List.mem_of_getElem? (i := 9) rfl))) Via.refl e177 f178 (g := (mkF m 9 #[rv q, iv hd, iv (2 : Int32)] [(.ref q), (.int (2 : Int32))])) rfl rfl (hb hby own_d8_9)
    refine own_by (g' := (mkF m 12 #[rv q, iv hd, iv (2 : Int32)] [(.int r), (.int (2 : Int32))])) st179 ?_
    refine own_by (g' := (mkF m 38 #[rv q, iv hd, iv (2 : Int32)] [])) (fun t k => XS.icmpYes X179.here hx rfl (pc0 := 12) (pc' := 38) rfl (hb hby own_d8_12) rfl (flt (by rw [hr1]; decide)).2.1 (by decide) (by decide) k) ?_
    have f180 := ((f101.wr W169).wr W177)
    have f181 := ((f103.other W169 (Or.inl (own_neY f101 (hw _ (List.mem_of_getElem? (i := 1) rfl)) f113))).other W177 (Or.inl (own_neY f101 (hw _ (List.mem_of_getElem? (i := 1) rfl)) f113)))
    have f182 := (f172.other W177 (Or.inl (own_neY f101 (hw _ (List.mem_of_getElem? (i := 1) rfl)) f113)))
    have f183 := ((f105.other W169 (Or.inl (own_neY f101 (hw _ (List.mem_of_getElem? (i := 1) rfl)) f113))).other W177 (Or.inl (own_neY f101 (hw _ (List.mem_of_getElem? (i := 1) rfl)) f113)))
    have f184 := ((f106.other W169 (Or.inl (own_neY f101 (hw _ (List.mem_of_getElem? (i := 1) rfl)) f113))).other W177 (Or.inl (own_neY f101 (hw _ (List.mem_of_getElem? (i := 1) rfl)) f113)))
    have f185 := ((f107.other W169 (Or.inl (own_neY f101 (hw _ (List.mem_of_getElem? (i := 1) rfl)) f113))).other W177 (Or.inl (own_neY f101 (hw _ (List.mem_of_getElem? (i := 1) rfl)) f113)))
    have f186 := ((f109.wr W169).wr W177)
    have f187 := ((f110.other W169 (Or.inl (own_neY f109 (hw _ (List.mem_of_getElem? (i := 40) rfl)) f113))).other W177 (Or.inl (own_neY f109 (hw _ (List.mem_of_getElem? (i := 40) rfl)) f113)))
    have f188 := (f174.other W177 (Or.inl (own_neY f109 (hw _ (List.mem_of_getElem? (i := 40) rfl)) f113)))
    have f189 := ((f112.other W169 (Or.inl (own_neY f109 (hw _ (List.mem_of_getElem? (i := 40) rfl)) f113))).other W177 (Or.inl (own_neY f109 (hw _ (List.mem_of_getElem? (i := 40) rfl)) f113)))
    have f190 := ((f116.wr W169).wr W177)
    have f191 := ((f117.other W169 (Or.inl (own_neY f116 (hw _ (List.mem_of_getElem? (i := 40) rfl)) f113))).other W177 (Or.inl (own_neY f116 (hw _ (List.mem_of_getElem? (i := 40) rfl)) f113)))
    have f192 := ((f118.other W169 (Or.inl (own_neY f116 (hw _ (List.mem_of_getElem? (i := 40) rfl)) f113))).other W177 (Or.inl (own_neY f116 (hw _ (List.mem_of_getElem? (i := 40) rfl)) f113)))
    have f193 := ((f119.other W169 (Or.inl (own_neY f116 (hw _ (List.mem_of_getElem? (i := 40) rfl)) f113))).other W177 (Or.inl (own_neY f116 (hw _ (List.mem_of_getElem? (i := 40) rfl)) f113)))
    have f194 := ((f120.other W169 (Ne.symm f133)).other W177 (Ne.symm f133))
    have f195 := ((f123.wr W169).wr W177)
    have f196 := ((f124.other W169 (Or.inl (own_neY f123 (hw _ (List.mem_of_getElem? (i := 40) rfl)) f113))).other W177 (Or.inl (own_neY f123 (hw _ (List.mem_of_getElem? (i := 40) rfl)) f113)))
    have f197 := ((f125.other W169 (Or.inl (own_neY f123 (hw _ (List.mem_of_getElem? (i := 40) rfl)) f113))).other W177 (Or.inl (own_neY f123 (hw _ (List.mem_of_getElem? (i := 40) rfl)) f113)))
    have f198 := ((f126.other W169 (Or.inl (own_neY f123 (hw _ (List.mem_of_getElem? (i := 40) rfl)) f113))).other W177 (Or.inl (own_neY f123 (hw _ (List.mem_of_getElem? (i := 40) rfl)) f113)))
    have f199 := ((f127.other W169 (Ne.symm f134)).other W177 (Ne.symm f134))
    exact own_rem3a_38 q r w hd tl b1 a1 z1 b2 a2 z2 b3 a3 z3 ((2 : Int32)) X179 hx hZ hw hby hml hown hnm hlk hret Z0 e179 N177 (((Keep.refl h0 [q, a1]).wr W169 (Or.inl (List.mem_of_getElem? (i := 1) rfl))).wr W177 (Or.inl (List.mem_of_getElem? (i := 1) rfl))) f180 f178 f181 f182 f183 f184 f185 f108 f186 f187 f188 f189 Al177 f114 f115 f190 f191 f192 f193 f194 f121 f122 f195 f196 f197 f198 f199 f128 f129 f130 f131 f132 f133 f134 f135 (by first | assumption | decide) (by first | assumption | decide) (by first | assumption | decide) (by first | assumption | decide) (by first | assumption | decide)
  ·
    refine own_by (g' := (mkF m 9 #[rv q, iv hd, iv (0 : Int32)] [(.ref q), (.int (0 : Int32))])) (fun t k => XS.iloadN X136.here hx rfl (hb hby own_d8_7) rfl (XS.aloadN X136.here hx rfl (hb hby own_d8_8) rfl rfl k)) ?_
    obtain ⟨T200, X200, e200, st200⟩ := getF X136 hx hZ hown (host := "") (Or.inl (hw _ (List.mem_of_getElem? (i := 9) rfl))) Via.refl e136 f102 (g := (mkF m 9 #[rv q, iv hd, iv (0 : Int32)] [(.ref q), (.int (0 : Int32))])) rfl rfl (hb hby own_d8_9)
    refine own_by (g' := (mkF m 12 #[rv q, iv hd, iv (0 : Int32)] [(.int r), (.int (0 : Int32))])) st200 ?_
    refine own_by (g' := (mkF m 16 #[rv q, iv hd, iv (0 : Int32)] [(.ref q)])) (fun t k => XS.icmpNo X200.here hx rfl (hb hby own_d8_12) rfl (tlt (by rw [hr1]; decide)).2.1 (XS.aloadN X200.here hx rfl (hb hby own_d8_15) rfl rfl k)) ?_
    obtain ⟨T201, X201, e201, st201⟩ := getF X200 hx hZ hown (host := "") (Or.inl (hw _ (List.mem_of_getElem? (i := 18) rfl))) Via.refl e200 f104 (g := (mkF m 16 #[rv q, iv hd, iv (0 : Int32)] [(.ref q)])) rfl rfl (hb hby own_d8_16)
    refine own_by (g' := (mkF m 19 #[rv q, iv hd, iv (0 : Int32)] [(.ref b1)])) st201 ?_
    obtain ⟨T202, X202, e202, st202⟩ := own_getR X201 hx hZ hown (hw _ (List.mem_of_getElem? (i := 66) rfl)) e201 f111 (g := (mkF m 19 #[rv q, iv hd, iv (0 : Int32)] [(.ref b1)])) rfl rfl (hb hby own_d8_19)
    refine own_by (g' := (mkF m 22 #[rv q, iv hd, iv (0 : Int32)] [(.ref a1)])) st202 ?_
    refine own_by (g' := (mkF m 24 #[rv q, iv hd, iv (0 : Int32)] [(.ref q), (.int hd), (.ref a1)])) (fun t k => XS.iloadN X202.here hx rfl (hb hby own_d8_22) rfl (XS.aloadN X202.here hx rfl (hb hby own_d8_23) rfl rfl k)) ?_
    obtain ⟨T203, X203, e203, st203⟩ := getF X202 hx hZ hown (host := "") (Or.inl (hw _ (List.mem_of_getElem? (i := 9) rfl))) Via.refl e202 f102 (g := (mkF m 24 #[rv q, iv hd, iv (0 : Int32)] [(.ref q), (.int hd), (.ref a1)])) rfl rfl (hb hby own_d8_24)
    refine own_by (g' := (mkF m 27 #[rv q, iv hd, iv (0 : Int32)] [(.int r), (.int hd), (.ref a1)])) st203 ?_
    refine own_by (g' := (mkF m 31 #[rv q, iv hd, iv (0 : Int32)] [.null, (.int ((hd * r) + (0 : Int32))), (.ref a1)])) (fun t k => XS.imul X203.here hx rfl (hb hby own_d8_27) rfl (XS.iloadN X203.here hx rfl (hb hby own_d8_28) rfl (XS.iadd X203.here hx rfl (hb hby own_d8_29) rfl (XS.aconstNull X203.here hx rfl (hb hby own_d8_30) k)))) ?_
    obtain ⟨c204, Ar204, S204, G204⟩ := id f113
    have hin204 : ¬ (((hd * r) + (0 : Int32)) < 0 ∨ c204.slots.size ≤ (((hd * r) + (0 : Int32))).toNatClampNeg) := inb_of S204 (own_inb h0p h1p h2p r (0 : Int32) 3 0 (by rw [hr1]; decide) (by decide) (by decide))
    obtain ⟨T204, h204, X204, e204, W204, st204⟩ := stR X203 hx hZ e203 Ar204 (j := ((hd * r) + (0 : Int32))) hin204 rfl (Or.inl rfl) (g := (mkF m 31 #[rv q, iv hd, iv (0 : Int32)] [.null, (.int ((hd * r) + (0 : Int32))), (.ref a1)])) rfl rfl (hb hby own_d8_31)
    have Al204 := own_Arz.same (⟨c204, Ar204, S204, G204⟩ : own_Arz Z _ a1 (.object "java/lang/Object") (z1 * r)) W204
    have N204 := Fr.snoc X204 N136 f115
    refine own_by (g' := (mkF m 32 #[rv q, iv hd, iv (0 : Int32)] [])) st204 ?_
    refine own_by (g' := (mkF m 9 #[rv q, iv hd, iv (1 : Int32)] [(.ref q), (.int (1 : Int32))])) (fun t k => XS.iinc X204.here hx rfl (hb hby own_d8_32) rfl (l' := #[rv q, iv hd, iv (1 : Int32)]) rfl (XS.goto X204.here hx rfl (pc0 := 35) (pc' := 7) rfl (hb hby own_d8_35) (by decide) (by decide) (XS.iloadN X204.here hx rfl (hb hby own_d8_7) rfl (XS.aloadN X204.here hx rfl (hb hby own_d8_8) rfl rfl k)))) ?_
    have f205 := (f102.other W204 (Or.inl (own_neY f101 (hw _ (List.mem_of_getElem? (i := 1) rfl)) f113)))
    obtain ⟨T206, X206, e206, st206⟩ := getF X204 hx hZ hown (host := "") (Or.inl (hw _ (List.mem_of_getElem? (i := 9) rfl))) Via.refl e204 f205 (g := (mkF m 9 #[rv q, iv hd, iv (1 : Int32)] [(.ref q), (.int (1 : Int32))])) rfl rfl (hb hby own_d8_9)
    refine own_by (g' := (mkF m 12 #[rv q, iv hd, iv (1 : Int32)] [(.int r), (.int (1 : Int32))])) st206 ?_
    refine own_by (g' := (mkF m 16 #[rv q, iv hd, iv (1 : Int32)] [(.ref q)])) (fun t k => XS.icmpNo X206.here hx rfl (hb hby own_d8_12) rfl (tlt (by rw [hr1]; decide)).2.1 (XS.aloadN X206.here hx rfl (hb hby own_d8_15) rfl rfl k)) ?_
    have f207 := (f104.other W204 (Or.inl (own_neY f101 (hw _ (List.mem_of_getElem? (i := 1) rfl)) f113)))
    obtain ⟨T208, X208, e208, st208⟩ := getF X206 hx hZ hown (host := "") (Or.inl (hw _ (List.mem_of_getElem? (i := 18) rfl))) Via.refl e206 f207 (g := (mkF m 16 #[rv q, iv hd, iv (1 : Int32)] [(.ref q)])) rfl rfl (hb hby own_d8_16)
    refine own_by (g' := (mkF m 19 #[rv q, iv hd, iv (1 : Int32)] [(.ref b1)])) st208 ?_
    have f209 := (f111.other W204 (Or.inl (own_neY f109 (hw _ (List.mem_of_getElem? (i := 40) rfl)) f113)))
    obtain ⟨T210, X210, e210, st210⟩ := own_getR X208 hx hZ hown (hw _ (List.mem_of_getElem? (i := 66) rfl)) e208 f209 (g := (mkF m 19 #[rv q, iv hd, iv (1 : Int32)] [(.ref b1)])) rfl rfl (hb hby own_d8_19)
    refine own_by (g' := (mkF m 22 #[rv q, iv hd, iv (1 : Int32)] [(.ref a1)])) st210 ?_
    refine own_by (g' := (mkF m 24 #[rv q, iv hd, iv (1 : Int32)] [(.ref q), (.int hd), (.ref a1)])) (fun t k => XS.iloadN X210.here hx rfl (hb hby own_d8_22) rfl (XS.aloadN X210.here hx rfl (hb hby own_d8_23) rfl rfl k)) ?_
    obtain ⟨T211, X211, e211, st211⟩ := getF X210 hx hZ hown (host := "") (Or.inl (hw _ (List.mem_of_getElem? (i := 9) rfl))) Via.refl e210 f205 (g := (mkF m 24 #[rv q, iv hd, iv (1 : Int32)] [(.ref q), (.int hd), (.ref a1)])) rfl rfl (hb hby own_d8_24)
    refine own_by (g' := (mkF m 27 #[rv q, iv hd, iv (1 : Int32)] [(.int r), (.int hd), (.ref a1)])) st211 ?_
    refine own_by (g' := (mkF m 31 #[rv q, iv hd, iv (1 : Int32)] [.null, (.int ((hd * r) + (1 : Int32))), (.ref a1)])) (fun t k => XS.imul X211.here hx rfl (hb hby own_d8_27) rfl (XS.iloadN X211.here hx rfl (hb hby own_d8_28) rfl (XS.iadd X211.here hx rfl (hb hby own_d8_29) rfl (XS.aconstNull X211.here hx rfl (hb hby own_d8_30) k)))) ?_
    obtain ⟨c212, Ar212, S212, G212⟩ := id Al204
    have hin212 : ¬ (((hd * r) + (1 : Int32)) < 0 ∨ c212.slots.size ≤ (((hd * r) + (1 : Int32))).toNatClampNeg) := inb_of S212 (own_inb h0p h1p h2p r (1 : Int32) 3 1 (by rw [hr1]; decide) (by decide) (by decide))
    obtain ⟨T212, h212, X212, e212, W212, st212⟩ := stR X211 hx hZ e211 Ar212 (j := ((hd * r) + (1 : Int32))) hin212 rfl (Or.inl rfl) (g := (mkF m 31 #[rv q, iv hd, iv (1 : Int32)] [.null, (.int ((hd * r) + (1 : Int32))), (.ref a1)])) rfl rfl (hb hby own_d8_31)
    have Al212 := own_Arz.same (⟨c212, Ar212, S212, G212⟩ : own_Arz Z _ a1 (.object "java/lang/Object") (z1 * r)) W212
    have N212 := Fr.snoc X212 N204 f115
    refine own_by (g' := (mkF m 32 #[rv q, iv hd, iv (1 : Int32)] [])) st212 ?_
    refine own_by (g' := (mkF m 9 #[rv q, iv hd, iv (2 : Int32)] [(.ref q), (.int (2 : Int32))])) (fun t k => XS.iinc X212.here hx rfl (hb hby own_d8_32) rfl (l' := #[rv q, iv hd, iv (2 : Int32)]) rfl (XS.goto X212.here hx rfl (pc0 := 35) (pc' := 7) rfl (hb hby own_d8_35) (by decide) (by decide) (XS.iloadN X212.here hx rfl (hb hby own_d8_7) rfl (XS.aloadN X212.here hx rfl (hb hby own_d8_8) rfl rfl k)))) ?_
    have f213 := (f205.other W212 (Or.inl (own_neY f101 (hw _ (List.mem_of_getElem? (i := 1) rfl)) f113)))
    obtain ⟨T214, X214, e214, st214⟩ := getF X212 hx hZ hown (host := "") (Or.inl (hw _ (List.mem_of_getElem? (i := 9) rfl))) Via.refl e212 f213 (g := (mkF m 9 #[rv q, iv hd, iv (2 : Int32)] [(.ref q), (.int (2 : Int32))])) rfl rfl (hb hby own_d8_9)
    refine own_by (g' := (mkF m 12 #[rv q, iv hd, iv (2 : Int32)] [(.int r), (.int (2 : Int32))])) st214 ?_
    refine own_by (g' := (mkF m 16 #[rv q, iv hd, iv (2 : Int32)] [(.ref q)])) (fun t k => XS.icmpNo X214.here hx rfl (hb hby own_d8_12) rfl (tlt (by rw [hr1]; decide)).2.1 (XS.aloadN X214.here hx rfl (hb hby own_d8_15) rfl rfl k)) ?_
    have f215 := (f207.other W212 (Or.inl (own_neY f101 (hw _ (List.mem_of_getElem? (i := 1) rfl)) f113)))
    obtain ⟨T216, X216, e216, st216⟩ := getF X214 hx hZ hown (host := "") (Or.inl (hw _ (List.mem_of_getElem? (i := 18) rfl))) Via.refl e214 f215 (g := (mkF m 16 #[rv q, iv hd, iv (2 : Int32)] [(.ref q)])) rfl rfl (hb hby own_d8_16)
    refine own_by (g' := (mkF m 19 #[rv q, iv hd, iv (2 : Int32)] [(.ref b1)])) st216 ?_
    have f217 := (f209.other W212 (Or.inl (own_neY f109 (hw _ (List.mem_of_getElem? (i := 40) rfl)) f113)))
    obtain ⟨T218, X218, e218, st218⟩ := own_getR X216 hx hZ hown (hw _ (List.mem_of_getElem? (i := 66) rfl)) e216 f217 (g := (mkF m 19 #[rv q, iv hd, iv (2 : Int32)] [(.ref b1)])) rfl rfl (hb hby own_d8_19)
    refine own_by (g' := (mkF m 22 #[rv q, iv hd, iv (2 : Int32)] [(.ref a1)])) st218 ?_
    refine own_by (g' := (mkF m 24 #[rv q, iv hd, iv (2 : Int32)] [(.ref q), (.int hd), (.ref a1)])) (fun t k => XS.iloadN X218.here hx rfl (hb hby own_d8_22) rfl (XS.aloadN X218.here hx rfl (hb hby own_d8_23) rfl rfl k)) ?_
    obtain ⟨T219, X219, e219, st219⟩ := getF X218 hx hZ hown (host := "") (Or.inl (hw _ (List.mem_of_getElem? (i := 9) rfl))) Via.refl e218 f213 (g := (mkF m 24 #[rv q, iv hd, iv (2 : Int32)] [(.ref q), (.int hd), (.ref a1)])) rfl rfl (hb hby own_d8_24)
    refine own_by (g' := (mkF m 27 #[rv q, iv hd, iv (2 : Int32)] [(.int r), (.int hd), (.ref a1)])) st219 ?_
    refine own_by (g' := (mkF m 31 #[rv q, iv hd, iv (2 : Int32)] [.null, (.int ((hd * r) + (2 : Int32))), (.ref a1)])) (fun t k => XS.imul X219.here hx rfl (hb hby own_d8_27) rfl (XS.iloadN X219.here hx rfl (hb hby own_d8_28) rfl (XS.iadd X219.here hx rfl (hb hby own_d8_29) rfl (XS.aconstNull X219.here hx rfl (hb hby own_d8_30) k)))) ?_
    obtain ⟨c220, Ar220, S220, G220⟩ := id Al212
    have hin220 : ¬ (((hd * r) + (2 : Int32)) < 0 ∨ c220.slots.size ≤ (((hd * r) + (2 : Int32))).toNatClampNeg) := inb_of S220 (own_inb h0p h1p h2p r (2 : Int32) 3 2 (by rw [hr1]; decide) (by decide) (by decide))
    obtain ⟨T220, h220, X220, e220, W220, st220⟩ := stR X219 hx hZ e219 Ar220 (j := ((hd * r) + (2 : Int32))) hin220 rfl (Or.inl rfl) (g := (mkF m 31 #[rv q, iv hd, iv (2 : Int32)] [.null, (.int ((hd * r) + (2 : Int32))), (.ref a1)])) rfl rfl (hb hby own_d8_31)
    have Al220 := own_Arz.same (⟨c220, Ar220, S220, G220⟩ : own_Arz Z _ a1 (.object "java/lang/Object") (z1 * r)) W220
    have N220 := Fr.snoc X220 N212 f115
    refine own_by (g' := (mkF m 32 #[rv q, iv hd, iv (2 : Int32)] [])) st220 ?_
    refine own_by (g' := (mkF m 9 #[rv q, iv hd, iv (3 : Int32)] [(.ref q), (.int (3 : Int32))])) (fun t k => XS.iinc X220.here hx rfl (hb hby own_d8_32) rfl (l' := #[rv q, iv hd, iv (3 : Int32)]) rfl (XS.goto X220.here hx rfl (pc0 := 35) (pc' := 7) rfl (hb hby own_d8_35) (by decide) (by decide) (XS.iloadN X220.here hx rfl (hb hby own_d8_7) rfl (XS.aloadN X220.here hx rfl (hb hby own_d8_8) rfl rfl k)))) ?_
    have f221 := (f213.other W220 (Or.inl (own_neY f101 (hw _ (List.mem_of_getElem? (i := 1) rfl)) f113)))
    obtain ⟨T222, X222, e222, st222⟩ := getF X220 hx hZ hown (host := "") (Or.inl (hw _ (List.mem_of_getElem? (i := 9) rfl))) Via.refl e220 f221 (g := (mkF m 9 #[rv q, iv hd, iv (3 : Int32)] [(.ref q), (.int (3 : Int32))])) rfl rfl (hb hby own_d8_9)
    refine own_by (g' := (mkF m 12 #[rv q, iv hd, iv (3 : Int32)] [(.int r), (.int (3 : Int32))])) st222 ?_
    refine own_by (g' := (mkF m 38 #[rv q, iv hd, iv (3 : Int32)] [])) (fun t k => XS.icmpYes X222.here hx rfl (pc0 := 12) (pc' := 38) rfl (hb hby own_d8_12) rfl (flt (by rw [hr1]; decide)).2.1 (by decide) (by decide) k) ?_
    have f223 := (((f101.wr W204).wr W212).wr W220)
    have f224 := (((f103.other W204 (Or.inl (own_neY f101 (hw _ (List.mem_of_getElem? (i := 1) rfl)) f113))).other W212 (Or.inl (own_neY f101 (hw _ (List.mem_of_getElem? (i := 1) rfl)) f113))).other W220 (Or.inl (own_neY f101 (hw _ (List.mem_of_getElem? (i := 1) rfl)) f113)))
    have f225 := (f215.other W220 (Or.inl (own_neY f101 (hw _ (List.mem_of_getElem? (i := 1) rfl)) f113)))
    have f226 := (((f105.other W204 (Or.inl (own_neY f101 (hw _ (List.mem_of_getElem? (i := 1) rfl)) f113))).other W212 (Or.inl (own_neY f101 (hw _ (List.mem_of_getElem? (i := 1) rfl)) f113))).other W220 (Or.inl (own_neY f101 (hw _ (List.mem_of_getElem? (i := 1) rfl)) f113)))
    have f227 := (((f106.other W204 (Or.inl (own_neY f101 (hw _ (List.mem_of_getElem? (i := 1) rfl)) f113))).other W212 (Or.inl (own_neY f101 (hw _ (List.mem_of_getElem? (i := 1) rfl)) f113))).other W220 (Or.inl (own_neY f101 (hw _ (List.mem_of_getElem? (i := 1) rfl)) f113)))
    have f228 := (((f107.other W204 (Or.inl (own_neY f101 (hw _ (List.mem_of_getElem? (i := 1) rfl)) f113))).other W212 (Or.inl (own_neY f101 (hw _ (List.mem_of_getElem? (i := 1) rfl)) f113))).other W220 (Or.inl (own_neY f101 (hw _ (List.mem_of_getElem? (i := 1) rfl)) f113)))
    have f229 := (((f109.wr W204).wr W212).wr W220)
    have f230 := (((f110.other W204 (Or.inl (own_neY f109 (hw _ (List.mem_of_getElem? (i := 40) rfl)) f113))).other W212 (Or.inl (own_neY f109 (hw _ (List.mem_of_getElem? (i := 40) rfl)) f113))).other W220 (Or.inl (own_neY f109 (hw _ (List.mem_of_getElem? (i := 40) rfl)) f113)))
    have f231 := (f217.other W220 (Or.inl (own_neY f109 (hw _ (List.mem_of_getElem? (i := 40) rfl)) f113)))
    have f232 := (((f112.other W204 (Or.inl (own_neY f109 (hw _ (List.mem_of_getElem? (i := 40) rfl)) f113))).other W212 (Or.inl (own_neY f109 (hw _ (List.mem_of_getElem? (i := 40) rfl)) f113))).other W220 (Or.inl (own_neY f109 (hw _ (List.mem_of_getElem? (i := 40) rfl)) f113)))
    have f233 := (((f116.wr W204).wr W212).wr W220)
    have f234 := (((f117.other W204 (Or.inl (own_neY f116 (hw _ (List.mem_of_getElem? (i := 40) rfl)) f113))).other W212 (Or.inl (own_neY f116 (hw _ (List.mem_of_getElem? (i := 40) rfl)) f113))).other W220 (Or.inl (own_neY f116 (hw _ (List.mem_of_getElem? (i := 40) rfl)) f113)))
    have f235 := (((f118.other W204 (Or.inl (own_neY f116 (hw _ (List.mem_of_getElem? (i := 40) rfl)) f113))).other W212 (Or.inl (own_neY f116 (hw _ (List.mem_of_getElem? (i := 40) rfl)) f113))).other W220 (Or.inl (own_neY f116 (hw _ (List.mem_of_getElem? (i := 40) rfl)) f113)))
    have f236 := (((f119.other W204 (Or.inl (own_neY f116 (hw _ (List.mem_of_getElem? (i := 40) rfl)) f113))).other W212 (Or.inl (own_neY f116 (hw _ (List.mem_of_getElem? (i := 40) rfl)) f113))).other W220 (Or.inl (own_neY f116 (hw _ (List.mem_of_getElem? (i := 40) rfl)) f113)))
    have f237 := (((f120.other W204 (Ne.symm f133)).other W212 (Ne.symm f133)).other W220 (Ne.symm f133))
    have f238 := (((f123.wr W204).wr W212).wr W220)
    have f239 := (((f124.other W204 (Or.inl (own_neY f123 (hw _ (List.mem_of_getElem? (i := 40) rfl)) f113))).other W212 (Or.inl (own_neY f123 (hw _ (List.mem_of_getElem? (i := 40) rfl)) f113))).other W220 (Or.inl (own_neY f123 (hw _ (List.mem_of_getElem? (i := 40) rfl)) f113)))
    have f240 := (((f125.other W204 (Or.inl (own_neY f123 (hw _ (List.mem_of_getElem? (i := 40) rfl)) f113))).other W212 (Or.inl (own_neY f123 (hw _ (List.mem_of_getElem? (i := 40) rfl)) f113))).other W220 (Or.inl (own_neY f123 (hw _ (List.mem_of_getElem? (i := 40) rfl)) f113)))
    have f241 := (((f126.other W204 (Or.inl (own_neY f123 (hw _ (List.mem_of_getElem? (i := 40) rfl)) f113))).other W212 (Or.inl (own_neY f123 (hw _ (List.mem_of_getElem? (i := 40) rfl)) f113))).other W220 (Or.inl (own_neY f123 (hw _ (List.mem_of_getElem? (i := 40) rfl)) f113)))
    have f242 := (((f127.other W204 (Ne.symm f134)).other W212 (Ne.symm f134)).other W220 (Ne.symm f134))
    exact own_rem3a_38 q r w hd tl b1 a1 z1 b2 a2 z2 b3 a3 z3 ((3 : Int32)) X222 hx hZ hw hby hml hown hnm hlk hret Z0 e222 N220 ((((Keep.refl h0 [q, a1]).wr W204 (Or.inl (List.mem_of_getElem? (i := 1) rfl))).wr W212 (Or.inl (List.mem_of_getElem? (i := 1) rfl))).wr W220 (Or.inl (List.mem_of_getElem? (i := 1) rfl))) f223 f221 f224 f225 f226 f227 f228 f108 f229 f230 f231 f232 Al220 f114 f115 f233 f234 f235 f236 f237 f121 f122 f238 f239 f240 f241 f242 f128 f129 f130 f131 f132 f133 f134 f135 (by first | assumption | decide) (by first | assumption | decide) (by first | assumption | decide) (by first | assumption | decide) (by first | assumption | decide)
theorem own_pn2 : plainName "com/example/limentinus/limentinus/simulator/RecordQueueIsEmptyPinLaw" = true := by first | (simp [plainName, overriddenIn]; done) | decide +kernel
theorem own_d4_0 : decode method_2_code 0 = .ok (.iload_n 1, 1) := by decide +kernel
theorem own_d4_1 : decode method_2_code 1 = .ok (.ifCond .ge 5, 3) := by decide +kernel
theorem own_d4_6 : decode method_2_code 6 = .ok (.iload_n 2, 1) := by decide +kernel
theorem own_d4_7 : decode method_2_code 7 = .ok (.iconst 1, 1) := by decide +kernel
theorem own_d4_8 : decode method_2_code 8 = .ok (.iand, 1) := by decide +kernel
theorem own_d4_9 : decode method_2_code 9 = .ok (.ifCond .eq 14, 3) := by decide +kernel
theorem own_d4_12 : decode method_2_code 12 = .ok (.aload_n 0, 1) := by decide +kernel
theorem own_d4_13 : decode method_2_code 13 = .ok (.invokevirtual 7, 3) := by decide +kernel
theorem own_pd5 : parseMethodDescriptor "()V" = some ⟨[], none⟩ := by decide +kernel
theorem own_d4_16 : decode method_2_code 16 = .ok (.iload_n 1, 1) := by decide +kernel
theorem own_d4_17 : decode method_2_code 17 = .ok (.iconst 1, 1) := by decide +kernel
theorem own_d4_18 : decode method_2_code 18 = .ok (.iadd, 1) := by decide +kernel
theorem own_d4_19 : decode method_2_code 19 = .ok (.istore_n 1, 1) := by decide +kernel
theorem own_d4_20 : decode method_2_code 20 = .ok (.goto 15, 3) := by decide +kernel
theorem own_d4_35 : decode method_2_code 35 = .ok (.aload_n 0, 1) := by decide +kernel
theorem own_d4_36 : decode method_2_code 36 = .ok (.invokevirtual 15, 3) := by decide +kernel
theorem own_d4_39 : decode method_2_code 39 = .ok (.iload_n 1, 1) := by decide +kernel
theorem own_d4_40 : decode method_2_code 40 = .ok (.ifCond .ne 7, 3) := by decide +kernel
theorem own_d4_47 : decode method_2_code 47 = .ok (.iconst 0, 1) := by decide +kernel
theorem own_d4_48 : decode method_2_code 48 = .ok (.if_icmp .ne 5, 3) := by decide +kernel
theorem own_d4_51 : decode method_2_code 51 = .ok (.iload_n 1, 1) := by decide +kernel
theorem own_d4_52 : decode method_2_code 52 = .ok (.ireturn, 1) := by decide +kernel
def Q_own_sA0 (Z : State) (u1 : Int32) (u2 : Int32) (q : Addr) (r : Int32) (w : Int32) (h0 : Heap) (n0 : Nat) (v : Option Value) (h : Heap) (L : List Loc) : Prop := ∃ (b1 : Addr), ∃ (a1 : Addr), v = some (.int (u1 + (1 : Int32))) ∧ Fr n0 L ∧ Keep h0 h [q] ∧ own_Q1 Z h (q) (n0) (r) (w) ((0 : Int32)) ((1 : Int32)) (b1) (a1) ((2 : Int32)) ∧ h0.size ≤ b1 ∧ h0.size ≤ a1
theorem own_ef_own_sA0 (m : MethodId) (u1 : Int32) (u2 : Int32) (q : Addr) : entryFrame m #[(.ref q), (.int u1), (.int u2)] 3 = mkF m 0 #[rv q, iv u1, iv u2] [] := by first | (simp [entryFrame, mkF, argsToLocals, Value.category]; done) | rfl
set_option maxRecDepth 65536 in
set_option maxHeartbeats 40000000 in
theorem own_sA0 (l : Launch) (Z : State) (a0 : Array Value) (hw : ∀ d ∈ tables_1, d.before a0 Z = true) (ws : List Jvm.Cond) (u1 : Int32) (u2 : Int32) (q : Addr) (r : Int32) (w : Int32) (h0 : Heap) (n0 : Nat) (Z0 : n0 ≤ h0.size) (B0 : own_Q0 Z h0 (q) (n0) (r) (w)) (hr : own_03 r) (hw3 : own_03 w) (hc0 : ¬ u1 < (0 : Int32)) (hop : ¬ (u2 &&& (1 : Int32)) = (0 : Int32)) (hc1 : ¬ (u1 + (1 : Int32)) = (0 : Int32)) :
    own_Ctr l Z (⟨"com/example/limentinus/limentinus/simulator/RecordQueueIsEmptyPinLaw", "step", "(Lcom/example/limentinus/limentinus/simulator/RecordQueue;II)I"⟩ : MethodName) method_2_code 3 (some .int) ws ({ frames := 4, cells := 3, slots := 16, locals := 55 } : Room) (({ frames := 4, cells := 3, slots := 16, locals := 55 } : Room)).cells (({ frames := 4, cells := 3, slots := 16, locals := 55 } : Room)).slots #[(.ref q), (.int u1), (.int u2)] h0 (Q_own_sA0 Z u1 u2 q r w h0 n0) := by
  refine own_enter (plainFor_of_name own_pn2) ?_
  intro p e s m below meth c s₁ X0 hx hZ hby hml hown hnm hlk hret e0
  have N0 := Fr.nil n0
  refine own_cast (own_ef_own_sA0 m u1 u2 q) ?_
  obtain ⟨f101, f102, f103, f104, f105, f106, f107, f108⟩ := B0
  refine own_by (g' := (mkF m 13 #[rv q, iv u1, iv u2] [(.ref q)])) (fun t k => XS.iloadN X0.here hx rfl (hb hby own_d4_0) rfl (XS.ifYes X0.here hx rfl (pc0 := 1) (pc' := 6) rfl (hb hby own_d4_1) rfl ((if0 _ _).trans (flt hc0).2.1) (by decide) (by decide) (XS.iloadN X0.here hx rfl (hb hby own_d4_6) rfl (XS.iconst X0.here hx rfl (hb hby own_d4_7) (XS.iand X0.here hx rfl (hb hby own_d4_8) rfl (XS.ifNo X0.here hx rfl (hb hby own_d4_9) rfl ((if0 _ _).trans (feq hop).1) (XS.aloadN X0.here hx rfl (hb hby own_d4_12) rfl rfl k))))))) ?_
  refine own_callV X0 hx hZ hown (hw _ (List.mem_of_getElem? (i := 30) rfl)) (hw _ (List.mem_of_getElem? (i := 31) rfl)) (notFace_of_selects (args := #[]) (mvT hZ (hw _ (List.mem_of_getElem? (i := 33) rfl)))) (hw _ (List.mem_of_getElem? (i := 33) rfl)) (hw _ (List.mem_of_getElem? (i := 32) rfl)) (hw _ (List.mem_of_getElem? (i := 34) rfl)) (hw _ (List.mem_of_getElem? (i := 2) rfl)) (by decide) (a := q) f101 (own_add0 l Z a0 hw [] (q) (r) (w) h0 n0 Z0 ⟨f101, f102, f103, f104, f105, f106, f107, f108⟩ (by first | assumption | decide) (by first | assumption | decide)) 0 (by decide) (by decide) (by decide) (by decide) e0 (g := (mkF m 13 #[rv q, iv u1, iv u2] [(.ref q)])) rfl (by rw [hml]; rfl) (argsL := []) (rest := []) (lenOf own_pd5 rfl) rfl (by show 2 * 0 + _ ≤ _; exact Nat.le_of_eq rfl) (hb hby own_d4_13) ?_
  intro v109 T109 L109 X109 q109
  obtain ⟨b1109, a1109, rfl, N109q, K109, f110, f111, f112⟩ := q109
  have N109 := Fr.app N0 N109q
  show own_Goes p e below s _ _ _ T109 (mkF m 16 #[rv q, iv u1, iv u2] [])
  refine own_by (g' := (mkF m 36 #[rv q, iv (u1 + (1 : Int32)), iv u2] [(.ref q)])) (fun t k => XS.iloadN X109.here hx rfl (hb hby own_d4_16) rfl (XS.iconst X109.here hx rfl (hb hby own_d4_17) (XS.iadd X109.here hx rfl (hb hby own_d4_18) rfl (XS.istoreN X109.here hx rfl (hb hby own_d4_19) rfl (l' := #[rv q, iv (u1 + (1 : Int32)), iv u2]) rfl (XS.goto X109.here hx rfl (pc0 := 20) (pc' := 35) rfl (hb hby own_d4_20) (by decide) (by decide) (XS.aloadN X109.here hx rfl (hb hby own_d4_35) rfl rfl k)))))) ?_
  have f113 := (f101.keep K109)
  refine own_callV X109 hx hZ hown (hw _ (List.mem_of_getElem? (i := 13) rfl)) (hw _ (List.mem_of_getElem? (i := 14) rfl)) (notFace_of_selects (args := #[]) (mvT hZ (hw _ (List.mem_of_getElem? (i := 16) rfl)))) (hw _ (List.mem_of_getElem? (i := 16) rfl)) (hw _ (List.mem_of_getElem? (i := 15) rfl)) (hw _ (List.mem_of_getElem? (i := 17) rfl)) (hw _ (List.mem_of_getElem? (i := 2) rfl)) (by decide) (a := q) f113 (own_em1f l Z a0 hw [] (q) (r) (w) ((0 : Int32)) ((1 : Int32)) (b1109) (a1109) ((2 : Int32)) T109.heap n0 (Nat.le_trans Z0 K109.1) f110 (by first | assumption | decide)) 0 (by decide) (by decide) (by decide) (by decide) rfl (g := (mkF m 36 #[rv q, iv (u1 + (1 : Int32)), iv u2] [(.ref q)])) rfl (by rw [hml]; rfl) (argsL := []) (rest := []) (lenOf own_pd3 rfl) rfl (by show 2 * 0 + _ ≤ _; exact Nat.le_of_eq rfl) (hb hby own_d4_36) ?_
  intro v114 T114 L114 X114 q114
  obtain ⟨rfl, N114q, e114⟩ := q114
  have N114 := Fr.app N109 N114q
  show own_Goes p e below s _ _ _ T114 (mkF m 39 #[rv q, iv (u1 + (1 : Int32)), iv u2] [(.int (0 : Int32))])
  refine own_by (g' := (mkF m 52 #[rv q, iv (u1 + (1 : Int32)), iv u2] [(.int (u1 + (1 : Int32)))])) (fun t k => XS.iloadN X114.here hx rfl (hb hby own_d4_39) rfl (XS.ifYes X114.here hx rfl (pc0 := 40) (pc' := 47) rfl (hb hby own_d4_40) rfl ((if0 _ _).trans (feq hc1).2) (by decide) (by decide) (XS.iconst X114.here hx rfl (hb hby own_d4_47) (XS.icmpNo X114.here hx rfl (hb hby own_d4_48) rfl (teq (by decide : (0 : Int32) = (0 : Int32))).2 (XS.iloadN X114.here hx rfl (hb hby own_d4_51) rfl k))))) ?_
  refine own_retI X114 hx hlk hret (hb hby own_d4_52) (by decide) (by decide) ?_
  rw [e114]
  exact ⟨b1109, a1109, rfl, N114, ((Keep.refl h0 [q]).trans K109 (allS (Or.inl (List.mem_of_getElem? (i := 0) rfl)) all0)), f110, (Nat.le_trans (Nat.le_refl _) f111), (Nat.le_trans (Nat.le_refl _) f112)⟩
def Q_own_sA1n (Z : State) (u1 : Int32) (u2 : Int32) (q : Addr) (r : Int32) (w : Int32) (hd : Int32) (tl : Int32) (b1 : Addr) (a1 : Addr) (z1 : Int32) (h0 : Heap) (n0 : Nat) (v : Option Value) (h : Heap) (L : List Loc) : Prop := v = some (.int (u1 + (1 : Int32))) ∧ Fr n0 L ∧ Keep h0 h [q] ∧ own_Q1 Z h (q) (n0) (r) (w) (hd) ((tl + (1 : Int32))) (b1) (a1) (z1)
theorem own_ef_own_sA1n (m : MethodId) (u1 : Int32) (u2 : Int32) (q : Addr) : entryFrame m #[(.ref q), (.int u1), (.int u2)] 3 = mkF m 0 #[rv q, iv u1, iv u2] [] := by first | (simp [entryFrame, mkF, argsToLocals, Value.category]; done) | rfl
set_option maxRecDepth 65536 in
set_option maxHeartbeats 40000000 in
theorem own_sA1n (l : Launch) (Z : State) (a0 : Array Value) (hw : ∀ d ∈ tables_1, d.before a0 Z = true) (ws : List Jvm.Cond) (u1 : Int32) (u2 : Int32) (q : Addr) (r : Int32) (w : Int32) (hd : Int32) (tl : Int32) (b1 : Addr) (a1 : Addr) (z1 : Int32) (h0 : Heap) (n0 : Nat) (Z0 : n0 ≤ h0.size) (B0 : own_Q1 Z h0 (q) (n0) (r) (w) (hd) (tl) (b1) (a1) (z1)) (hr : own_03 r) (hw3 : own_03 w) (hc0 : ¬ u1 < (0 : Int32)) (hop : ¬ (u2 &&& (1 : Int32)) = (0 : Int32)) (hc1 : ¬ (u1 + (1 : Int32)) = (0 : Int32)) (hp : ¬ tl = z1) (hpp : ¬ hd = (tl + (1 : Int32))) :
    own_Ctr l Z (⟨"com/example/limentinus/limentinus/simulator/RecordQueueIsEmptyPinLaw", "step", "(Lcom/example/limentinus/limentinus/simulator/RecordQueue;II)I"⟩ : MethodName) method_2_code 3 (some .int) ws ({ frames := 1, cells := 0, slots := 0, locals := 13 } : Room) (({ frames := 1, cells := 0, slots := 0, locals := 13 } : Room)).cells (({ frames := 1, cells := 0, slots := 0, locals := 13 } : Room)).slots #[(.ref q), (.int u1), (.int u2)] h0 (Q_own_sA1n Z u1 u2 q r w hd tl b1 a1 z1 h0 n0) := by
  refine own_enter (plainFor_of_name own_pn2) ?_
  intro p e s m below meth c s₁ X0 hx hZ hby hml hown hnm hlk hret e0
  have N0 := Fr.nil n0
  refine own_cast (own_ef_own_sA1n m u1 u2 q) ?_
  obtain ⟨f101, f102, f103, f104, f105, f106, f107, f108, f109, f110, f111, f112, f113, f114, f115⟩ := B0
  refine own_by (g' := (mkF m 13 #[rv q, iv u1, iv u2] [(.ref q)])) (fun t k => XS.iloadN X0.here hx rfl (hb hby own_d4_0) rfl (XS.ifYes X0.here hx rfl (pc0 := 1) (pc' := 6) rfl (hb hby own_d4_1) rfl ((if0 _ _).trans (flt hc0).2.1) (by decide) (by decide) (XS.iloadN X0.here hx rfl (hb hby own_d4_6) rfl (XS.iconst X0.here hx rfl (hb hby own_d4_7) (XS.iand X0.here hx rfl (hb hby own_d4_8) rfl (XS.ifNo X0.here hx rfl (hb hby own_d4_9) rfl ((if0 _ _).trans (feq hop).1) (XS.aloadN X0.here hx rfl (hb hby own_d4_12) rfl rfl k))))))) ?_
  refine own_callV X0 hx hZ hown (hw _ (List.mem_of_getElem? (i := 30) rfl)) (hw _ (List.mem_of_getElem? (i := 31) rfl)) (notFace_of_selects (args := #[]) (mvT hZ (hw _ (List.mem_of_getElem? (i := 33) rfl)))) (hw _ (List.mem_of_getElem? (i := 33) rfl)) (hw _ (List.mem_of_getElem? (i := 32) rfl)) (hw _ (List.mem_of_getElem? (i := 34) rfl)) (hw _ (List.mem_of_getElem? (i := 2) rfl)) (by decide) (a := q) f101 (own_add1n l Z a0 hw [] (q) (r) (w) (hd) (tl) (b1) (a1) (z1) h0 n0 Z0 ⟨f101, f102, f103, f104, f105, f106, f107, f108, f109, f110, f111, f112, f113, f114, f115⟩ (by first | assumption | decide) (by first | assumption | decide) (by first | assumption | decide)) 0 (by decide) (by decide) (by decide) (by decide) e0 (g := (mkF m 13 #[rv q, iv u1, iv u2] [(.ref q)])) rfl (by rw [hml]; rfl) (argsL := []) (rest := []) (lenOf own_pd5 rfl) rfl (by show 2 * 0 + _ ≤ _; exact Nat.le_of_eq rfl) (hb hby own_d4_13) ?_
  intro v116 T116 L116 X116 q116
  obtain ⟨rfl, N116q, K116, f117⟩ := q116
  have N116 := Fr.app N0 N116q
  show own_Goes p e below s _ _ _ T116 (mkF m 16 #[rv q, iv u1, iv u2] [])
  refine own_by (g' := (mkF m 36 #[rv q, iv (u1 + (1 : Int32)), iv u2] [(.ref q)])) (fun t k => XS.iloadN X116.here hx rfl (hb hby own_d4_16) rfl (XS.iconst X116.here hx rfl (hb hby own_d4_17) (XS.iadd X116.here hx rfl (hb hby own_d4_18) rfl (XS.istoreN X116.here hx rfl (hb hby own_d4_19) rfl (l' := #[rv q, iv (u1 + (1 : Int32)), iv u2]) rfl (XS.goto X116.here hx rfl (pc0 := 20) (pc' := 35) rfl (hb hby own_d4_20) (by decide) (by decide) (XS.aloadN X116.here hx rfl (hb hby own_d4_35) rfl rfl k)))))) ?_
  have f118 := (f101.keep K116)
  refine own_callV X116 hx hZ hown (hw _ (List.mem_of_getElem? (i := 13) rfl)) (hw _ (List.mem_of_getElem? (i := 14) rfl)) (notFace_of_selects (args := #[]) (mvT hZ (hw _ (List.mem_of_getElem? (i := 16) rfl)))) (hw _ (List.mem_of_getElem? (i := 16) rfl)) (hw _ (List.mem_of_getElem? (i := 15) rfl)) (hw _ (List.mem_of_getElem? (i := 17) rfl)) (hw _ (List.mem_of_getElem? (i := 2) rfl)) (by decide) (a := q) f118 (own_em1f l Z a0 hw [] (q) (r) (w) (hd) ((tl + (1 : Int32))) (b1) (a1) (z1) T116.heap n0 (Nat.le_trans Z0 K116.1) f117 (by first | assumption | decide)) 0 (by decide) (by decide) (by decide) (by decide) rfl (g := (mkF m 36 #[rv q, iv (u1 + (1 : Int32)), iv u2] [(.ref q)])) rfl (by rw [hml]; rfl) (argsL := []) (rest := []) (lenOf own_pd3 rfl) rfl (by show 2 * 0 + _ ≤ _; exact Nat.le_of_eq rfl) (hb hby own_d4_36) ?_
  intro v119 T119 L119 X119 q119
  obtain ⟨rfl, N119q, e119⟩ := q119
  have N119 := Fr.app N116 N119q
  show own_Goes p e below s _ _ _ T119 (mkF m 39 #[rv q, iv (u1 + (1 : Int32)), iv u2] [(.int (0 : Int32))])
  refine own_by (g' := (mkF m 52 #[rv q, iv (u1 + (1 : Int32)), iv u2] [(.int (u1 + (1 : Int32)))])) (fun t k => XS.iloadN X119.here hx rfl (hb hby own_d4_39) rfl (XS.ifYes X119.here hx rfl (pc0 := 40) (pc' := 47) rfl (hb hby own_d4_40) rfl ((if0 _ _).trans (feq hc1).2) (by decide) (by decide) (XS.iconst X119.here hx rfl (hb hby own_d4_47) (XS.icmpNo X119.here hx rfl (hb hby own_d4_48) rfl (teq (by decide : (0 : Int32) = (0 : Int32))).2 (XS.iloadN X119.here hx rfl (hb hby own_d4_51) rfl k))))) ?_
  refine own_retI X119 hx hlk hret (hb hby own_d4_52) (by decide) (by decide) ?_
  rw [e119]
  exact ⟨rfl, N119, ((Keep.refl h0 [q]).trans K116 (allS (Or.inl (List.mem_of_getElem? (i := 0) rfl)) all0)), f117⟩
def Q_own_sA2n (Z : State) (u1 : Int32) (u2 : Int32) (q : Addr) (r : Int32) (w : Int32) (hd : Int32) (tl : Int32) (b1 : Addr) (a1 : Addr) (z1 : Int32) (b2 : Addr) (a2 : Addr) (z2 : Int32) (h0 : Heap) (n0 : Nat) (v : Option Value) (h : Heap) (L : List Loc) : Prop := v = some (.int (u1 + (1 : Int32))) ∧ Fr n0 L ∧ Keep h0 h [q] ∧ own_Q2 Z h (q) (n0) (r) (w) (hd) ((tl + (1 : Int32))) (b1) (a1) (z1) (b2) (a2) (z2)
theorem own_ef_own_sA2n (m : MethodId) (u1 : Int32) (u2 : Int32) (q : Addr) : entryFrame m #[(.ref q), (.int u1), (.int u2)] 3 = mkF m 0 #[rv q, iv u1, iv u2] [] := by first | (simp [entryFrame, mkF, argsToLocals, Value.category]; done) | rfl
set_option maxRecDepth 65536 in
set_option maxHeartbeats 40000000 in
theorem own_sA2n (l : Launch) (Z : State) (a0 : Array Value) (hw : ∀ d ∈ tables_1, d.before a0 Z = true) (ws : List Jvm.Cond) (u1 : Int32) (u2 : Int32) (q : Addr) (r : Int32) (w : Int32) (hd : Int32) (tl : Int32) (b1 : Addr) (a1 : Addr) (z1 : Int32) (b2 : Addr) (a2 : Addr) (z2 : Int32) (h0 : Heap) (n0 : Nat) (Z0 : n0 ≤ h0.size) (B0 : own_Q2 Z h0 (q) (n0) (r) (w) (hd) (tl) (b1) (a1) (z1) (b2) (a2) (z2)) (hr : own_03 r) (hw3 : own_03 w) (hc0 : ¬ u1 < (0 : Int32)) (hop : ¬ (u2 &&& (1 : Int32)) = (0 : Int32)) (hc1 : ¬ (u1 + (1 : Int32)) = (0 : Int32)) (hp : ¬ tl = z2) :
    own_Ctr l Z (⟨"com/example/limentinus/limentinus/simulator/RecordQueueIsEmptyPinLaw", "step", "(Lcom/example/limentinus/limentinus/simulator/RecordQueue;II)I"⟩ : MethodName) method_2_code 3 (some .int) ws ({ frames := 1, cells := 0, slots := 0, locals := 13 } : Room) (({ frames := 1, cells := 0, slots := 0, locals := 13 } : Room)).cells (({ frames := 1, cells := 0, slots := 0, locals := 13 } : Room)).slots #[(.ref q), (.int u1), (.int u2)] h0 (Q_own_sA2n Z u1 u2 q r w hd tl b1 a1 z1 b2 a2 z2 h0 n0) := by
  refine own_enter (plainFor_of_name own_pn2) ?_
  intro p e s m below meth c s₁ X0 hx hZ hby hml hown hnm hlk hret e0
  have N0 := Fr.nil n0
  refine own_cast (own_ef_own_sA2n m u1 u2 q) ?_
  obtain ⟨f101, f102, f103, f104, f105, f106, f107, f108, f109, f110, f111, f112, f113, f114, f115, f116, f117, f118, f119, f120, f121, f122, f123, f124⟩ := B0
  refine own_by (g' := (mkF m 13 #[rv q, iv u1, iv u2] [(.ref q)])) (fun t k => XS.iloadN X0.here hx rfl (hb hby own_d4_0) rfl (XS.ifYes X0.here hx rfl (pc0 := 1) (pc' := 6) rfl (hb hby own_d4_1) rfl ((if0 _ _).trans (flt hc0).2.1) (by decide) (by decide) (XS.iloadN X0.here hx rfl (hb hby own_d4_6) rfl (XS.iconst X0.here hx rfl (hb hby own_d4_7) (XS.iand X0.here hx rfl (hb hby own_d4_8) rfl (XS.ifNo X0.here hx rfl (hb hby own_d4_9) rfl ((if0 _ _).trans (feq hop).1) (XS.aloadN X0.here hx rfl (hb hby own_d4_12) rfl rfl k))))))) ?_
  refine own_callV X0 hx hZ hown (hw _ (List.mem_of_getElem? (i := 30) rfl)) (hw _ (List.mem_of_getElem? (i := 31) rfl)) (notFace_of_selects (args := #[]) (mvT hZ (hw _ (List.mem_of_getElem? (i := 33) rfl)))) (hw _ (List.mem_of_getElem? (i := 33) rfl)) (hw _ (List.mem_of_getElem? (i := 32) rfl)) (hw _ (List.mem_of_getElem? (i := 34) rfl)) (hw _ (List.mem_of_getElem? (i := 2) rfl)) (by decide) (a := q) f101 (own_add2n l Z a0 hw [] (q) (r) (w) (hd) (tl) (b1) (a1) (z1) (b2) (a2) (z2) h0 n0 Z0 ⟨f101, f102, f103, f104, f105, f106, f107, f108, f109, f110, f111, f112, f113, f114, f115, f116, f117, f118, f119, f120, f121, f122, f123, f124⟩ (by first | assumption | decide) (by first | assumption | decide) (by first | assumption | decide)) 0 (by decide) (by decide) (by decide) (by decide) e0 (g := (mkF m 13 #[rv q, iv u1, iv u2] [(.ref q)])) rfl (by rw [hml]; rfl) (argsL := []) (rest := []) (lenOf own_pd5 rfl) rfl (by show 2 * 0 + _ ≤ _; exact Nat.le_of_eq rfl) (hb hby own_d4_13) ?_
  intro v125 T125 L125 X125 q125
  obtain ⟨rfl, N125q, K125, f126⟩ := q125
  have N125 := Fr.app N0 N125q
  show own_Goes p e below s _ _ _ T125 (mkF m 16 #[rv q, iv u1, iv u2] [])
  refine own_by (g' := (mkF m 36 #[rv q, iv (u1 + (1 : Int32)), iv u2] [(.ref q)])) (fun t k => XS.iloadN X125.here hx rfl (hb hby own_d4_16) rfl (XS.iconst X125.here hx rfl (hb hby own_d4_17) (XS.iadd X125.here hx rfl (hb hby own_d4_18) rfl (XS.istoreN X125.here hx rfl (hb hby own_d4_19) rfl (l' := #[rv q, iv (u1 + (1 : Int32)), iv u2]) rfl (XS.goto X125.here hx rfl (pc0 := 20) (pc' := 35) rfl (hb hby own_d4_20) (by decide) (by decide) (XS.aloadN X125.here hx rfl (hb hby own_d4_35) rfl rfl k)))))) ?_
  have f127 := (f101.keep K125)
  refine own_callV X125 hx hZ hown (hw _ (List.mem_of_getElem? (i := 13) rfl)) (hw _ (List.mem_of_getElem? (i := 14) rfl)) (notFace_of_selects (args := #[]) (mvT hZ (hw _ (List.mem_of_getElem? (i := 16) rfl)))) (hw _ (List.mem_of_getElem? (i := 16) rfl)) (hw _ (List.mem_of_getElem? (i := 15) rfl)) (hw _ (List.mem_of_getElem? (i := 17) rfl)) (hw _ (List.mem_of_getElem? (i := 2) rfl)) (by decide) (a := q) f127 (own_em2 l Z a0 hw [] (q) (r) (w) (hd) ((tl + (1 : Int32))) (b1) (a1) (z1) (b2) (a2) (z2) T125.heap n0 (Nat.le_trans Z0 K125.1) f126) 0 (by decide) (by decide) (by decide) (by decide) rfl (g := (mkF m 36 #[rv q, iv (u1 + (1 : Int32)), iv u2] [(.ref q)])) rfl (by rw [hml]; rfl) (argsL := []) (rest := []) (lenOf own_pd3 rfl) rfl (by show 2 * 0 + _ ≤ _; exact Nat.le_of_eq rfl) (hb hby own_d4_36) ?_
  intro v128 T128 L128 X128 q128
  obtain ⟨rfl, N128q, e128⟩ := q128
  have N128 := Fr.app N125 N128q
  show own_Goes p e below s _ _ _ T128 (mkF m 39 #[rv q, iv (u1 + (1 : Int32)), iv u2] [(.int (0 : Int32))])
  refine own_by (g' := (mkF m 52 #[rv q, iv (u1 + (1 : Int32)), iv u2] [(.int (u1 + (1 : Int32)))])) (fun t k => XS.iloadN X128.here hx rfl (hb hby own_d4_39) rfl (XS.ifYes X128.here hx rfl (pc0 := 40) (pc' := 47) rfl (hb hby own_d4_40) rfl ((if0 _ _).trans (feq hc1).2) (by decide) (by decide) (XS.iconst X128.here hx rfl (hb hby own_d4_47) (XS.icmpNo X128.here hx rfl (hb hby own_d4_48) rfl (teq (by decide : (0 : Int32) = (0 : Int32))).2 (XS.iloadN X128.here hx rfl (hb hby own_d4_51) rfl k))))) ?_
  refine own_retI X128 hx hlk hret (hb hby own_d4_52) (by decide) (by decide) ?_
  rw [e128]
  exact ⟨rfl, N128, ((Keep.refl h0 [q]).trans K125 (allS (Or.inl (List.mem_of_getElem? (i := 0) rfl)) all0)), f126⟩
def Q_own_sA3n (Z : State) (u1 : Int32) (u2 : Int32) (q : Addr) (r : Int32) (w : Int32) (hd : Int32) (tl : Int32) (b1 : Addr) (a1 : Addr) (z1 : Int32) (b2 : Addr) (a2 : Addr) (z2 : Int32) (b3 : Addr) (a3 : Addr) (z3 : Int32) (h0 : Heap) (n0 : Nat) (v : Option Value) (h : Heap) (L : List Loc) : Prop := v = some (.int (u1 + (1 : Int32))) ∧ Fr n0 L ∧ Keep h0 h [q] ∧ own_Q3 Z h (q) (n0) (r) (w) (hd) ((tl + (1 : Int32))) (b1) (a1) (z1) (b2) (a2) (z2) (b3) (a3) (z3)
theorem own_ef_own_sA3n (m : MethodId) (u1 : Int32) (u2 : Int32) (q : Addr) : entryFrame m #[(.ref q), (.int u1), (.int u2)] 3 = mkF m 0 #[rv q, iv u1, iv u2] [] := by first | (simp [entryFrame, mkF, argsToLocals, Value.category]; done) | rfl
set_option maxRecDepth 65536 in
set_option maxHeartbeats 40000000 in
theorem own_sA3n (l : Launch) (Z : State) (a0 : Array Value) (hw : ∀ d ∈ tables_1, d.before a0 Z = true) (ws : List Jvm.Cond) (u1 : Int32) (u2 : Int32) (q : Addr) (r : Int32) (w : Int32) (hd : Int32) (tl : Int32) (b1 : Addr) (a1 : Addr) (z1 : Int32) (b2 : Addr) (a2 : Addr) (z2 : Int32) (b3 : Addr) (a3 : Addr) (z3 : Int32) (h0 : Heap) (n0 : Nat) (Z0 : n0 ≤ h0.size) (B0 : own_Q3 Z h0 (q) (n0) (r) (w) (hd) (tl) (b1) (a1) (z1) (b2) (a2) (z2) (b3) (a3) (z3)) (hr : own_03 r) (hw3 : own_03 w) (hc0 : ¬ u1 < (0 : Int32)) (hop : ¬ (u2 &&& (1 : Int32)) = (0 : Int32)) (hc1 : ¬ (u1 + (1 : Int32)) = (0 : Int32)) (hp : ¬ tl = z3) :
    own_Ctr l Z (⟨"com/example/limentinus/limentinus/simulator/RecordQueueIsEmptyPinLaw", "step", "(Lcom/example/limentinus/limentinus/simulator/RecordQueue;II)I"⟩ : MethodName) method_2_code 3 (some .int) ws ({ frames := 1, cells := 0, slots := 0, locals := 13 } : Room) (({ frames := 1, cells := 0, slots := 0, locals := 13 } : Room)).cells (({ frames := 1, cells := 0, slots := 0, locals := 13 } : Room)).slots #[(.ref q), (.int u1), (.int u2)] h0 (Q_own_sA3n Z u1 u2 q r w hd tl b1 a1 z1 b2 a2 z2 b3 a3 z3 h0 n0) := by
  refine own_enter (plainFor_of_name own_pn2) ?_
  intro p e s m below meth c s₁ X0 hx hZ hby hml hown hnm hlk hret e0
  have N0 := Fr.nil n0
  refine own_cast (own_ef_own_sA3n m u1 u2 q) ?_
  obtain ⟨f101, f102, f103, f104, f105, f106, f107, f108, f109, f110, f111, f112, f113, f114, f115, f116, f117, f118, f119, f120, f121, f122, f123, f124, f125, f126, f127, f128, f129, f130, f131, f132, f133, f134, f135⟩ := B0
  refine own_by (g' := (mkF m 13 #[rv q, iv u1, iv u2] [(.ref q)])) (fun t k => XS.iloadN X0.here hx rfl (hb hby own_d4_0) rfl (XS.ifYes X0.here hx rfl (pc0 := 1) (pc' := 6) rfl (hb hby own_d4_1) rfl ((if0 _ _).trans (flt hc0).2.1) (by decide) (by decide) (XS.iloadN X0.here hx rfl (hb hby own_d4_6) rfl (XS.iconst X0.here hx rfl (hb hby own_d4_7) (XS.iand X0.here hx rfl (hb hby own_d4_8) rfl (XS.ifNo X0.here hx rfl (hb hby own_d4_9) rfl ((if0 _ _).trans (feq hop).1) (XS.aloadN X0.here hx rfl (hb hby own_d4_12) rfl rfl k))))))) ?_
  refine own_callV X0 hx hZ hown (hw _ (List.mem_of_getElem? (i := 30) rfl)) (hw _ (List.mem_of_getElem? (i := 31) rfl)) (notFace_of_selects (args := #[]) (mvT hZ (hw _ (List.mem_of_getElem? (i := 33) rfl)))) (hw _ (List.mem_of_getElem? (i := 33) rfl)) (hw _ (List.mem_of_getElem? (i := 32) rfl)) (hw _ (List.mem_of_getElem? (i := 34) rfl)) (hw _ (List.mem_of_getElem? (i := 2) rfl)) (by decide) (a := q) f101 (own_add3n l Z a0 hw [] (q) (r) (w) (hd) (tl) (b1) (a1) (z1) (b2) (a2) (z2) (b3) (a3) (z3) h0 n0 Z0 ⟨f101, f102, f103, f104, f105, f106, f107, f108, f109, f110, f111, f112, f113, f114, f115, f116, f117, f118, f119, f120, f121, f122, f123, f124, f125, f126, f127, f128, f129, f130, f131, f132, f133, f134, f135⟩ (by first | assumption | decide) (by first | assumption | decide) (by first | assumption | decide)) 0 (by decide) (by decide) (by decide) (by decide) e0 (g := (mkF m 13 #[rv q, iv u1, iv u2] [(.ref q)])) rfl (by rw [hml]; rfl) (argsL := []) (rest := []) (lenOf own_pd5 rfl) rfl (by show 2 * 0 + _ ≤ _; exact Nat.le_of_eq rfl) (hb hby own_d4_13) ?_
  intro v136 T136 L136 X136 q136
  obtain ⟨rfl, N136q, K136, f137⟩ := q136
  have N136 := Fr.app N0 N136q
  show own_Goes p e below s _ _ _ T136 (mkF m 16 #[rv q, iv u1, iv u2] [])
  refine own_by (g' := (mkF m 36 #[rv q, iv (u1 + (1 : Int32)), iv u2] [(.ref q)])) (fun t k => XS.iloadN X136.here hx rfl (hb hby own_d4_16) rfl (XS.iconst X136.here hx rfl (hb hby own_d4_17) (XS.iadd X136.here hx rfl (hb hby own_d4_18) rfl (XS.istoreN X136.here hx rfl (hb hby own_d4_19) rfl (l' := #[rv q, iv (u1 + (1 : Int32)), iv u2]) rfl (XS.goto X136.here hx rfl (pc0 := 20) (pc' := 35) rfl (hb hby own_d4_20) (by decide) (by decide) (XS.aloadN X136.here hx rfl (hb hby own_d4_35) rfl rfl k)))))) ?_
  have f138 := (f101.keep K136)
  refine own_callV X136 hx hZ hown (hw _ (List.mem_of_getElem? (i := 13) rfl)) (hw _ (List.mem_of_getElem? (i := 14) rfl)) (notFace_of_selects (args := #[]) (mvT hZ (hw _ (List.mem_of_getElem? (i := 16) rfl)))) (hw _ (List.mem_of_getElem? (i := 16) rfl)) (hw _ (List.mem_of_getElem? (i := 15) rfl)) (hw _ (List.mem_of_getElem? (i := 17) rfl)) (hw _ (List.mem_of_getElem? (i := 2) rfl)) (by decide) (a := q) f138 (own_em3 l Z a0 hw [] (q) (r) (w) (hd) ((tl + (1 : Int32))) (b1) (a1) (z1) (b2) (a2) (z2) (b3) (a3) (z3) T136.heap n0 (Nat.le_trans Z0 K136.1) f137) 0 (by decide) (by decide) (by decide) (by decide) rfl (g := (mkF m 36 #[rv q, iv (u1 + (1 : Int32)), iv u2] [(.ref q)])) rfl (by rw [hml]; rfl) (argsL := []) (rest := []) (lenOf own_pd3 rfl) rfl (by show 2 * 0 + _ ≤ _; exact Nat.le_of_eq rfl) (hb hby own_d4_36) ?_
  intro v139 T139 L139 X139 q139
  obtain ⟨rfl, N139q, e139⟩ := q139
  have N139 := Fr.app N136 N139q
  show own_Goes p e below s _ _ _ T139 (mkF m 39 #[rv q, iv (u1 + (1 : Int32)), iv u2] [(.int (0 : Int32))])
  refine own_by (g' := (mkF m 52 #[rv q, iv (u1 + (1 : Int32)), iv u2] [(.int (u1 + (1 : Int32)))])) (fun t k => XS.iloadN X139.here hx rfl (hb hby own_d4_39) rfl (XS.ifYes X139.here hx rfl (pc0 := 40) (pc' := 47) rfl (hb hby own_d4_40) rfl ((if0 _ _).trans (feq hc1).2) (by decide) (by decide) (XS.iconst X139.here hx rfl (hb hby own_d4_47) (XS.icmpNo X139.here hx rfl (hb hby own_d4_48) rfl (teq (by decide : (0 : Int32) = (0 : Int32))).2 (XS.iloadN X139.here hx rfl (hb hby own_d4_51) rfl k))))) ?_
  refine own_retI X139 hx hlk hret (hb hby own_d4_52) (by decide) (by decide) ?_
  rw [e139]
  exact ⟨rfl, N139, ((Keep.refl h0 [q]).trans K136 (allS (Or.inl (List.mem_of_getElem? (i := 0) rfl)) all0)), f137⟩
def Q_own_sA1a2 (Z : State) (u1 : Int32) (u2 : Int32) (q : Addr) (r : Int32) (w : Int32) (hd : Int32) (b1 : Addr) (a1 : Addr) (h0 : Heap) (n0 : Nat) (v : Option Value) (h : Heap) (L : List Loc) : Prop := ∃ (b2 : Addr), ∃ (a2 : Addr), v = some (.int (u1 + (1 : Int32))) ∧ Fr n0 L ∧ Keep h0 h [q, b1] ∧ own_Q2 Z h (q) (n0) (r) (w) (hd) ((1 : Int32)) (b1) (a1) ((2 : Int32)) (b2) (a2) ((4 : Int32)) ∧ h0.size ≤ b2 ∧ h0.size ≤ a2
theorem own_ef_own_sA1a2 (m : MethodId) (u1 : Int32) (u2 : Int32) (q : Addr) : entryFrame m #[(.ref q), (.int u1), (.int u2)] 3 = mkF m 0 #[rv q, iv u1, iv u2] [] := by first | (simp [entryFrame, mkF, argsToLocals, Value.category]; done) | rfl
set_option maxRecDepth 65536 in
set_option maxHeartbeats 40000000 in
theorem own_sA1a2 (l : Launch) (Z : State) (a0 : Array Value) (hw : ∀ d ∈ tables_1, d.before a0 Z = true) (ws : List Jvm.Cond) (u1 : Int32) (u2 : Int32) (q : Addr) (r : Int32) (w : Int32) (hd : Int32) (b1 : Addr) (a1 : Addr) (h0 : Heap) (n0 : Nat) (Z0 : n0 ≤ h0.size) (B0 : own_Q1 Z h0 (q) (n0) (r) (w) (hd) ((2 : Int32)) (b1) (a1) ((2 : Int32))) (hr : own_03 r) (hw3 : own_03 w) (hc0 : ¬ u1 < (0 : Int32)) (hop : ¬ (u2 &&& (1 : Int32)) = (0 : Int32)) (hc1 : ¬ (u1 + (1 : Int32)) = (0 : Int32)) :
    own_Ctr l Z (⟨"com/example/limentinus/limentinus/simulator/RecordQueueIsEmptyPinLaw", "step", "(Lcom/example/limentinus/limentinus/simulator/RecordQueue;II)I"⟩ : MethodName) method_2_code 3 (some .int) ws ({ frames := 4, cells := 3, slots := 28, locals := 54 } : Room) (({ frames := 4, cells := 3, slots := 28, locals := 54 } : Room)).cells (({ frames := 4, cells := 3, slots := 28, locals := 54 } : Room)).slots #[(.ref q), (.int u1), (.int u2)] h0 (Q_own_sA1a2 Z u1 u2 q r w hd b1 a1 h0 n0) := by
  refine own_enter (plainFor_of_name own_pn2) ?_
  intro p e s m below meth c s₁ X0 hx hZ hby hml hown hnm hlk hret e0
  have N0 := Fr.nil n0
  refine own_cast (own_ef_own_sA1a2 m u1 u2 q) ?_
  obtain ⟨f101, f102, f103, f104, f105, f106, f107, f108, f109, f110, f111, f112, f113, f114, f115⟩ := B0
  refine own_by (g' := (mkF m 13 #[rv q, iv u1, iv u2] [(.ref q)])) (fun t k => XS.iloadN X0.here hx rfl (hb hby own_d4_0) rfl (XS.ifYes X0.here hx rfl (pc0 := 1) (pc' := 6) rfl (hb hby own_d4_1) rfl ((if0 _ _).trans (flt hc0).2.1) (by decide) (by decide) (XS.iloadN X0.here hx rfl (hb hby own_d4_6) rfl (XS.iconst X0.here hx rfl (hb hby own_d4_7) (XS.iand X0.here hx rfl (hb hby own_d4_8) rfl (XS.ifNo X0.here hx rfl (hb hby own_d4_9) rfl ((if0 _ _).trans (feq hop).1) (XS.aloadN X0.here hx rfl (hb hby own_d4_12) rfl rfl k))))))) ?_
  refine own_callV X0 hx hZ hown (hw _ (List.mem_of_getElem? (i := 30) rfl)) (hw _ (List.mem_of_getElem? (i := 31) rfl)) (notFace_of_selects (args := #[]) (mvT hZ (hw _ (List.mem_of_getElem? (i := 33) rfl)))) (hw _ (List.mem_of_getElem? (i := 33) rfl)) (hw _ (List.mem_of_getElem? (i := 32) rfl)) (hw _ (List.mem_of_getElem? (i := 34) rfl)) (hw _ (List.mem_of_getElem? (i := 2) rfl)) (by decide) (a := q) f101 (own_add1a2 l Z a0 hw [] (q) (r) (w) (hd) (b1) (a1) h0 n0 Z0 ⟨f101, f102, f103, f104, f105, f106, f107, f108, f109, f110, f111, f112, f113, f114, f115⟩ (by first | assumption | decide) (by first | assumption | decide)) 0 (by decide) (by decide) (by decide) (by decide) e0 (g := (mkF m 13 #[rv q, iv u1, iv u2] [(.ref q)])) rfl (by rw [hml]; rfl) (argsL := []) (rest := []) (lenOf own_pd5 rfl) rfl (by show 2 * 0 + _ ≤ _; exact Nat.le_of_eq rfl) (hb hby own_d4_13) ?_
  intro v116 T116 L116 X116 q116
  obtain ⟨b2116, a2116, rfl, N116q, K116, f117, f118, f119⟩ := q116
  have N116 := Fr.app N0 N116q
  show own_Goes p e below s _ _ _ T116 (mkF m 16 #[rv q, iv u1, iv u2] [])
  refine own_by (g' := (mkF m 36 #[rv q, iv (u1 + (1 : Int32)), iv u2] [(.ref q)])) (fun t k => XS.iloadN X116.here hx rfl (hb hby own_d4_16) rfl (XS.iconst X116.here hx rfl (hb hby own_d4_17) (XS.iadd X116.here hx rfl (hb hby own_d4_18) rfl (XS.istoreN X116.here hx rfl (hb hby own_d4_19) rfl (l' := #[rv q, iv (u1 + (1 : Int32)), iv u2]) rfl (XS.goto X116.here hx rfl (pc0 := 20) (pc' := 35) rfl (hb hby own_d4_20) (by decide) (by decide) (XS.aloadN X116.here hx rfl (hb hby own_d4_35) rfl rfl k)))))) ?_
  have f120 := (f101.keep K116)
  refine own_callV X116 hx hZ hown (hw _ (List.mem_of_getElem? (i := 13) rfl)) (hw _ (List.mem_of_getElem? (i := 14) rfl)) (notFace_of_selects (args := #[]) (mvT hZ (hw _ (List.mem_of_getElem? (i := 16) rfl)))) (hw _ (List.mem_of_getElem? (i := 16) rfl)) (hw _ (List.mem_of_getElem? (i := 15) rfl)) (hw _ (List.mem_of_getElem? (i := 17) rfl)) (hw _ (List.mem_of_getElem? (i := 2) rfl)) (by decide) (a := q) f120 (own_em2 l Z a0 hw [] (q) (r) (w) (hd) ((1 : Int32)) (b1) (a1) ((2 : Int32)) (b2116) (a2116) ((4 : Int32)) T116.heap n0 (Nat.le_trans Z0 K116.1) f117) 0 (by decide) (by decide) (by decide) (by decide) rfl (g := (mkF m 36 #[rv q, iv (u1 + (1 : Int32)), iv u2] [(.ref q)])) rfl (by rw [hml]; rfl) (argsL := []) (rest := []) (lenOf own_pd3 rfl) rfl (by show 2 * 0 + _ ≤ _; exact Nat.le_of_eq rfl) (hb hby own_d4_36) ?_
  intro v121 T121 L121 X121 q121
  obtain ⟨rfl, N121q, e121⟩ := q121
  have N121 := Fr.app N116 N121q
  show own_Goes p e below s _ _ _ T121 (mkF m 39 #[rv q, iv (u1 + (1 : Int32)), iv u2] [(.int (0 : Int32))])
  refine own_by (g' := (mkF m 52 #[rv q, iv (u1 + (1 : Int32)), iv u2] [(.int (u1 + (1 : Int32)))])) (fun t k => XS.iloadN X121.here hx rfl (hb hby own_d4_39) rfl (XS.ifYes X121.here hx rfl (pc0 := 40) (pc' := 47) rfl (hb hby own_d4_40) rfl ((if0 _ _).trans (feq hc1).2) (by decide) (by decide) (XS.iconst X121.here hx rfl (hb hby own_d4_47) (XS.icmpNo X121.here hx rfl (hb hby own_d4_48) rfl (teq (by decide : (0 : Int32) = (0 : Int32))).2 (XS.iloadN X121.here hx rfl (hb hby own_d4_51) rfl k))))) ?_
  refine own_retI X121 hx hlk hret (hb hby own_d4_52) (by decide) (by decide) ?_
  rw [e121]
  exact ⟨b2116, a2116, rfl, N121, ((Keep.refl h0 [q, b1]).trans K116 (allS (Or.inl (List.mem_of_getElem? (i := 0) rfl)) (allS (Or.inl (List.mem_of_getElem? (i := 1) rfl)) all0))), f117, (Nat.le_trans (Nat.le_refl _) f118), (Nat.le_trans (Nat.le_refl _) f119)⟩
def Q_own_sA1a4 (Z : State) (u1 : Int32) (u2 : Int32) (q : Addr) (r : Int32) (w : Int32) (hd : Int32) (b1 : Addr) (a1 : Addr) (h0 : Heap) (n0 : Nat) (v : Option Value) (h : Heap) (L : List Loc) : Prop := ∃ (b2 : Addr), ∃ (a2 : Addr), v = some (.int (u1 + (1 : Int32))) ∧ Fr n0 L ∧ Keep h0 h [q, b1] ∧ own_Q2 Z h (q) (n0) (r) (w) (hd) ((1 : Int32)) (b1) (a1) ((4 : Int32)) (b2) (a2) ((8 : Int32)) ∧ h0.size ≤ b2 ∧ h0.size ≤ a2
theorem own_ef_own_sA1a4 (m : MethodId) (u1 : Int32) (u2 : Int32) (q : Addr) : entryFrame m #[(.ref q), (.int u1), (.int u2)] 3 = mkF m 0 #[rv q, iv u1, iv u2] [] := by first | (simp [entryFrame, mkF, argsToLocals, Value.category]; done) | rfl
set_option maxRecDepth 65536 in
set_option maxHeartbeats 40000000 in
theorem own_sA1a4 (l : Launch) (Z : State) (a0 : Array Value) (hw : ∀ d ∈ tables_1, d.before a0 Z = true) (ws : List Jvm.Cond) (u1 : Int32) (u2 : Int32) (q : Addr) (r : Int32) (w : Int32) (hd : Int32) (b1 : Addr) (a1 : Addr) (h0 : Heap) (n0 : Nat) (Z0 : n0 ≤ h0.size) (B0 : own_Q1 Z h0 (q) (n0) (r) (w) (hd) ((4 : Int32)) (b1) (a1) ((4 : Int32))) (hr : own_03 r) (hw3 : own_03 w) (hc0 : ¬ u1 < (0 : Int32)) (hop : ¬ (u2 &&& (1 : Int32)) = (0 : Int32)) (hc1 : ¬ (u1 + (1 : Int32)) = (0 : Int32)) :
    own_Ctr l Z (⟨"com/example/limentinus/limentinus/simulator/RecordQueueIsEmptyPinLaw", "step", "(Lcom/example/limentinus/limentinus/simulator/RecordQueue;II)I"⟩ : MethodName) method_2_code 3 (some .int) ws ({ frames := 4, cells := 3, slots := 52, locals := 54 } : Room) (({ frames := 4, cells := 3, slots := 52, locals := 54 } : Room)).cells (({ frames := 4, cells := 3, slots := 52, locals := 54 } : Room)).slots #[(.ref q), (.int u1), (.int u2)] h0 (Q_own_sA1a4 Z u1 u2 q r w hd b1 a1 h0 n0) := by
  refine own_enter (plainFor_of_name own_pn2) ?_
  intro p e s m below meth c s₁ X0 hx hZ hby hml hown hnm hlk hret e0
  have N0 := Fr.nil n0
  refine own_cast (own_ef_own_sA1a4 m u1 u2 q) ?_
  obtain ⟨f101, f102, f103, f104, f105, f106, f107, f108, f109, f110, f111, f112, f113, f114, f115⟩ := B0
  refine own_by (g' := (mkF m 13 #[rv q, iv u1, iv u2] [(.ref q)])) (fun t k => XS.iloadN X0.here hx rfl (hb hby own_d4_0) rfl (XS.ifYes X0.here hx rfl (pc0 := 1) (pc' := 6) rfl (hb hby own_d4_1) rfl ((if0 _ _).trans (flt hc0).2.1) (by decide) (by decide) (XS.iloadN X0.here hx rfl (hb hby own_d4_6) rfl (XS.iconst X0.here hx rfl (hb hby own_d4_7) (XS.iand X0.here hx rfl (hb hby own_d4_8) rfl (XS.ifNo X0.here hx rfl (hb hby own_d4_9) rfl ((if0 _ _).trans (feq hop).1) (XS.aloadN X0.here hx rfl (hb hby own_d4_12) rfl rfl k))))))) ?_
  refine own_callV X0 hx hZ hown (hw _ (List.mem_of_getElem? (i := 30) rfl)) (hw _ (List.mem_of_getElem? (i := 31) rfl)) (notFace_of_selects (args := #[]) (mvT hZ (hw _ (List.mem_of_getElem? (i := 33) rfl)))) (hw _ (List.mem_of_getElem? (i := 33) rfl)) (hw _ (List.mem_of_getElem? (i := 32) rfl)) (hw _ (List.mem_of_getElem? (i := 34) rfl)) (hw _ (List.mem_of_getElem? (i := 2) rfl)) (by decide) (a := q) f101 (own_add1a4 l Z a0 hw [] (q) (r) (w) (hd) (b1) (a1) h0 n0 Z0 ⟨f101, f102, f103, f104, f105, f106, f107, f108, f109, f110, f111, f112, f113, f114, f115⟩ (by first | assumption | decide) (by first | assumption | decide)) 0 (by decide) (by decide) (by decide) (by decide) e0 (g := (mkF m 13 #[rv q, iv u1, iv u2] [(.ref q)])) rfl (by rw [hml]; rfl) (argsL := []) (rest := []) (lenOf own_pd5 rfl) rfl (by show 2 * 0 + _ ≤ _; exact Nat.le_of_eq rfl) (hb hby own_d4_13) ?_
  intro v116 T116 L116 X116 q116
  obtain ⟨b2116, a2116, rfl, N116q, K116, f117, f118, f119⟩ := q116
  have N116 := Fr.app N0 N116q
  show own_Goes p e below s _ _ _ T116 (mkF m 16 #[rv q, iv u1, iv u2] [])
  refine own_by (g' := (mkF m 36 #[rv q, iv (u1 + (1 : Int32)), iv u2] [(.ref q)])) (fun t k => XS.iloadN X116.here hx rfl (hb hby own_d4_16) rfl (XS.iconst X116.here hx rfl (hb hby own_d4_17) (XS.iadd X116.here hx rfl (hb hby own_d4_18) rfl (XS.istoreN X116.here hx rfl (hb hby own_d4_19) rfl (l' := #[rv q, iv (u1 + (1 : Int32)), iv u2]) rfl (XS.goto X116.here hx rfl (pc0 := 20) (pc' := 35) rfl (hb hby own_d4_20) (by decide) (by decide) (XS.aloadN X116.here hx rfl (hb hby own_d4_35) rfl rfl k)))))) ?_
  have f120 := (f101.keep K116)
  refine own_callV X116 hx hZ hown (hw _ (List.mem_of_getElem? (i := 13) rfl)) (hw _ (List.mem_of_getElem? (i := 14) rfl)) (notFace_of_selects (args := #[]) (mvT hZ (hw _ (List.mem_of_getElem? (i := 16) rfl)))) (hw _ (List.mem_of_getElem? (i := 16) rfl)) (hw _ (List.mem_of_getElem? (i := 15) rfl)) (hw _ (List.mem_of_getElem? (i := 17) rfl)) (hw _ (List.mem_of_getElem? (i := 2) rfl)) (by decide) (a := q) f120 (own_em2 l Z a0 hw [] (q) (r) (w) (hd) ((1 : Int32)) (b1) (a1) ((4 : Int32)) (b2116) (a2116) ((8 : Int32)) T116.heap n0 (Nat.le_trans Z0 K116.1) f117) 0 (by decide) (by decide) (by decide) (by decide) rfl (g := (mkF m 36 #[rv q, iv (u1 + (1 : Int32)), iv u2] [(.ref q)])) rfl (by rw [hml]; rfl) (argsL := []) (rest := []) (lenOf own_pd3 rfl) rfl (by show 2 * 0 + _ ≤ _; exact Nat.le_of_eq rfl) (hb hby own_d4_36) ?_
  intro v121 T121 L121 X121 q121
  obtain ⟨rfl, N121q, e121⟩ := q121
  have N121 := Fr.app N116 N121q
  show own_Goes p e below s _ _ _ T121 (mkF m 39 #[rv q, iv (u1 + (1 : Int32)), iv u2] [(.int (0 : Int32))])
  refine own_by (g' := (mkF m 52 #[rv q, iv (u1 + (1 : Int32)), iv u2] [(.int (u1 + (1 : Int32)))])) (fun t k => XS.iloadN X121.here hx rfl (hb hby own_d4_39) rfl (XS.ifYes X121.here hx rfl (pc0 := 40) (pc' := 47) rfl (hb hby own_d4_40) rfl ((if0 _ _).trans (feq hc1).2) (by decide) (by decide) (XS.iconst X121.here hx rfl (hb hby own_d4_47) (XS.icmpNo X121.here hx rfl (hb hby own_d4_48) rfl (teq (by decide : (0 : Int32) = (0 : Int32))).2 (XS.iloadN X121.here hx rfl (hb hby own_d4_51) rfl k))))) ?_
  refine own_retI X121 hx hlk hret (hb hby own_d4_52) (by decide) (by decide) ?_
  rw [e121]
  exact ⟨b2116, a2116, rfl, N121, ((Keep.refl h0 [q, b1]).trans K116 (allS (Or.inl (List.mem_of_getElem? (i := 0) rfl)) (allS (Or.inl (List.mem_of_getElem? (i := 1) rfl)) all0))), f117, (Nat.le_trans (Nat.le_refl _) f118), (Nat.le_trans (Nat.le_refl _) f119)⟩
def Q_own_sA2a (Z : State) (u1 : Int32) (u2 : Int32) (q : Addr) (r : Int32) (w : Int32) (hd : Int32) (b1 : Addr) (a1 : Addr) (b2 : Addr) (a2 : Addr) (h0 : Heap) (n0 : Nat) (v : Option Value) (h : Heap) (L : List Loc) : Prop := ∃ (b3 : Addr), ∃ (a3 : Addr), v = some (.int (u1 + (1 : Int32))) ∧ Fr n0 L ∧ Keep h0 h [q, b2] ∧ own_Q3 Z h (q) (n0) (r) (w) (hd) ((1 : Int32)) (b1) (a1) ((2 : Int32)) (b2) (a2) ((4 : Int32)) (b3) (a3) ((8 : Int32)) ∧ h0.size ≤ b3 ∧ h0.size ≤ a3
theorem own_ef_own_sA2a (m : MethodId) (u1 : Int32) (u2 : Int32) (q : Addr) : entryFrame m #[(.ref q), (.int u1), (.int u2)] 3 = mkF m 0 #[rv q, iv u1, iv u2] [] := by first | (simp [entryFrame, mkF, argsToLocals, Value.category]; done) | rfl
set_option maxRecDepth 65536 in
set_option maxHeartbeats 40000000 in
theorem own_sA2a (l : Launch) (Z : State) (a0 : Array Value) (hw : ∀ d ∈ tables_1, d.before a0 Z = true) (ws : List Jvm.Cond) (u1 : Int32) (u2 : Int32) (q : Addr) (r : Int32) (w : Int32) (hd : Int32) (b1 : Addr) (a1 : Addr) (b2 : Addr) (a2 : Addr) (h0 : Heap) (n0 : Nat) (Z0 : n0 ≤ h0.size) (B0 : own_Q2 Z h0 (q) (n0) (r) (w) (hd) ((4 : Int32)) (b1) (a1) ((2 : Int32)) (b2) (a2) ((4 : Int32))) (hr : own_03 r) (hw3 : own_03 w) (hc0 : ¬ u1 < (0 : Int32)) (hop : ¬ (u2 &&& (1 : Int32)) = (0 : Int32)) (hc1 : ¬ (u1 + (1 : Int32)) = (0 : Int32)) :
    own_Ctr l Z (⟨"com/example/limentinus/limentinus/simulator/RecordQueueIsEmptyPinLaw", "step", "(Lcom/example/limentinus/limentinus/simulator/RecordQueue;II)I"⟩ : MethodName) method_2_code 3 (some .int) ws ({ frames := 4, cells := 3, slots := 52, locals := 54 } : Room) (({ frames := 4, cells := 3, slots := 52, locals := 54 } : Room)).cells (({ frames := 4, cells := 3, slots := 52, locals := 54 } : Room)).slots #[(.ref q), (.int u1), (.int u2)] h0 (Q_own_sA2a Z u1 u2 q r w hd b1 a1 b2 a2 h0 n0) := by
  refine own_enter (plainFor_of_name own_pn2) ?_
  intro p e s m below meth c s₁ X0 hx hZ hby hml hown hnm hlk hret e0
  have N0 := Fr.nil n0
  refine own_cast (own_ef_own_sA2a m u1 u2 q) ?_
  obtain ⟨f101, f102, f103, f104, f105, f106, f107, f108, f109, f110, f111, f112, f113, f114, f115, f116, f117, f118, f119, f120, f121, f122, f123, f124⟩ := B0
  refine own_by (g' := (mkF m 13 #[rv q, iv u1, iv u2] [(.ref q)])) (fun t k => XS.iloadN X0.here hx rfl (hb hby own_d4_0) rfl (XS.ifYes X0.here hx rfl (pc0 := 1) (pc' := 6) rfl (hb hby own_d4_1) rfl ((if0 _ _).trans (flt hc0).2.1) (by decide) (by decide) (XS.iloadN X0.here hx rfl (hb hby own_d4_6) rfl (XS.iconst X0.here hx rfl (hb hby own_d4_7) (XS.iand X0.here hx rfl (hb hby own_d4_8) rfl (XS.ifNo X0.here hx rfl (hb hby own_d4_9) rfl ((if0 _ _).trans (feq hop).1) (XS.aloadN X0.here hx rfl (hb hby own_d4_12) rfl rfl k))))))) ?_
  refine own_callV X0 hx hZ hown (hw _ (List.mem_of_getElem? (i := 30) rfl)) (hw _ (List.mem_of_getElem? (i := 31) rfl)) (notFace_of_selects (args := #[]) (mvT hZ (hw _ (List.mem_of_getElem? (i := 33) rfl)))) (hw _ (List.mem_of_getElem? (i := 33) rfl)) (hw _ (List.mem_of_getElem? (i := 32) rfl)) (hw _ (List.mem_of_getElem? (i := 34) rfl)) (hw _ (List.mem_of_getElem? (i := 2) rfl)) (by decide) (a := q) f101 (own_add2a l Z a0 hw [] (q) (r) (w) (hd) (b1) (a1) (b2) (a2) h0 n0 Z0 ⟨f101, f102, f103, f104, f105, f106, f107, f108, f109, f110, f111, f112, f113, f114, f115, f116, f117, f118, f119, f120, f121, f122, f123, f124⟩ (by first | assumption | decide) (by first | assumption | decide)) 0 (by decide) (by decide) (by decide) (by decide) e0 (g := (mkF m 13 #[rv q, iv u1, iv u2] [(.ref q)])) rfl (by rw [hml]; rfl) (argsL := []) (rest := []) (lenOf own_pd5 rfl) rfl (by show 2 * 0 + _ ≤ _; exact Nat.le_of_eq rfl) (hb hby own_d4_13) ?_
  intro v125 T125 L125 X125 q125
  obtain ⟨b3125, a3125, rfl, N125q, K125, f126, f127, f128⟩ := q125
  have N125 := Fr.app N0 N125q
  show own_Goes p e below s _ _ _ T125 (mkF m 16 #[rv q, iv u1, iv u2] [])
  refine own_by (g' := (mkF m 36 #[rv q, iv (u1 + (1 : Int32)), iv u2] [(.ref q)])) (fun t k => XS.iloadN X125.here hx rfl (hb hby own_d4_16) rfl (XS.iconst X125.here hx rfl (hb hby own_d4_17) (XS.iadd X125.here hx rfl (hb hby own_d4_18) rfl (XS.istoreN X125.here hx rfl (hb hby own_d4_19) rfl (l' := #[rv q, iv (u1 + (1 : Int32)), iv u2]) rfl (XS.goto X125.here hx rfl (pc0 := 20) (pc' := 35) rfl (hb hby own_d4_20) (by decide) (by decide) (XS.aloadN X125.here hx rfl (hb hby own_d4_35) rfl rfl k)))))) ?_
  have f129 := (f101.keep K125)
  refine own_callV X125 hx hZ hown (hw _ (List.mem_of_getElem? (i := 13) rfl)) (hw _ (List.mem_of_getElem? (i := 14) rfl)) (notFace_of_selects (args := #[]) (mvT hZ (hw _ (List.mem_of_getElem? (i := 16) rfl)))) (hw _ (List.mem_of_getElem? (i := 16) rfl)) (hw _ (List.mem_of_getElem? (i := 15) rfl)) (hw _ (List.mem_of_getElem? (i := 17) rfl)) (hw _ (List.mem_of_getElem? (i := 2) rfl)) (by decide) (a := q) f129 (own_em3 l Z a0 hw [] (q) (r) (w) (hd) ((1 : Int32)) (b1) (a1) ((2 : Int32)) (b2) (a2) ((4 : Int32)) (b3125) (a3125) ((8 : Int32)) T125.heap n0 (Nat.le_trans Z0 K125.1) f126) 0 (by decide) (by decide) (by decide) (by decide) rfl (g := (mkF m 36 #[rv q, iv (u1 + (1 : Int32)), iv u2] [(.ref q)])) rfl (by rw [hml]; rfl) (argsL := []) (rest := []) (lenOf own_pd3 rfl) rfl (by show 2 * 0 + _ ≤ _; exact Nat.le_of_eq rfl) (hb hby own_d4_36) ?_
  intro v130 T130 L130 X130 q130
  obtain ⟨rfl, N130q, e130⟩ := q130
  have N130 := Fr.app N125 N130q
  show own_Goes p e below s _ _ _ T130 (mkF m 39 #[rv q, iv (u1 + (1 : Int32)), iv u2] [(.int (0 : Int32))])
  refine own_by (g' := (mkF m 52 #[rv q, iv (u1 + (1 : Int32)), iv u2] [(.int (u1 + (1 : Int32)))])) (fun t k => XS.iloadN X130.here hx rfl (hb hby own_d4_39) rfl (XS.ifYes X130.here hx rfl (pc0 := 40) (pc' := 47) rfl (hb hby own_d4_40) rfl ((if0 _ _).trans (feq hc1).2) (by decide) (by decide) (XS.iconst X130.here hx rfl (hb hby own_d4_47) (XS.icmpNo X130.here hx rfl (hb hby own_d4_48) rfl (teq (by decide : (0 : Int32) = (0 : Int32))).2 (XS.iloadN X130.here hx rfl (hb hby own_d4_51) rfl k))))) ?_
  refine own_retI X130 hx hlk hret (hb hby own_d4_52) (by decide) (by decide) ?_
  rw [e130]
  exact ⟨b3125, a3125, rfl, N130, ((Keep.refl h0 [q, b2]).trans K125 (allS (Or.inl (List.mem_of_getElem? (i := 0) rfl)) (allS (Or.inl (List.mem_of_getElem? (i := 1) rfl)) all0))), f126, (Nat.le_trans (Nat.le_refl _) f127), (Nat.le_trans (Nat.le_refl _) f128)⟩
theorem own_d4_23 : decode method_2_code 23 = .ok (.iload_n 1, 1) := by decide +kernel
theorem own_d4_24 : decode method_2_code 24 = .ok (.ifCond .le 11, 3) := by decide +kernel
theorem own_d4_43 : decode method_2_code 43 = .ok (.iconst 1, 1) := by decide +kernel
theorem own_d4_44 : decode method_2_code 44 = .ok (.goto 4, 3) := by decide +kernel
def Q_own_sR0 (Z : State) (u1 : Int32) (u2 : Int32) (q : Addr) (r : Int32) (w : Int32) (h0 : Heap) (n0 : Nat) (v : Option Value) (h : Heap) (L : List Loc) : Prop := v = some (.int u1) ∧ Fr n0 L ∧ h = h0
theorem own_ef_own_sR0 (m : MethodId) (u1 : Int32) (u2 : Int32) (q : Addr) : entryFrame m #[(.ref q), (.int u1), (.int u2)] 3 = mkF m 0 #[rv q, iv u1, iv u2] [] := by first | (simp [entryFrame, mkF, argsToLocals, Value.category]; done) | rfl
set_option maxRecDepth 65536 in
set_option maxHeartbeats 40000000 in
theorem own_sR0 (l : Launch) (Z : State) (a0 : Array Value) (hw : ∀ d ∈ tables_1, d.before a0 Z = true) (ws : List Jvm.Cond) (u1 : Int32) (u2 : Int32) (q : Addr) (r : Int32) (w : Int32) (h0 : Heap) (n0 : Nat) (Z0 : n0 ≤ h0.size) (B0 : own_Q0 Z h0 (q) (n0) (r) (w)) (hr : own_03 r) (hw3 : own_03 w) (hc0 : ¬ u1 < (0 : Int32)) (hop : (u2 &&& (1 : Int32)) = (0 : Int32)) (hn : ¬ (0 : Int32) < u1) (hz : u1 = (0 : Int32)) :
    own_Ctr l Z (⟨"com/example/limentinus/limentinus/simulator/RecordQueueIsEmptyPinLaw", "step", "(Lcom/example/limentinus/limentinus/simulator/RecordQueue;II)I"⟩ : MethodName) method_2_code 3 (some .int) ws ({ frames := 1, cells := 0, slots := 0, locals := 12 } : Room) (({ frames := 1, cells := 0, slots := 0, locals := 12 } : Room)).cells (({ frames := 1, cells := 0, slots := 0, locals := 12 } : Room)).slots #[(.ref q), (.int u1), (.int u2)] h0 (Q_own_sR0 Z u1 u2 q r w h0 n0) := by
  refine own_enter (plainFor_of_name own_pn2) ?_
  intro p e s m below meth c s₁ X0 hx hZ hby hml hown hnm hlk hret e0
  have N0 := Fr.nil n0
  refine own_cast (own_ef_own_sR0 m u1 u2 q) ?_
  obtain ⟨f101, f102, f103, f104, f105, f106, f107, f108⟩ := B0
  refine own_by (g' := (mkF m 35 #[rv q, iv u1, iv u2] [])) (fun t k => XS.iloadN X0.here hx rfl (hb hby own_d4_0) rfl (XS.ifYes X0.here hx rfl (pc0 := 1) (pc' := 6) rfl (hb hby own_d4_1) rfl ((if0 _ _).trans (flt hc0).2.1) (by decide) (by decide) (XS.iloadN X0.here hx rfl (hb hby own_d4_6) rfl (XS.iconst X0.here hx rfl (hb hby own_d4_7) (XS.iand X0.here hx rfl (hb hby own_d4_8) rfl (XS.ifYes X0.here hx rfl (pc0 := 9) (pc' := 23) rfl (hb hby own_d4_9) rfl ((if0 _ _).trans (teq hop).1) (by decide) (by decide) (XS.iloadN X0.here hx rfl (hb hby own_d4_23) rfl (XS.ifYes X0.here hx rfl (pc0 := 24) (pc' := 35) rfl (hb hby own_d4_24) rfl ((if0 _ _).trans (flt hn).2.2.2) (by decide) (by decide) k)))))))) ?_
  refine own_by (g' := (mkF m 36 #[rv q, iv u1, iv u2] [(.ref q)])) (fun t k => XS.aloadN X0.here hx rfl (hb hby own_d4_35) rfl rfl k) ?_
  refine own_callV X0 hx hZ hown (hw _ (List.mem_of_getElem? (i := 13) rfl)) (hw _ (List.mem_of_getElem? (i := 14) rfl)) (notFace_of_selects (args := #[]) (mvT hZ (hw _ (List.mem_of_getElem? (i := 16) rfl)))) (hw _ (List.mem_of_getElem? (i := 16) rfl)) (hw _ (List.mem_of_getElem? (i := 15) rfl)) (hw _ (List.mem_of_getElem? (i := 17) rfl)) (hw _ (List.mem_of_getElem? (i := 2) rfl)) (by decide) (a := q) f101 (own_em0 l Z a0 hw [] (q) (r) (w) h0 n0 Z0 ⟨f101, f102, f103, f104, f105, f106, f107, f108⟩) 0 (by decide) (by decide) (by decide) (by decide) e0 (g := (mkF m 36 #[rv q, iv u1, iv u2] [(.ref q)])) rfl (by rw [hml]; rfl) (argsL := []) (rest := []) (lenOf own_pd3 rfl) rfl (by show 2 * 0 + _ ≤ _; exact Nat.le_of_eq rfl) (hb hby own_d4_36) ?_
  intro v109 T109 L109 X109 q109
  obtain ⟨rfl, N109q, e109⟩ := q109
  have N109 := Fr.app N0 N109q
  show own_Goes p e below s _ _ _ T109 (mkF m 39 #[rv q, iv u1, iv u2] [(.int (1 : Int32))])
  refine own_by (g' := (mkF m 52 #[rv q, iv u1, iv u2] [(.int u1)])) (fun t k => XS.iloadN X109.here hx rfl (hb hby own_d4_39) rfl (XS.ifNo X109.here hx rfl (hb hby own_d4_40) rfl ((if0 _ _).trans (teq hz).2) (XS.iconst X109.here hx rfl (hb hby own_d4_43) (XS.goto X109.here hx rfl (pc0 := 44) (pc' := 48) rfl (hb hby own_d4_44) (by decide) (by decide) (XS.icmpNo X109.here hx rfl (hb hby own_d4_48) rfl (teq (by decide : (1 : Int32) = (1 : Int32))).2 (XS.iloadN X109.here hx rfl (hb hby own_d4_51) rfl k)))))) ?_
  refine own_retI X109 hx hlk hret (hb hby own_d4_52) (by decide) (by decide) ?_
  exact ⟨rfl, N109, e109⟩
def Q_own_sR1z (Z : State) (u1 : Int32) (u2 : Int32) (q : Addr) (r : Int32) (w : Int32) (hd : Int32) (tl : Int32) (b1 : Addr) (a1 : Addr) (z1 : Int32) (h0 : Heap) (n0 : Nat) (v : Option Value) (h : Heap) (L : List Loc) : Prop := v = some (.int u1) ∧ Fr n0 L ∧ h = h0
theorem own_ef_own_sR1z (m : MethodId) (u1 : Int32) (u2 : Int32) (q : Addr) : entryFrame m #[(.ref q), (.int u1), (.int u2)] 3 = mkF m 0 #[rv q, iv u1, iv u2] [] := by first | (simp [entryFrame, mkF, argsToLocals, Value.category]; done) | rfl
set_option maxRecDepth 65536 in
set_option maxHeartbeats 40000000 in
theorem own_sR1z (l : Launch) (Z : State) (a0 : Array Value) (hw : ∀ d ∈ tables_1, d.before a0 Z = true) (ws : List Jvm.Cond) (u1 : Int32) (u2 : Int32) (q : Addr) (r : Int32) (w : Int32) (hd : Int32) (tl : Int32) (b1 : Addr) (a1 : Addr) (z1 : Int32) (h0 : Heap) (n0 : Nat) (Z0 : n0 ≤ h0.size) (B0 : own_Q1 Z h0 (q) (n0) (r) (w) (hd) (tl) (b1) (a1) (z1)) (hr : own_03 r) (hw3 : own_03 w) (hc0 : ¬ u1 < (0 : Int32)) (hop : (u2 &&& (1 : Int32)) = (0 : Int32)) (hn : ¬ (0 : Int32) < u1) (hz : u1 = (0 : Int32)) (hp : hd = tl) :
    own_Ctr l Z (⟨"com/example/limentinus/limentinus/simulator/RecordQueueIsEmptyPinLaw", "step", "(Lcom/example/limentinus/limentinus/simulator/RecordQueue;II)I"⟩ : MethodName) method_2_code 3 (some .int) ws ({ frames := 1, cells := 0, slots := 0, locals := 12 } : Room) (({ frames := 1, cells := 0, slots := 0, locals := 12 } : Room)).cells (({ frames := 1, cells := 0, slots := 0, locals := 12 } : Room)).slots #[(.ref q), (.int u1), (.int u2)] h0 (Q_own_sR1z Z u1 u2 q r w hd tl b1 a1 z1 h0 n0) := by
  refine own_enter (plainFor_of_name own_pn2) ?_
  intro p e s m below meth c s₁ X0 hx hZ hby hml hown hnm hlk hret e0
  have N0 := Fr.nil n0
  refine own_cast (own_ef_own_sR1z m u1 u2 q) ?_
  obtain ⟨f101, f102, f103, f104, f105, f106, f107, f108, f109, f110, f111, f112, f113, f114, f115⟩ := B0
  refine own_by (g' := (mkF m 35 #[rv q, iv u1, iv u2] [])) (fun t k => XS.iloadN X0.here hx rfl (hb hby own_d4_0) rfl (XS.ifYes X0.here hx rfl (pc0 := 1) (pc' := 6) rfl (hb hby own_d4_1) rfl ((if0 _ _).trans (flt hc0).2.1) (by decide) (by decide) (XS.iloadN X0.here hx rfl (hb hby own_d4_6) rfl (XS.iconst X0.here hx rfl (hb hby own_d4_7) (XS.iand X0.here hx rfl (hb hby own_d4_8) rfl (XS.ifYes X0.here hx rfl (pc0 := 9) (pc' := 23) rfl (hb hby own_d4_9) rfl ((if0 _ _).trans (teq hop).1) (by decide) (by decide) (XS.iloadN X0.here hx rfl (hb hby own_d4_23) rfl (XS.ifYes X0.here hx rfl (pc0 := 24) (pc' := 35) rfl (hb hby own_d4_24) rfl ((if0 _ _).trans (flt hn).2.2.2) (by decide) (by decide) k)))))))) ?_
  refine own_by (g' := (mkF m 36 #[rv q, iv u1, iv u2] [(.ref q)])) (fun t k => XS.aloadN X0.here hx rfl (hb hby own_d4_35) rfl rfl k) ?_
  refine own_callV X0 hx hZ hown (hw _ (List.mem_of_getElem? (i := 13) rfl)) (hw _ (List.mem_of_getElem? (i := 14) rfl)) (notFace_of_selects (args := #[]) (mvT hZ (hw _ (List.mem_of_getElem? (i := 16) rfl)))) (hw _ (List.mem_of_getElem? (i := 16) rfl)) (hw _ (List.mem_of_getElem? (i := 15) rfl)) (hw _ (List.mem_of_getElem? (i := 17) rfl)) (hw _ (List.mem_of_getElem? (i := 2) rfl)) (by decide) (a := q) f101 (own_em1t l Z a0 hw [] (q) (r) (w) (hd) (tl) (b1) (a1) (z1) h0 n0 Z0 ⟨f101, f102, f103, f104, f105, f106, f107, f108, f109, f110, f111, f112, f113, f114, f115⟩ (by first | assumption | decide)) 0 (by decide) (by decide) (by decide) (by decide) e0 (g := (mkF m 36 #[rv q, iv u1, iv u2] [(.ref q)])) rfl (by rw [hml]; rfl) (argsL := []) (rest := []) (lenOf own_pd3 rfl) rfl (by show 2 * 0 + _ ≤ _; exact Nat.le_of_eq rfl) (hb hby own_d4_36) ?_
  intro v116 T116 L116 X116 q116
  obtain ⟨rfl, N116q, e116⟩ := q116
  have N116 := Fr.app N0 N116q
  show own_Goes p e below s _ _ _ T116 (mkF m 39 #[rv q, iv u1, iv u2] [(.int (1 : Int32))])
  refine own_by (g' := (mkF m 52 #[rv q, iv u1, iv u2] [(.int u1)])) (fun t k => XS.iloadN X116.here hx rfl (hb hby own_d4_39) rfl (XS.ifNo X116.here hx rfl (hb hby own_d4_40) rfl ((if0 _ _).trans (teq hz).2) (XS.iconst X116.here hx rfl (hb hby own_d4_43) (XS.goto X116.here hx rfl (pc0 := 44) (pc' := 48) rfl (hb hby own_d4_44) (by decide) (by decide) (XS.icmpNo X116.here hx rfl (hb hby own_d4_48) rfl (teq (by decide : (1 : Int32) = (1 : Int32))).2 (XS.iloadN X116.here hx rfl (hb hby own_d4_51) rfl k)))))) ?_
  refine own_retI X116 hx hlk hret (hb hby own_d4_52) (by decide) (by decide) ?_
  exact ⟨rfl, N116, e116⟩
theorem own_d4_27 : decode method_2_code 27 = .ok (.aload_n 0, 1) := by decide +kernel
theorem own_d4_28 : decode method_2_code 28 = .ok (.invokevirtual 12, 3) := by decide +kernel
theorem own_d4_31 : decode method_2_code 31 = .ok (.iload_n 1, 1) := by decide +kernel
theorem own_d4_32 : decode method_2_code 32 = .ok (.iconst 1, 1) := by decide +kernel
theorem own_d4_33 : decode method_2_code 33 = .ok (.isub, 1) := by decide +kernel
theorem own_d4_34 : decode method_2_code 34 = .ok (.istore_n 1, 1) := by decide +kernel
def Q_own_sR1e (Z : State) (u1 : Int32) (u2 : Int32) (q : Addr) (r : Int32) (w : Int32) (hd : Int32) (tl : Int32) (b1 : Addr) (a1 : Addr) (z1 : Int32) (h0 : Heap) (n0 : Nat) (v : Option Value) (h : Heap) (L : List Loc) : Prop := v = some (.int (u1 - (1 : Int32))) ∧ Fr n0 L ∧ Keep h0 h [q, a1] ∧ own_Q1 Z h (q) (n0) (r) (w) ((0 : Int32)) ((0 : Int32)) (b1) (a1) (z1)
theorem own_ef_own_sR1e (m : MethodId) (u1 : Int32) (u2 : Int32) (q : Addr) : entryFrame m #[(.ref q), (.int u1), (.int u2)] 3 = mkF m 0 #[rv q, iv u1, iv u2] [] := by first | (simp [entryFrame, mkF, argsToLocals, Value.category]; done) | rfl
set_option maxRecDepth 65536 in
set_option maxHeartbeats 40000000 in
theorem own_sR1e (l : Launch) (Z : State) (a0 : Array Value) (hw : ∀ d ∈ tables_1, d.before a0 Z = true) (ws : List Jvm.Cond) (u1 : Int32) (u2 : Int32) (q : Addr) (r : Int32) (w : Int32) (hd : Int32) (tl : Int32) (b1 : Addr) (a1 : Addr) (z1 : Int32) (h0 : Heap) (n0 : Nat) (Z0 : n0 ≤ h0.size) (B0 : own_Q1 Z h0 (q) (n0) (r) (w) (hd) (tl) (b1) (a1) (z1)) (hr : own_03 r) (hw3 : own_03 w) (hc0 : ¬ u1 < (0 : Int32)) (hop : (u2 &&& (1 : Int32)) = (0 : Int32)) (h0p : 0 ≤ hd.toInt) (h1p : hd.toInt < z1.toInt) (h2p : z1.toInt ≤ 8) (hn : (0 : Int32) < u1) (hpe : ¬ hd = tl) (hq : (hd + (1 : Int32)) = tl) (hz : (u1 - (1 : Int32)) = (0 : Int32)) :
    own_Ctr l Z (⟨"com/example/limentinus/limentinus/simulator/RecordQueueIsEmptyPinLaw", "step", "(Lcom/example/limentinus/limentinus/simulator/RecordQueue;II)I"⟩ : MethodName) method_2_code 3 (some .int) ws ({ frames := 3, cells := 0, slots := 0, locals := 40 } : Room) (({ frames := 3, cells := 0, slots := 0, locals := 40 } : Room)).cells (({ frames := 3, cells := 0, slots := 0, locals := 40 } : Room)).slots #[(.ref q), (.int u1), (.int u2)] h0 (Q_own_sR1e Z u1 u2 q r w hd tl b1 a1 z1 h0 n0) := by
  refine own_enter (plainFor_of_name own_pn2) ?_
  intro p e s m below meth c s₁ X0 hx hZ hby hml hown hnm hlk hret e0
  have N0 := Fr.nil n0
  refine own_cast (own_ef_own_sR1e m u1 u2 q) ?_
  obtain ⟨f101, f102, f103, f104, f105, f106, f107, f108, f109, f110, f111, f112, f113, f114, f115⟩ := B0
  refine own_by (g' := (mkF m 27 #[rv q, iv u1, iv u2] [])) (fun t k => XS.iloadN X0.here hx rfl (hb hby own_d4_0) rfl (XS.ifYes X0.here hx rfl (pc0 := 1) (pc' := 6) rfl (hb hby own_d4_1) rfl ((if0 _ _).trans (flt hc0).2.1) (by decide) (by decide) (XS.iloadN X0.here hx rfl (hb hby own_d4_6) rfl (XS.iconst X0.here hx rfl (hb hby own_d4_7) (XS.iand X0.here hx rfl (hb hby own_d4_8) rfl (XS.ifYes X0.here hx rfl (pc0 := 9) (pc' := 23) rfl (hb hby own_d4_9) rfl ((if0 _ _).trans (teq hop).1) (by decide) (by decide) (XS.iloadN X0.here hx rfl (hb hby own_d4_23) rfl (XS.ifNo X0.here hx rfl (hb hby own_d4_24) rfl ((if0 _ _).trans (tlt hn).2.2.2) k)))))))) ?_
  refine own_by (g' := (mkF m 28 #[rv q, iv u1, iv u2] [(.ref q)])) (fun t k => XS.aloadN X0.here hx rfl (hb hby own_d4_27) rfl rfl k) ?_
  refine own_callV X0 hx hZ hown (hw _ (List.mem_of_getElem? (i := 55) rfl)) (hw _ (List.mem_of_getElem? (i := 56) rfl)) (notFace_of_selects (args := #[]) (mvT hZ (hw _ (List.mem_of_getElem? (i := 58) rfl)))) (hw _ (List.mem_of_getElem? (i := 58) rfl)) (hw _ (List.mem_of_getElem? (i := 57) rfl)) (hw _ (List.mem_of_getElem? (i := 59) rfl)) (hw _ (List.mem_of_getElem? (i := 2) rfl)) (by decide) (a := q) f101 (own_rem1e l Z a0 hw [] (q) (r) (w) (hd) (tl) (b1) (a1) (z1) h0 n0 Z0 ⟨f101, f102, f103, f104, f105, f106, f107, f108, f109, f110, f111, f112, f113, f114, f115⟩ (by first | assumption | decide) (by first | assumption | decide) (by first | assumption | decide) (by first | assumption | decide) (by first | assumption | decide) (by first | assumption | decide)) 0 (by decide) (by decide) (by decide) (by decide) e0 (g := (mkF m 28 #[rv q, iv u1, iv u2] [(.ref q)])) rfl (by rw [hml]; rfl) (argsL := []) (rest := []) (lenOf own_pd5 rfl) rfl (by show 2 * 0 + _ ≤ _; exact Nat.le_of_eq rfl) (hb hby own_d4_28) ?_
  intro v116 T116 L116 X116 q116
  obtain ⟨rfl, N116q, K116, f117⟩ := q116
  have N116 := Fr.app N0 N116q
  show own_Goes p e below s _ _ _ T116 (mkF m 31 #[rv q, iv u1, iv u2] [])
  refine own_by (g' := (mkF m 36 #[rv q, iv (u1 - (1 : Int32)), iv u2] [(.ref q)])) (fun t k => XS.iloadN X116.here hx rfl (hb hby own_d4_31) rfl (XS.iconst X116.here hx rfl (hb hby own_d4_32) (XS.isub X116.here hx rfl (hb hby own_d4_33) rfl (XS.istoreN X116.here hx rfl (hb hby own_d4_34) rfl (l' := #[rv q, iv (u1 - (1 : Int32)), iv u2]) rfl (XS.aloadN X116.here hx rfl (hb hby own_d4_35) rfl rfl k))))) ?_
  have f118 := (f101.keep K116)
  refine own_callV X116 hx hZ hown (hw _ (List.mem_of_getElem? (i := 13) rfl)) (hw _ (List.mem_of_getElem? (i := 14) rfl)) (notFace_of_selects (args := #[]) (mvT hZ (hw _ (List.mem_of_getElem? (i := 16) rfl)))) (hw _ (List.mem_of_getElem? (i := 16) rfl)) (hw _ (List.mem_of_getElem? (i := 15) rfl)) (hw _ (List.mem_of_getElem? (i := 17) rfl)) (hw _ (List.mem_of_getElem? (i := 2) rfl)) (by decide) (a := q) f118 (own_em1t l Z a0 hw [] (q) (r) (w) ((0 : Int32)) ((0 : Int32)) (b1) (a1) (z1) T116.heap n0 (Nat.le_trans Z0 K116.1) f117 (by first | assumption | decide)) 0 (by decide) (by decide) (by decide) (by decide) rfl (g := (mkF m 36 #[rv q, iv (u1 - (1 : Int32)), iv u2] [(.ref q)])) rfl (by rw [hml]; rfl) (argsL := []) (rest := []) (lenOf own_pd3 rfl) rfl (by show 2 * 0 + _ ≤ _; exact Nat.le_of_eq rfl) (hb hby own_d4_36) ?_
  intro v119 T119 L119 X119 q119
  obtain ⟨rfl, N119q, e119⟩ := q119
  have N119 := Fr.app N116 N119q
  show own_Goes p e below s _ _ _ T119 (mkF m 39 #[rv q, iv (u1 - (1 : Int32)), iv u2] [(.int (1 : Int32))])
  refine own_by (g' := (mkF m 52 #[rv q, iv (u1 - (1 : Int32)), iv u2] [(.int (u1 - (1 : Int32)))])) (fun t k => XS.iloadN X119.here hx rfl (hb hby own_d4_39) rfl (XS.ifNo X119.here hx rfl (hb hby own_d4_40) rfl ((if0 _ _).trans (teq hz).2) (XS.iconst X119.here hx rfl (hb hby own_d4_43) (XS.goto X119.here hx rfl (pc0 := 44) (pc' := 48) rfl (hb hby own_d4_44) (by decide) (by decide) (XS.icmpNo X119.here hx rfl (hb hby own_d4_48) rfl (teq (by decide : (1 : Int32) = (1 : Int32))).2 (XS.iloadN X119.here hx rfl (hb hby own_d4_51) rfl k)))))) ?_
  refine own_retI X119 hx hlk hret (hb hby own_d4_52) (by decide) (by decide) ?_
  rw [e119]
  exact ⟨rfl, N119, ((Keep.refl h0 [q, a1]).trans K116 (allS (Or.inl (List.mem_of_getElem? (i := 0) rfl)) (allS (Or.inl (List.mem_of_getElem? (i := 1) rfl)) all0))), f117⟩
def Q_own_sR1n (Z : State) (u1 : Int32) (u2 : Int32) (q : Addr) (r : Int32) (w : Int32) (hd : Int32) (tl : Int32) (b1 : Addr) (a1 : Addr) (z1 : Int32) (h0 : Heap) (n0 : Nat) (v : Option Value) (h : Heap) (L : List Loc) : Prop := v = some (.int (u1 - (1 : Int32))) ∧ Fr n0 L ∧ Keep h0 h [q, a1] ∧ own_Q1 Z h (q) (n0) (r) (w) ((hd + (1 : Int32))) (tl) (b1) (a1) (z1)
theorem own_ef_own_sR1n (m : MethodId) (u1 : Int32) (u2 : Int32) (q : Addr) : entryFrame m #[(.ref q), (.int u1), (.int u2)] 3 = mkF m 0 #[rv q, iv u1, iv u2] [] := by first | (simp [entryFrame, mkF, argsToLocals, Value.category]; done) | rfl
set_option maxRecDepth 65536 in
set_option maxHeartbeats 40000000 in
theorem own_sR1n (l : Launch) (Z : State) (a0 : Array Value) (hw : ∀ d ∈ tables_1, d.before a0 Z = true) (ws : List Jvm.Cond) (u1 : Int32) (u2 : Int32) (q : Addr) (r : Int32) (w : Int32) (hd : Int32) (tl : Int32) (b1 : Addr) (a1 : Addr) (z1 : Int32) (h0 : Heap) (n0 : Nat) (Z0 : n0 ≤ h0.size) (B0 : own_Q1 Z h0 (q) (n0) (r) (w) (hd) (tl) (b1) (a1) (z1)) (hr : own_03 r) (hw3 : own_03 w) (hc0 : ¬ u1 < (0 : Int32)) (hop : (u2 &&& (1 : Int32)) = (0 : Int32)) (h0p : 0 ≤ hd.toInt) (h1p : hd.toInt < z1.toInt) (h2p : z1.toInt ≤ 8) (hn : (0 : Int32) < u1) (hz : ¬ (u1 - (1 : Int32)) = (0 : Int32)) (hpe : ¬ hd = tl) (hq : ¬ (hd + (1 : Int32)) = tl) (hq2 : ¬ (hd + (1 : Int32)) = z1) :
    own_Ctr l Z (⟨"com/example/limentinus/limentinus/simulator/RecordQueueIsEmptyPinLaw", "step", "(Lcom/example/limentinus/limentinus/simulator/RecordQueue;II)I"⟩ : MethodName) method_2_code 3 (some .int) ws ({ frames := 3, cells := 0, slots := 0, locals := 40 } : Room) (({ frames := 3, cells := 0, slots := 0, locals := 40 } : Room)).cells (({ frames := 3, cells := 0, slots := 0, locals := 40 } : Room)).slots #[(.ref q), (.int u1), (.int u2)] h0 (Q_own_sR1n Z u1 u2 q r w hd tl b1 a1 z1 h0 n0) := by
  refine own_enter (plainFor_of_name own_pn2) ?_
  intro p e s m below meth c s₁ X0 hx hZ hby hml hown hnm hlk hret e0
  have N0 := Fr.nil n0
  refine own_cast (own_ef_own_sR1n m u1 u2 q) ?_
  obtain ⟨f101, f102, f103, f104, f105, f106, f107, f108, f109, f110, f111, f112, f113, f114, f115⟩ := B0
  refine own_by (g' := (mkF m 27 #[rv q, iv u1, iv u2] [])) (fun t k => XS.iloadN X0.here hx rfl (hb hby own_d4_0) rfl (XS.ifYes X0.here hx rfl (pc0 := 1) (pc' := 6) rfl (hb hby own_d4_1) rfl ((if0 _ _).trans (flt hc0).2.1) (by decide) (by decide) (XS.iloadN X0.here hx rfl (hb hby own_d4_6) rfl (XS.iconst X0.here hx rfl (hb hby own_d4_7) (XS.iand X0.here hx rfl (hb hby own_d4_8) rfl (XS.ifYes X0.here hx rfl (pc0 := 9) (pc' := 23) rfl (hb hby own_d4_9) rfl ((if0 _ _).trans (teq hop).1) (by decide) (by decide) (XS.iloadN X0.here hx rfl (hb hby own_d4_23) rfl (XS.ifNo X0.here hx rfl (hb hby own_d4_24) rfl ((if0 _ _).trans (tlt hn).2.2.2) k)))))))) ?_
  refine own_by (g' := (mkF m 28 #[rv q, iv u1, iv u2] [(.ref q)])) (fun t k => XS.aloadN X0.here hx rfl (hb hby own_d4_27) rfl rfl k) ?_
  refine own_callV X0 hx hZ hown (hw _ (List.mem_of_getElem? (i := 55) rfl)) (hw _ (List.mem_of_getElem? (i := 56) rfl)) (notFace_of_selects (args := #[]) (mvT hZ (hw _ (List.mem_of_getElem? (i := 58) rfl)))) (hw _ (List.mem_of_getElem? (i := 58) rfl)) (hw _ (List.mem_of_getElem? (i := 57) rfl)) (hw _ (List.mem_of_getElem? (i := 59) rfl)) (hw _ (List.mem_of_getElem? (i := 2) rfl)) (by decide) (a := q) f101 (own_rem1n l Z a0 hw [] (q) (r) (w) (hd) (tl) (b1) (a1) (z1) h0 n0 Z0 ⟨f101, f102, f103, f104, f105, f106, f107, f108, f109, f110, f111, f112, f113, f114, f115⟩ (by first | assumption | decide) (by first | assumption | decide) (by first | assumption | decide) (by first | assumption | decide) (by first | assumption | decide) (by first | assumption | decide) (by first | assumption | decide)) 0 (by decide) (by decide) (by decide) (by decide) e0 (g := (mkF m 28 #[rv q, iv u1, iv u2] [(.ref q)])) rfl (by rw [hml]; rfl) (argsL := []) (rest := []) (lenOf own_pd5 rfl) rfl (by show 2 * 0 + _ ≤ _; exact Nat.le_of_eq rfl) (hb hby own_d4_28) ?_
  intro v116 T116 L116 X116 q116
  obtain ⟨rfl, N116q, K116, f117⟩ := q116
  have N116 := Fr.app N0 N116q
  show own_Goes p e below s _ _ _ T116 (mkF m 31 #[rv q, iv u1, iv u2] [])
  refine own_by (g' := (mkF m 36 #[rv q, iv (u1 - (1 : Int32)), iv u2] [(.ref q)])) (fun t k => XS.iloadN X116.here hx rfl (hb hby own_d4_31) rfl (XS.iconst X116.here hx rfl (hb hby own_d4_32) (XS.isub X116.here hx rfl (hb hby own_d4_33) rfl (XS.istoreN X116.here hx rfl (hb hby own_d4_34) rfl (l' := #[rv q, iv (u1 - (1 : Int32)), iv u2]) rfl (XS.aloadN X116.here hx rfl (hb hby own_d4_35) rfl rfl k))))) ?_
  have f118 := (f101.keep K116)
  refine own_callV X116 hx hZ hown (hw _ (List.mem_of_getElem? (i := 13) rfl)) (hw _ (List.mem_of_getElem? (i := 14) rfl)) (notFace_of_selects (args := #[]) (mvT hZ (hw _ (List.mem_of_getElem? (i := 16) rfl)))) (hw _ (List.mem_of_getElem? (i := 16) rfl)) (hw _ (List.mem_of_getElem? (i := 15) rfl)) (hw _ (List.mem_of_getElem? (i := 17) rfl)) (hw _ (List.mem_of_getElem? (i := 2) rfl)) (by decide) (a := q) f118 (own_em1f l Z a0 hw [] (q) (r) (w) ((hd + (1 : Int32))) (tl) (b1) (a1) (z1) T116.heap n0 (Nat.le_trans Z0 K116.1) f117 (by first | assumption | decide)) 0 (by decide) (by decide) (by decide) (by decide) rfl (g := (mkF m 36 #[rv q, iv (u1 - (1 : Int32)), iv u2] [(.ref q)])) rfl (by rw [hml]; rfl) (argsL := []) (rest := []) (lenOf own_pd3 rfl) rfl (by show 2 * 0 + _ ≤ _; exact Nat.le_of_eq rfl) (hb hby own_d4_36) ?_
  intro v119 T119 L119 X119 q119
  obtain ⟨rfl, N119q, e119⟩ := q119
  have N119 := Fr.app N116 N119q
  show own_Goes p e below s _ _ _ T119 (mkF m 39 #[rv q, iv (u1 - (1 : Int32)), iv u2] [(.int (0 : Int32))])
  refine own_by (g' := (mkF m 52 #[rv q, iv (u1 - (1 : Int32)), iv u2] [(.int (u1 - (1 : Int32)))])) (fun t k => XS.iloadN X119.here hx rfl (hb hby own_d4_39) rfl (XS.ifYes X119.here hx rfl (pc0 := 40) (pc' := 47) rfl (hb hby own_d4_40) rfl ((if0 _ _).trans (feq hz).2) (by decide) (by decide) (XS.iconst X119.here hx rfl (hb hby own_d4_47) (XS.icmpNo X119.here hx rfl (hb hby own_d4_48) rfl (teq (by decide : (0 : Int32) = (0 : Int32))).2 (XS.iloadN X119.here hx rfl (hb hby own_d4_51) rfl k))))) ?_
  refine own_retI X119 hx hlk hret (hb hby own_d4_52) (by decide) (by decide) ?_
  rw [e119]
  exact ⟨rfl, N119, ((Keep.refl h0 [q, a1]).trans K116 (allS (Or.inl (List.mem_of_getElem? (i := 0) rfl)) (allS (Or.inl (List.mem_of_getElem? (i := 1) rfl)) all0))), f117⟩
def Q_own_sR2n (Z : State) (u1 : Int32) (u2 : Int32) (q : Addr) (r : Int32) (w : Int32) (hd : Int32) (tl : Int32) (b1 : Addr) (a1 : Addr) (z1 : Int32) (b2 : Addr) (a2 : Addr) (z2 : Int32) (h0 : Heap) (n0 : Nat) (v : Option Value) (h : Heap) (L : List Loc) : Prop := v = some (.int (u1 - (1 : Int32))) ∧ Fr n0 L ∧ Keep h0 h [q, a1] ∧ own_Q2 Z h (q) (n0) (r) (w) ((hd + (1 : Int32))) (tl) (b1) (a1) (z1) (b2) (a2) (z2)
theorem own_ef_own_sR2n (m : MethodId) (u1 : Int32) (u2 : Int32) (q : Addr) : entryFrame m #[(.ref q), (.int u1), (.int u2)] 3 = mkF m 0 #[rv q, iv u1, iv u2] [] := by first | (simp [entryFrame, mkF, argsToLocals, Value.category]; done) | rfl
set_option maxRecDepth 65536 in
set_option maxHeartbeats 40000000 in
theorem own_sR2n (l : Launch) (Z : State) (a0 : Array Value) (hw : ∀ d ∈ tables_1, d.before a0 Z = true) (ws : List Jvm.Cond) (u1 : Int32) (u2 : Int32) (q : Addr) (r : Int32) (w : Int32) (hd : Int32) (tl : Int32) (b1 : Addr) (a1 : Addr) (z1 : Int32) (b2 : Addr) (a2 : Addr) (z2 : Int32) (h0 : Heap) (n0 : Nat) (Z0 : n0 ≤ h0.size) (B0 : own_Q2 Z h0 (q) (n0) (r) (w) (hd) (tl) (b1) (a1) (z1) (b2) (a2) (z2)) (hr : own_03 r) (hw3 : own_03 w) (hc0 : ¬ u1 < (0 : Int32)) (hop : (u2 &&& (1 : Int32)) = (0 : Int32)) (h0p : 0 ≤ hd.toInt) (h1p : hd.toInt < z1.toInt) (h2p : z1.toInt ≤ 8) (hn : (0 : Int32) < u1) (hz : ¬ (u1 - (1 : Int32)) = (0 : Int32)) (hq2 : ¬ (hd + (1 : Int32)) = z1) :
    own_Ctr l Z (⟨"com/example/limentinus/limentinus/simulator/RecordQueueIsEmptyPinLaw", "step", "(Lcom/example/limentinus/limentinus/simulator/RecordQueue;II)I"⟩ : MethodName) method_2_code 3 (some .int) ws ({ frames := 3, cells := 0, slots := 0, locals := 40 } : Room) (({ frames := 3, cells := 0, slots := 0, locals := 40 } : Room)).cells (({ frames := 3, cells := 0, slots := 0, locals := 40 } : Room)).slots #[(.ref q), (.int u1), (.int u2)] h0 (Q_own_sR2n Z u1 u2 q r w hd tl b1 a1 z1 b2 a2 z2 h0 n0) := by
  refine own_enter (plainFor_of_name own_pn2) ?_
  intro p e s m below meth c s₁ X0 hx hZ hby hml hown hnm hlk hret e0
  have N0 := Fr.nil n0
  refine own_cast (own_ef_own_sR2n m u1 u2 q) ?_
  obtain ⟨f101, f102, f103, f104, f105, f106, f107, f108, f109, f110, f111, f112, f113, f114, f115, f116, f117, f118, f119, f120, f121, f122, f123, f124⟩ := B0
  refine own_by (g' := (mkF m 27 #[rv q, iv u1, iv u2] [])) (fun t k => XS.iloadN X0.here hx rfl (hb hby own_d4_0) rfl (XS.ifYes X0.here hx rfl (pc0 := 1) (pc' := 6) rfl (hb hby own_d4_1) rfl ((if0 _ _).trans (flt hc0).2.1) (by decide) (by decide) (XS.iloadN X0.here hx rfl (hb hby own_d4_6) rfl (XS.iconst X0.here hx rfl (hb hby own_d4_7) (XS.iand X0.here hx rfl (hb hby own_d4_8) rfl (XS.ifYes X0.here hx rfl (pc0 := 9) (pc' := 23) rfl (hb hby own_d4_9) rfl ((if0 _ _).trans (teq hop).1) (by decide) (by decide) (XS.iloadN X0.here hx rfl (hb hby own_d4_23) rfl (XS.ifNo X0.here hx rfl (hb hby own_d4_24) rfl ((if0 _ _).trans (tlt hn).2.2.2) k)))))))) ?_
  refine own_by (g' := (mkF m 28 #[rv q, iv u1, iv u2] [(.ref q)])) (fun t k => XS.aloadN X0.here hx rfl (hb hby own_d4_27) rfl rfl k) ?_
  refine own_callV X0 hx hZ hown (hw _ (List.mem_of_getElem? (i := 55) rfl)) (hw _ (List.mem_of_getElem? (i := 56) rfl)) (notFace_of_selects (args := #[]) (mvT hZ (hw _ (List.mem_of_getElem? (i := 58) rfl)))) (hw _ (List.mem_of_getElem? (i := 58) rfl)) (hw _ (List.mem_of_getElem? (i := 57) rfl)) (hw _ (List.mem_of_getElem? (i := 59) rfl)) (hw _ (List.mem_of_getElem? (i := 2) rfl)) (by decide) (a := q) f101 (own_rem2n l Z a0 hw [] (q) (r) (w) (hd) (tl) (b1) (a1) (z1) (b2) (a2) (z2) h0 n0 Z0 ⟨f101, f102, f103, f104, f105, f106, f107, f108, f109, f110, f111, f112, f113, f114, f115, f116, f117, f118, f119, f120, f121, f122, f123, f124⟩ (by first | assumption | decide) (by first | assumption | decide) (by first | assumption | decide) (by first | assumption | decide) (by first | assumption | decide)) 0 (by decide) (by decide) (by decide) (by decide) e0 (g := (mkF m 28 #[rv q, iv u1, iv u2] [(.ref q)])) rfl (by rw [hml]; rfl) (argsL := []) (rest := []) (lenOf own_pd5 rfl) rfl (by show 2 * 0 + _ ≤ _; exact Nat.le_of_eq rfl) (hb hby own_d4_28) ?_
  intro v125 T125 L125 X125 q125
  obtain ⟨rfl, N125q, K125, f126⟩ := q125
  have N125 := Fr.app N0 N125q
  show own_Goes p e below s _ _ _ T125 (mkF m 31 #[rv q, iv u1, iv u2] [])
  refine own_by (g' := (mkF m 36 #[rv q, iv (u1 - (1 : Int32)), iv u2] [(.ref q)])) (fun t k => XS.iloadN X125.here hx rfl (hb hby own_d4_31) rfl (XS.iconst X125.here hx rfl (hb hby own_d4_32) (XS.isub X125.here hx rfl (hb hby own_d4_33) rfl (XS.istoreN X125.here hx rfl (hb hby own_d4_34) rfl (l' := #[rv q, iv (u1 - (1 : Int32)), iv u2]) rfl (XS.aloadN X125.here hx rfl (hb hby own_d4_35) rfl rfl k))))) ?_
  have f127 := (f101.keep K125)
  refine own_callV X125 hx hZ hown (hw _ (List.mem_of_getElem? (i := 13) rfl)) (hw _ (List.mem_of_getElem? (i := 14) rfl)) (notFace_of_selects (args := #[]) (mvT hZ (hw _ (List.mem_of_getElem? (i := 16) rfl)))) (hw _ (List.mem_of_getElem? (i := 16) rfl)) (hw _ (List.mem_of_getElem? (i := 15) rfl)) (hw _ (List.mem_of_getElem? (i := 17) rfl)) (hw _ (List.mem_of_getElem? (i := 2) rfl)) (by decide) (a := q) f127 (own_em2 l Z a0 hw [] (q) (r) (w) ((hd + (1 : Int32))) (tl) (b1) (a1) (z1) (b2) (a2) (z2) T125.heap n0 (Nat.le_trans Z0 K125.1) f126) 0 (by decide) (by decide) (by decide) (by decide) rfl (g := (mkF m 36 #[rv q, iv (u1 - (1 : Int32)), iv u2] [(.ref q)])) rfl (by rw [hml]; rfl) (argsL := []) (rest := []) (lenOf own_pd3 rfl) rfl (by show 2 * 0 + _ ≤ _; exact Nat.le_of_eq rfl) (hb hby own_d4_36) ?_
  intro v128 T128 L128 X128 q128
  obtain ⟨rfl, N128q, e128⟩ := q128
  have N128 := Fr.app N125 N128q
  show own_Goes p e below s _ _ _ T128 (mkF m 39 #[rv q, iv (u1 - (1 : Int32)), iv u2] [(.int (0 : Int32))])
  refine own_by (g' := (mkF m 52 #[rv q, iv (u1 - (1 : Int32)), iv u2] [(.int (u1 - (1 : Int32)))])) (fun t k => XS.iloadN X128.here hx rfl (hb hby own_d4_39) rfl (XS.ifYes X128.here hx rfl (pc0 := 40) (pc' := 47) rfl (hb hby own_d4_40) rfl ((if0 _ _).trans (feq hz).2) (by decide) (by decide) (XS.iconst X128.here hx rfl (hb hby own_d4_47) (XS.icmpNo X128.here hx rfl (hb hby own_d4_48) rfl (teq (by decide : (0 : Int32) = (0 : Int32))).2 (XS.iloadN X128.here hx rfl (hb hby own_d4_51) rfl k))))) ?_
  refine own_retI X128 hx hlk hret (hb hby own_d4_52) (by decide) (by decide) ?_
  rw [e128]
  exact ⟨rfl, N128, ((Keep.refl h0 [q, a1]).trans K125 (allS (Or.inl (List.mem_of_getElem? (i := 0) rfl)) (allS (Or.inl (List.mem_of_getElem? (i := 1) rfl)) all0))), f126⟩
def Q_own_sR2a (Z : State) (u1 : Int32) (u2 : Int32) (q : Addr) (r : Int32) (w : Int32) (hd : Int32) (tl : Int32) (b1 : Addr) (a1 : Addr) (z1 : Int32) (b2 : Addr) (a2 : Addr) (z2 : Int32) (h0 : Heap) (n0 : Nat) (v : Option Value) (h : Heap) (L : List Loc) : Prop := v = some (.int (u1 - (1 : Int32))) ∧ Fr n0 L ∧ Keep h0 h [q, a1] ∧ own_Q1 Z h (q) (n0) (r) (w) ((0 : Int32)) (tl) (b2) (a2) (z2)
theorem own_ef_own_sR2a (m : MethodId) (u1 : Int32) (u2 : Int32) (q : Addr) : entryFrame m #[(.ref q), (.int u1), (.int u2)] 3 = mkF m 0 #[rv q, iv u1, iv u2] [] := by first | (simp [entryFrame, mkF, argsToLocals, Value.category]; done) | rfl
set_option maxRecDepth 65536 in
set_option maxHeartbeats 40000000 in
theorem own_sR2a (l : Launch) (Z : State) (a0 : Array Value) (hw : ∀ d ∈ tables_1, d.before a0 Z = true) (ws : List Jvm.Cond) (u1 : Int32) (u2 : Int32) (q : Addr) (r : Int32) (w : Int32) (hd : Int32) (tl : Int32) (b1 : Addr) (a1 : Addr) (z1 : Int32) (b2 : Addr) (a2 : Addr) (z2 : Int32) (h0 : Heap) (n0 : Nat) (Z0 : n0 ≤ h0.size) (B0 : own_Q2 Z h0 (q) (n0) (r) (w) (hd) (tl) (b1) (a1) (z1) (b2) (a2) (z2)) (hr : own_03 r) (hw3 : own_03 w) (hc0 : ¬ u1 < (0 : Int32)) (hop : (u2 &&& (1 : Int32)) = (0 : Int32)) (h0p : 0 ≤ hd.toInt) (h1p : hd.toInt < z1.toInt) (h2p : z1.toInt ≤ 8) (hn : (0 : Int32) < u1) (hz : ¬ (u1 - (1 : Int32)) = (0 : Int32)) (hq2 : (hd + (1 : Int32)) = z1) (hlt : ¬ (0 : Int32) = tl) :
    own_Ctr l Z (⟨"com/example/limentinus/limentinus/simulator/RecordQueueIsEmptyPinLaw", "step", "(Lcom/example/limentinus/limentinus/simulator/RecordQueue;II)I"⟩ : MethodName) method_2_code 3 (some .int) ws ({ frames := 3, cells := 0, slots := 0, locals := 40 } : Room) (({ frames := 3, cells := 0, slots := 0, locals := 40 } : Room)).cells (({ frames := 3, cells := 0, slots := 0, locals := 40 } : Room)).slots #[(.ref q), (.int u1), (.int u2)] h0 (Q_own_sR2a Z u1 u2 q r w hd tl b1 a1 z1 b2 a2 z2 h0 n0) := by
  refine own_enter (plainFor_of_name own_pn2) ?_
  intro p e s m below meth c s₁ X0 hx hZ hby hml hown hnm hlk hret e0
  have N0 := Fr.nil n0
  refine own_cast (own_ef_own_sR2a m u1 u2 q) ?_
  obtain ⟨f101, f102, f103, f104, f105, f106, f107, f108, f109, f110, f111, f112, f113, f114, f115, f116, f117, f118, f119, f120, f121, f122, f123, f124⟩ := B0
  refine own_by (g' := (mkF m 27 #[rv q, iv u1, iv u2] [])) (fun t k => XS.iloadN X0.here hx rfl (hb hby own_d4_0) rfl (XS.ifYes X0.here hx rfl (pc0 := 1) (pc' := 6) rfl (hb hby own_d4_1) rfl ((if0 _ _).trans (flt hc0).2.1) (by decide) (by decide) (XS.iloadN X0.here hx rfl (hb hby own_d4_6) rfl (XS.iconst X0.here hx rfl (hb hby own_d4_7) (XS.iand X0.here hx rfl (hb hby own_d4_8) rfl (XS.ifYes X0.here hx rfl (pc0 := 9) (pc' := 23) rfl (hb hby own_d4_9) rfl ((if0 _ _).trans (teq hop).1) (by decide) (by decide) (XS.iloadN X0.here hx rfl (hb hby own_d4_23) rfl (XS.ifNo X0.here hx rfl (hb hby own_d4_24) rfl ((if0 _ _).trans (tlt hn).2.2.2) k)))))))) ?_
  refine own_by (g' := (mkF m 28 #[rv q, iv u1, iv u2] [(.ref q)])) (fun t k => XS.aloadN X0.here hx rfl (hb hby own_d4_27) rfl rfl k) ?_
  refine own_callV X0 hx hZ hown (hw _ (List.mem_of_getElem? (i := 55) rfl)) (hw _ (List.mem_of_getElem? (i := 56) rfl)) (notFace_of_selects (args := #[]) (mvT hZ (hw _ (List.mem_of_getElem? (i := 58) rfl)))) (hw _ (List.mem_of_getElem? (i := 58) rfl)) (hw _ (List.mem_of_getElem? (i := 57) rfl)) (hw _ (List.mem_of_getElem? (i := 59) rfl)) (hw _ (List.mem_of_getElem? (i := 2) rfl)) (by decide) (a := q) f101 (own_rem2a l Z a0 hw [] (q) (r) (w) (hd) (tl) (b1) (a1) (z1) (b2) (a2) (z2) h0 n0 Z0 ⟨f101, f102, f103, f104, f105, f106, f107, f108, f109, f110, f111, f112, f113, f114, f115, f116, f117, f118, f119, f120, f121, f122, f123, f124⟩ (by first | assumption | decide) (by first | assumption | decide) (by first | assumption | decide) (by first | assumption | decide) (by first | assumption | decide)) 0 (by decide) (by decide) (by decide) (by decide) e0 (g := (mkF m 28 #[rv q, iv u1, iv u2] [(.ref q)])) rfl (by rw [hml]; rfl) (argsL := []) (rest := []) (lenOf own_pd5 rfl) rfl (by show 2 * 0 + _ ≤ _; exact Nat.le_of_eq rfl) (hb hby own_d4_28) ?_
  intro v125 T125 L125 X125 q125
  obtain ⟨rfl, N125q, K125, f126⟩ := q125
  have N125 := Fr.app N0 N125q
  show own_Goes p e below s _ _ _ T125 (mkF m 31 #[rv q, iv u1, iv u2] [])
  refine own_by (g' := (mkF m 36 #[rv q, iv (u1 - (1 : Int32)), iv u2] [(.ref q)])) (fun t k => XS.iloadN X125.here hx rfl (hb hby own_d4_31) rfl (XS.iconst X125.here hx rfl (hb hby own_d4_32) (XS.isub X125.here hx rfl (hb hby own_d4_33) rfl (XS.istoreN X125.here hx rfl (hb hby own_d4_34) rfl (l' := #[rv q, iv (u1 - (1 : Int32)), iv u2]) rfl (XS.aloadN X125.here hx rfl (hb hby own_d4_35) rfl rfl k))))) ?_
  have f127 := (f101.keep K125)
  refine own_callV X125 hx hZ hown (hw _ (List.mem_of_getElem? (i := 13) rfl)) (hw _ (List.mem_of_getElem? (i := 14) rfl)) (notFace_of_selects (args := #[]) (mvT hZ (hw _ (List.mem_of_getElem? (i := 16) rfl)))) (hw _ (List.mem_of_getElem? (i := 16) rfl)) (hw _ (List.mem_of_getElem? (i := 15) rfl)) (hw _ (List.mem_of_getElem? (i := 17) rfl)) (hw _ (List.mem_of_getElem? (i := 2) rfl)) (by decide) (a := q) f127 (own_em1f l Z a0 hw [] (q) (r) (w) ((0 : Int32)) (tl) (b2) (a2) (z2) T125.heap n0 (Nat.le_trans Z0 K125.1) f126 (by first | assumption | decide)) 0 (by decide) (by decide) (by decide) (by decide) rfl (g := (mkF m 36 #[rv q, iv (u1 - (1 : Int32)), iv u2] [(.ref q)])) rfl (by rw [hml]; rfl) (argsL := []) (rest := []) (lenOf own_pd3 rfl) rfl (by show 2 * 0 + _ ≤ _; exact Nat.le_of_eq rfl) (hb hby own_d4_36) ?_
  intro v128 T128 L128 X128 q128
  obtain ⟨rfl, N128q, e128⟩ := q128
  have N128 := Fr.app N125 N128q
  show own_Goes p e below s _ _ _ T128 (mkF m 39 #[rv q, iv (u1 - (1 : Int32)), iv u2] [(.int (0 : Int32))])
  refine own_by (g' := (mkF m 52 #[rv q, iv (u1 - (1 : Int32)), iv u2] [(.int (u1 - (1 : Int32)))])) (fun t k => XS.iloadN X128.here hx rfl (hb hby own_d4_39) rfl (XS.ifYes X128.here hx rfl (pc0 := 40) (pc' := 47) rfl (hb hby own_d4_40) rfl ((if0 _ _).trans (feq hz).2) (by decide) (by decide) (XS.iconst X128.here hx rfl (hb hby own_d4_47) (XS.icmpNo X128.here hx rfl (hb hby own_d4_48) rfl (teq (by decide : (0 : Int32) = (0 : Int32))).2 (XS.iloadN X128.here hx rfl (hb hby own_d4_51) rfl k))))) ?_
  refine own_retI X128 hx hlk hret (hb hby own_d4_52) (by decide) (by decide) ?_
  rw [e128]
  exact ⟨rfl, N128, ((Keep.refl h0 [q, a1]).trans K125 (allS (Or.inl (List.mem_of_getElem? (i := 0) rfl)) (allS (Or.inl (List.mem_of_getElem? (i := 1) rfl)) all0))), f126⟩
def Q_own_sR3n (Z : State) (u1 : Int32) (u2 : Int32) (q : Addr) (r : Int32) (w : Int32) (hd : Int32) (tl : Int32) (b1 : Addr) (a1 : Addr) (z1 : Int32) (b2 : Addr) (a2 : Addr) (z2 : Int32) (b3 : Addr) (a3 : Addr) (z3 : Int32) (h0 : Heap) (n0 : Nat) (v : Option Value) (h : Heap) (L : List Loc) : Prop := v = some (.int (u1 - (1 : Int32))) ∧ Fr n0 L ∧ Keep h0 h [q, a1] ∧ own_Q3 Z h (q) (n0) (r) (w) ((hd + (1 : Int32))) (tl) (b1) (a1) (z1) (b2) (a2) (z2) (b3) (a3) (z3)
theorem own_ef_own_sR3n (m : MethodId) (u1 : Int32) (u2 : Int32) (q : Addr) : entryFrame m #[(.ref q), (.int u1), (.int u2)] 3 = mkF m 0 #[rv q, iv u1, iv u2] [] := by first | (simp [entryFrame, mkF, argsToLocals, Value.category]; done) | rfl
set_option maxRecDepth 65536 in
set_option maxHeartbeats 40000000 in
theorem own_sR3n (l : Launch) (Z : State) (a0 : Array Value) (hw : ∀ d ∈ tables_1, d.before a0 Z = true) (ws : List Jvm.Cond) (u1 : Int32) (u2 : Int32) (q : Addr) (r : Int32) (w : Int32) (hd : Int32) (tl : Int32) (b1 : Addr) (a1 : Addr) (z1 : Int32) (b2 : Addr) (a2 : Addr) (z2 : Int32) (b3 : Addr) (a3 : Addr) (z3 : Int32) (h0 : Heap) (n0 : Nat) (Z0 : n0 ≤ h0.size) (B0 : own_Q3 Z h0 (q) (n0) (r) (w) (hd) (tl) (b1) (a1) (z1) (b2) (a2) (z2) (b3) (a3) (z3)) (hr : own_03 r) (hw3 : own_03 w) (hc0 : ¬ u1 < (0 : Int32)) (hop : (u2 &&& (1 : Int32)) = (0 : Int32)) (h0p : 0 ≤ hd.toInt) (h1p : hd.toInt < z1.toInt) (h2p : z1.toInt ≤ 8) (hn : (0 : Int32) < u1) (hz : ¬ (u1 - (1 : Int32)) = (0 : Int32)) (hq2 : ¬ (hd + (1 : Int32)) = z1) :
    own_Ctr l Z (⟨"com/example/limentinus/limentinus/simulator/RecordQueueIsEmptyPinLaw", "step", "(Lcom/example/limentinus/limentinus/simulator/RecordQueue;II)I"⟩ : MethodName) method_2_code 3 (some .int) ws ({ frames := 3, cells := 0, slots := 0, locals := 40 } : Room) (({ frames := 3, cells := 0, slots := 0, locals := 40 } : Room)).cells (({ frames := 3, cells := 0, slots := 0, locals := 40 } : Room)).slots #[(.ref q), (.int u1), (.int u2)] h0 (Q_own_sR3n Z u1 u2 q r w hd tl b1 a1 z1 b2 a2 z2 b3 a3 z3 h0 n0) := by
  refine own_enter (plainFor_of_name own_pn2) ?_
  intro p e s m below meth c s₁ X0 hx hZ hby hml hown hnm hlk hret e0
  have N0 := Fr.nil n0
  refine own_cast (own_ef_own_sR3n m u1 u2 q) ?_
  obtain ⟨f101, f102, f103, f104, f105, f106, f107, f108, f109, f110, f111, f112, f113, f114, f115, f116, f117, f118, f119, f120, f121, f122, f123, f124, f125, f126, f127, f128, f129, f130, f131, f132, f133, f134, f135⟩ := B0
  refine own_by (g' := (mkF m 27 #[rv q, iv u1, iv u2] [])) (fun t k => XS.iloadN X0.here hx rfl (hb hby own_d4_0) rfl (XS.ifYes X0.here hx rfl (pc0 := 1) (pc' := 6) rfl (hb hby own_d4_1) rfl ((if0 _ _).trans (flt hc0).2.1) (by decide) (by decide) (XS.iloadN X0.here hx rfl (hb hby own_d4_6) rfl (XS.iconst X0.here hx rfl (hb hby own_d4_7) (XS.iand X0.here hx rfl (hb hby own_d4_8) rfl (XS.ifYes X0.here hx rfl (pc0 := 9) (pc' := 23) rfl (hb hby own_d4_9) rfl ((if0 _ _).trans (teq hop).1) (by decide) (by decide) (XS.iloadN X0.here hx rfl (hb hby own_d4_23) rfl (XS.ifNo X0.here hx rfl (hb hby own_d4_24) rfl ((if0 _ _).trans (tlt hn).2.2.2) k)))))))) ?_
  refine own_by (g' := (mkF m 28 #[rv q, iv u1, iv u2] [(.ref q)])) (fun t k => XS.aloadN X0.here hx rfl (hb hby own_d4_27) rfl rfl k) ?_
  refine own_callV X0 hx hZ hown (hw _ (List.mem_of_getElem? (i := 55) rfl)) (hw _ (List.mem_of_getElem? (i := 56) rfl)) (notFace_of_selects (args := #[]) (mvT hZ (hw _ (List.mem_of_getElem? (i := 58) rfl)))) (hw _ (List.mem_of_getElem? (i := 58) rfl)) (hw _ (List.mem_of_getElem? (i := 57) rfl)) (hw _ (List.mem_of_getElem? (i := 59) rfl)) (hw _ (List.mem_of_getElem? (i := 2) rfl)) (by decide) (a := q) f101 (own_rem3n l Z a0 hw [] (q) (r) (w) (hd) (tl) (b1) (a1) (z1) (b2) (a2) (z2) (b3) (a3) (z3) h0 n0 Z0 ⟨f101, f102, f103, f104, f105, f106, f107, f108, f109, f110, f111, f112, f113, f114, f115, f116, f117, f118, f119, f120, f121, f122, f123, f124, f125, f126, f127, f128, f129, f130, f131, f132, f133, f134, f135⟩ (by first | assumption | decide) (by first | assumption | decide) (by first | assumption | decide) (by first | assumption | decide) (by first | assumption | decide)) 0 (by decide) (by decide) (by decide) (by decide) e0 (g := (mkF m 28 #[rv q, iv u1, iv u2] [(.ref q)])) rfl (by rw [hml]; rfl) (argsL := []) (rest := []) (lenOf own_pd5 rfl) rfl (by show 2 * 0 + _ ≤ _; exact Nat.le_of_eq rfl) (hb hby own_d4_28) ?_
  intro v136 T136 L136 X136 q136
  obtain ⟨rfl, N136q, K136, f137⟩ := q136
  have N136 := Fr.app N0 N136q
  show own_Goes p e below s _ _ _ T136 (mkF m 31 #[rv q, iv u1, iv u2] [])
  refine own_by (g' := (mkF m 36 #[rv q, iv (u1 - (1 : Int32)), iv u2] [(.ref q)])) (fun t k => XS.iloadN X136.here hx rfl (hb hby own_d4_31) rfl (XS.iconst X136.here hx rfl (hb hby own_d4_32) (XS.isub X136.here hx rfl (hb hby own_d4_33) rfl (XS.istoreN X136.here hx rfl (hb hby own_d4_34) rfl (l' := #[rv q, iv (u1 - (1 : Int32)), iv u2]) rfl (XS.aloadN X136.here hx rfl (hb hby own_d4_35) rfl rfl k))))) ?_
  have f138 := (f101.keep K136)
  refine own_callV X136 hx hZ hown (hw _ (List.mem_of_getElem? (i := 13) rfl)) (hw _ (List.mem_of_getElem? (i := 14) rfl)) (notFace_of_selects (args := #[]) (mvT hZ (hw _ (List.mem_of_getElem? (i := 16) rfl)))) (hw _ (List.mem_of_getElem? (i := 16) rfl)) (hw _ (List.mem_of_getElem? (i := 15) rfl)) (hw _ (List.mem_of_getElem? (i := 17) rfl)) (hw _ (List.mem_of_getElem? (i := 2) rfl)) (by decide) (a := q) f138 (own_em3 l Z a0 hw [] (q) (r) (w) ((hd + (1 : Int32))) (tl) (b1) (a1) (z1) (b2) (a2) (z2) (b3) (a3) (z3) T136.heap n0 (Nat.le_trans Z0 K136.1) f137) 0 (by decide) (by decide) (by decide) (by decide) rfl (g := (mkF m 36 #[rv q, iv (u1 - (1 : Int32)), iv u2] [(.ref q)])) rfl (by rw [hml]; rfl) (argsL := []) (rest := []) (lenOf own_pd3 rfl) rfl (by show 2 * 0 + _ ≤ _; exact Nat.le_of_eq rfl) (hb hby own_d4_36) ?_
  intro v139 T139 L139 X139 q139
  obtain ⟨rfl, N139q, e139⟩ := q139
  have N139 := Fr.app N136 N139q
  show own_Goes p e below s _ _ _ T139 (mkF m 39 #[rv q, iv (u1 - (1 : Int32)), iv u2] [(.int (0 : Int32))])
  refine own_by (g' := (mkF m 52 #[rv q, iv (u1 - (1 : Int32)), iv u2] [(.int (u1 - (1 : Int32)))])) (fun t k => XS.iloadN X139.here hx rfl (hb hby own_d4_39) rfl (XS.ifYes X139.here hx rfl (pc0 := 40) (pc' := 47) rfl (hb hby own_d4_40) rfl ((if0 _ _).trans (feq hz).2) (by decide) (by decide) (XS.iconst X139.here hx rfl (hb hby own_d4_47) (XS.icmpNo X139.here hx rfl (hb hby own_d4_48) rfl (teq (by decide : (0 : Int32) = (0 : Int32))).2 (XS.iloadN X139.here hx rfl (hb hby own_d4_51) rfl k))))) ?_
  refine own_retI X139 hx hlk hret (hb hby own_d4_52) (by decide) (by decide) ?_
  rw [e139]
  exact ⟨rfl, N139, ((Keep.refl h0 [q, a1]).trans K136 (allS (Or.inl (List.mem_of_getElem? (i := 0) rfl)) (allS (Or.inl (List.mem_of_getElem? (i := 1) rfl)) all0))), f137⟩
def Q_own_sR3a (Z : State) (u1 : Int32) (u2 : Int32) (q : Addr) (r : Int32) (w : Int32) (hd : Int32) (tl : Int32) (b1 : Addr) (a1 : Addr) (z1 : Int32) (b2 : Addr) (a2 : Addr) (z2 : Int32) (b3 : Addr) (a3 : Addr) (z3 : Int32) (h0 : Heap) (n0 : Nat) (v : Option Value) (h : Heap) (L : List Loc) : Prop := v = some (.int (u1 - (1 : Int32))) ∧ Fr n0 L ∧ Keep h0 h [q, a1] ∧ own_Q2 Z h (q) (n0) (r) (w) ((0 : Int32)) (tl) (b2) (a2) (z2) (b3) (a3) (z3)
theorem own_ef_own_sR3a (m : MethodId) (u1 : Int32) (u2 : Int32) (q : Addr) : entryFrame m #[(.ref q), (.int u1), (.int u2)] 3 = mkF m 0 #[rv q, iv u1, iv u2] [] := by first | (simp [entryFrame, mkF, argsToLocals, Value.category]; done) | rfl
set_option maxRecDepth 65536 in
set_option maxHeartbeats 40000000 in
theorem own_sR3a (l : Launch) (Z : State) (a0 : Array Value) (hw : ∀ d ∈ tables_1, d.before a0 Z = true) (ws : List Jvm.Cond) (u1 : Int32) (u2 : Int32) (q : Addr) (r : Int32) (w : Int32) (hd : Int32) (tl : Int32) (b1 : Addr) (a1 : Addr) (z1 : Int32) (b2 : Addr) (a2 : Addr) (z2 : Int32) (b3 : Addr) (a3 : Addr) (z3 : Int32) (h0 : Heap) (n0 : Nat) (Z0 : n0 ≤ h0.size) (B0 : own_Q3 Z h0 (q) (n0) (r) (w) (hd) (tl) (b1) (a1) (z1) (b2) (a2) (z2) (b3) (a3) (z3)) (hr : own_03 r) (hw3 : own_03 w) (hc0 : ¬ u1 < (0 : Int32)) (hop : (u2 &&& (1 : Int32)) = (0 : Int32)) (h0p : 0 ≤ hd.toInt) (h1p : hd.toInt < z1.toInt) (h2p : z1.toInt ≤ 8) (hn : (0 : Int32) < u1) (hz : ¬ (u1 - (1 : Int32)) = (0 : Int32)) (hq2 : (hd + (1 : Int32)) = z1) :
    own_Ctr l Z (⟨"com/example/limentinus/limentinus/simulator/RecordQueueIsEmptyPinLaw", "step", "(Lcom/example/limentinus/limentinus/simulator/RecordQueue;II)I"⟩ : MethodName) method_2_code 3 (some .int) ws ({ frames := 3, cells := 0, slots := 0, locals := 40 } : Room) (({ frames := 3, cells := 0, slots := 0, locals := 40 } : Room)).cells (({ frames := 3, cells := 0, slots := 0, locals := 40 } : Room)).slots #[(.ref q), (.int u1), (.int u2)] h0 (Q_own_sR3a Z u1 u2 q r w hd tl b1 a1 z1 b2 a2 z2 b3 a3 z3 h0 n0) := by
  refine own_enter (plainFor_of_name own_pn2) ?_
  intro p e s m below meth c s₁ X0 hx hZ hby hml hown hnm hlk hret e0
  have N0 := Fr.nil n0
  refine own_cast (own_ef_own_sR3a m u1 u2 q) ?_
  obtain ⟨f101, f102, f103, f104, f105, f106, f107, f108, f109, f110, f111, f112, f113, f114, f115, f116, f117, f118, f119, f120, f121, f122, f123, f124, f125, f126, f127, f128, f129, f130, f131, f132, f133, f134, f135⟩ := B0
  refine own_by (g' := (mkF m 27 #[rv q, iv u1, iv u2] [])) (fun t k => XS.iloadN X0.here hx rfl (hb hby own_d4_0) rfl (XS.ifYes X0.here hx rfl (pc0 := 1) (pc' := 6) rfl (hb hby own_d4_1) rfl ((if0 _ _).trans (flt hc0).2.1) (by decide) (by decide) (XS.iloadN X0.here hx rfl (hb hby own_d4_6) rfl (XS.iconst X0.here hx rfl (hb hby own_d4_7) (XS.iand X0.here hx rfl (hb hby own_d4_8) rfl (XS.ifYes X0.here hx rfl (pc0 := 9) (pc' := 23) rfl (hb hby own_d4_9) rfl ((if0 _ _).trans (teq hop).1) (by decide) (by decide) (XS.iloadN X0.here hx rfl (hb hby own_d4_23) rfl (XS.ifNo X0.here hx rfl (hb hby own_d4_24) rfl ((if0 _ _).trans (tlt hn).2.2.2) k)))))))) ?_
  refine own_by (g' := (mkF m 28 #[rv q, iv u1, iv u2] [(.ref q)])) (fun t k => XS.aloadN X0.here hx rfl (hb hby own_d4_27) rfl rfl k) ?_
  refine own_callV X0 hx hZ hown (hw _ (List.mem_of_getElem? (i := 55) rfl)) (hw _ (List.mem_of_getElem? (i := 56) rfl)) (notFace_of_selects (args := #[]) (mvT hZ (hw _ (List.mem_of_getElem? (i := 58) rfl)))) (hw _ (List.mem_of_getElem? (i := 58) rfl)) (hw _ (List.mem_of_getElem? (i := 57) rfl)) (hw _ (List.mem_of_getElem? (i := 59) rfl)) (hw _ (List.mem_of_getElem? (i := 2) rfl)) (by decide) (a := q) f101 (own_rem3a l Z a0 hw [] (q) (r) (w) (hd) (tl) (b1) (a1) (z1) (b2) (a2) (z2) (b3) (a3) (z3) h0 n0 Z0 ⟨f101, f102, f103, f104, f105, f106, f107, f108, f109, f110, f111, f112, f113, f114, f115, f116, f117, f118, f119, f120, f121, f122, f123, f124, f125, f126, f127, f128, f129, f130, f131, f132, f133, f134, f135⟩ (by first | assumption | decide) (by first | assumption | decide) (by first | assumption | decide) (by first | assumption | decide) (by first | assumption | decide)) 0 (by decide) (by decide) (by decide) (by decide) e0 (g := (mkF m 28 #[rv q, iv u1, iv u2] [(.ref q)])) rfl (by rw [hml]; rfl) (argsL := []) (rest := []) (lenOf own_pd5 rfl) rfl (by show 2 * 0 + _ ≤ _; exact Nat.le_of_eq rfl) (hb hby own_d4_28) ?_
  intro v136 T136 L136 X136 q136
  obtain ⟨rfl, N136q, K136, f137⟩ := q136
  have N136 := Fr.app N0 N136q
  show own_Goes p e below s _ _ _ T136 (mkF m 31 #[rv q, iv u1, iv u2] [])
  refine own_by (g' := (mkF m 36 #[rv q, iv (u1 - (1 : Int32)), iv u2] [(.ref q)])) (fun t k => XS.iloadN X136.here hx rfl (hb hby own_d4_31) rfl (XS.iconst X136.here hx rfl (hb hby own_d4_32) (XS.isub X136.here hx rfl (hb hby own_d4_33) rfl (XS.istoreN X136.here hx rfl (hb hby own_d4_34) rfl (l' := #[rv q, iv (u1 - (1 : Int32)), iv u2]) rfl (XS.aloadN X136.here hx rfl (hb hby own_d4_35) rfl rfl k))))) ?_
  have f138 := (f101.keep K136)
  refine own_callV X136 hx hZ hown (hw _ (List.mem_of_getElem? (i := 13) rfl)) (hw _ (List.mem_of_getElem? (i := 14) rfl)) (notFace_of_selects (args := #[]) (mvT hZ (hw _ (List.mem_of_getElem? (i := 16) rfl)))) (hw _ (List.mem_of_getElem? (i := 16) rfl)) (hw _ (List.mem_of_getElem? (i := 15) rfl)) (hw _ (List.mem_of_getElem? (i := 17) rfl)) (hw _ (List.mem_of_getElem? (i := 2) rfl)) (by decide) (a := q) f138 (own_em2 l Z a0 hw [] (q) (r) (w) ((0 : Int32)) (tl) (b2) (a2) (z2) (b3) (a3) (z3) T136.heap n0 (Nat.le_trans Z0 K136.1) f137) 0 (by decide) (by decide) (by decide) (by decide) rfl (g := (mkF m 36 #[rv q, iv (u1 - (1 : Int32)), iv u2] [(.ref q)])) rfl (by rw [hml]; rfl) (argsL := []) (rest := []) (lenOf own_pd3 rfl) rfl (by show 2 * 0 + _ ≤ _; exact Nat.le_of_eq rfl) (hb hby own_d4_36) ?_
  intro v139 T139 L139 X139 q139
  obtain ⟨rfl, N139q, e139⟩ := q139
  have N139 := Fr.app N136 N139q
  show own_Goes p e below s _ _ _ T139 (mkF m 39 #[rv q, iv (u1 - (1 : Int32)), iv u2] [(.int (0 : Int32))])
  refine own_by (g' := (mkF m 52 #[rv q, iv (u1 - (1 : Int32)), iv u2] [(.int (u1 - (1 : Int32)))])) (fun t k => XS.iloadN X139.here hx rfl (hb hby own_d4_39) rfl (XS.ifYes X139.here hx rfl (pc0 := 40) (pc' := 47) rfl (hb hby own_d4_40) rfl ((if0 _ _).trans (feq hz).2) (by decide) (by decide) (XS.iconst X139.here hx rfl (hb hby own_d4_47) (XS.icmpNo X139.here hx rfl (hb hby own_d4_48) rfl (teq (by decide : (0 : Int32) = (0 : Int32))).2 (XS.iloadN X139.here hx rfl (hb hby own_d4_51) rfl k))))) ?_
  refine own_retI X139 hx hlk hret (hb hby own_d4_52) (by decide) (by decide) ?_
  rw [e139]
  exact ⟨rfl, N139, ((Keep.refl h0 [q, a1]).trans K136 (allS (Or.inl (List.mem_of_getElem? (i := 0) rfl)) (allS (Or.inl (List.mem_of_getElem? (i := 1) rfl)) all0))), f137⟩
def Q_own_law (Z : State) (u1 : Int32) (u2 : Int32) (u3 : Int32) (h0 : Heap) (n0 : Nat) (v : Option Value) (h : Heap) (L : List Loc) : Prop := v = some (.int (1 : Int32)) ∧ Fr n0 L ∧ Keep h0 h []
theorem own_pd6 : parseMethodDescriptor "(Lcom/example/limentinus/limentinus/simulator/RecordQueue;II)I" = some ⟨[(.object "com/example/limentinus/limentinus/simulator/RecordQueue"), .int, .int], some .int⟩ := by decide +kernel
def own_Cx (p : Program) (s : State) (m : MethodId) (meth : Method) (c : Code) (Z : State) (a0 : Array Value) (n0 : Nat) (h0 : Heap) : Prop := p.tables.exec = Jvm.exec ∧ Z.Warmed39 s.vm ∧ (∀ d ∈ tables_1, d.before a0 Z = true) ∧ c.code = code ∧ c.maxLocals = maxLocals ∧ s.vm.findClass "com/example/limentinus/limentinus/simulator/RecordQueueIsEmptyPinLaw" = some m.cls ∧ meth.name = "law" ∧ meth.locks = false ∧ meth.sig.returnType = ret ∧ n0 ≤ h0.size
set_option maxRecDepth 65536 in
set_option maxHeartbeats 40000000 in
theorem own_lv0 {p : Program} {l : Launch} {e : Env} {s : State} {m : MethodId} {args : Array Value} {below : List Frame} {meth : Method} {c : Code} {T0 : State} {locs : List Loc} {Z : State} {a0 : Array Value} {h0 h1 : Heap} {n0 : Nat} {cells slots : Nat} {rm : Room} {Q' : Option Value → Heap → List Loc → Prop} (u1 u2 u3 : Int32) (q : Addr) (cc : Int32) (X0 : Stand p l e room_1 s m args below meth c T0 locs cells slots) (H : own_Cx p s m meth c Z a0 n0 h0) (e0 : T0.heap = h1)
    (hM : own_Ctr l Z (⟨"com/example/limentinus/limentinus/simulator/RecordQueueIsEmptyPinLaw", "step", "(Lcom/example/limentinus/limentinus/simulator/RecordQueue;II)I"⟩ : MethodName) method_2_code 3 (some .int) [] rm rm.cells rm.slots #[(.ref q), (.int cc), (.int u3)] h1 Q') (hf : rm.frames + 1 ≤ room_1.frames) (hl : 0 + (3 + 11) + rm.locals ≤ room_1.locals) (hc : cells + rm.cells ≤ room_1.cells) (hs : slots + rm.slots ≤ room_1.slots)
    (k : ∀ v T' L, Stand p l e room_1 s m args below meth c T' (locs ++ L) (cells + rm.cells) (slots + rm.slots) → Q' v T'.heap L → ∃ c' : Int32, v = some (.int c') ∧ own_Goes p e below s 32 320 (Q_own_law Z u1 u2 u3 h0 n0) T' (mkF m 35 #[iv u1, iv u2, iv u3, rv q, iv c'] [])) : own_Goes p e below s 32 320 (Q_own_law Z u1 u2 u3 h0 n0) T0 (mkF m 26 #[iv u1, iv u2, iv u3, rv q, iv cc] []) := by
  obtain ⟨hx, hZ, hw, hby, hml, hown, hnm, hlk, hret, Z0⟩ := id H
  refine own_by (g' := (mkF m 30 #[iv u1, iv u2, iv u3, rv q, iv cc] [(.int u3), (.int cc), (.ref q)])) (fun t k' => XS.aloadN X0.here hx rfl (hb hby at_26) rfl rfl (XS.iload X0.here hx rfl (hb hby at_27) rfl (XS.iloadN X0.here hx rfl (hb hby at_29) rfl k'))) ?_
  refine own_callS X0 hx hZ hown (hw _ (List.mem_of_getElem? (i := 26) rfl)) (hw _ (List.mem_of_getElem? (i := 27) rfl)) (hw _ (List.mem_of_getElem? (i := 28) rfl)) (hw _ (List.mem_of_getElem? (i := 29) rfl)) (by decide) hM 0 hf hl hc hs e0 (g := (mkF m 30 #[iv u1, iv u2, iv u3, rv q, iv cc] [(.int u3), (.int cc), (.ref q)])) rfl (by rw [hml]; rfl) (argsL := [(.ref q), (.int cc), (.int u3)]) (rest := []) (lenOf own_pd6 rfl) rfl (by show 2 * 0 + _ ≤ _; exact Nat.le_of_eq rfl) (hb hby at_30) ?_
  intro v T' L X' q'
  obtain ⟨c', rfl, G⟩ := k v T' L X' q'
  show own_Goes p e below s 32 320 (Q_own_law Z u1 u2 u3 h0 n0) T' (mkF m 33 #[iv u1, iv u2, iv u3, rv q, iv cc] [(.int c')])
  exact own_by (g' := (mkF m 35 #[iv u1, iv u2, iv u3, rv q, iv c'] [])) (fun t k' => XS.istore X'.here hx rfl (hb hby at_33) rfl (l' := #[iv u1, iv u2, iv u3, rv q, iv c']) rfl k') G
set_option maxRecDepth 65536 in
set_option maxHeartbeats 40000000 in
theorem own_lv1 {p : Program} {l : Launch} {e : Env} {s : State} {m : MethodId} {args : Array Value} {below : List Frame} {meth : Method} {c : Code} {T0 : State} {locs : List Loc} {Z : State} {a0 : Array Value} {h0 h1 : Heap} {n0 : Nat} {cells slots : Nat} {rm : Room} {Q' : Option Value → Heap → List Loc → Prop} (u1 u2 u3 : Int32) (q : Addr) (cc : Int32) (X0 : Stand p l e room_1 s m args below meth c T0 locs cells slots) (H : own_Cx p s m meth c Z a0 n0 h0) (e0 : T0.heap = h1)
    (hM : own_Ctr l Z (⟨"com/example/limentinus/limentinus/simulator/RecordQueueIsEmptyPinLaw", "step", "(Lcom/example/limentinus/limentinus/simulator/RecordQueue;II)I"⟩ : MethodName) method_2_code 3 (some .int) [] rm rm.cells rm.slots #[(.ref q), (.int cc), (.int ((u3).toUInt32 >>> ((1 : Int32) &&& 31).toUInt32).toInt32)] h1 Q') (hf : rm.frames + 1 ≤ room_1.frames) (hl : 0 + (3 + 11) + rm.locals ≤ room_1.locals) (hc : cells + rm.cells ≤ room_1.cells) (hs : slots + rm.slots ≤ room_1.slots)
    (k : ∀ v T' L, Stand p l e room_1 s m args below meth c T' (locs ++ L) (cells + rm.cells) (slots + rm.slots) → Q' v T'.heap L → ∃ c' : Int32, v = some (.int c') ∧ own_Goes p e below s 32 320 (Q_own_law Z u1 u2 u3 h0 n0) T' (mkF m 46 #[iv u1, iv u2, iv u3, rv q, iv c'] [])) : own_Goes p e below s 32 320 (Q_own_law Z u1 u2 u3 h0 n0) T0 (mkF m 35 #[iv u1, iv u2, iv u3, rv q, iv cc] []) := by
  obtain ⟨hx, hZ, hw, hby, hml, hown, hnm, hlk, hret, Z0⟩ := id H
  refine own_by (g' := (mkF m 41 #[iv u1, iv u2, iv u3, rv q, iv cc] [(.int ((u3).toUInt32 >>> ((1 : Int32) &&& 31).toUInt32).toInt32), (.int cc), (.ref q)])) (fun t k' => XS.aloadN X0.here hx rfl (hb hby at_35) rfl rfl (XS.iload X0.here hx rfl (hb hby at_36) rfl (XS.iloadN X0.here hx rfl (hb hby at_38) rfl (XS.iconst X0.here hx rfl (hb hby at_39) (XS.iushr X0.here hx rfl (hb hby at_40) rfl k'))))) ?_
  refine own_callS X0 hx hZ hown (hw _ (List.mem_of_getElem? (i := 26) rfl)) (hw _ (List.mem_of_getElem? (i := 27) rfl)) (hw _ (List.mem_of_getElem? (i := 28) rfl)) (hw _ (List.mem_of_getElem? (i := 29) rfl)) (by decide) hM 0 hf hl hc hs e0 (g := (mkF m 41 #[iv u1, iv u2, iv u3, rv q, iv cc] [(.int ((u3).toUInt32 >>> ((1 : Int32) &&& 31).toUInt32).toInt32), (.int cc), (.ref q)])) rfl (by rw [hml]; rfl) (argsL := [(.ref q), (.int cc), (.int ((u3).toUInt32 >>> ((1 : Int32) &&& 31).toUInt32).toInt32)]) (rest := []) (lenOf own_pd6 rfl) rfl (by show 2 * 0 + _ ≤ _; exact Nat.le_of_eq rfl) (hb hby at_41) ?_
  intro v T' L X' q'
  obtain ⟨c', rfl, G⟩ := k v T' L X' q'
  show own_Goes p e below s 32 320 (Q_own_law Z u1 u2 u3 h0 n0) T' (mkF m 44 #[iv u1, iv u2, iv u3, rv q, iv cc] [(.int c')])
  exact own_by (g' := (mkF m 46 #[iv u1, iv u2, iv u3, rv q, iv c'] [])) (fun t k' => XS.istore X'.here hx rfl (hb hby at_44) rfl (l' := #[iv u1, iv u2, iv u3, rv q, iv c']) rfl k') G
set_option maxRecDepth 65536 in
set_option maxHeartbeats 40000000 in
theorem own_lv2 {p : Program} {l : Launch} {e : Env} {s : State} {m : MethodId} {args : Array Value} {below : List Frame} {meth : Method} {c : Code} {T0 : State} {locs : List Loc} {Z : State} {a0 : Array Value} {h0 h1 : Heap} {n0 : Nat} {cells slots : Nat} {rm : Room} {Q' : Option Value → Heap → List Loc → Prop} (u1 u2 u3 : Int32) (q : Addr) (cc : Int32) (X0 : Stand p l e room_1 s m args below meth c T0 locs cells slots) (H : own_Cx p s m meth c Z a0 n0 h0) (e0 : T0.heap = h1)
    (hM : own_Ctr l Z (⟨"com/example/limentinus/limentinus/simulator/RecordQueueIsEmptyPinLaw", "step", "(Lcom/example/limentinus/limentinus/simulator/RecordQueue;II)I"⟩ : MethodName) method_2_code 3 (some .int) [] rm rm.cells rm.slots #[(.ref q), (.int cc), (.int ((u3).toUInt32 >>> ((2 : Int32) &&& 31).toUInt32).toInt32)] h1 Q') (hf : rm.frames + 1 ≤ room_1.frames) (hl : 0 + (3 + 11) + rm.locals ≤ room_1.locals) (hc : cells + rm.cells ≤ room_1.cells) (hs : slots + rm.slots ≤ room_1.slots)
    (k : ∀ v T' L, Stand p l e room_1 s m args below meth c T' (locs ++ L) (cells + rm.cells) (slots + rm.slots) → Q' v T'.heap L → ∃ c' : Int32, v = some (.int c') ∧ own_Goes p e below s 32 320 (Q_own_law Z u1 u2 u3 h0 n0) T' (mkF m 57 #[iv u1, iv u2, iv u3, rv q, iv c'] [])) : own_Goes p e below s 32 320 (Q_own_law Z u1 u2 u3 h0 n0) T0 (mkF m 46 #[iv u1, iv u2, iv u3, rv q, iv cc] []) := by
  obtain ⟨hx, hZ, hw, hby, hml, hown, hnm, hlk, hret, Z0⟩ := id H
  refine own_by (g' := (mkF m 52 #[iv u1, iv u2, iv u3, rv q, iv cc] [(.int ((u3).toUInt32 >>> ((2 : Int32) &&& 31).toUInt32).toInt32), (.int cc), (.ref q)])) (fun t k' => XS.aloadN X0.here hx rfl (hb hby at_46) rfl rfl (XS.iload X0.here hx rfl (hb hby at_47) rfl (XS.iloadN X0.here hx rfl (hb hby at_49) rfl (XS.iconst X0.here hx rfl (hb hby at_50) (XS.iushr X0.here hx rfl (hb hby at_51) rfl k'))))) ?_
  refine own_callS X0 hx hZ hown (hw _ (List.mem_of_getElem? (i := 26) rfl)) (hw _ (List.mem_of_getElem? (i := 27) rfl)) (hw _ (List.mem_of_getElem? (i := 28) rfl)) (hw _ (List.mem_of_getElem? (i := 29) rfl)) (by decide) hM 0 hf hl hc hs e0 (g := (mkF m 52 #[iv u1, iv u2, iv u3, rv q, iv cc] [(.int ((u3).toUInt32 >>> ((2 : Int32) &&& 31).toUInt32).toInt32), (.int cc), (.ref q)])) rfl (by rw [hml]; rfl) (argsL := [(.ref q), (.int cc), (.int ((u3).toUInt32 >>> ((2 : Int32) &&& 31).toUInt32).toInt32)]) (rest := []) (lenOf own_pd6 rfl) rfl (by show 2 * 0 + _ ≤ _; exact Nat.le_of_eq rfl) (hb hby at_52) ?_
  intro v T' L X' q'
  obtain ⟨c', rfl, G⟩ := k v T' L X' q'
  show own_Goes p e below s 32 320 (Q_own_law Z u1 u2 u3 h0 n0) T' (mkF m 55 #[iv u1, iv u2, iv u3, rv q, iv cc] [(.int c')])
  exact own_by (g' := (mkF m 57 #[iv u1, iv u2, iv u3, rv q, iv c'] [])) (fun t k' => XS.istore X'.here hx rfl (hb hby at_55) rfl (l' := #[iv u1, iv u2, iv u3, rv q, iv c']) rfl k') G
set_option maxRecDepth 65536 in
set_option maxHeartbeats 40000000 in
theorem own_lv3 {p : Program} {l : Launch} {e : Env} {s : State} {m : MethodId} {args : Array Value} {below : List Frame} {meth : Method} {c : Code} {T0 : State} {locs : List Loc} {Z : State} {a0 : Array Value} {h0 h1 : Heap} {n0 : Nat} {cells slots : Nat} {rm : Room} {Q' : Option Value → Heap → List Loc → Prop} (u1 u2 u3 : Int32) (q : Addr) (cc : Int32) (X0 : Stand p l e room_1 s m args below meth c T0 locs cells slots) (H : own_Cx p s m meth c Z a0 n0 h0) (e0 : T0.heap = h1)
    (hM : own_Ctr l Z (⟨"com/example/limentinus/limentinus/simulator/RecordQueueIsEmptyPinLaw", "step", "(Lcom/example/limentinus/limentinus/simulator/RecordQueue;II)I"⟩ : MethodName) method_2_code 3 (some .int) [] rm rm.cells rm.slots #[(.ref q), (.int cc), (.int ((u3).toUInt32 >>> ((3 : Int32) &&& 31).toUInt32).toInt32)] h1 Q') (hf : rm.frames + 1 ≤ room_1.frames) (hl : 0 + (3 + 11) + rm.locals ≤ room_1.locals) (hc : cells + rm.cells ≤ room_1.cells) (hs : slots + rm.slots ≤ room_1.slots)
    (k : ∀ v T' L, Stand p l e room_1 s m args below meth c T' (locs ++ L) (cells + rm.cells) (slots + rm.slots) → Q' v T'.heap L → ∃ c' : Int32, v = some (.int c') ∧ own_Goes p e below s 32 320 (Q_own_law Z u1 u2 u3 h0 n0) T' (mkF m 68 #[iv u1, iv u2, iv u3, rv q, iv c'] [])) : own_Goes p e below s 32 320 (Q_own_law Z u1 u2 u3 h0 n0) T0 (mkF m 57 #[iv u1, iv u2, iv u3, rv q, iv cc] []) := by
  obtain ⟨hx, hZ, hw, hby, hml, hown, hnm, hlk, hret, Z0⟩ := id H
  refine own_by (g' := (mkF m 63 #[iv u1, iv u2, iv u3, rv q, iv cc] [(.int ((u3).toUInt32 >>> ((3 : Int32) &&& 31).toUInt32).toInt32), (.int cc), (.ref q)])) (fun t k' => XS.aloadN X0.here hx rfl (hb hby at_57) rfl rfl (XS.iload X0.here hx rfl (hb hby at_58) rfl (XS.iloadN X0.here hx rfl (hb hby at_60) rfl (XS.iconst X0.here hx rfl (hb hby at_61) (XS.iushr X0.here hx rfl (hb hby at_62) rfl k'))))) ?_
  refine own_callS X0 hx hZ hown (hw _ (List.mem_of_getElem? (i := 26) rfl)) (hw _ (List.mem_of_getElem? (i := 27) rfl)) (hw _ (List.mem_of_getElem? (i := 28) rfl)) (hw _ (List.mem_of_getElem? (i := 29) rfl)) (by decide) hM 0 hf hl hc hs e0 (g := (mkF m 63 #[iv u1, iv u2, iv u3, rv q, iv cc] [(.int ((u3).toUInt32 >>> ((3 : Int32) &&& 31).toUInt32).toInt32), (.int cc), (.ref q)])) rfl (by rw [hml]; rfl) (argsL := [(.ref q), (.int cc), (.int ((u3).toUInt32 >>> ((3 : Int32) &&& 31).toUInt32).toInt32)]) (rest := []) (lenOf own_pd6 rfl) rfl (by show 2 * 0 + _ ≤ _; exact Nat.le_of_eq rfl) (hb hby at_63) ?_
  intro v T' L X' q'
  obtain ⟨c', rfl, G⟩ := k v T' L X' q'
  show own_Goes p e below s 32 320 (Q_own_law Z u1 u2 u3 h0 n0) T' (mkF m 66 #[iv u1, iv u2, iv u3, rv q, iv cc] [(.int c')])
  exact own_by (g' := (mkF m 68 #[iv u1, iv u2, iv u3, rv q, iv c'] [])) (fun t k' => XS.istore X'.here hx rfl (hb hby at_66) rfl (l' := #[iv u1, iv u2, iv u3, rv q, iv c']) rfl k') G
set_option maxRecDepth 65536 in
set_option maxHeartbeats 40000000 in
theorem own_lv4 {p : Program} {l : Launch} {e : Env} {s : State} {m : MethodId} {args : Array Value} {below : List Frame} {meth : Method} {c : Code} {T0 : State} {locs : List Loc} {Z : State} {a0 : Array Value} {h0 h1 : Heap} {n0 : Nat} {cells slots : Nat} {rm : Room} {Q' : Option Value → Heap → List Loc → Prop} (u1 u2 u3 : Int32) (q : Addr) (cc : Int32) (X0 : Stand p l e room_1 s m args below meth c T0 locs cells slots) (H : own_Cx p s m meth c Z a0 n0 h0) (e0 : T0.heap = h1)
    (hM : own_Ctr l Z (⟨"com/example/limentinus/limentinus/simulator/RecordQueueIsEmptyPinLaw", "step", "(Lcom/example/limentinus/limentinus/simulator/RecordQueue;II)I"⟩ : MethodName) method_2_code 3 (some .int) [] rm rm.cells rm.slots #[(.ref q), (.int cc), (.int ((u3).toUInt32 >>> ((4 : Int32) &&& 31).toUInt32).toInt32)] h1 Q') (hf : rm.frames + 1 ≤ room_1.frames) (hl : 0 + (3 + 11) + rm.locals ≤ room_1.locals) (hc : cells + rm.cells ≤ room_1.cells) (hs : slots + rm.slots ≤ room_1.slots)
    (k : ∀ v T' L, Stand p l e room_1 s m args below meth c T' (locs ++ L) (cells + rm.cells) (slots + rm.slots) → Q' v T'.heap L → ∃ c' : Int32, v = some (.int c') ∧ own_Goes p e below s 32 320 (Q_own_law Z u1 u2 u3 h0 n0) T' (mkF m 79 #[iv u1, iv u2, iv u3, rv q, iv c'] [])) : own_Goes p e below s 32 320 (Q_own_law Z u1 u2 u3 h0 n0) T0 (mkF m 68 #[iv u1, iv u2, iv u3, rv q, iv cc] []) := by
  obtain ⟨hx, hZ, hw, hby, hml, hown, hnm, hlk, hret, Z0⟩ := id H
  refine own_by (g' := (mkF m 74 #[iv u1, iv u2, iv u3, rv q, iv cc] [(.int ((u3).toUInt32 >>> ((4 : Int32) &&& 31).toUInt32).toInt32), (.int cc), (.ref q)])) (fun t k' => XS.aloadN X0.here hx rfl (hb hby at_68) rfl rfl (XS.iload X0.here hx rfl (hb hby at_69) rfl (XS.iloadN X0.here hx rfl (hb hby at_71) rfl (XS.iconst X0.here hx rfl (hb hby at_72) (XS.iushr X0.here hx rfl (hb hby at_73) rfl k'))))) ?_
  refine own_callS X0 hx hZ hown (hw _ (List.mem_of_getElem? (i := 26) rfl)) (hw _ (List.mem_of_getElem? (i := 27) rfl)) (hw _ (List.mem_of_getElem? (i := 28) rfl)) (hw _ (List.mem_of_getElem? (i := 29) rfl)) (by decide) hM 0 hf hl hc hs e0 (g := (mkF m 74 #[iv u1, iv u2, iv u3, rv q, iv cc] [(.int ((u3).toUInt32 >>> ((4 : Int32) &&& 31).toUInt32).toInt32), (.int cc), (.ref q)])) rfl (by rw [hml]; rfl) (argsL := [(.ref q), (.int cc), (.int ((u3).toUInt32 >>> ((4 : Int32) &&& 31).toUInt32).toInt32)]) (rest := []) (lenOf own_pd6 rfl) rfl (by show 2 * 0 + _ ≤ _; exact Nat.le_of_eq rfl) (hb hby at_74) ?_
  intro v T' L X' q'
  obtain ⟨c', rfl, G⟩ := k v T' L X' q'
  show own_Goes p e below s 32 320 (Q_own_law Z u1 u2 u3 h0 n0) T' (mkF m 77 #[iv u1, iv u2, iv u3, rv q, iv cc] [(.int c')])
  exact own_by (g' := (mkF m 79 #[iv u1, iv u2, iv u3, rv q, iv c'] [])) (fun t k' => XS.istore X'.here hx rfl (hb hby at_77) rfl (l' := #[iv u1, iv u2, iv u3, rv q, iv c']) rfl k') G
set_option maxRecDepth 65536 in
set_option maxHeartbeats 40000000 in
theorem own_lv5 {p : Program} {l : Launch} {e : Env} {s : State} {m : MethodId} {args : Array Value} {below : List Frame} {meth : Method} {c : Code} {T0 : State} {locs : List Loc} {Z : State} {a0 : Array Value} {h0 h1 : Heap} {n0 : Nat} {cells slots : Nat} {rm : Room} {Q' : Option Value → Heap → List Loc → Prop} (u1 u2 u3 : Int32) (q : Addr) (cc : Int32) (X0 : Stand p l e room_1 s m args below meth c T0 locs cells slots) (H : own_Cx p s m meth c Z a0 n0 h0) (e0 : T0.heap = h1)
    (hM : own_Ctr l Z (⟨"com/example/limentinus/limentinus/simulator/RecordQueueIsEmptyPinLaw", "step", "(Lcom/example/limentinus/limentinus/simulator/RecordQueue;II)I"⟩ : MethodName) method_2_code 3 (some .int) [] rm rm.cells rm.slots #[(.ref q), (.int cc), (.int ((u3).toUInt32 >>> ((5 : Int32) &&& 31).toUInt32).toInt32)] h1 Q') (hf : rm.frames + 1 ≤ room_1.frames) (hl : 0 + (3 + 11) + rm.locals ≤ room_1.locals) (hc : cells + rm.cells ≤ room_1.cells) (hs : slots + rm.slots ≤ room_1.slots)
    (k : ∀ v T' L, Stand p l e room_1 s m args below meth c T' (locs ++ L) (cells + rm.cells) (slots + rm.slots) → Q' v T'.heap L → ∃ c' : Int32, v = some (.int c') ∧ own_Goes p e below s 32 320 (Q_own_law Z u1 u2 u3 h0 n0) T' (mkF m 90 #[iv u1, iv u2, iv u3, rv q, iv c'] [])) : own_Goes p e below s 32 320 (Q_own_law Z u1 u2 u3 h0 n0) T0 (mkF m 79 #[iv u1, iv u2, iv u3, rv q, iv cc] []) := by
  obtain ⟨hx, hZ, hw, hby, hml, hown, hnm, hlk, hret, Z0⟩ := id H
  refine own_by (g' := (mkF m 85 #[iv u1, iv u2, iv u3, rv q, iv cc] [(.int ((u3).toUInt32 >>> ((5 : Int32) &&& 31).toUInt32).toInt32), (.int cc), (.ref q)])) (fun t k' => XS.aloadN X0.here hx rfl (hb hby at_79) rfl rfl (XS.iload X0.here hx rfl (hb hby at_80) rfl (XS.iloadN X0.here hx rfl (hb hby at_82) rfl (XS.iconst X0.here hx rfl (hb hby at_83) (XS.iushr X0.here hx rfl (hb hby at_84) rfl k'))))) ?_
  refine own_callS X0 hx hZ hown (hw _ (List.mem_of_getElem? (i := 26) rfl)) (hw _ (List.mem_of_getElem? (i := 27) rfl)) (hw _ (List.mem_of_getElem? (i := 28) rfl)) (hw _ (List.mem_of_getElem? (i := 29) rfl)) (by decide) hM 0 hf hl hc hs e0 (g := (mkF m 85 #[iv u1, iv u2, iv u3, rv q, iv cc] [(.int ((u3).toUInt32 >>> ((5 : Int32) &&& 31).toUInt32).toInt32), (.int cc), (.ref q)])) rfl (by rw [hml]; rfl) (argsL := [(.ref q), (.int cc), (.int ((u3).toUInt32 >>> ((5 : Int32) &&& 31).toUInt32).toInt32)]) (rest := []) (lenOf own_pd6 rfl) rfl (by show 2 * 0 + _ ≤ _; exact Nat.le_of_eq rfl) (hb hby at_85) ?_
  intro v T' L X' q'
  obtain ⟨c', rfl, G⟩ := k v T' L X' q'
  show own_Goes p e below s 32 320 (Q_own_law Z u1 u2 u3 h0 n0) T' (mkF m 88 #[iv u1, iv u2, iv u3, rv q, iv cc] [(.int c')])
  exact own_by (g' := (mkF m 90 #[iv u1, iv u2, iv u3, rv q, iv c'] [])) (fun t k' => XS.istore X'.here hx rfl (hb hby at_88) rfl (l' := #[iv u1, iv u2, iv u3, rv q, iv c']) rfl k') G
set_option maxRecDepth 65536 in
set_option maxHeartbeats 40000000 in
theorem own_lv6 {p : Program} {l : Launch} {e : Env} {s : State} {m : MethodId} {args : Array Value} {below : List Frame} {meth : Method} {c : Code} {T0 : State} {locs : List Loc} {Z : State} {a0 : Array Value} {h0 h1 : Heap} {n0 : Nat} {cells slots : Nat} {rm : Room} {Q' : Option Value → Heap → List Loc → Prop} (u1 u2 u3 : Int32) (q : Addr) (cc : Int32) (X0 : Stand p l e room_1 s m args below meth c T0 locs cells slots) (H : own_Cx p s m meth c Z a0 n0 h0) (e0 : T0.heap = h1)
    (hM : own_Ctr l Z (⟨"com/example/limentinus/limentinus/simulator/RecordQueueIsEmptyPinLaw", "step", "(Lcom/example/limentinus/limentinus/simulator/RecordQueue;II)I"⟩ : MethodName) method_2_code 3 (some .int) [] rm rm.cells rm.slots #[(.ref q), (.int cc), (.int ((u3).toUInt32 >>> ((6 : Int32) &&& 31).toUInt32).toInt32)] h1 Q') (hf : rm.frames + 1 ≤ room_1.frames) (hl : 0 + (3 + 11) + rm.locals ≤ room_1.locals) (hc : cells + rm.cells ≤ room_1.cells) (hs : slots + rm.slots ≤ room_1.slots)
    (k : ∀ v T' L, Stand p l e room_1 s m args below meth c T' (locs ++ L) (cells + rm.cells) (slots + rm.slots) → Q' v T'.heap L → ∃ c' : Int32, v = some (.int c') ∧ own_Goes p e below s 32 320 (Q_own_law Z u1 u2 u3 h0 n0) T' (mkF m 102 #[iv u1, iv u2, iv u3, rv q, iv c'] [])) : own_Goes p e below s 32 320 (Q_own_law Z u1 u2 u3 h0 n0) T0 (mkF m 90 #[iv u1, iv u2, iv u3, rv q, iv cc] []) := by
  obtain ⟨hx, hZ, hw, hby, hml, hown, hnm, hlk, hret, Z0⟩ := id H
  refine own_by (g' := (mkF m 97 #[iv u1, iv u2, iv u3, rv q, iv cc] [(.int ((u3).toUInt32 >>> ((6 : Int32) &&& 31).toUInt32).toInt32), (.int cc), (.ref q)])) (fun t k' => XS.aloadN X0.here hx rfl (hb hby at_90) rfl rfl (XS.iload X0.here hx rfl (hb hby at_91) rfl (XS.iloadN X0.here hx rfl (hb hby at_93) rfl (XS.bipush X0.here hx rfl (hb hby at_94) (XS.iushr X0.here hx rfl (hb hby at_96) rfl k'))))) ?_
  refine own_callS X0 hx hZ hown (hw _ (List.mem_of_getElem? (i := 26) rfl)) (hw _ (List.mem_of_getElem? (i := 27) rfl)) (hw _ (List.mem_of_getElem? (i := 28) rfl)) (hw _ (List.mem_of_getElem? (i := 29) rfl)) (by decide) hM 0 hf hl hc hs e0 (g := (mkF m 97 #[iv u1, iv u2, iv u3, rv q, iv cc] [(.int ((u3).toUInt32 >>> ((6 : Int32) &&& 31).toUInt32).toInt32), (.int cc), (.ref q)])) rfl (by rw [hml]; rfl) (argsL := [(.ref q), (.int cc), (.int ((u3).toUInt32 >>> ((6 : Int32) &&& 31).toUInt32).toInt32)]) (rest := []) (lenOf own_pd6 rfl) rfl (by show 2 * 0 + _ ≤ _; exact Nat.le_of_eq rfl) (hb hby at_97) ?_
  intro v T' L X' q'
  obtain ⟨c', rfl, G⟩ := k v T' L X' q'
  show own_Goes p e below s 32 320 (Q_own_law Z u1 u2 u3 h0 n0) T' (mkF m 100 #[iv u1, iv u2, iv u3, rv q, iv cc] [(.int c')])
  exact own_by (g' := (mkF m 102 #[iv u1, iv u2, iv u3, rv q, iv c'] [])) (fun t k' => XS.istore X'.here hx rfl (hb hby at_100) rfl (l' := #[iv u1, iv u2, iv u3, rv q, iv c']) rfl k') G
set_option maxRecDepth 65536 in
set_option maxHeartbeats 40000000 in
theorem own_lv7 {p : Program} {l : Launch} {e : Env} {s : State} {m : MethodId} {args : Array Value} {below : List Frame} {meth : Method} {c : Code} {T0 : State} {locs : List Loc} {Z : State} {a0 : Array Value} {h0 h1 : Heap} {n0 : Nat} {cells slots : Nat} {rm : Room} {Q' : Option Value → Heap → List Loc → Prop} (u1 u2 u3 : Int32) (q : Addr) (cc : Int32) (X0 : Stand p l e room_1 s m args below meth c T0 locs cells slots) (H : own_Cx p s m meth c Z a0 n0 h0) (e0 : T0.heap = h1)
    (hM : own_Ctr l Z (⟨"com/example/limentinus/limentinus/simulator/RecordQueueIsEmptyPinLaw", "step", "(Lcom/example/limentinus/limentinus/simulator/RecordQueue;II)I"⟩ : MethodName) method_2_code 3 (some .int) [] rm rm.cells rm.slots #[(.ref q), (.int cc), (.int ((u3).toUInt32 >>> ((7 : Int32) &&& 31).toUInt32).toInt32)] h1 Q') (hf : rm.frames + 1 ≤ room_1.frames) (hl : 0 + (3 + 11) + rm.locals ≤ room_1.locals) (hc : cells + rm.cells ≤ room_1.cells) (hs : slots + rm.slots ≤ room_1.slots)
    (k : ∀ v T' L, Stand p l e room_1 s m args below meth c T' (locs ++ L) (cells + rm.cells) (slots + rm.slots) → Q' v T'.heap L → ∃ c' : Int32, v = some (.int c') ∧ own_Goes p e below s 32 320 (Q_own_law Z u1 u2 u3 h0 n0) T' (mkF m 114 #[iv u1, iv u2, iv u3, rv q, iv c'] [])) : own_Goes p e below s 32 320 (Q_own_law Z u1 u2 u3 h0 n0) T0 (mkF m 102 #[iv u1, iv u2, iv u3, rv q, iv cc] []) := by
  obtain ⟨hx, hZ, hw, hby, hml, hown, hnm, hlk, hret, Z0⟩ := id H
  refine own_by (g' := (mkF m 109 #[iv u1, iv u2, iv u3, rv q, iv cc] [(.int ((u3).toUInt32 >>> ((7 : Int32) &&& 31).toUInt32).toInt32), (.int cc), (.ref q)])) (fun t k' => XS.aloadN X0.here hx rfl (hb hby at_102) rfl rfl (XS.iload X0.here hx rfl (hb hby at_103) rfl (XS.iloadN X0.here hx rfl (hb hby at_105) rfl (XS.bipush X0.here hx rfl (hb hby at_106) (XS.iushr X0.here hx rfl (hb hby at_108) rfl k'))))) ?_
  refine own_callS X0 hx hZ hown (hw _ (List.mem_of_getElem? (i := 26) rfl)) (hw _ (List.mem_of_getElem? (i := 27) rfl)) (hw _ (List.mem_of_getElem? (i := 28) rfl)) (hw _ (List.mem_of_getElem? (i := 29) rfl)) (by decide) hM 0 hf hl hc hs e0 (g := (mkF m 109 #[iv u1, iv u2, iv u3, rv q, iv cc] [(.int ((u3).toUInt32 >>> ((7 : Int32) &&& 31).toUInt32).toInt32), (.int cc), (.ref q)])) rfl (by rw [hml]; rfl) (argsL := [(.ref q), (.int cc), (.int ((u3).toUInt32 >>> ((7 : Int32) &&& 31).toUInt32).toInt32)]) (rest := []) (lenOf own_pd6 rfl) rfl (by show 2 * 0 + _ ≤ _; exact Nat.le_of_eq rfl) (hb hby at_109) ?_
  intro v T' L X' q'
  obtain ⟨c', rfl, G⟩ := k v T' L X' q'
  show own_Goes p e below s 32 320 (Q_own_law Z u1 u2 u3 h0 n0) T' (mkF m 112 #[iv u1, iv u2, iv u3, rv q, iv cc] [(.int c')])
  exact own_by (g' := (mkF m 114 #[iv u1, iv u2, iv u3, rv q, iv c'] [])) (fun t k' => XS.istore X'.here hx rfl (hb hby at_112) rfl (l' := #[iv u1, iv u2, iv u3, rv q, iv c']) rfl k') G
set_option maxRecDepth 65536 in
set_option maxHeartbeats 40000000 in
theorem own_lv8 {p : Program} {l : Launch} {e : Env} {s : State} {m : MethodId} {args : Array Value} {below : List Frame} {meth : Method} {c : Code} {T0 : State} {locs : List Loc} {Z : State} {a0 : Array Value} {h0 h1 : Heap} {n0 : Nat} {cells slots : Nat} {rm : Room} {Q' : Option Value → Heap → List Loc → Prop} (u1 u2 u3 : Int32) (q : Addr) (cc : Int32) (X0 : Stand p l e room_1 s m args below meth c T0 locs cells slots) (H : own_Cx p s m meth c Z a0 n0 h0) (e0 : T0.heap = h1)
    (hM : own_Ctr l Z (⟨"com/example/limentinus/limentinus/simulator/RecordQueueIsEmptyPinLaw", "step", "(Lcom/example/limentinus/limentinus/simulator/RecordQueue;II)I"⟩ : MethodName) method_2_code 3 (some .int) [] rm rm.cells rm.slots #[(.ref q), (.int cc), (.int ((u3).toUInt32 >>> ((8 : Int32) &&& 31).toUInt32).toInt32)] h1 Q') (hf : rm.frames + 1 ≤ room_1.frames) (hl : 0 + (3 + 11) + rm.locals ≤ room_1.locals) (hc : cells + rm.cells ≤ room_1.cells) (hs : slots + rm.slots ≤ room_1.slots)
    (k : ∀ v T' L, Stand p l e room_1 s m args below meth c T' (locs ++ L) (cells + rm.cells) (slots + rm.slots) → Q' v T'.heap L → ∃ c' : Int32, v = some (.int c') ∧ own_Goes p e below s 32 320 (Q_own_law Z u1 u2 u3 h0 n0) T' (mkF m 126 #[iv u1, iv u2, iv u3, rv q, iv c'] [])) : own_Goes p e below s 32 320 (Q_own_law Z u1 u2 u3 h0 n0) T0 (mkF m 114 #[iv u1, iv u2, iv u3, rv q, iv cc] []) := by
  obtain ⟨hx, hZ, hw, hby, hml, hown, hnm, hlk, hret, Z0⟩ := id H
  refine own_by (g' := (mkF m 121 #[iv u1, iv u2, iv u3, rv q, iv cc] [(.int ((u3).toUInt32 >>> ((8 : Int32) &&& 31).toUInt32).toInt32), (.int cc), (.ref q)])) (fun t k' => XS.aloadN X0.here hx rfl (hb hby at_114) rfl rfl (XS.iload X0.here hx rfl (hb hby at_115) rfl (XS.iloadN X0.here hx rfl (hb hby at_117) rfl (XS.bipush X0.here hx rfl (hb hby at_118) (XS.iushr X0.here hx rfl (hb hby at_120) rfl k'))))) ?_
  refine own_callS X0 hx hZ hown (hw _ (List.mem_of_getElem? (i := 26) rfl)) (hw _ (List.mem_of_getElem? (i := 27) rfl)) (hw _ (List.mem_of_getElem? (i := 28) rfl)) (hw _ (List.mem_of_getElem? (i := 29) rfl)) (by decide) hM 0 hf hl hc hs e0 (g := (mkF m 121 #[iv u1, iv u2, iv u3, rv q, iv cc] [(.int ((u3).toUInt32 >>> ((8 : Int32) &&& 31).toUInt32).toInt32), (.int cc), (.ref q)])) rfl (by rw [hml]; rfl) (argsL := [(.ref q), (.int cc), (.int ((u3).toUInt32 >>> ((8 : Int32) &&& 31).toUInt32).toInt32)]) (rest := []) (lenOf own_pd6 rfl) rfl (by show 2 * 0 + _ ≤ _; exact Nat.le_of_eq rfl) (hb hby at_121) ?_
  intro v T' L X' q'
  obtain ⟨c', rfl, G⟩ := k v T' L X' q'
  show own_Goes p e below s 32 320 (Q_own_law Z u1 u2 u3 h0 n0) T' (mkF m 124 #[iv u1, iv u2, iv u3, rv q, iv cc] [(.int c')])
  exact own_by (g' := (mkF m 126 #[iv u1, iv u2, iv u3, rv q, iv c'] [])) (fun t k' => XS.istore X'.here hx rfl (hb hby at_124) rfl (l' := #[iv u1, iv u2, iv u3, rv q, iv c']) rfl k') G
set_option maxRecDepth 65536 in
set_option maxHeartbeats 40000000 in
theorem own_lv9 {p : Program} {l : Launch} {e : Env} {s : State} {m : MethodId} {args : Array Value} {below : List Frame} {meth : Method} {c : Code} {T0 : State} {locs : List Loc} {Z : State} {a0 : Array Value} {h0 h1 : Heap} {n0 : Nat} {cells slots : Nat} {rm : Room} {Q' : Option Value → Heap → List Loc → Prop} (u1 u2 u3 : Int32) (q : Addr) (cc : Int32) (X0 : Stand p l e room_1 s m args below meth c T0 locs cells slots) (H : own_Cx p s m meth c Z a0 n0 h0) (e0 : T0.heap = h1)
    (hM : own_Ctr l Z (⟨"com/example/limentinus/limentinus/simulator/RecordQueueIsEmptyPinLaw", "step", "(Lcom/example/limentinus/limentinus/simulator/RecordQueue;II)I"⟩ : MethodName) method_2_code 3 (some .int) [] rm rm.cells rm.slots #[(.ref q), (.int cc), (.int ((u3).toUInt32 >>> ((9 : Int32) &&& 31).toUInt32).toInt32)] h1 Q') (hf : rm.frames + 1 ≤ room_1.frames) (hl : 0 + (3 + 11) + rm.locals ≤ room_1.locals) (hc : cells + rm.cells ≤ room_1.cells) (hs : slots + rm.slots ≤ room_1.slots)
    (k : ∀ v T' L, Stand p l e room_1 s m args below meth c T' (locs ++ L) (cells + rm.cells) (slots + rm.slots) → Q' v T'.heap L → ∃ c' : Int32, v = some (.int c') ∧ own_Goes p e below s 32 320 (Q_own_law Z u1 u2 u3 h0 n0) T' (mkF m 138 #[iv u1, iv u2, iv u3, rv q, iv c'] [])) : own_Goes p e below s 32 320 (Q_own_law Z u1 u2 u3 h0 n0) T0 (mkF m 126 #[iv u1, iv u2, iv u3, rv q, iv cc] []) := by
  obtain ⟨hx, hZ, hw, hby, hml, hown, hnm, hlk, hret, Z0⟩ := id H
  refine own_by (g' := (mkF m 133 #[iv u1, iv u2, iv u3, rv q, iv cc] [(.int ((u3).toUInt32 >>> ((9 : Int32) &&& 31).toUInt32).toInt32), (.int cc), (.ref q)])) (fun t k' => XS.aloadN X0.here hx rfl (hb hby at_126) rfl rfl (XS.iload X0.here hx rfl (hb hby at_127) rfl (XS.iloadN X0.here hx rfl (hb hby at_129) rfl (XS.bipush X0.here hx rfl (hb hby at_130) (XS.iushr X0.here hx rfl (hb hby at_132) rfl k'))))) ?_
  refine own_callS X0 hx hZ hown (hw _ (List.mem_of_getElem? (i := 26) rfl)) (hw _ (List.mem_of_getElem? (i := 27) rfl)) (hw _ (List.mem_of_getElem? (i := 28) rfl)) (hw _ (List.mem_of_getElem? (i := 29) rfl)) (by decide) hM 0 hf hl hc hs e0 (g := (mkF m 133 #[iv u1, iv u2, iv u3, rv q, iv cc] [(.int ((u3).toUInt32 >>> ((9 : Int32) &&& 31).toUInt32).toInt32), (.int cc), (.ref q)])) rfl (by rw [hml]; rfl) (argsL := [(.ref q), (.int cc), (.int ((u3).toUInt32 >>> ((9 : Int32) &&& 31).toUInt32).toInt32)]) (rest := []) (lenOf own_pd6 rfl) rfl (by show 2 * 0 + _ ≤ _; exact Nat.le_of_eq rfl) (hb hby at_133) ?_
  intro v T' L X' q'
  obtain ⟨c', rfl, G⟩ := k v T' L X' q'
  show own_Goes p e below s 32 320 (Q_own_law Z u1 u2 u3 h0 n0) T' (mkF m 136 #[iv u1, iv u2, iv u3, rv q, iv cc] [(.int c')])
  exact own_by (g' := (mkF m 138 #[iv u1, iv u2, iv u3, rv q, iv c'] [])) (fun t k' => XS.istore X'.here hx rfl (hb hby at_136) rfl (l' := #[iv u1, iv u2, iv u3, rv q, iv c']) rfl k') G
set_option maxRecDepth 65536 in
set_option maxHeartbeats 40000000 in
theorem own_gF0 {p : Program} {l : Launch} {e : Env} {s : State} {m : MethodId} {args : Array Value} {below : List Frame} {meth : Method} {c : Code} {T0 : State} {locs : List Loc} {Z : State} {a0 : Array Value} {h0 h1 : Heap} {n0 : Nat} (u1 : Int32) (u2 : Int32) (u3 : Int32) (q : Addr)
    (X0 : Stand p l e room_1 s m args below meth c T0 locs 10 102) (hx : p.tables.exec = Jvm.exec) (hZ : Z.Warmed39 s.vm) (hw : ∀ d ∈ tables_1, d.before a0 Z = true) (hby : c.code = code) (hml : c.maxLocals = maxLocals) (hown : s.vm.findClass "com/example/limentinus/limentinus/simulator/RecordQueueIsEmptyPinLaw" = some m.cls) (hnm : meth.name = "law") (hlk : meth.locks = false) (hret : meth.sig.returnType = ret) (Z0 : n0 ≤ h0.size) (e0 : T0.heap = h1) (N0 : Fr n0 locs) (K0 : Keep h0 h1 [])  :
    own_Goes p e below s 32 320 (Q_own_law Z u1 u2 u3 h0 n0) T0 (mkF m 138 #[iv u1, iv u2, iv u3, rv q, iv (0 : Int32)] []) := by
  refine own_by (g' := (mkF m 148 #[iv u1, iv u2, iv u3, rv q, iv (0 : Int32)] [(.int (1 : Int32))])) (fun t k => XS.iload X0.here hx rfl (hb hby at_138) rfl (XS.ifNo X0.here hx rfl (hb hby at_140) rfl ((if0 _ _).trans (flt (by decide : ¬ ((0 : Int32) < (0 : Int32)))).1) (XS.iconst X0.here hx rfl (hb hby at_143) (XS.goto X0.here hx rfl (pc0 := 144) (pc' := 148) rfl (hb hby at_144) (by decide) (by decide) k)))) ?_
  refine own_retN X0 hx hlk hret (t := .boolean) (by simp) (hb hby at_148) (by decide) (by decide) ?_
  rw [e0]
  exact ⟨rfl, N0, ((Keep.refl h0 []).trans K0 all0)⟩
set_option maxRecDepth 65536 in
set_option maxHeartbeats 40000000 in
theorem own_gF1 {p : Program} {l : Launch} {e : Env} {s : State} {m : MethodId} {args : Array Value} {below : List Frame} {meth : Method} {c : Code} {T0 : State} {locs : List Loc} {Z : State} {a0 : Array Value} {h0 h1 : Heap} {n0 : Nat} (u1 : Int32) (u2 : Int32) (u3 : Int32) (q : Addr)
    (X0 : Stand p l e room_1 s m args below meth c T0 locs 10 102) (hx : p.tables.exec = Jvm.exec) (hZ : Z.Warmed39 s.vm) (hw : ∀ d ∈ tables_1, d.before a0 Z = true) (hby : c.code = code) (hml : c.maxLocals = maxLocals) (hown : s.vm.findClass "com/example/limentinus/limentinus/simulator/RecordQueueIsEmptyPinLaw" = some m.cls) (hnm : meth.name = "law") (hlk : meth.locks = false) (hret : meth.sig.returnType = ret) (Z0 : n0 ≤ h0.size) (e0 : T0.heap = h1) (N0 : Fr n0 locs) (K0 : Keep h0 h1 [])  :
    own_Goes p e below s 32 320 (Q_own_law Z u1 u2 u3 h0 n0) T0 (mkF m 138 #[iv u1, iv u2, iv u3, rv q, iv (1 : Int32)] []) := by
  refine own_by (g' := (mkF m 148 #[iv u1, iv u2, iv u3, rv q, iv (1 : Int32)] [(.int (1 : Int32))])) (fun t k => XS.iload X0.here hx rfl (hb hby at_138) rfl (XS.ifNo X0.here hx rfl (hb hby at_140) rfl ((if0 _ _).trans (flt (by decide : ¬ ((1 : Int32) < (0 : Int32)))).1) (XS.iconst X0.here hx rfl (hb hby at_143) (XS.goto X0.here hx rfl (pc0 := 144) (pc' := 148) rfl (hb hby at_144) (by decide) (by decide) k)))) ?_
  refine own_retN X0 hx hlk hret (t := .boolean) (by simp) (hb hby at_148) (by decide) (by decide) ?_
  rw [e0]
  exact ⟨rfl, N0, ((Keep.refl h0 []).trans K0 all0)⟩
set_option maxRecDepth 65536 in
set_option maxHeartbeats 40000000 in
theorem own_gF2 {p : Program} {l : Launch} {e : Env} {s : State} {m : MethodId} {args : Array Value} {below : List Frame} {meth : Method} {c : Code} {T0 : State} {locs : List Loc} {Z : State} {a0 : Array Value} {h0 h1 : Heap} {n0 : Nat} (u1 : Int32) (u2 : Int32) (u3 : Int32) (q : Addr)
    (X0 : Stand p l e room_1 s m args below meth c T0 locs 10 102) (hx : p.tables.exec = Jvm.exec) (hZ : Z.Warmed39 s.vm) (hw : ∀ d ∈ tables_1, d.before a0 Z = true) (hby : c.code = code) (hml : c.maxLocals = maxLocals) (hown : s.vm.findClass "com/example/limentinus/limentinus/simulator/RecordQueueIsEmptyPinLaw" = some m.cls) (hnm : meth.name = "law") (hlk : meth.locks = false) (hret : meth.sig.returnType = ret) (Z0 : n0 ≤ h0.size) (e0 : T0.heap = h1) (N0 : Fr n0 locs) (K0 : Keep h0 h1 [])  :
    own_Goes p e below s 32 320 (Q_own_law Z u1 u2 u3 h0 n0) T0 (mkF m 138 #[iv u1, iv u2, iv u3, rv q, iv (2 : Int32)] []) := by
  refine own_by (g' := (mkF m 148 #[iv u1, iv u2, iv u3, rv q, iv (2 : Int32)] [(.int (1 : Int32))])) (fun t k => XS.iload X0.here hx rfl (hb hby at_138) rfl (XS.ifNo X0.here hx rfl (hb hby at_140) rfl ((if0 _ _).trans (flt (by decide : ¬ ((2 : Int32) < (0 : Int32)))).1) (XS.iconst X0.here hx rfl (hb hby at_143) (XS.goto X0.here hx rfl (pc0 := 144) (pc' := 148) rfl (hb hby at_144) (by decide) (by decide) k)))) ?_
  refine own_retN X0 hx hlk hret (t := .boolean) (by simp) (hb hby at_148) (by decide) (by decide) ?_
  rw [e0]
  exact ⟨rfl, N0, ((Keep.refl h0 []).trans K0 all0)⟩
set_option maxRecDepth 65536 in
set_option maxHeartbeats 40000000 in
theorem own_gF3 {p : Program} {l : Launch} {e : Env} {s : State} {m : MethodId} {args : Array Value} {below : List Frame} {meth : Method} {c : Code} {T0 : State} {locs : List Loc} {Z : State} {a0 : Array Value} {h0 h1 : Heap} {n0 : Nat} (u1 : Int32) (u2 : Int32) (u3 : Int32) (q : Addr)
    (X0 : Stand p l e room_1 s m args below meth c T0 locs 10 102) (hx : p.tables.exec = Jvm.exec) (hZ : Z.Warmed39 s.vm) (hw : ∀ d ∈ tables_1, d.before a0 Z = true) (hby : c.code = code) (hml : c.maxLocals = maxLocals) (hown : s.vm.findClass "com/example/limentinus/limentinus/simulator/RecordQueueIsEmptyPinLaw" = some m.cls) (hnm : meth.name = "law") (hlk : meth.locks = false) (hret : meth.sig.returnType = ret) (Z0 : n0 ≤ h0.size) (e0 : T0.heap = h1) (N0 : Fr n0 locs) (K0 : Keep h0 h1 [])  :
    own_Goes p e below s 32 320 (Q_own_law Z u1 u2 u3 h0 n0) T0 (mkF m 138 #[iv u1, iv u2, iv u3, rv q, iv (3 : Int32)] []) := by
  refine own_by (g' := (mkF m 148 #[iv u1, iv u2, iv u3, rv q, iv (3 : Int32)] [(.int (1 : Int32))])) (fun t k => XS.iload X0.here hx rfl (hb hby at_138) rfl (XS.ifNo X0.here hx rfl (hb hby at_140) rfl ((if0 _ _).trans (flt (by decide : ¬ ((3 : Int32) < (0 : Int32)))).1) (XS.iconst X0.here hx rfl (hb hby at_143) (XS.goto X0.here hx rfl (pc0 := 144) (pc' := 148) rfl (hb hby at_144) (by decide) (by decide) k)))) ?_
  refine own_retN X0 hx hlk hret (t := .boolean) (by simp) (hb hby at_148) (by decide) (by decide) ?_
  rw [e0]
  exact ⟨rfl, N0, ((Keep.refl h0 []).trans K0 all0)⟩
set_option maxRecDepth 65536 in
set_option maxHeartbeats 40000000 in
theorem own_gF4 {p : Program} {l : Launch} {e : Env} {s : State} {m : MethodId} {args : Array Value} {below : List Frame} {meth : Method} {c : Code} {T0 : State} {locs : List Loc} {Z : State} {a0 : Array Value} {h0 h1 : Heap} {n0 : Nat} (u1 : Int32) (u2 : Int32) (u3 : Int32) (q : Addr)
    (X0 : Stand p l e room_1 s m args below meth c T0 locs 10 102) (hx : p.tables.exec = Jvm.exec) (hZ : Z.Warmed39 s.vm) (hw : ∀ d ∈ tables_1, d.before a0 Z = true) (hby : c.code = code) (hml : c.maxLocals = maxLocals) (hown : s.vm.findClass "com/example/limentinus/limentinus/simulator/RecordQueueIsEmptyPinLaw" = some m.cls) (hnm : meth.name = "law") (hlk : meth.locks = false) (hret : meth.sig.returnType = ret) (Z0 : n0 ≤ h0.size) (e0 : T0.heap = h1) (N0 : Fr n0 locs) (K0 : Keep h0 h1 [])  :
    own_Goes p e below s 32 320 (Q_own_law Z u1 u2 u3 h0 n0) T0 (mkF m 138 #[iv u1, iv u2, iv u3, rv q, iv (4 : Int32)] []) := by
  refine own_by (g' := (mkF m 148 #[iv u1, iv u2, iv u3, rv q, iv (4 : Int32)] [(.int (1 : Int32))])) (fun t k => XS.iload X0.here hx rfl (hb hby at_138) rfl (XS.ifNo X0.here hx rfl (hb hby at_140) rfl ((if0 _ _).trans (flt (by decide : ¬ ((4 : Int32) < (0 : Int32)))).1) (XS.iconst X0.here hx rfl (hb hby at_143) (XS.goto X0.here hx rfl (pc0 := 144) (pc' := 148) rfl (hb hby at_144) (by decide) (by decide) k)))) ?_
  refine own_retN X0 hx hlk hret (t := .boolean) (by simp) (hb hby at_148) (by decide) (by decide) ?_
  rw [e0]
  exact ⟨rfl, N0, ((Keep.refl h0 []).trans K0 all0)⟩
set_option maxRecDepth 65536 in
set_option maxHeartbeats 40000000 in
theorem own_gF5 {p : Program} {l : Launch} {e : Env} {s : State} {m : MethodId} {args : Array Value} {below : List Frame} {meth : Method} {c : Code} {T0 : State} {locs : List Loc} {Z : State} {a0 : Array Value} {h0 h1 : Heap} {n0 : Nat} (u1 : Int32) (u2 : Int32) (u3 : Int32) (q : Addr)
    (X0 : Stand p l e room_1 s m args below meth c T0 locs 10 102) (hx : p.tables.exec = Jvm.exec) (hZ : Z.Warmed39 s.vm) (hw : ∀ d ∈ tables_1, d.before a0 Z = true) (hby : c.code = code) (hml : c.maxLocals = maxLocals) (hown : s.vm.findClass "com/example/limentinus/limentinus/simulator/RecordQueueIsEmptyPinLaw" = some m.cls) (hnm : meth.name = "law") (hlk : meth.locks = false) (hret : meth.sig.returnType = ret) (Z0 : n0 ≤ h0.size) (e0 : T0.heap = h1) (N0 : Fr n0 locs) (K0 : Keep h0 h1 [])  :
    own_Goes p e below s 32 320 (Q_own_law Z u1 u2 u3 h0 n0) T0 (mkF m 138 #[iv u1, iv u2, iv u3, rv q, iv (5 : Int32)] []) := by
  refine own_by (g' := (mkF m 148 #[iv u1, iv u2, iv u3, rv q, iv (5 : Int32)] [(.int (1 : Int32))])) (fun t k => XS.iload X0.here hx rfl (hb hby at_138) rfl (XS.ifNo X0.here hx rfl (hb hby at_140) rfl ((if0 _ _).trans (flt (by decide : ¬ ((5 : Int32) < (0 : Int32)))).1) (XS.iconst X0.here hx rfl (hb hby at_143) (XS.goto X0.here hx rfl (pc0 := 144) (pc' := 148) rfl (hb hby at_144) (by decide) (by decide) k)))) ?_
  refine own_retN X0 hx hlk hret (t := .boolean) (by simp) (hb hby at_148) (by decide) (by decide) ?_
  rw [e0]
  exact ⟨rfl, N0, ((Keep.refl h0 []).trans K0 all0)⟩
set_option maxRecDepth 65536 in
set_option maxHeartbeats 40000000 in
theorem own_gF6 {p : Program} {l : Launch} {e : Env} {s : State} {m : MethodId} {args : Array Value} {below : List Frame} {meth : Method} {c : Code} {T0 : State} {locs : List Loc} {Z : State} {a0 : Array Value} {h0 h1 : Heap} {n0 : Nat} (u1 : Int32) (u2 : Int32) (u3 : Int32) (q : Addr)
    (X0 : Stand p l e room_1 s m args below meth c T0 locs 10 102) (hx : p.tables.exec = Jvm.exec) (hZ : Z.Warmed39 s.vm) (hw : ∀ d ∈ tables_1, d.before a0 Z = true) (hby : c.code = code) (hml : c.maxLocals = maxLocals) (hown : s.vm.findClass "com/example/limentinus/limentinus/simulator/RecordQueueIsEmptyPinLaw" = some m.cls) (hnm : meth.name = "law") (hlk : meth.locks = false) (hret : meth.sig.returnType = ret) (Z0 : n0 ≤ h0.size) (e0 : T0.heap = h1) (N0 : Fr n0 locs) (K0 : Keep h0 h1 [])  :
    own_Goes p e below s 32 320 (Q_own_law Z u1 u2 u3 h0 n0) T0 (mkF m 138 #[iv u1, iv u2, iv u3, rv q, iv (6 : Int32)] []) := by
  refine own_by (g' := (mkF m 148 #[iv u1, iv u2, iv u3, rv q, iv (6 : Int32)] [(.int (1 : Int32))])) (fun t k => XS.iload X0.here hx rfl (hb hby at_138) rfl (XS.ifNo X0.here hx rfl (hb hby at_140) rfl ((if0 _ _).trans (flt (by decide : ¬ ((6 : Int32) < (0 : Int32)))).1) (XS.iconst X0.here hx rfl (hb hby at_143) (XS.goto X0.here hx rfl (pc0 := 144) (pc' := 148) rfl (hb hby at_144) (by decide) (by decide) k)))) ?_
  refine own_retN X0 hx hlk hret (t := .boolean) (by simp) (hb hby at_148) (by decide) (by decide) ?_
  rw [e0]
  exact ⟨rfl, N0, ((Keep.refl h0 []).trans K0 all0)⟩
set_option maxRecDepth 65536 in
set_option maxHeartbeats 40000000 in
theorem own_gF7 {p : Program} {l : Launch} {e : Env} {s : State} {m : MethodId} {args : Array Value} {below : List Frame} {meth : Method} {c : Code} {T0 : State} {locs : List Loc} {Z : State} {a0 : Array Value} {h0 h1 : Heap} {n0 : Nat} (u1 : Int32) (u2 : Int32) (u3 : Int32) (q : Addr)
    (X0 : Stand p l e room_1 s m args below meth c T0 locs 10 102) (hx : p.tables.exec = Jvm.exec) (hZ : Z.Warmed39 s.vm) (hw : ∀ d ∈ tables_1, d.before a0 Z = true) (hby : c.code = code) (hml : c.maxLocals = maxLocals) (hown : s.vm.findClass "com/example/limentinus/limentinus/simulator/RecordQueueIsEmptyPinLaw" = some m.cls) (hnm : meth.name = "law") (hlk : meth.locks = false) (hret : meth.sig.returnType = ret) (Z0 : n0 ≤ h0.size) (e0 : T0.heap = h1) (N0 : Fr n0 locs) (K0 : Keep h0 h1 [])  :
    own_Goes p e below s 32 320 (Q_own_law Z u1 u2 u3 h0 n0) T0 (mkF m 138 #[iv u1, iv u2, iv u3, rv q, iv (7 : Int32)] []) := by
  refine own_by (g' := (mkF m 148 #[iv u1, iv u2, iv u3, rv q, iv (7 : Int32)] [(.int (1 : Int32))])) (fun t k => XS.iload X0.here hx rfl (hb hby at_138) rfl (XS.ifNo X0.here hx rfl (hb hby at_140) rfl ((if0 _ _).trans (flt (by decide : ¬ ((7 : Int32) < (0 : Int32)))).1) (XS.iconst X0.here hx rfl (hb hby at_143) (XS.goto X0.here hx rfl (pc0 := 144) (pc' := 148) rfl (hb hby at_144) (by decide) (by decide) k)))) ?_
  refine own_retN X0 hx hlk hret (t := .boolean) (by simp) (hb hby at_148) (by decide) (by decide) ?_
  rw [e0]
  exact ⟨rfl, N0, ((Keep.refl h0 []).trans K0 all0)⟩
set_option maxRecDepth 65536 in
set_option maxHeartbeats 40000000 in
theorem own_gF8 {p : Program} {l : Launch} {e : Env} {s : State} {m : MethodId} {args : Array Value} {below : List Frame} {meth : Method} {c : Code} {T0 : State} {locs : List Loc} {Z : State} {a0 : Array Value} {h0 h1 : Heap} {n0 : Nat} (u1 : Int32) (u2 : Int32) (u3 : Int32) (q : Addr)
    (X0 : Stand p l e room_1 s m args below meth c T0 locs 10 102) (hx : p.tables.exec = Jvm.exec) (hZ : Z.Warmed39 s.vm) (hw : ∀ d ∈ tables_1, d.before a0 Z = true) (hby : c.code = code) (hml : c.maxLocals = maxLocals) (hown : s.vm.findClass "com/example/limentinus/limentinus/simulator/RecordQueueIsEmptyPinLaw" = some m.cls) (hnm : meth.name = "law") (hlk : meth.locks = false) (hret : meth.sig.returnType = ret) (Z0 : n0 ≤ h0.size) (e0 : T0.heap = h1) (N0 : Fr n0 locs) (K0 : Keep h0 h1 [])  :
    own_Goes p e below s 32 320 (Q_own_law Z u1 u2 u3 h0 n0) T0 (mkF m 138 #[iv u1, iv u2, iv u3, rv q, iv (8 : Int32)] []) := by
  refine own_by (g' := (mkF m 148 #[iv u1, iv u2, iv u3, rv q, iv (8 : Int32)] [(.int (1 : Int32))])) (fun t k => XS.iload X0.here hx rfl (hb hby at_138) rfl (XS.ifNo X0.here hx rfl (hb hby at_140) rfl ((if0 _ _).trans (flt (by decide : ¬ ((8 : Int32) < (0 : Int32)))).1) (XS.iconst X0.here hx rfl (hb hby at_143) (XS.goto X0.here hx rfl (pc0 := 144) (pc' := 148) rfl (hb hby at_144) (by decide) (by decide) k)))) ?_
  refine own_retN X0 hx hlk hret (t := .boolean) (by simp) (hb hby at_148) (by decide) (by decide) ?_
  rw [e0]
  exact ⟨rfl, N0, ((Keep.refl h0 []).trans K0 all0)⟩
set_option maxRecDepth 65536 in
set_option maxHeartbeats 40000000 in
theorem own_gF9 {p : Program} {l : Launch} {e : Env} {s : State} {m : MethodId} {args : Array Value} {below : List Frame} {meth : Method} {c : Code} {T0 : State} {locs : List Loc} {Z : State} {a0 : Array Value} {h0 h1 : Heap} {n0 : Nat} (u1 : Int32) (u2 : Int32) (u3 : Int32) (q : Addr)
    (X0 : Stand p l e room_1 s m args below meth c T0 locs 10 102) (hx : p.tables.exec = Jvm.exec) (hZ : Z.Warmed39 s.vm) (hw : ∀ d ∈ tables_1, d.before a0 Z = true) (hby : c.code = code) (hml : c.maxLocals = maxLocals) (hown : s.vm.findClass "com/example/limentinus/limentinus/simulator/RecordQueueIsEmptyPinLaw" = some m.cls) (hnm : meth.name = "law") (hlk : meth.locks = false) (hret : meth.sig.returnType = ret) (Z0 : n0 ≤ h0.size) (e0 : T0.heap = h1) (N0 : Fr n0 locs) (K0 : Keep h0 h1 [])  :
    own_Goes p e below s 32 320 (Q_own_law Z u1 u2 u3 h0 n0) T0 (mkF m 138 #[iv u1, iv u2, iv u3, rv q, iv (9 : Int32)] []) := by
  refine own_by (g' := (mkF m 148 #[iv u1, iv u2, iv u3, rv q, iv (9 : Int32)] [(.int (1 : Int32))])) (fun t k => XS.iload X0.here hx rfl (hb hby at_138) rfl (XS.ifNo X0.here hx rfl (hb hby at_140) rfl ((if0 _ _).trans (flt (by decide : ¬ ((9 : Int32) < (0 : Int32)))).1) (XS.iconst X0.here hx rfl (hb hby at_143) (XS.goto X0.here hx rfl (pc0 := 144) (pc' := 148) rfl (hb hby at_144) (by decide) (by decide) k)))) ?_
  refine own_retN X0 hx hlk hret (t := .boolean) (by simp) (hb hby at_148) (by decide) (by decide) ?_
  rw [e0]
  exact ⟨rfl, N0, ((Keep.refl h0 []).trans K0 all0)⟩
set_option maxRecDepth 65536 in
set_option maxHeartbeats 40000000 in
theorem own_gF10 {p : Program} {l : Launch} {e : Env} {s : State} {m : MethodId} {args : Array Value} {below : List Frame} {meth : Method} {c : Code} {T0 : State} {locs : List Loc} {Z : State} {a0 : Array Value} {h0 h1 : Heap} {n0 : Nat} (u1 : Int32) (u2 : Int32) (u3 : Int32) (q : Addr)
    (X0 : Stand p l e room_1 s m args below meth c T0 locs 10 102) (hx : p.tables.exec = Jvm.exec) (hZ : Z.Warmed39 s.vm) (hw : ∀ d ∈ tables_1, d.before a0 Z = true) (hby : c.code = code) (hml : c.maxLocals = maxLocals) (hown : s.vm.findClass "com/example/limentinus/limentinus/simulator/RecordQueueIsEmptyPinLaw" = some m.cls) (hnm : meth.name = "law") (hlk : meth.locks = false) (hret : meth.sig.returnType = ret) (Z0 : n0 ≤ h0.size) (e0 : T0.heap = h1) (N0 : Fr n0 locs) (K0 : Keep h0 h1 [])  :
    own_Goes p e below s 32 320 (Q_own_law Z u1 u2 u3 h0 n0) T0 (mkF m 138 #[iv u1, iv u2, iv u3, rv q, iv (10 : Int32)] []) := by
  refine own_by (g' := (mkF m 148 #[iv u1, iv u2, iv u3, rv q, iv (10 : Int32)] [(.int (1 : Int32))])) (fun t k => XS.iload X0.here hx rfl (hb hby at_138) rfl (XS.ifNo X0.here hx rfl (hb hby at_140) rfl ((if0 _ _).trans (flt (by decide : ¬ ((10 : Int32) < (0 : Int32)))).1) (XS.iconst X0.here hx rfl (hb hby at_143) (XS.goto X0.here hx rfl (pc0 := 144) (pc' := 148) rfl (hb hby at_144) (by decide) (by decide) k)))) ?_
  refine own_retN X0 hx hlk hret (t := .boolean) (by simp) (hb hby at_148) (by decide) (by decide) ?_
  rw [e0]
  exact ⟨rfl, N0, ((Keep.refl h0 []).trans K0 all0)⟩
set_option maxRecDepth 65536 in
set_option maxHeartbeats 40000000 in
theorem own_g9_e_0_0 {p : Program} {l : Launch} {e : Env} {s : State} {m : MethodId} {args : Array Value} {below : List Frame} {meth : Method} {c : Code} {T0 : State} {locs : List Loc} {Z : State} {a0 : Array Value} {h0 h1 : Heap} {n0 : Nat} (u1 u2 u3 : Int32) (q : Addr) (X0 : Stand p l e room_1 s m args below meth c T0 locs 1 6) (H : own_Cx p s m meth c Z a0 n0 h0) (e0 : T0.heap = h1) (N0 : Fr n0 locs) (K0 : Keep h0 h1 []) (B0 : own_Q0 Z h1 q n0 (u1 &&& (3 : Int32)) (u2 &&& (3 : Int32))) (sq : h0.size ≤ q) : own_Goes p e below s 32 320 (Q_own_law Z u1 u2 u3 h0 n0) T0 (mkF m 126 #[iv u1, iv u2, iv u3, rv q, iv (0 : Int32)] []) := by
  obtain ⟨hx, hZ, hw, hby, hml, hown, hnm, hlk, hret, Z0⟩ := id H
  by_cases ho : (((u3).toUInt32 >>> ((9 : Int32) &&& 31).toUInt32).toInt32 &&& (1 : Int32)) = (0 : Int32)
  · refine own_lv9 u1 u2 u3 q (0 : Int32) X0 H e0 (own_sR0 l Z a0 hw [] ((0 : Int32)) (((u3).toUInt32 >>> ((9 : Int32) &&& 31).toUInt32).toInt32) (q) ((u1 &&& (3 : Int32))) ((u2 &&& (3 : Int32))) h1 n0 (Nat.le_trans Z0 K0.1) B0 (own_and3 u1) (own_and3 u2) (by decide) ho (by decide) (by decide)) (by decide) (by decide) (by decide) (by decide) ?_
    intro v T' L X' q'
    obtain ⟨rfl, N', e'⟩ := q'
    exact ⟨(0 : Int32), rfl, own_gF0 u1 u2 u3 q (own_mono X' (by decide) (by decide)) hx hZ hw hby hml hown hnm hlk hret Z0 e' (Fr.app N0 N') K0⟩
  · refine own_lv9 u1 u2 u3 q (0 : Int32) X0 H e0 (own_sA0 l Z a0 hw [] ((0 : Int32)) (((u3).toUInt32 >>> ((9 : Int32) &&& 31).toUInt32).toInt32) (q) ((u1 &&& (3 : Int32))) ((u2 &&& (3 : Int32))) h1 n0 (Nat.le_trans Z0 K0.1) B0 (own_and3 u1) (own_and3 u2) (by decide) ho (by decide)) (by decide) (by decide) (by decide) (by decide) ?_
    intro v T' L X' q'
    obtain ⟨nb1, na1, rfl, N', K', f', t0, t1⟩ := q'
    exact ⟨(1 : Int32), rfl, own_gF1 u1 u2 u3 q (own_mono X' (by decide) (by decide)) hx hZ hw hby hml hown hnm hlk hret Z0 rfl (Fr.app N0 N') (K0.trans K' (allS (Or.inr sq) all0))⟩
set_option maxRecDepth 65536 in
set_option maxHeartbeats 40000000 in
theorem own_g9_2_0_0 {p : Program} {l : Launch} {e : Env} {s : State} {m : MethodId} {args : Array Value} {below : List Frame} {meth : Method} {c : Code} {T0 : State} {locs : List Loc} {Z : State} {a0 : Array Value} {h0 h1 : Heap} {n0 : Nat} (u1 u2 u3 : Int32) (q b1 a1 : Addr) (X0 : Stand p l e room_1 s m args below meth c T0 locs 4 22) (H : own_Cx p s m meth c Z a0 n0 h0) (e0 : T0.heap = h1) (N0 : Fr n0 locs) (K0 : Keep h0 h1 []) (B0 : own_Q1 Z h1 q n0 (u1 &&& (3 : Int32)) (u2 &&& (3 : Int32)) (0 : Int32) (0 : Int32) b1 a1 (2 : Int32)) (sq : h0.size ≤ q) (sb1 : h0.size ≤ b1) (sa1 : h0.size ≤ a1) : own_Goes p e below s 32 320 (Q_own_law Z u1 u2 u3 h0 n0) T0 (mkF m 126 #[iv u1, iv u2, iv u3, rv q, iv (0 : Int32)] []) := by
  obtain ⟨hx, hZ, hw, hby, hml, hown, hnm, hlk, hret, Z0⟩ := id H
  by_cases ho : (((u3).toUInt32 >>> ((9 : Int32) &&& 31).toUInt32).toInt32 &&& (1 : Int32)) = (0 : Int32)
  · refine own_lv9 u1 u2 u3 q (0 : Int32) X0 H e0 (own_sR1z l Z a0 hw [] ((0 : Int32)) (((u3).toUInt32 >>> ((9 : Int32) &&& 31).toUInt32).toInt32) (q) ((u1 &&& (3 : Int32))) ((u2 &&& (3 : Int32))) ((0 : Int32)) ((0 : Int32)) (b1) (a1) ((2 : Int32)) h1 n0 (Nat.le_trans Z0 K0.1) B0 (own_and3 u1) (own_and3 u2) (by decide) ho (by decide) (by decide) (by decide)) (by decide) (by decide) (by decide) (by decide) ?_
    intro v T' L X' q'
    obtain ⟨rfl, N', e'⟩ := q'
    exact ⟨(0 : Int32), rfl, own_gF0 u1 u2 u3 q (own_mono X' (by decide) (by decide)) hx hZ hw hby hml hown hnm hlk hret Z0 e' (Fr.app N0 N') K0⟩
  · refine own_lv9 u1 u2 u3 q (0 : Int32) X0 H e0 (own_sA1n l Z a0 hw [] ((0 : Int32)) (((u3).toUInt32 >>> ((9 : Int32) &&& 31).toUInt32).toInt32) (q) ((u1 &&& (3 : Int32))) ((u2 &&& (3 : Int32))) ((0 : Int32)) ((0 : Int32)) (b1) (a1) ((2 : Int32)) h1 n0 (Nat.le_trans Z0 K0.1) B0 (own_and3 u1) (own_and3 u2) (by decide) ho (by decide) (by decide) (by decide)) (by decide) (by decide) (by decide) (by decide) ?_
    intro v T' L X' q'
    obtain ⟨rfl, N', K', f'⟩ := q'
    exact ⟨(1 : Int32), rfl, own_gF1 u1 u2 u3 q (own_mono X' (by decide) (by decide)) hx hZ hw hby hml hown hnm hlk hret Z0 rfl (Fr.app N0 N') (K0.trans K' (allS (Or.inr sq) all0))⟩
set_option maxRecDepth 65536 in
set_option maxHeartbeats 40000000 in
theorem own_g9_2_0_1 {p : Program} {l : Launch} {e : Env} {s : State} {m : MethodId} {args : Array Value} {below : List Frame} {meth : Method} {c : Code} {T0 : State} {locs : List Loc} {Z : State} {a0 : Array Value} {h0 h1 : Heap} {n0 : Nat} (u1 u2 u3 : Int32) (q b1 a1 : Addr) (X0 : Stand p l e room_1 s m args below meth c T0 locs 4 22) (H : own_Cx p s m meth c Z a0 n0 h0) (e0 : T0.heap = h1) (N0 : Fr n0 locs) (K0 : Keep h0 h1 []) (B0 : own_Q1 Z h1 q n0 (u1 &&& (3 : Int32)) (u2 &&& (3 : Int32)) (0 : Int32) (1 : Int32) b1 a1 (2 : Int32)) (sq : h0.size ≤ q) (sb1 : h0.size ≤ b1) (sa1 : h0.size ≤ a1) : own_Goes p e below s 32 320 (Q_own_law Z u1 u2 u3 h0 n0) T0 (mkF m 126 #[iv u1, iv u2, iv u3, rv q, iv (1 : Int32)] []) := by
  obtain ⟨hx, hZ, hw, hby, hml, hown, hnm, hlk, hret, Z0⟩ := id H
  by_cases ho : (((u3).toUInt32 >>> ((9 : Int32) &&& 31).toUInt32).toInt32 &&& (1 : Int32)) = (0 : Int32)
  · refine own_lv9 u1 u2 u3 q (1 : Int32) X0 H e0 (own_sR1e l Z a0 hw [] ((1 : Int32)) (((u3).toUInt32 >>> ((9 : Int32) &&& 31).toUInt32).toInt32) (q) ((u1 &&& (3 : Int32))) ((u2 &&& (3 : Int32))) ((0 : Int32)) ((1 : Int32)) (b1) (a1) ((2 : Int32)) h1 n0 (Nat.le_trans Z0 K0.1) B0 (own_and3 u1) (own_and3 u2) (by decide) ho (by decide) (by decide) (by decide) (by decide) (by decide) (by decide) (by decide)) (by decide) (by decide) (by decide) (by decide) ?_
    intro v T' L X' q'
    obtain ⟨rfl, N', K', f'⟩ := q'
    exact ⟨(0 : Int32), rfl, own_gF0 u1 u2 u3 q (own_mono X' (by decide) (by decide)) hx hZ hw hby hml hown hnm hlk hret Z0 rfl (Fr.app N0 N') (K0.trans K' (allS (Or.inr sq) (allS (Or.inr sa1) all0)))⟩
  · refine own_lv9 u1 u2 u3 q (1 : Int32) X0 H e0 (own_sA1n l Z a0 hw [] ((1 : Int32)) (((u3).toUInt32 >>> ((9 : Int32) &&& 31).toUInt32).toInt32) (q) ((u1 &&& (3 : Int32))) ((u2 &&& (3 : Int32))) ((0 : Int32)) ((1 : Int32)) (b1) (a1) ((2 : Int32)) h1 n0 (Nat.le_trans Z0 K0.1) B0 (own_and3 u1) (own_and3 u2) (by decide) ho (by decide) (by decide) (by decide)) (by decide) (by decide) (by decide) (by decide) ?_
    intro v T' L X' q'
    obtain ⟨rfl, N', K', f'⟩ := q'
    exact ⟨(2 : Int32), rfl, own_gF2 u1 u2 u3 q (own_mono X' (by decide) (by decide)) hx hZ hw hby hml hown hnm hlk hret Z0 rfl (Fr.app N0 N') (K0.trans K' (allS (Or.inr sq) all0))⟩
set_option maxRecDepth 65536 in
set_option maxHeartbeats 40000000 in
theorem own_g9_2_0_2 {p : Program} {l : Launch} {e : Env} {s : State} {m : MethodId} {args : Array Value} {below : List Frame} {meth : Method} {c : Code} {T0 : State} {locs : List Loc} {Z : State} {a0 : Array Value} {h0 h1 : Heap} {n0 : Nat} (u1 u2 u3 : Int32) (q b1 a1 : Addr) (X0 : Stand p l e room_1 s m args below meth c T0 locs 4 22) (H : own_Cx p s m meth c Z a0 n0 h0) (e0 : T0.heap = h1) (N0 : Fr n0 locs) (K0 : Keep h0 h1 []) (B0 : own_Q1 Z h1 q n0 (u1 &&& (3 : Int32)) (u2 &&& (3 : Int32)) (0 : Int32) (2 : Int32) b1 a1 (2 : Int32)) (sq : h0.size ≤ q) (sb1 : h0.size ≤ b1) (sa1 : h0.size ≤ a1) : own_Goes p e below s 32 320 (Q_own_law Z u1 u2 u3 h0 n0) T0 (mkF m 126 #[iv u1, iv u2, iv u3, rv q, iv (2 : Int32)] []) := by
  obtain ⟨hx, hZ, hw, hby, hml, hown, hnm, hlk, hret, Z0⟩ := id H
  by_cases ho : (((u3).toUInt32 >>> ((9 : Int32) &&& 31).toUInt32).toInt32 &&& (1 : Int32)) = (0 : Int32)
  · refine own_lv9 u1 u2 u3 q (2 : Int32) X0 H e0 (own_sR1n l Z a0 hw [] ((2 : Int32)) (((u3).toUInt32 >>> ((9 : Int32) &&& 31).toUInt32).toInt32) (q) ((u1 &&& (3 : Int32))) ((u2 &&& (3 : Int32))) ((0 : Int32)) ((2 : Int32)) (b1) (a1) ((2 : Int32)) h1 n0 (Nat.le_trans Z0 K0.1) B0 (own_and3 u1) (own_and3 u2) (by decide) ho (by decide) (by decide) (by decide) (by decide) (by decide) (by decide) (by decide) (by decide)) (by decide) (by decide) (by decide) (by decide) ?_
    intro v T' L X' q'
    obtain ⟨rfl, N', K', f'⟩ := q'
    exact ⟨(1 : Int32), rfl, own_gF1 u1 u2 u3 q (own_mono X' (by decide) (by decide)) hx hZ hw hby hml hown hnm hlk hret Z0 rfl (Fr.app N0 N') (K0.trans K' (allS (Or.inr sq) (allS (Or.inr sa1) all0)))⟩
  · refine own_lv9 u1 u2 u3 q (2 : Int32) X0 H e0 (own_sA1a2 l Z a0 hw [] ((2 : Int32)) (((u3).toUInt32 >>> ((9 : Int32) &&& 31).toUInt32).toInt32) (q) ((u1 &&& (3 : Int32))) ((u2 &&& (3 : Int32))) ((0 : Int32)) (b1) (a1) h1 n0 (Nat.le_trans Z0 K0.1) B0 (own_and3 u1) (own_and3 u2) (by decide) ho (by decide)) (by decide) (by decide) (by decide) (by decide) ?_
    intro v T' L X' q'
    obtain ⟨nb2, na2, rfl, N', K', f', t0, t1⟩ := q'
    exact ⟨(3 : Int32), rfl, own_gF3 u1 u2 u3 q (own_mono X' (by decide) (by decide)) hx hZ hw hby hml hown hnm hlk hret Z0 rfl (Fr.app N0 N') (K0.trans K' (allS (Or.inr sq) (allS (Or.inr sb1) all0)))⟩
set_option maxRecDepth 65536 in
set_option maxHeartbeats 40000000 in
theorem own_g9_2_1_2 {p : Program} {l : Launch} {e : Env} {s : State} {m : MethodId} {args : Array Value} {below : List Frame} {meth : Method} {c : Code} {T0 : State} {locs : List Loc} {Z : State} {a0 : Array Value} {h0 h1 : Heap} {n0 : Nat} (u1 u2 u3 : Int32) (q b1 a1 : Addr) (X0 : Stand p l e room_1 s m args below meth c T0 locs 4 22) (H : own_Cx p s m meth c Z a0 n0 h0) (e0 : T0.heap = h1) (N0 : Fr n0 locs) (K0 : Keep h0 h1 []) (B0 : own_Q1 Z h1 q n0 (u1 &&& (3 : Int32)) (u2 &&& (3 : Int32)) (1 : Int32) (2 : Int32) b1 a1 (2 : Int32)) (sq : h0.size ≤ q) (sb1 : h0.size ≤ b1) (sa1 : h0.size ≤ a1) : own_Goes p e below s 32 320 (Q_own_law Z u1 u2 u3 h0 n0) T0 (mkF m 126 #[iv u1, iv u2, iv u3, rv q, iv (1 : Int32)] []) := by
  obtain ⟨hx, hZ, hw, hby, hml, hown, hnm, hlk, hret, Z0⟩ := id H
  by_cases ho : (((u3).toUInt32 >>> ((9 : Int32) &&& 31).toUInt32).toInt32 &&& (1 : Int32)) = (0 : Int32)
  · refine own_lv9 u1 u2 u3 q (1 : Int32) X0 H e0 (own_sR1e l Z a0 hw [] ((1 : Int32)) (((u3).toUInt32 >>> ((9 : Int32) &&& 31).toUInt32).toInt32) (q) ((u1 &&& (3 : Int32))) ((u2 &&& (3 : Int32))) ((1 : Int32)) ((2 : Int32)) (b1) (a1) ((2 : Int32)) h1 n0 (Nat.le_trans Z0 K0.1) B0 (own_and3 u1) (own_and3 u2) (by decide) ho (by decide) (by decide) (by decide) (by decide) (by decide) (by decide) (by decide)) (by decide) (by decide) (by decide) (by decide) ?_
    intro v T' L X' q'
    obtain ⟨rfl, N', K', f'⟩ := q'
    exact ⟨(0 : Int32), rfl, own_gF0 u1 u2 u3 q (own_mono X' (by decide) (by decide)) hx hZ hw hby hml hown hnm hlk hret Z0 rfl (Fr.app N0 N') (K0.trans K' (allS (Or.inr sq) (allS (Or.inr sa1) all0)))⟩
  · refine own_lv9 u1 u2 u3 q (1 : Int32) X0 H e0 (own_sA1a2 l Z a0 hw [] ((1 : Int32)) (((u3).toUInt32 >>> ((9 : Int32) &&& 31).toUInt32).toInt32) (q) ((u1 &&& (3 : Int32))) ((u2 &&& (3 : Int32))) ((1 : Int32)) (b1) (a1) h1 n0 (Nat.le_trans Z0 K0.1) B0 (own_and3 u1) (own_and3 u2) (by decide) ho (by decide)) (by decide) (by decide) (by decide) (by decide) ?_
    intro v T' L X' q'
    obtain ⟨nb2, na2, rfl, N', K', f', t0, t1⟩ := q'
    exact ⟨(2 : Int32), rfl, own_gF2 u1 u2 u3 q (own_mono X' (by decide) (by decide)) hx hZ hw hby hml hown hnm hlk hret Z0 rfl (Fr.app N0 N') (K0.trans K' (allS (Or.inr sq) (allS (Or.inr sb1) all0)))⟩
set_option maxRecDepth 65536 in
set_option maxHeartbeats 40000000 in
theorem own_g9_24_0_1 {p : Program} {l : Launch} {e : Env} {s : State} {m : MethodId} {args : Array Value} {below : List Frame} {meth : Method} {c : Code} {T0 : State} {locs : List Loc} {Z : State} {a0 : Array Value} {h0 h1 : Heap} {n0 : Nat} (u1 u2 u3 : Int32) (q b1 a1 b2 a2 : Addr) (X0 : Stand p l e room_1 s m args below meth c T0 locs 7 50) (H : own_Cx p s m meth c Z a0 n0 h0) (e0 : T0.heap = h1) (N0 : Fr n0 locs) (K0 : Keep h0 h1 []) (B0 : own_Q2 Z h1 q n0 (u1 &&& (3 : Int32)) (u2 &&& (3 : Int32)) (0 : Int32) (1 : Int32) b1 a1 (2 : Int32) b2 a2 (4 : Int32)) (sq : h0.size ≤ q) (sb1 : h0.size ≤ b1) (sa1 : h0.size ≤ a1) (sb2 : h0.size ≤ b2) (sa2 : h0.size ≤ a2) : own_Goes p e below s 32 320 (Q_own_law Z u1 u2 u3 h0 n0) T0 (mkF m 126 #[iv u1, iv u2, iv u3, rv q, iv (3 : Int32)] []) := by
  obtain ⟨hx, hZ, hw, hby, hml, hown, hnm, hlk, hret, Z0⟩ := id H
  by_cases ho : (((u3).toUInt32 >>> ((9 : Int32) &&& 31).toUInt32).toInt32 &&& (1 : Int32)) = (0 : Int32)
  · refine own_lv9 u1 u2 u3 q (3 : Int32) X0 H e0 (own_sR2n l Z a0 hw [] ((3 : Int32)) (((u3).toUInt32 >>> ((9 : Int32) &&& 31).toUInt32).toInt32) (q) ((u1 &&& (3 : Int32))) ((u2 &&& (3 : Int32))) ((0 : Int32)) ((1 : Int32)) (b1) (a1) ((2 : Int32)) (b2) (a2) ((4 : Int32)) h1 n0 (Nat.le_trans Z0 K0.1) B0 (own_and3 u1) (own_and3 u2) (by decide) ho (by decide) (by decide) (by decide) (by decide) (by decide) (by decide)) (by decide) (by decide) (by decide) (by decide) ?_
    intro v T' L X' q'
    obtain ⟨rfl, N', K', f'⟩ := q'
    exact ⟨(2 : Int32), rfl, own_gF2 u1 u2 u3 q (own_mono X' (by decide) (by decide)) hx hZ hw hby hml hown hnm hlk hret Z0 rfl (Fr.app N0 N') (K0.trans K' (allS (Or.inr sq) (allS (Or.inr sa1) all0)))⟩
  · refine own_lv9 u1 u2 u3 q (3 : Int32) X0 H e0 (own_sA2n l Z a0 hw [] ((3 : Int32)) (((u3).toUInt32 >>> ((9 : Int32) &&& 31).toUInt32).toInt32) (q) ((u1 &&& (3 : Int32))) ((u2 &&& (3 : Int32))) ((0 : Int32)) ((1 : Int32)) (b1) (a1) ((2 : Int32)) (b2) (a2) ((4 : Int32)) h1 n0 (Nat.le_trans Z0 K0.1) B0 (own_and3 u1) (own_and3 u2) (by decide) ho (by decide) (by decide)) (by decide) (by decide) (by decide) (by decide) ?_
    intro v T' L X' q'
    obtain ⟨rfl, N', K', f'⟩ := q'
    exact ⟨(4 : Int32), rfl, own_gF4 u1 u2 u3 q (own_mono X' (by decide) (by decide)) hx hZ hw hby hml hown hnm hlk hret Z0 rfl (Fr.app N0 N') (K0.trans K' (allS (Or.inr sq) all0))⟩
set_option maxRecDepth 65536 in
set_option maxHeartbeats 40000000 in
theorem own_g9_24_0_2 {p : Program} {l : Launch} {e : Env} {s : State} {m : MethodId} {args : Array Value} {below : List Frame} {meth : Method} {c : Code} {T0 : State} {locs : List Loc} {Z : State} {a0 : Array Value} {h0 h1 : Heap} {n0 : Nat} (u1 u2 u3 : Int32) (q b1 a1 b2 a2 : Addr) (X0 : Stand p l e room_1 s m args below meth c T0 locs 7 50) (H : own_Cx p s m meth c Z a0 n0 h0) (e0 : T0.heap = h1) (N0 : Fr n0 locs) (K0 : Keep h0 h1 []) (B0 : own_Q2 Z h1 q n0 (u1 &&& (3 : Int32)) (u2 &&& (3 : Int32)) (0 : Int32) (2 : Int32) b1 a1 (2 : Int32) b2 a2 (4 : Int32)) (sq : h0.size ≤ q) (sb1 : h0.size ≤ b1) (sa1 : h0.size ≤ a1) (sb2 : h0.size ≤ b2) (sa2 : h0.size ≤ a2) : own_Goes p e below s 32 320 (Q_own_law Z u1 u2 u3 h0 n0) T0 (mkF m 126 #[iv u1, iv u2, iv u3, rv q, iv (4 : Int32)] []) := by
  obtain ⟨hx, hZ, hw, hby, hml, hown, hnm, hlk, hret, Z0⟩ := id H
  by_cases ho : (((u3).toUInt32 >>> ((9 : Int32) &&& 31).toUInt32).toInt32 &&& (1 : Int32)) = (0 : Int32)
  · refine own_lv9 u1 u2 u3 q (4 : Int32) X0 H e0 (own_sR2n l Z a0 hw [] ((4 : Int32)) (((u3).toUInt32 >>> ((9 : Int32) &&& 31).toUInt32).toInt32) (q) ((u1 &&& (3 : Int32))) ((u2 &&& (3 : Int32))) ((0 : Int32)) ((2 : Int32)) (b1) (a1) ((2 : Int32)) (b2) (a2) ((4 : Int32)) h1 n0 (Nat.le_trans Z0 K0.1) B0 (own_and3 u1) (own_and3 u2) (by decide) ho (by decide) (by decide) (by decide) (by decide) (by decide) (by decide)) (by decide) (by decide) (by decide) (by decide) ?_
    intro v T' L X' q'
    obtain ⟨rfl, N', K', f'⟩ := q'
    exact ⟨(3 : Int32), rfl, own_gF3 u1 u2 u3 q (own_mono X' (by decide) (by decide)) hx hZ hw hby hml hown hnm hlk hret Z0 rfl (Fr.app N0 N') (K0.trans K' (allS (Or.inr sq) (allS (Or.inr sa1) all0)))⟩
  · refine own_lv9 u1 u2 u3 q (4 : Int32) X0 H e0 (own_sA2n l Z a0 hw [] ((4 : Int32)) (((u3).toUInt32 >>> ((9 : Int32) &&& 31).toUInt32).toInt32) (q) ((u1 &&& (3 : Int32))) ((u2 &&& (3 : Int32))) ((0 : Int32)) ((2 : Int32)) (b1) (a1) ((2 : Int32)) (b2) (a2) ((4 : Int32)) h1 n0 (Nat.le_trans Z0 K0.1) B0 (own_and3 u1) (own_and3 u2) (by decide) ho (by decide) (by decide)) (by decide) (by decide) (by decide) (by decide) ?_
    intro v T' L X' q'
    obtain ⟨rfl, N', K', f'⟩ := q'
    exact ⟨(5 : Int32), rfl, own_gF5 u1 u2 u3 q (own_mono X' (by decide) (by decide)) hx hZ hw hby hml hown hnm hlk hret Z0 rfl (Fr.app N0 N') (K0.trans K' (allS (Or.inr sq) all0))⟩
set_option maxRecDepth 65536 in
set_option maxHeartbeats 40000000 in
theorem own_g9_24_0_3 {p : Program} {l : Launch} {e : Env} {s : State} {m : MethodId} {args : Array Value} {below : List Frame} {meth : Method} {c : Code} {T0 : State} {locs : List Loc} {Z : State} {a0 : Array Value} {h0 h1 : Heap} {n0 : Nat} (u1 u2 u3 : Int32) (q b1 a1 b2 a2 : Addr) (X0 : Stand p l e room_1 s m args below meth c T0 locs 7 50) (H : own_Cx p s m meth c Z a0 n0 h0) (e0 : T0.heap = h1) (N0 : Fr n0 locs) (K0 : Keep h0 h1 []) (B0 : own_Q2 Z h1 q n0 (u1 &&& (3 : Int32)) (u2 &&& (3 : Int32)) (0 : Int32) (3 : Int32) b1 a1 (2 : Int32) b2 a2 (4 : Int32)) (sq : h0.size ≤ q) (sb1 : h0.size ≤ b1) (sa1 : h0.size ≤ a1) (sb2 : h0.size ≤ b2) (sa2 : h0.size ≤ a2) : own_Goes p e below s 32 320 (Q_own_law Z u1 u2 u3 h0 n0) T0 (mkF m 126 #[iv u1, iv u2, iv u3, rv q, iv (5 : Int32)] []) := by
  obtain ⟨hx, hZ, hw, hby, hml, hown, hnm, hlk, hret, Z0⟩ := id H
  by_cases ho : (((u3).toUInt32 >>> ((9 : Int32) &&& 31).toUInt32).toInt32 &&& (1 : Int32)) = (0 : Int32)
  · refine own_lv9 u1 u2 u3 q (5 : Int32) X0 H e0 (own_sR2n l Z a0 hw [] ((5 : Int32)) (((u3).toUInt32 >>> ((9 : Int32) &&& 31).toUInt32).toInt32) (q) ((u1 &&& (3 : Int32))) ((u2 &&& (3 : Int32))) ((0 : Int32)) ((3 : Int32)) (b1) (a1) ((2 : Int32)) (b2) (a2) ((4 : Int32)) h1 n0 (Nat.le_trans Z0 K0.1) B0 (own_and3 u1) (own_and3 u2) (by decide) ho (by decide) (by decide) (by decide) (by decide) (by decide) (by decide)) (by decide) (by decide) (by decide) (by decide) ?_
    intro v T' L X' q'
    obtain ⟨rfl, N', K', f'⟩ := q'
    exact ⟨(4 : Int32), rfl, own_gF4 u1 u2 u3 q (own_mono X' (by decide) (by decide)) hx hZ hw hby hml hown hnm hlk hret Z0 rfl (Fr.app N0 N') (K0.trans K' (allS (Or.inr sq) (allS (Or.inr sa1) all0)))⟩
  · refine own_lv9 u1 u2 u3 q (5 : Int32) X0 H e0 (own_sA2n l Z a0 hw [] ((5 : Int32)) (((u3).toUInt32 >>> ((9 : Int32) &&& 31).toUInt32).toInt32) (q) ((u1 &&& (3 : Int32))) ((u2 &&& (3 : Int32))) ((0 : Int32)) ((3 : Int32)) (b1) (a1) ((2 : Int32)) (b2) (a2) ((4 : Int32)) h1 n0 (Nat.le_trans Z0 K0.1) B0 (own_and3 u1) (own_and3 u2) (by decide) ho (by decide) (by decide)) (by decide) (by decide) (by decide) (by decide) ?_
    intro v T' L X' q'
    obtain ⟨rfl, N', K', f'⟩ := q'
    exact ⟨(6 : Int32), rfl, own_gF6 u1 u2 u3 q (own_mono X' (by decide) (by decide)) hx hZ hw hby hml hown hnm hlk hret Z0 rfl (Fr.app N0 N') (K0.trans K' (allS (Or.inr sq) all0))⟩
set_option maxRecDepth 65536 in
set_option maxHeartbeats 40000000 in
theorem own_g9_24_0_4 {p : Program} {l : Launch} {e : Env} {s : State} {m : MethodId} {args : Array Value} {below : List Frame} {meth : Method} {c : Code} {T0 : State} {locs : List Loc} {Z : State} {a0 : Array Value} {h0 h1 : Heap} {n0 : Nat} (u1 u2 u3 : Int32) (q b1 a1 b2 a2 : Addr) (X0 : Stand p l e room_1 s m args below meth c T0 locs 7 50) (H : own_Cx p s m meth c Z a0 n0 h0) (e0 : T0.heap = h1) (N0 : Fr n0 locs) (K0 : Keep h0 h1 []) (B0 : own_Q2 Z h1 q n0 (u1 &&& (3 : Int32)) (u2 &&& (3 : Int32)) (0 : Int32) (4 : Int32) b1 a1 (2 : Int32) b2 a2 (4 : Int32)) (sq : h0.size ≤ q) (sb1 : h0.size ≤ b1) (sa1 : h0.size ≤ a1) (sb2 : h0.size ≤ b2) (sa2 : h0.size ≤ a2) : own_Goes p e below s 32 320 (Q_own_law Z u1 u2 u3 h0 n0) T0 (mkF m 126 #[iv u1, iv u2, iv u3, rv q, iv (6 : Int32)] []) := by
  obtain ⟨hx, hZ, hw, hby, hml, hown, hnm, hlk, hret, Z0⟩ := id H
  by_cases ho : (((u3).toUInt32 >>> ((9 : Int32) &&& 31).toUInt32).toInt32 &&& (1 : Int32)) = (0 : Int32)
  · refine own_lv9 u1 u2 u3 q (6 : Int32) X0 H e0 (own_sR2n l Z a0 hw [] ((6 : Int32)) (((u3).toUInt32 >>> ((9 : Int32) &&& 31).toUInt32).toInt32) (q) ((u1 &&& (3 : Int32))) ((u2 &&& (3 : Int32))) ((0 : Int32)) ((4 : Int32)) (b1) (a1) ((2 : Int32)) (b2) (a2) ((4 : Int32)) h1 n0 (Nat.le_trans Z0 K0.1) B0 (own_and3 u1) (own_and3 u2) (by decide) ho (by decide) (by decide) (by decide) (by decide) (by decide) (by decide)) (by decide) (by decide) (by decide) (by decide) ?_
    intro v T' L X' q'
    obtain ⟨rfl, N', K', f'⟩ := q'
    exact ⟨(5 : Int32), rfl, own_gF5 u1 u2 u3 q (own_mono X' (by decide) (by decide)) hx hZ hw hby hml hown hnm hlk hret Z0 rfl (Fr.app N0 N') (K0.trans K' (allS (Or.inr sq) (allS (Or.inr sa1) all0)))⟩
  · refine own_lv9 u1 u2 u3 q (6 : Int32) X0 H e0 (own_sA2a l Z a0 hw [] ((6 : Int32)) (((u3).toUInt32 >>> ((9 : Int32) &&& 31).toUInt32).toInt32) (q) ((u1 &&& (3 : Int32))) ((u2 &&& (3 : Int32))) ((0 : Int32)) (b1) (a1) (b2) (a2) h1 n0 (Nat.le_trans Z0 K0.1) B0 (own_and3 u1) (own_and3 u2) (by decide) ho (by decide)) (by decide) (by decide) (by decide) (by decide) ?_
    intro v T' L X' q'
    obtain ⟨nb3, na3, rfl, N', K', f', t0, t1⟩ := q'
    exact ⟨(7 : Int32), rfl, own_gF7 u1 u2 u3 q (own_mono X' (by decide) (by decide)) hx hZ hw hby hml hown hnm hlk hret Z0 rfl (Fr.app N0 N') (K0.trans K' (allS (Or.inr sq) (allS (Or.inr sb2) all0)))⟩
set_option maxRecDepth 65536 in
set_option maxHeartbeats 40000000 in
theorem own_g9_24_1_1 {p : Program} {l : Launch} {e : Env} {s : State} {m : MethodId} {args : Array Value} {below : List Frame} {meth : Method} {c : Code} {T0 : State} {locs : List Loc} {Z : State} {a0 : Array Value} {h0 h1 : Heap} {n0 : Nat} (u1 u2 u3 : Int32) (q b1 a1 b2 a2 : Addr) (X0 : Stand p l e room_1 s m args below meth c T0 locs 7 50) (H : own_Cx p s m meth c Z a0 n0 h0) (e0 : T0.heap = h1) (N0 : Fr n0 locs) (K0 : Keep h0 h1 []) (B0 : own_Q2 Z h1 q n0 (u1 &&& (3 : Int32)) (u2 &&& (3 : Int32)) (1 : Int32) (1 : Int32) b1 a1 (2 : Int32) b2 a2 (4 : Int32)) (sq : h0.size ≤ q) (sb1 : h0.size ≤ b1) (sa1 : h0.size ≤ a1) (sb2 : h0.size ≤ b2) (sa2 : h0.size ≤ a2) : own_Goes p e below s 32 320 (Q_own_law Z u1 u2 u3 h0 n0) T0 (mkF m 126 #[iv u1, iv u2, iv u3, rv q, iv (2 : Int32)] []) := by
  obtain ⟨hx, hZ, hw, hby, hml, hown, hnm, hlk, hret, Z0⟩ := id H
  by_cases ho : (((u3).toUInt32 >>> ((9 : Int32) &&& 31).toUInt32).toInt32 &&& (1 : Int32)) = (0 : Int32)
  · refine own_lv9 u1 u2 u3 q (2 : Int32) X0 H e0 (own_sR2a l Z a0 hw [] ((2 : Int32)) (((u3).toUInt32 >>> ((9 : Int32) &&& 31).toUInt32).toInt32) (q) ((u1 &&& (3 : Int32))) ((u2 &&& (3 : Int32))) ((1 : Int32)) ((1 : Int32)) (b1) (a1) ((2 : Int32)) (b2) (a2) ((4 : Int32)) h1 n0 (Nat.le_trans Z0 K0.1) B0 (own_and3 u1) (own_and3 u2) (by decide) ho (by decide) (by decide) (by decide) (by decide) (by decide) (by decide) (by decide)) (by decide) (by decide) (by decide) (by decide) ?_
    intro v T' L X' q'
    obtain ⟨rfl, N', K', f'⟩ := q'
    exact ⟨(1 : Int32), rfl, own_gF1 u1 u2 u3 q (own_mono X' (by decide) (by decide)) hx hZ hw hby hml hown hnm hlk hret Z0 rfl (Fr.app N0 N') (K0.trans K' (allS (Or.inr sq) (allS (Or.inr sa1) all0)))⟩
  · refine own_lv9 u1 u2 u3 q (2 : Int32) X0 H e0 (own_sA2n l Z a0 hw [] ((2 : Int32)) (((u3).toUInt32 >>> ((9 : Int32) &&& 31).toUInt32).toInt32) (q) ((u1 &&& (3 : Int32))) ((u2 &&& (3 : Int32))) ((1 : Int32)) ((1 : Int32)) (b1) (a1) ((2 : Int32)) (b2) (a2) ((4 : Int32)) h1 n0 (Nat.le_trans Z0 K0.1) B0 (own_and3 u1) (own_and3 u2) (by decide) ho (by decide) (by decide)) (by decide) (by decide) (by decide) (by decide) ?_
    intro v T' L X' q'
    obtain ⟨rfl, N', K', f'⟩ := q'
    exact ⟨(3 : Int32), rfl, own_gF3 u1 u2 u3 q (own_mono X' (by decide) (by decide)) hx hZ hw hby hml hown hnm hlk hret Z0 rfl (Fr.app N0 N') (K0.trans K' (allS (Or.inr sq) all0))⟩
set_option maxRecDepth 65536 in
set_option maxHeartbeats 40000000 in
theorem own_g9_24_1_2 {p : Program} {l : Launch} {e : Env} {s : State} {m : MethodId} {args : Array Value} {below : List Frame} {meth : Method} {c : Code} {T0 : State} {locs : List Loc} {Z : State} {a0 : Array Value} {h0 h1 : Heap} {n0 : Nat} (u1 u2 u3 : Int32) (q b1 a1 b2 a2 : Addr) (X0 : Stand p l e room_1 s m args below meth c T0 locs 7 50) (H : own_Cx p s m meth c Z a0 n0 h0) (e0 : T0.heap = h1) (N0 : Fr n0 locs) (K0 : Keep h0 h1 []) (B0 : own_Q2 Z h1 q n0 (u1 &&& (3 : Int32)) (u2 &&& (3 : Int32)) (1 : Int32) (2 : Int32) b1 a1 (2 : Int32) b2 a2 (4 : Int32)) (sq : h0.size ≤ q) (sb1 : h0.size ≤ b1) (sa1 : h0.size ≤ a1) (sb2 : h0.size ≤ b2) (sa2 : h0.size ≤ a2) : own_Goes p e below s 32 320 (Q_own_law Z u1 u2 u3 h0 n0) T0 (mkF m 126 #[iv u1, iv u2, iv u3, rv q, iv (3 : Int32)] []) := by
  obtain ⟨hx, hZ, hw, hby, hml, hown, hnm, hlk, hret, Z0⟩ := id H
  by_cases ho : (((u3).toUInt32 >>> ((9 : Int32) &&& 31).toUInt32).toInt32 &&& (1 : Int32)) = (0 : Int32)
  · refine own_lv9 u1 u2 u3 q (3 : Int32) X0 H e0 (own_sR2a l Z a0 hw [] ((3 : Int32)) (((u3).toUInt32 >>> ((9 : Int32) &&& 31).toUInt32).toInt32) (q) ((u1 &&& (3 : Int32))) ((u2 &&& (3 : Int32))) ((1 : Int32)) ((2 : Int32)) (b1) (a1) ((2 : Int32)) (b2) (a2) ((4 : Int32)) h1 n0 (Nat.le_trans Z0 K0.1) B0 (own_and3 u1) (own_and3 u2) (by decide) ho (by decide) (by decide) (by decide) (by decide) (by decide) (by decide) (by decide)) (by decide) (by decide) (by decide) (by decide) ?_
    intro v T' L X' q'
    obtain ⟨rfl, N', K', f'⟩ := q'
    exact ⟨(2 : Int32), rfl, own_gF2 u1 u2 u3 q (own_mono X' (by decide) (by decide)) hx hZ hw hby hml hown hnm hlk hret Z0 rfl (Fr.app N0 N') (K0.trans K' (allS (Or.inr sq) (allS (Or.inr sa1) all0)))⟩
  · refine own_lv9 u1 u2 u3 q (3 : Int32) X0 H e0 (own_sA2n l Z a0 hw [] ((3 : Int32)) (((u3).toUInt32 >>> ((9 : Int32) &&& 31).toUInt32).toInt32) (q) ((u1 &&& (3 : Int32))) ((u2 &&& (3 : Int32))) ((1 : Int32)) ((2 : Int32)) (b1) (a1) ((2 : Int32)) (b2) (a2) ((4 : Int32)) h1 n0 (Nat.le_trans Z0 K0.1) B0 (own_and3 u1) (own_and3 u2) (by decide) ho (by decide) (by decide)) (by decide) (by decide) (by decide) (by decide) ?_
    intro v T' L X' q'
    obtain ⟨rfl, N', K', f'⟩ := q'
    exact ⟨(4 : Int32), rfl, own_gF4 u1 u2 u3 q (own_mono X' (by decide) (by decide)) hx hZ hw hby hml hown hnm hlk hret Z0 rfl (Fr.app N0 N') (K0.trans K' (allS (Or.inr sq) all0))⟩
set_option maxRecDepth 65536 in
set_option maxHeartbeats 40000000 in
theorem own_g9_24_1_3 {p : Program} {l : Launch} {e : Env} {s : State} {m : MethodId} {args : Array Value} {below : List Frame} {meth : Method} {c : Code} {T0 : State} {locs : List Loc} {Z : State} {a0 : Array Value} {h0 h1 : Heap} {n0 : Nat} (u1 u2 u3 : Int32) (q b1 a1 b2 a2 : Addr) (X0 : Stand p l e room_1 s m args below meth c T0 locs 7 50) (H : own_Cx p s m meth c Z a0 n0 h0) (e0 : T0.heap = h1) (N0 : Fr n0 locs) (K0 : Keep h0 h1 []) (B0 : own_Q2 Z h1 q n0 (u1 &&& (3 : Int32)) (u2 &&& (3 : Int32)) (1 : Int32) (3 : Int32) b1 a1 (2 : Int32) b2 a2 (4 : Int32)) (sq : h0.size ≤ q) (sb1 : h0.size ≤ b1) (sa1 : h0.size ≤ a1) (sb2 : h0.size ≤ b2) (sa2 : h0.size ≤ a2) : own_Goes p e below s 32 320 (Q_own_law Z u1 u2 u3 h0 n0) T0 (mkF m 126 #[iv u1, iv u2, iv u3, rv q, iv (4 : Int32)] []) := by
  obtain ⟨hx, hZ, hw, hby, hml, hown, hnm, hlk, hret, Z0⟩ := id H
  by_cases ho : (((u3).toUInt32 >>> ((9 : Int32) &&& 31).toUInt32).toInt32 &&& (1 : Int32)) = (0 : Int32)
  · refine own_lv9 u1 u2 u3 q (4 : Int32) X0 H e0 (own_sR2a l Z a0 hw [] ((4 : Int32)) (((u3).toUInt32 >>> ((9 : Int32) &&& 31).toUInt32).toInt32) (q) ((u1 &&& (3 : Int32))) ((u2 &&& (3 : Int32))) ((1 : Int32)) ((3 : Int32)) (b1) (a1) ((2 : Int32)) (b2) (a2) ((4 : Int32)) h1 n0 (Nat.le_trans Z0 K0.1) B0 (own_and3 u1) (own_and3 u2) (by decide) ho (by decide) (by decide) (by decide) (by decide) (by decide) (by decide) (by decide)) (by decide) (by decide) (by decide) (by decide) ?_
    intro v T' L X' q'
    obtain ⟨rfl, N', K', f'⟩ := q'
    exact ⟨(3 : Int32), rfl, own_gF3 u1 u2 u3 q (own_mono X' (by decide) (by decide)) hx hZ hw hby hml hown hnm hlk hret Z0 rfl (Fr.app N0 N') (K0.trans K' (allS (Or.inr sq) (allS (Or.inr sa1) all0)))⟩
  · refine own_lv9 u1 u2 u3 q (4 : Int32) X0 H e0 (own_sA2n l Z a0 hw [] ((4 : Int32)) (((u3).toUInt32 >>> ((9 : Int32) &&& 31).toUInt32).toInt32) (q) ((u1 &&& (3 : Int32))) ((u2 &&& (3 : Int32))) ((1 : Int32)) ((3 : Int32)) (b1) (a1) ((2 : Int32)) (b2) (a2) ((4 : Int32)) h1 n0 (Nat.le_trans Z0 K0.1) B0 (own_and3 u1) (own_and3 u2) (by decide) ho (by decide) (by decide)) (by decide) (by decide) (by decide) (by decide) ?_
    intro v T' L X' q'
    obtain ⟨rfl, N', K', f'⟩ := q'
    exact ⟨(5 : Int32), rfl, own_gF5 u1 u2 u3 q (own_mono X' (by decide) (by decide)) hx hZ hw hby hml hown hnm hlk hret Z0 rfl (Fr.app N0 N') (K0.trans K' (allS (Or.inr sq) all0))⟩
set_option maxRecDepth 65536 in
set_option maxHeartbeats 40000000 in
theorem own_g9_24_1_4 {p : Program} {l : Launch} {e : Env} {s : State} {m : MethodId} {args : Array Value} {below : List Frame} {meth : Method} {c : Code} {T0 : State} {locs : List Loc} {Z : State} {a0 : Array Value} {h0 h1 : Heap} {n0 : Nat} (u1 u2 u3 : Int32) (q b1 a1 b2 a2 : Addr) (X0 : Stand p l e room_1 s m args below meth c T0 locs 7 50) (H : own_Cx p s m meth c Z a0 n0 h0) (e0 : T0.heap = h1) (N0 : Fr n0 locs) (K0 : Keep h0 h1 []) (B0 : own_Q2 Z h1 q n0 (u1 &&& (3 : Int32)) (u2 &&& (3 : Int32)) (1 : Int32) (4 : Int32) b1 a1 (2 : Int32) b2 a2 (4 : Int32)) (sq : h0.size ≤ q) (sb1 : h0.size ≤ b1) (sa1 : h0.size ≤ a1) (sb2 : h0.size ≤ b2) (sa2 : h0.size ≤ a2) : own_Goes p e below s 32 320 (Q_own_law Z u1 u2 u3 h0 n0) T0 (mkF m 126 #[iv u1, iv u2, iv u3, rv q, iv (5 : Int32)] []) := by
  obtain ⟨hx, hZ, hw, hby, hml, hown, hnm, hlk, hret, Z0⟩ := id H
  by_cases ho : (((u3).toUInt32 >>> ((9 : Int32) &&& 31).toUInt32).toInt32 &&& (1 : Int32)) = (0 : Int32)
  · refine own_lv9 u1 u2 u3 q (5 : Int32) X0 H e0 (own_sR2a l Z a0 hw [] ((5 : Int32)) (((u3).toUInt32 >>> ((9 : Int32) &&& 31).toUInt32).toInt32) (q) ((u1 &&& (3 : Int32))) ((u2 &&& (3 : Int32))) ((1 : Int32)) ((4 : Int32)) (b1) (a1) ((2 : Int32)) (b2) (a2) ((4 : Int32)) h1 n0 (Nat.le_trans Z0 K0.1) B0 (own_and3 u1) (own_and3 u2) (by decide) ho (by decide) (by decide) (by decide) (by decide) (by decide) (by decide) (by decide)) (by decide) (by decide) (by decide) (by decide) ?_
    intro v T' L X' q'
    obtain ⟨rfl, N', K', f'⟩ := q'
    exact ⟨(4 : Int32), rfl, own_gF4 u1 u2 u3 q (own_mono X' (by decide) (by decide)) hx hZ hw hby hml hown hnm hlk hret Z0 rfl (Fr.app N0 N') (K0.trans K' (allS (Or.inr sq) (allS (Or.inr sa1) all0)))⟩
  · refine own_lv9 u1 u2 u3 q (5 : Int32) X0 H e0 (own_sA2a l Z a0 hw [] ((5 : Int32)) (((u3).toUInt32 >>> ((9 : Int32) &&& 31).toUInt32).toInt32) (q) ((u1 &&& (3 : Int32))) ((u2 &&& (3 : Int32))) ((1 : Int32)) (b1) (a1) (b2) (a2) h1 n0 (Nat.le_trans Z0 K0.1) B0 (own_and3 u1) (own_and3 u2) (by decide) ho (by decide)) (by decide) (by decide) (by decide) (by decide) ?_
    intro v T' L X' q'
    obtain ⟨nb3, na3, rfl, N', K', f', t0, t1⟩ := q'
    exact ⟨(6 : Int32), rfl, own_gF6 u1 u2 u3 q (own_mono X' (by decide) (by decide)) hx hZ hw hby hml hown hnm hlk hret Z0 rfl (Fr.app N0 N') (K0.trans K' (allS (Or.inr sq) (allS (Or.inr sb2) all0)))⟩
set_option maxRecDepth 65536 in
set_option maxHeartbeats 40000000 in
theorem own_g9_248_0_1 {p : Program} {l : Launch} {e : Env} {s : State} {m : MethodId} {args : Array Value} {below : List Frame} {meth : Method} {c : Code} {T0 : State} {locs : List Loc} {Z : State} {a0 : Array Value} {h0 h1 : Heap} {n0 : Nat} (u1 u2 u3 : Int32) (q b1 a1 b2 a2 b3 a3 : Addr) (X0 : Stand p l e room_1 s m args below meth c T0 locs 10 102) (H : own_Cx p s m meth c Z a0 n0 h0) (e0 : T0.heap = h1) (N0 : Fr n0 locs) (K0 : Keep h0 h1 []) (B0 : own_Q3 Z h1 q n0 (u1 &&& (3 : Int32)) (u2 &&& (3 : Int32)) (0 : Int32) (1 : Int32) b1 a1 (2 : Int32) b2 a2 (4 : Int32) b3 a3 (8 : Int32)) (sq : h0.size ≤ q) (sb1 : h0.size ≤ b1) (sa1 : h0.size ≤ a1) (sb2 : h0.size ≤ b2) (sa2 : h0.size ≤ a2) (sb3 : h0.size ≤ b3) (sa3 : h0.size ≤ a3) : own_Goes p e below s 32 320 (Q_own_law Z u1 u2 u3 h0 n0) T0 (mkF m 126 #[iv u1, iv u2, iv u3, rv q, iv (7 : Int32)] []) := by
  obtain ⟨hx, hZ, hw, hby, hml, hown, hnm, hlk, hret, Z0⟩ := id H
  by_cases ho : (((u3).toUInt32 >>> ((9 : Int32) &&& 31).toUInt32).toInt32 &&& (1 : Int32)) = (0 : Int32)
  · refine own_lv9 u1 u2 u3 q (7 : Int32) X0 H e0 (own_sR3n l Z a0 hw [] ((7 : Int32)) (((u3).toUInt32 >>> ((9 : Int32) &&& 31).toUInt32).toInt32) (q) ((u1 &&& (3 : Int32))) ((u2 &&& (3 : Int32))) ((0 : Int32)) ((1 : Int32)) (b1) (a1) ((2 : Int32)) (b2) (a2) ((4 : Int32)) (b3) (a3) ((8 : Int32)) h1 n0 (Nat.le_trans Z0 K0.1) B0 (own_and3 u1) (own_and3 u2) (by decide) ho (by decide) (by decide) (by decide) (by decide) (by decide) (by decide)) (by decide) (by decide) (by decide) (by decide) ?_
    intro v T' L X' q'
    obtain ⟨rfl, N', K', f'⟩ := q'
    exact ⟨(6 : Int32), rfl, own_gF6 u1 u2 u3 q (own_mono X' (by decide) (by decide)) hx hZ hw hby hml hown hnm hlk hret Z0 rfl (Fr.app N0 N') (K0.trans K' (allS (Or.inr sq) (allS (Or.inr sa1) all0)))⟩
  · refine own_lv9 u1 u2 u3 q (7 : Int32) X0 H e0 (own_sA3n l Z a0 hw [] ((7 : Int32)) (((u3).toUInt32 >>> ((9 : Int32) &&& 31).toUInt32).toInt32) (q) ((u1 &&& (3 : Int32))) ((u2 &&& (3 : Int32))) ((0 : Int32)) ((1 : Int32)) (b1) (a1) ((2 : Int32)) (b2) (a2) ((4 : Int32)) (b3) (a3) ((8 : Int32)) h1 n0 (Nat.le_trans Z0 K0.1) B0 (own_and3 u1) (own_and3 u2) (by decide) ho (by decide) (by decide)) (by decide) (by decide) (by decide) (by decide) ?_
    intro v T' L X' q'
    obtain ⟨rfl, N', K', f'⟩ := q'
    exact ⟨(8 : Int32), rfl, own_gF8 u1 u2 u3 q (own_mono X' (by decide) (by decide)) hx hZ hw hby hml hown hnm hlk hret Z0 rfl (Fr.app N0 N') (K0.trans K' (allS (Or.inr sq) all0))⟩
set_option maxRecDepth 65536 in
set_option maxHeartbeats 40000000 in
theorem own_g9_248_0_2 {p : Program} {l : Launch} {e : Env} {s : State} {m : MethodId} {args : Array Value} {below : List Frame} {meth : Method} {c : Code} {T0 : State} {locs : List Loc} {Z : State} {a0 : Array Value} {h0 h1 : Heap} {n0 : Nat} (u1 u2 u3 : Int32) (q b1 a1 b2 a2 b3 a3 : Addr) (X0 : Stand p l e room_1 s m args below meth c T0 locs 10 102) (H : own_Cx p s m meth c Z a0 n0 h0) (e0 : T0.heap = h1) (N0 : Fr n0 locs) (K0 : Keep h0 h1 []) (B0 : own_Q3 Z h1 q n0 (u1 &&& (3 : Int32)) (u2 &&& (3 : Int32)) (0 : Int32) (2 : Int32) b1 a1 (2 : Int32) b2 a2 (4 : Int32) b3 a3 (8 : Int32)) (sq : h0.size ≤ q) (sb1 : h0.size ≤ b1) (sa1 : h0.size ≤ a1) (sb2 : h0.size ≤ b2) (sa2 : h0.size ≤ a2) (sb3 : h0.size ≤ b3) (sa3 : h0.size ≤ a3) : own_Goes p e below s 32 320 (Q_own_law Z u1 u2 u3 h0 n0) T0 (mkF m 126 #[iv u1, iv u2, iv u3, rv q, iv (8 : Int32)] []) := by
  obtain ⟨hx, hZ, hw, hby, hml, hown, hnm, hlk, hret, Z0⟩ := id H
  by_cases ho : (((u3).toUInt32 >>> ((9 : Int32) &&& 31).toUInt32).toInt32 &&& (1 : Int32)) = (0 : Int32)
  · refine own_lv9 u1 u2 u3 q (8 : Int32) X0 H e0 (own_sR3n l Z a0 hw [] ((8 : Int32)) (((u3).toUInt32 >>> ((9 : Int32) &&& 31).toUInt32).toInt32) (q) ((u1 &&& (3 : Int32))) ((u2 &&& (3 : Int32))) ((0 : Int32)) ((2 : Int32)) (b1) (a1) ((2 : Int32)) (b2) (a2) ((4 : Int32)) (b3) (a3) ((8 : Int32)) h1 n0 (Nat.le_trans Z0 K0.1) B0 (own_and3 u1) (own_and3 u2) (by decide) ho (by decide) (by decide) (by decide) (by decide) (by decide) (by decide)) (by decide) (by decide) (by decide) (by decide) ?_
    intro v T' L X' q'
    obtain ⟨rfl, N', K', f'⟩ := q'
    exact ⟨(7 : Int32), rfl, own_gF7 u1 u2 u3 q (own_mono X' (by decide) (by decide)) hx hZ hw hby hml hown hnm hlk hret Z0 rfl (Fr.app N0 N') (K0.trans K' (allS (Or.inr sq) (allS (Or.inr sa1) all0)))⟩
  · refine own_lv9 u1 u2 u3 q (8 : Int32) X0 H e0 (own_sA3n l Z a0 hw [] ((8 : Int32)) (((u3).toUInt32 >>> ((9 : Int32) &&& 31).toUInt32).toInt32) (q) ((u1 &&& (3 : Int32))) ((u2 &&& (3 : Int32))) ((0 : Int32)) ((2 : Int32)) (b1) (a1) ((2 : Int32)) (b2) (a2) ((4 : Int32)) (b3) (a3) ((8 : Int32)) h1 n0 (Nat.le_trans Z0 K0.1) B0 (own_and3 u1) (own_and3 u2) (by decide) ho (by decide) (by decide)) (by decide) (by decide) (by decide) (by decide) ?_
    intro v T' L X' q'
    obtain ⟨rfl, N', K', f'⟩ := q'
    exact ⟨(9 : Int32), rfl, own_gF9 u1 u2 u3 q (own_mono X' (by decide) (by decide)) hx hZ hw hby hml hown hnm hlk hret Z0 rfl (Fr.app N0 N') (K0.trans K' (allS (Or.inr sq) all0))⟩
set_option maxRecDepth 65536 in
set_option maxHeartbeats 40000000 in
theorem own_g9_248_0_3 {p : Program} {l : Launch} {e : Env} {s : State} {m : MethodId} {args : Array Value} {below : List Frame} {meth : Method} {c : Code} {T0 : State} {locs : List Loc} {Z : State} {a0 : Array Value} {h0 h1 : Heap} {n0 : Nat} (u1 u2 u3 : Int32) (q b1 a1 b2 a2 b3 a3 : Addr) (X0 : Stand p l e room_1 s m args below meth c T0 locs 10 102) (H : own_Cx p s m meth c Z a0 n0 h0) (e0 : T0.heap = h1) (N0 : Fr n0 locs) (K0 : Keep h0 h1 []) (B0 : own_Q3 Z h1 q n0 (u1 &&& (3 : Int32)) (u2 &&& (3 : Int32)) (0 : Int32) (3 : Int32) b1 a1 (2 : Int32) b2 a2 (4 : Int32) b3 a3 (8 : Int32)) (sq : h0.size ≤ q) (sb1 : h0.size ≤ b1) (sa1 : h0.size ≤ a1) (sb2 : h0.size ≤ b2) (sa2 : h0.size ≤ a2) (sb3 : h0.size ≤ b3) (sa3 : h0.size ≤ a3) : own_Goes p e below s 32 320 (Q_own_law Z u1 u2 u3 h0 n0) T0 (mkF m 126 #[iv u1, iv u2, iv u3, rv q, iv (9 : Int32)] []) := by
  obtain ⟨hx, hZ, hw, hby, hml, hown, hnm, hlk, hret, Z0⟩ := id H
  by_cases ho : (((u3).toUInt32 >>> ((9 : Int32) &&& 31).toUInt32).toInt32 &&& (1 : Int32)) = (0 : Int32)
  · refine own_lv9 u1 u2 u3 q (9 : Int32) X0 H e0 (own_sR3n l Z a0 hw [] ((9 : Int32)) (((u3).toUInt32 >>> ((9 : Int32) &&& 31).toUInt32).toInt32) (q) ((u1 &&& (3 : Int32))) ((u2 &&& (3 : Int32))) ((0 : Int32)) ((3 : Int32)) (b1) (a1) ((2 : Int32)) (b2) (a2) ((4 : Int32)) (b3) (a3) ((8 : Int32)) h1 n0 (Nat.le_trans Z0 K0.1) B0 (own_and3 u1) (own_and3 u2) (by decide) ho (by decide) (by decide) (by decide) (by decide) (by decide) (by decide)) (by decide) (by decide) (by decide) (by decide) ?_
    intro v T' L X' q'
    obtain ⟨rfl, N', K', f'⟩ := q'
    exact ⟨(8 : Int32), rfl, own_gF8 u1 u2 u3 q (own_mono X' (by decide) (by decide)) hx hZ hw hby hml hown hnm hlk hret Z0 rfl (Fr.app N0 N') (K0.trans K' (allS (Or.inr sq) (allS (Or.inr sa1) all0)))⟩
  · refine own_lv9 u1 u2 u3 q (9 : Int32) X0 H e0 (own_sA3n l Z a0 hw [] ((9 : Int32)) (((u3).toUInt32 >>> ((9 : Int32) &&& 31).toUInt32).toInt32) (q) ((u1 &&& (3 : Int32))) ((u2 &&& (3 : Int32))) ((0 : Int32)) ((3 : Int32)) (b1) (a1) ((2 : Int32)) (b2) (a2) ((4 : Int32)) (b3) (a3) ((8 : Int32)) h1 n0 (Nat.le_trans Z0 K0.1) B0 (own_and3 u1) (own_and3 u2) (by decide) ho (by decide) (by decide)) (by decide) (by decide) (by decide) (by decide) ?_
    intro v T' L X' q'
    obtain ⟨rfl, N', K', f'⟩ := q'
    exact ⟨(10 : Int32), rfl, own_gF10 u1 u2 u3 q (own_mono X' (by decide) (by decide)) hx hZ hw hby hml hown hnm hlk hret Z0 rfl (Fr.app N0 N') (K0.trans K' (allS (Or.inr sq) all0))⟩
set_option maxRecDepth 65536 in
set_option maxHeartbeats 40000000 in
theorem own_g9_248_1_1 {p : Program} {l : Launch} {e : Env} {s : State} {m : MethodId} {args : Array Value} {below : List Frame} {meth : Method} {c : Code} {T0 : State} {locs : List Loc} {Z : State} {a0 : Array Value} {h0 h1 : Heap} {n0 : Nat} (u1 u2 u3 : Int32) (q b1 a1 b2 a2 b3 a3 : Addr) (X0 : Stand p l e room_1 s m args below meth c T0 locs 10 102) (H : own_Cx p s m meth c Z a0 n0 h0) (e0 : T0.heap = h1) (N0 : Fr n0 locs) (K0 : Keep h0 h1 []) (B0 : own_Q3 Z h1 q n0 (u1 &&& (3 : Int32)) (u2 &&& (3 : Int32)) (1 : Int32) (1 : Int32) b1 a1 (2 : Int32) b2 a2 (4 : Int32) b3 a3 (8 : Int32)) (sq : h0.size ≤ q) (sb1 : h0.size ≤ b1) (sa1 : h0.size ≤ a1) (sb2 : h0.size ≤ b2) (sa2 : h0.size ≤ a2) (sb3 : h0.size ≤ b3) (sa3 : h0.size ≤ a3) : own_Goes p e below s 32 320 (Q_own_law Z u1 u2 u3 h0 n0) T0 (mkF m 126 #[iv u1, iv u2, iv u3, rv q, iv (6 : Int32)] []) := by
  obtain ⟨hx, hZ, hw, hby, hml, hown, hnm, hlk, hret, Z0⟩ := id H
  by_cases ho : (((u3).toUInt32 >>> ((9 : Int32) &&& 31).toUInt32).toInt32 &&& (1 : Int32)) = (0 : Int32)
  · refine own_lv9 u1 u2 u3 q (6 : Int32) X0 H e0 (own_sR3a l Z a0 hw [] ((6 : Int32)) (((u3).toUInt32 >>> ((9 : Int32) &&& 31).toUInt32).toInt32) (q) ((u1 &&& (3 : Int32))) ((u2 &&& (3 : Int32))) ((1 : Int32)) ((1 : Int32)) (b1) (a1) ((2 : Int32)) (b2) (a2) ((4 : Int32)) (b3) (a3) ((8 : Int32)) h1 n0 (Nat.le_trans Z0 K0.1) B0 (own_and3 u1) (own_and3 u2) (by decide) ho (by decide) (by decide) (by decide) (by decide) (by decide) (by decide)) (by decide) (by decide) (by decide) (by decide) ?_
    intro v T' L X' q'
    obtain ⟨rfl, N', K', f'⟩ := q'
    exact ⟨(5 : Int32), rfl, own_gF5 u1 u2 u3 q (own_mono X' (by decide) (by decide)) hx hZ hw hby hml hown hnm hlk hret Z0 rfl (Fr.app N0 N') (K0.trans K' (allS (Or.inr sq) (allS (Or.inr sa1) all0)))⟩
  · refine own_lv9 u1 u2 u3 q (6 : Int32) X0 H e0 (own_sA3n l Z a0 hw [] ((6 : Int32)) (((u3).toUInt32 >>> ((9 : Int32) &&& 31).toUInt32).toInt32) (q) ((u1 &&& (3 : Int32))) ((u2 &&& (3 : Int32))) ((1 : Int32)) ((1 : Int32)) (b1) (a1) ((2 : Int32)) (b2) (a2) ((4 : Int32)) (b3) (a3) ((8 : Int32)) h1 n0 (Nat.le_trans Z0 K0.1) B0 (own_and3 u1) (own_and3 u2) (by decide) ho (by decide) (by decide)) (by decide) (by decide) (by decide) (by decide) ?_
    intro v T' L X' q'
    obtain ⟨rfl, N', K', f'⟩ := q'
    exact ⟨(7 : Int32), rfl, own_gF7 u1 u2 u3 q (own_mono X' (by decide) (by decide)) hx hZ hw hby hml hown hnm hlk hret Z0 rfl (Fr.app N0 N') (K0.trans K' (allS (Or.inr sq) all0))⟩
set_option maxRecDepth 65536 in
set_option maxHeartbeats 40000000 in
theorem own_g9_248_1_2 {p : Program} {l : Launch} {e : Env} {s : State} {m : MethodId} {args : Array Value} {below : List Frame} {meth : Method} {c : Code} {T0 : State} {locs : List Loc} {Z : State} {a0 : Array Value} {h0 h1 : Heap} {n0 : Nat} (u1 u2 u3 : Int32) (q b1 a1 b2 a2 b3 a3 : Addr) (X0 : Stand p l e room_1 s m args below meth c T0 locs 10 102) (H : own_Cx p s m meth c Z a0 n0 h0) (e0 : T0.heap = h1) (N0 : Fr n0 locs) (K0 : Keep h0 h1 []) (B0 : own_Q3 Z h1 q n0 (u1 &&& (3 : Int32)) (u2 &&& (3 : Int32)) (1 : Int32) (2 : Int32) b1 a1 (2 : Int32) b2 a2 (4 : Int32) b3 a3 (8 : Int32)) (sq : h0.size ≤ q) (sb1 : h0.size ≤ b1) (sa1 : h0.size ≤ a1) (sb2 : h0.size ≤ b2) (sa2 : h0.size ≤ a2) (sb3 : h0.size ≤ b3) (sa3 : h0.size ≤ a3) : own_Goes p e below s 32 320 (Q_own_law Z u1 u2 u3 h0 n0) T0 (mkF m 126 #[iv u1, iv u2, iv u3, rv q, iv (7 : Int32)] []) := by
  obtain ⟨hx, hZ, hw, hby, hml, hown, hnm, hlk, hret, Z0⟩ := id H
  by_cases ho : (((u3).toUInt32 >>> ((9 : Int32) &&& 31).toUInt32).toInt32 &&& (1 : Int32)) = (0 : Int32)
  · refine own_lv9 u1 u2 u3 q (7 : Int32) X0 H e0 (own_sR3a l Z a0 hw [] ((7 : Int32)) (((u3).toUInt32 >>> ((9 : Int32) &&& 31).toUInt32).toInt32) (q) ((u1 &&& (3 : Int32))) ((u2 &&& (3 : Int32))) ((1 : Int32)) ((2 : Int32)) (b1) (a1) ((2 : Int32)) (b2) (a2) ((4 : Int32)) (b3) (a3) ((8 : Int32)) h1 n0 (Nat.le_trans Z0 K0.1) B0 (own_and3 u1) (own_and3 u2) (by decide) ho (by decide) (by decide) (by decide) (by decide) (by decide) (by decide)) (by decide) (by decide) (by decide) (by decide) ?_
    intro v T' L X' q'
    obtain ⟨rfl, N', K', f'⟩ := q'
    exact ⟨(6 : Int32), rfl, own_gF6 u1 u2 u3 q (own_mono X' (by decide) (by decide)) hx hZ hw hby hml hown hnm hlk hret Z0 rfl (Fr.app N0 N') (K0.trans K' (allS (Or.inr sq) (allS (Or.inr sa1) all0)))⟩
  · refine own_lv9 u1 u2 u3 q (7 : Int32) X0 H e0 (own_sA3n l Z a0 hw [] ((7 : Int32)) (((u3).toUInt32 >>> ((9 : Int32) &&& 31).toUInt32).toInt32) (q) ((u1 &&& (3 : Int32))) ((u2 &&& (3 : Int32))) ((1 : Int32)) ((2 : Int32)) (b1) (a1) ((2 : Int32)) (b2) (a2) ((4 : Int32)) (b3) (a3) ((8 : Int32)) h1 n0 (Nat.le_trans Z0 K0.1) B0 (own_and3 u1) (own_and3 u2) (by decide) ho (by decide) (by decide)) (by decide) (by decide) (by decide) (by decide) ?_
    intro v T' L X' q'
    obtain ⟨rfl, N', K', f'⟩ := q'
    exact ⟨(8 : Int32), rfl, own_gF8 u1 u2 u3 q (own_mono X' (by decide) (by decide)) hx hZ hw hby hml hown hnm hlk hret Z0 rfl (Fr.app N0 N') (K0.trans K' (allS (Or.inr sq) all0))⟩
set_option maxRecDepth 65536 in
set_option maxHeartbeats 40000000 in
theorem own_g9_4_0_0 {p : Program} {l : Launch} {e : Env} {s : State} {m : MethodId} {args : Array Value} {below : List Frame} {meth : Method} {c : Code} {T0 : State} {locs : List Loc} {Z : State} {a0 : Array Value} {h0 h1 : Heap} {n0 : Nat} (u1 u2 u3 : Int32) (q b1 a1 : Addr) (X0 : Stand p l e room_1 s m args below meth c T0 locs 7 50) (H : own_Cx p s m meth c Z a0 n0 h0) (e0 : T0.heap = h1) (N0 : Fr n0 locs) (K0 : Keep h0 h1 []) (B0 : own_Q1 Z h1 q n0 (u1 &&& (3 : Int32)) (u2 &&& (3 : Int32)) (0 : Int32) (0 : Int32) b1 a1 (4 : Int32)) (sq : h0.size ≤ q) (sb1 : h0.size ≤ b1) (sa1 : h0.size ≤ a1) : own_Goes p e below s 32 320 (Q_own_law Z u1 u2 u3 h0 n0) T0 (mkF m 126 #[iv u1, iv u2, iv u3, rv q, iv (0 : Int32)] []) := by
  obtain ⟨hx, hZ, hw, hby, hml, hown, hnm, hlk, hret, Z0⟩ := id H
  by_cases ho : (((u3).toUInt32 >>> ((9 : Int32) &&& 31).toUInt32).toInt32 &&& (1 : Int32)) = (0 : Int32)
  · refine own_lv9 u1 u2 u3 q (0 : Int32) X0 H e0 (own_sR1z l Z a0 hw [] ((0 : Int32)) (((u3).toUInt32 >>> ((9 : Int32) &&& 31).toUInt32).toInt32) (q) ((u1 &&& (3 : Int32))) ((u2 &&& (3 : Int32))) ((0 : Int32)) ((0 : Int32)) (b1) (a1) ((4 : Int32)) h1 n0 (Nat.le_trans Z0 K0.1) B0 (own_and3 u1) (own_and3 u2) (by decide) ho (by decide) (by decide) (by decide)) (by decide) (by decide) (by decide) (by decide) ?_
    intro v T' L X' q'
    obtain ⟨rfl, N', e'⟩ := q'
    exact ⟨(0 : Int32), rfl, own_gF0 u1 u2 u3 q (own_mono X' (by decide) (by decide)) hx hZ hw hby hml hown hnm hlk hret Z0 e' (Fr.app N0 N') K0⟩
  · refine own_lv9 u1 u2 u3 q (0 : Int32) X0 H e0 (own_sA1n l Z a0 hw [] ((0 : Int32)) (((u3).toUInt32 >>> ((9 : Int32) &&& 31).toUInt32).toInt32) (q) ((u1 &&& (3 : Int32))) ((u2 &&& (3 : Int32))) ((0 : Int32)) ((0 : Int32)) (b1) (a1) ((4 : Int32)) h1 n0 (Nat.le_trans Z0 K0.1) B0 (own_and3 u1) (own_and3 u2) (by decide) ho (by decide) (by decide) (by decide)) (by decide) (by decide) (by decide) (by decide) ?_
    intro v T' L X' q'
    obtain ⟨rfl, N', K', f'⟩ := q'
    exact ⟨(1 : Int32), rfl, own_gF1 u1 u2 u3 q (own_mono X' (by decide) (by decide)) hx hZ hw hby hml hown hnm hlk hret Z0 rfl (Fr.app N0 N') (K0.trans K' (allS (Or.inr sq) all0))⟩
set_option maxRecDepth 65536 in
set_option maxHeartbeats 40000000 in
theorem own_g9_4_0_1 {p : Program} {l : Launch} {e : Env} {s : State} {m : MethodId} {args : Array Value} {below : List Frame} {meth : Method} {c : Code} {T0 : State} {locs : List Loc} {Z : State} {a0 : Array Value} {h0 h1 : Heap} {n0 : Nat} (u1 u2 u3 : Int32) (q b1 a1 : Addr) (X0 : Stand p l e room_1 s m args below meth c T0 locs 7 50) (H : own_Cx p s m meth c Z a0 n0 h0) (e0 : T0.heap = h1) (N0 : Fr n0 locs) (K0 : Keep h0 h1 []) (B0 : own_Q1 Z h1 q n0 (u1 &&& (3 : Int32)) (u2 &&& (3 : Int32)) (0 : Int32) (1 : Int32) b1 a1 (4 : Int32)) (sq : h0.size ≤ q) (sb1 : h0.size ≤ b1) (sa1 : h0.size ≤ a1) : own_Goes p e below s 32 320 (Q_own_law Z u1 u2 u3 h0 n0) T0 (mkF m 126 #[iv u1, iv u2, iv u3, rv q, iv (1 : Int32)] []) := by
  obtain ⟨hx, hZ, hw, hby, hml, hown, hnm, hlk, hret, Z0⟩ := id H
  by_cases ho : (((u3).toUInt32 >>> ((9 : Int32) &&& 31).toUInt32).toInt32 &&& (1 : Int32)) = (0 : Int32)
  · refine own_lv9 u1 u2 u3 q (1 : Int32) X0 H e0 (own_sR1e l Z a0 hw [] ((1 : Int32)) (((u3).toUInt32 >>> ((9 : Int32) &&& 31).toUInt32).toInt32) (q) ((u1 &&& (3 : Int32))) ((u2 &&& (3 : Int32))) ((0 : Int32)) ((1 : Int32)) (b1) (a1) ((4 : Int32)) h1 n0 (Nat.le_trans Z0 K0.1) B0 (own_and3 u1) (own_and3 u2) (by decide) ho (by decide) (by decide) (by decide) (by decide) (by decide) (by decide) (by decide)) (by decide) (by decide) (by decide) (by decide) ?_
    intro v T' L X' q'
    obtain ⟨rfl, N', K', f'⟩ := q'
    exact ⟨(0 : Int32), rfl, own_gF0 u1 u2 u3 q (own_mono X' (by decide) (by decide)) hx hZ hw hby hml hown hnm hlk hret Z0 rfl (Fr.app N0 N') (K0.trans K' (allS (Or.inr sq) (allS (Or.inr sa1) all0)))⟩
  · refine own_lv9 u1 u2 u3 q (1 : Int32) X0 H e0 (own_sA1n l Z a0 hw [] ((1 : Int32)) (((u3).toUInt32 >>> ((9 : Int32) &&& 31).toUInt32).toInt32) (q) ((u1 &&& (3 : Int32))) ((u2 &&& (3 : Int32))) ((0 : Int32)) ((1 : Int32)) (b1) (a1) ((4 : Int32)) h1 n0 (Nat.le_trans Z0 K0.1) B0 (own_and3 u1) (own_and3 u2) (by decide) ho (by decide) (by decide) (by decide)) (by decide) (by decide) (by decide) (by decide) ?_
    intro v T' L X' q'
    obtain ⟨rfl, N', K', f'⟩ := q'
    exact ⟨(2 : Int32), rfl, own_gF2 u1 u2 u3 q (own_mono X' (by decide) (by decide)) hx hZ hw hby hml hown hnm hlk hret Z0 rfl (Fr.app N0 N') (K0.trans K' (allS (Or.inr sq) all0))⟩
set_option maxRecDepth 65536 in
set_option maxHeartbeats 40000000 in
theorem own_g9_4_0_2 {p : Program} {l : Launch} {e : Env} {s : State} {m : MethodId} {args : Array Value} {below : List Frame} {meth : Method} {c : Code} {T0 : State} {locs : List Loc} {Z : State} {a0 : Array Value} {h0 h1 : Heap} {n0 : Nat} (u1 u2 u3 : Int32) (q b1 a1 : Addr) (X0 : Stand p l e room_1 s m args below meth c T0 locs 7 50) (H : own_Cx p s m meth c Z a0 n0 h0) (e0 : T0.heap = h1) (N0 : Fr n0 locs) (K0 : Keep h0 h1 []) (B0 : own_Q1 Z h1 q n0 (u1 &&& (3 : Int32)) (u2 &&& (3 : Int32)) (0 : Int32) (2 : Int32) b1 a1 (4 : Int32)) (sq : h0.size ≤ q) (sb1 : h0.size ≤ b1) (sa1 : h0.size ≤ a1) : own_Goes p e below s 32 320 (Q_own_law Z u1 u2 u3 h0 n0) T0 (mkF m 126 #[iv u1, iv u2, iv u3, rv q, iv (2 : Int32)] []) := by
  obtain ⟨hx, hZ, hw, hby, hml, hown, hnm, hlk, hret, Z0⟩ := id H
  by_cases ho : (((u3).toUInt32 >>> ((9 : Int32) &&& 31).toUInt32).toInt32 &&& (1 : Int32)) = (0 : Int32)
  · refine own_lv9 u1 u2 u3 q (2 : Int32) X0 H e0 (own_sR1n l Z a0 hw [] ((2 : Int32)) (((u3).toUInt32 >>> ((9 : Int32) &&& 31).toUInt32).toInt32) (q) ((u1 &&& (3 : Int32))) ((u2 &&& (3 : Int32))) ((0 : Int32)) ((2 : Int32)) (b1) (a1) ((4 : Int32)) h1 n0 (Nat.le_trans Z0 K0.1) B0 (own_and3 u1) (own_and3 u2) (by decide) ho (by decide) (by decide) (by decide) (by decide) (by decide) (by decide) (by decide) (by decide)) (by decide) (by decide) (by decide) (by decide) ?_
    intro v T' L X' q'
    obtain ⟨rfl, N', K', f'⟩ := q'
    exact ⟨(1 : Int32), rfl, own_gF1 u1 u2 u3 q (own_mono X' (by decide) (by decide)) hx hZ hw hby hml hown hnm hlk hret Z0 rfl (Fr.app N0 N') (K0.trans K' (allS (Or.inr sq) (allS (Or.inr sa1) all0)))⟩
  · refine own_lv9 u1 u2 u3 q (2 : Int32) X0 H e0 (own_sA1n l Z a0 hw [] ((2 : Int32)) (((u3).toUInt32 >>> ((9 : Int32) &&& 31).toUInt32).toInt32) (q) ((u1 &&& (3 : Int32))) ((u2 &&& (3 : Int32))) ((0 : Int32)) ((2 : Int32)) (b1) (a1) ((4 : Int32)) h1 n0 (Nat.le_trans Z0 K0.1) B0 (own_and3 u1) (own_and3 u2) (by decide) ho (by decide) (by decide) (by decide)) (by decide) (by decide) (by decide) (by decide) ?_
    intro v T' L X' q'
    obtain ⟨rfl, N', K', f'⟩ := q'
    exact ⟨(3 : Int32), rfl, own_gF3 u1 u2 u3 q (own_mono X' (by decide) (by decide)) hx hZ hw hby hml hown hnm hlk hret Z0 rfl (Fr.app N0 N') (K0.trans K' (allS (Or.inr sq) all0))⟩
set_option maxRecDepth 65536 in
set_option maxHeartbeats 40000000 in
theorem own_g9_4_0_3 {p : Program} {l : Launch} {e : Env} {s : State} {m : MethodId} {args : Array Value} {below : List Frame} {meth : Method} {c : Code} {T0 : State} {locs : List Loc} {Z : State} {a0 : Array Value} {h0 h1 : Heap} {n0 : Nat} (u1 u2 u3 : Int32) (q b1 a1 : Addr) (X0 : Stand p l e room_1 s m args below meth c T0 locs 7 50) (H : own_Cx p s m meth c Z a0 n0 h0) (e0 : T0.heap = h1) (N0 : Fr n0 locs) (K0 : Keep h0 h1 []) (B0 : own_Q1 Z h1 q n0 (u1 &&& (3 : Int32)) (u2 &&& (3 : Int32)) (0 : Int32) (3 : Int32) b1 a1 (4 : Int32)) (sq : h0.size ≤ q) (sb1 : h0.size ≤ b1) (sa1 : h0.size ≤ a1) : own_Goes p e below s 32 320 (Q_own_law Z u1 u2 u3 h0 n0) T0 (mkF m 126 #[iv u1, iv u2, iv u3, rv q, iv (3 : Int32)] []) := by
  obtain ⟨hx, hZ, hw, hby, hml, hown, hnm, hlk, hret, Z0⟩ := id H
  by_cases ho : (((u3).toUInt32 >>> ((9 : Int32) &&& 31).toUInt32).toInt32 &&& (1 : Int32)) = (0 : Int32)
  · refine own_lv9 u1 u2 u3 q (3 : Int32) X0 H e0 (own_sR1n l Z a0 hw [] ((3 : Int32)) (((u3).toUInt32 >>> ((9 : Int32) &&& 31).toUInt32).toInt32) (q) ((u1 &&& (3 : Int32))) ((u2 &&& (3 : Int32))) ((0 : Int32)) ((3 : Int32)) (b1) (a1) ((4 : Int32)) h1 n0 (Nat.le_trans Z0 K0.1) B0 (own_and3 u1) (own_and3 u2) (by decide) ho (by decide) (by decide) (by decide) (by decide) (by decide) (by decide) (by decide) (by decide)) (by decide) (by decide) (by decide) (by decide) ?_
    intro v T' L X' q'
    obtain ⟨rfl, N', K', f'⟩ := q'
    exact ⟨(2 : Int32), rfl, own_gF2 u1 u2 u3 q (own_mono X' (by decide) (by decide)) hx hZ hw hby hml hown hnm hlk hret Z0 rfl (Fr.app N0 N') (K0.trans K' (allS (Or.inr sq) (allS (Or.inr sa1) all0)))⟩
  · refine own_lv9 u1 u2 u3 q (3 : Int32) X0 H e0 (own_sA1n l Z a0 hw [] ((3 : Int32)) (((u3).toUInt32 >>> ((9 : Int32) &&& 31).toUInt32).toInt32) (q) ((u1 &&& (3 : Int32))) ((u2 &&& (3 : Int32))) ((0 : Int32)) ((3 : Int32)) (b1) (a1) ((4 : Int32)) h1 n0 (Nat.le_trans Z0 K0.1) B0 (own_and3 u1) (own_and3 u2) (by decide) ho (by decide) (by decide) (by decide)) (by decide) (by decide) (by decide) (by decide) ?_
    intro v T' L X' q'
    obtain ⟨rfl, N', K', f'⟩ := q'
    exact ⟨(4 : Int32), rfl, own_gF4 u1 u2 u3 q (own_mono X' (by decide) (by decide)) hx hZ hw hby hml hown hnm hlk hret Z0 rfl (Fr.app N0 N') (K0.trans K' (allS (Or.inr sq) all0))⟩
set_option maxRecDepth 65536 in
set_option maxHeartbeats 40000000 in
theorem own_g9_4_0_4 {p : Program} {l : Launch} {e : Env} {s : State} {m : MethodId} {args : Array Value} {below : List Frame} {meth : Method} {c : Code} {T0 : State} {locs : List Loc} {Z : State} {a0 : Array Value} {h0 h1 : Heap} {n0 : Nat} (u1 u2 u3 : Int32) (q b1 a1 : Addr) (X0 : Stand p l e room_1 s m args below meth c T0 locs 7 50) (H : own_Cx p s m meth c Z a0 n0 h0) (e0 : T0.heap = h1) (N0 : Fr n0 locs) (K0 : Keep h0 h1 []) (B0 : own_Q1 Z h1 q n0 (u1 &&& (3 : Int32)) (u2 &&& (3 : Int32)) (0 : Int32) (4 : Int32) b1 a1 (4 : Int32)) (sq : h0.size ≤ q) (sb1 : h0.size ≤ b1) (sa1 : h0.size ≤ a1) : own_Goes p e below s 32 320 (Q_own_law Z u1 u2 u3 h0 n0) T0 (mkF m 126 #[iv u1, iv u2, iv u3, rv q, iv (4 : Int32)] []) := by
  obtain ⟨hx, hZ, hw, hby, hml, hown, hnm, hlk, hret, Z0⟩ := id H
  by_cases ho : (((u3).toUInt32 >>> ((9 : Int32) &&& 31).toUInt32).toInt32 &&& (1 : Int32)) = (0 : Int32)
  · refine own_lv9 u1 u2 u3 q (4 : Int32) X0 H e0 (own_sR1n l Z a0 hw [] ((4 : Int32)) (((u3).toUInt32 >>> ((9 : Int32) &&& 31).toUInt32).toInt32) (q) ((u1 &&& (3 : Int32))) ((u2 &&& (3 : Int32))) ((0 : Int32)) ((4 : Int32)) (b1) (a1) ((4 : Int32)) h1 n0 (Nat.le_trans Z0 K0.1) B0 (own_and3 u1) (own_and3 u2) (by decide) ho (by decide) (by decide) (by decide) (by decide) (by decide) (by decide) (by decide) (by decide)) (by decide) (by decide) (by decide) (by decide) ?_
    intro v T' L X' q'
    obtain ⟨rfl, N', K', f'⟩ := q'
    exact ⟨(3 : Int32), rfl, own_gF3 u1 u2 u3 q (own_mono X' (by decide) (by decide)) hx hZ hw hby hml hown hnm hlk hret Z0 rfl (Fr.app N0 N') (K0.trans K' (allS (Or.inr sq) (allS (Or.inr sa1) all0)))⟩
  · refine own_lv9 u1 u2 u3 q (4 : Int32) X0 H e0 (own_sA1a4 l Z a0 hw [] ((4 : Int32)) (((u3).toUInt32 >>> ((9 : Int32) &&& 31).toUInt32).toInt32) (q) ((u1 &&& (3 : Int32))) ((u2 &&& (3 : Int32))) ((0 : Int32)) (b1) (a1) h1 n0 (Nat.le_trans Z0 K0.1) B0 (own_and3 u1) (own_and3 u2) (by decide) ho (by decide)) (by decide) (by decide) (by decide) (by decide) ?_
    intro v T' L X' q'
    obtain ⟨nb2, na2, rfl, N', K', f', t0, t1⟩ := q'
    exact ⟨(5 : Int32), rfl, own_gF5 u1 u2 u3 q (own_mono X' (by decide) (by decide)) hx hZ hw hby hml hown hnm hlk hret Z0 rfl (Fr.app N0 N') (K0.trans K' (allS (Or.inr sq) (allS (Or.inr sb1) all0)))⟩
set_option maxRecDepth 65536 in
set_option maxHeartbeats 40000000 in
theorem own_g9_4_1_2 {p : Program} {l : Launch} {e : Env} {s : State} {m : MethodId} {args : Array Value} {below : List Frame} {meth : Method} {c : Code} {T0 : State} {locs : List Loc} {Z : State} {a0 : Array Value} {h0 h1 : Heap} {n0 : Nat} (u1 u2 u3 : Int32) (q b1 a1 : Addr) (X0 : Stand p l e room_1 s m args below meth c T0 locs 7 50) (H : own_Cx p s m meth c Z a0 n0 h0) (e0 : T0.heap = h1) (N0 : Fr n0 locs) (K0 : Keep h0 h1 []) (B0 : own_Q1 Z h1 q n0 (u1 &&& (3 : Int32)) (u2 &&& (3 : Int32)) (1 : Int32) (2 : Int32) b1 a1 (4 : Int32)) (sq : h0.size ≤ q) (sb1 : h0.size ≤ b1) (sa1 : h0.size ≤ a1) : own_Goes p e below s 32 320 (Q_own_law Z u1 u2 u3 h0 n0) T0 (mkF m 126 #[iv u1, iv u2, iv u3, rv q, iv (1 : Int32)] []) := by
  obtain ⟨hx, hZ, hw, hby, hml, hown, hnm, hlk, hret, Z0⟩ := id H
  by_cases ho : (((u3).toUInt32 >>> ((9 : Int32) &&& 31).toUInt32).toInt32 &&& (1 : Int32)) = (0 : Int32)
  · refine own_lv9 u1 u2 u3 q (1 : Int32) X0 H e0 (own_sR1e l Z a0 hw [] ((1 : Int32)) (((u3).toUInt32 >>> ((9 : Int32) &&& 31).toUInt32).toInt32) (q) ((u1 &&& (3 : Int32))) ((u2 &&& (3 : Int32))) ((1 : Int32)) ((2 : Int32)) (b1) (a1) ((4 : Int32)) h1 n0 (Nat.le_trans Z0 K0.1) B0 (own_and3 u1) (own_and3 u2) (by decide) ho (by decide) (by decide) (by decide) (by decide) (by decide) (by decide) (by decide)) (by decide) (by decide) (by decide) (by decide) ?_
    intro v T' L X' q'
    obtain ⟨rfl, N', K', f'⟩ := q'
    exact ⟨(0 : Int32), rfl, own_gF0 u1 u2 u3 q (own_mono X' (by decide) (by decide)) hx hZ hw hby hml hown hnm hlk hret Z0 rfl (Fr.app N0 N') (K0.trans K' (allS (Or.inr sq) (allS (Or.inr sa1) all0)))⟩
  · refine own_lv9 u1 u2 u3 q (1 : Int32) X0 H e0 (own_sA1n l Z a0 hw [] ((1 : Int32)) (((u3).toUInt32 >>> ((9 : Int32) &&& 31).toUInt32).toInt32) (q) ((u1 &&& (3 : Int32))) ((u2 &&& (3 : Int32))) ((1 : Int32)) ((2 : Int32)) (b1) (a1) ((4 : Int32)) h1 n0 (Nat.le_trans Z0 K0.1) B0 (own_and3 u1) (own_and3 u2) (by decide) ho (by decide) (by decide) (by decide)) (by decide) (by decide) (by decide) (by decide) ?_
    intro v T' L X' q'
    obtain ⟨rfl, N', K', f'⟩ := q'
    exact ⟨(2 : Int32), rfl, own_gF2 u1 u2 u3 q (own_mono X' (by decide) (by decide)) hx hZ hw hby hml hown hnm hlk hret Z0 rfl (Fr.app N0 N') (K0.trans K' (allS (Or.inr sq) all0))⟩
set_option maxRecDepth 65536 in
set_option maxHeartbeats 40000000 in
theorem own_g9_4_1_3 {p : Program} {l : Launch} {e : Env} {s : State} {m : MethodId} {args : Array Value} {below : List Frame} {meth : Method} {c : Code} {T0 : State} {locs : List Loc} {Z : State} {a0 : Array Value} {h0 h1 : Heap} {n0 : Nat} (u1 u2 u3 : Int32) (q b1 a1 : Addr) (X0 : Stand p l e room_1 s m args below meth c T0 locs 7 50) (H : own_Cx p s m meth c Z a0 n0 h0) (e0 : T0.heap = h1) (N0 : Fr n0 locs) (K0 : Keep h0 h1 []) (B0 : own_Q1 Z h1 q n0 (u1 &&& (3 : Int32)) (u2 &&& (3 : Int32)) (1 : Int32) (3 : Int32) b1 a1 (4 : Int32)) (sq : h0.size ≤ q) (sb1 : h0.size ≤ b1) (sa1 : h0.size ≤ a1) : own_Goes p e below s 32 320 (Q_own_law Z u1 u2 u3 h0 n0) T0 (mkF m 126 #[iv u1, iv u2, iv u3, rv q, iv (2 : Int32)] []) := by
  obtain ⟨hx, hZ, hw, hby, hml, hown, hnm, hlk, hret, Z0⟩ := id H
  by_cases ho : (((u3).toUInt32 >>> ((9 : Int32) &&& 31).toUInt32).toInt32 &&& (1 : Int32)) = (0 : Int32)
  · refine own_lv9 u1 u2 u3 q (2 : Int32) X0 H e0 (own_sR1n l Z a0 hw [] ((2 : Int32)) (((u3).toUInt32 >>> ((9 : Int32) &&& 31).toUInt32).toInt32) (q) ((u1 &&& (3 : Int32))) ((u2 &&& (3 : Int32))) ((1 : Int32)) ((3 : Int32)) (b1) (a1) ((4 : Int32)) h1 n0 (Nat.le_trans Z0 K0.1) B0 (own_and3 u1) (own_and3 u2) (by decide) ho (by decide) (by decide) (by decide) (by decide) (by decide) (by decide) (by decide) (by decide)) (by decide) (by decide) (by decide) (by decide) ?_
    intro v T' L X' q'
    obtain ⟨rfl, N', K', f'⟩ := q'
    exact ⟨(1 : Int32), rfl, own_gF1 u1 u2 u3 q (own_mono X' (by decide) (by decide)) hx hZ hw hby hml hown hnm hlk hret Z0 rfl (Fr.app N0 N') (K0.trans K' (allS (Or.inr sq) (allS (Or.inr sa1) all0)))⟩
  · refine own_lv9 u1 u2 u3 q (2 : Int32) X0 H e0 (own_sA1n l Z a0 hw [] ((2 : Int32)) (((u3).toUInt32 >>> ((9 : Int32) &&& 31).toUInt32).toInt32) (q) ((u1 &&& (3 : Int32))) ((u2 &&& (3 : Int32))) ((1 : Int32)) ((3 : Int32)) (b1) (a1) ((4 : Int32)) h1 n0 (Nat.le_trans Z0 K0.1) B0 (own_and3 u1) (own_and3 u2) (by decide) ho (by decide) (by decide) (by decide)) (by decide) (by decide) (by decide) (by decide) ?_
    intro v T' L X' q'
    obtain ⟨rfl, N', K', f'⟩ := q'
    exact ⟨(3 : Int32), rfl, own_gF3 u1 u2 u3 q (own_mono X' (by decide) (by decide)) hx hZ hw hby hml hown hnm hlk hret Z0 rfl (Fr.app N0 N') (K0.trans K' (allS (Or.inr sq) all0))⟩
set_option maxRecDepth 65536 in
set_option maxHeartbeats 40000000 in
theorem own_g9_4_1_4 {p : Program} {l : Launch} {e : Env} {s : State} {m : MethodId} {args : Array Value} {below : List Frame} {meth : Method} {c : Code} {T0 : State} {locs : List Loc} {Z : State} {a0 : Array Value} {h0 h1 : Heap} {n0 : Nat} (u1 u2 u3 : Int32) (q b1 a1 : Addr) (X0 : Stand p l e room_1 s m args below meth c T0 locs 7 50) (H : own_Cx p s m meth c Z a0 n0 h0) (e0 : T0.heap = h1) (N0 : Fr n0 locs) (K0 : Keep h0 h1 []) (B0 : own_Q1 Z h1 q n0 (u1 &&& (3 : Int32)) (u2 &&& (3 : Int32)) (1 : Int32) (4 : Int32) b1 a1 (4 : Int32)) (sq : h0.size ≤ q) (sb1 : h0.size ≤ b1) (sa1 : h0.size ≤ a1) : own_Goes p e below s 32 320 (Q_own_law Z u1 u2 u3 h0 n0) T0 (mkF m 126 #[iv u1, iv u2, iv u3, rv q, iv (3 : Int32)] []) := by
  obtain ⟨hx, hZ, hw, hby, hml, hown, hnm, hlk, hret, Z0⟩ := id H
  by_cases ho : (((u3).toUInt32 >>> ((9 : Int32) &&& 31).toUInt32).toInt32 &&& (1 : Int32)) = (0 : Int32)
  · refine own_lv9 u1 u2 u3 q (3 : Int32) X0 H e0 (own_sR1n l Z a0 hw [] ((3 : Int32)) (((u3).toUInt32 >>> ((9 : Int32) &&& 31).toUInt32).toInt32) (q) ((u1 &&& (3 : Int32))) ((u2 &&& (3 : Int32))) ((1 : Int32)) ((4 : Int32)) (b1) (a1) ((4 : Int32)) h1 n0 (Nat.le_trans Z0 K0.1) B0 (own_and3 u1) (own_and3 u2) (by decide) ho (by decide) (by decide) (by decide) (by decide) (by decide) (by decide) (by decide) (by decide)) (by decide) (by decide) (by decide) (by decide) ?_
    intro v T' L X' q'
    obtain ⟨rfl, N', K', f'⟩ := q'
    exact ⟨(2 : Int32), rfl, own_gF2 u1 u2 u3 q (own_mono X' (by decide) (by decide)) hx hZ hw hby hml hown hnm hlk hret Z0 rfl (Fr.app N0 N') (K0.trans K' (allS (Or.inr sq) (allS (Or.inr sa1) all0)))⟩
  · refine own_lv9 u1 u2 u3 q (3 : Int32) X0 H e0 (own_sA1a4 l Z a0 hw [] ((3 : Int32)) (((u3).toUInt32 >>> ((9 : Int32) &&& 31).toUInt32).toInt32) (q) ((u1 &&& (3 : Int32))) ((u2 &&& (3 : Int32))) ((1 : Int32)) (b1) (a1) h1 n0 (Nat.le_trans Z0 K0.1) B0 (own_and3 u1) (own_and3 u2) (by decide) ho (by decide)) (by decide) (by decide) (by decide) (by decide) ?_
    intro v T' L X' q'
    obtain ⟨nb2, na2, rfl, N', K', f', t0, t1⟩ := q'
    exact ⟨(4 : Int32), rfl, own_gF4 u1 u2 u3 q (own_mono X' (by decide) (by decide)) hx hZ hw hby hml hown hnm hlk hret Z0 rfl (Fr.app N0 N') (K0.trans K' (allS (Or.inr sq) (allS (Or.inr sb1) all0)))⟩
set_option maxRecDepth 65536 in
set_option maxHeartbeats 40000000 in
theorem own_g9_4_2_3 {p : Program} {l : Launch} {e : Env} {s : State} {m : MethodId} {args : Array Value} {below : List Frame} {meth : Method} {c : Code} {T0 : State} {locs : List Loc} {Z : State} {a0 : Array Value} {h0 h1 : Heap} {n0 : Nat} (u1 u2 u3 : Int32) (q b1 a1 : Addr) (X0 : Stand p l e room_1 s m args below meth c T0 locs 7 50) (H : own_Cx p s m meth c Z a0 n0 h0) (e0 : T0.heap = h1) (N0 : Fr n0 locs) (K0 : Keep h0 h1 []) (B0 : own_Q1 Z h1 q n0 (u1 &&& (3 : Int32)) (u2 &&& (3 : Int32)) (2 : Int32) (3 : Int32) b1 a1 (4 : Int32)) (sq : h0.size ≤ q) (sb1 : h0.size ≤ b1) (sa1 : h0.size ≤ a1) : own_Goes p e below s 32 320 (Q_own_law Z u1 u2 u3 h0 n0) T0 (mkF m 126 #[iv u1, iv u2, iv u3, rv q, iv (1 : Int32)] []) := by
  obtain ⟨hx, hZ, hw, hby, hml, hown, hnm, hlk, hret, Z0⟩ := id H
  by_cases ho : (((u3).toUInt32 >>> ((9 : Int32) &&& 31).toUInt32).toInt32 &&& (1 : Int32)) = (0 : Int32)
  · refine own_lv9 u1 u2 u3 q (1 : Int32) X0 H e0 (own_sR1e l Z a0 hw [] ((1 : Int32)) (((u3).toUInt32 >>> ((9 : Int32) &&& 31).toUInt32).toInt32) (q) ((u1 &&& (3 : Int32))) ((u2 &&& (3 : Int32))) ((2 : Int32)) ((3 : Int32)) (b1) (a1) ((4 : Int32)) h1 n0 (Nat.le_trans Z0 K0.1) B0 (own_and3 u1) (own_and3 u2) (by decide) ho (by decide) (by decide) (by decide) (by decide) (by decide) (by decide) (by decide)) (by decide) (by decide) (by decide) (by decide) ?_
    intro v T' L X' q'
    obtain ⟨rfl, N', K', f'⟩ := q'
    exact ⟨(0 : Int32), rfl, own_gF0 u1 u2 u3 q (own_mono X' (by decide) (by decide)) hx hZ hw hby hml hown hnm hlk hret Z0 rfl (Fr.app N0 N') (K0.trans K' (allS (Or.inr sq) (allS (Or.inr sa1) all0)))⟩
  · refine own_lv9 u1 u2 u3 q (1 : Int32) X0 H e0 (own_sA1n l Z a0 hw [] ((1 : Int32)) (((u3).toUInt32 >>> ((9 : Int32) &&& 31).toUInt32).toInt32) (q) ((u1 &&& (3 : Int32))) ((u2 &&& (3 : Int32))) ((2 : Int32)) ((3 : Int32)) (b1) (a1) ((4 : Int32)) h1 n0 (Nat.le_trans Z0 K0.1) B0 (own_and3 u1) (own_and3 u2) (by decide) ho (by decide) (by decide) (by decide)) (by decide) (by decide) (by decide) (by decide) ?_
    intro v T' L X' q'
    obtain ⟨rfl, N', K', f'⟩ := q'
    exact ⟨(2 : Int32), rfl, own_gF2 u1 u2 u3 q (own_mono X' (by decide) (by decide)) hx hZ hw hby hml hown hnm hlk hret Z0 rfl (Fr.app N0 N') (K0.trans K' (allS (Or.inr sq) all0))⟩
set_option maxRecDepth 65536 in
set_option maxHeartbeats 40000000 in
theorem own_g9_48_0_1 {p : Program} {l : Launch} {e : Env} {s : State} {m : MethodId} {args : Array Value} {below : List Frame} {meth : Method} {c : Code} {T0 : State} {locs : List Loc} {Z : State} {a0 : Array Value} {h0 h1 : Heap} {n0 : Nat} (u1 u2 u3 : Int32) (q b1 a1 b2 a2 : Addr) (X0 : Stand p l e room_1 s m args below meth c T0 locs 10 102) (H : own_Cx p s m meth c Z a0 n0 h0) (e0 : T0.heap = h1) (N0 : Fr n0 locs) (K0 : Keep h0 h1 []) (B0 : own_Q2 Z h1 q n0 (u1 &&& (3 : Int32)) (u2 &&& (3 : Int32)) (0 : Int32) (1 : Int32) b1 a1 (4 : Int32) b2 a2 (8 : Int32)) (sq : h0.size ≤ q) (sb1 : h0.size ≤ b1) (sa1 : h0.size ≤ a1) (sb2 : h0.size ≤ b2) (sa2 : h0.size ≤ a2) : own_Goes p e below s 32 320 (Q_own_law Z u1 u2 u3 h0 n0) T0 (mkF m 126 #[iv u1, iv u2, iv u3, rv q, iv (5 : Int32)] []) := by
  obtain ⟨hx, hZ, hw, hby, hml, hown, hnm, hlk, hret, Z0⟩ := id H
  by_cases ho : (((u3).toUInt32 >>> ((9 : Int32) &&& 31).toUInt32).toInt32 &&& (1 : Int32)) = (0 : Int32)
  · refine own_lv9 u1 u2 u3 q (5 : Int32) X0 H e0 (own_sR2n l Z a0 hw [] ((5 : Int32)) (((u3).toUInt32 >>> ((9 : Int32) &&& 31).toUInt32).toInt32) (q) ((u1 &&& (3 : Int32))) ((u2 &&& (3 : Int32))) ((0 : Int32)) ((1 : Int32)) (b1) (a1) ((4 : Int32)) (b2) (a2) ((8 : Int32)) h1 n0 (Nat.le_trans Z0 K0.1) B0 (own_and3 u1) (own_and3 u2) (by decide) ho (by decide) (by decide) (by decide) (by decide) (by decide) (by decide)) (by decide) (by decide) (by decide) (by decide) ?_
    intro v T' L X' q'
    obtain ⟨rfl, N', K', f'⟩ := q'
    exact ⟨(4 : Int32), rfl, own_gF4 u1 u2 u3 q (own_mono X' (by decide) (by decide)) hx hZ hw hby hml hown hnm hlk hret Z0 rfl (Fr.app N0 N') (K0.trans K' (allS (Or.inr sq) (allS (Or.inr sa1) all0)))⟩
  · refine own_lv9 u1 u2 u3 q (5 : Int32) X0 H e0 (own_sA2n l Z a0 hw [] ((5 : Int32)) (((u3).toUInt32 >>> ((9 : Int32) &&& 31).toUInt32).toInt32) (q) ((u1 &&& (3 : Int32))) ((u2 &&& (3 : Int32))) ((0 : Int32)) ((1 : Int32)) (b1) (a1) ((4 : Int32)) (b2) (a2) ((8 : Int32)) h1 n0 (Nat.le_trans Z0 K0.1) B0 (own_and3 u1) (own_and3 u2) (by decide) ho (by decide) (by decide)) (by decide) (by decide) (by decide) (by decide) ?_
    intro v T' L X' q'
    obtain ⟨rfl, N', K', f'⟩ := q'
    exact ⟨(6 : Int32), rfl, own_gF6 u1 u2 u3 q (own_mono X' (by decide) (by decide)) hx hZ hw hby hml hown hnm hlk hret Z0 rfl (Fr.app N0 N') (K0.trans K' (allS (Or.inr sq) all0))⟩
set_option maxRecDepth 65536 in
set_option maxHeartbeats 40000000 in
theorem own_g8_e_0_0 {p : Program} {l : Launch} {e : Env} {s : State} {m : MethodId} {args : Array Value} {below : List Frame} {meth : Method} {c : Code} {T0 : State} {locs : List Loc} {Z : State} {a0 : Array Value} {h0 h1 : Heap} {n0 : Nat} (u1 u2 u3 : Int32) (q : Addr) (X0 : Stand p l e room_1 s m args below meth c T0 locs 1 6) (H : own_Cx p s m meth c Z a0 n0 h0) (e0 : T0.heap = h1) (N0 : Fr n0 locs) (K0 : Keep h0 h1 []) (B0 : own_Q0 Z h1 q n0 (u1 &&& (3 : Int32)) (u2 &&& (3 : Int32))) (sq : h0.size ≤ q) : own_Goes p e below s 32 320 (Q_own_law Z u1 u2 u3 h0 n0) T0 (mkF m 114 #[iv u1, iv u2, iv u3, rv q, iv (0 : Int32)] []) := by
  obtain ⟨hx, hZ, hw, hby, hml, hown, hnm, hlk, hret, Z0⟩ := id H
  by_cases ho : (((u3).toUInt32 >>> ((8 : Int32) &&& 31).toUInt32).toInt32 &&& (1 : Int32)) = (0 : Int32)
  · refine own_lv8 u1 u2 u3 q (0 : Int32) X0 H e0 (own_sR0 l Z a0 hw [] ((0 : Int32)) (((u3).toUInt32 >>> ((8 : Int32) &&& 31).toUInt32).toInt32) (q) ((u1 &&& (3 : Int32))) ((u2 &&& (3 : Int32))) h1 n0 (Nat.le_trans Z0 K0.1) B0 (own_and3 u1) (own_and3 u2) (by decide) ho (by decide) (by decide)) (by decide) (by decide) (by decide) (by decide) ?_
    intro v T' L X' q'
    obtain ⟨rfl, N', e'⟩ := q'
    exact ⟨(0 : Int32), rfl, own_g9_e_0_0 u1 u2 u3 q  X' H e' (Fr.app N0 N') K0 B0 sq ⟩
  · refine own_lv8 u1 u2 u3 q (0 : Int32) X0 H e0 (own_sA0 l Z a0 hw [] ((0 : Int32)) (((u3).toUInt32 >>> ((8 : Int32) &&& 31).toUInt32).toInt32) (q) ((u1 &&& (3 : Int32))) ((u2 &&& (3 : Int32))) h1 n0 (Nat.le_trans Z0 K0.1) B0 (own_and3 u1) (own_and3 u2) (by decide) ho (by decide)) (by decide) (by decide) (by decide) (by decide) ?_
    intro v T' L X' q'
    obtain ⟨nb1, na1, rfl, N', K', f', t0, t1⟩ := q'
    exact ⟨(1 : Int32), rfl, own_g9_2_0_1 u1 u2 u3 q nb1 na1 X' H rfl (Fr.app N0 N') (K0.trans K' (allS (Or.inr sq) all0)) f' sq (Nat.le_trans K0.1 t0) (Nat.le_trans K0.1 t1)⟩
set_option maxRecDepth 65536 in
set_option maxHeartbeats 40000000 in
theorem own_g8_2_0_0 {p : Program} {l : Launch} {e : Env} {s : State} {m : MethodId} {args : Array Value} {below : List Frame} {meth : Method} {c : Code} {T0 : State} {locs : List Loc} {Z : State} {a0 : Array Value} {h0 h1 : Heap} {n0 : Nat} (u1 u2 u3 : Int32) (q b1 a1 : Addr) (X0 : Stand p l e room_1 s m args below meth c T0 locs 4 22) (H : own_Cx p s m meth c Z a0 n0 h0) (e0 : T0.heap = h1) (N0 : Fr n0 locs) (K0 : Keep h0 h1 []) (B0 : own_Q1 Z h1 q n0 (u1 &&& (3 : Int32)) (u2 &&& (3 : Int32)) (0 : Int32) (0 : Int32) b1 a1 (2 : Int32)) (sq : h0.size ≤ q) (sb1 : h0.size ≤ b1) (sa1 : h0.size ≤ a1) : own_Goes p e below s 32 320 (Q_own_law Z u1 u2 u3 h0 n0) T0 (mkF m 114 #[iv u1, iv u2, iv u3, rv q, iv (0 : Int32)] []) := by
  obtain ⟨hx, hZ, hw, hby, hml, hown, hnm, hlk, hret, Z0⟩ := id H
  by_cases ho : (((u3).toUInt32 >>> ((8 : Int32) &&& 31).toUInt32).toInt32 &&& (1 : Int32)) = (0 : Int32)
  · refine own_lv8 u1 u2 u3 q (0 : Int32) X0 H e0 (own_sR1z l Z a0 hw [] ((0 : Int32)) (((u3).toUInt32 >>> ((8 : Int32) &&& 31).toUInt32).toInt32) (q) ((u1 &&& (3 : Int32))) ((u2 &&& (3 : Int32))) ((0 : Int32)) ((0 : Int32)) (b1) (a1) ((2 : Int32)) h1 n0 (Nat.le_trans Z0 K0.1) B0 (own_and3 u1) (own_and3 u2) (by decide) ho (by decide) (by decide) (by decide)) (by decide) (by decide) (by decide) (by decide) ?_
    intro v T' L X' q'
    obtain ⟨rfl, N', e'⟩ := q'
    exact ⟨(0 : Int32), rfl, own_g9_2_0_0 u1 u2 u3 q b1 a1 X' H e' (Fr.app N0 N') K0 B0 sq sb1 sa1⟩
  · refine own_lv8 u1 u2 u3 q (0 : Int32) X0 H e0 (own_sA1n l Z a0 hw [] ((0 : Int32)) (((u3).toUInt32 >>> ((8 : Int32) &&& 31).toUInt32).toInt32) (q) ((u1 &&& (3 : Int32))) ((u2 &&& (3 : Int32))) ((0 : Int32)) ((0 : Int32)) (b1) (a1) ((2 : Int32)) h1 n0 (Nat.le_trans Z0 K0.1) B0 (own_and3 u1) (own_and3 u2) (by decide) ho (by decide) (by decide) (by decide)) (by decide) (by decide) (by decide) (by decide) ?_
    intro v T' L X' q'
    obtain ⟨rfl, N', K', f'⟩ := q'
    exact ⟨(1 : Int32), rfl, own_g9_2_0_1 u1 u2 u3 q b1 a1 X' H rfl (Fr.app N0 N') (K0.trans K' (allS (Or.inr sq) all0)) f' sq sb1 sa1⟩
set_option maxRecDepth 65536 in
set_option maxHeartbeats 40000000 in
theorem own_g8_2_0_1 {p : Program} {l : Launch} {e : Env} {s : State} {m : MethodId} {args : Array Value} {below : List Frame} {meth : Method} {c : Code} {T0 : State} {locs : List Loc} {Z : State} {a0 : Array Value} {h0 h1 : Heap} {n0 : Nat} (u1 u2 u3 : Int32) (q b1 a1 : Addr) (X0 : Stand p l e room_1 s m args below meth c T0 locs 4 22) (H : own_Cx p s m meth c Z a0 n0 h0) (e0 : T0.heap = h1) (N0 : Fr n0 locs) (K0 : Keep h0 h1 []) (B0 : own_Q1 Z h1 q n0 (u1 &&& (3 : Int32)) (u2 &&& (3 : Int32)) (0 : Int32) (1 : Int32) b1 a1 (2 : Int32)) (sq : h0.size ≤ q) (sb1 : h0.size ≤ b1) (sa1 : h0.size ≤ a1) : own_Goes p e below s 32 320 (Q_own_law Z u1 u2 u3 h0 n0) T0 (mkF m 114 #[iv u1, iv u2, iv u3, rv q, iv (1 : Int32)] []) := by
  obtain ⟨hx, hZ, hw, hby, hml, hown, hnm, hlk, hret, Z0⟩ := id H
  by_cases ho : (((u3).toUInt32 >>> ((8 : Int32) &&& 31).toUInt32).toInt32 &&& (1 : Int32)) = (0 : Int32)
  · refine own_lv8 u1 u2 u3 q (1 : Int32) X0 H e0 (own_sR1e l Z a0 hw [] ((1 : Int32)) (((u3).toUInt32 >>> ((8 : Int32) &&& 31).toUInt32).toInt32) (q) ((u1 &&& (3 : Int32))) ((u2 &&& (3 : Int32))) ((0 : Int32)) ((1 : Int32)) (b1) (a1) ((2 : Int32)) h1 n0 (Nat.le_trans Z0 K0.1) B0 (own_and3 u1) (own_and3 u2) (by decide) ho (by decide) (by decide) (by decide) (by decide) (by decide) (by decide) (by decide)) (by decide) (by decide) (by decide) (by decide) ?_
    intro v T' L X' q'
    obtain ⟨rfl, N', K', f'⟩ := q'
    exact ⟨(0 : Int32), rfl, own_g9_2_0_0 u1 u2 u3 q b1 a1 X' H rfl (Fr.app N0 N') (K0.trans K' (allS (Or.inr sq) (allS (Or.inr sa1) all0))) f' sq sb1 sa1⟩
  · refine own_lv8 u1 u2 u3 q (1 : Int32) X0 H e0 (own_sA1n l Z a0 hw [] ((1 : Int32)) (((u3).toUInt32 >>> ((8 : Int32) &&& 31).toUInt32).toInt32) (q) ((u1 &&& (3 : Int32))) ((u2 &&& (3 : Int32))) ((0 : Int32)) ((1 : Int32)) (b1) (a1) ((2 : Int32)) h1 n0 (Nat.le_trans Z0 K0.1) B0 (own_and3 u1) (own_and3 u2) (by decide) ho (by decide) (by decide) (by decide)) (by decide) (by decide) (by decide) (by decide) ?_
    intro v T' L X' q'
    obtain ⟨rfl, N', K', f'⟩ := q'
    exact ⟨(2 : Int32), rfl, own_g9_2_0_2 u1 u2 u3 q b1 a1 X' H rfl (Fr.app N0 N') (K0.trans K' (allS (Or.inr sq) all0)) f' sq sb1 sa1⟩
set_option maxRecDepth 65536 in
set_option maxHeartbeats 40000000 in
theorem own_g8_2_0_2 {p : Program} {l : Launch} {e : Env} {s : State} {m : MethodId} {args : Array Value} {below : List Frame} {meth : Method} {c : Code} {T0 : State} {locs : List Loc} {Z : State} {a0 : Array Value} {h0 h1 : Heap} {n0 : Nat} (u1 u2 u3 : Int32) (q b1 a1 : Addr) (X0 : Stand p l e room_1 s m args below meth c T0 locs 4 22) (H : own_Cx p s m meth c Z a0 n0 h0) (e0 : T0.heap = h1) (N0 : Fr n0 locs) (K0 : Keep h0 h1 []) (B0 : own_Q1 Z h1 q n0 (u1 &&& (3 : Int32)) (u2 &&& (3 : Int32)) (0 : Int32) (2 : Int32) b1 a1 (2 : Int32)) (sq : h0.size ≤ q) (sb1 : h0.size ≤ b1) (sa1 : h0.size ≤ a1) : own_Goes p e below s 32 320 (Q_own_law Z u1 u2 u3 h0 n0) T0 (mkF m 114 #[iv u1, iv u2, iv u3, rv q, iv (2 : Int32)] []) := by
  obtain ⟨hx, hZ, hw, hby, hml, hown, hnm, hlk, hret, Z0⟩ := id H
  by_cases ho : (((u3).toUInt32 >>> ((8 : Int32) &&& 31).toUInt32).toInt32 &&& (1 : Int32)) = (0 : Int32)
  · refine own_lv8 u1 u2 u3 q (2 : Int32) X0 H e0 (own_sR1n l Z a0 hw [] ((2 : Int32)) (((u3).toUInt32 >>> ((8 : Int32) &&& 31).toUInt32).toInt32) (q) ((u1 &&& (3 : Int32))) ((u2 &&& (3 : Int32))) ((0 : Int32)) ((2 : Int32)) (b1) (a1) ((2 : Int32)) h1 n0 (Nat.le_trans Z0 K0.1) B0 (own_and3 u1) (own_and3 u2) (by decide) ho (by decide) (by decide) (by decide) (by decide) (by decide) (by decide) (by decide) (by decide)) (by decide) (by decide) (by decide) (by decide) ?_
    intro v T' L X' q'
    obtain ⟨rfl, N', K', f'⟩ := q'
    exact ⟨(1 : Int32), rfl, own_g9_2_1_2 u1 u2 u3 q b1 a1 X' H rfl (Fr.app N0 N') (K0.trans K' (allS (Or.inr sq) (allS (Or.inr sa1) all0))) f' sq sb1 sa1⟩
  · refine own_lv8 u1 u2 u3 q (2 : Int32) X0 H e0 (own_sA1a2 l Z a0 hw [] ((2 : Int32)) (((u3).toUInt32 >>> ((8 : Int32) &&& 31).toUInt32).toInt32) (q) ((u1 &&& (3 : Int32))) ((u2 &&& (3 : Int32))) ((0 : Int32)) (b1) (a1) h1 n0 (Nat.le_trans Z0 K0.1) B0 (own_and3 u1) (own_and3 u2) (by decide) ho (by decide)) (by decide) (by decide) (by decide) (by decide) ?_
    intro v T' L X' q'
    obtain ⟨nb2, na2, rfl, N', K', f', t0, t1⟩ := q'
    exact ⟨(3 : Int32), rfl, own_g9_24_0_1 u1 u2 u3 q b1 a1 nb2 na2 X' H rfl (Fr.app N0 N') (K0.trans K' (allS (Or.inr sq) (allS (Or.inr sb1) all0))) f' sq sb1 sa1 (Nat.le_trans K0.1 t0) (Nat.le_trans K0.1 t1)⟩
set_option maxRecDepth 65536 in
set_option maxHeartbeats 40000000 in
theorem own_g8_2_1_2 {p : Program} {l : Launch} {e : Env} {s : State} {m : MethodId} {args : Array Value} {below : List Frame} {meth : Method} {c : Code} {T0 : State} {locs : List Loc} {Z : State} {a0 : Array Value} {h0 h1 : Heap} {n0 : Nat} (u1 u2 u3 : Int32) (q b1 a1 : Addr) (X0 : Stand p l e room_1 s m args below meth c T0 locs 4 22) (H : own_Cx p s m meth c Z a0 n0 h0) (e0 : T0.heap = h1) (N0 : Fr n0 locs) (K0 : Keep h0 h1 []) (B0 : own_Q1 Z h1 q n0 (u1 &&& (3 : Int32)) (u2 &&& (3 : Int32)) (1 : Int32) (2 : Int32) b1 a1 (2 : Int32)) (sq : h0.size ≤ q) (sb1 : h0.size ≤ b1) (sa1 : h0.size ≤ a1) : own_Goes p e below s 32 320 (Q_own_law Z u1 u2 u3 h0 n0) T0 (mkF m 114 #[iv u1, iv u2, iv u3, rv q, iv (1 : Int32)] []) := by
  obtain ⟨hx, hZ, hw, hby, hml, hown, hnm, hlk, hret, Z0⟩ := id H
  by_cases ho : (((u3).toUInt32 >>> ((8 : Int32) &&& 31).toUInt32).toInt32 &&& (1 : Int32)) = (0 : Int32)
  · refine own_lv8 u1 u2 u3 q (1 : Int32) X0 H e0 (own_sR1e l Z a0 hw [] ((1 : Int32)) (((u3).toUInt32 >>> ((8 : Int32) &&& 31).toUInt32).toInt32) (q) ((u1 &&& (3 : Int32))) ((u2 &&& (3 : Int32))) ((1 : Int32)) ((2 : Int32)) (b1) (a1) ((2 : Int32)) h1 n0 (Nat.le_trans Z0 K0.1) B0 (own_and3 u1) (own_and3 u2) (by decide) ho (by decide) (by decide) (by decide) (by decide) (by decide) (by decide) (by decide)) (by decide) (by decide) (by decide) (by decide) ?_
    intro v T' L X' q'
    obtain ⟨rfl, N', K', f'⟩ := q'
    exact ⟨(0 : Int32), rfl, own_g9_2_0_0 u1 u2 u3 q b1 a1 X' H rfl (Fr.app N0 N') (K0.trans K' (allS (Or.inr sq) (allS (Or.inr sa1) all0))) f' sq sb1 sa1⟩
  · refine own_lv8 u1 u2 u3 q (1 : Int32) X0 H e0 (own_sA1a2 l Z a0 hw [] ((1 : Int32)) (((u3).toUInt32 >>> ((8 : Int32) &&& 31).toUInt32).toInt32) (q) ((u1 &&& (3 : Int32))) ((u2 &&& (3 : Int32))) ((1 : Int32)) (b1) (a1) h1 n0 (Nat.le_trans Z0 K0.1) B0 (own_and3 u1) (own_and3 u2) (by decide) ho (by decide)) (by decide) (by decide) (by decide) (by decide) ?_
    intro v T' L X' q'
    obtain ⟨nb2, na2, rfl, N', K', f', t0, t1⟩ := q'
    exact ⟨(2 : Int32), rfl, own_g9_24_1_1 u1 u2 u3 q b1 a1 nb2 na2 X' H rfl (Fr.app N0 N') (K0.trans K' (allS (Or.inr sq) (allS (Or.inr sb1) all0))) f' sq sb1 sa1 (Nat.le_trans K0.1 t0) (Nat.le_trans K0.1 t1)⟩
set_option maxRecDepth 65536 in
set_option maxHeartbeats 40000000 in
theorem own_g8_24_0_1 {p : Program} {l : Launch} {e : Env} {s : State} {m : MethodId} {args : Array Value} {below : List Frame} {meth : Method} {c : Code} {T0 : State} {locs : List Loc} {Z : State} {a0 : Array Value} {h0 h1 : Heap} {n0 : Nat} (u1 u2 u3 : Int32) (q b1 a1 b2 a2 : Addr) (X0 : Stand p l e room_1 s m args below meth c T0 locs 7 50) (H : own_Cx p s m meth c Z a0 n0 h0) (e0 : T0.heap = h1) (N0 : Fr n0 locs) (K0 : Keep h0 h1 []) (B0 : own_Q2 Z h1 q n0 (u1 &&& (3 : Int32)) (u2 &&& (3 : Int32)) (0 : Int32) (1 : Int32) b1 a1 (2 : Int32) b2 a2 (4 : Int32)) (sq : h0.size ≤ q) (sb1 : h0.size ≤ b1) (sa1 : h0.size ≤ a1) (sb2 : h0.size ≤ b2) (sa2 : h0.size ≤ a2) : own_Goes p e below s 32 320 (Q_own_law Z u1 u2 u3 h0 n0) T0 (mkF m 114 #[iv u1, iv u2, iv u3, rv q, iv (3 : Int32)] []) := by
  obtain ⟨hx, hZ, hw, hby, hml, hown, hnm, hlk, hret, Z0⟩ := id H
  by_cases ho : (((u3).toUInt32 >>> ((8 : Int32) &&& 31).toUInt32).toInt32 &&& (1 : Int32)) = (0 : Int32)
  · refine own_lv8 u1 u2 u3 q (3 : Int32) X0 H e0 (own_sR2n l Z a0 hw [] ((3 : Int32)) (((u3).toUInt32 >>> ((8 : Int32) &&& 31).toUInt32).toInt32) (q) ((u1 &&& (3 : Int32))) ((u2 &&& (3 : Int32))) ((0 : Int32)) ((1 : Int32)) (b1) (a1) ((2 : Int32)) (b2) (a2) ((4 : Int32)) h1 n0 (Nat.le_trans Z0 K0.1) B0 (own_and3 u1) (own_and3 u2) (by decide) ho (by decide) (by decide) (by decide) (by decide) (by decide) (by decide)) (by decide) (by decide) (by decide) (by decide) ?_
    intro v T' L X' q'
    obtain ⟨rfl, N', K', f'⟩ := q'
    exact ⟨(2 : Int32), rfl, own_g9_24_1_1 u1 u2 u3 q b1 a1 b2 a2 X' H rfl (Fr.app N0 N') (K0.trans K' (allS (Or.inr sq) (allS (Or.inr sa1) all0))) f' sq sb1 sa1 sb2 sa2⟩
  · refine own_lv8 u1 u2 u3 q (3 : Int32) X0 H e0 (own_sA2n l Z a0 hw [] ((3 : Int32)) (((u3).toUInt32 >>> ((8 : Int32) &&& 31).toUInt32).toInt32) (q) ((u1 &&& (3 : Int32))) ((u2 &&& (3 : Int32))) ((0 : Int32)) ((1 : Int32)) (b1) (a1) ((2 : Int32)) (b2) (a2) ((4 : Int32)) h1 n0 (Nat.le_trans Z0 K0.1) B0 (own_and3 u1) (own_and3 u2) (by decide) ho (by decide) (by decide)) (by decide) (by decide) (by decide) (by decide) ?_
    intro v T' L X' q'
    obtain ⟨rfl, N', K', f'⟩ := q'
    exact ⟨(4 : Int32), rfl, own_g9_24_0_2 u1 u2 u3 q b1 a1 b2 a2 X' H rfl (Fr.app N0 N') (K0.trans K' (allS (Or.inr sq) all0)) f' sq sb1 sa1 sb2 sa2⟩
set_option maxRecDepth 65536 in
set_option maxHeartbeats 40000000 in
theorem own_g8_24_0_2 {p : Program} {l : Launch} {e : Env} {s : State} {m : MethodId} {args : Array Value} {below : List Frame} {meth : Method} {c : Code} {T0 : State} {locs : List Loc} {Z : State} {a0 : Array Value} {h0 h1 : Heap} {n0 : Nat} (u1 u2 u3 : Int32) (q b1 a1 b2 a2 : Addr) (X0 : Stand p l e room_1 s m args below meth c T0 locs 7 50) (H : own_Cx p s m meth c Z a0 n0 h0) (e0 : T0.heap = h1) (N0 : Fr n0 locs) (K0 : Keep h0 h1 []) (B0 : own_Q2 Z h1 q n0 (u1 &&& (3 : Int32)) (u2 &&& (3 : Int32)) (0 : Int32) (2 : Int32) b1 a1 (2 : Int32) b2 a2 (4 : Int32)) (sq : h0.size ≤ q) (sb1 : h0.size ≤ b1) (sa1 : h0.size ≤ a1) (sb2 : h0.size ≤ b2) (sa2 : h0.size ≤ a2) : own_Goes p e below s 32 320 (Q_own_law Z u1 u2 u3 h0 n0) T0 (mkF m 114 #[iv u1, iv u2, iv u3, rv q, iv (4 : Int32)] []) := by
  obtain ⟨hx, hZ, hw, hby, hml, hown, hnm, hlk, hret, Z0⟩ := id H
  by_cases ho : (((u3).toUInt32 >>> ((8 : Int32) &&& 31).toUInt32).toInt32 &&& (1 : Int32)) = (0 : Int32)
  · refine own_lv8 u1 u2 u3 q (4 : Int32) X0 H e0 (own_sR2n l Z a0 hw [] ((4 : Int32)) (((u3).toUInt32 >>> ((8 : Int32) &&& 31).toUInt32).toInt32) (q) ((u1 &&& (3 : Int32))) ((u2 &&& (3 : Int32))) ((0 : Int32)) ((2 : Int32)) (b1) (a1) ((2 : Int32)) (b2) (a2) ((4 : Int32)) h1 n0 (Nat.le_trans Z0 K0.1) B0 (own_and3 u1) (own_and3 u2) (by decide) ho (by decide) (by decide) (by decide) (by decide) (by decide) (by decide)) (by decide) (by decide) (by decide) (by decide) ?_
    intro v T' L X' q'
    obtain ⟨rfl, N', K', f'⟩ := q'
    exact ⟨(3 : Int32), rfl, own_g9_24_1_2 u1 u2 u3 q b1 a1 b2 a2 X' H rfl (Fr.app N0 N') (K0.trans K' (allS (Or.inr sq) (allS (Or.inr sa1) all0))) f' sq sb1 sa1 sb2 sa2⟩
  · refine own_lv8 u1 u2 u3 q (4 : Int32) X0 H e0 (own_sA2n l Z a0 hw [] ((4 : Int32)) (((u3).toUInt32 >>> ((8 : Int32) &&& 31).toUInt32).toInt32) (q) ((u1 &&& (3 : Int32))) ((u2 &&& (3 : Int32))) ((0 : Int32)) ((2 : Int32)) (b1) (a1) ((2 : Int32)) (b2) (a2) ((4 : Int32)) h1 n0 (Nat.le_trans Z0 K0.1) B0 (own_and3 u1) (own_and3 u2) (by decide) ho (by decide) (by decide)) (by decide) (by decide) (by decide) (by decide) ?_
    intro v T' L X' q'
    obtain ⟨rfl, N', K', f'⟩ := q'
    exact ⟨(5 : Int32), rfl, own_g9_24_0_3 u1 u2 u3 q b1 a1 b2 a2 X' H rfl (Fr.app N0 N') (K0.trans K' (allS (Or.inr sq) all0)) f' sq sb1 sa1 sb2 sa2⟩
set_option maxRecDepth 65536 in
set_option maxHeartbeats 40000000 in
theorem own_g8_24_0_3 {p : Program} {l : Launch} {e : Env} {s : State} {m : MethodId} {args : Array Value} {below : List Frame} {meth : Method} {c : Code} {T0 : State} {locs : List Loc} {Z : State} {a0 : Array Value} {h0 h1 : Heap} {n0 : Nat} (u1 u2 u3 : Int32) (q b1 a1 b2 a2 : Addr) (X0 : Stand p l e room_1 s m args below meth c T0 locs 7 50) (H : own_Cx p s m meth c Z a0 n0 h0) (e0 : T0.heap = h1) (N0 : Fr n0 locs) (K0 : Keep h0 h1 []) (B0 : own_Q2 Z h1 q n0 (u1 &&& (3 : Int32)) (u2 &&& (3 : Int32)) (0 : Int32) (3 : Int32) b1 a1 (2 : Int32) b2 a2 (4 : Int32)) (sq : h0.size ≤ q) (sb1 : h0.size ≤ b1) (sa1 : h0.size ≤ a1) (sb2 : h0.size ≤ b2) (sa2 : h0.size ≤ a2) : own_Goes p e below s 32 320 (Q_own_law Z u1 u2 u3 h0 n0) T0 (mkF m 114 #[iv u1, iv u2, iv u3, rv q, iv (5 : Int32)] []) := by
  obtain ⟨hx, hZ, hw, hby, hml, hown, hnm, hlk, hret, Z0⟩ := id H
  by_cases ho : (((u3).toUInt32 >>> ((8 : Int32) &&& 31).toUInt32).toInt32 &&& (1 : Int32)) = (0 : Int32)
  · refine own_lv8 u1 u2 u3 q (5 : Int32) X0 H e0 (own_sR2n l Z a0 hw [] ((5 : Int32)) (((u3).toUInt32 >>> ((8 : Int32) &&& 31).toUInt32).toInt32) (q) ((u1 &&& (3 : Int32))) ((u2 &&& (3 : Int32))) ((0 : Int32)) ((3 : Int32)) (b1) (a1) ((2 : Int32)) (b2) (a2) ((4 : Int32)) h1 n0 (Nat.le_trans Z0 K0.1) B0 (own_and3 u1) (own_and3 u2) (by decide) ho (by decide) (by decide) (by decide) (by decide) (by decide) (by decide)) (by decide) (by decide) (by decide) (by decide) ?_
    intro v T' L X' q'
    obtain ⟨rfl, N', K', f'⟩ := q'
    exact ⟨(4 : Int32), rfl, own_g9_24_1_3 u1 u2 u3 q b1 a1 b2 a2 X' H rfl (Fr.app N0 N') (K0.trans K' (allS (Or.inr sq) (allS (Or.inr sa1) all0))) f' sq sb1 sa1 sb2 sa2⟩
  · refine own_lv8 u1 u2 u3 q (5 : Int32) X0 H e0 (own_sA2n l Z a0 hw [] ((5 : Int32)) (((u3).toUInt32 >>> ((8 : Int32) &&& 31).toUInt32).toInt32) (q) ((u1 &&& (3 : Int32))) ((u2 &&& (3 : Int32))) ((0 : Int32)) ((3 : Int32)) (b1) (a1) ((2 : Int32)) (b2) (a2) ((4 : Int32)) h1 n0 (Nat.le_trans Z0 K0.1) B0 (own_and3 u1) (own_and3 u2) (by decide) ho (by decide) (by decide)) (by decide) (by decide) (by decide) (by decide) ?_
    intro v T' L X' q'
    obtain ⟨rfl, N', K', f'⟩ := q'
    exact ⟨(6 : Int32), rfl, own_g9_24_0_4 u1 u2 u3 q b1 a1 b2 a2 X' H rfl (Fr.app N0 N') (K0.trans K' (allS (Or.inr sq) all0)) f' sq sb1 sa1 sb2 sa2⟩
set_option maxRecDepth 65536 in
set_option maxHeartbeats 40000000 in
theorem own_g8_24_0_4 {p : Program} {l : Launch} {e : Env} {s : State} {m : MethodId} {args : Array Value} {below : List Frame} {meth : Method} {c : Code} {T0 : State} {locs : List Loc} {Z : State} {a0 : Array Value} {h0 h1 : Heap} {n0 : Nat} (u1 u2 u3 : Int32) (q b1 a1 b2 a2 : Addr) (X0 : Stand p l e room_1 s m args below meth c T0 locs 7 50) (H : own_Cx p s m meth c Z a0 n0 h0) (e0 : T0.heap = h1) (N0 : Fr n0 locs) (K0 : Keep h0 h1 []) (B0 : own_Q2 Z h1 q n0 (u1 &&& (3 : Int32)) (u2 &&& (3 : Int32)) (0 : Int32) (4 : Int32) b1 a1 (2 : Int32) b2 a2 (4 : Int32)) (sq : h0.size ≤ q) (sb1 : h0.size ≤ b1) (sa1 : h0.size ≤ a1) (sb2 : h0.size ≤ b2) (sa2 : h0.size ≤ a2) : own_Goes p e below s 32 320 (Q_own_law Z u1 u2 u3 h0 n0) T0 (mkF m 114 #[iv u1, iv u2, iv u3, rv q, iv (6 : Int32)] []) := by
  obtain ⟨hx, hZ, hw, hby, hml, hown, hnm, hlk, hret, Z0⟩ := id H
  by_cases ho : (((u3).toUInt32 >>> ((8 : Int32) &&& 31).toUInt32).toInt32 &&& (1 : Int32)) = (0 : Int32)
  · refine own_lv8 u1 u2 u3 q (6 : Int32) X0 H e0 (own_sR2n l Z a0 hw [] ((6 : Int32)) (((u3).toUInt32 >>> ((8 : Int32) &&& 31).toUInt32).toInt32) (q) ((u1 &&& (3 : Int32))) ((u2 &&& (3 : Int32))) ((0 : Int32)) ((4 : Int32)) (b1) (a1) ((2 : Int32)) (b2) (a2) ((4 : Int32)) h1 n0 (Nat.le_trans Z0 K0.1) B0 (own_and3 u1) (own_and3 u2) (by decide) ho (by decide) (by decide) (by decide) (by decide) (by decide) (by decide)) (by decide) (by decide) (by decide) (by decide) ?_
    intro v T' L X' q'
    obtain ⟨rfl, N', K', f'⟩ := q'
    exact ⟨(5 : Int32), rfl, own_g9_24_1_4 u1 u2 u3 q b1 a1 b2 a2 X' H rfl (Fr.app N0 N') (K0.trans K' (allS (Or.inr sq) (allS (Or.inr sa1) all0))) f' sq sb1 sa1 sb2 sa2⟩
  · refine own_lv8 u1 u2 u3 q (6 : Int32) X0 H e0 (own_sA2a l Z a0 hw [] ((6 : Int32)) (((u3).toUInt32 >>> ((8 : Int32) &&& 31).toUInt32).toInt32) (q) ((u1 &&& (3 : Int32))) ((u2 &&& (3 : Int32))) ((0 : Int32)) (b1) (a1) (b2) (a2) h1 n0 (Nat.le_trans Z0 K0.1) B0 (own_and3 u1) (own_and3 u2) (by decide) ho (by decide)) (by decide) (by decide) (by decide) (by decide) ?_
    intro v T' L X' q'
    obtain ⟨nb3, na3, rfl, N', K', f', t0, t1⟩ := q'
    exact ⟨(7 : Int32), rfl, own_g9_248_0_1 u1 u2 u3 q b1 a1 b2 a2 nb3 na3 X' H rfl (Fr.app N0 N') (K0.trans K' (allS (Or.inr sq) (allS (Or.inr sb2) all0))) f' sq sb1 sa1 sb2 sa2 (Nat.le_trans K0.1 t0) (Nat.le_trans K0.1 t1)⟩
set_option maxRecDepth 65536 in
set_option maxHeartbeats 40000000 in
theorem own_g8_24_1_1 {p : Program} {l : Launch} {e : Env} {s : State} {m : MethodId} {args : Array Value} {below : List Frame} {meth : Method} {c : Code} {T0 : State} {locs : List Loc} {Z : State} {a0 : Array Value} {h0 h1 : Heap} {n0 : Nat} (u1 u2 u3 : Int32) (q b1 a1 b2 a2 : Addr) (X0 : Stand p l e room_1 s m args below meth c T0 locs 7 50) (H : own_Cx p s m meth c Z a0 n0 h0) (e0 : T0.heap = h1) (N0 : Fr n0 locs) (K0 : Keep h0 h1 []) (B0 : own_Q2 Z h1 q n0 (u1 &&& (3 : Int32)) (u2 &&& (3 : Int32)) (1 : Int32) (1 : Int32) b1 a1 (2 : Int32) b2 a2 (4 : Int32)) (sq : h0.size ≤ q) (sb1 : h0.size ≤ b1) (sa1 : h0.size ≤ a1) (sb2 : h0.size ≤ b2) (sa2 : h0.size ≤ a2) : own_Goes p e below s 32 320 (Q_own_law Z u1 u2 u3 h0 n0) T0 (mkF m 114 #[iv u1, iv u2, iv u3, rv q, iv (2 : Int32)] []) := by
  obtain ⟨hx, hZ, hw, hby, hml, hown, hnm, hlk, hret, Z0⟩ := id H
  by_cases ho : (((u3).toUInt32 >>> ((8 : Int32) &&& 31).toUInt32).toInt32 &&& (1 : Int32)) = (0 : Int32)
  · refine own_lv8 u1 u2 u3 q (2 : Int32) X0 H e0 (own_sR2a l Z a0 hw [] ((2 : Int32)) (((u3).toUInt32 >>> ((8 : Int32) &&& 31).toUInt32).toInt32) (q) ((u1 &&& (3 : Int32))) ((u2 &&& (3 : Int32))) ((1 : Int32)) ((1 : Int32)) (b1) (a1) ((2 : Int32)) (b2) (a2) ((4 : Int32)) h1 n0 (Nat.le_trans Z0 K0.1) B0 (own_and3 u1) (own_and3 u2) (by decide) ho (by decide) (by decide) (by decide) (by decide) (by decide) (by decide) (by decide)) (by decide) (by decide) (by decide) (by decide) ?_
    intro v T' L X' q'
    obtain ⟨rfl, N', K', f'⟩ := q'
    exact ⟨(1 : Int32), rfl, own_g9_4_0_1 u1 u2 u3 q b2 a2 X' H rfl (Fr.app N0 N') (K0.trans K' (allS (Or.inr sq) (allS (Or.inr sa1) all0))) f' sq sb2 sa2⟩
  · refine own_lv8 u1 u2 u3 q (2 : Int32) X0 H e0 (own_sA2n l Z a0 hw [] ((2 : Int32)) (((u3).toUInt32 >>> ((8 : Int32) &&& 31).toUInt32).toInt32) (q) ((u1 &&& (3 : Int32))) ((u2 &&& (3 : Int32))) ((1 : Int32)) ((1 : Int32)) (b1) (a1) ((2 : Int32)) (b2) (a2) ((4 : Int32)) h1 n0 (Nat.le_trans Z0 K0.1) B0 (own_and3 u1) (own_and3 u2) (by decide) ho (by decide) (by decide)) (by decide) (by decide) (by decide) (by decide) ?_
    intro v T' L X' q'
    obtain ⟨rfl, N', K', f'⟩ := q'
    exact ⟨(3 : Int32), rfl, own_g9_24_1_2 u1 u2 u3 q b1 a1 b2 a2 X' H rfl (Fr.app N0 N') (K0.trans K' (allS (Or.inr sq) all0)) f' sq sb1 sa1 sb2 sa2⟩
set_option maxRecDepth 65536 in
set_option maxHeartbeats 40000000 in
theorem own_g8_24_1_2 {p : Program} {l : Launch} {e : Env} {s : State} {m : MethodId} {args : Array Value} {below : List Frame} {meth : Method} {c : Code} {T0 : State} {locs : List Loc} {Z : State} {a0 : Array Value} {h0 h1 : Heap} {n0 : Nat} (u1 u2 u3 : Int32) (q b1 a1 b2 a2 : Addr) (X0 : Stand p l e room_1 s m args below meth c T0 locs 7 50) (H : own_Cx p s m meth c Z a0 n0 h0) (e0 : T0.heap = h1) (N0 : Fr n0 locs) (K0 : Keep h0 h1 []) (B0 : own_Q2 Z h1 q n0 (u1 &&& (3 : Int32)) (u2 &&& (3 : Int32)) (1 : Int32) (2 : Int32) b1 a1 (2 : Int32) b2 a2 (4 : Int32)) (sq : h0.size ≤ q) (sb1 : h0.size ≤ b1) (sa1 : h0.size ≤ a1) (sb2 : h0.size ≤ b2) (sa2 : h0.size ≤ a2) : own_Goes p e below s 32 320 (Q_own_law Z u1 u2 u3 h0 n0) T0 (mkF m 114 #[iv u1, iv u2, iv u3, rv q, iv (3 : Int32)] []) := by
  obtain ⟨hx, hZ, hw, hby, hml, hown, hnm, hlk, hret, Z0⟩ := id H
  by_cases ho : (((u3).toUInt32 >>> ((8 : Int32) &&& 31).toUInt32).toInt32 &&& (1 : Int32)) = (0 : Int32)
  · refine own_lv8 u1 u2 u3 q (3 : Int32) X0 H e0 (own_sR2a l Z a0 hw [] ((3 : Int32)) (((u3).toUInt32 >>> ((8 : Int32) &&& 31).toUInt32).toInt32) (q) ((u1 &&& (3 : Int32))) ((u2 &&& (3 : Int32))) ((1 : Int32)) ((2 : Int32)) (b1) (a1) ((2 : Int32)) (b2) (a2) ((4 : Int32)) h1 n0 (Nat.le_trans Z0 K0.1) B0 (own_and3 u1) (own_and3 u2) (by decide) ho (by decide) (by decide) (by decide) (by decide) (by decide) (by decide) (by decide)) (by decide) (by decide) (by decide) (by decide) ?_
    intro v T' L X' q'
    obtain ⟨rfl, N', K', f'⟩ := q'
    exact ⟨(2 : Int32), rfl, own_g9_4_0_2 u1 u2 u3 q b2 a2 X' H rfl (Fr.app N0 N') (K0.trans K' (allS (Or.inr sq) (allS (Or.inr sa1) all0))) f' sq sb2 sa2⟩
  · refine own_lv8 u1 u2 u3 q (3 : Int32) X0 H e0 (own_sA2n l Z a0 hw [] ((3 : Int32)) (((u3).toUInt32 >>> ((8 : Int32) &&& 31).toUInt32).toInt32) (q) ((u1 &&& (3 : Int32))) ((u2 &&& (3 : Int32))) ((1 : Int32)) ((2 : Int32)) (b1) (a1) ((2 : Int32)) (b2) (a2) ((4 : Int32)) h1 n0 (Nat.le_trans Z0 K0.1) B0 (own_and3 u1) (own_and3 u2) (by decide) ho (by decide) (by decide)) (by decide) (by decide) (by decide) (by decide) ?_
    intro v T' L X' q'
    obtain ⟨rfl, N', K', f'⟩ := q'
    exact ⟨(4 : Int32), rfl, own_g9_24_1_3 u1 u2 u3 q b1 a1 b2 a2 X' H rfl (Fr.app N0 N') (K0.trans K' (allS (Or.inr sq) all0)) f' sq sb1 sa1 sb2 sa2⟩
set_option maxRecDepth 65536 in
set_option maxHeartbeats 40000000 in
theorem own_g8_24_1_3 {p : Program} {l : Launch} {e : Env} {s : State} {m : MethodId} {args : Array Value} {below : List Frame} {meth : Method} {c : Code} {T0 : State} {locs : List Loc} {Z : State} {a0 : Array Value} {h0 h1 : Heap} {n0 : Nat} (u1 u2 u3 : Int32) (q b1 a1 b2 a2 : Addr) (X0 : Stand p l e room_1 s m args below meth c T0 locs 7 50) (H : own_Cx p s m meth c Z a0 n0 h0) (e0 : T0.heap = h1) (N0 : Fr n0 locs) (K0 : Keep h0 h1 []) (B0 : own_Q2 Z h1 q n0 (u1 &&& (3 : Int32)) (u2 &&& (3 : Int32)) (1 : Int32) (3 : Int32) b1 a1 (2 : Int32) b2 a2 (4 : Int32)) (sq : h0.size ≤ q) (sb1 : h0.size ≤ b1) (sa1 : h0.size ≤ a1) (sb2 : h0.size ≤ b2) (sa2 : h0.size ≤ a2) : own_Goes p e below s 32 320 (Q_own_law Z u1 u2 u3 h0 n0) T0 (mkF m 114 #[iv u1, iv u2, iv u3, rv q, iv (4 : Int32)] []) := by
  obtain ⟨hx, hZ, hw, hby, hml, hown, hnm, hlk, hret, Z0⟩ := id H
  by_cases ho : (((u3).toUInt32 >>> ((8 : Int32) &&& 31).toUInt32).toInt32 &&& (1 : Int32)) = (0 : Int32)
  · refine own_lv8 u1 u2 u3 q (4 : Int32) X0 H e0 (own_sR2a l Z a0 hw [] ((4 : Int32)) (((u3).toUInt32 >>> ((8 : Int32) &&& 31).toUInt32).toInt32) (q) ((u1 &&& (3 : Int32))) ((u2 &&& (3 : Int32))) ((1 : Int32)) ((3 : Int32)) (b1) (a1) ((2 : Int32)) (b2) (a2) ((4 : Int32)) h1 n0 (Nat.le_trans Z0 K0.1) B0 (own_and3 u1) (own_and3 u2) (by decide) ho (by decide) (by decide) (by decide) (by decide) (by decide) (by decide) (by decide)) (by decide) (by decide) (by decide) (by decide) ?_
    intro v T' L X' q'
    obtain ⟨rfl, N', K', f'⟩ := q'
    exact ⟨(3 : Int32), rfl, own_g9_4_0_3 u1 u2 u3 q b2 a2 X' H rfl (Fr.app N0 N') (K0.trans K' (allS (Or.inr sq) (allS (Or.inr sa1) all0))) f' sq sb2 sa2⟩
  · refine own_lv8 u1 u2 u3 q (4 : Int32) X0 H e0 (own_sA2n l Z a0 hw [] ((4 : Int32)) (((u3).toUInt32 >>> ((8 : Int32) &&& 31).toUInt32).toInt32) (q) ((u1 &&& (3 : Int32))) ((u2 &&& (3 : Int32))) ((1 : Int32)) ((3 : Int32)) (b1) (a1) ((2 : Int32)) (b2) (a2) ((4 : Int32)) h1 n0 (Nat.le_trans Z0 K0.1) B0 (own_and3 u1) (own_and3 u2) (by decide) ho (by decide) (by decide)) (by decide) (by decide) (by decide) (by decide) ?_
    intro v T' L X' q'
    obtain ⟨rfl, N', K', f'⟩ := q'
    exact ⟨(5 : Int32), rfl, own_g9_24_1_4 u1 u2 u3 q b1 a1 b2 a2 X' H rfl (Fr.app N0 N') (K0.trans K' (allS (Or.inr sq) all0)) f' sq sb1 sa1 sb2 sa2⟩
set_option maxRecDepth 65536 in
set_option maxHeartbeats 40000000 in
theorem own_g8_24_1_4 {p : Program} {l : Launch} {e : Env} {s : State} {m : MethodId} {args : Array Value} {below : List Frame} {meth : Method} {c : Code} {T0 : State} {locs : List Loc} {Z : State} {a0 : Array Value} {h0 h1 : Heap} {n0 : Nat} (u1 u2 u3 : Int32) (q b1 a1 b2 a2 : Addr) (X0 : Stand p l e room_1 s m args below meth c T0 locs 7 50) (H : own_Cx p s m meth c Z a0 n0 h0) (e0 : T0.heap = h1) (N0 : Fr n0 locs) (K0 : Keep h0 h1 []) (B0 : own_Q2 Z h1 q n0 (u1 &&& (3 : Int32)) (u2 &&& (3 : Int32)) (1 : Int32) (4 : Int32) b1 a1 (2 : Int32) b2 a2 (4 : Int32)) (sq : h0.size ≤ q) (sb1 : h0.size ≤ b1) (sa1 : h0.size ≤ a1) (sb2 : h0.size ≤ b2) (sa2 : h0.size ≤ a2) : own_Goes p e below s 32 320 (Q_own_law Z u1 u2 u3 h0 n0) T0 (mkF m 114 #[iv u1, iv u2, iv u3, rv q, iv (5 : Int32)] []) := by
  obtain ⟨hx, hZ, hw, hby, hml, hown, hnm, hlk, hret, Z0⟩ := id H
  by_cases ho : (((u3).toUInt32 >>> ((8 : Int32) &&& 31).toUInt32).toInt32 &&& (1 : Int32)) = (0 : Int32)
  · refine own_lv8 u1 u2 u3 q (5 : Int32) X0 H e0 (own_sR2a l Z a0 hw [] ((5 : Int32)) (((u3).toUInt32 >>> ((8 : Int32) &&& 31).toUInt32).toInt32) (q) ((u1 &&& (3 : Int32))) ((u2 &&& (3 : Int32))) ((1 : Int32)) ((4 : Int32)) (b1) (a1) ((2 : Int32)) (b2) (a2) ((4 : Int32)) h1 n0 (Nat.le_trans Z0 K0.1) B0 (own_and3 u1) (own_and3 u2) (by decide) ho (by decide) (by decide) (by decide) (by decide) (by decide) (by decide) (by decide)) (by decide) (by decide) (by decide) (by decide) ?_
    intro v T' L X' q'
    obtain ⟨rfl, N', K', f'⟩ := q'
    exact ⟨(4 : Int32), rfl, own_g9_4_0_4 u1 u2 u3 q b2 a2 X' H rfl (Fr.app N0 N') (K0.trans K' (allS (Or.inr sq) (allS (Or.inr sa1) all0))) f' sq sb2 sa2⟩
  · refine own_lv8 u1 u2 u3 q (5 : Int32) X0 H e0 (own_sA2a l Z a0 hw [] ((5 : Int32)) (((u3).toUInt32 >>> ((8 : Int32) &&& 31).toUInt32).toInt32) (q) ((u1 &&& (3 : Int32))) ((u2 &&& (3 : Int32))) ((1 : Int32)) (b1) (a1) (b2) (a2) h1 n0 (Nat.le_trans Z0 K0.1) B0 (own_and3 u1) (own_and3 u2) (by decide) ho (by decide)) (by decide) (by decide) (by decide) (by decide) ?_
    intro v T' L X' q'
    obtain ⟨nb3, na3, rfl, N', K', f', t0, t1⟩ := q'
    exact ⟨(6 : Int32), rfl, own_g9_248_1_1 u1 u2 u3 q b1 a1 b2 a2 nb3 na3 X' H rfl (Fr.app N0 N') (K0.trans K' (allS (Or.inr sq) (allS (Or.inr sb2) all0))) f' sq sb1 sa1 sb2 sa2 (Nat.le_trans K0.1 t0) (Nat.le_trans K0.1 t1)⟩
set_option maxRecDepth 65536 in
set_option maxHeartbeats 40000000 in
theorem own_g8_248_0_1 {p : Program} {l : Launch} {e : Env} {s : State} {m : MethodId} {args : Array Value} {below : List Frame} {meth : Method} {c : Code} {T0 : State} {locs : List Loc} {Z : State} {a0 : Array Value} {h0 h1 : Heap} {n0 : Nat} (u1 u2 u3 : Int32) (q b1 a1 b2 a2 b3 a3 : Addr) (X0 : Stand p l e room_1 s m args below meth c T0 locs 10 102) (H : own_Cx p s m meth c Z a0 n0 h0) (e0 : T0.heap = h1) (N0 : Fr n0 locs) (K0 : Keep h0 h1 []) (B0 : own_Q3 Z h1 q n0 (u1 &&& (3 : Int32)) (u2 &&& (3 : Int32)) (0 : Int32) (1 : Int32) b1 a1 (2 : Int32) b2 a2 (4 : Int32) b3 a3 (8 : Int32)) (sq : h0.size ≤ q) (sb1 : h0.size ≤ b1) (sa1 : h0.size ≤ a1) (sb2 : h0.size ≤ b2) (sa2 : h0.size ≤ a2) (sb3 : h0.size ≤ b3) (sa3 : h0.size ≤ a3) : own_Goes p e below s 32 320 (Q_own_law Z u1 u2 u3 h0 n0) T0 (mkF m 114 #[iv u1, iv u2, iv u3, rv q, iv (7 : Int32)] []) := by
  obtain ⟨hx, hZ, hw, hby, hml, hown, hnm, hlk, hret, Z0⟩ := id H
  by_cases ho : (((u3).toUInt32 >>> ((8 : Int32) &&& 31).toUInt32).toInt32 &&& (1 : Int32)) = (0 : Int32)
  · refine own_lv8 u1 u2 u3 q (7 : Int32) X0 H e0 (own_sR3n l Z a0 hw [] ((7 : Int32)) (((u3).toUInt32 >>> ((8 : Int32) &&& 31).toUInt32).toInt32) (q) ((u1 &&& (3 : Int32))) ((u2 &&& (3 : Int32))) ((0 : Int32)) ((1 : Int32)) (b1) (a1) ((2 : Int32)) (b2) (a2) ((4 : Int32)) (b3) (a3) ((8 : Int32)) h1 n0 (Nat.le_trans Z0 K0.1) B0 (own_and3 u1) (own_and3 u2) (by decide) ho (by decide) (by decide) (by decide) (by decide) (by decide) (by decide)) (by decide) (by decide) (by decide) (by decide) ?_
    intro v T' L X' q'
    obtain ⟨rfl, N', K', f'⟩ := q'
    exact ⟨(6 : Int32), rfl, own_g9_248_1_1 u1 u2 u3 q b1 a1 b2 a2 b3 a3 X' H rfl (Fr.app N0 N') (K0.trans K' (allS (Or.inr sq) (allS (Or.inr sa1) all0))) f' sq sb1 sa1 sb2 sa2 sb3 sa3⟩
  · refine own_lv8 u1 u2 u3 q (7 : Int32) X0 H e0 (own_sA3n l Z a0 hw [] ((7 : Int32)) (((u3).toUInt32 >>> ((8 : Int32) &&& 31).toUInt32).toInt32) (q) ((u1 &&& (3 : Int32))) ((u2 &&& (3 : Int32))) ((0 : Int32)) ((1 : Int32)) (b1) (a1) ((2 : Int32)) (b2) (a2) ((4 : Int32)) (b3) (a3) ((8 : Int32)) h1 n0 (Nat.le_trans Z0 K0.1) B0 (own_and3 u1) (own_and3 u2) (by decide) ho (by decide) (by decide)) (by decide) (by decide) (by decide) (by decide) ?_
    intro v T' L X' q'
    obtain ⟨rfl, N', K', f'⟩ := q'
    exact ⟨(8 : Int32), rfl, own_g9_248_0_2 u1 u2 u3 q b1 a1 b2 a2 b3 a3 X' H rfl (Fr.app N0 N') (K0.trans K' (allS (Or.inr sq) all0)) f' sq sb1 sa1 sb2 sa2 sb3 sa3⟩
set_option maxRecDepth 65536 in
set_option maxHeartbeats 40000000 in
theorem own_g8_248_0_2 {p : Program} {l : Launch} {e : Env} {s : State} {m : MethodId} {args : Array Value} {below : List Frame} {meth : Method} {c : Code} {T0 : State} {locs : List Loc} {Z : State} {a0 : Array Value} {h0 h1 : Heap} {n0 : Nat} (u1 u2 u3 : Int32) (q b1 a1 b2 a2 b3 a3 : Addr) (X0 : Stand p l e room_1 s m args below meth c T0 locs 10 102) (H : own_Cx p s m meth c Z a0 n0 h0) (e0 : T0.heap = h1) (N0 : Fr n0 locs) (K0 : Keep h0 h1 []) (B0 : own_Q3 Z h1 q n0 (u1 &&& (3 : Int32)) (u2 &&& (3 : Int32)) (0 : Int32) (2 : Int32) b1 a1 (2 : Int32) b2 a2 (4 : Int32) b3 a3 (8 : Int32)) (sq : h0.size ≤ q) (sb1 : h0.size ≤ b1) (sa1 : h0.size ≤ a1) (sb2 : h0.size ≤ b2) (sa2 : h0.size ≤ a2) (sb3 : h0.size ≤ b3) (sa3 : h0.size ≤ a3) : own_Goes p e below s 32 320 (Q_own_law Z u1 u2 u3 h0 n0) T0 (mkF m 114 #[iv u1, iv u2, iv u3, rv q, iv (8 : Int32)] []) := by
  obtain ⟨hx, hZ, hw, hby, hml, hown, hnm, hlk, hret, Z0⟩ := id H
  by_cases ho : (((u3).toUInt32 >>> ((8 : Int32) &&& 31).toUInt32).toInt32 &&& (1 : Int32)) = (0 : Int32)
  · refine own_lv8 u1 u2 u3 q (8 : Int32) X0 H e0 (own_sR3n l Z a0 hw [] ((8 : Int32)) (((u3).toUInt32 >>> ((8 : Int32) &&& 31).toUInt32).toInt32) (q) ((u1 &&& (3 : Int32))) ((u2 &&& (3 : Int32))) ((0 : Int32)) ((2 : Int32)) (b1) (a1) ((2 : Int32)) (b2) (a2) ((4 : Int32)) (b3) (a3) ((8 : Int32)) h1 n0 (Nat.le_trans Z0 K0.1) B0 (own_and3 u1) (own_and3 u2) (by decide) ho (by decide) (by decide) (by decide) (by decide) (by decide) (by decide)) (by decide) (by decide) (by decide) (by decide) ?_
    intro v T' L X' q'
    obtain ⟨rfl, N', K', f'⟩ := q'
    exact ⟨(7 : Int32), rfl, own_g9_248_1_2 u1 u2 u3 q b1 a1 b2 a2 b3 a3 X' H rfl (Fr.app N0 N') (K0.trans K' (allS (Or.inr sq) (allS (Or.inr sa1) all0))) f' sq sb1 sa1 sb2 sa2 sb3 sa3⟩
  · refine own_lv8 u1 u2 u3 q (8 : Int32) X0 H e0 (own_sA3n l Z a0 hw [] ((8 : Int32)) (((u3).toUInt32 >>> ((8 : Int32) &&& 31).toUInt32).toInt32) (q) ((u1 &&& (3 : Int32))) ((u2 &&& (3 : Int32))) ((0 : Int32)) ((2 : Int32)) (b1) (a1) ((2 : Int32)) (b2) (a2) ((4 : Int32)) (b3) (a3) ((8 : Int32)) h1 n0 (Nat.le_trans Z0 K0.1) B0 (own_and3 u1) (own_and3 u2) (by decide) ho (by decide) (by decide)) (by decide) (by decide) (by decide) (by decide) ?_
    intro v T' L X' q'
    obtain ⟨rfl, N', K', f'⟩ := q'
    exact ⟨(9 : Int32), rfl, own_g9_248_0_3 u1 u2 u3 q b1 a1 b2 a2 b3 a3 X' H rfl (Fr.app N0 N') (K0.trans K' (allS (Or.inr sq) all0)) f' sq sb1 sa1 sb2 sa2 sb3 sa3⟩
set_option maxRecDepth 65536 in
set_option maxHeartbeats 40000000 in
theorem own_g8_248_1_1 {p : Program} {l : Launch} {e : Env} {s : State} {m : MethodId} {args : Array Value} {below : List Frame} {meth : Method} {c : Code} {T0 : State} {locs : List Loc} {Z : State} {a0 : Array Value} {h0 h1 : Heap} {n0 : Nat} (u1 u2 u3 : Int32) (q b1 a1 b2 a2 b3 a3 : Addr) (X0 : Stand p l e room_1 s m args below meth c T0 locs 10 102) (H : own_Cx p s m meth c Z a0 n0 h0) (e0 : T0.heap = h1) (N0 : Fr n0 locs) (K0 : Keep h0 h1 []) (B0 : own_Q3 Z h1 q n0 (u1 &&& (3 : Int32)) (u2 &&& (3 : Int32)) (1 : Int32) (1 : Int32) b1 a1 (2 : Int32) b2 a2 (4 : Int32) b3 a3 (8 : Int32)) (sq : h0.size ≤ q) (sb1 : h0.size ≤ b1) (sa1 : h0.size ≤ a1) (sb2 : h0.size ≤ b2) (sa2 : h0.size ≤ a2) (sb3 : h0.size ≤ b3) (sa3 : h0.size ≤ a3) : own_Goes p e below s 32 320 (Q_own_law Z u1 u2 u3 h0 n0) T0 (mkF m 114 #[iv u1, iv u2, iv u3, rv q, iv (6 : Int32)] []) := by
  obtain ⟨hx, hZ, hw, hby, hml, hown, hnm, hlk, hret, Z0⟩ := id H
  by_cases ho : (((u3).toUInt32 >>> ((8 : Int32) &&& 31).toUInt32).toInt32 &&& (1 : Int32)) = (0 : Int32)
  · refine own_lv8 u1 u2 u3 q (6 : Int32) X0 H e0 (own_sR3a l Z a0 hw [] ((6 : Int32)) (((u3).toUInt32 >>> ((8 : Int32) &&& 31).toUInt32).toInt32) (q) ((u1 &&& (3 : Int32))) ((u2 &&& (3 : Int32))) ((1 : Int32)) ((1 : Int32)) (b1) (a1) ((2 : Int32)) (b2) (a2) ((4 : Int32)) (b3) (a3) ((8 : Int32)) h1 n0 (Nat.le_trans Z0 K0.1) B0 (own_and3 u1) (own_and3 u2) (by decide) ho (by decide) (by decide) (by decide) (by decide) (by decide) (by decide)) (by decide) (by decide) (by decide) (by decide) ?_
    intro v T' L X' q'
    obtain ⟨rfl, N', K', f'⟩ := q'
    exact ⟨(5 : Int32), rfl, own_g9_48_0_1 u1 u2 u3 q b2 a2 b3 a3 X' H rfl (Fr.app N0 N') (K0.trans K' (allS (Or.inr sq) (allS (Or.inr sa1) all0))) f' sq sb2 sa2 sb3 sa3⟩
  · refine own_lv8 u1 u2 u3 q (6 : Int32) X0 H e0 (own_sA3n l Z a0 hw [] ((6 : Int32)) (((u3).toUInt32 >>> ((8 : Int32) &&& 31).toUInt32).toInt32) (q) ((u1 &&& (3 : Int32))) ((u2 &&& (3 : Int32))) ((1 : Int32)) ((1 : Int32)) (b1) (a1) ((2 : Int32)) (b2) (a2) ((4 : Int32)) (b3) (a3) ((8 : Int32)) h1 n0 (Nat.le_trans Z0 K0.1) B0 (own_and3 u1) (own_and3 u2) (by decide) ho (by decide) (by decide)) (by decide) (by decide) (by decide) (by decide) ?_
    intro v T' L X' q'
    obtain ⟨rfl, N', K', f'⟩ := q'
    exact ⟨(7 : Int32), rfl, own_g9_248_1_2 u1 u2 u3 q b1 a1 b2 a2 b3 a3 X' H rfl (Fr.app N0 N') (K0.trans K' (allS (Or.inr sq) all0)) f' sq sb1 sa1 sb2 sa2 sb3 sa3⟩
set_option maxRecDepth 65536 in
set_option maxHeartbeats 40000000 in
theorem own_g8_4_0_0 {p : Program} {l : Launch} {e : Env} {s : State} {m : MethodId} {args : Array Value} {below : List Frame} {meth : Method} {c : Code} {T0 : State} {locs : List Loc} {Z : State} {a0 : Array Value} {h0 h1 : Heap} {n0 : Nat} (u1 u2 u3 : Int32) (q b1 a1 : Addr) (X0 : Stand p l e room_1 s m args below meth c T0 locs 7 50) (H : own_Cx p s m meth c Z a0 n0 h0) (e0 : T0.heap = h1) (N0 : Fr n0 locs) (K0 : Keep h0 h1 []) (B0 : own_Q1 Z h1 q n0 (u1 &&& (3 : Int32)) (u2 &&& (3 : Int32)) (0 : Int32) (0 : Int32) b1 a1 (4 : Int32)) (sq : h0.size ≤ q) (sb1 : h0.size ≤ b1) (sa1 : h0.size ≤ a1) : own_Goes p e below s 32 320 (Q_own_law Z u1 u2 u3 h0 n0) T0 (mkF m 114 #[iv u1, iv u2, iv u3, rv q, iv (0 : Int32)] []) := by
  obtain ⟨hx, hZ, hw, hby, hml, hown, hnm, hlk, hret, Z0⟩ := id H
  by_cases ho : (((u3).toUInt32 >>> ((8 : Int32) &&& 31).toUInt32).toInt32 &&& (1 : Int32)) = (0 : Int32)
  · refine own_lv8 u1 u2 u3 q (0 : Int32) X0 H e0 (own_sR1z l Z a0 hw [] ((0 : Int32)) (((u3).toUInt32 >>> ((8 : Int32) &&& 31).toUInt32).toInt32) (q) ((u1 &&& (3 : Int32))) ((u2 &&& (3 : Int32))) ((0 : Int32)) ((0 : Int32)) (b1) (a1) ((4 : Int32)) h1 n0 (Nat.le_trans Z0 K0.1) B0 (own_and3 u1) (own_and3 u2) (by decide) ho (by decide) (by decide) (by decide)) (by decide) (by decide) (by decide) (by decide) ?_
    intro v T' L X' q'
    obtain ⟨rfl, N', e'⟩ := q'
    exact ⟨(0 : Int32), rfl, own_g9_4_0_0 u1 u2 u3 q b1 a1 X' H e' (Fr.app N0 N') K0 B0 sq sb1 sa1⟩
  · refine own_lv8 u1 u2 u3 q (0 : Int32) X0 H e0 (own_sA1n l Z a0 hw [] ((0 : Int32)) (((u3).toUInt32 >>> ((8 : Int32) &&& 31).toUInt32).toInt32) (q) ((u1 &&& (3 : Int32))) ((u2 &&& (3 : Int32))) ((0 : Int32)) ((0 : Int32)) (b1) (a1) ((4 : Int32)) h1 n0 (Nat.le_trans Z0 K0.1) B0 (own_and3 u1) (own_and3 u2) (by decide) ho (by decide) (by decide) (by decide)) (by decide) (by decide) (by decide) (by decide) ?_
    intro v T' L X' q'
    obtain ⟨rfl, N', K', f'⟩ := q'
    exact ⟨(1 : Int32), rfl, own_g9_4_0_1 u1 u2 u3 q b1 a1 X' H rfl (Fr.app N0 N') (K0.trans K' (allS (Or.inr sq) all0)) f' sq sb1 sa1⟩
set_option maxRecDepth 65536 in
set_option maxHeartbeats 40000000 in
theorem own_g8_4_0_1 {p : Program} {l : Launch} {e : Env} {s : State} {m : MethodId} {args : Array Value} {below : List Frame} {meth : Method} {c : Code} {T0 : State} {locs : List Loc} {Z : State} {a0 : Array Value} {h0 h1 : Heap} {n0 : Nat} (u1 u2 u3 : Int32) (q b1 a1 : Addr) (X0 : Stand p l e room_1 s m args below meth c T0 locs 7 50) (H : own_Cx p s m meth c Z a0 n0 h0) (e0 : T0.heap = h1) (N0 : Fr n0 locs) (K0 : Keep h0 h1 []) (B0 : own_Q1 Z h1 q n0 (u1 &&& (3 : Int32)) (u2 &&& (3 : Int32)) (0 : Int32) (1 : Int32) b1 a1 (4 : Int32)) (sq : h0.size ≤ q) (sb1 : h0.size ≤ b1) (sa1 : h0.size ≤ a1) : own_Goes p e below s 32 320 (Q_own_law Z u1 u2 u3 h0 n0) T0 (mkF m 114 #[iv u1, iv u2, iv u3, rv q, iv (1 : Int32)] []) := by
  obtain ⟨hx, hZ, hw, hby, hml, hown, hnm, hlk, hret, Z0⟩ := id H
  by_cases ho : (((u3).toUInt32 >>> ((8 : Int32) &&& 31).toUInt32).toInt32 &&& (1 : Int32)) = (0 : Int32)
  · refine own_lv8 u1 u2 u3 q (1 : Int32) X0 H e0 (own_sR1e l Z a0 hw [] ((1 : Int32)) (((u3).toUInt32 >>> ((8 : Int32) &&& 31).toUInt32).toInt32) (q) ((u1 &&& (3 : Int32))) ((u2 &&& (3 : Int32))) ((0 : Int32)) ((1 : Int32)) (b1) (a1) ((4 : Int32)) h1 n0 (Nat.le_trans Z0 K0.1) B0 (own_and3 u1) (own_and3 u2) (by decide) ho (by decide) (by decide) (by decide) (by decide) (by decide) (by decide) (by decide)) (by decide) (by decide) (by decide) (by decide) ?_
    intro v T' L X' q'
    obtain ⟨rfl, N', K', f'⟩ := q'
    exact ⟨(0 : Int32), rfl, own_g9_4_0_0 u1 u2 u3 q b1 a1 X' H rfl (Fr.app N0 N') (K0.trans K' (allS (Or.inr sq) (allS (Or.inr sa1) all0))) f' sq sb1 sa1⟩
  · refine own_lv8 u1 u2 u3 q (1 : Int32) X0 H e0 (own_sA1n l Z a0 hw [] ((1 : Int32)) (((u3).toUInt32 >>> ((8 : Int32) &&& 31).toUInt32).toInt32) (q) ((u1 &&& (3 : Int32))) ((u2 &&& (3 : Int32))) ((0 : Int32)) ((1 : Int32)) (b1) (a1) ((4 : Int32)) h1 n0 (Nat.le_trans Z0 K0.1) B0 (own_and3 u1) (own_and3 u2) (by decide) ho (by decide) (by decide) (by decide)) (by decide) (by decide) (by decide) (by decide) ?_
    intro v T' L X' q'
    obtain ⟨rfl, N', K', f'⟩ := q'
    exact ⟨(2 : Int32), rfl, own_g9_4_0_2 u1 u2 u3 q b1 a1 X' H rfl (Fr.app N0 N') (K0.trans K' (allS (Or.inr sq) all0)) f' sq sb1 sa1⟩
set_option maxRecDepth 65536 in
set_option maxHeartbeats 40000000 in
theorem own_g8_4_0_2 {p : Program} {l : Launch} {e : Env} {s : State} {m : MethodId} {args : Array Value} {below : List Frame} {meth : Method} {c : Code} {T0 : State} {locs : List Loc} {Z : State} {a0 : Array Value} {h0 h1 : Heap} {n0 : Nat} (u1 u2 u3 : Int32) (q b1 a1 : Addr) (X0 : Stand p l e room_1 s m args below meth c T0 locs 7 50) (H : own_Cx p s m meth c Z a0 n0 h0) (e0 : T0.heap = h1) (N0 : Fr n0 locs) (K0 : Keep h0 h1 []) (B0 : own_Q1 Z h1 q n0 (u1 &&& (3 : Int32)) (u2 &&& (3 : Int32)) (0 : Int32) (2 : Int32) b1 a1 (4 : Int32)) (sq : h0.size ≤ q) (sb1 : h0.size ≤ b1) (sa1 : h0.size ≤ a1) : own_Goes p e below s 32 320 (Q_own_law Z u1 u2 u3 h0 n0) T0 (mkF m 114 #[iv u1, iv u2, iv u3, rv q, iv (2 : Int32)] []) := by
  obtain ⟨hx, hZ, hw, hby, hml, hown, hnm, hlk, hret, Z0⟩ := id H
  by_cases ho : (((u3).toUInt32 >>> ((8 : Int32) &&& 31).toUInt32).toInt32 &&& (1 : Int32)) = (0 : Int32)
  · refine own_lv8 u1 u2 u3 q (2 : Int32) X0 H e0 (own_sR1n l Z a0 hw [] ((2 : Int32)) (((u3).toUInt32 >>> ((8 : Int32) &&& 31).toUInt32).toInt32) (q) ((u1 &&& (3 : Int32))) ((u2 &&& (3 : Int32))) ((0 : Int32)) ((2 : Int32)) (b1) (a1) ((4 : Int32)) h1 n0 (Nat.le_trans Z0 K0.1) B0 (own_and3 u1) (own_and3 u2) (by decide) ho (by decide) (by decide) (by decide) (by decide) (by decide) (by decide) (by decide) (by decide)) (by decide) (by decide) (by decide) (by decide) ?_
    intro v T' L X' q'
    obtain ⟨rfl, N', K', f'⟩ := q'
    exact ⟨(1 : Int32), rfl, own_g9_4_1_2 u1 u2 u3 q b1 a1 X' H rfl (Fr.app N0 N') (K0.trans K' (allS (Or.inr sq) (allS (Or.inr sa1) all0))) f' sq sb1 sa1⟩
  · refine own_lv8 u1 u2 u3 q (2 : Int32) X0 H e0 (own_sA1n l Z a0 hw [] ((2 : Int32)) (((u3).toUInt32 >>> ((8 : Int32) &&& 31).toUInt32).toInt32) (q) ((u1 &&& (3 : Int32))) ((u2 &&& (3 : Int32))) ((0 : Int32)) ((2 : Int32)) (b1) (a1) ((4 : Int32)) h1 n0 (Nat.le_trans Z0 K0.1) B0 (own_and3 u1) (own_and3 u2) (by decide) ho (by decide) (by decide) (by decide)) (by decide) (by decide) (by decide) (by decide) ?_
    intro v T' L X' q'
    obtain ⟨rfl, N', K', f'⟩ := q'
    exact ⟨(3 : Int32), rfl, own_g9_4_0_3 u1 u2 u3 q b1 a1 X' H rfl (Fr.app N0 N') (K0.trans K' (allS (Or.inr sq) all0)) f' sq sb1 sa1⟩
set_option maxRecDepth 65536 in
set_option maxHeartbeats 40000000 in
theorem own_g8_4_0_3 {p : Program} {l : Launch} {e : Env} {s : State} {m : MethodId} {args : Array Value} {below : List Frame} {meth : Method} {c : Code} {T0 : State} {locs : List Loc} {Z : State} {a0 : Array Value} {h0 h1 : Heap} {n0 : Nat} (u1 u2 u3 : Int32) (q b1 a1 : Addr) (X0 : Stand p l e room_1 s m args below meth c T0 locs 7 50) (H : own_Cx p s m meth c Z a0 n0 h0) (e0 : T0.heap = h1) (N0 : Fr n0 locs) (K0 : Keep h0 h1 []) (B0 : own_Q1 Z h1 q n0 (u1 &&& (3 : Int32)) (u2 &&& (3 : Int32)) (0 : Int32) (3 : Int32) b1 a1 (4 : Int32)) (sq : h0.size ≤ q) (sb1 : h0.size ≤ b1) (sa1 : h0.size ≤ a1) : own_Goes p e below s 32 320 (Q_own_law Z u1 u2 u3 h0 n0) T0 (mkF m 114 #[iv u1, iv u2, iv u3, rv q, iv (3 : Int32)] []) := by
  obtain ⟨hx, hZ, hw, hby, hml, hown, hnm, hlk, hret, Z0⟩ := id H
  by_cases ho : (((u3).toUInt32 >>> ((8 : Int32) &&& 31).toUInt32).toInt32 &&& (1 : Int32)) = (0 : Int32)
  · refine own_lv8 u1 u2 u3 q (3 : Int32) X0 H e0 (own_sR1n l Z a0 hw [] ((3 : Int32)) (((u3).toUInt32 >>> ((8 : Int32) &&& 31).toUInt32).toInt32) (q) ((u1 &&& (3 : Int32))) ((u2 &&& (3 : Int32))) ((0 : Int32)) ((3 : Int32)) (b1) (a1) ((4 : Int32)) h1 n0 (Nat.le_trans Z0 K0.1) B0 (own_and3 u1) (own_and3 u2) (by decide) ho (by decide) (by decide) (by decide) (by decide) (by decide) (by decide) (by decide) (by decide)) (by decide) (by decide) (by decide) (by decide) ?_
    intro v T' L X' q'
    obtain ⟨rfl, N', K', f'⟩ := q'
    exact ⟨(2 : Int32), rfl, own_g9_4_1_3 u1 u2 u3 q b1 a1 X' H rfl (Fr.app N0 N') (K0.trans K' (allS (Or.inr sq) (allS (Or.inr sa1) all0))) f' sq sb1 sa1⟩
  · refine own_lv8 u1 u2 u3 q (3 : Int32) X0 H e0 (own_sA1n l Z a0 hw [] ((3 : Int32)) (((u3).toUInt32 >>> ((8 : Int32) &&& 31).toUInt32).toInt32) (q) ((u1 &&& (3 : Int32))) ((u2 &&& (3 : Int32))) ((0 : Int32)) ((3 : Int32)) (b1) (a1) ((4 : Int32)) h1 n0 (Nat.le_trans Z0 K0.1) B0 (own_and3 u1) (own_and3 u2) (by decide) ho (by decide) (by decide) (by decide)) (by decide) (by decide) (by decide) (by decide) ?_
    intro v T' L X' q'
    obtain ⟨rfl, N', K', f'⟩ := q'
    exact ⟨(4 : Int32), rfl, own_g9_4_0_4 u1 u2 u3 q b1 a1 X' H rfl (Fr.app N0 N') (K0.trans K' (allS (Or.inr sq) all0)) f' sq sb1 sa1⟩
set_option maxRecDepth 65536 in
set_option maxHeartbeats 40000000 in
theorem own_g8_4_0_4 {p : Program} {l : Launch} {e : Env} {s : State} {m : MethodId} {args : Array Value} {below : List Frame} {meth : Method} {c : Code} {T0 : State} {locs : List Loc} {Z : State} {a0 : Array Value} {h0 h1 : Heap} {n0 : Nat} (u1 u2 u3 : Int32) (q b1 a1 : Addr) (X0 : Stand p l e room_1 s m args below meth c T0 locs 7 50) (H : own_Cx p s m meth c Z a0 n0 h0) (e0 : T0.heap = h1) (N0 : Fr n0 locs) (K0 : Keep h0 h1 []) (B0 : own_Q1 Z h1 q n0 (u1 &&& (3 : Int32)) (u2 &&& (3 : Int32)) (0 : Int32) (4 : Int32) b1 a1 (4 : Int32)) (sq : h0.size ≤ q) (sb1 : h0.size ≤ b1) (sa1 : h0.size ≤ a1) : own_Goes p e below s 32 320 (Q_own_law Z u1 u2 u3 h0 n0) T0 (mkF m 114 #[iv u1, iv u2, iv u3, rv q, iv (4 : Int32)] []) := by
  obtain ⟨hx, hZ, hw, hby, hml, hown, hnm, hlk, hret, Z0⟩ := id H
  by_cases ho : (((u3).toUInt32 >>> ((8 : Int32) &&& 31).toUInt32).toInt32 &&& (1 : Int32)) = (0 : Int32)
  · refine own_lv8 u1 u2 u3 q (4 : Int32) X0 H e0 (own_sR1n l Z a0 hw [] ((4 : Int32)) (((u3).toUInt32 >>> ((8 : Int32) &&& 31).toUInt32).toInt32) (q) ((u1 &&& (3 : Int32))) ((u2 &&& (3 : Int32))) ((0 : Int32)) ((4 : Int32)) (b1) (a1) ((4 : Int32)) h1 n0 (Nat.le_trans Z0 K0.1) B0 (own_and3 u1) (own_and3 u2) (by decide) ho (by decide) (by decide) (by decide) (by decide) (by decide) (by decide) (by decide) (by decide)) (by decide) (by decide) (by decide) (by decide) ?_
    intro v T' L X' q'
    obtain ⟨rfl, N', K', f'⟩ := q'
    exact ⟨(3 : Int32), rfl, own_g9_4_1_4 u1 u2 u3 q b1 a1 X' H rfl (Fr.app N0 N') (K0.trans K' (allS (Or.inr sq) (allS (Or.inr sa1) all0))) f' sq sb1 sa1⟩
  · refine own_lv8 u1 u2 u3 q (4 : Int32) X0 H e0 (own_sA1a4 l Z a0 hw [] ((4 : Int32)) (((u3).toUInt32 >>> ((8 : Int32) &&& 31).toUInt32).toInt32) (q) ((u1 &&& (3 : Int32))) ((u2 &&& (3 : Int32))) ((0 : Int32)) (b1) (a1) h1 n0 (Nat.le_trans Z0 K0.1) B0 (own_and3 u1) (own_and3 u2) (by decide) ho (by decide)) (by decide) (by decide) (by decide) (by decide) ?_
    intro v T' L X' q'
    obtain ⟨nb2, na2, rfl, N', K', f', t0, t1⟩ := q'
    exact ⟨(5 : Int32), rfl, own_g9_48_0_1 u1 u2 u3 q b1 a1 nb2 na2 X' H rfl (Fr.app N0 N') (K0.trans K' (allS (Or.inr sq) (allS (Or.inr sb1) all0))) f' sq sb1 sa1 (Nat.le_trans K0.1 t0) (Nat.le_trans K0.1 t1)⟩
set_option maxRecDepth 65536 in
set_option maxHeartbeats 40000000 in
theorem own_g8_4_1_2 {p : Program} {l : Launch} {e : Env} {s : State} {m : MethodId} {args : Array Value} {below : List Frame} {meth : Method} {c : Code} {T0 : State} {locs : List Loc} {Z : State} {a0 : Array Value} {h0 h1 : Heap} {n0 : Nat} (u1 u2 u3 : Int32) (q b1 a1 : Addr) (X0 : Stand p l e room_1 s m args below meth c T0 locs 7 50) (H : own_Cx p s m meth c Z a0 n0 h0) (e0 : T0.heap = h1) (N0 : Fr n0 locs) (K0 : Keep h0 h1 []) (B0 : own_Q1 Z h1 q n0 (u1 &&& (3 : Int32)) (u2 &&& (3 : Int32)) (1 : Int32) (2 : Int32) b1 a1 (4 : Int32)) (sq : h0.size ≤ q) (sb1 : h0.size ≤ b1) (sa1 : h0.size ≤ a1) : own_Goes p e below s 32 320 (Q_own_law Z u1 u2 u3 h0 n0) T0 (mkF m 114 #[iv u1, iv u2, iv u3, rv q, iv (1 : Int32)] []) := by
  obtain ⟨hx, hZ, hw, hby, hml, hown, hnm, hlk, hret, Z0⟩ := id H
  by_cases ho : (((u3).toUInt32 >>> ((8 : Int32) &&& 31).toUInt32).toInt32 &&& (1 : Int32)) = (0 : Int32)
  · refine own_lv8 u1 u2 u3 q (1 : Int32) X0 H e0 (own_sR1e l Z a0 hw [] ((1 : Int32)) (((u3).toUInt32 >>> ((8 : Int32) &&& 31).toUInt32).toInt32) (q) ((u1 &&& (3 : Int32))) ((u2 &&& (3 : Int32))) ((1 : Int32)) ((2 : Int32)) (b1) (a1) ((4 : Int32)) h1 n0 (Nat.le_trans Z0 K0.1) B0 (own_and3 u1) (own_and3 u2) (by decide) ho (by decide) (by decide) (by decide) (by decide) (by decide) (by decide) (by decide)) (by decide) (by decide) (by decide) (by decide) ?_
    intro v T' L X' q'
    obtain ⟨rfl, N', K', f'⟩ := q'
    exact ⟨(0 : Int32), rfl, own_g9_4_0_0 u1 u2 u3 q b1 a1 X' H rfl (Fr.app N0 N') (K0.trans K' (allS (Or.inr sq) (allS (Or.inr sa1) all0))) f' sq sb1 sa1⟩
  · refine own_lv8 u1 u2 u3 q (1 : Int32) X0 H e0 (own_sA1n l Z a0 hw [] ((1 : Int32)) (((u3).toUInt32 >>> ((8 : Int32) &&& 31).toUInt32).toInt32) (q) ((u1 &&& (3 : Int32))) ((u2 &&& (3 : Int32))) ((1 : Int32)) ((2 : Int32)) (b1) (a1) ((4 : Int32)) h1 n0 (Nat.le_trans Z0 K0.1) B0 (own_and3 u1) (own_and3 u2) (by decide) ho (by decide) (by decide) (by decide)) (by decide) (by decide) (by decide) (by decide) ?_
    intro v T' L X' q'
    obtain ⟨rfl, N', K', f'⟩ := q'
    exact ⟨(2 : Int32), rfl, own_g9_4_1_3 u1 u2 u3 q b1 a1 X' H rfl (Fr.app N0 N') (K0.trans K' (allS (Or.inr sq) all0)) f' sq sb1 sa1⟩
set_option maxRecDepth 65536 in
set_option maxHeartbeats 40000000 in
theorem own_g8_4_1_3 {p : Program} {l : Launch} {e : Env} {s : State} {m : MethodId} {args : Array Value} {below : List Frame} {meth : Method} {c : Code} {T0 : State} {locs : List Loc} {Z : State} {a0 : Array Value} {h0 h1 : Heap} {n0 : Nat} (u1 u2 u3 : Int32) (q b1 a1 : Addr) (X0 : Stand p l e room_1 s m args below meth c T0 locs 7 50) (H : own_Cx p s m meth c Z a0 n0 h0) (e0 : T0.heap = h1) (N0 : Fr n0 locs) (K0 : Keep h0 h1 []) (B0 : own_Q1 Z h1 q n0 (u1 &&& (3 : Int32)) (u2 &&& (3 : Int32)) (1 : Int32) (3 : Int32) b1 a1 (4 : Int32)) (sq : h0.size ≤ q) (sb1 : h0.size ≤ b1) (sa1 : h0.size ≤ a1) : own_Goes p e below s 32 320 (Q_own_law Z u1 u2 u3 h0 n0) T0 (mkF m 114 #[iv u1, iv u2, iv u3, rv q, iv (2 : Int32)] []) := by
  obtain ⟨hx, hZ, hw, hby, hml, hown, hnm, hlk, hret, Z0⟩ := id H
  by_cases ho : (((u3).toUInt32 >>> ((8 : Int32) &&& 31).toUInt32).toInt32 &&& (1 : Int32)) = (0 : Int32)
  · refine own_lv8 u1 u2 u3 q (2 : Int32) X0 H e0 (own_sR1n l Z a0 hw [] ((2 : Int32)) (((u3).toUInt32 >>> ((8 : Int32) &&& 31).toUInt32).toInt32) (q) ((u1 &&& (3 : Int32))) ((u2 &&& (3 : Int32))) ((1 : Int32)) ((3 : Int32)) (b1) (a1) ((4 : Int32)) h1 n0 (Nat.le_trans Z0 K0.1) B0 (own_and3 u1) (own_and3 u2) (by decide) ho (by decide) (by decide) (by decide) (by decide) (by decide) (by decide) (by decide) (by decide)) (by decide) (by decide) (by decide) (by decide) ?_
    intro v T' L X' q'
    obtain ⟨rfl, N', K', f'⟩ := q'
    exact ⟨(1 : Int32), rfl, own_g9_4_2_3 u1 u2 u3 q b1 a1 X' H rfl (Fr.app N0 N') (K0.trans K' (allS (Or.inr sq) (allS (Or.inr sa1) all0))) f' sq sb1 sa1⟩
  · refine own_lv8 u1 u2 u3 q (2 : Int32) X0 H e0 (own_sA1n l Z a0 hw [] ((2 : Int32)) (((u3).toUInt32 >>> ((8 : Int32) &&& 31).toUInt32).toInt32) (q) ((u1 &&& (3 : Int32))) ((u2 &&& (3 : Int32))) ((1 : Int32)) ((3 : Int32)) (b1) (a1) ((4 : Int32)) h1 n0 (Nat.le_trans Z0 K0.1) B0 (own_and3 u1) (own_and3 u2) (by decide) ho (by decide) (by decide) (by decide)) (by decide) (by decide) (by decide) (by decide) ?_
    intro v T' L X' q'
    obtain ⟨rfl, N', K', f'⟩ := q'
    exact ⟨(3 : Int32), rfl, own_g9_4_1_4 u1 u2 u3 q b1 a1 X' H rfl (Fr.app N0 N') (K0.trans K' (allS (Or.inr sq) all0)) f' sq sb1 sa1⟩
set_option maxRecDepth 65536 in
set_option maxHeartbeats 40000000 in
theorem own_g7_e_0_0 {p : Program} {l : Launch} {e : Env} {s : State} {m : MethodId} {args : Array Value} {below : List Frame} {meth : Method} {c : Code} {T0 : State} {locs : List Loc} {Z : State} {a0 : Array Value} {h0 h1 : Heap} {n0 : Nat} (u1 u2 u3 : Int32) (q : Addr) (X0 : Stand p l e room_1 s m args below meth c T0 locs 1 6) (H : own_Cx p s m meth c Z a0 n0 h0) (e0 : T0.heap = h1) (N0 : Fr n0 locs) (K0 : Keep h0 h1 []) (B0 : own_Q0 Z h1 q n0 (u1 &&& (3 : Int32)) (u2 &&& (3 : Int32))) (sq : h0.size ≤ q) : own_Goes p e below s 32 320 (Q_own_law Z u1 u2 u3 h0 n0) T0 (mkF m 102 #[iv u1, iv u2, iv u3, rv q, iv (0 : Int32)] []) := by
  obtain ⟨hx, hZ, hw, hby, hml, hown, hnm, hlk, hret, Z0⟩ := id H
  by_cases ho : (((u3).toUInt32 >>> ((7 : Int32) &&& 31).toUInt32).toInt32 &&& (1 : Int32)) = (0 : Int32)
  · refine own_lv7 u1 u2 u3 q (0 : Int32) X0 H e0 (own_sR0 l Z a0 hw [] ((0 : Int32)) (((u3).toUInt32 >>> ((7 : Int32) &&& 31).toUInt32).toInt32) (q) ((u1 &&& (3 : Int32))) ((u2 &&& (3 : Int32))) h1 n0 (Nat.le_trans Z0 K0.1) B0 (own_and3 u1) (own_and3 u2) (by decide) ho (by decide) (by decide)) (by decide) (by decide) (by decide) (by decide) ?_
    intro v T' L X' q'
    obtain ⟨rfl, N', e'⟩ := q'
    exact ⟨(0 : Int32), rfl, own_g8_e_0_0 u1 u2 u3 q  X' H e' (Fr.app N0 N') K0 B0 sq ⟩
  · refine own_lv7 u1 u2 u3 q (0 : Int32) X0 H e0 (own_sA0 l Z a0 hw [] ((0 : Int32)) (((u3).toUInt32 >>> ((7 : Int32) &&& 31).toUInt32).toInt32) (q) ((u1 &&& (3 : Int32))) ((u2 &&& (3 : Int32))) h1 n0 (Nat.le_trans Z0 K0.1) B0 (own_and3 u1) (own_and3 u2) (by decide) ho (by decide)) (by decide) (by decide) (by decide) (by decide) ?_
    intro v T' L X' q'
    obtain ⟨nb1, na1, rfl, N', K', f', t0, t1⟩ := q'
    exact ⟨(1 : Int32), rfl, own_g8_2_0_1 u1 u2 u3 q nb1 na1 X' H rfl (Fr.app N0 N') (K0.trans K' (allS (Or.inr sq) all0)) f' sq (Nat.le_trans K0.1 t0) (Nat.le_trans K0.1 t1)⟩
set_option maxRecDepth 65536 in
set_option maxHeartbeats 40000000 in
theorem own_g7_2_0_0 {p : Program} {l : Launch} {e : Env} {s : State} {m : MethodId} {args : Array Value} {below : List Frame} {meth : Method} {c : Code} {T0 : State} {locs : List Loc} {Z : State} {a0 : Array Value} {h0 h1 : Heap} {n0 : Nat} (u1 u2 u3 : Int32) (q b1 a1 : Addr) (X0 : Stand p l e room_1 s m args below meth c T0 locs 4 22) (H : own_Cx p s m meth c Z a0 n0 h0) (e0 : T0.heap = h1) (N0 : Fr n0 locs) (K0 : Keep h0 h1 []) (B0 : own_Q1 Z h1 q n0 (u1 &&& (3 : Int32)) (u2 &&& (3 : Int32)) (0 : Int32) (0 : Int32) b1 a1 (2 : Int32)) (sq : h0.size ≤ q) (sb1 : h0.size ≤ b1) (sa1 : h0.size ≤ a1) : own_Goes p e below s 32 320 (Q_own_law Z u1 u2 u3 h0 n0) T0 (mkF m 102 #[iv u1, iv u2, iv u3, rv q, iv (0 : Int32)] []) := by
  obtain ⟨hx, hZ, hw, hby, hml, hown, hnm, hlk, hret, Z0⟩ := id H
  by_cases ho : (((u3).toUInt32 >>> ((7 : Int32) &&& 31).toUInt32).toInt32 &&& (1 : Int32)) = (0 : Int32)
  · refine own_lv7 u1 u2 u3 q (0 : Int32) X0 H e0 (own_sR1z l Z a0 hw [] ((0 : Int32)) (((u3).toUInt32 >>> ((7 : Int32) &&& 31).toUInt32).toInt32) (q) ((u1 &&& (3 : Int32))) ((u2 &&& (3 : Int32))) ((0 : Int32)) ((0 : Int32)) (b1) (a1) ((2 : Int32)) h1 n0 (Nat.le_trans Z0 K0.1) B0 (own_and3 u1) (own_and3 u2) (by decide) ho (by decide) (by decide) (by decide)) (by decide) (by decide) (by decide) (by decide) ?_
    intro v T' L X' q'
    obtain ⟨rfl, N', e'⟩ := q'
    exact ⟨(0 : Int32), rfl, own_g8_2_0_0 u1 u2 u3 q b1 a1 X' H e' (Fr.app N0 N') K0 B0 sq sb1 sa1⟩
  · refine own_lv7 u1 u2 u3 q (0 : Int32) X0 H e0 (own_sA1n l Z a0 hw [] ((0 : Int32)) (((u3).toUInt32 >>> ((7 : Int32) &&& 31).toUInt32).toInt32) (q) ((u1 &&& (3 : Int32))) ((u2 &&& (3 : Int32))) ((0 : Int32)) ((0 : Int32)) (b1) (a1) ((2 : Int32)) h1 n0 (Nat.le_trans Z0 K0.1) B0 (own_and3 u1) (own_and3 u2) (by decide) ho (by decide) (by decide) (by decide)) (by decide) (by decide) (by decide) (by decide) ?_
    intro v T' L X' q'
    obtain ⟨rfl, N', K', f'⟩ := q'
    exact ⟨(1 : Int32), rfl, own_g8_2_0_1 u1 u2 u3 q b1 a1 X' H rfl (Fr.app N0 N') (K0.trans K' (allS (Or.inr sq) all0)) f' sq sb1 sa1⟩
set_option maxRecDepth 65536 in
set_option maxHeartbeats 40000000 in
theorem own_g7_2_0_1 {p : Program} {l : Launch} {e : Env} {s : State} {m : MethodId} {args : Array Value} {below : List Frame} {meth : Method} {c : Code} {T0 : State} {locs : List Loc} {Z : State} {a0 : Array Value} {h0 h1 : Heap} {n0 : Nat} (u1 u2 u3 : Int32) (q b1 a1 : Addr) (X0 : Stand p l e room_1 s m args below meth c T0 locs 4 22) (H : own_Cx p s m meth c Z a0 n0 h0) (e0 : T0.heap = h1) (N0 : Fr n0 locs) (K0 : Keep h0 h1 []) (B0 : own_Q1 Z h1 q n0 (u1 &&& (3 : Int32)) (u2 &&& (3 : Int32)) (0 : Int32) (1 : Int32) b1 a1 (2 : Int32)) (sq : h0.size ≤ q) (sb1 : h0.size ≤ b1) (sa1 : h0.size ≤ a1) : own_Goes p e below s 32 320 (Q_own_law Z u1 u2 u3 h0 n0) T0 (mkF m 102 #[iv u1, iv u2, iv u3, rv q, iv (1 : Int32)] []) := by
  obtain ⟨hx, hZ, hw, hby, hml, hown, hnm, hlk, hret, Z0⟩ := id H
  by_cases ho : (((u3).toUInt32 >>> ((7 : Int32) &&& 31).toUInt32).toInt32 &&& (1 : Int32)) = (0 : Int32)
  · refine own_lv7 u1 u2 u3 q (1 : Int32) X0 H e0 (own_sR1e l Z a0 hw [] ((1 : Int32)) (((u3).toUInt32 >>> ((7 : Int32) &&& 31).toUInt32).toInt32) (q) ((u1 &&& (3 : Int32))) ((u2 &&& (3 : Int32))) ((0 : Int32)) ((1 : Int32)) (b1) (a1) ((2 : Int32)) h1 n0 (Nat.le_trans Z0 K0.1) B0 (own_and3 u1) (own_and3 u2) (by decide) ho (by decide) (by decide) (by decide) (by decide) (by decide) (by decide) (by decide)) (by decide) (by decide) (by decide) (by decide) ?_
    intro v T' L X' q'
    obtain ⟨rfl, N', K', f'⟩ := q'
    exact ⟨(0 : Int32), rfl, own_g8_2_0_0 u1 u2 u3 q b1 a1 X' H rfl (Fr.app N0 N') (K0.trans K' (allS (Or.inr sq) (allS (Or.inr sa1) all0))) f' sq sb1 sa1⟩
  · refine own_lv7 u1 u2 u3 q (1 : Int32) X0 H e0 (own_sA1n l Z a0 hw [] ((1 : Int32)) (((u3).toUInt32 >>> ((7 : Int32) &&& 31).toUInt32).toInt32) (q) ((u1 &&& (3 : Int32))) ((u2 &&& (3 : Int32))) ((0 : Int32)) ((1 : Int32)) (b1) (a1) ((2 : Int32)) h1 n0 (Nat.le_trans Z0 K0.1) B0 (own_and3 u1) (own_and3 u2) (by decide) ho (by decide) (by decide) (by decide)) (by decide) (by decide) (by decide) (by decide) ?_
    intro v T' L X' q'
    obtain ⟨rfl, N', K', f'⟩ := q'
    exact ⟨(2 : Int32), rfl, own_g8_2_0_2 u1 u2 u3 q b1 a1 X' H rfl (Fr.app N0 N') (K0.trans K' (allS (Or.inr sq) all0)) f' sq sb1 sa1⟩
set_option maxRecDepth 65536 in
set_option maxHeartbeats 40000000 in
theorem own_g7_2_0_2 {p : Program} {l : Launch} {e : Env} {s : State} {m : MethodId} {args : Array Value} {below : List Frame} {meth : Method} {c : Code} {T0 : State} {locs : List Loc} {Z : State} {a0 : Array Value} {h0 h1 : Heap} {n0 : Nat} (u1 u2 u3 : Int32) (q b1 a1 : Addr) (X0 : Stand p l e room_1 s m args below meth c T0 locs 4 22) (H : own_Cx p s m meth c Z a0 n0 h0) (e0 : T0.heap = h1) (N0 : Fr n0 locs) (K0 : Keep h0 h1 []) (B0 : own_Q1 Z h1 q n0 (u1 &&& (3 : Int32)) (u2 &&& (3 : Int32)) (0 : Int32) (2 : Int32) b1 a1 (2 : Int32)) (sq : h0.size ≤ q) (sb1 : h0.size ≤ b1) (sa1 : h0.size ≤ a1) : own_Goes p e below s 32 320 (Q_own_law Z u1 u2 u3 h0 n0) T0 (mkF m 102 #[iv u1, iv u2, iv u3, rv q, iv (2 : Int32)] []) := by
  obtain ⟨hx, hZ, hw, hby, hml, hown, hnm, hlk, hret, Z0⟩ := id H
  by_cases ho : (((u3).toUInt32 >>> ((7 : Int32) &&& 31).toUInt32).toInt32 &&& (1 : Int32)) = (0 : Int32)
  · refine own_lv7 u1 u2 u3 q (2 : Int32) X0 H e0 (own_sR1n l Z a0 hw [] ((2 : Int32)) (((u3).toUInt32 >>> ((7 : Int32) &&& 31).toUInt32).toInt32) (q) ((u1 &&& (3 : Int32))) ((u2 &&& (3 : Int32))) ((0 : Int32)) ((2 : Int32)) (b1) (a1) ((2 : Int32)) h1 n0 (Nat.le_trans Z0 K0.1) B0 (own_and3 u1) (own_and3 u2) (by decide) ho (by decide) (by decide) (by decide) (by decide) (by decide) (by decide) (by decide) (by decide)) (by decide) (by decide) (by decide) (by decide) ?_
    intro v T' L X' q'
    obtain ⟨rfl, N', K', f'⟩ := q'
    exact ⟨(1 : Int32), rfl, own_g8_2_1_2 u1 u2 u3 q b1 a1 X' H rfl (Fr.app N0 N') (K0.trans K' (allS (Or.inr sq) (allS (Or.inr sa1) all0))) f' sq sb1 sa1⟩
  · refine own_lv7 u1 u2 u3 q (2 : Int32) X0 H e0 (own_sA1a2 l Z a0 hw [] ((2 : Int32)) (((u3).toUInt32 >>> ((7 : Int32) &&& 31).toUInt32).toInt32) (q) ((u1 &&& (3 : Int32))) ((u2 &&& (3 : Int32))) ((0 : Int32)) (b1) (a1) h1 n0 (Nat.le_trans Z0 K0.1) B0 (own_and3 u1) (own_and3 u2) (by decide) ho (by decide)) (by decide) (by decide) (by decide) (by decide) ?_
    intro v T' L X' q'
    obtain ⟨nb2, na2, rfl, N', K', f', t0, t1⟩ := q'
    exact ⟨(3 : Int32), rfl, own_g8_24_0_1 u1 u2 u3 q b1 a1 nb2 na2 X' H rfl (Fr.app N0 N') (K0.trans K' (allS (Or.inr sq) (allS (Or.inr sb1) all0))) f' sq sb1 sa1 (Nat.le_trans K0.1 t0) (Nat.le_trans K0.1 t1)⟩
set_option maxRecDepth 65536 in
set_option maxHeartbeats 40000000 in
theorem own_g7_2_1_2 {p : Program} {l : Launch} {e : Env} {s : State} {m : MethodId} {args : Array Value} {below : List Frame} {meth : Method} {c : Code} {T0 : State} {locs : List Loc} {Z : State} {a0 : Array Value} {h0 h1 : Heap} {n0 : Nat} (u1 u2 u3 : Int32) (q b1 a1 : Addr) (X0 : Stand p l e room_1 s m args below meth c T0 locs 4 22) (H : own_Cx p s m meth c Z a0 n0 h0) (e0 : T0.heap = h1) (N0 : Fr n0 locs) (K0 : Keep h0 h1 []) (B0 : own_Q1 Z h1 q n0 (u1 &&& (3 : Int32)) (u2 &&& (3 : Int32)) (1 : Int32) (2 : Int32) b1 a1 (2 : Int32)) (sq : h0.size ≤ q) (sb1 : h0.size ≤ b1) (sa1 : h0.size ≤ a1) : own_Goes p e below s 32 320 (Q_own_law Z u1 u2 u3 h0 n0) T0 (mkF m 102 #[iv u1, iv u2, iv u3, rv q, iv (1 : Int32)] []) := by
  obtain ⟨hx, hZ, hw, hby, hml, hown, hnm, hlk, hret, Z0⟩ := id H
  by_cases ho : (((u3).toUInt32 >>> ((7 : Int32) &&& 31).toUInt32).toInt32 &&& (1 : Int32)) = (0 : Int32)
  · refine own_lv7 u1 u2 u3 q (1 : Int32) X0 H e0 (own_sR1e l Z a0 hw [] ((1 : Int32)) (((u3).toUInt32 >>> ((7 : Int32) &&& 31).toUInt32).toInt32) (q) ((u1 &&& (3 : Int32))) ((u2 &&& (3 : Int32))) ((1 : Int32)) ((2 : Int32)) (b1) (a1) ((2 : Int32)) h1 n0 (Nat.le_trans Z0 K0.1) B0 (own_and3 u1) (own_and3 u2) (by decide) ho (by decide) (by decide) (by decide) (by decide) (by decide) (by decide) (by decide)) (by decide) (by decide) (by decide) (by decide) ?_
    intro v T' L X' q'
    obtain ⟨rfl, N', K', f'⟩ := q'
    exact ⟨(0 : Int32), rfl, own_g8_2_0_0 u1 u2 u3 q b1 a1 X' H rfl (Fr.app N0 N') (K0.trans K' (allS (Or.inr sq) (allS (Or.inr sa1) all0))) f' sq sb1 sa1⟩
  · refine own_lv7 u1 u2 u3 q (1 : Int32) X0 H e0 (own_sA1a2 l Z a0 hw [] ((1 : Int32)) (((u3).toUInt32 >>> ((7 : Int32) &&& 31).toUInt32).toInt32) (q) ((u1 &&& (3 : Int32))) ((u2 &&& (3 : Int32))) ((1 : Int32)) (b1) (a1) h1 n0 (Nat.le_trans Z0 K0.1) B0 (own_and3 u1) (own_and3 u2) (by decide) ho (by decide)) (by decide) (by decide) (by decide) (by decide) ?_
    intro v T' L X' q'
    obtain ⟨nb2, na2, rfl, N', K', f', t0, t1⟩ := q'
    exact ⟨(2 : Int32), rfl, own_g8_24_1_1 u1 u2 u3 q b1 a1 nb2 na2 X' H rfl (Fr.app N0 N') (K0.trans K' (allS (Or.inr sq) (allS (Or.inr sb1) all0))) f' sq sb1 sa1 (Nat.le_trans K0.1 t0) (Nat.le_trans K0.1 t1)⟩
set_option maxRecDepth 65536 in
set_option maxHeartbeats 40000000 in
theorem own_g7_24_0_1 {p : Program} {l : Launch} {e : Env} {s : State} {m : MethodId} {args : Array Value} {below : List Frame} {meth : Method} {c : Code} {T0 : State} {locs : List Loc} {Z : State} {a0 : Array Value} {h0 h1 : Heap} {n0 : Nat} (u1 u2 u3 : Int32) (q b1 a1 b2 a2 : Addr) (X0 : Stand p l e room_1 s m args below meth c T0 locs 7 50) (H : own_Cx p s m meth c Z a0 n0 h0) (e0 : T0.heap = h1) (N0 : Fr n0 locs) (K0 : Keep h0 h1 []) (B0 : own_Q2 Z h1 q n0 (u1 &&& (3 : Int32)) (u2 &&& (3 : Int32)) (0 : Int32) (1 : Int32) b1 a1 (2 : Int32) b2 a2 (4 : Int32)) (sq : h0.size ≤ q) (sb1 : h0.size ≤ b1) (sa1 : h0.size ≤ a1) (sb2 : h0.size ≤ b2) (sa2 : h0.size ≤ a2) : own_Goes p e below s 32 320 (Q_own_law Z u1 u2 u3 h0 n0) T0 (mkF m 102 #[iv u1, iv u2, iv u3, rv q, iv (3 : Int32)] []) := by
  obtain ⟨hx, hZ, hw, hby, hml, hown, hnm, hlk, hret, Z0⟩ := id H
  by_cases ho : (((u3).toUInt32 >>> ((7 : Int32) &&& 31).toUInt32).toInt32 &&& (1 : Int32)) = (0 : Int32)
  · refine own_lv7 u1 u2 u3 q (3 : Int32) X0 H e0 (own_sR2n l Z a0 hw [] ((3 : Int32)) (((u3).toUInt32 >>> ((7 : Int32) &&& 31).toUInt32).toInt32) (q) ((u1 &&& (3 : Int32))) ((u2 &&& (3 : Int32))) ((0 : Int32)) ((1 : Int32)) (b1) (a1) ((2 : Int32)) (b2) (a2) ((4 : Int32)) h1 n0 (Nat.le_trans Z0 K0.1) B0 (own_and3 u1) (own_and3 u2) (by decide) ho (by decide) (by decide) (by decide) (by decide) (by decide) (by decide)) (by decide) (by decide) (by decide) (by decide) ?_
    intro v T' L X' q'
    obtain ⟨rfl, N', K', f'⟩ := q'
    exact ⟨(2 : Int32), rfl, own_g8_24_1_1 u1 u2 u3 q b1 a1 b2 a2 X' H rfl (Fr.app N0 N') (K0.trans K' (allS (Or.inr sq) (allS (Or.inr sa1) all0))) f' sq sb1 sa1 sb2 sa2⟩
  · refine own_lv7 u1 u2 u3 q (3 : Int32) X0 H e0 (own_sA2n l Z a0 hw [] ((3 : Int32)) (((u3).toUInt32 >>> ((7 : Int32) &&& 31).toUInt32).toInt32) (q) ((u1 &&& (3 : Int32))) ((u2 &&& (3 : Int32))) ((0 : Int32)) ((1 : Int32)) (b1) (a1) ((2 : Int32)) (b2) (a2) ((4 : Int32)) h1 n0 (Nat.le_trans Z0 K0.1) B0 (own_and3 u1) (own_and3 u2) (by decide) ho (by decide) (by decide)) (by decide) (by decide) (by decide) (by decide) ?_
    intro v T' L X' q'
    obtain ⟨rfl, N', K', f'⟩ := q'
    exact ⟨(4 : Int32), rfl, own_g8_24_0_2 u1 u2 u3 q b1 a1 b2 a2 X' H rfl (Fr.app N0 N') (K0.trans K' (allS (Or.inr sq) all0)) f' sq sb1 sa1 sb2 sa2⟩
set_option maxRecDepth 65536 in
set_option maxHeartbeats 40000000 in
theorem own_g7_24_0_2 {p : Program} {l : Launch} {e : Env} {s : State} {m : MethodId} {args : Array Value} {below : List Frame} {meth : Method} {c : Code} {T0 : State} {locs : List Loc} {Z : State} {a0 : Array Value} {h0 h1 : Heap} {n0 : Nat} (u1 u2 u3 : Int32) (q b1 a1 b2 a2 : Addr) (X0 : Stand p l e room_1 s m args below meth c T0 locs 7 50) (H : own_Cx p s m meth c Z a0 n0 h0) (e0 : T0.heap = h1) (N0 : Fr n0 locs) (K0 : Keep h0 h1 []) (B0 : own_Q2 Z h1 q n0 (u1 &&& (3 : Int32)) (u2 &&& (3 : Int32)) (0 : Int32) (2 : Int32) b1 a1 (2 : Int32) b2 a2 (4 : Int32)) (sq : h0.size ≤ q) (sb1 : h0.size ≤ b1) (sa1 : h0.size ≤ a1) (sb2 : h0.size ≤ b2) (sa2 : h0.size ≤ a2) : own_Goes p e below s 32 320 (Q_own_law Z u1 u2 u3 h0 n0) T0 (mkF m 102 #[iv u1, iv u2, iv u3, rv q, iv (4 : Int32)] []) := by
  obtain ⟨hx, hZ, hw, hby, hml, hown, hnm, hlk, hret, Z0⟩ := id H
  by_cases ho : (((u3).toUInt32 >>> ((7 : Int32) &&& 31).toUInt32).toInt32 &&& (1 : Int32)) = (0 : Int32)
  · refine own_lv7 u1 u2 u3 q (4 : Int32) X0 H e0 (own_sR2n l Z a0 hw [] ((4 : Int32)) (((u3).toUInt32 >>> ((7 : Int32) &&& 31).toUInt32).toInt32) (q) ((u1 &&& (3 : Int32))) ((u2 &&& (3 : Int32))) ((0 : Int32)) ((2 : Int32)) (b1) (a1) ((2 : Int32)) (b2) (a2) ((4 : Int32)) h1 n0 (Nat.le_trans Z0 K0.1) B0 (own_and3 u1) (own_and3 u2) (by decide) ho (by decide) (by decide) (by decide) (by decide) (by decide) (by decide)) (by decide) (by decide) (by decide) (by decide) ?_
    intro v T' L X' q'
    obtain ⟨rfl, N', K', f'⟩ := q'
    exact ⟨(3 : Int32), rfl, own_g8_24_1_2 u1 u2 u3 q b1 a1 b2 a2 X' H rfl (Fr.app N0 N') (K0.trans K' (allS (Or.inr sq) (allS (Or.inr sa1) all0))) f' sq sb1 sa1 sb2 sa2⟩
  · refine own_lv7 u1 u2 u3 q (4 : Int32) X0 H e0 (own_sA2n l Z a0 hw [] ((4 : Int32)) (((u3).toUInt32 >>> ((7 : Int32) &&& 31).toUInt32).toInt32) (q) ((u1 &&& (3 : Int32))) ((u2 &&& (3 : Int32))) ((0 : Int32)) ((2 : Int32)) (b1) (a1) ((2 : Int32)) (b2) (a2) ((4 : Int32)) h1 n0 (Nat.le_trans Z0 K0.1) B0 (own_and3 u1) (own_and3 u2) (by decide) ho (by decide) (by decide)) (by decide) (by decide) (by decide) (by decide) ?_
    intro v T' L X' q'
    obtain ⟨rfl, N', K', f'⟩ := q'
    exact ⟨(5 : Int32), rfl, own_g8_24_0_3 u1 u2 u3 q b1 a1 b2 a2 X' H rfl (Fr.app N0 N') (K0.trans K' (allS (Or.inr sq) all0)) f' sq sb1 sa1 sb2 sa2⟩
set_option maxRecDepth 65536 in
set_option maxHeartbeats 40000000 in
theorem own_g7_24_0_3 {p : Program} {l : Launch} {e : Env} {s : State} {m : MethodId} {args : Array Value} {below : List Frame} {meth : Method} {c : Code} {T0 : State} {locs : List Loc} {Z : State} {a0 : Array Value} {h0 h1 : Heap} {n0 : Nat} (u1 u2 u3 : Int32) (q b1 a1 b2 a2 : Addr) (X0 : Stand p l e room_1 s m args below meth c T0 locs 7 50) (H : own_Cx p s m meth c Z a0 n0 h0) (e0 : T0.heap = h1) (N0 : Fr n0 locs) (K0 : Keep h0 h1 []) (B0 : own_Q2 Z h1 q n0 (u1 &&& (3 : Int32)) (u2 &&& (3 : Int32)) (0 : Int32) (3 : Int32) b1 a1 (2 : Int32) b2 a2 (4 : Int32)) (sq : h0.size ≤ q) (sb1 : h0.size ≤ b1) (sa1 : h0.size ≤ a1) (sb2 : h0.size ≤ b2) (sa2 : h0.size ≤ a2) : own_Goes p e below s 32 320 (Q_own_law Z u1 u2 u3 h0 n0) T0 (mkF m 102 #[iv u1, iv u2, iv u3, rv q, iv (5 : Int32)] []) := by
  obtain ⟨hx, hZ, hw, hby, hml, hown, hnm, hlk, hret, Z0⟩ := id H
  by_cases ho : (((u3).toUInt32 >>> ((7 : Int32) &&& 31).toUInt32).toInt32 &&& (1 : Int32)) = (0 : Int32)
  · refine own_lv7 u1 u2 u3 q (5 : Int32) X0 H e0 (own_sR2n l Z a0 hw [] ((5 : Int32)) (((u3).toUInt32 >>> ((7 : Int32) &&& 31).toUInt32).toInt32) (q) ((u1 &&& (3 : Int32))) ((u2 &&& (3 : Int32))) ((0 : Int32)) ((3 : Int32)) (b1) (a1) ((2 : Int32)) (b2) (a2) ((4 : Int32)) h1 n0 (Nat.le_trans Z0 K0.1) B0 (own_and3 u1) (own_and3 u2) (by decide) ho (by decide) (by decide) (by decide) (by decide) (by decide) (by decide)) (by decide) (by decide) (by decide) (by decide) ?_
    intro v T' L X' q'
    obtain ⟨rfl, N', K', f'⟩ := q'
    exact ⟨(4 : Int32), rfl, own_g8_24_1_3 u1 u2 u3 q b1 a1 b2 a2 X' H rfl (Fr.app N0 N') (K0.trans K' (allS (Or.inr sq) (allS (Or.inr sa1) all0))) f' sq sb1 sa1 sb2 sa2⟩
  · refine own_lv7 u1 u2 u3 q (5 : Int32) X0 H e0 (own_sA2n l Z a0 hw [] ((5 : Int32)) (((u3).toUInt32 >>> ((7 : Int32) &&& 31).toUInt32).toInt32) (q) ((u1 &&& (3 : Int32))) ((u2 &&& (3 : Int32))) ((0 : Int32)) ((3 : Int32)) (b1) (a1) ((2 : Int32)) (b2) (a2) ((4 : Int32)) h1 n0 (Nat.le_trans Z0 K0.1) B0 (own_and3 u1) (own_and3 u2) (by decide) ho (by decide) (by decide)) (by decide) (by decide) (by decide) (by decide) ?_
    intro v T' L X' q'
    obtain ⟨rfl, N', K', f'⟩ := q'
    exact ⟨(6 : Int32), rfl, own_g8_24_0_4 u1 u2 u3 q b1 a1 b2 a2 X' H rfl (Fr.app N0 N') (K0.trans K' (allS (Or.inr sq) all0)) f' sq sb1 sa1 sb2 sa2⟩
set_option maxRecDepth 65536 in
set_option maxHeartbeats 40000000 in
theorem own_g7_24_0_4 {p : Program} {l : Launch} {e : Env} {s : State} {m : MethodId} {args : Array Value} {below : List Frame} {meth : Method} {c : Code} {T0 : State} {locs : List Loc} {Z : State} {a0 : Array Value} {h0 h1 : Heap} {n0 : Nat} (u1 u2 u3 : Int32) (q b1 a1 b2 a2 : Addr) (X0 : Stand p l e room_1 s m args below meth c T0 locs 7 50) (H : own_Cx p s m meth c Z a0 n0 h0) (e0 : T0.heap = h1) (N0 : Fr n0 locs) (K0 : Keep h0 h1 []) (B0 : own_Q2 Z h1 q n0 (u1 &&& (3 : Int32)) (u2 &&& (3 : Int32)) (0 : Int32) (4 : Int32) b1 a1 (2 : Int32) b2 a2 (4 : Int32)) (sq : h0.size ≤ q) (sb1 : h0.size ≤ b1) (sa1 : h0.size ≤ a1) (sb2 : h0.size ≤ b2) (sa2 : h0.size ≤ a2) : own_Goes p e below s 32 320 (Q_own_law Z u1 u2 u3 h0 n0) T0 (mkF m 102 #[iv u1, iv u2, iv u3, rv q, iv (6 : Int32)] []) := by
  obtain ⟨hx, hZ, hw, hby, hml, hown, hnm, hlk, hret, Z0⟩ := id H
  by_cases ho : (((u3).toUInt32 >>> ((7 : Int32) &&& 31).toUInt32).toInt32 &&& (1 : Int32)) = (0 : Int32)
  · refine own_lv7 u1 u2 u3 q (6 : Int32) X0 H e0 (own_sR2n l Z a0 hw [] ((6 : Int32)) (((u3).toUInt32 >>> ((7 : Int32) &&& 31).toUInt32).toInt32) (q) ((u1 &&& (3 : Int32))) ((u2 &&& (3 : Int32))) ((0 : Int32)) ((4 : Int32)) (b1) (a1) ((2 : Int32)) (b2) (a2) ((4 : Int32)) h1 n0 (Nat.le_trans Z0 K0.1) B0 (own_and3 u1) (own_and3 u2) (by decide) ho (by decide) (by decide) (by decide) (by decide) (by decide) (by decide)) (by decide) (by decide) (by decide) (by decide) ?_
    intro v T' L X' q'
    obtain ⟨rfl, N', K', f'⟩ := q'
    exact ⟨(5 : Int32), rfl, own_g8_24_1_4 u1 u2 u3 q b1 a1 b2 a2 X' H rfl (Fr.app N0 N') (K0.trans K' (allS (Or.inr sq) (allS (Or.inr sa1) all0))) f' sq sb1 sa1 sb2 sa2⟩
  · refine own_lv7 u1 u2 u3 q (6 : Int32) X0 H e0 (own_sA2a l Z a0 hw [] ((6 : Int32)) (((u3).toUInt32 >>> ((7 : Int32) &&& 31).toUInt32).toInt32) (q) ((u1 &&& (3 : Int32))) ((u2 &&& (3 : Int32))) ((0 : Int32)) (b1) (a1) (b2) (a2) h1 n0 (Nat.le_trans Z0 K0.1) B0 (own_and3 u1) (own_and3 u2) (by decide) ho (by decide)) (by decide) (by decide) (by decide) (by decide) ?_
    intro v T' L X' q'
    obtain ⟨nb3, na3, rfl, N', K', f', t0, t1⟩ := q'
    exact ⟨(7 : Int32), rfl, own_g8_248_0_1 u1 u2 u3 q b1 a1 b2 a2 nb3 na3 X' H rfl (Fr.app N0 N') (K0.trans K' (allS (Or.inr sq) (allS (Or.inr sb2) all0))) f' sq sb1 sa1 sb2 sa2 (Nat.le_trans K0.1 t0) (Nat.le_trans K0.1 t1)⟩
set_option maxRecDepth 65536 in
set_option maxHeartbeats 40000000 in
theorem own_g7_24_1_1 {p : Program} {l : Launch} {e : Env} {s : State} {m : MethodId} {args : Array Value} {below : List Frame} {meth : Method} {c : Code} {T0 : State} {locs : List Loc} {Z : State} {a0 : Array Value} {h0 h1 : Heap} {n0 : Nat} (u1 u2 u3 : Int32) (q b1 a1 b2 a2 : Addr) (X0 : Stand p l e room_1 s m args below meth c T0 locs 7 50) (H : own_Cx p s m meth c Z a0 n0 h0) (e0 : T0.heap = h1) (N0 : Fr n0 locs) (K0 : Keep h0 h1 []) (B0 : own_Q2 Z h1 q n0 (u1 &&& (3 : Int32)) (u2 &&& (3 : Int32)) (1 : Int32) (1 : Int32) b1 a1 (2 : Int32) b2 a2 (4 : Int32)) (sq : h0.size ≤ q) (sb1 : h0.size ≤ b1) (sa1 : h0.size ≤ a1) (sb2 : h0.size ≤ b2) (sa2 : h0.size ≤ a2) : own_Goes p e below s 32 320 (Q_own_law Z u1 u2 u3 h0 n0) T0 (mkF m 102 #[iv u1, iv u2, iv u3, rv q, iv (2 : Int32)] []) := by
  obtain ⟨hx, hZ, hw, hby, hml, hown, hnm, hlk, hret, Z0⟩ := id H
  by_cases ho : (((u3).toUInt32 >>> ((7 : Int32) &&& 31).toUInt32).toInt32 &&& (1 : Int32)) = (0 : Int32)
  · refine own_lv7 u1 u2 u3 q (2 : Int32) X0 H e0 (own_sR2a l Z a0 hw [] ((2 : Int32)) (((u3).toUInt32 >>> ((7 : Int32) &&& 31).toUInt32).toInt32) (q) ((u1 &&& (3 : Int32))) ((u2 &&& (3 : Int32))) ((1 : Int32)) ((1 : Int32)) (b1) (a1) ((2 : Int32)) (b2) (a2) ((4 : Int32)) h1 n0 (Nat.le_trans Z0 K0.1) B0 (own_and3 u1) (own_and3 u2) (by decide) ho (by decide) (by decide) (by decide) (by decide) (by decide) (by decide) (by decide)) (by decide) (by decide) (by decide) (by decide) ?_
    intro v T' L X' q'
    obtain ⟨rfl, N', K', f'⟩ := q'
    exact ⟨(1 : Int32), rfl, own_g8_4_0_1 u1 u2 u3 q b2 a2 X' H rfl (Fr.app N0 N') (K0.trans K' (allS (Or.inr sq) (allS (Or.inr sa1) all0))) f' sq sb2 sa2⟩
  · refine own_lv7 u1 u2 u3 q (2 : Int32) X0 H e0 (own_sA2n l Z a0 hw [] ((2 : Int32)) (((u3).toUInt32 >>> ((7 : Int32) &&& 31).toUInt32).toInt32) (q) ((u1 &&& (3 : Int32))) ((u2 &&& (3 : Int32))) ((1 : Int32)) ((1 : Int32)) (b1) (a1) ((2 : Int32)) (b2) (a2) ((4 : Int32)) h1 n0 (Nat.le_trans Z0 K0.1) B0 (own_and3 u1) (own_and3 u2) (by decide) ho (by decide) (by decide)) (by decide) (by decide) (by decide) (by decide) ?_
    intro v T' L X' q'
    obtain ⟨rfl, N', K', f'⟩ := q'
    exact ⟨(3 : Int32), rfl, own_g8_24_1_2 u1 u2 u3 q b1 a1 b2 a2 X' H rfl (Fr.app N0 N') (K0.trans K' (allS (Or.inr sq) all0)) f' sq sb1 sa1 sb2 sa2⟩
set_option maxRecDepth 65536 in
set_option maxHeartbeats 40000000 in
theorem own_g7_24_1_2 {p : Program} {l : Launch} {e : Env} {s : State} {m : MethodId} {args : Array Value} {below : List Frame} {meth : Method} {c : Code} {T0 : State} {locs : List Loc} {Z : State} {a0 : Array Value} {h0 h1 : Heap} {n0 : Nat} (u1 u2 u3 : Int32) (q b1 a1 b2 a2 : Addr) (X0 : Stand p l e room_1 s m args below meth c T0 locs 7 50) (H : own_Cx p s m meth c Z a0 n0 h0) (e0 : T0.heap = h1) (N0 : Fr n0 locs) (K0 : Keep h0 h1 []) (B0 : own_Q2 Z h1 q n0 (u1 &&& (3 : Int32)) (u2 &&& (3 : Int32)) (1 : Int32) (2 : Int32) b1 a1 (2 : Int32) b2 a2 (4 : Int32)) (sq : h0.size ≤ q) (sb1 : h0.size ≤ b1) (sa1 : h0.size ≤ a1) (sb2 : h0.size ≤ b2) (sa2 : h0.size ≤ a2) : own_Goes p e below s 32 320 (Q_own_law Z u1 u2 u3 h0 n0) T0 (mkF m 102 #[iv u1, iv u2, iv u3, rv q, iv (3 : Int32)] []) := by
  obtain ⟨hx, hZ, hw, hby, hml, hown, hnm, hlk, hret, Z0⟩ := id H
  by_cases ho : (((u3).toUInt32 >>> ((7 : Int32) &&& 31).toUInt32).toInt32 &&& (1 : Int32)) = (0 : Int32)
  · refine own_lv7 u1 u2 u3 q (3 : Int32) X0 H e0 (own_sR2a l Z a0 hw [] ((3 : Int32)) (((u3).toUInt32 >>> ((7 : Int32) &&& 31).toUInt32).toInt32) (q) ((u1 &&& (3 : Int32))) ((u2 &&& (3 : Int32))) ((1 : Int32)) ((2 : Int32)) (b1) (a1) ((2 : Int32)) (b2) (a2) ((4 : Int32)) h1 n0 (Nat.le_trans Z0 K0.1) B0 (own_and3 u1) (own_and3 u2) (by decide) ho (by decide) (by decide) (by decide) (by decide) (by decide) (by decide) (by decide)) (by decide) (by decide) (by decide) (by decide) ?_
    intro v T' L X' q'
    obtain ⟨rfl, N', K', f'⟩ := q'
    exact ⟨(2 : Int32), rfl, own_g8_4_0_2 u1 u2 u3 q b2 a2 X' H rfl (Fr.app N0 N') (K0.trans K' (allS (Or.inr sq) (allS (Or.inr sa1) all0))) f' sq sb2 sa2⟩
  · refine own_lv7 u1 u2 u3 q (3 : Int32) X0 H e0 (own_sA2n l Z a0 hw [] ((3 : Int32)) (((u3).toUInt32 >>> ((7 : Int32) &&& 31).toUInt32).toInt32) (q) ((u1 &&& (3 : Int32))) ((u2 &&& (3 : Int32))) ((1 : Int32)) ((2 : Int32)) (b1) (a1) ((2 : Int32)) (b2) (a2) ((4 : Int32)) h1 n0 (Nat.le_trans Z0 K0.1) B0 (own_and3 u1) (own_and3 u2) (by decide) ho (by decide) (by decide)) (by decide) (by decide) (by decide) (by decide) ?_
    intro v T' L X' q'
    obtain ⟨rfl, N', K', f'⟩ := q'
    exact ⟨(4 : Int32), rfl, own_g8_24_1_3 u1 u2 u3 q b1 a1 b2 a2 X' H rfl (Fr.app N0 N') (K0.trans K' (allS (Or.inr sq) all0)) f' sq sb1 sa1 sb2 sa2⟩
set_option maxRecDepth 65536 in
set_option maxHeartbeats 40000000 in
theorem own_g7_24_1_3 {p : Program} {l : Launch} {e : Env} {s : State} {m : MethodId} {args : Array Value} {below : List Frame} {meth : Method} {c : Code} {T0 : State} {locs : List Loc} {Z : State} {a0 : Array Value} {h0 h1 : Heap} {n0 : Nat} (u1 u2 u3 : Int32) (q b1 a1 b2 a2 : Addr) (X0 : Stand p l e room_1 s m args below meth c T0 locs 7 50) (H : own_Cx p s m meth c Z a0 n0 h0) (e0 : T0.heap = h1) (N0 : Fr n0 locs) (K0 : Keep h0 h1 []) (B0 : own_Q2 Z h1 q n0 (u1 &&& (3 : Int32)) (u2 &&& (3 : Int32)) (1 : Int32) (3 : Int32) b1 a1 (2 : Int32) b2 a2 (4 : Int32)) (sq : h0.size ≤ q) (sb1 : h0.size ≤ b1) (sa1 : h0.size ≤ a1) (sb2 : h0.size ≤ b2) (sa2 : h0.size ≤ a2) : own_Goes p e below s 32 320 (Q_own_law Z u1 u2 u3 h0 n0) T0 (mkF m 102 #[iv u1, iv u2, iv u3, rv q, iv (4 : Int32)] []) := by
  obtain ⟨hx, hZ, hw, hby, hml, hown, hnm, hlk, hret, Z0⟩ := id H
  by_cases ho : (((u3).toUInt32 >>> ((7 : Int32) &&& 31).toUInt32).toInt32 &&& (1 : Int32)) = (0 : Int32)
  · refine own_lv7 u1 u2 u3 q (4 : Int32) X0 H e0 (own_sR2a l Z a0 hw [] ((4 : Int32)) (((u3).toUInt32 >>> ((7 : Int32) &&& 31).toUInt32).toInt32) (q) ((u1 &&& (3 : Int32))) ((u2 &&& (3 : Int32))) ((1 : Int32)) ((3 : Int32)) (b1) (a1) ((2 : Int32)) (b2) (a2) ((4 : Int32)) h1 n0 (Nat.le_trans Z0 K0.1) B0 (own_and3 u1) (own_and3 u2) (by decide) ho (by decide) (by decide) (by decide) (by decide) (by decide) (by decide) (by decide)) (by decide) (by decide) (by decide) (by decide) ?_
    intro v T' L X' q'
    obtain ⟨rfl, N', K', f'⟩ := q'
    exact ⟨(3 : Int32), rfl, own_g8_4_0_3 u1 u2 u3 q b2 a2 X' H rfl (Fr.app N0 N') (K0.trans K' (allS (Or.inr sq) (allS (Or.inr sa1) all0))) f' sq sb2 sa2⟩
  · refine own_lv7 u1 u2 u3 q (4 : Int32) X0 H e0 (own_sA2n l Z a0 hw [] ((4 : Int32)) (((u3).toUInt32 >>> ((7 : Int32) &&& 31).toUInt32).toInt32) (q) ((u1 &&& (3 : Int32))) ((u2 &&& (3 : Int32))) ((1 : Int32)) ((3 : Int32)) (b1) (a1) ((2 : Int32)) (b2) (a2) ((4 : Int32)) h1 n0 (Nat.le_trans Z0 K0.1) B0 (own_and3 u1) (own_and3 u2) (by decide) ho (by decide) (by decide)) (by decide) (by decide) (by decide) (by decide) ?_
    intro v T' L X' q'
    obtain ⟨rfl, N', K', f'⟩ := q'
    exact ⟨(5 : Int32), rfl, own_g8_24_1_4 u1 u2 u3 q b1 a1 b2 a2 X' H rfl (Fr.app N0 N') (K0.trans K' (allS (Or.inr sq) all0)) f' sq sb1 sa1 sb2 sa2⟩
set_option maxRecDepth 65536 in
set_option maxHeartbeats 40000000 in
theorem own_g7_24_1_4 {p : Program} {l : Launch} {e : Env} {s : State} {m : MethodId} {args : Array Value} {below : List Frame} {meth : Method} {c : Code} {T0 : State} {locs : List Loc} {Z : State} {a0 : Array Value} {h0 h1 : Heap} {n0 : Nat} (u1 u2 u3 : Int32) (q b1 a1 b2 a2 : Addr) (X0 : Stand p l e room_1 s m args below meth c T0 locs 7 50) (H : own_Cx p s m meth c Z a0 n0 h0) (e0 : T0.heap = h1) (N0 : Fr n0 locs) (K0 : Keep h0 h1 []) (B0 : own_Q2 Z h1 q n0 (u1 &&& (3 : Int32)) (u2 &&& (3 : Int32)) (1 : Int32) (4 : Int32) b1 a1 (2 : Int32) b2 a2 (4 : Int32)) (sq : h0.size ≤ q) (sb1 : h0.size ≤ b1) (sa1 : h0.size ≤ a1) (sb2 : h0.size ≤ b2) (sa2 : h0.size ≤ a2) : own_Goes p e below s 32 320 (Q_own_law Z u1 u2 u3 h0 n0) T0 (mkF m 102 #[iv u1, iv u2, iv u3, rv q, iv (5 : Int32)] []) := by
  obtain ⟨hx, hZ, hw, hby, hml, hown, hnm, hlk, hret, Z0⟩ := id H
  by_cases ho : (((u3).toUInt32 >>> ((7 : Int32) &&& 31).toUInt32).toInt32 &&& (1 : Int32)) = (0 : Int32)
  · refine own_lv7 u1 u2 u3 q (5 : Int32) X0 H e0 (own_sR2a l Z a0 hw [] ((5 : Int32)) (((u3).toUInt32 >>> ((7 : Int32) &&& 31).toUInt32).toInt32) (q) ((u1 &&& (3 : Int32))) ((u2 &&& (3 : Int32))) ((1 : Int32)) ((4 : Int32)) (b1) (a1) ((2 : Int32)) (b2) (a2) ((4 : Int32)) h1 n0 (Nat.le_trans Z0 K0.1) B0 (own_and3 u1) (own_and3 u2) (by decide) ho (by decide) (by decide) (by decide) (by decide) (by decide) (by decide) (by decide)) (by decide) (by decide) (by decide) (by decide) ?_
    intro v T' L X' q'
    obtain ⟨rfl, N', K', f'⟩ := q'
    exact ⟨(4 : Int32), rfl, own_g8_4_0_4 u1 u2 u3 q b2 a2 X' H rfl (Fr.app N0 N') (K0.trans K' (allS (Or.inr sq) (allS (Or.inr sa1) all0))) f' sq sb2 sa2⟩
  · refine own_lv7 u1 u2 u3 q (5 : Int32) X0 H e0 (own_sA2a l Z a0 hw [] ((5 : Int32)) (((u3).toUInt32 >>> ((7 : Int32) &&& 31).toUInt32).toInt32) (q) ((u1 &&& (3 : Int32))) ((u2 &&& (3 : Int32))) ((1 : Int32)) (b1) (a1) (b2) (a2) h1 n0 (Nat.le_trans Z0 K0.1) B0 (own_and3 u1) (own_and3 u2) (by decide) ho (by decide)) (by decide) (by decide) (by decide) (by decide) ?_
    intro v T' L X' q'
    obtain ⟨nb3, na3, rfl, N', K', f', t0, t1⟩ := q'
    exact ⟨(6 : Int32), rfl, own_g8_248_1_1 u1 u2 u3 q b1 a1 b2 a2 nb3 na3 X' H rfl (Fr.app N0 N') (K0.trans K' (allS (Or.inr sq) (allS (Or.inr sb2) all0))) f' sq sb1 sa1 sb2 sa2 (Nat.le_trans K0.1 t0) (Nat.le_trans K0.1 t1)⟩
set_option maxRecDepth 65536 in
set_option maxHeartbeats 40000000 in
theorem own_g7_248_0_1 {p : Program} {l : Launch} {e : Env} {s : State} {m : MethodId} {args : Array Value} {below : List Frame} {meth : Method} {c : Code} {T0 : State} {locs : List Loc} {Z : State} {a0 : Array Value} {h0 h1 : Heap} {n0 : Nat} (u1 u2 u3 : Int32) (q b1 a1 b2 a2 b3 a3 : Addr) (X0 : Stand p l e room_1 s m args below meth c T0 locs 10 102) (H : own_Cx p s m meth c Z a0 n0 h0) (e0 : T0.heap = h1) (N0 : Fr n0 locs) (K0 : Keep h0 h1 []) (B0 : own_Q3 Z h1 q n0 (u1 &&& (3 : Int32)) (u2 &&& (3 : Int32)) (0 : Int32) (1 : Int32) b1 a1 (2 : Int32) b2 a2 (4 : Int32) b3 a3 (8 : Int32)) (sq : h0.size ≤ q) (sb1 : h0.size ≤ b1) (sa1 : h0.size ≤ a1) (sb2 : h0.size ≤ b2) (sa2 : h0.size ≤ a2) (sb3 : h0.size ≤ b3) (sa3 : h0.size ≤ a3) : own_Goes p e below s 32 320 (Q_own_law Z u1 u2 u3 h0 n0) T0 (mkF m 102 #[iv u1, iv u2, iv u3, rv q, iv (7 : Int32)] []) := by
  obtain ⟨hx, hZ, hw, hby, hml, hown, hnm, hlk, hret, Z0⟩ := id H
  by_cases ho : (((u3).toUInt32 >>> ((7 : Int32) &&& 31).toUInt32).toInt32 &&& (1 : Int32)) = (0 : Int32)
  · refine own_lv7 u1 u2 u3 q (7 : Int32) X0 H e0 (own_sR3n l Z a0 hw [] ((7 : Int32)) (((u3).toUInt32 >>> ((7 : Int32) &&& 31).toUInt32).toInt32) (q) ((u1 &&& (3 : Int32))) ((u2 &&& (3 : Int32))) ((0 : Int32)) ((1 : Int32)) (b1) (a1) ((2 : Int32)) (b2) (a2) ((4 : Int32)) (b3) (a3) ((8 : Int32)) h1 n0 (Nat.le_trans Z0 K0.1) B0 (own_and3 u1) (own_and3 u2) (by decide) ho (by decide) (by decide) (by decide) (by decide) (by decide) (by decide)) (by decide) (by decide) (by decide) (by decide) ?_
    intro v T' L X' q'
    obtain ⟨rfl, N', K', f'⟩ := q'
    exact ⟨(6 : Int32), rfl, own_g8_248_1_1 u1 u2 u3 q b1 a1 b2 a2 b3 a3 X' H rfl (Fr.app N0 N') (K0.trans K' (allS (Or.inr sq) (allS (Or.inr sa1) all0))) f' sq sb1 sa1 sb2 sa2 sb3 sa3⟩
  · refine own_lv7 u1 u2 u3 q (7 : Int32) X0 H e0 (own_sA3n l Z a0 hw [] ((7 : Int32)) (((u3).toUInt32 >>> ((7 : Int32) &&& 31).toUInt32).toInt32) (q) ((u1 &&& (3 : Int32))) ((u2 &&& (3 : Int32))) ((0 : Int32)) ((1 : Int32)) (b1) (a1) ((2 : Int32)) (b2) (a2) ((4 : Int32)) (b3) (a3) ((8 : Int32)) h1 n0 (Nat.le_trans Z0 K0.1) B0 (own_and3 u1) (own_and3 u2) (by decide) ho (by decide) (by decide)) (by decide) (by decide) (by decide) (by decide) ?_
    intro v T' L X' q'
    obtain ⟨rfl, N', K', f'⟩ := q'
    exact ⟨(8 : Int32), rfl, own_g8_248_0_2 u1 u2 u3 q b1 a1 b2 a2 b3 a3 X' H rfl (Fr.app N0 N') (K0.trans K' (allS (Or.inr sq) all0)) f' sq sb1 sa1 sb2 sa2 sb3 sa3⟩
set_option maxRecDepth 65536 in
set_option maxHeartbeats 40000000 in
theorem own_g7_4_0_0 {p : Program} {l : Launch} {e : Env} {s : State} {m : MethodId} {args : Array Value} {below : List Frame} {meth : Method} {c : Code} {T0 : State} {locs : List Loc} {Z : State} {a0 : Array Value} {h0 h1 : Heap} {n0 : Nat} (u1 u2 u3 : Int32) (q b1 a1 : Addr) (X0 : Stand p l e room_1 s m args below meth c T0 locs 7 50) (H : own_Cx p s m meth c Z a0 n0 h0) (e0 : T0.heap = h1) (N0 : Fr n0 locs) (K0 : Keep h0 h1 []) (B0 : own_Q1 Z h1 q n0 (u1 &&& (3 : Int32)) (u2 &&& (3 : Int32)) (0 : Int32) (0 : Int32) b1 a1 (4 : Int32)) (sq : h0.size ≤ q) (sb1 : h0.size ≤ b1) (sa1 : h0.size ≤ a1) : own_Goes p e below s 32 320 (Q_own_law Z u1 u2 u3 h0 n0) T0 (mkF m 102 #[iv u1, iv u2, iv u3, rv q, iv (0 : Int32)] []) := by
  obtain ⟨hx, hZ, hw, hby, hml, hown, hnm, hlk, hret, Z0⟩ := id H
  by_cases ho : (((u3).toUInt32 >>> ((7 : Int32) &&& 31).toUInt32).toInt32 &&& (1 : Int32)) = (0 : Int32)
  · refine own_lv7 u1 u2 u3 q (0 : Int32) X0 H e0 (own_sR1z l Z a0 hw [] ((0 : Int32)) (((u3).toUInt32 >>> ((7 : Int32) &&& 31).toUInt32).toInt32) (q) ((u1 &&& (3 : Int32))) ((u2 &&& (3 : Int32))) ((0 : Int32)) ((0 : Int32)) (b1) (a1) ((4 : Int32)) h1 n0 (Nat.le_trans Z0 K0.1) B0 (own_and3 u1) (own_and3 u2) (by decide) ho (by decide) (by decide) (by decide)) (by decide) (by decide) (by decide) (by decide) ?_
    intro v T' L X' q'
    obtain ⟨rfl, N', e'⟩ := q'
    exact ⟨(0 : Int32), rfl, own_g8_4_0_0 u1 u2 u3 q b1 a1 X' H e' (Fr.app N0 N') K0 B0 sq sb1 sa1⟩
  · refine own_lv7 u1 u2 u3 q (0 : Int32) X0 H e0 (own_sA1n l Z a0 hw [] ((0 : Int32)) (((u3).toUInt32 >>> ((7 : Int32) &&& 31).toUInt32).toInt32) (q) ((u1 &&& (3 : Int32))) ((u2 &&& (3 : Int32))) ((0 : Int32)) ((0 : Int32)) (b1) (a1) ((4 : Int32)) h1 n0 (Nat.le_trans Z0 K0.1) B0 (own_and3 u1) (own_and3 u2) (by decide) ho (by decide) (by decide) (by decide)) (by decide) (by decide) (by decide) (by decide) ?_
    intro v T' L X' q'
    obtain ⟨rfl, N', K', f'⟩ := q'
    exact ⟨(1 : Int32), rfl, own_g8_4_0_1 u1 u2 u3 q b1 a1 X' H rfl (Fr.app N0 N') (K0.trans K' (allS (Or.inr sq) all0)) f' sq sb1 sa1⟩
set_option maxRecDepth 65536 in
set_option maxHeartbeats 40000000 in
theorem own_g7_4_0_1 {p : Program} {l : Launch} {e : Env} {s : State} {m : MethodId} {args : Array Value} {below : List Frame} {meth : Method} {c : Code} {T0 : State} {locs : List Loc} {Z : State} {a0 : Array Value} {h0 h1 : Heap} {n0 : Nat} (u1 u2 u3 : Int32) (q b1 a1 : Addr) (X0 : Stand p l e room_1 s m args below meth c T0 locs 7 50) (H : own_Cx p s m meth c Z a0 n0 h0) (e0 : T0.heap = h1) (N0 : Fr n0 locs) (K0 : Keep h0 h1 []) (B0 : own_Q1 Z h1 q n0 (u1 &&& (3 : Int32)) (u2 &&& (3 : Int32)) (0 : Int32) (1 : Int32) b1 a1 (4 : Int32)) (sq : h0.size ≤ q) (sb1 : h0.size ≤ b1) (sa1 : h0.size ≤ a1) : own_Goes p e below s 32 320 (Q_own_law Z u1 u2 u3 h0 n0) T0 (mkF m 102 #[iv u1, iv u2, iv u3, rv q, iv (1 : Int32)] []) := by
  obtain ⟨hx, hZ, hw, hby, hml, hown, hnm, hlk, hret, Z0⟩ := id H
  by_cases ho : (((u3).toUInt32 >>> ((7 : Int32) &&& 31).toUInt32).toInt32 &&& (1 : Int32)) = (0 : Int32)
  · refine own_lv7 u1 u2 u3 q (1 : Int32) X0 H e0 (own_sR1e l Z a0 hw [] ((1 : Int32)) (((u3).toUInt32 >>> ((7 : Int32) &&& 31).toUInt32).toInt32) (q) ((u1 &&& (3 : Int32))) ((u2 &&& (3 : Int32))) ((0 : Int32)) ((1 : Int32)) (b1) (a1) ((4 : Int32)) h1 n0 (Nat.le_trans Z0 K0.1) B0 (own_and3 u1) (own_and3 u2) (by decide) ho (by decide) (by decide) (by decide) (by decide) (by decide) (by decide) (by decide)) (by decide) (by decide) (by decide) (by decide) ?_
    intro v T' L X' q'
    obtain ⟨rfl, N', K', f'⟩ := q'
    exact ⟨(0 : Int32), rfl, own_g8_4_0_0 u1 u2 u3 q b1 a1 X' H rfl (Fr.app N0 N') (K0.trans K' (allS (Or.inr sq) (allS (Or.inr sa1) all0))) f' sq sb1 sa1⟩
  · refine own_lv7 u1 u2 u3 q (1 : Int32) X0 H e0 (own_sA1n l Z a0 hw [] ((1 : Int32)) (((u3).toUInt32 >>> ((7 : Int32) &&& 31).toUInt32).toInt32) (q) ((u1 &&& (3 : Int32))) ((u2 &&& (3 : Int32))) ((0 : Int32)) ((1 : Int32)) (b1) (a1) ((4 : Int32)) h1 n0 (Nat.le_trans Z0 K0.1) B0 (own_and3 u1) (own_and3 u2) (by decide) ho (by decide) (by decide) (by decide)) (by decide) (by decide) (by decide) (by decide) ?_
    intro v T' L X' q'
    obtain ⟨rfl, N', K', f'⟩ := q'
    exact ⟨(2 : Int32), rfl, own_g8_4_0_2 u1 u2 u3 q b1 a1 X' H rfl (Fr.app N0 N') (K0.trans K' (allS (Or.inr sq) all0)) f' sq sb1 sa1⟩
set_option maxRecDepth 65536 in
set_option maxHeartbeats 40000000 in
theorem own_g7_4_0_2 {p : Program} {l : Launch} {e : Env} {s : State} {m : MethodId} {args : Array Value} {below : List Frame} {meth : Method} {c : Code} {T0 : State} {locs : List Loc} {Z : State} {a0 : Array Value} {h0 h1 : Heap} {n0 : Nat} (u1 u2 u3 : Int32) (q b1 a1 : Addr) (X0 : Stand p l e room_1 s m args below meth c T0 locs 7 50) (H : own_Cx p s m meth c Z a0 n0 h0) (e0 : T0.heap = h1) (N0 : Fr n0 locs) (K0 : Keep h0 h1 []) (B0 : own_Q1 Z h1 q n0 (u1 &&& (3 : Int32)) (u2 &&& (3 : Int32)) (0 : Int32) (2 : Int32) b1 a1 (4 : Int32)) (sq : h0.size ≤ q) (sb1 : h0.size ≤ b1) (sa1 : h0.size ≤ a1) : own_Goes p e below s 32 320 (Q_own_law Z u1 u2 u3 h0 n0) T0 (mkF m 102 #[iv u1, iv u2, iv u3, rv q, iv (2 : Int32)] []) := by
  obtain ⟨hx, hZ, hw, hby, hml, hown, hnm, hlk, hret, Z0⟩ := id H
  by_cases ho : (((u3).toUInt32 >>> ((7 : Int32) &&& 31).toUInt32).toInt32 &&& (1 : Int32)) = (0 : Int32)
  · refine own_lv7 u1 u2 u3 q (2 : Int32) X0 H e0 (own_sR1n l Z a0 hw [] ((2 : Int32)) (((u3).toUInt32 >>> ((7 : Int32) &&& 31).toUInt32).toInt32) (q) ((u1 &&& (3 : Int32))) ((u2 &&& (3 : Int32))) ((0 : Int32)) ((2 : Int32)) (b1) (a1) ((4 : Int32)) h1 n0 (Nat.le_trans Z0 K0.1) B0 (own_and3 u1) (own_and3 u2) (by decide) ho (by decide) (by decide) (by decide) (by decide) (by decide) (by decide) (by decide) (by decide)) (by decide) (by decide) (by decide) (by decide) ?_
    intro v T' L X' q'
    obtain ⟨rfl, N', K', f'⟩ := q'
    exact ⟨(1 : Int32), rfl, own_g8_4_1_2 u1 u2 u3 q b1 a1 X' H rfl (Fr.app N0 N') (K0.trans K' (allS (Or.inr sq) (allS (Or.inr sa1) all0))) f' sq sb1 sa1⟩
  · refine own_lv7 u1 u2 u3 q (2 : Int32) X0 H e0 (own_sA1n l Z a0 hw [] ((2 : Int32)) (((u3).toUInt32 >>> ((7 : Int32) &&& 31).toUInt32).toInt32) (q) ((u1 &&& (3 : Int32))) ((u2 &&& (3 : Int32))) ((0 : Int32)) ((2 : Int32)) (b1) (a1) ((4 : Int32)) h1 n0 (Nat.le_trans Z0 K0.1) B0 (own_and3 u1) (own_and3 u2) (by decide) ho (by decide) (by decide) (by decide)) (by decide) (by decide) (by decide) (by decide) ?_
    intro v T' L X' q'
    obtain ⟨rfl, N', K', f'⟩ := q'
    exact ⟨(3 : Int32), rfl, own_g8_4_0_3 u1 u2 u3 q b1 a1 X' H rfl (Fr.app N0 N') (K0.trans K' (allS (Or.inr sq) all0)) f' sq sb1 sa1⟩
set_option maxRecDepth 65536 in
set_option maxHeartbeats 40000000 in
theorem own_g7_4_0_3 {p : Program} {l : Launch} {e : Env} {s : State} {m : MethodId} {args : Array Value} {below : List Frame} {meth : Method} {c : Code} {T0 : State} {locs : List Loc} {Z : State} {a0 : Array Value} {h0 h1 : Heap} {n0 : Nat} (u1 u2 u3 : Int32) (q b1 a1 : Addr) (X0 : Stand p l e room_1 s m args below meth c T0 locs 7 50) (H : own_Cx p s m meth c Z a0 n0 h0) (e0 : T0.heap = h1) (N0 : Fr n0 locs) (K0 : Keep h0 h1 []) (B0 : own_Q1 Z h1 q n0 (u1 &&& (3 : Int32)) (u2 &&& (3 : Int32)) (0 : Int32) (3 : Int32) b1 a1 (4 : Int32)) (sq : h0.size ≤ q) (sb1 : h0.size ≤ b1) (sa1 : h0.size ≤ a1) : own_Goes p e below s 32 320 (Q_own_law Z u1 u2 u3 h0 n0) T0 (mkF m 102 #[iv u1, iv u2, iv u3, rv q, iv (3 : Int32)] []) := by
  obtain ⟨hx, hZ, hw, hby, hml, hown, hnm, hlk, hret, Z0⟩ := id H
  by_cases ho : (((u3).toUInt32 >>> ((7 : Int32) &&& 31).toUInt32).toInt32 &&& (1 : Int32)) = (0 : Int32)
  · refine own_lv7 u1 u2 u3 q (3 : Int32) X0 H e0 (own_sR1n l Z a0 hw [] ((3 : Int32)) (((u3).toUInt32 >>> ((7 : Int32) &&& 31).toUInt32).toInt32) (q) ((u1 &&& (3 : Int32))) ((u2 &&& (3 : Int32))) ((0 : Int32)) ((3 : Int32)) (b1) (a1) ((4 : Int32)) h1 n0 (Nat.le_trans Z0 K0.1) B0 (own_and3 u1) (own_and3 u2) (by decide) ho (by decide) (by decide) (by decide) (by decide) (by decide) (by decide) (by decide) (by decide)) (by decide) (by decide) (by decide) (by decide) ?_
    intro v T' L X' q'
    obtain ⟨rfl, N', K', f'⟩ := q'
    exact ⟨(2 : Int32), rfl, own_g8_4_1_3 u1 u2 u3 q b1 a1 X' H rfl (Fr.app N0 N') (K0.trans K' (allS (Or.inr sq) (allS (Or.inr sa1) all0))) f' sq sb1 sa1⟩
  · refine own_lv7 u1 u2 u3 q (3 : Int32) X0 H e0 (own_sA1n l Z a0 hw [] ((3 : Int32)) (((u3).toUInt32 >>> ((7 : Int32) &&& 31).toUInt32).toInt32) (q) ((u1 &&& (3 : Int32))) ((u2 &&& (3 : Int32))) ((0 : Int32)) ((3 : Int32)) (b1) (a1) ((4 : Int32)) h1 n0 (Nat.le_trans Z0 K0.1) B0 (own_and3 u1) (own_and3 u2) (by decide) ho (by decide) (by decide) (by decide)) (by decide) (by decide) (by decide) (by decide) ?_
    intro v T' L X' q'
    obtain ⟨rfl, N', K', f'⟩ := q'
    exact ⟨(4 : Int32), rfl, own_g8_4_0_4 u1 u2 u3 q b1 a1 X' H rfl (Fr.app N0 N') (K0.trans K' (allS (Or.inr sq) all0)) f' sq sb1 sa1⟩
set_option maxRecDepth 65536 in
set_option maxHeartbeats 40000000 in
theorem own_g7_4_1_2 {p : Program} {l : Launch} {e : Env} {s : State} {m : MethodId} {args : Array Value} {below : List Frame} {meth : Method} {c : Code} {T0 : State} {locs : List Loc} {Z : State} {a0 : Array Value} {h0 h1 : Heap} {n0 : Nat} (u1 u2 u3 : Int32) (q b1 a1 : Addr) (X0 : Stand p l e room_1 s m args below meth c T0 locs 7 50) (H : own_Cx p s m meth c Z a0 n0 h0) (e0 : T0.heap = h1) (N0 : Fr n0 locs) (K0 : Keep h0 h1 []) (B0 : own_Q1 Z h1 q n0 (u1 &&& (3 : Int32)) (u2 &&& (3 : Int32)) (1 : Int32) (2 : Int32) b1 a1 (4 : Int32)) (sq : h0.size ≤ q) (sb1 : h0.size ≤ b1) (sa1 : h0.size ≤ a1) : own_Goes p e below s 32 320 (Q_own_law Z u1 u2 u3 h0 n0) T0 (mkF m 102 #[iv u1, iv u2, iv u3, rv q, iv (1 : Int32)] []) := by
  obtain ⟨hx, hZ, hw, hby, hml, hown, hnm, hlk, hret, Z0⟩ := id H
  by_cases ho : (((u3).toUInt32 >>> ((7 : Int32) &&& 31).toUInt32).toInt32 &&& (1 : Int32)) = (0 : Int32)
  · refine own_lv7 u1 u2 u3 q (1 : Int32) X0 H e0 (own_sR1e l Z a0 hw [] ((1 : Int32)) (((u3).toUInt32 >>> ((7 : Int32) &&& 31).toUInt32).toInt32) (q) ((u1 &&& (3 : Int32))) ((u2 &&& (3 : Int32))) ((1 : Int32)) ((2 : Int32)) (b1) (a1) ((4 : Int32)) h1 n0 (Nat.le_trans Z0 K0.1) B0 (own_and3 u1) (own_and3 u2) (by decide) ho (by decide) (by decide) (by decide) (by decide) (by decide) (by decide) (by decide)) (by decide) (by decide) (by decide) (by decide) ?_
    intro v T' L X' q'
    obtain ⟨rfl, N', K', f'⟩ := q'
    exact ⟨(0 : Int32), rfl, own_g8_4_0_0 u1 u2 u3 q b1 a1 X' H rfl (Fr.app N0 N') (K0.trans K' (allS (Or.inr sq) (allS (Or.inr sa1) all0))) f' sq sb1 sa1⟩
  · refine own_lv7 u1 u2 u3 q (1 : Int32) X0 H e0 (own_sA1n l Z a0 hw [] ((1 : Int32)) (((u3).toUInt32 >>> ((7 : Int32) &&& 31).toUInt32).toInt32) (q) ((u1 &&& (3 : Int32))) ((u2 &&& (3 : Int32))) ((1 : Int32)) ((2 : Int32)) (b1) (a1) ((4 : Int32)) h1 n0 (Nat.le_trans Z0 K0.1) B0 (own_and3 u1) (own_and3 u2) (by decide) ho (by decide) (by decide) (by decide)) (by decide) (by decide) (by decide) (by decide) ?_
    intro v T' L X' q'
    obtain ⟨rfl, N', K', f'⟩ := q'
    exact ⟨(2 : Int32), rfl, own_g8_4_1_3 u1 u2 u3 q b1 a1 X' H rfl (Fr.app N0 N') (K0.trans K' (allS (Or.inr sq) all0)) f' sq sb1 sa1⟩
set_option maxRecDepth 65536 in
set_option maxHeartbeats 40000000 in
theorem own_g6_e_0_0 {p : Program} {l : Launch} {e : Env} {s : State} {m : MethodId} {args : Array Value} {below : List Frame} {meth : Method} {c : Code} {T0 : State} {locs : List Loc} {Z : State} {a0 : Array Value} {h0 h1 : Heap} {n0 : Nat} (u1 u2 u3 : Int32) (q : Addr) (X0 : Stand p l e room_1 s m args below meth c T0 locs 1 6) (H : own_Cx p s m meth c Z a0 n0 h0) (e0 : T0.heap = h1) (N0 : Fr n0 locs) (K0 : Keep h0 h1 []) (B0 : own_Q0 Z h1 q n0 (u1 &&& (3 : Int32)) (u2 &&& (3 : Int32))) (sq : h0.size ≤ q) : own_Goes p e below s 32 320 (Q_own_law Z u1 u2 u3 h0 n0) T0 (mkF m 90 #[iv u1, iv u2, iv u3, rv q, iv (0 : Int32)] []) := by
  obtain ⟨hx, hZ, hw, hby, hml, hown, hnm, hlk, hret, Z0⟩ := id H
  by_cases ho : (((u3).toUInt32 >>> ((6 : Int32) &&& 31).toUInt32).toInt32 &&& (1 : Int32)) = (0 : Int32)
  · refine own_lv6 u1 u2 u3 q (0 : Int32) X0 H e0 (own_sR0 l Z a0 hw [] ((0 : Int32)) (((u3).toUInt32 >>> ((6 : Int32) &&& 31).toUInt32).toInt32) (q) ((u1 &&& (3 : Int32))) ((u2 &&& (3 : Int32))) h1 n0 (Nat.le_trans Z0 K0.1) B0 (own_and3 u1) (own_and3 u2) (by decide) ho (by decide) (by decide)) (by decide) (by decide) (by decide) (by decide) ?_
    intro v T' L X' q'
    obtain ⟨rfl, N', e'⟩ := q'
    exact ⟨(0 : Int32), rfl, own_g7_e_0_0 u1 u2 u3 q  X' H e' (Fr.app N0 N') K0 B0 sq ⟩
  · refine own_lv6 u1 u2 u3 q (0 : Int32) X0 H e0 (own_sA0 l Z a0 hw [] ((0 : Int32)) (((u3).toUInt32 >>> ((6 : Int32) &&& 31).toUInt32).toInt32) (q) ((u1 &&& (3 : Int32))) ((u2 &&& (3 : Int32))) h1 n0 (Nat.le_trans Z0 K0.1) B0 (own_and3 u1) (own_and3 u2) (by decide) ho (by decide)) (by decide) (by decide) (by decide) (by decide) ?_
    intro v T' L X' q'
    obtain ⟨nb1, na1, rfl, N', K', f', t0, t1⟩ := q'
    exact ⟨(1 : Int32), rfl, own_g7_2_0_1 u1 u2 u3 q nb1 na1 X' H rfl (Fr.app N0 N') (K0.trans K' (allS (Or.inr sq) all0)) f' sq (Nat.le_trans K0.1 t0) (Nat.le_trans K0.1 t1)⟩
set_option maxRecDepth 65536 in
set_option maxHeartbeats 40000000 in
theorem own_g6_2_0_0 {p : Program} {l : Launch} {e : Env} {s : State} {m : MethodId} {args : Array Value} {below : List Frame} {meth : Method} {c : Code} {T0 : State} {locs : List Loc} {Z : State} {a0 : Array Value} {h0 h1 : Heap} {n0 : Nat} (u1 u2 u3 : Int32) (q b1 a1 : Addr) (X0 : Stand p l e room_1 s m args below meth c T0 locs 4 22) (H : own_Cx p s m meth c Z a0 n0 h0) (e0 : T0.heap = h1) (N0 : Fr n0 locs) (K0 : Keep h0 h1 []) (B0 : own_Q1 Z h1 q n0 (u1 &&& (3 : Int32)) (u2 &&& (3 : Int32)) (0 : Int32) (0 : Int32) b1 a1 (2 : Int32)) (sq : h0.size ≤ q) (sb1 : h0.size ≤ b1) (sa1 : h0.size ≤ a1) : own_Goes p e below s 32 320 (Q_own_law Z u1 u2 u3 h0 n0) T0 (mkF m 90 #[iv u1, iv u2, iv u3, rv q, iv (0 : Int32)] []) := by
  obtain ⟨hx, hZ, hw, hby, hml, hown, hnm, hlk, hret, Z0⟩ := id H
  by_cases ho : (((u3).toUInt32 >>> ((6 : Int32) &&& 31).toUInt32).toInt32 &&& (1 : Int32)) = (0 : Int32)
  · refine own_lv6 u1 u2 u3 q (0 : Int32) X0 H e0 (own_sR1z l Z a0 hw [] ((0 : Int32)) (((u3).toUInt32 >>> ((6 : Int32) &&& 31).toUInt32).toInt32) (q) ((u1 &&& (3 : Int32))) ((u2 &&& (3 : Int32))) ((0 : Int32)) ((0 : Int32)) (b1) (a1) ((2 : Int32)) h1 n0 (Nat.le_trans Z0 K0.1) B0 (own_and3 u1) (own_and3 u2) (by decide) ho (by decide) (by decide) (by decide)) (by decide) (by decide) (by decide) (by decide) ?_
    intro v T' L X' q'
    obtain ⟨rfl, N', e'⟩ := q'
    exact ⟨(0 : Int32), rfl, own_g7_2_0_0 u1 u2 u3 q b1 a1 X' H e' (Fr.app N0 N') K0 B0 sq sb1 sa1⟩
  · refine own_lv6 u1 u2 u3 q (0 : Int32) X0 H e0 (own_sA1n l Z a0 hw [] ((0 : Int32)) (((u3).toUInt32 >>> ((6 : Int32) &&& 31).toUInt32).toInt32) (q) ((u1 &&& (3 : Int32))) ((u2 &&& (3 : Int32))) ((0 : Int32)) ((0 : Int32)) (b1) (a1) ((2 : Int32)) h1 n0 (Nat.le_trans Z0 K0.1) B0 (own_and3 u1) (own_and3 u2) (by decide) ho (by decide) (by decide) (by decide)) (by decide) (by decide) (by decide) (by decide) ?_
    intro v T' L X' q'
    obtain ⟨rfl, N', K', f'⟩ := q'
    exact ⟨(1 : Int32), rfl, own_g7_2_0_1 u1 u2 u3 q b1 a1 X' H rfl (Fr.app N0 N') (K0.trans K' (allS (Or.inr sq) all0)) f' sq sb1 sa1⟩
set_option maxRecDepth 65536 in
set_option maxHeartbeats 40000000 in
theorem own_g6_2_0_1 {p : Program} {l : Launch} {e : Env} {s : State} {m : MethodId} {args : Array Value} {below : List Frame} {meth : Method} {c : Code} {T0 : State} {locs : List Loc} {Z : State} {a0 : Array Value} {h0 h1 : Heap} {n0 : Nat} (u1 u2 u3 : Int32) (q b1 a1 : Addr) (X0 : Stand p l e room_1 s m args below meth c T0 locs 4 22) (H : own_Cx p s m meth c Z a0 n0 h0) (e0 : T0.heap = h1) (N0 : Fr n0 locs) (K0 : Keep h0 h1 []) (B0 : own_Q1 Z h1 q n0 (u1 &&& (3 : Int32)) (u2 &&& (3 : Int32)) (0 : Int32) (1 : Int32) b1 a1 (2 : Int32)) (sq : h0.size ≤ q) (sb1 : h0.size ≤ b1) (sa1 : h0.size ≤ a1) : own_Goes p e below s 32 320 (Q_own_law Z u1 u2 u3 h0 n0) T0 (mkF m 90 #[iv u1, iv u2, iv u3, rv q, iv (1 : Int32)] []) := by
  obtain ⟨hx, hZ, hw, hby, hml, hown, hnm, hlk, hret, Z0⟩ := id H
  by_cases ho : (((u3).toUInt32 >>> ((6 : Int32) &&& 31).toUInt32).toInt32 &&& (1 : Int32)) = (0 : Int32)
  · refine own_lv6 u1 u2 u3 q (1 : Int32) X0 H e0 (own_sR1e l Z a0 hw [] ((1 : Int32)) (((u3).toUInt32 >>> ((6 : Int32) &&& 31).toUInt32).toInt32) (q) ((u1 &&& (3 : Int32))) ((u2 &&& (3 : Int32))) ((0 : Int32)) ((1 : Int32)) (b1) (a1) ((2 : Int32)) h1 n0 (Nat.le_trans Z0 K0.1) B0 (own_and3 u1) (own_and3 u2) (by decide) ho (by decide) (by decide) (by decide) (by decide) (by decide) (by decide) (by decide)) (by decide) (by decide) (by decide) (by decide) ?_
    intro v T' L X' q'
    obtain ⟨rfl, N', K', f'⟩ := q'
    exact ⟨(0 : Int32), rfl, own_g7_2_0_0 u1 u2 u3 q b1 a1 X' H rfl (Fr.app N0 N') (K0.trans K' (allS (Or.inr sq) (allS (Or.inr sa1) all0))) f' sq sb1 sa1⟩
  · refine own_lv6 u1 u2 u3 q (1 : Int32) X0 H e0 (own_sA1n l Z a0 hw [] ((1 : Int32)) (((u3).toUInt32 >>> ((6 : Int32) &&& 31).toUInt32).toInt32) (q) ((u1 &&& (3 : Int32))) ((u2 &&& (3 : Int32))) ((0 : Int32)) ((1 : Int32)) (b1) (a1) ((2 : Int32)) h1 n0 (Nat.le_trans Z0 K0.1) B0 (own_and3 u1) (own_and3 u2) (by decide) ho (by decide) (by decide) (by decide)) (by decide) (by decide) (by decide) (by decide) ?_
    intro v T' L X' q'
    obtain ⟨rfl, N', K', f'⟩ := q'
    exact ⟨(2 : Int32), rfl, own_g7_2_0_2 u1 u2 u3 q b1 a1 X' H rfl (Fr.app N0 N') (K0.trans K' (allS (Or.inr sq) all0)) f' sq sb1 sa1⟩
set_option maxRecDepth 65536 in
set_option maxHeartbeats 40000000 in
theorem own_g6_2_0_2 {p : Program} {l : Launch} {e : Env} {s : State} {m : MethodId} {args : Array Value} {below : List Frame} {meth : Method} {c : Code} {T0 : State} {locs : List Loc} {Z : State} {a0 : Array Value} {h0 h1 : Heap} {n0 : Nat} (u1 u2 u3 : Int32) (q b1 a1 : Addr) (X0 : Stand p l e room_1 s m args below meth c T0 locs 4 22) (H : own_Cx p s m meth c Z a0 n0 h0) (e0 : T0.heap = h1) (N0 : Fr n0 locs) (K0 : Keep h0 h1 []) (B0 : own_Q1 Z h1 q n0 (u1 &&& (3 : Int32)) (u2 &&& (3 : Int32)) (0 : Int32) (2 : Int32) b1 a1 (2 : Int32)) (sq : h0.size ≤ q) (sb1 : h0.size ≤ b1) (sa1 : h0.size ≤ a1) : own_Goes p e below s 32 320 (Q_own_law Z u1 u2 u3 h0 n0) T0 (mkF m 90 #[iv u1, iv u2, iv u3, rv q, iv (2 : Int32)] []) := by
  obtain ⟨hx, hZ, hw, hby, hml, hown, hnm, hlk, hret, Z0⟩ := id H
  by_cases ho : (((u3).toUInt32 >>> ((6 : Int32) &&& 31).toUInt32).toInt32 &&& (1 : Int32)) = (0 : Int32)
  · refine own_lv6 u1 u2 u3 q (2 : Int32) X0 H e0 (own_sR1n l Z a0 hw [] ((2 : Int32)) (((u3).toUInt32 >>> ((6 : Int32) &&& 31).toUInt32).toInt32) (q) ((u1 &&& (3 : Int32))) ((u2 &&& (3 : Int32))) ((0 : Int32)) ((2 : Int32)) (b1) (a1) ((2 : Int32)) h1 n0 (Nat.le_trans Z0 K0.1) B0 (own_and3 u1) (own_and3 u2) (by decide) ho (by decide) (by decide) (by decide) (by decide) (by decide) (by decide) (by decide) (by decide)) (by decide) (by decide) (by decide) (by decide) ?_
    intro v T' L X' q'
    obtain ⟨rfl, N', K', f'⟩ := q'
    exact ⟨(1 : Int32), rfl, own_g7_2_1_2 u1 u2 u3 q b1 a1 X' H rfl (Fr.app N0 N') (K0.trans K' (allS (Or.inr sq) (allS (Or.inr sa1) all0))) f' sq sb1 sa1⟩
  · refine own_lv6 u1 u2 u3 q (2 : Int32) X0 H e0 (own_sA1a2 l Z a0 hw [] ((2 : Int32)) (((u3).toUInt32 >>> ((6 : Int32) &&& 31).toUInt32).toInt32) (q) ((u1 &&& (3 : Int32))) ((u2 &&& (3 : Int32))) ((0 : Int32)) (b1) (a1) h1 n0 (Nat.le_trans Z0 K0.1) B0 (own_and3 u1) (own_and3 u2) (by decide) ho (by decide)) (by decide) (by decide) (by decide) (by decide) ?_
    intro v T' L X' q'
    obtain ⟨nb2, na2, rfl, N', K', f', t0, t1⟩ := q'
    exact ⟨(3 : Int32), rfl, own_g7_24_0_1 u1 u2 u3 q b1 a1 nb2 na2 X' H rfl (Fr.app N0 N') (K0.trans K' (allS (Or.inr sq) (allS (Or.inr sb1) all0))) f' sq sb1 sa1 (Nat.le_trans K0.1 t0) (Nat.le_trans K0.1 t1)⟩
set_option maxRecDepth 65536 in
set_option maxHeartbeats 40000000 in
theorem own_g6_2_1_2 {p : Program} {l : Launch} {e : Env} {s : State} {m : MethodId} {args : Array Value} {below : List Frame} {meth : Method} {c : Code} {T0 : State} {locs : List Loc} {Z : State} {a0 : Array Value} {h0 h1 : Heap} {n0 : Nat} (u1 u2 u3 : Int32) (q b1 a1 : Addr) (X0 : Stand p l e room_1 s m args below meth c T0 locs 4 22) (H : own_Cx p s m meth c Z a0 n0 h0) (e0 : T0.heap = h1) (N0 : Fr n0 locs) (K0 : Keep h0 h1 []) (B0 : own_Q1 Z h1 q n0 (u1 &&& (3 : Int32)) (u2 &&& (3 : Int32)) (1 : Int32) (2 : Int32) b1 a1 (2 : Int32)) (sq : h0.size ≤ q) (sb1 : h0.size ≤ b1) (sa1 : h0.size ≤ a1) : own_Goes p e below s 32 320 (Q_own_law Z u1 u2 u3 h0 n0) T0 (mkF m 90 #[iv u1, iv u2, iv u3, rv q, iv (1 : Int32)] []) := by
  obtain ⟨hx, hZ, hw, hby, hml, hown, hnm, hlk, hret, Z0⟩ := id H
  by_cases ho : (((u3).toUInt32 >>> ((6 : Int32) &&& 31).toUInt32).toInt32 &&& (1 : Int32)) = (0 : Int32)
  · refine own_lv6 u1 u2 u3 q (1 : Int32) X0 H e0 (own_sR1e l Z a0 hw [] ((1 : Int32)) (((u3).toUInt32 >>> ((6 : Int32) &&& 31).toUInt32).toInt32) (q) ((u1 &&& (3 : Int32))) ((u2 &&& (3 : Int32))) ((1 : Int32)) ((2 : Int32)) (b1) (a1) ((2 : Int32)) h1 n0 (Nat.le_trans Z0 K0.1) B0 (own_and3 u1) (own_and3 u2) (by decide) ho (by decide) (by decide) (by decide) (by decide) (by decide) (by decide) (by decide)) (by decide) (by decide) (by decide) (by decide) ?_
    intro v T' L X' q'
    obtain ⟨rfl, N', K', f'⟩ := q'
    exact ⟨(0 : Int32), rfl, own_g7_2_0_0 u1 u2 u3 q b1 a1 X' H rfl (Fr.app N0 N') (K0.trans K' (allS (Or.inr sq) (allS (Or.inr sa1) all0))) f' sq sb1 sa1⟩
  · refine own_lv6 u1 u2 u3 q (1 : Int32) X0 H e0 (own_sA1a2 l Z a0 hw [] ((1 : Int32)) (((u3).toUInt32 >>> ((6 : Int32) &&& 31).toUInt32).toInt32) (q) ((u1 &&& (3 : Int32))) ((u2 &&& (3 : Int32))) ((1 : Int32)) (b1) (a1) h1 n0 (Nat.le_trans Z0 K0.1) B0 (own_and3 u1) (own_and3 u2) (by decide) ho (by decide)) (by decide) (by decide) (by decide) (by decide) ?_
    intro v T' L X' q'
    obtain ⟨nb2, na2, rfl, N', K', f', t0, t1⟩ := q'
    exact ⟨(2 : Int32), rfl, own_g7_24_1_1 u1 u2 u3 q b1 a1 nb2 na2 X' H rfl (Fr.app N0 N') (K0.trans K' (allS (Or.inr sq) (allS (Or.inr sb1) all0))) f' sq sb1 sa1 (Nat.le_trans K0.1 t0) (Nat.le_trans K0.1 t1)⟩
set_option maxRecDepth 65536 in
set_option maxHeartbeats 40000000 in
theorem own_g6_24_0_1 {p : Program} {l : Launch} {e : Env} {s : State} {m : MethodId} {args : Array Value} {below : List Frame} {meth : Method} {c : Code} {T0 : State} {locs : List Loc} {Z : State} {a0 : Array Value} {h0 h1 : Heap} {n0 : Nat} (u1 u2 u3 : Int32) (q b1 a1 b2 a2 : Addr) (X0 : Stand p l e room_1 s m args below meth c T0 locs 7 50) (H : own_Cx p s m meth c Z a0 n0 h0) (e0 : T0.heap = h1) (N0 : Fr n0 locs) (K0 : Keep h0 h1 []) (B0 : own_Q2 Z h1 q n0 (u1 &&& (3 : Int32)) (u2 &&& (3 : Int32)) (0 : Int32) (1 : Int32) b1 a1 (2 : Int32) b2 a2 (4 : Int32)) (sq : h0.size ≤ q) (sb1 : h0.size ≤ b1) (sa1 : h0.size ≤ a1) (sb2 : h0.size ≤ b2) (sa2 : h0.size ≤ a2) : own_Goes p e below s 32 320 (Q_own_law Z u1 u2 u3 h0 n0) T0 (mkF m 90 #[iv u1, iv u2, iv u3, rv q, iv (3 : Int32)] []) := by
  obtain ⟨hx, hZ, hw, hby, hml, hown, hnm, hlk, hret, Z0⟩ := id H
  by_cases ho : (((u3).toUInt32 >>> ((6 : Int32) &&& 31).toUInt32).toInt32 &&& (1 : Int32)) = (0 : Int32)
  · refine own_lv6 u1 u2 u3 q (3 : Int32) X0 H e0 (own_sR2n l Z a0 hw [] ((3 : Int32)) (((u3).toUInt32 >>> ((6 : Int32) &&& 31).toUInt32).toInt32) (q) ((u1 &&& (3 : Int32))) ((u2 &&& (3 : Int32))) ((0 : Int32)) ((1 : Int32)) (b1) (a1) ((2 : Int32)) (b2) (a2) ((4 : Int32)) h1 n0 (Nat.le_trans Z0 K0.1) B0 (own_and3 u1) (own_and3 u2) (by decide) ho (by decide) (by decide) (by decide) (by decide) (by decide) (by decide)) (by decide) (by decide) (by decide) (by decide) ?_
    intro v T' L X' q'
    obtain ⟨rfl, N', K', f'⟩ := q'
    exact ⟨(2 : Int32), rfl, own_g7_24_1_1 u1 u2 u3 q b1 a1 b2 a2 X' H rfl (Fr.app N0 N') (K0.trans K' (allS (Or.inr sq) (allS (Or.inr sa1) all0))) f' sq sb1 sa1 sb2 sa2⟩
  · refine own_lv6 u1 u2 u3 q (3 : Int32) X0 H e0 (own_sA2n l Z a0 hw [] ((3 : Int32)) (((u3).toUInt32 >>> ((6 : Int32) &&& 31).toUInt32).toInt32) (q) ((u1 &&& (3 : Int32))) ((u2 &&& (3 : Int32))) ((0 : Int32)) ((1 : Int32)) (b1) (a1) ((2 : Int32)) (b2) (a2) ((4 : Int32)) h1 n0 (Nat.le_trans Z0 K0.1) B0 (own_and3 u1) (own_and3 u2) (by decide) ho (by decide) (by decide)) (by decide) (by decide) (by decide) (by decide) ?_
    intro v T' L X' q'
    obtain ⟨rfl, N', K', f'⟩ := q'
    exact ⟨(4 : Int32), rfl, own_g7_24_0_2 u1 u2 u3 q b1 a1 b2 a2 X' H rfl (Fr.app N0 N') (K0.trans K' (allS (Or.inr sq) all0)) f' sq sb1 sa1 sb2 sa2⟩
set_option maxRecDepth 65536 in
set_option maxHeartbeats 40000000 in
theorem own_g6_24_0_2 {p : Program} {l : Launch} {e : Env} {s : State} {m : MethodId} {args : Array Value} {below : List Frame} {meth : Method} {c : Code} {T0 : State} {locs : List Loc} {Z : State} {a0 : Array Value} {h0 h1 : Heap} {n0 : Nat} (u1 u2 u3 : Int32) (q b1 a1 b2 a2 : Addr) (X0 : Stand p l e room_1 s m args below meth c T0 locs 7 50) (H : own_Cx p s m meth c Z a0 n0 h0) (e0 : T0.heap = h1) (N0 : Fr n0 locs) (K0 : Keep h0 h1 []) (B0 : own_Q2 Z h1 q n0 (u1 &&& (3 : Int32)) (u2 &&& (3 : Int32)) (0 : Int32) (2 : Int32) b1 a1 (2 : Int32) b2 a2 (4 : Int32)) (sq : h0.size ≤ q) (sb1 : h0.size ≤ b1) (sa1 : h0.size ≤ a1) (sb2 : h0.size ≤ b2) (sa2 : h0.size ≤ a2) : own_Goes p e below s 32 320 (Q_own_law Z u1 u2 u3 h0 n0) T0 (mkF m 90 #[iv u1, iv u2, iv u3, rv q, iv (4 : Int32)] []) := by
  obtain ⟨hx, hZ, hw, hby, hml, hown, hnm, hlk, hret, Z0⟩ := id H
  by_cases ho : (((u3).toUInt32 >>> ((6 : Int32) &&& 31).toUInt32).toInt32 &&& (1 : Int32)) = (0 : Int32)
  · refine own_lv6 u1 u2 u3 q (4 : Int32) X0 H e0 (own_sR2n l Z a0 hw [] ((4 : Int32)) (((u3).toUInt32 >>> ((6 : Int32) &&& 31).toUInt32).toInt32) (q) ((u1 &&& (3 : Int32))) ((u2 &&& (3 : Int32))) ((0 : Int32)) ((2 : Int32)) (b1) (a1) ((2 : Int32)) (b2) (a2) ((4 : Int32)) h1 n0 (Nat.le_trans Z0 K0.1) B0 (own_and3 u1) (own_and3 u2) (by decide) ho (by decide) (by decide) (by decide) (by decide) (by decide) (by decide)) (by decide) (by decide) (by decide) (by decide) ?_
    intro v T' L X' q'
    obtain ⟨rfl, N', K', f'⟩ := q'
    exact ⟨(3 : Int32), rfl, own_g7_24_1_2 u1 u2 u3 q b1 a1 b2 a2 X' H rfl (Fr.app N0 N') (K0.trans K' (allS (Or.inr sq) (allS (Or.inr sa1) all0))) f' sq sb1 sa1 sb2 sa2⟩
  · refine own_lv6 u1 u2 u3 q (4 : Int32) X0 H e0 (own_sA2n l Z a0 hw [] ((4 : Int32)) (((u3).toUInt32 >>> ((6 : Int32) &&& 31).toUInt32).toInt32) (q) ((u1 &&& (3 : Int32))) ((u2 &&& (3 : Int32))) ((0 : Int32)) ((2 : Int32)) (b1) (a1) ((2 : Int32)) (b2) (a2) ((4 : Int32)) h1 n0 (Nat.le_trans Z0 K0.1) B0 (own_and3 u1) (own_and3 u2) (by decide) ho (by decide) (by decide)) (by decide) (by decide) (by decide) (by decide) ?_
    intro v T' L X' q'
    obtain ⟨rfl, N', K', f'⟩ := q'
    exact ⟨(5 : Int32), rfl, own_g7_24_0_3 u1 u2 u3 q b1 a1 b2 a2 X' H rfl (Fr.app N0 N') (K0.trans K' (allS (Or.inr sq) all0)) f' sq sb1 sa1 sb2 sa2⟩
set_option maxRecDepth 65536 in
set_option maxHeartbeats 40000000 in
theorem own_g6_24_0_3 {p : Program} {l : Launch} {e : Env} {s : State} {m : MethodId} {args : Array Value} {below : List Frame} {meth : Method} {c : Code} {T0 : State} {locs : List Loc} {Z : State} {a0 : Array Value} {h0 h1 : Heap} {n0 : Nat} (u1 u2 u3 : Int32) (q b1 a1 b2 a2 : Addr) (X0 : Stand p l e room_1 s m args below meth c T0 locs 7 50) (H : own_Cx p s m meth c Z a0 n0 h0) (e0 : T0.heap = h1) (N0 : Fr n0 locs) (K0 : Keep h0 h1 []) (B0 : own_Q2 Z h1 q n0 (u1 &&& (3 : Int32)) (u2 &&& (3 : Int32)) (0 : Int32) (3 : Int32) b1 a1 (2 : Int32) b2 a2 (4 : Int32)) (sq : h0.size ≤ q) (sb1 : h0.size ≤ b1) (sa1 : h0.size ≤ a1) (sb2 : h0.size ≤ b2) (sa2 : h0.size ≤ a2) : own_Goes p e below s 32 320 (Q_own_law Z u1 u2 u3 h0 n0) T0 (mkF m 90 #[iv u1, iv u2, iv u3, rv q, iv (5 : Int32)] []) := by
  obtain ⟨hx, hZ, hw, hby, hml, hown, hnm, hlk, hret, Z0⟩ := id H
  by_cases ho : (((u3).toUInt32 >>> ((6 : Int32) &&& 31).toUInt32).toInt32 &&& (1 : Int32)) = (0 : Int32)
  · refine own_lv6 u1 u2 u3 q (5 : Int32) X0 H e0 (own_sR2n l Z a0 hw [] ((5 : Int32)) (((u3).toUInt32 >>> ((6 : Int32) &&& 31).toUInt32).toInt32) (q) ((u1 &&& (3 : Int32))) ((u2 &&& (3 : Int32))) ((0 : Int32)) ((3 : Int32)) (b1) (a1) ((2 : Int32)) (b2) (a2) ((4 : Int32)) h1 n0 (Nat.le_trans Z0 K0.1) B0 (own_and3 u1) (own_and3 u2) (by decide) ho (by decide) (by decide) (by decide) (by decide) (by decide) (by decide)) (by decide) (by decide) (by decide) (by decide) ?_
    intro v T' L X' q'
    obtain ⟨rfl, N', K', f'⟩ := q'
    exact ⟨(4 : Int32), rfl, own_g7_24_1_3 u1 u2 u3 q b1 a1 b2 a2 X' H rfl (Fr.app N0 N') (K0.trans K' (allS (Or.inr sq) (allS (Or.inr sa1) all0))) f' sq sb1 sa1 sb2 sa2⟩
  · refine own_lv6 u1 u2 u3 q (5 : Int32) X0 H e0 (own_sA2n l Z a0 hw [] ((5 : Int32)) (((u3).toUInt32 >>> ((6 : Int32) &&& 31).toUInt32).toInt32) (q) ((u1 &&& (3 : Int32))) ((u2 &&& (3 : Int32))) ((0 : Int32)) ((3 : Int32)) (b1) (a1) ((2 : Int32)) (b2) (a2) ((4 : Int32)) h1 n0 (Nat.le_trans Z0 K0.1) B0 (own_and3 u1) (own_and3 u2) (by decide) ho (by decide) (by decide)) (by decide) (by decide) (by decide) (by decide) ?_
    intro v T' L X' q'
    obtain ⟨rfl, N', K', f'⟩ := q'
    exact ⟨(6 : Int32), rfl, own_g7_24_0_4 u1 u2 u3 q b1 a1 b2 a2 X' H rfl (Fr.app N0 N') (K0.trans K' (allS (Or.inr sq) all0)) f' sq sb1 sa1 sb2 sa2⟩
set_option maxRecDepth 65536 in
set_option maxHeartbeats 40000000 in
theorem own_g6_24_0_4 {p : Program} {l : Launch} {e : Env} {s : State} {m : MethodId} {args : Array Value} {below : List Frame} {meth : Method} {c : Code} {T0 : State} {locs : List Loc} {Z : State} {a0 : Array Value} {h0 h1 : Heap} {n0 : Nat} (u1 u2 u3 : Int32) (q b1 a1 b2 a2 : Addr) (X0 : Stand p l e room_1 s m args below meth c T0 locs 7 50) (H : own_Cx p s m meth c Z a0 n0 h0) (e0 : T0.heap = h1) (N0 : Fr n0 locs) (K0 : Keep h0 h1 []) (B0 : own_Q2 Z h1 q n0 (u1 &&& (3 : Int32)) (u2 &&& (3 : Int32)) (0 : Int32) (4 : Int32) b1 a1 (2 : Int32) b2 a2 (4 : Int32)) (sq : h0.size ≤ q) (sb1 : h0.size ≤ b1) (sa1 : h0.size ≤ a1) (sb2 : h0.size ≤ b2) (sa2 : h0.size ≤ a2) : own_Goes p e below s 32 320 (Q_own_law Z u1 u2 u3 h0 n0) T0 (mkF m 90 #[iv u1, iv u2, iv u3, rv q, iv (6 : Int32)] []) := by
  obtain ⟨hx, hZ, hw, hby, hml, hown, hnm, hlk, hret, Z0⟩ := id H
  by_cases ho : (((u3).toUInt32 >>> ((6 : Int32) &&& 31).toUInt32).toInt32 &&& (1 : Int32)) = (0 : Int32)
  · refine own_lv6 u1 u2 u3 q (6 : Int32) X0 H e0 (own_sR2n l Z a0 hw [] ((6 : Int32)) (((u3).toUInt32 >>> ((6 : Int32) &&& 31).toUInt32).toInt32) (q) ((u1 &&& (3 : Int32))) ((u2 &&& (3 : Int32))) ((0 : Int32)) ((4 : Int32)) (b1) (a1) ((2 : Int32)) (b2) (a2) ((4 : Int32)) h1 n0 (Nat.le_trans Z0 K0.1) B0 (own_and3 u1) (own_and3 u2) (by decide) ho (by decide) (by decide) (by decide) (by decide) (by decide) (by decide)) (by decide) (by decide) (by decide) (by decide) ?_
    intro v T' L X' q'
    obtain ⟨rfl, N', K', f'⟩ := q'
    exact ⟨(5 : Int32), rfl, own_g7_24_1_4 u1 u2 u3 q b1 a1 b2 a2 X' H rfl (Fr.app N0 N') (K0.trans K' (allS (Or.inr sq) (allS (Or.inr sa1) all0))) f' sq sb1 sa1 sb2 sa2⟩
  · refine own_lv6 u1 u2 u3 q (6 : Int32) X0 H e0 (own_sA2a l Z a0 hw [] ((6 : Int32)) (((u3).toUInt32 >>> ((6 : Int32) &&& 31).toUInt32).toInt32) (q) ((u1 &&& (3 : Int32))) ((u2 &&& (3 : Int32))) ((0 : Int32)) (b1) (a1) (b2) (a2) h1 n0 (Nat.le_trans Z0 K0.1) B0 (own_and3 u1) (own_and3 u2) (by decide) ho (by decide)) (by decide) (by decide) (by decide) (by decide) ?_
    intro v T' L X' q'
    obtain ⟨nb3, na3, rfl, N', K', f', t0, t1⟩ := q'
    exact ⟨(7 : Int32), rfl, own_g7_248_0_1 u1 u2 u3 q b1 a1 b2 a2 nb3 na3 X' H rfl (Fr.app N0 N') (K0.trans K' (allS (Or.inr sq) (allS (Or.inr sb2) all0))) f' sq sb1 sa1 sb2 sa2 (Nat.le_trans K0.1 t0) (Nat.le_trans K0.1 t1)⟩
set_option maxRecDepth 65536 in
set_option maxHeartbeats 40000000 in
theorem own_g6_24_1_1 {p : Program} {l : Launch} {e : Env} {s : State} {m : MethodId} {args : Array Value} {below : List Frame} {meth : Method} {c : Code} {T0 : State} {locs : List Loc} {Z : State} {a0 : Array Value} {h0 h1 : Heap} {n0 : Nat} (u1 u2 u3 : Int32) (q b1 a1 b2 a2 : Addr) (X0 : Stand p l e room_1 s m args below meth c T0 locs 7 50) (H : own_Cx p s m meth c Z a0 n0 h0) (e0 : T0.heap = h1) (N0 : Fr n0 locs) (K0 : Keep h0 h1 []) (B0 : own_Q2 Z h1 q n0 (u1 &&& (3 : Int32)) (u2 &&& (3 : Int32)) (1 : Int32) (1 : Int32) b1 a1 (2 : Int32) b2 a2 (4 : Int32)) (sq : h0.size ≤ q) (sb1 : h0.size ≤ b1) (sa1 : h0.size ≤ a1) (sb2 : h0.size ≤ b2) (sa2 : h0.size ≤ a2) : own_Goes p e below s 32 320 (Q_own_law Z u1 u2 u3 h0 n0) T0 (mkF m 90 #[iv u1, iv u2, iv u3, rv q, iv (2 : Int32)] []) := by
  obtain ⟨hx, hZ, hw, hby, hml, hown, hnm, hlk, hret, Z0⟩ := id H
  by_cases ho : (((u3).toUInt32 >>> ((6 : Int32) &&& 31).toUInt32).toInt32 &&& (1 : Int32)) = (0 : Int32)
  · refine own_lv6 u1 u2 u3 q (2 : Int32) X0 H e0 (own_sR2a l Z a0 hw [] ((2 : Int32)) (((u3).toUInt32 >>> ((6 : Int32) &&& 31).toUInt32).toInt32) (q) ((u1 &&& (3 : Int32))) ((u2 &&& (3 : Int32))) ((1 : Int32)) ((1 : Int32)) (b1) (a1) ((2 : Int32)) (b2) (a2) ((4 : Int32)) h1 n0 (Nat.le_trans Z0 K0.1) B0 (own_and3 u1) (own_and3 u2) (by decide) ho (by decide) (by decide) (by decide) (by decide) (by decide) (by decide) (by decide)) (by decide) (by decide) (by decide) (by decide) ?_
    intro v T' L X' q'
    obtain ⟨rfl, N', K', f'⟩ := q'
    exact ⟨(1 : Int32), rfl, own_g7_4_0_1 u1 u2 u3 q b2 a2 X' H rfl (Fr.app N0 N') (K0.trans K' (allS (Or.inr sq) (allS (Or.inr sa1) all0))) f' sq sb2 sa2⟩
  · refine own_lv6 u1 u2 u3 q (2 : Int32) X0 H e0 (own_sA2n l Z a0 hw [] ((2 : Int32)) (((u3).toUInt32 >>> ((6 : Int32) &&& 31).toUInt32).toInt32) (q) ((u1 &&& (3 : Int32))) ((u2 &&& (3 : Int32))) ((1 : Int32)) ((1 : Int32)) (b1) (a1) ((2 : Int32)) (b2) (a2) ((4 : Int32)) h1 n0 (Nat.le_trans Z0 K0.1) B0 (own_and3 u1) (own_and3 u2) (by decide) ho (by decide) (by decide)) (by decide) (by decide) (by decide) (by decide) ?_
    intro v T' L X' q'
    obtain ⟨rfl, N', K', f'⟩ := q'
    exact ⟨(3 : Int32), rfl, own_g7_24_1_2 u1 u2 u3 q b1 a1 b2 a2 X' H rfl (Fr.app N0 N') (K0.trans K' (allS (Or.inr sq) all0)) f' sq sb1 sa1 sb2 sa2⟩
set_option maxRecDepth 65536 in
set_option maxHeartbeats 40000000 in
theorem own_g6_24_1_2 {p : Program} {l : Launch} {e : Env} {s : State} {m : MethodId} {args : Array Value} {below : List Frame} {meth : Method} {c : Code} {T0 : State} {locs : List Loc} {Z : State} {a0 : Array Value} {h0 h1 : Heap} {n0 : Nat} (u1 u2 u3 : Int32) (q b1 a1 b2 a2 : Addr) (X0 : Stand p l e room_1 s m args below meth c T0 locs 7 50) (H : own_Cx p s m meth c Z a0 n0 h0) (e0 : T0.heap = h1) (N0 : Fr n0 locs) (K0 : Keep h0 h1 []) (B0 : own_Q2 Z h1 q n0 (u1 &&& (3 : Int32)) (u2 &&& (3 : Int32)) (1 : Int32) (2 : Int32) b1 a1 (2 : Int32) b2 a2 (4 : Int32)) (sq : h0.size ≤ q) (sb1 : h0.size ≤ b1) (sa1 : h0.size ≤ a1) (sb2 : h0.size ≤ b2) (sa2 : h0.size ≤ a2) : own_Goes p e below s 32 320 (Q_own_law Z u1 u2 u3 h0 n0) T0 (mkF m 90 #[iv u1, iv u2, iv u3, rv q, iv (3 : Int32)] []) := by
  obtain ⟨hx, hZ, hw, hby, hml, hown, hnm, hlk, hret, Z0⟩ := id H
  by_cases ho : (((u3).toUInt32 >>> ((6 : Int32) &&& 31).toUInt32).toInt32 &&& (1 : Int32)) = (0 : Int32)
  · refine own_lv6 u1 u2 u3 q (3 : Int32) X0 H e0 (own_sR2a l Z a0 hw [] ((3 : Int32)) (((u3).toUInt32 >>> ((6 : Int32) &&& 31).toUInt32).toInt32) (q) ((u1 &&& (3 : Int32))) ((u2 &&& (3 : Int32))) ((1 : Int32)) ((2 : Int32)) (b1) (a1) ((2 : Int32)) (b2) (a2) ((4 : Int32)) h1 n0 (Nat.le_trans Z0 K0.1) B0 (own_and3 u1) (own_and3 u2) (by decide) ho (by decide) (by decide) (by decide) (by decide) (by decide) (by decide) (by decide)) (by decide) (by decide) (by decide) (by decide) ?_
    intro v T' L X' q'
    obtain ⟨rfl, N', K', f'⟩ := q'
    exact ⟨(2 : Int32), rfl, own_g7_4_0_2 u1 u2 u3 q b2 a2 X' H rfl (Fr.app N0 N') (K0.trans K' (allS (Or.inr sq) (allS (Or.inr sa1) all0))) f' sq sb2 sa2⟩
  · refine own_lv6 u1 u2 u3 q (3 : Int32) X0 H e0 (own_sA2n l Z a0 hw [] ((3 : Int32)) (((u3).toUInt32 >>> ((6 : Int32) &&& 31).toUInt32).toInt32) (q) ((u1 &&& (3 : Int32))) ((u2 &&& (3 : Int32))) ((1 : Int32)) ((2 : Int32)) (b1) (a1) ((2 : Int32)) (b2) (a2) ((4 : Int32)) h1 n0 (Nat.le_trans Z0 K0.1) B0 (own_and3 u1) (own_and3 u2) (by decide) ho (by decide) (by decide)) (by decide) (by decide) (by decide) (by decide) ?_
    intro v T' L X' q'
    obtain ⟨rfl, N', K', f'⟩ := q'
    exact ⟨(4 : Int32), rfl, own_g7_24_1_3 u1 u2 u3 q b1 a1 b2 a2 X' H rfl (Fr.app N0 N') (K0.trans K' (allS (Or.inr sq) all0)) f' sq sb1 sa1 sb2 sa2⟩
set_option maxRecDepth 65536 in
set_option maxHeartbeats 40000000 in
theorem own_g6_24_1_3 {p : Program} {l : Launch} {e : Env} {s : State} {m : MethodId} {args : Array Value} {below : List Frame} {meth : Method} {c : Code} {T0 : State} {locs : List Loc} {Z : State} {a0 : Array Value} {h0 h1 : Heap} {n0 : Nat} (u1 u2 u3 : Int32) (q b1 a1 b2 a2 : Addr) (X0 : Stand p l e room_1 s m args below meth c T0 locs 7 50) (H : own_Cx p s m meth c Z a0 n0 h0) (e0 : T0.heap = h1) (N0 : Fr n0 locs) (K0 : Keep h0 h1 []) (B0 : own_Q2 Z h1 q n0 (u1 &&& (3 : Int32)) (u2 &&& (3 : Int32)) (1 : Int32) (3 : Int32) b1 a1 (2 : Int32) b2 a2 (4 : Int32)) (sq : h0.size ≤ q) (sb1 : h0.size ≤ b1) (sa1 : h0.size ≤ a1) (sb2 : h0.size ≤ b2) (sa2 : h0.size ≤ a2) : own_Goes p e below s 32 320 (Q_own_law Z u1 u2 u3 h0 n0) T0 (mkF m 90 #[iv u1, iv u2, iv u3, rv q, iv (4 : Int32)] []) := by
  obtain ⟨hx, hZ, hw, hby, hml, hown, hnm, hlk, hret, Z0⟩ := id H
  by_cases ho : (((u3).toUInt32 >>> ((6 : Int32) &&& 31).toUInt32).toInt32 &&& (1 : Int32)) = (0 : Int32)
  · refine own_lv6 u1 u2 u3 q (4 : Int32) X0 H e0 (own_sR2a l Z a0 hw [] ((4 : Int32)) (((u3).toUInt32 >>> ((6 : Int32) &&& 31).toUInt32).toInt32) (q) ((u1 &&& (3 : Int32))) ((u2 &&& (3 : Int32))) ((1 : Int32)) ((3 : Int32)) (b1) (a1) ((2 : Int32)) (b2) (a2) ((4 : Int32)) h1 n0 (Nat.le_trans Z0 K0.1) B0 (own_and3 u1) (own_and3 u2) (by decide) ho (by decide) (by decide) (by decide) (by decide) (by decide) (by decide) (by decide)) (by decide) (by decide) (by decide) (by decide) ?_
    intro v T' L X' q'
    obtain ⟨rfl, N', K', f'⟩ := q'
    exact ⟨(3 : Int32), rfl, own_g7_4_0_3 u1 u2 u3 q b2 a2 X' H rfl (Fr.app N0 N') (K0.trans K' (allS (Or.inr sq) (allS (Or.inr sa1) all0))) f' sq sb2 sa2⟩
  · refine own_lv6 u1 u2 u3 q (4 : Int32) X0 H e0 (own_sA2n l Z a0 hw [] ((4 : Int32)) (((u3).toUInt32 >>> ((6 : Int32) &&& 31).toUInt32).toInt32) (q) ((u1 &&& (3 : Int32))) ((u2 &&& (3 : Int32))) ((1 : Int32)) ((3 : Int32)) (b1) (a1) ((2 : Int32)) (b2) (a2) ((4 : Int32)) h1 n0 (Nat.le_trans Z0 K0.1) B0 (own_and3 u1) (own_and3 u2) (by decide) ho (by decide) (by decide)) (by decide) (by decide) (by decide) (by decide) ?_
    intro v T' L X' q'
    obtain ⟨rfl, N', K', f'⟩ := q'
    exact ⟨(5 : Int32), rfl, own_g7_24_1_4 u1 u2 u3 q b1 a1 b2 a2 X' H rfl (Fr.app N0 N') (K0.trans K' (allS (Or.inr sq) all0)) f' sq sb1 sa1 sb2 sa2⟩
set_option maxRecDepth 65536 in
set_option maxHeartbeats 40000000 in
theorem own_g6_4_0_0 {p : Program} {l : Launch} {e : Env} {s : State} {m : MethodId} {args : Array Value} {below : List Frame} {meth : Method} {c : Code} {T0 : State} {locs : List Loc} {Z : State} {a0 : Array Value} {h0 h1 : Heap} {n0 : Nat} (u1 u2 u3 : Int32) (q b1 a1 : Addr) (X0 : Stand p l e room_1 s m args below meth c T0 locs 7 50) (H : own_Cx p s m meth c Z a0 n0 h0) (e0 : T0.heap = h1) (N0 : Fr n0 locs) (K0 : Keep h0 h1 []) (B0 : own_Q1 Z h1 q n0 (u1 &&& (3 : Int32)) (u2 &&& (3 : Int32)) (0 : Int32) (0 : Int32) b1 a1 (4 : Int32)) (sq : h0.size ≤ q) (sb1 : h0.size ≤ b1) (sa1 : h0.size ≤ a1) : own_Goes p e below s 32 320 (Q_own_law Z u1 u2 u3 h0 n0) T0 (mkF m 90 #[iv u1, iv u2, iv u3, rv q, iv (0 : Int32)] []) := by
  obtain ⟨hx, hZ, hw, hby, hml, hown, hnm, hlk, hret, Z0⟩ := id H
  by_cases ho : (((u3).toUInt32 >>> ((6 : Int32) &&& 31).toUInt32).toInt32 &&& (1 : Int32)) = (0 : Int32)
  · refine own_lv6 u1 u2 u3 q (0 : Int32) X0 H e0 (own_sR1z l Z a0 hw [] ((0 : Int32)) (((u3).toUInt32 >>> ((6 : Int32) &&& 31).toUInt32).toInt32) (q) ((u1 &&& (3 : Int32))) ((u2 &&& (3 : Int32))) ((0 : Int32)) ((0 : Int32)) (b1) (a1) ((4 : Int32)) h1 n0 (Nat.le_trans Z0 K0.1) B0 (own_and3 u1) (own_and3 u2) (by decide) ho (by decide) (by decide) (by decide)) (by decide) (by decide) (by decide) (by decide) ?_
    intro v T' L X' q'
    obtain ⟨rfl, N', e'⟩ := q'
    exact ⟨(0 : Int32), rfl, own_g7_4_0_0 u1 u2 u3 q b1 a1 X' H e' (Fr.app N0 N') K0 B0 sq sb1 sa1⟩
  · refine own_lv6 u1 u2 u3 q (0 : Int32) X0 H e0 (own_sA1n l Z a0 hw [] ((0 : Int32)) (((u3).toUInt32 >>> ((6 : Int32) &&& 31).toUInt32).toInt32) (q) ((u1 &&& (3 : Int32))) ((u2 &&& (3 : Int32))) ((0 : Int32)) ((0 : Int32)) (b1) (a1) ((4 : Int32)) h1 n0 (Nat.le_trans Z0 K0.1) B0 (own_and3 u1) (own_and3 u2) (by decide) ho (by decide) (by decide) (by decide)) (by decide) (by decide) (by decide) (by decide) ?_
    intro v T' L X' q'
    obtain ⟨rfl, N', K', f'⟩ := q'
    exact ⟨(1 : Int32), rfl, own_g7_4_0_1 u1 u2 u3 q b1 a1 X' H rfl (Fr.app N0 N') (K0.trans K' (allS (Or.inr sq) all0)) f' sq sb1 sa1⟩
set_option maxRecDepth 65536 in
set_option maxHeartbeats 40000000 in
theorem own_g6_4_0_1 {p : Program} {l : Launch} {e : Env} {s : State} {m : MethodId} {args : Array Value} {below : List Frame} {meth : Method} {c : Code} {T0 : State} {locs : List Loc} {Z : State} {a0 : Array Value} {h0 h1 : Heap} {n0 : Nat} (u1 u2 u3 : Int32) (q b1 a1 : Addr) (X0 : Stand p l e room_1 s m args below meth c T0 locs 7 50) (H : own_Cx p s m meth c Z a0 n0 h0) (e0 : T0.heap = h1) (N0 : Fr n0 locs) (K0 : Keep h0 h1 []) (B0 : own_Q1 Z h1 q n0 (u1 &&& (3 : Int32)) (u2 &&& (3 : Int32)) (0 : Int32) (1 : Int32) b1 a1 (4 : Int32)) (sq : h0.size ≤ q) (sb1 : h0.size ≤ b1) (sa1 : h0.size ≤ a1) : own_Goes p e below s 32 320 (Q_own_law Z u1 u2 u3 h0 n0) T0 (mkF m 90 #[iv u1, iv u2, iv u3, rv q, iv (1 : Int32)] []) := by
  obtain ⟨hx, hZ, hw, hby, hml, hown, hnm, hlk, hret, Z0⟩ := id H
  by_cases ho : (((u3).toUInt32 >>> ((6 : Int32) &&& 31).toUInt32).toInt32 &&& (1 : Int32)) = (0 : Int32)
  · refine own_lv6 u1 u2 u3 q (1 : Int32) X0 H e0 (own_sR1e l Z a0 hw [] ((1 : Int32)) (((u3).toUInt32 >>> ((6 : Int32) &&& 31).toUInt32).toInt32) (q) ((u1 &&& (3 : Int32))) ((u2 &&& (3 : Int32))) ((0 : Int32)) ((1 : Int32)) (b1) (a1) ((4 : Int32)) h1 n0 (Nat.le_trans Z0 K0.1) B0 (own_and3 u1) (own_and3 u2) (by decide) ho (by decide) (by decide) (by decide) (by decide) (by decide) (by decide) (by decide)) (by decide) (by decide) (by decide) (by decide) ?_
    intro v T' L X' q'
    obtain ⟨rfl, N', K', f'⟩ := q'
    exact ⟨(0 : Int32), rfl, own_g7_4_0_0 u1 u2 u3 q b1 a1 X' H rfl (Fr.app N0 N') (K0.trans K' (allS (Or.inr sq) (allS (Or.inr sa1) all0))) f' sq sb1 sa1⟩
  · refine own_lv6 u1 u2 u3 q (1 : Int32) X0 H e0 (own_sA1n l Z a0 hw [] ((1 : Int32)) (((u3).toUInt32 >>> ((6 : Int32) &&& 31).toUInt32).toInt32) (q) ((u1 &&& (3 : Int32))) ((u2 &&& (3 : Int32))) ((0 : Int32)) ((1 : Int32)) (b1) (a1) ((4 : Int32)) h1 n0 (Nat.le_trans Z0 K0.1) B0 (own_and3 u1) (own_and3 u2) (by decide) ho (by decide) (by decide) (by decide)) (by decide) (by decide) (by decide) (by decide) ?_
    intro v T' L X' q'
    obtain ⟨rfl, N', K', f'⟩ := q'
    exact ⟨(2 : Int32), rfl, own_g7_4_0_2 u1 u2 u3 q b1 a1 X' H rfl (Fr.app N0 N') (K0.trans K' (allS (Or.inr sq) all0)) f' sq sb1 sa1⟩
set_option maxRecDepth 65536 in
set_option maxHeartbeats 40000000 in
theorem own_g6_4_0_2 {p : Program} {l : Launch} {e : Env} {s : State} {m : MethodId} {args : Array Value} {below : List Frame} {meth : Method} {c : Code} {T0 : State} {locs : List Loc} {Z : State} {a0 : Array Value} {h0 h1 : Heap} {n0 : Nat} (u1 u2 u3 : Int32) (q b1 a1 : Addr) (X0 : Stand p l e room_1 s m args below meth c T0 locs 7 50) (H : own_Cx p s m meth c Z a0 n0 h0) (e0 : T0.heap = h1) (N0 : Fr n0 locs) (K0 : Keep h0 h1 []) (B0 : own_Q1 Z h1 q n0 (u1 &&& (3 : Int32)) (u2 &&& (3 : Int32)) (0 : Int32) (2 : Int32) b1 a1 (4 : Int32)) (sq : h0.size ≤ q) (sb1 : h0.size ≤ b1) (sa1 : h0.size ≤ a1) : own_Goes p e below s 32 320 (Q_own_law Z u1 u2 u3 h0 n0) T0 (mkF m 90 #[iv u1, iv u2, iv u3, rv q, iv (2 : Int32)] []) := by
  obtain ⟨hx, hZ, hw, hby, hml, hown, hnm, hlk, hret, Z0⟩ := id H
  by_cases ho : (((u3).toUInt32 >>> ((6 : Int32) &&& 31).toUInt32).toInt32 &&& (1 : Int32)) = (0 : Int32)
  · refine own_lv6 u1 u2 u3 q (2 : Int32) X0 H e0 (own_sR1n l Z a0 hw [] ((2 : Int32)) (((u3).toUInt32 >>> ((6 : Int32) &&& 31).toUInt32).toInt32) (q) ((u1 &&& (3 : Int32))) ((u2 &&& (3 : Int32))) ((0 : Int32)) ((2 : Int32)) (b1) (a1) ((4 : Int32)) h1 n0 (Nat.le_trans Z0 K0.1) B0 (own_and3 u1) (own_and3 u2) (by decide) ho (by decide) (by decide) (by decide) (by decide) (by decide) (by decide) (by decide) (by decide)) (by decide) (by decide) (by decide) (by decide) ?_
    intro v T' L X' q'
    obtain ⟨rfl, N', K', f'⟩ := q'
    exact ⟨(1 : Int32), rfl, own_g7_4_1_2 u1 u2 u3 q b1 a1 X' H rfl (Fr.app N0 N') (K0.trans K' (allS (Or.inr sq) (allS (Or.inr sa1) all0))) f' sq sb1 sa1⟩
  · refine own_lv6 u1 u2 u3 q (2 : Int32) X0 H e0 (own_sA1n l Z a0 hw [] ((2 : Int32)) (((u3).toUInt32 >>> ((6 : Int32) &&& 31).toUInt32).toInt32) (q) ((u1 &&& (3 : Int32))) ((u2 &&& (3 : Int32))) ((0 : Int32)) ((2 : Int32)) (b1) (a1) ((4 : Int32)) h1 n0 (Nat.le_trans Z0 K0.1) B0 (own_and3 u1) (own_and3 u2) (by decide) ho (by decide) (by decide) (by decide)) (by decide) (by decide) (by decide) (by decide) ?_
    intro v T' L X' q'
    obtain ⟨rfl, N', K', f'⟩ := q'
    exact ⟨(3 : Int32), rfl, own_g7_4_0_3 u1 u2 u3 q b1 a1 X' H rfl (Fr.app N0 N') (K0.trans K' (allS (Or.inr sq) all0)) f' sq sb1 sa1⟩
set_option maxRecDepth 65536 in
set_option maxHeartbeats 40000000 in
theorem own_g5_e_0_0 {p : Program} {l : Launch} {e : Env} {s : State} {m : MethodId} {args : Array Value} {below : List Frame} {meth : Method} {c : Code} {T0 : State} {locs : List Loc} {Z : State} {a0 : Array Value} {h0 h1 : Heap} {n0 : Nat} (u1 u2 u3 : Int32) (q : Addr) (X0 : Stand p l e room_1 s m args below meth c T0 locs 1 6) (H : own_Cx p s m meth c Z a0 n0 h0) (e0 : T0.heap = h1) (N0 : Fr n0 locs) (K0 : Keep h0 h1 []) (B0 : own_Q0 Z h1 q n0 (u1 &&& (3 : Int32)) (u2 &&& (3 : Int32))) (sq : h0.size ≤ q) : own_Goes p e below s 32 320 (Q_own_law Z u1 u2 u3 h0 n0) T0 (mkF m 79 #[iv u1, iv u2, iv u3, rv q, iv (0 : Int32)] []) := by
  obtain ⟨hx, hZ, hw, hby, hml, hown, hnm, hlk, hret, Z0⟩ := id H
  by_cases ho : (((u3).toUInt32 >>> ((5 : Int32) &&& 31).toUInt32).toInt32 &&& (1 : Int32)) = (0 : Int32)
  · refine own_lv5 u1 u2 u3 q (0 : Int32) X0 H e0 (own_sR0 l Z a0 hw [] ((0 : Int32)) (((u3).toUInt32 >>> ((5 : Int32) &&& 31).toUInt32).toInt32) (q) ((u1 &&& (3 : Int32))) ((u2 &&& (3 : Int32))) h1 n0 (Nat.le_trans Z0 K0.1) B0 (own_and3 u1) (own_and3 u2) (by decide) ho (by decide) (by decide)) (by decide) (by decide) (by decide) (by decide) ?_
    intro v T' L X' q'
    obtain ⟨rfl, N', e'⟩ := q'
    exact ⟨(0 : Int32), rfl, own_g6_e_0_0 u1 u2 u3 q  X' H e' (Fr.app N0 N') K0 B0 sq ⟩
  · refine own_lv5 u1 u2 u3 q (0 : Int32) X0 H e0 (own_sA0 l Z a0 hw [] ((0 : Int32)) (((u3).toUInt32 >>> ((5 : Int32) &&& 31).toUInt32).toInt32) (q) ((u1 &&& (3 : Int32))) ((u2 &&& (3 : Int32))) h1 n0 (Nat.le_trans Z0 K0.1) B0 (own_and3 u1) (own_and3 u2) (by decide) ho (by decide)) (by decide) (by decide) (by decide) (by decide) ?_
    intro v T' L X' q'
    obtain ⟨nb1, na1, rfl, N', K', f', t0, t1⟩ := q'
    exact ⟨(1 : Int32), rfl, own_g6_2_0_1 u1 u2 u3 q nb1 na1 X' H rfl (Fr.app N0 N') (K0.trans K' (allS (Or.inr sq) all0)) f' sq (Nat.le_trans K0.1 t0) (Nat.le_trans K0.1 t1)⟩
set_option maxRecDepth 65536 in
set_option maxHeartbeats 40000000 in
theorem own_g5_2_0_0 {p : Program} {l : Launch} {e : Env} {s : State} {m : MethodId} {args : Array Value} {below : List Frame} {meth : Method} {c : Code} {T0 : State} {locs : List Loc} {Z : State} {a0 : Array Value} {h0 h1 : Heap} {n0 : Nat} (u1 u2 u3 : Int32) (q b1 a1 : Addr) (X0 : Stand p l e room_1 s m args below meth c T0 locs 4 22) (H : own_Cx p s m meth c Z a0 n0 h0) (e0 : T0.heap = h1) (N0 : Fr n0 locs) (K0 : Keep h0 h1 []) (B0 : own_Q1 Z h1 q n0 (u1 &&& (3 : Int32)) (u2 &&& (3 : Int32)) (0 : Int32) (0 : Int32) b1 a1 (2 : Int32)) (sq : h0.size ≤ q) (sb1 : h0.size ≤ b1) (sa1 : h0.size ≤ a1) : own_Goes p e below s 32 320 (Q_own_law Z u1 u2 u3 h0 n0) T0 (mkF m 79 #[iv u1, iv u2, iv u3, rv q, iv (0 : Int32)] []) := by
  obtain ⟨hx, hZ, hw, hby, hml, hown, hnm, hlk, hret, Z0⟩ := id H
  by_cases ho : (((u3).toUInt32 >>> ((5 : Int32) &&& 31).toUInt32).toInt32 &&& (1 : Int32)) = (0 : Int32)
  · refine own_lv5 u1 u2 u3 q (0 : Int32) X0 H e0 (own_sR1z l Z a0 hw [] ((0 : Int32)) (((u3).toUInt32 >>> ((5 : Int32) &&& 31).toUInt32).toInt32) (q) ((u1 &&& (3 : Int32))) ((u2 &&& (3 : Int32))) ((0 : Int32)) ((0 : Int32)) (b1) (a1) ((2 : Int32)) h1 n0 (Nat.le_trans Z0 K0.1) B0 (own_and3 u1) (own_and3 u2) (by decide) ho (by decide) (by decide) (by decide)) (by decide) (by decide) (by decide) (by decide) ?_
    intro v T' L X' q'
    obtain ⟨rfl, N', e'⟩ := q'
    exact ⟨(0 : Int32), rfl, own_g6_2_0_0 u1 u2 u3 q b1 a1 X' H e' (Fr.app N0 N') K0 B0 sq sb1 sa1⟩
  · refine own_lv5 u1 u2 u3 q (0 : Int32) X0 H e0 (own_sA1n l Z a0 hw [] ((0 : Int32)) (((u3).toUInt32 >>> ((5 : Int32) &&& 31).toUInt32).toInt32) (q) ((u1 &&& (3 : Int32))) ((u2 &&& (3 : Int32))) ((0 : Int32)) ((0 : Int32)) (b1) (a1) ((2 : Int32)) h1 n0 (Nat.le_trans Z0 K0.1) B0 (own_and3 u1) (own_and3 u2) (by decide) ho (by decide) (by decide) (by decide)) (by decide) (by decide) (by decide) (by decide) ?_
    intro v T' L X' q'
    obtain ⟨rfl, N', K', f'⟩ := q'
    exact ⟨(1 : Int32), rfl, own_g6_2_0_1 u1 u2 u3 q b1 a1 X' H rfl (Fr.app N0 N') (K0.trans K' (allS (Or.inr sq) all0)) f' sq sb1 sa1⟩
set_option maxRecDepth 65536 in
set_option maxHeartbeats 40000000 in
theorem own_g5_2_0_1 {p : Program} {l : Launch} {e : Env} {s : State} {m : MethodId} {args : Array Value} {below : List Frame} {meth : Method} {c : Code} {T0 : State} {locs : List Loc} {Z : State} {a0 : Array Value} {h0 h1 : Heap} {n0 : Nat} (u1 u2 u3 : Int32) (q b1 a1 : Addr) (X0 : Stand p l e room_1 s m args below meth c T0 locs 4 22) (H : own_Cx p s m meth c Z a0 n0 h0) (e0 : T0.heap = h1) (N0 : Fr n0 locs) (K0 : Keep h0 h1 []) (B0 : own_Q1 Z h1 q n0 (u1 &&& (3 : Int32)) (u2 &&& (3 : Int32)) (0 : Int32) (1 : Int32) b1 a1 (2 : Int32)) (sq : h0.size ≤ q) (sb1 : h0.size ≤ b1) (sa1 : h0.size ≤ a1) : own_Goes p e below s 32 320 (Q_own_law Z u1 u2 u3 h0 n0) T0 (mkF m 79 #[iv u1, iv u2, iv u3, rv q, iv (1 : Int32)] []) := by
  obtain ⟨hx, hZ, hw, hby, hml, hown, hnm, hlk, hret, Z0⟩ := id H
  by_cases ho : (((u3).toUInt32 >>> ((5 : Int32) &&& 31).toUInt32).toInt32 &&& (1 : Int32)) = (0 : Int32)
  · refine own_lv5 u1 u2 u3 q (1 : Int32) X0 H e0 (own_sR1e l Z a0 hw [] ((1 : Int32)) (((u3).toUInt32 >>> ((5 : Int32) &&& 31).toUInt32).toInt32) (q) ((u1 &&& (3 : Int32))) ((u2 &&& (3 : Int32))) ((0 : Int32)) ((1 : Int32)) (b1) (a1) ((2 : Int32)) h1 n0 (Nat.le_trans Z0 K0.1) B0 (own_and3 u1) (own_and3 u2) (by decide) ho (by decide) (by decide) (by decide) (by decide) (by decide) (by decide) (by decide)) (by decide) (by decide) (by decide) (by decide) ?_
    intro v T' L X' q'
    obtain ⟨rfl, N', K', f'⟩ := q'
    exact ⟨(0 : Int32), rfl, own_g6_2_0_0 u1 u2 u3 q b1 a1 X' H rfl (Fr.app N0 N') (K0.trans K' (allS (Or.inr sq) (allS (Or.inr sa1) all0))) f' sq sb1 sa1⟩
  · refine own_lv5 u1 u2 u3 q (1 : Int32) X0 H e0 (own_sA1n l Z a0 hw [] ((1 : Int32)) (((u3).toUInt32 >>> ((5 : Int32) &&& 31).toUInt32).toInt32) (q) ((u1 &&& (3 : Int32))) ((u2 &&& (3 : Int32))) ((0 : Int32)) ((1 : Int32)) (b1) (a1) ((2 : Int32)) h1 n0 (Nat.le_trans Z0 K0.1) B0 (own_and3 u1) (own_and3 u2) (by decide) ho (by decide) (by decide) (by decide)) (by decide) (by decide) (by decide) (by decide) ?_
    intro v T' L X' q'
    obtain ⟨rfl, N', K', f'⟩ := q'
    exact ⟨(2 : Int32), rfl, own_g6_2_0_2 u1 u2 u3 q b1 a1 X' H rfl (Fr.app N0 N') (K0.trans K' (allS (Or.inr sq) all0)) f' sq sb1 sa1⟩
set_option maxRecDepth 65536 in
set_option maxHeartbeats 40000000 in
theorem own_g5_2_0_2 {p : Program} {l : Launch} {e : Env} {s : State} {m : MethodId} {args : Array Value} {below : List Frame} {meth : Method} {c : Code} {T0 : State} {locs : List Loc} {Z : State} {a0 : Array Value} {h0 h1 : Heap} {n0 : Nat} (u1 u2 u3 : Int32) (q b1 a1 : Addr) (X0 : Stand p l e room_1 s m args below meth c T0 locs 4 22) (H : own_Cx p s m meth c Z a0 n0 h0) (e0 : T0.heap = h1) (N0 : Fr n0 locs) (K0 : Keep h0 h1 []) (B0 : own_Q1 Z h1 q n0 (u1 &&& (3 : Int32)) (u2 &&& (3 : Int32)) (0 : Int32) (2 : Int32) b1 a1 (2 : Int32)) (sq : h0.size ≤ q) (sb1 : h0.size ≤ b1) (sa1 : h0.size ≤ a1) : own_Goes p e below s 32 320 (Q_own_law Z u1 u2 u3 h0 n0) T0 (mkF m 79 #[iv u1, iv u2, iv u3, rv q, iv (2 : Int32)] []) := by
  obtain ⟨hx, hZ, hw, hby, hml, hown, hnm, hlk, hret, Z0⟩ := id H
  by_cases ho : (((u3).toUInt32 >>> ((5 : Int32) &&& 31).toUInt32).toInt32 &&& (1 : Int32)) = (0 : Int32)
  · refine own_lv5 u1 u2 u3 q (2 : Int32) X0 H e0 (own_sR1n l Z a0 hw [] ((2 : Int32)) (((u3).toUInt32 >>> ((5 : Int32) &&& 31).toUInt32).toInt32) (q) ((u1 &&& (3 : Int32))) ((u2 &&& (3 : Int32))) ((0 : Int32)) ((2 : Int32)) (b1) (a1) ((2 : Int32)) h1 n0 (Nat.le_trans Z0 K0.1) B0 (own_and3 u1) (own_and3 u2) (by decide) ho (by decide) (by decide) (by decide) (by decide) (by decide) (by decide) (by decide) (by decide)) (by decide) (by decide) (by decide) (by decide) ?_
    intro v T' L X' q'
    obtain ⟨rfl, N', K', f'⟩ := q'
    exact ⟨(1 : Int32), rfl, own_g6_2_1_2 u1 u2 u3 q b1 a1 X' H rfl (Fr.app N0 N') (K0.trans K' (allS (Or.inr sq) (allS (Or.inr sa1) all0))) f' sq sb1 sa1⟩
  · refine own_lv5 u1 u2 u3 q (2 : Int32) X0 H e0 (own_sA1a2 l Z a0 hw [] ((2 : Int32)) (((u3).toUInt32 >>> ((5 : Int32) &&& 31).toUInt32).toInt32) (q) ((u1 &&& (3 : Int32))) ((u2 &&& (3 : Int32))) ((0 : Int32)) (b1) (a1) h1 n0 (Nat.le_trans Z0 K0.1) B0 (own_and3 u1) (own_and3 u2) (by decide) ho (by decide)) (by decide) (by decide) (by decide) (by decide) ?_
    intro v T' L X' q'
    obtain ⟨nb2, na2, rfl, N', K', f', t0, t1⟩ := q'
    exact ⟨(3 : Int32), rfl, own_g6_24_0_1 u1 u2 u3 q b1 a1 nb2 na2 X' H rfl (Fr.app N0 N') (K0.trans K' (allS (Or.inr sq) (allS (Or.inr sb1) all0))) f' sq sb1 sa1 (Nat.le_trans K0.1 t0) (Nat.le_trans K0.1 t1)⟩
set_option maxRecDepth 65536 in
set_option maxHeartbeats 40000000 in
theorem own_g5_2_1_2 {p : Program} {l : Launch} {e : Env} {s : State} {m : MethodId} {args : Array Value} {below : List Frame} {meth : Method} {c : Code} {T0 : State} {locs : List Loc} {Z : State} {a0 : Array Value} {h0 h1 : Heap} {n0 : Nat} (u1 u2 u3 : Int32) (q b1 a1 : Addr) (X0 : Stand p l e room_1 s m args below meth c T0 locs 4 22) (H : own_Cx p s m meth c Z a0 n0 h0) (e0 : T0.heap = h1) (N0 : Fr n0 locs) (K0 : Keep h0 h1 []) (B0 : own_Q1 Z h1 q n0 (u1 &&& (3 : Int32)) (u2 &&& (3 : Int32)) (1 : Int32) (2 : Int32) b1 a1 (2 : Int32)) (sq : h0.size ≤ q) (sb1 : h0.size ≤ b1) (sa1 : h0.size ≤ a1) : own_Goes p e below s 32 320 (Q_own_law Z u1 u2 u3 h0 n0) T0 (mkF m 79 #[iv u1, iv u2, iv u3, rv q, iv (1 : Int32)] []) := by
  obtain ⟨hx, hZ, hw, hby, hml, hown, hnm, hlk, hret, Z0⟩ := id H
  by_cases ho : (((u3).toUInt32 >>> ((5 : Int32) &&& 31).toUInt32).toInt32 &&& (1 : Int32)) = (0 : Int32)
  · refine own_lv5 u1 u2 u3 q (1 : Int32) X0 H e0 (own_sR1e l Z a0 hw [] ((1 : Int32)) (((u3).toUInt32 >>> ((5 : Int32) &&& 31).toUInt32).toInt32) (q) ((u1 &&& (3 : Int32))) ((u2 &&& (3 : Int32))) ((1 : Int32)) ((2 : Int32)) (b1) (a1) ((2 : Int32)) h1 n0 (Nat.le_trans Z0 K0.1) B0 (own_and3 u1) (own_and3 u2) (by decide) ho (by decide) (by decide) (by decide) (by decide) (by decide) (by decide) (by decide)) (by decide) (by decide) (by decide) (by decide) ?_
    intro v T' L X' q'
    obtain ⟨rfl, N', K', f'⟩ := q'
    exact ⟨(0 : Int32), rfl, own_g6_2_0_0 u1 u2 u3 q b1 a1 X' H rfl (Fr.app N0 N') (K0.trans K' (allS (Or.inr sq) (allS (Or.inr sa1) all0))) f' sq sb1 sa1⟩
  · refine own_lv5 u1 u2 u3 q (1 : Int32) X0 H e0 (own_sA1a2 l Z a0 hw [] ((1 : Int32)) (((u3).toUInt32 >>> ((5 : Int32) &&& 31).toUInt32).toInt32) (q) ((u1 &&& (3 : Int32))) ((u2 &&& (3 : Int32))) ((1 : Int32)) (b1) (a1) h1 n0 (Nat.le_trans Z0 K0.1) B0 (own_and3 u1) (own_and3 u2) (by decide) ho (by decide)) (by decide) (by decide) (by decide) (by decide) ?_
    intro v T' L X' q'
    obtain ⟨nb2, na2, rfl, N', K', f', t0, t1⟩ := q'
    exact ⟨(2 : Int32), rfl, own_g6_24_1_1 u1 u2 u3 q b1 a1 nb2 na2 X' H rfl (Fr.app N0 N') (K0.trans K' (allS (Or.inr sq) (allS (Or.inr sb1) all0))) f' sq sb1 sa1 (Nat.le_trans K0.1 t0) (Nat.le_trans K0.1 t1)⟩
set_option maxRecDepth 65536 in
set_option maxHeartbeats 40000000 in
theorem own_g5_24_0_1 {p : Program} {l : Launch} {e : Env} {s : State} {m : MethodId} {args : Array Value} {below : List Frame} {meth : Method} {c : Code} {T0 : State} {locs : List Loc} {Z : State} {a0 : Array Value} {h0 h1 : Heap} {n0 : Nat} (u1 u2 u3 : Int32) (q b1 a1 b2 a2 : Addr) (X0 : Stand p l e room_1 s m args below meth c T0 locs 7 50) (H : own_Cx p s m meth c Z a0 n0 h0) (e0 : T0.heap = h1) (N0 : Fr n0 locs) (K0 : Keep h0 h1 []) (B0 : own_Q2 Z h1 q n0 (u1 &&& (3 : Int32)) (u2 &&& (3 : Int32)) (0 : Int32) (1 : Int32) b1 a1 (2 : Int32) b2 a2 (4 : Int32)) (sq : h0.size ≤ q) (sb1 : h0.size ≤ b1) (sa1 : h0.size ≤ a1) (sb2 : h0.size ≤ b2) (sa2 : h0.size ≤ a2) : own_Goes p e below s 32 320 (Q_own_law Z u1 u2 u3 h0 n0) T0 (mkF m 79 #[iv u1, iv u2, iv u3, rv q, iv (3 : Int32)] []) := by
  obtain ⟨hx, hZ, hw, hby, hml, hown, hnm, hlk, hret, Z0⟩ := id H
  by_cases ho : (((u3).toUInt32 >>> ((5 : Int32) &&& 31).toUInt32).toInt32 &&& (1 : Int32)) = (0 : Int32)
  · refine own_lv5 u1 u2 u3 q (3 : Int32) X0 H e0 (own_sR2n l Z a0 hw [] ((3 : Int32)) (((u3).toUInt32 >>> ((5 : Int32) &&& 31).toUInt32).toInt32) (q) ((u1 &&& (3 : Int32))) ((u2 &&& (3 : Int32))) ((0 : Int32)) ((1 : Int32)) (b1) (a1) ((2 : Int32)) (b2) (a2) ((4 : Int32)) h1 n0 (Nat.le_trans Z0 K0.1) B0 (own_and3 u1) (own_and3 u2) (by decide) ho (by decide) (by decide) (by decide) (by decide) (by decide) (by decide)) (by decide) (by decide) (by decide) (by decide) ?_
    intro v T' L X' q'
    obtain ⟨rfl, N', K', f'⟩ := q'
    exact ⟨(2 : Int32), rfl, own_g6_24_1_1 u1 u2 u3 q b1 a1 b2 a2 X' H rfl (Fr.app N0 N') (K0.trans K' (allS (Or.inr sq) (allS (Or.inr sa1) all0))) f' sq sb1 sa1 sb2 sa2⟩
  · refine own_lv5 u1 u2 u3 q (3 : Int32) X0 H e0 (own_sA2n l Z a0 hw [] ((3 : Int32)) (((u3).toUInt32 >>> ((5 : Int32) &&& 31).toUInt32).toInt32) (q) ((u1 &&& (3 : Int32))) ((u2 &&& (3 : Int32))) ((0 : Int32)) ((1 : Int32)) (b1) (a1) ((2 : Int32)) (b2) (a2) ((4 : Int32)) h1 n0 (Nat.le_trans Z0 K0.1) B0 (own_and3 u1) (own_and3 u2) (by decide) ho (by decide) (by decide)) (by decide) (by decide) (by decide) (by decide) ?_
    intro v T' L X' q'
    obtain ⟨rfl, N', K', f'⟩ := q'
    exact ⟨(4 : Int32), rfl, own_g6_24_0_2 u1 u2 u3 q b1 a1 b2 a2 X' H rfl (Fr.app N0 N') (K0.trans K' (allS (Or.inr sq) all0)) f' sq sb1 sa1 sb2 sa2⟩
set_option maxRecDepth 65536 in
set_option maxHeartbeats 40000000 in
theorem own_g5_24_0_2 {p : Program} {l : Launch} {e : Env} {s : State} {m : MethodId} {args : Array Value} {below : List Frame} {meth : Method} {c : Code} {T0 : State} {locs : List Loc} {Z : State} {a0 : Array Value} {h0 h1 : Heap} {n0 : Nat} (u1 u2 u3 : Int32) (q b1 a1 b2 a2 : Addr) (X0 : Stand p l e room_1 s m args below meth c T0 locs 7 50) (H : own_Cx p s m meth c Z a0 n0 h0) (e0 : T0.heap = h1) (N0 : Fr n0 locs) (K0 : Keep h0 h1 []) (B0 : own_Q2 Z h1 q n0 (u1 &&& (3 : Int32)) (u2 &&& (3 : Int32)) (0 : Int32) (2 : Int32) b1 a1 (2 : Int32) b2 a2 (4 : Int32)) (sq : h0.size ≤ q) (sb1 : h0.size ≤ b1) (sa1 : h0.size ≤ a1) (sb2 : h0.size ≤ b2) (sa2 : h0.size ≤ a2) : own_Goes p e below s 32 320 (Q_own_law Z u1 u2 u3 h0 n0) T0 (mkF m 79 #[iv u1, iv u2, iv u3, rv q, iv (4 : Int32)] []) := by
  obtain ⟨hx, hZ, hw, hby, hml, hown, hnm, hlk, hret, Z0⟩ := id H
  by_cases ho : (((u3).toUInt32 >>> ((5 : Int32) &&& 31).toUInt32).toInt32 &&& (1 : Int32)) = (0 : Int32)
  · refine own_lv5 u1 u2 u3 q (4 : Int32) X0 H e0 (own_sR2n l Z a0 hw [] ((4 : Int32)) (((u3).toUInt32 >>> ((5 : Int32) &&& 31).toUInt32).toInt32) (q) ((u1 &&& (3 : Int32))) ((u2 &&& (3 : Int32))) ((0 : Int32)) ((2 : Int32)) (b1) (a1) ((2 : Int32)) (b2) (a2) ((4 : Int32)) h1 n0 (Nat.le_trans Z0 K0.1) B0 (own_and3 u1) (own_and3 u2) (by decide) ho (by decide) (by decide) (by decide) (by decide) (by decide) (by decide)) (by decide) (by decide) (by decide) (by decide) ?_
    intro v T' L X' q'
    obtain ⟨rfl, N', K', f'⟩ := q'
    exact ⟨(3 : Int32), rfl, own_g6_24_1_2 u1 u2 u3 q b1 a1 b2 a2 X' H rfl (Fr.app N0 N') (K0.trans K' (allS (Or.inr sq) (allS (Or.inr sa1) all0))) f' sq sb1 sa1 sb2 sa2⟩
  · refine own_lv5 u1 u2 u3 q (4 : Int32) X0 H e0 (own_sA2n l Z a0 hw [] ((4 : Int32)) (((u3).toUInt32 >>> ((5 : Int32) &&& 31).toUInt32).toInt32) (q) ((u1 &&& (3 : Int32))) ((u2 &&& (3 : Int32))) ((0 : Int32)) ((2 : Int32)) (b1) (a1) ((2 : Int32)) (b2) (a2) ((4 : Int32)) h1 n0 (Nat.le_trans Z0 K0.1) B0 (own_and3 u1) (own_and3 u2) (by decide) ho (by decide) (by decide)) (by decide) (by decide) (by decide) (by decide) ?_
    intro v T' L X' q'
    obtain ⟨rfl, N', K', f'⟩ := q'
    exact ⟨(5 : Int32), rfl, own_g6_24_0_3 u1 u2 u3 q b1 a1 b2 a2 X' H rfl (Fr.app N0 N') (K0.trans K' (allS (Or.inr sq) all0)) f' sq sb1 sa1 sb2 sa2⟩
set_option maxRecDepth 65536 in
set_option maxHeartbeats 40000000 in
theorem own_g5_24_0_3 {p : Program} {l : Launch} {e : Env} {s : State} {m : MethodId} {args : Array Value} {below : List Frame} {meth : Method} {c : Code} {T0 : State} {locs : List Loc} {Z : State} {a0 : Array Value} {h0 h1 : Heap} {n0 : Nat} (u1 u2 u3 : Int32) (q b1 a1 b2 a2 : Addr) (X0 : Stand p l e room_1 s m args below meth c T0 locs 7 50) (H : own_Cx p s m meth c Z a0 n0 h0) (e0 : T0.heap = h1) (N0 : Fr n0 locs) (K0 : Keep h0 h1 []) (B0 : own_Q2 Z h1 q n0 (u1 &&& (3 : Int32)) (u2 &&& (3 : Int32)) (0 : Int32) (3 : Int32) b1 a1 (2 : Int32) b2 a2 (4 : Int32)) (sq : h0.size ≤ q) (sb1 : h0.size ≤ b1) (sa1 : h0.size ≤ a1) (sb2 : h0.size ≤ b2) (sa2 : h0.size ≤ a2) : own_Goes p e below s 32 320 (Q_own_law Z u1 u2 u3 h0 n0) T0 (mkF m 79 #[iv u1, iv u2, iv u3, rv q, iv (5 : Int32)] []) := by
  obtain ⟨hx, hZ, hw, hby, hml, hown, hnm, hlk, hret, Z0⟩ := id H
  by_cases ho : (((u3).toUInt32 >>> ((5 : Int32) &&& 31).toUInt32).toInt32 &&& (1 : Int32)) = (0 : Int32)
  · refine own_lv5 u1 u2 u3 q (5 : Int32) X0 H e0 (own_sR2n l Z a0 hw [] ((5 : Int32)) (((u3).toUInt32 >>> ((5 : Int32) &&& 31).toUInt32).toInt32) (q) ((u1 &&& (3 : Int32))) ((u2 &&& (3 : Int32))) ((0 : Int32)) ((3 : Int32)) (b1) (a1) ((2 : Int32)) (b2) (a2) ((4 : Int32)) h1 n0 (Nat.le_trans Z0 K0.1) B0 (own_and3 u1) (own_and3 u2) (by decide) ho (by decide) (by decide) (by decide) (by decide) (by decide) (by decide)) (by decide) (by decide) (by decide) (by decide) ?_
    intro v T' L X' q'
    obtain ⟨rfl, N', K', f'⟩ := q'
    exact ⟨(4 : Int32), rfl, own_g6_24_1_3 u1 u2 u3 q b1 a1 b2 a2 X' H rfl (Fr.app N0 N') (K0.trans K' (allS (Or.inr sq) (allS (Or.inr sa1) all0))) f' sq sb1 sa1 sb2 sa2⟩
  · refine own_lv5 u1 u2 u3 q (5 : Int32) X0 H e0 (own_sA2n l Z a0 hw [] ((5 : Int32)) (((u3).toUInt32 >>> ((5 : Int32) &&& 31).toUInt32).toInt32) (q) ((u1 &&& (3 : Int32))) ((u2 &&& (3 : Int32))) ((0 : Int32)) ((3 : Int32)) (b1) (a1) ((2 : Int32)) (b2) (a2) ((4 : Int32)) h1 n0 (Nat.le_trans Z0 K0.1) B0 (own_and3 u1) (own_and3 u2) (by decide) ho (by decide) (by decide)) (by decide) (by decide) (by decide) (by decide) ?_
    intro v T' L X' q'
    obtain ⟨rfl, N', K', f'⟩ := q'
    exact ⟨(6 : Int32), rfl, own_g6_24_0_4 u1 u2 u3 q b1 a1 b2 a2 X' H rfl (Fr.app N0 N') (K0.trans K' (allS (Or.inr sq) all0)) f' sq sb1 sa1 sb2 sa2⟩
set_option maxRecDepth 65536 in
set_option maxHeartbeats 40000000 in
theorem own_g5_24_1_1 {p : Program} {l : Launch} {e : Env} {s : State} {m : MethodId} {args : Array Value} {below : List Frame} {meth : Method} {c : Code} {T0 : State} {locs : List Loc} {Z : State} {a0 : Array Value} {h0 h1 : Heap} {n0 : Nat} (u1 u2 u3 : Int32) (q b1 a1 b2 a2 : Addr) (X0 : Stand p l e room_1 s m args below meth c T0 locs 7 50) (H : own_Cx p s m meth c Z a0 n0 h0) (e0 : T0.heap = h1) (N0 : Fr n0 locs) (K0 : Keep h0 h1 []) (B0 : own_Q2 Z h1 q n0 (u1 &&& (3 : Int32)) (u2 &&& (3 : Int32)) (1 : Int32) (1 : Int32) b1 a1 (2 : Int32) b2 a2 (4 : Int32)) (sq : h0.size ≤ q) (sb1 : h0.size ≤ b1) (sa1 : h0.size ≤ a1) (sb2 : h0.size ≤ b2) (sa2 : h0.size ≤ a2) : own_Goes p e below s 32 320 (Q_own_law Z u1 u2 u3 h0 n0) T0 (mkF m 79 #[iv u1, iv u2, iv u3, rv q, iv (2 : Int32)] []) := by
  obtain ⟨hx, hZ, hw, hby, hml, hown, hnm, hlk, hret, Z0⟩ := id H
  by_cases ho : (((u3).toUInt32 >>> ((5 : Int32) &&& 31).toUInt32).toInt32 &&& (1 : Int32)) = (0 : Int32)
  · refine own_lv5 u1 u2 u3 q (2 : Int32) X0 H e0 (own_sR2a l Z a0 hw [] ((2 : Int32)) (((u3).toUInt32 >>> ((5 : Int32) &&& 31).toUInt32).toInt32) (q) ((u1 &&& (3 : Int32))) ((u2 &&& (3 : Int32))) ((1 : Int32)) ((1 : Int32)) (b1) (a1) ((2 : Int32)) (b2) (a2) ((4 : Int32)) h1 n0 (Nat.le_trans Z0 K0.1) B0 (own_and3 u1) (own_and3 u2) (by decide) ho (by decide) (by decide) (by decide) (by decide) (by decide) (by decide) (by decide)) (by decide) (by decide) (by decide) (by decide) ?_
    intro v T' L X' q'
    obtain ⟨rfl, N', K', f'⟩ := q'
    exact ⟨(1 : Int32), rfl, own_g6_4_0_1 u1 u2 u3 q b2 a2 X' H rfl (Fr.app N0 N') (K0.trans K' (allS (Or.inr sq) (allS (Or.inr sa1) all0))) f' sq sb2 sa2⟩
  · refine own_lv5 u1 u2 u3 q (2 : Int32) X0 H e0 (own_sA2n l Z a0 hw [] ((2 : Int32)) (((u3).toUInt32 >>> ((5 : Int32) &&& 31).toUInt32).toInt32) (q) ((u1 &&& (3 : Int32))) ((u2 &&& (3 : Int32))) ((1 : Int32)) ((1 : Int32)) (b1) (a1) ((2 : Int32)) (b2) (a2) ((4 : Int32)) h1 n0 (Nat.le_trans Z0 K0.1) B0 (own_and3 u1) (own_and3 u2) (by decide) ho (by decide) (by decide)) (by decide) (by decide) (by decide) (by decide) ?_
    intro v T' L X' q'
    obtain ⟨rfl, N', K', f'⟩ := q'
    exact ⟨(3 : Int32), rfl, own_g6_24_1_2 u1 u2 u3 q b1 a1 b2 a2 X' H rfl (Fr.app N0 N') (K0.trans K' (allS (Or.inr sq) all0)) f' sq sb1 sa1 sb2 sa2⟩
set_option maxRecDepth 65536 in
set_option maxHeartbeats 40000000 in
theorem own_g5_24_1_2 {p : Program} {l : Launch} {e : Env} {s : State} {m : MethodId} {args : Array Value} {below : List Frame} {meth : Method} {c : Code} {T0 : State} {locs : List Loc} {Z : State} {a0 : Array Value} {h0 h1 : Heap} {n0 : Nat} (u1 u2 u3 : Int32) (q b1 a1 b2 a2 : Addr) (X0 : Stand p l e room_1 s m args below meth c T0 locs 7 50) (H : own_Cx p s m meth c Z a0 n0 h0) (e0 : T0.heap = h1) (N0 : Fr n0 locs) (K0 : Keep h0 h1 []) (B0 : own_Q2 Z h1 q n0 (u1 &&& (3 : Int32)) (u2 &&& (3 : Int32)) (1 : Int32) (2 : Int32) b1 a1 (2 : Int32) b2 a2 (4 : Int32)) (sq : h0.size ≤ q) (sb1 : h0.size ≤ b1) (sa1 : h0.size ≤ a1) (sb2 : h0.size ≤ b2) (sa2 : h0.size ≤ a2) : own_Goes p e below s 32 320 (Q_own_law Z u1 u2 u3 h0 n0) T0 (mkF m 79 #[iv u1, iv u2, iv u3, rv q, iv (3 : Int32)] []) := by
  obtain ⟨hx, hZ, hw, hby, hml, hown, hnm, hlk, hret, Z0⟩ := id H
  by_cases ho : (((u3).toUInt32 >>> ((5 : Int32) &&& 31).toUInt32).toInt32 &&& (1 : Int32)) = (0 : Int32)
  · refine own_lv5 u1 u2 u3 q (3 : Int32) X0 H e0 (own_sR2a l Z a0 hw [] ((3 : Int32)) (((u3).toUInt32 >>> ((5 : Int32) &&& 31).toUInt32).toInt32) (q) ((u1 &&& (3 : Int32))) ((u2 &&& (3 : Int32))) ((1 : Int32)) ((2 : Int32)) (b1) (a1) ((2 : Int32)) (b2) (a2) ((4 : Int32)) h1 n0 (Nat.le_trans Z0 K0.1) B0 (own_and3 u1) (own_and3 u2) (by decide) ho (by decide) (by decide) (by decide) (by decide) (by decide) (by decide) (by decide)) (by decide) (by decide) (by decide) (by decide) ?_
    intro v T' L X' q'
    obtain ⟨rfl, N', K', f'⟩ := q'
    exact ⟨(2 : Int32), rfl, own_g6_4_0_2 u1 u2 u3 q b2 a2 X' H rfl (Fr.app N0 N') (K0.trans K' (allS (Or.inr sq) (allS (Or.inr sa1) all0))) f' sq sb2 sa2⟩
  · refine own_lv5 u1 u2 u3 q (3 : Int32) X0 H e0 (own_sA2n l Z a0 hw [] ((3 : Int32)) (((u3).toUInt32 >>> ((5 : Int32) &&& 31).toUInt32).toInt32) (q) ((u1 &&& (3 : Int32))) ((u2 &&& (3 : Int32))) ((1 : Int32)) ((2 : Int32)) (b1) (a1) ((2 : Int32)) (b2) (a2) ((4 : Int32)) h1 n0 (Nat.le_trans Z0 K0.1) B0 (own_and3 u1) (own_and3 u2) (by decide) ho (by decide) (by decide)) (by decide) (by decide) (by decide) (by decide) ?_
    intro v T' L X' q'
    obtain ⟨rfl, N', K', f'⟩ := q'
    exact ⟨(4 : Int32), rfl, own_g6_24_1_3 u1 u2 u3 q b1 a1 b2 a2 X' H rfl (Fr.app N0 N') (K0.trans K' (allS (Or.inr sq) all0)) f' sq sb1 sa1 sb2 sa2⟩
set_option maxRecDepth 65536 in
set_option maxHeartbeats 40000000 in
theorem own_g5_4_0_1 {p : Program} {l : Launch} {e : Env} {s : State} {m : MethodId} {args : Array Value} {below : List Frame} {meth : Method} {c : Code} {T0 : State} {locs : List Loc} {Z : State} {a0 : Array Value} {h0 h1 : Heap} {n0 : Nat} (u1 u2 u3 : Int32) (q b1 a1 : Addr) (X0 : Stand p l e room_1 s m args below meth c T0 locs 7 50) (H : own_Cx p s m meth c Z a0 n0 h0) (e0 : T0.heap = h1) (N0 : Fr n0 locs) (K0 : Keep h0 h1 []) (B0 : own_Q1 Z h1 q n0 (u1 &&& (3 : Int32)) (u2 &&& (3 : Int32)) (0 : Int32) (1 : Int32) b1 a1 (4 : Int32)) (sq : h0.size ≤ q) (sb1 : h0.size ≤ b1) (sa1 : h0.size ≤ a1) : own_Goes p e below s 32 320 (Q_own_law Z u1 u2 u3 h0 n0) T0 (mkF m 79 #[iv u1, iv u2, iv u3, rv q, iv (1 : Int32)] []) := by
  obtain ⟨hx, hZ, hw, hby, hml, hown, hnm, hlk, hret, Z0⟩ := id H
  by_cases ho : (((u3).toUInt32 >>> ((5 : Int32) &&& 31).toUInt32).toInt32 &&& (1 : Int32)) = (0 : Int32)
  · refine own_lv5 u1 u2 u3 q (1 : Int32) X0 H e0 (own_sR1e l Z a0 hw [] ((1 : Int32)) (((u3).toUInt32 >>> ((5 : Int32) &&& 31).toUInt32).toInt32) (q) ((u1 &&& (3 : Int32))) ((u2 &&& (3 : Int32))) ((0 : Int32)) ((1 : Int32)) (b1) (a1) ((4 : Int32)) h1 n0 (Nat.le_trans Z0 K0.1) B0 (own_and3 u1) (own_and3 u2) (by decide) ho (by decide) (by decide) (by decide) (by decide) (by decide) (by decide) (by decide)) (by decide) (by decide) (by decide) (by decide) ?_
    intro v T' L X' q'
    obtain ⟨rfl, N', K', f'⟩ := q'
    exact ⟨(0 : Int32), rfl, own_g6_4_0_0 u1 u2 u3 q b1 a1 X' H rfl (Fr.app N0 N') (K0.trans K' (allS (Or.inr sq) (allS (Or.inr sa1) all0))) f' sq sb1 sa1⟩
  · refine own_lv5 u1 u2 u3 q (1 : Int32) X0 H e0 (own_sA1n l Z a0 hw [] ((1 : Int32)) (((u3).toUInt32 >>> ((5 : Int32) &&& 31).toUInt32).toInt32) (q) ((u1 &&& (3 : Int32))) ((u2 &&& (3 : Int32))) ((0 : Int32)) ((1 : Int32)) (b1) (a1) ((4 : Int32)) h1 n0 (Nat.le_trans Z0 K0.1) B0 (own_and3 u1) (own_and3 u2) (by decide) ho (by decide) (by decide) (by decide)) (by decide) (by decide) (by decide) (by decide) ?_
    intro v T' L X' q'
    obtain ⟨rfl, N', K', f'⟩ := q'
    exact ⟨(2 : Int32), rfl, own_g6_4_0_2 u1 u2 u3 q b1 a1 X' H rfl (Fr.app N0 N') (K0.trans K' (allS (Or.inr sq) all0)) f' sq sb1 sa1⟩
set_option maxRecDepth 65536 in
set_option maxHeartbeats 40000000 in
theorem own_g4_e_0_0 {p : Program} {l : Launch} {e : Env} {s : State} {m : MethodId} {args : Array Value} {below : List Frame} {meth : Method} {c : Code} {T0 : State} {locs : List Loc} {Z : State} {a0 : Array Value} {h0 h1 : Heap} {n0 : Nat} (u1 u2 u3 : Int32) (q : Addr) (X0 : Stand p l e room_1 s m args below meth c T0 locs 1 6) (H : own_Cx p s m meth c Z a0 n0 h0) (e0 : T0.heap = h1) (N0 : Fr n0 locs) (K0 : Keep h0 h1 []) (B0 : own_Q0 Z h1 q n0 (u1 &&& (3 : Int32)) (u2 &&& (3 : Int32))) (sq : h0.size ≤ q) : own_Goes p e below s 32 320 (Q_own_law Z u1 u2 u3 h0 n0) T0 (mkF m 68 #[iv u1, iv u2, iv u3, rv q, iv (0 : Int32)] []) := by
  obtain ⟨hx, hZ, hw, hby, hml, hown, hnm, hlk, hret, Z0⟩ := id H
  by_cases ho : (((u3).toUInt32 >>> ((4 : Int32) &&& 31).toUInt32).toInt32 &&& (1 : Int32)) = (0 : Int32)
  · refine own_lv4 u1 u2 u3 q (0 : Int32) X0 H e0 (own_sR0 l Z a0 hw [] ((0 : Int32)) (((u3).toUInt32 >>> ((4 : Int32) &&& 31).toUInt32).toInt32) (q) ((u1 &&& (3 : Int32))) ((u2 &&& (3 : Int32))) h1 n0 (Nat.le_trans Z0 K0.1) B0 (own_and3 u1) (own_and3 u2) (by decide) ho (by decide) (by decide)) (by decide) (by decide) (by decide) (by decide) ?_
    intro v T' L X' q'
    obtain ⟨rfl, N', e'⟩ := q'
    exact ⟨(0 : Int32), rfl, own_g5_e_0_0 u1 u2 u3 q  X' H e' (Fr.app N0 N') K0 B0 sq ⟩
  · refine own_lv4 u1 u2 u3 q (0 : Int32) X0 H e0 (own_sA0 l Z a0 hw [] ((0 : Int32)) (((u3).toUInt32 >>> ((4 : Int32) &&& 31).toUInt32).toInt32) (q) ((u1 &&& (3 : Int32))) ((u2 &&& (3 : Int32))) h1 n0 (Nat.le_trans Z0 K0.1) B0 (own_and3 u1) (own_and3 u2) (by decide) ho (by decide)) (by decide) (by decide) (by decide) (by decide) ?_
    intro v T' L X' q'
    obtain ⟨nb1, na1, rfl, N', K', f', t0, t1⟩ := q'
    exact ⟨(1 : Int32), rfl, own_g5_2_0_1 u1 u2 u3 q nb1 na1 X' H rfl (Fr.app N0 N') (K0.trans K' (allS (Or.inr sq) all0)) f' sq (Nat.le_trans K0.1 t0) (Nat.le_trans K0.1 t1)⟩
set_option maxRecDepth 65536 in
set_option maxHeartbeats 40000000 in
theorem own_g4_2_0_0 {p : Program} {l : Launch} {e : Env} {s : State} {m : MethodId} {args : Array Value} {below : List Frame} {meth : Method} {c : Code} {T0 : State} {locs : List Loc} {Z : State} {a0 : Array Value} {h0 h1 : Heap} {n0 : Nat} (u1 u2 u3 : Int32) (q b1 a1 : Addr) (X0 : Stand p l e room_1 s m args below meth c T0 locs 4 22) (H : own_Cx p s m meth c Z a0 n0 h0) (e0 : T0.heap = h1) (N0 : Fr n0 locs) (K0 : Keep h0 h1 []) (B0 : own_Q1 Z h1 q n0 (u1 &&& (3 : Int32)) (u2 &&& (3 : Int32)) (0 : Int32) (0 : Int32) b1 a1 (2 : Int32)) (sq : h0.size ≤ q) (sb1 : h0.size ≤ b1) (sa1 : h0.size ≤ a1) : own_Goes p e below s 32 320 (Q_own_law Z u1 u2 u3 h0 n0) T0 (mkF m 68 #[iv u1, iv u2, iv u3, rv q, iv (0 : Int32)] []) := by
  obtain ⟨hx, hZ, hw, hby, hml, hown, hnm, hlk, hret, Z0⟩ := id H
  by_cases ho : (((u3).toUInt32 >>> ((4 : Int32) &&& 31).toUInt32).toInt32 &&& (1 : Int32)) = (0 : Int32)
  · refine own_lv4 u1 u2 u3 q (0 : Int32) X0 H e0 (own_sR1z l Z a0 hw [] ((0 : Int32)) (((u3).toUInt32 >>> ((4 : Int32) &&& 31).toUInt32).toInt32) (q) ((u1 &&& (3 : Int32))) ((u2 &&& (3 : Int32))) ((0 : Int32)) ((0 : Int32)) (b1) (a1) ((2 : Int32)) h1 n0 (Nat.le_trans Z0 K0.1) B0 (own_and3 u1) (own_and3 u2) (by decide) ho (by decide) (by decide) (by decide)) (by decide) (by decide) (by decide) (by decide) ?_
    intro v T' L X' q'
    obtain ⟨rfl, N', e'⟩ := q'
    exact ⟨(0 : Int32), rfl, own_g5_2_0_0 u1 u2 u3 q b1 a1 X' H e' (Fr.app N0 N') K0 B0 sq sb1 sa1⟩
  · refine own_lv4 u1 u2 u3 q (0 : Int32) X0 H e0 (own_sA1n l Z a0 hw [] ((0 : Int32)) (((u3).toUInt32 >>> ((4 : Int32) &&& 31).toUInt32).toInt32) (q) ((u1 &&& (3 : Int32))) ((u2 &&& (3 : Int32))) ((0 : Int32)) ((0 : Int32)) (b1) (a1) ((2 : Int32)) h1 n0 (Nat.le_trans Z0 K0.1) B0 (own_and3 u1) (own_and3 u2) (by decide) ho (by decide) (by decide) (by decide)) (by decide) (by decide) (by decide) (by decide) ?_
    intro v T' L X' q'
    obtain ⟨rfl, N', K', f'⟩ := q'
    exact ⟨(1 : Int32), rfl, own_g5_2_0_1 u1 u2 u3 q b1 a1 X' H rfl (Fr.app N0 N') (K0.trans K' (allS (Or.inr sq) all0)) f' sq sb1 sa1⟩
set_option maxRecDepth 65536 in
set_option maxHeartbeats 40000000 in
theorem own_g4_2_0_1 {p : Program} {l : Launch} {e : Env} {s : State} {m : MethodId} {args : Array Value} {below : List Frame} {meth : Method} {c : Code} {T0 : State} {locs : List Loc} {Z : State} {a0 : Array Value} {h0 h1 : Heap} {n0 : Nat} (u1 u2 u3 : Int32) (q b1 a1 : Addr) (X0 : Stand p l e room_1 s m args below meth c T0 locs 4 22) (H : own_Cx p s m meth c Z a0 n0 h0) (e0 : T0.heap = h1) (N0 : Fr n0 locs) (K0 : Keep h0 h1 []) (B0 : own_Q1 Z h1 q n0 (u1 &&& (3 : Int32)) (u2 &&& (3 : Int32)) (0 : Int32) (1 : Int32) b1 a1 (2 : Int32)) (sq : h0.size ≤ q) (sb1 : h0.size ≤ b1) (sa1 : h0.size ≤ a1) : own_Goes p e below s 32 320 (Q_own_law Z u1 u2 u3 h0 n0) T0 (mkF m 68 #[iv u1, iv u2, iv u3, rv q, iv (1 : Int32)] []) := by
  obtain ⟨hx, hZ, hw, hby, hml, hown, hnm, hlk, hret, Z0⟩ := id H
  by_cases ho : (((u3).toUInt32 >>> ((4 : Int32) &&& 31).toUInt32).toInt32 &&& (1 : Int32)) = (0 : Int32)
  · refine own_lv4 u1 u2 u3 q (1 : Int32) X0 H e0 (own_sR1e l Z a0 hw [] ((1 : Int32)) (((u3).toUInt32 >>> ((4 : Int32) &&& 31).toUInt32).toInt32) (q) ((u1 &&& (3 : Int32))) ((u2 &&& (3 : Int32))) ((0 : Int32)) ((1 : Int32)) (b1) (a1) ((2 : Int32)) h1 n0 (Nat.le_trans Z0 K0.1) B0 (own_and3 u1) (own_and3 u2) (by decide) ho (by decide) (by decide) (by decide) (by decide) (by decide) (by decide) (by decide)) (by decide) (by decide) (by decide) (by decide) ?_
    intro v T' L X' q'
    obtain ⟨rfl, N', K', f'⟩ := q'
    exact ⟨(0 : Int32), rfl, own_g5_2_0_0 u1 u2 u3 q b1 a1 X' H rfl (Fr.app N0 N') (K0.trans K' (allS (Or.inr sq) (allS (Or.inr sa1) all0))) f' sq sb1 sa1⟩
  · refine own_lv4 u1 u2 u3 q (1 : Int32) X0 H e0 (own_sA1n l Z a0 hw [] ((1 : Int32)) (((u3).toUInt32 >>> ((4 : Int32) &&& 31).toUInt32).toInt32) (q) ((u1 &&& (3 : Int32))) ((u2 &&& (3 : Int32))) ((0 : Int32)) ((1 : Int32)) (b1) (a1) ((2 : Int32)) h1 n0 (Nat.le_trans Z0 K0.1) B0 (own_and3 u1) (own_and3 u2) (by decide) ho (by decide) (by decide) (by decide)) (by decide) (by decide) (by decide) (by decide) ?_
    intro v T' L X' q'
    obtain ⟨rfl, N', K', f'⟩ := q'
    exact ⟨(2 : Int32), rfl, own_g5_2_0_2 u1 u2 u3 q b1 a1 X' H rfl (Fr.app N0 N') (K0.trans K' (allS (Or.inr sq) all0)) f' sq sb1 sa1⟩
set_option maxRecDepth 65536 in
set_option maxHeartbeats 40000000 in
theorem own_g4_2_0_2 {p : Program} {l : Launch} {e : Env} {s : State} {m : MethodId} {args : Array Value} {below : List Frame} {meth : Method} {c : Code} {T0 : State} {locs : List Loc} {Z : State} {a0 : Array Value} {h0 h1 : Heap} {n0 : Nat} (u1 u2 u3 : Int32) (q b1 a1 : Addr) (X0 : Stand p l e room_1 s m args below meth c T0 locs 4 22) (H : own_Cx p s m meth c Z a0 n0 h0) (e0 : T0.heap = h1) (N0 : Fr n0 locs) (K0 : Keep h0 h1 []) (B0 : own_Q1 Z h1 q n0 (u1 &&& (3 : Int32)) (u2 &&& (3 : Int32)) (0 : Int32) (2 : Int32) b1 a1 (2 : Int32)) (sq : h0.size ≤ q) (sb1 : h0.size ≤ b1) (sa1 : h0.size ≤ a1) : own_Goes p e below s 32 320 (Q_own_law Z u1 u2 u3 h0 n0) T0 (mkF m 68 #[iv u1, iv u2, iv u3, rv q, iv (2 : Int32)] []) := by
  obtain ⟨hx, hZ, hw, hby, hml, hown, hnm, hlk, hret, Z0⟩ := id H
  by_cases ho : (((u3).toUInt32 >>> ((4 : Int32) &&& 31).toUInt32).toInt32 &&& (1 : Int32)) = (0 : Int32)
  · refine own_lv4 u1 u2 u3 q (2 : Int32) X0 H e0 (own_sR1n l Z a0 hw [] ((2 : Int32)) (((u3).toUInt32 >>> ((4 : Int32) &&& 31).toUInt32).toInt32) (q) ((u1 &&& (3 : Int32))) ((u2 &&& (3 : Int32))) ((0 : Int32)) ((2 : Int32)) (b1) (a1) ((2 : Int32)) h1 n0 (Nat.le_trans Z0 K0.1) B0 (own_and3 u1) (own_and3 u2) (by decide) ho (by decide) (by decide) (by decide) (by decide) (by decide) (by decide) (by decide) (by decide)) (by decide) (by decide) (by decide) (by decide) ?_
    intro v T' L X' q'
    obtain ⟨rfl, N', K', f'⟩ := q'
    exact ⟨(1 : Int32), rfl, own_g5_2_1_2 u1 u2 u3 q b1 a1 X' H rfl (Fr.app N0 N') (K0.trans K' (allS (Or.inr sq) (allS (Or.inr sa1) all0))) f' sq sb1 sa1⟩
  · refine own_lv4 u1 u2 u3 q (2 : Int32) X0 H e0 (own_sA1a2 l Z a0 hw [] ((2 : Int32)) (((u3).toUInt32 >>> ((4 : Int32) &&& 31).toUInt32).toInt32) (q) ((u1 &&& (3 : Int32))) ((u2 &&& (3 : Int32))) ((0 : Int32)) (b1) (a1) h1 n0 (Nat.le_trans Z0 K0.1) B0 (own_and3 u1) (own_and3 u2) (by decide) ho (by decide)) (by decide) (by decide) (by decide) (by decide) ?_
    intro v T' L X' q'
    obtain ⟨nb2, na2, rfl, N', K', f', t0, t1⟩ := q'
    exact ⟨(3 : Int32), rfl, own_g5_24_0_1 u1 u2 u3 q b1 a1 nb2 na2 X' H rfl (Fr.app N0 N') (K0.trans K' (allS (Or.inr sq) (allS (Or.inr sb1) all0))) f' sq sb1 sa1 (Nat.le_trans K0.1 t0) (Nat.le_trans K0.1 t1)⟩
set_option maxRecDepth 65536 in
set_option maxHeartbeats 40000000 in
theorem own_g4_2_1_2 {p : Program} {l : Launch} {e : Env} {s : State} {m : MethodId} {args : Array Value} {below : List Frame} {meth : Method} {c : Code} {T0 : State} {locs : List Loc} {Z : State} {a0 : Array Value} {h0 h1 : Heap} {n0 : Nat} (u1 u2 u3 : Int32) (q b1 a1 : Addr) (X0 : Stand p l e room_1 s m args below meth c T0 locs 4 22) (H : own_Cx p s m meth c Z a0 n0 h0) (e0 : T0.heap = h1) (N0 : Fr n0 locs) (K0 : Keep h0 h1 []) (B0 : own_Q1 Z h1 q n0 (u1 &&& (3 : Int32)) (u2 &&& (3 : Int32)) (1 : Int32) (2 : Int32) b1 a1 (2 : Int32)) (sq : h0.size ≤ q) (sb1 : h0.size ≤ b1) (sa1 : h0.size ≤ a1) : own_Goes p e below s 32 320 (Q_own_law Z u1 u2 u3 h0 n0) T0 (mkF m 68 #[iv u1, iv u2, iv u3, rv q, iv (1 : Int32)] []) := by
  obtain ⟨hx, hZ, hw, hby, hml, hown, hnm, hlk, hret, Z0⟩ := id H
  by_cases ho : (((u3).toUInt32 >>> ((4 : Int32) &&& 31).toUInt32).toInt32 &&& (1 : Int32)) = (0 : Int32)
  · refine own_lv4 u1 u2 u3 q (1 : Int32) X0 H e0 (own_sR1e l Z a0 hw [] ((1 : Int32)) (((u3).toUInt32 >>> ((4 : Int32) &&& 31).toUInt32).toInt32) (q) ((u1 &&& (3 : Int32))) ((u2 &&& (3 : Int32))) ((1 : Int32)) ((2 : Int32)) (b1) (a1) ((2 : Int32)) h1 n0 (Nat.le_trans Z0 K0.1) B0 (own_and3 u1) (own_and3 u2) (by decide) ho (by decide) (by decide) (by decide) (by decide) (by decide) (by decide) (by decide)) (by decide) (by decide) (by decide) (by decide) ?_
    intro v T' L X' q'
    obtain ⟨rfl, N', K', f'⟩ := q'
    exact ⟨(0 : Int32), rfl, own_g5_2_0_0 u1 u2 u3 q b1 a1 X' H rfl (Fr.app N0 N') (K0.trans K' (allS (Or.inr sq) (allS (Or.inr sa1) all0))) f' sq sb1 sa1⟩
  · refine own_lv4 u1 u2 u3 q (1 : Int32) X0 H e0 (own_sA1a2 l Z a0 hw [] ((1 : Int32)) (((u3).toUInt32 >>> ((4 : Int32) &&& 31).toUInt32).toInt32) (q) ((u1 &&& (3 : Int32))) ((u2 &&& (3 : Int32))) ((1 : Int32)) (b1) (a1) h1 n0 (Nat.le_trans Z0 K0.1) B0 (own_and3 u1) (own_and3 u2) (by decide) ho (by decide)) (by decide) (by decide) (by decide) (by decide) ?_
    intro v T' L X' q'
    obtain ⟨nb2, na2, rfl, N', K', f', t0, t1⟩ := q'
    exact ⟨(2 : Int32), rfl, own_g5_24_1_1 u1 u2 u3 q b1 a1 nb2 na2 X' H rfl (Fr.app N0 N') (K0.trans K' (allS (Or.inr sq) (allS (Or.inr sb1) all0))) f' sq sb1 sa1 (Nat.le_trans K0.1 t0) (Nat.le_trans K0.1 t1)⟩
set_option maxRecDepth 65536 in
set_option maxHeartbeats 40000000 in
theorem own_g4_24_0_1 {p : Program} {l : Launch} {e : Env} {s : State} {m : MethodId} {args : Array Value} {below : List Frame} {meth : Method} {c : Code} {T0 : State} {locs : List Loc} {Z : State} {a0 : Array Value} {h0 h1 : Heap} {n0 : Nat} (u1 u2 u3 : Int32) (q b1 a1 b2 a2 : Addr) (X0 : Stand p l e room_1 s m args below meth c T0 locs 7 50) (H : own_Cx p s m meth c Z a0 n0 h0) (e0 : T0.heap = h1) (N0 : Fr n0 locs) (K0 : Keep h0 h1 []) (B0 : own_Q2 Z h1 q n0 (u1 &&& (3 : Int32)) (u2 &&& (3 : Int32)) (0 : Int32) (1 : Int32) b1 a1 (2 : Int32) b2 a2 (4 : Int32)) (sq : h0.size ≤ q) (sb1 : h0.size ≤ b1) (sa1 : h0.size ≤ a1) (sb2 : h0.size ≤ b2) (sa2 : h0.size ≤ a2) : own_Goes p e below s 32 320 (Q_own_law Z u1 u2 u3 h0 n0) T0 (mkF m 68 #[iv u1, iv u2, iv u3, rv q, iv (3 : Int32)] []) := by
  obtain ⟨hx, hZ, hw, hby, hml, hown, hnm, hlk, hret, Z0⟩ := id H
  by_cases ho : (((u3).toUInt32 >>> ((4 : Int32) &&& 31).toUInt32).toInt32 &&& (1 : Int32)) = (0 : Int32)
  · refine own_lv4 u1 u2 u3 q (3 : Int32) X0 H e0 (own_sR2n l Z a0 hw [] ((3 : Int32)) (((u3).toUInt32 >>> ((4 : Int32) &&& 31).toUInt32).toInt32) (q) ((u1 &&& (3 : Int32))) ((u2 &&& (3 : Int32))) ((0 : Int32)) ((1 : Int32)) (b1) (a1) ((2 : Int32)) (b2) (a2) ((4 : Int32)) h1 n0 (Nat.le_trans Z0 K0.1) B0 (own_and3 u1) (own_and3 u2) (by decide) ho (by decide) (by decide) (by decide) (by decide) (by decide) (by decide)) (by decide) (by decide) (by decide) (by decide) ?_
    intro v T' L X' q'
    obtain ⟨rfl, N', K', f'⟩ := q'
    exact ⟨(2 : Int32), rfl, own_g5_24_1_1 u1 u2 u3 q b1 a1 b2 a2 X' H rfl (Fr.app N0 N') (K0.trans K' (allS (Or.inr sq) (allS (Or.inr sa1) all0))) f' sq sb1 sa1 sb2 sa2⟩
  · refine own_lv4 u1 u2 u3 q (3 : Int32) X0 H e0 (own_sA2n l Z a0 hw [] ((3 : Int32)) (((u3).toUInt32 >>> ((4 : Int32) &&& 31).toUInt32).toInt32) (q) ((u1 &&& (3 : Int32))) ((u2 &&& (3 : Int32))) ((0 : Int32)) ((1 : Int32)) (b1) (a1) ((2 : Int32)) (b2) (a2) ((4 : Int32)) h1 n0 (Nat.le_trans Z0 K0.1) B0 (own_and3 u1) (own_and3 u2) (by decide) ho (by decide) (by decide)) (by decide) (by decide) (by decide) (by decide) ?_
    intro v T' L X' q'
    obtain ⟨rfl, N', K', f'⟩ := q'
    exact ⟨(4 : Int32), rfl, own_g5_24_0_2 u1 u2 u3 q b1 a1 b2 a2 X' H rfl (Fr.app N0 N') (K0.trans K' (allS (Or.inr sq) all0)) f' sq sb1 sa1 sb2 sa2⟩
set_option maxRecDepth 65536 in
set_option maxHeartbeats 40000000 in
theorem own_g4_24_0_2 {p : Program} {l : Launch} {e : Env} {s : State} {m : MethodId} {args : Array Value} {below : List Frame} {meth : Method} {c : Code} {T0 : State} {locs : List Loc} {Z : State} {a0 : Array Value} {h0 h1 : Heap} {n0 : Nat} (u1 u2 u3 : Int32) (q b1 a1 b2 a2 : Addr) (X0 : Stand p l e room_1 s m args below meth c T0 locs 7 50) (H : own_Cx p s m meth c Z a0 n0 h0) (e0 : T0.heap = h1) (N0 : Fr n0 locs) (K0 : Keep h0 h1 []) (B0 : own_Q2 Z h1 q n0 (u1 &&& (3 : Int32)) (u2 &&& (3 : Int32)) (0 : Int32) (2 : Int32) b1 a1 (2 : Int32) b2 a2 (4 : Int32)) (sq : h0.size ≤ q) (sb1 : h0.size ≤ b1) (sa1 : h0.size ≤ a1) (sb2 : h0.size ≤ b2) (sa2 : h0.size ≤ a2) : own_Goes p e below s 32 320 (Q_own_law Z u1 u2 u3 h0 n0) T0 (mkF m 68 #[iv u1, iv u2, iv u3, rv q, iv (4 : Int32)] []) := by
  obtain ⟨hx, hZ, hw, hby, hml, hown, hnm, hlk, hret, Z0⟩ := id H
  by_cases ho : (((u3).toUInt32 >>> ((4 : Int32) &&& 31).toUInt32).toInt32 &&& (1 : Int32)) = (0 : Int32)
  · refine own_lv4 u1 u2 u3 q (4 : Int32) X0 H e0 (own_sR2n l Z a0 hw [] ((4 : Int32)) (((u3).toUInt32 >>> ((4 : Int32) &&& 31).toUInt32).toInt32) (q) ((u1 &&& (3 : Int32))) ((u2 &&& (3 : Int32))) ((0 : Int32)) ((2 : Int32)) (b1) (a1) ((2 : Int32)) (b2) (a2) ((4 : Int32)) h1 n0 (Nat.le_trans Z0 K0.1) B0 (own_and3 u1) (own_and3 u2) (by decide) ho (by decide) (by decide) (by decide) (by decide) (by decide) (by decide)) (by decide) (by decide) (by decide) (by decide) ?_
    intro v T' L X' q'
    obtain ⟨rfl, N', K', f'⟩ := q'
    exact ⟨(3 : Int32), rfl, own_g5_24_1_2 u1 u2 u3 q b1 a1 b2 a2 X' H rfl (Fr.app N0 N') (K0.trans K' (allS (Or.inr sq) (allS (Or.inr sa1) all0))) f' sq sb1 sa1 sb2 sa2⟩
  · refine own_lv4 u1 u2 u3 q (4 : Int32) X0 H e0 (own_sA2n l Z a0 hw [] ((4 : Int32)) (((u3).toUInt32 >>> ((4 : Int32) &&& 31).toUInt32).toInt32) (q) ((u1 &&& (3 : Int32))) ((u2 &&& (3 : Int32))) ((0 : Int32)) ((2 : Int32)) (b1) (a1) ((2 : Int32)) (b2) (a2) ((4 : Int32)) h1 n0 (Nat.le_trans Z0 K0.1) B0 (own_and3 u1) (own_and3 u2) (by decide) ho (by decide) (by decide)) (by decide) (by decide) (by decide) (by decide) ?_
    intro v T' L X' q'
    obtain ⟨rfl, N', K', f'⟩ := q'
    exact ⟨(5 : Int32), rfl, own_g5_24_0_3 u1 u2 u3 q b1 a1 b2 a2 X' H rfl (Fr.app N0 N') (K0.trans K' (allS (Or.inr sq) all0)) f' sq sb1 sa1 sb2 sa2⟩
set_option maxRecDepth 65536 in
set_option maxHeartbeats 40000000 in
theorem own_g4_24_1_1 {p : Program} {l : Launch} {e : Env} {s : State} {m : MethodId} {args : Array Value} {below : List Frame} {meth : Method} {c : Code} {T0 : State} {locs : List Loc} {Z : State} {a0 : Array Value} {h0 h1 : Heap} {n0 : Nat} (u1 u2 u3 : Int32) (q b1 a1 b2 a2 : Addr) (X0 : Stand p l e room_1 s m args below meth c T0 locs 7 50) (H : own_Cx p s m meth c Z a0 n0 h0) (e0 : T0.heap = h1) (N0 : Fr n0 locs) (K0 : Keep h0 h1 []) (B0 : own_Q2 Z h1 q n0 (u1 &&& (3 : Int32)) (u2 &&& (3 : Int32)) (1 : Int32) (1 : Int32) b1 a1 (2 : Int32) b2 a2 (4 : Int32)) (sq : h0.size ≤ q) (sb1 : h0.size ≤ b1) (sa1 : h0.size ≤ a1) (sb2 : h0.size ≤ b2) (sa2 : h0.size ≤ a2) : own_Goes p e below s 32 320 (Q_own_law Z u1 u2 u3 h0 n0) T0 (mkF m 68 #[iv u1, iv u2, iv u3, rv q, iv (2 : Int32)] []) := by
  obtain ⟨hx, hZ, hw, hby, hml, hown, hnm, hlk, hret, Z0⟩ := id H
  by_cases ho : (((u3).toUInt32 >>> ((4 : Int32) &&& 31).toUInt32).toInt32 &&& (1 : Int32)) = (0 : Int32)
  · refine own_lv4 u1 u2 u3 q (2 : Int32) X0 H e0 (own_sR2a l Z a0 hw [] ((2 : Int32)) (((u3).toUInt32 >>> ((4 : Int32) &&& 31).toUInt32).toInt32) (q) ((u1 &&& (3 : Int32))) ((u2 &&& (3 : Int32))) ((1 : Int32)) ((1 : Int32)) (b1) (a1) ((2 : Int32)) (b2) (a2) ((4 : Int32)) h1 n0 (Nat.le_trans Z0 K0.1) B0 (own_and3 u1) (own_and3 u2) (by decide) ho (by decide) (by decide) (by decide) (by decide) (by decide) (by decide) (by decide)) (by decide) (by decide) (by decide) (by decide) ?_
    intro v T' L X' q'
    obtain ⟨rfl, N', K', f'⟩ := q'
    exact ⟨(1 : Int32), rfl, own_g5_4_0_1 u1 u2 u3 q b2 a2 X' H rfl (Fr.app N0 N') (K0.trans K' (allS (Or.inr sq) (allS (Or.inr sa1) all0))) f' sq sb2 sa2⟩
  · refine own_lv4 u1 u2 u3 q (2 : Int32) X0 H e0 (own_sA2n l Z a0 hw [] ((2 : Int32)) (((u3).toUInt32 >>> ((4 : Int32) &&& 31).toUInt32).toInt32) (q) ((u1 &&& (3 : Int32))) ((u2 &&& (3 : Int32))) ((1 : Int32)) ((1 : Int32)) (b1) (a1) ((2 : Int32)) (b2) (a2) ((4 : Int32)) h1 n0 (Nat.le_trans Z0 K0.1) B0 (own_and3 u1) (own_and3 u2) (by decide) ho (by decide) (by decide)) (by decide) (by decide) (by decide) (by decide) ?_
    intro v T' L X' q'
    obtain ⟨rfl, N', K', f'⟩ := q'
    exact ⟨(3 : Int32), rfl, own_g5_24_1_2 u1 u2 u3 q b1 a1 b2 a2 X' H rfl (Fr.app N0 N') (K0.trans K' (allS (Or.inr sq) all0)) f' sq sb1 sa1 sb2 sa2⟩
set_option maxRecDepth 65536 in
set_option maxHeartbeats 40000000 in
theorem own_g3_e_0_0 {p : Program} {l : Launch} {e : Env} {s : State} {m : MethodId} {args : Array Value} {below : List Frame} {meth : Method} {c : Code} {T0 : State} {locs : List Loc} {Z : State} {a0 : Array Value} {h0 h1 : Heap} {n0 : Nat} (u1 u2 u3 : Int32) (q : Addr) (X0 : Stand p l e room_1 s m args below meth c T0 locs 1 6) (H : own_Cx p s m meth c Z a0 n0 h0) (e0 : T0.heap = h1) (N0 : Fr n0 locs) (K0 : Keep h0 h1 []) (B0 : own_Q0 Z h1 q n0 (u1 &&& (3 : Int32)) (u2 &&& (3 : Int32))) (sq : h0.size ≤ q) : own_Goes p e below s 32 320 (Q_own_law Z u1 u2 u3 h0 n0) T0 (mkF m 57 #[iv u1, iv u2, iv u3, rv q, iv (0 : Int32)] []) := by
  obtain ⟨hx, hZ, hw, hby, hml, hown, hnm, hlk, hret, Z0⟩ := id H
  by_cases ho : (((u3).toUInt32 >>> ((3 : Int32) &&& 31).toUInt32).toInt32 &&& (1 : Int32)) = (0 : Int32)
  · refine own_lv3 u1 u2 u3 q (0 : Int32) X0 H e0 (own_sR0 l Z a0 hw [] ((0 : Int32)) (((u3).toUInt32 >>> ((3 : Int32) &&& 31).toUInt32).toInt32) (q) ((u1 &&& (3 : Int32))) ((u2 &&& (3 : Int32))) h1 n0 (Nat.le_trans Z0 K0.1) B0 (own_and3 u1) (own_and3 u2) (by decide) ho (by decide) (by decide)) (by decide) (by decide) (by decide) (by decide) ?_
    intro v T' L X' q'
    obtain ⟨rfl, N', e'⟩ := q'
    exact ⟨(0 : Int32), rfl, own_g4_e_0_0 u1 u2 u3 q  X' H e' (Fr.app N0 N') K0 B0 sq ⟩
  · refine own_lv3 u1 u2 u3 q (0 : Int32) X0 H e0 (own_sA0 l Z a0 hw [] ((0 : Int32)) (((u3).toUInt32 >>> ((3 : Int32) &&& 31).toUInt32).toInt32) (q) ((u1 &&& (3 : Int32))) ((u2 &&& (3 : Int32))) h1 n0 (Nat.le_trans Z0 K0.1) B0 (own_and3 u1) (own_and3 u2) (by decide) ho (by decide)) (by decide) (by decide) (by decide) (by decide) ?_
    intro v T' L X' q'
    obtain ⟨nb1, na1, rfl, N', K', f', t0, t1⟩ := q'
    exact ⟨(1 : Int32), rfl, own_g4_2_0_1 u1 u2 u3 q nb1 na1 X' H rfl (Fr.app N0 N') (K0.trans K' (allS (Or.inr sq) all0)) f' sq (Nat.le_trans K0.1 t0) (Nat.le_trans K0.1 t1)⟩
set_option maxRecDepth 65536 in
set_option maxHeartbeats 40000000 in
theorem own_g3_2_0_0 {p : Program} {l : Launch} {e : Env} {s : State} {m : MethodId} {args : Array Value} {below : List Frame} {meth : Method} {c : Code} {T0 : State} {locs : List Loc} {Z : State} {a0 : Array Value} {h0 h1 : Heap} {n0 : Nat} (u1 u2 u3 : Int32) (q b1 a1 : Addr) (X0 : Stand p l e room_1 s m args below meth c T0 locs 4 22) (H : own_Cx p s m meth c Z a0 n0 h0) (e0 : T0.heap = h1) (N0 : Fr n0 locs) (K0 : Keep h0 h1 []) (B0 : own_Q1 Z h1 q n0 (u1 &&& (3 : Int32)) (u2 &&& (3 : Int32)) (0 : Int32) (0 : Int32) b1 a1 (2 : Int32)) (sq : h0.size ≤ q) (sb1 : h0.size ≤ b1) (sa1 : h0.size ≤ a1) : own_Goes p e below s 32 320 (Q_own_law Z u1 u2 u3 h0 n0) T0 (mkF m 57 #[iv u1, iv u2, iv u3, rv q, iv (0 : Int32)] []) := by
  obtain ⟨hx, hZ, hw, hby, hml, hown, hnm, hlk, hret, Z0⟩ := id H
  by_cases ho : (((u3).toUInt32 >>> ((3 : Int32) &&& 31).toUInt32).toInt32 &&& (1 : Int32)) = (0 : Int32)
  · refine own_lv3 u1 u2 u3 q (0 : Int32) X0 H e0 (own_sR1z l Z a0 hw [] ((0 : Int32)) (((u3).toUInt32 >>> ((3 : Int32) &&& 31).toUInt32).toInt32) (q) ((u1 &&& (3 : Int32))) ((u2 &&& (3 : Int32))) ((0 : Int32)) ((0 : Int32)) (b1) (a1) ((2 : Int32)) h1 n0 (Nat.le_trans Z0 K0.1) B0 (own_and3 u1) (own_and3 u2) (by decide) ho (by decide) (by decide) (by decide)) (by decide) (by decide) (by decide) (by decide) ?_
    intro v T' L X' q'
    obtain ⟨rfl, N', e'⟩ := q'
    exact ⟨(0 : Int32), rfl, own_g4_2_0_0 u1 u2 u3 q b1 a1 X' H e' (Fr.app N0 N') K0 B0 sq sb1 sa1⟩
  · refine own_lv3 u1 u2 u3 q (0 : Int32) X0 H e0 (own_sA1n l Z a0 hw [] ((0 : Int32)) (((u3).toUInt32 >>> ((3 : Int32) &&& 31).toUInt32).toInt32) (q) ((u1 &&& (3 : Int32))) ((u2 &&& (3 : Int32))) ((0 : Int32)) ((0 : Int32)) (b1) (a1) ((2 : Int32)) h1 n0 (Nat.le_trans Z0 K0.1) B0 (own_and3 u1) (own_and3 u2) (by decide) ho (by decide) (by decide) (by decide)) (by decide) (by decide) (by decide) (by decide) ?_
    intro v T' L X' q'
    obtain ⟨rfl, N', K', f'⟩ := q'
    exact ⟨(1 : Int32), rfl, own_g4_2_0_1 u1 u2 u3 q b1 a1 X' H rfl (Fr.app N0 N') (K0.trans K' (allS (Or.inr sq) all0)) f' sq sb1 sa1⟩
set_option maxRecDepth 65536 in
set_option maxHeartbeats 40000000 in
theorem own_g3_2_0_1 {p : Program} {l : Launch} {e : Env} {s : State} {m : MethodId} {args : Array Value} {below : List Frame} {meth : Method} {c : Code} {T0 : State} {locs : List Loc} {Z : State} {a0 : Array Value} {h0 h1 : Heap} {n0 : Nat} (u1 u2 u3 : Int32) (q b1 a1 : Addr) (X0 : Stand p l e room_1 s m args below meth c T0 locs 4 22) (H : own_Cx p s m meth c Z a0 n0 h0) (e0 : T0.heap = h1) (N0 : Fr n0 locs) (K0 : Keep h0 h1 []) (B0 : own_Q1 Z h1 q n0 (u1 &&& (3 : Int32)) (u2 &&& (3 : Int32)) (0 : Int32) (1 : Int32) b1 a1 (2 : Int32)) (sq : h0.size ≤ q) (sb1 : h0.size ≤ b1) (sa1 : h0.size ≤ a1) : own_Goes p e below s 32 320 (Q_own_law Z u1 u2 u3 h0 n0) T0 (mkF m 57 #[iv u1, iv u2, iv u3, rv q, iv (1 : Int32)] []) := by
  obtain ⟨hx, hZ, hw, hby, hml, hown, hnm, hlk, hret, Z0⟩ := id H
  by_cases ho : (((u3).toUInt32 >>> ((3 : Int32) &&& 31).toUInt32).toInt32 &&& (1 : Int32)) = (0 : Int32)
  · refine own_lv3 u1 u2 u3 q (1 : Int32) X0 H e0 (own_sR1e l Z a0 hw [] ((1 : Int32)) (((u3).toUInt32 >>> ((3 : Int32) &&& 31).toUInt32).toInt32) (q) ((u1 &&& (3 : Int32))) ((u2 &&& (3 : Int32))) ((0 : Int32)) ((1 : Int32)) (b1) (a1) ((2 : Int32)) h1 n0 (Nat.le_trans Z0 K0.1) B0 (own_and3 u1) (own_and3 u2) (by decide) ho (by decide) (by decide) (by decide) (by decide) (by decide) (by decide) (by decide)) (by decide) (by decide) (by decide) (by decide) ?_
    intro v T' L X' q'
    obtain ⟨rfl, N', K', f'⟩ := q'
    exact ⟨(0 : Int32), rfl, own_g4_2_0_0 u1 u2 u3 q b1 a1 X' H rfl (Fr.app N0 N') (K0.trans K' (allS (Or.inr sq) (allS (Or.inr sa1) all0))) f' sq sb1 sa1⟩
  · refine own_lv3 u1 u2 u3 q (1 : Int32) X0 H e0 (own_sA1n l Z a0 hw [] ((1 : Int32)) (((u3).toUInt32 >>> ((3 : Int32) &&& 31).toUInt32).toInt32) (q) ((u1 &&& (3 : Int32))) ((u2 &&& (3 : Int32))) ((0 : Int32)) ((1 : Int32)) (b1) (a1) ((2 : Int32)) h1 n0 (Nat.le_trans Z0 K0.1) B0 (own_and3 u1) (own_and3 u2) (by decide) ho (by decide) (by decide) (by decide)) (by decide) (by decide) (by decide) (by decide) ?_
    intro v T' L X' q'
    obtain ⟨rfl, N', K', f'⟩ := q'
    exact ⟨(2 : Int32), rfl, own_g4_2_0_2 u1 u2 u3 q b1 a1 X' H rfl (Fr.app N0 N') (K0.trans K' (allS (Or.inr sq) all0)) f' sq sb1 sa1⟩
set_option maxRecDepth 65536 in
set_option maxHeartbeats 40000000 in
theorem own_g3_2_0_2 {p : Program} {l : Launch} {e : Env} {s : State} {m : MethodId} {args : Array Value} {below : List Frame} {meth : Method} {c : Code} {T0 : State} {locs : List Loc} {Z : State} {a0 : Array Value} {h0 h1 : Heap} {n0 : Nat} (u1 u2 u3 : Int32) (q b1 a1 : Addr) (X0 : Stand p l e room_1 s m args below meth c T0 locs 4 22) (H : own_Cx p s m meth c Z a0 n0 h0) (e0 : T0.heap = h1) (N0 : Fr n0 locs) (K0 : Keep h0 h1 []) (B0 : own_Q1 Z h1 q n0 (u1 &&& (3 : Int32)) (u2 &&& (3 : Int32)) (0 : Int32) (2 : Int32) b1 a1 (2 : Int32)) (sq : h0.size ≤ q) (sb1 : h0.size ≤ b1) (sa1 : h0.size ≤ a1) : own_Goes p e below s 32 320 (Q_own_law Z u1 u2 u3 h0 n0) T0 (mkF m 57 #[iv u1, iv u2, iv u3, rv q, iv (2 : Int32)] []) := by
  obtain ⟨hx, hZ, hw, hby, hml, hown, hnm, hlk, hret, Z0⟩ := id H
  by_cases ho : (((u3).toUInt32 >>> ((3 : Int32) &&& 31).toUInt32).toInt32 &&& (1 : Int32)) = (0 : Int32)
  · refine own_lv3 u1 u2 u3 q (2 : Int32) X0 H e0 (own_sR1n l Z a0 hw [] ((2 : Int32)) (((u3).toUInt32 >>> ((3 : Int32) &&& 31).toUInt32).toInt32) (q) ((u1 &&& (3 : Int32))) ((u2 &&& (3 : Int32))) ((0 : Int32)) ((2 : Int32)) (b1) (a1) ((2 : Int32)) h1 n0 (Nat.le_trans Z0 K0.1) B0 (own_and3 u1) (own_and3 u2) (by decide) ho (by decide) (by decide) (by decide) (by decide) (by decide) (by decide) (by decide) (by decide)) (by decide) (by decide) (by decide) (by decide) ?_
    intro v T' L X' q'
    obtain ⟨rfl, N', K', f'⟩ := q'
    exact ⟨(1 : Int32), rfl, own_g4_2_1_2 u1 u2 u3 q b1 a1 X' H rfl (Fr.app N0 N') (K0.trans K' (allS (Or.inr sq) (allS (Or.inr sa1) all0))) f' sq sb1 sa1⟩
  · refine own_lv3 u1 u2 u3 q (2 : Int32) X0 H e0 (own_sA1a2 l Z a0 hw [] ((2 : Int32)) (((u3).toUInt32 >>> ((3 : Int32) &&& 31).toUInt32).toInt32) (q) ((u1 &&& (3 : Int32))) ((u2 &&& (3 : Int32))) ((0 : Int32)) (b1) (a1) h1 n0 (Nat.le_trans Z0 K0.1) B0 (own_and3 u1) (own_and3 u2) (by decide) ho (by decide)) (by decide) (by decide) (by decide) (by decide) ?_
    intro v T' L X' q'
    obtain ⟨nb2, na2, rfl, N', K', f', t0, t1⟩ := q'
    exact ⟨(3 : Int32), rfl, own_g4_24_0_1 u1 u2 u3 q b1 a1 nb2 na2 X' H rfl (Fr.app N0 N') (K0.trans K' (allS (Or.inr sq) (allS (Or.inr sb1) all0))) f' sq sb1 sa1 (Nat.le_trans K0.1 t0) (Nat.le_trans K0.1 t1)⟩
set_option maxRecDepth 65536 in
set_option maxHeartbeats 40000000 in
theorem own_g3_2_1_2 {p : Program} {l : Launch} {e : Env} {s : State} {m : MethodId} {args : Array Value} {below : List Frame} {meth : Method} {c : Code} {T0 : State} {locs : List Loc} {Z : State} {a0 : Array Value} {h0 h1 : Heap} {n0 : Nat} (u1 u2 u3 : Int32) (q b1 a1 : Addr) (X0 : Stand p l e room_1 s m args below meth c T0 locs 4 22) (H : own_Cx p s m meth c Z a0 n0 h0) (e0 : T0.heap = h1) (N0 : Fr n0 locs) (K0 : Keep h0 h1 []) (B0 : own_Q1 Z h1 q n0 (u1 &&& (3 : Int32)) (u2 &&& (3 : Int32)) (1 : Int32) (2 : Int32) b1 a1 (2 : Int32)) (sq : h0.size ≤ q) (sb1 : h0.size ≤ b1) (sa1 : h0.size ≤ a1) : own_Goes p e below s 32 320 (Q_own_law Z u1 u2 u3 h0 n0) T0 (mkF m 57 #[iv u1, iv u2, iv u3, rv q, iv (1 : Int32)] []) := by
  obtain ⟨hx, hZ, hw, hby, hml, hown, hnm, hlk, hret, Z0⟩ := id H
  by_cases ho : (((u3).toUInt32 >>> ((3 : Int32) &&& 31).toUInt32).toInt32 &&& (1 : Int32)) = (0 : Int32)
  · refine own_lv3 u1 u2 u3 q (1 : Int32) X0 H e0 (own_sR1e l Z a0 hw [] ((1 : Int32)) (((u3).toUInt32 >>> ((3 : Int32) &&& 31).toUInt32).toInt32) (q) ((u1 &&& (3 : Int32))) ((u2 &&& (3 : Int32))) ((1 : Int32)) ((2 : Int32)) (b1) (a1) ((2 : Int32)) h1 n0 (Nat.le_trans Z0 K0.1) B0 (own_and3 u1) (own_and3 u2) (by decide) ho (by decide) (by decide) (by decide) (by decide) (by decide) (by decide) (by decide)) (by decide) (by decide) (by decide) (by decide) ?_
    intro v T' L X' q'
    obtain ⟨rfl, N', K', f'⟩ := q'
    exact ⟨(0 : Int32), rfl, own_g4_2_0_0 u1 u2 u3 q b1 a1 X' H rfl (Fr.app N0 N') (K0.trans K' (allS (Or.inr sq) (allS (Or.inr sa1) all0))) f' sq sb1 sa1⟩
  · refine own_lv3 u1 u2 u3 q (1 : Int32) X0 H e0 (own_sA1a2 l Z a0 hw [] ((1 : Int32)) (((u3).toUInt32 >>> ((3 : Int32) &&& 31).toUInt32).toInt32) (q) ((u1 &&& (3 : Int32))) ((u2 &&& (3 : Int32))) ((1 : Int32)) (b1) (a1) h1 n0 (Nat.le_trans Z0 K0.1) B0 (own_and3 u1) (own_and3 u2) (by decide) ho (by decide)) (by decide) (by decide) (by decide) (by decide) ?_
    intro v T' L X' q'
    obtain ⟨nb2, na2, rfl, N', K', f', t0, t1⟩ := q'
    exact ⟨(2 : Int32), rfl, own_g4_24_1_1 u1 u2 u3 q b1 a1 nb2 na2 X' H rfl (Fr.app N0 N') (K0.trans K' (allS (Or.inr sq) (allS (Or.inr sb1) all0))) f' sq sb1 sa1 (Nat.le_trans K0.1 t0) (Nat.le_trans K0.1 t1)⟩
set_option maxRecDepth 65536 in
set_option maxHeartbeats 40000000 in
theorem own_g3_24_0_1 {p : Program} {l : Launch} {e : Env} {s : State} {m : MethodId} {args : Array Value} {below : List Frame} {meth : Method} {c : Code} {T0 : State} {locs : List Loc} {Z : State} {a0 : Array Value} {h0 h1 : Heap} {n0 : Nat} (u1 u2 u3 : Int32) (q b1 a1 b2 a2 : Addr) (X0 : Stand p l e room_1 s m args below meth c T0 locs 7 50) (H : own_Cx p s m meth c Z a0 n0 h0) (e0 : T0.heap = h1) (N0 : Fr n0 locs) (K0 : Keep h0 h1 []) (B0 : own_Q2 Z h1 q n0 (u1 &&& (3 : Int32)) (u2 &&& (3 : Int32)) (0 : Int32) (1 : Int32) b1 a1 (2 : Int32) b2 a2 (4 : Int32)) (sq : h0.size ≤ q) (sb1 : h0.size ≤ b1) (sa1 : h0.size ≤ a1) (sb2 : h0.size ≤ b2) (sa2 : h0.size ≤ a2) : own_Goes p e below s 32 320 (Q_own_law Z u1 u2 u3 h0 n0) T0 (mkF m 57 #[iv u1, iv u2, iv u3, rv q, iv (3 : Int32)] []) := by
  obtain ⟨hx, hZ, hw, hby, hml, hown, hnm, hlk, hret, Z0⟩ := id H
  by_cases ho : (((u3).toUInt32 >>> ((3 : Int32) &&& 31).toUInt32).toInt32 &&& (1 : Int32)) = (0 : Int32)
  · refine own_lv3 u1 u2 u3 q (3 : Int32) X0 H e0 (own_sR2n l Z a0 hw [] ((3 : Int32)) (((u3).toUInt32 >>> ((3 : Int32) &&& 31).toUInt32).toInt32) (q) ((u1 &&& (3 : Int32))) ((u2 &&& (3 : Int32))) ((0 : Int32)) ((1 : Int32)) (b1) (a1) ((2 : Int32)) (b2) (a2) ((4 : Int32)) h1 n0 (Nat.le_trans Z0 K0.1) B0 (own_and3 u1) (own_and3 u2) (by decide) ho (by decide) (by decide) (by decide) (by decide) (by decide) (by decide)) (by decide) (by decide) (by decide) (by decide) ?_
    intro v T' L X' q'
    obtain ⟨rfl, N', K', f'⟩ := q'
    exact ⟨(2 : Int32), rfl, own_g4_24_1_1 u1 u2 u3 q b1 a1 b2 a2 X' H rfl (Fr.app N0 N') (K0.trans K' (allS (Or.inr sq) (allS (Or.inr sa1) all0))) f' sq sb1 sa1 sb2 sa2⟩
  · refine own_lv3 u1 u2 u3 q (3 : Int32) X0 H e0 (own_sA2n l Z a0 hw [] ((3 : Int32)) (((u3).toUInt32 >>> ((3 : Int32) &&& 31).toUInt32).toInt32) (q) ((u1 &&& (3 : Int32))) ((u2 &&& (3 : Int32))) ((0 : Int32)) ((1 : Int32)) (b1) (a1) ((2 : Int32)) (b2) (a2) ((4 : Int32)) h1 n0 (Nat.le_trans Z0 K0.1) B0 (own_and3 u1) (own_and3 u2) (by decide) ho (by decide) (by decide)) (by decide) (by decide) (by decide) (by decide) ?_
    intro v T' L X' q'
    obtain ⟨rfl, N', K', f'⟩ := q'
    exact ⟨(4 : Int32), rfl, own_g4_24_0_2 u1 u2 u3 q b1 a1 b2 a2 X' H rfl (Fr.app N0 N') (K0.trans K' (allS (Or.inr sq) all0)) f' sq sb1 sa1 sb2 sa2⟩
set_option maxRecDepth 65536 in
set_option maxHeartbeats 40000000 in
theorem own_g2_e_0_0 {p : Program} {l : Launch} {e : Env} {s : State} {m : MethodId} {args : Array Value} {below : List Frame} {meth : Method} {c : Code} {T0 : State} {locs : List Loc} {Z : State} {a0 : Array Value} {h0 h1 : Heap} {n0 : Nat} (u1 u2 u3 : Int32) (q : Addr) (X0 : Stand p l e room_1 s m args below meth c T0 locs 1 6) (H : own_Cx p s m meth c Z a0 n0 h0) (e0 : T0.heap = h1) (N0 : Fr n0 locs) (K0 : Keep h0 h1 []) (B0 : own_Q0 Z h1 q n0 (u1 &&& (3 : Int32)) (u2 &&& (3 : Int32))) (sq : h0.size ≤ q) : own_Goes p e below s 32 320 (Q_own_law Z u1 u2 u3 h0 n0) T0 (mkF m 46 #[iv u1, iv u2, iv u3, rv q, iv (0 : Int32)] []) := by
  obtain ⟨hx, hZ, hw, hby, hml, hown, hnm, hlk, hret, Z0⟩ := id H
  by_cases ho : (((u3).toUInt32 >>> ((2 : Int32) &&& 31).toUInt32).toInt32 &&& (1 : Int32)) = (0 : Int32)
  · refine own_lv2 u1 u2 u3 q (0 : Int32) X0 H e0 (own_sR0 l Z a0 hw [] ((0 : Int32)) (((u3).toUInt32 >>> ((2 : Int32) &&& 31).toUInt32).toInt32) (q) ((u1 &&& (3 : Int32))) ((u2 &&& (3 : Int32))) h1 n0 (Nat.le_trans Z0 K0.1) B0 (own_and3 u1) (own_and3 u2) (by decide) ho (by decide) (by decide)) (by decide) (by decide) (by decide) (by decide) ?_
    intro v T' L X' q'
    obtain ⟨rfl, N', e'⟩ := q'
    exact ⟨(0 : Int32), rfl, own_g3_e_0_0 u1 u2 u3 q  X' H e' (Fr.app N0 N') K0 B0 sq ⟩
  · refine own_lv2 u1 u2 u3 q (0 : Int32) X0 H e0 (own_sA0 l Z a0 hw [] ((0 : Int32)) (((u3).toUInt32 >>> ((2 : Int32) &&& 31).toUInt32).toInt32) (q) ((u1 &&& (3 : Int32))) ((u2 &&& (3 : Int32))) h1 n0 (Nat.le_trans Z0 K0.1) B0 (own_and3 u1) (own_and3 u2) (by decide) ho (by decide)) (by decide) (by decide) (by decide) (by decide) ?_
    intro v T' L X' q'
    obtain ⟨nb1, na1, rfl, N', K', f', t0, t1⟩ := q'
    exact ⟨(1 : Int32), rfl, own_g3_2_0_1 u1 u2 u3 q nb1 na1 X' H rfl (Fr.app N0 N') (K0.trans K' (allS (Or.inr sq) all0)) f' sq (Nat.le_trans K0.1 t0) (Nat.le_trans K0.1 t1)⟩
set_option maxRecDepth 65536 in
set_option maxHeartbeats 40000000 in
theorem own_g2_2_0_0 {p : Program} {l : Launch} {e : Env} {s : State} {m : MethodId} {args : Array Value} {below : List Frame} {meth : Method} {c : Code} {T0 : State} {locs : List Loc} {Z : State} {a0 : Array Value} {h0 h1 : Heap} {n0 : Nat} (u1 u2 u3 : Int32) (q b1 a1 : Addr) (X0 : Stand p l e room_1 s m args below meth c T0 locs 4 22) (H : own_Cx p s m meth c Z a0 n0 h0) (e0 : T0.heap = h1) (N0 : Fr n0 locs) (K0 : Keep h0 h1 []) (B0 : own_Q1 Z h1 q n0 (u1 &&& (3 : Int32)) (u2 &&& (3 : Int32)) (0 : Int32) (0 : Int32) b1 a1 (2 : Int32)) (sq : h0.size ≤ q) (sb1 : h0.size ≤ b1) (sa1 : h0.size ≤ a1) : own_Goes p e below s 32 320 (Q_own_law Z u1 u2 u3 h0 n0) T0 (mkF m 46 #[iv u1, iv u2, iv u3, rv q, iv (0 : Int32)] []) := by
  obtain ⟨hx, hZ, hw, hby, hml, hown, hnm, hlk, hret, Z0⟩ := id H
  by_cases ho : (((u3).toUInt32 >>> ((2 : Int32) &&& 31).toUInt32).toInt32 &&& (1 : Int32)) = (0 : Int32)
  · refine own_lv2 u1 u2 u3 q (0 : Int32) X0 H e0 (own_sR1z l Z a0 hw [] ((0 : Int32)) (((u3).toUInt32 >>> ((2 : Int32) &&& 31).toUInt32).toInt32) (q) ((u1 &&& (3 : Int32))) ((u2 &&& (3 : Int32))) ((0 : Int32)) ((0 : Int32)) (b1) (a1) ((2 : Int32)) h1 n0 (Nat.le_trans Z0 K0.1) B0 (own_and3 u1) (own_and3 u2) (by decide) ho (by decide) (by decide) (by decide)) (by decide) (by decide) (by decide) (by decide) ?_
    intro v T' L X' q'
    obtain ⟨rfl, N', e'⟩ := q'
    exact ⟨(0 : Int32), rfl, own_g3_2_0_0 u1 u2 u3 q b1 a1 X' H e' (Fr.app N0 N') K0 B0 sq sb1 sa1⟩
  · refine own_lv2 u1 u2 u3 q (0 : Int32) X0 H e0 (own_sA1n l Z a0 hw [] ((0 : Int32)) (((u3).toUInt32 >>> ((2 : Int32) &&& 31).toUInt32).toInt32) (q) ((u1 &&& (3 : Int32))) ((u2 &&& (3 : Int32))) ((0 : Int32)) ((0 : Int32)) (b1) (a1) ((2 : Int32)) h1 n0 (Nat.le_trans Z0 K0.1) B0 (own_and3 u1) (own_and3 u2) (by decide) ho (by decide) (by decide) (by decide)) (by decide) (by decide) (by decide) (by decide) ?_
    intro v T' L X' q'
    obtain ⟨rfl, N', K', f'⟩ := q'
    exact ⟨(1 : Int32), rfl, own_g3_2_0_1 u1 u2 u3 q b1 a1 X' H rfl (Fr.app N0 N') (K0.trans K' (allS (Or.inr sq) all0)) f' sq sb1 sa1⟩
set_option maxRecDepth 65536 in
set_option maxHeartbeats 40000000 in
theorem own_g2_2_0_1 {p : Program} {l : Launch} {e : Env} {s : State} {m : MethodId} {args : Array Value} {below : List Frame} {meth : Method} {c : Code} {T0 : State} {locs : List Loc} {Z : State} {a0 : Array Value} {h0 h1 : Heap} {n0 : Nat} (u1 u2 u3 : Int32) (q b1 a1 : Addr) (X0 : Stand p l e room_1 s m args below meth c T0 locs 4 22) (H : own_Cx p s m meth c Z a0 n0 h0) (e0 : T0.heap = h1) (N0 : Fr n0 locs) (K0 : Keep h0 h1 []) (B0 : own_Q1 Z h1 q n0 (u1 &&& (3 : Int32)) (u2 &&& (3 : Int32)) (0 : Int32) (1 : Int32) b1 a1 (2 : Int32)) (sq : h0.size ≤ q) (sb1 : h0.size ≤ b1) (sa1 : h0.size ≤ a1) : own_Goes p e below s 32 320 (Q_own_law Z u1 u2 u3 h0 n0) T0 (mkF m 46 #[iv u1, iv u2, iv u3, rv q, iv (1 : Int32)] []) := by
  obtain ⟨hx, hZ, hw, hby, hml, hown, hnm, hlk, hret, Z0⟩ := id H
  by_cases ho : (((u3).toUInt32 >>> ((2 : Int32) &&& 31).toUInt32).toInt32 &&& (1 : Int32)) = (0 : Int32)
  · refine own_lv2 u1 u2 u3 q (1 : Int32) X0 H e0 (own_sR1e l Z a0 hw [] ((1 : Int32)) (((u3).toUInt32 >>> ((2 : Int32) &&& 31).toUInt32).toInt32) (q) ((u1 &&& (3 : Int32))) ((u2 &&& (3 : Int32))) ((0 : Int32)) ((1 : Int32)) (b1) (a1) ((2 : Int32)) h1 n0 (Nat.le_trans Z0 K0.1) B0 (own_and3 u1) (own_and3 u2) (by decide) ho (by decide) (by decide) (by decide) (by decide) (by decide) (by decide) (by decide)) (by decide) (by decide) (by decide) (by decide) ?_
    intro v T' L X' q'
    obtain ⟨rfl, N', K', f'⟩ := q'
    exact ⟨(0 : Int32), rfl, own_g3_2_0_0 u1 u2 u3 q b1 a1 X' H rfl (Fr.app N0 N') (K0.trans K' (allS (Or.inr sq) (allS (Or.inr sa1) all0))) f' sq sb1 sa1⟩
  · refine own_lv2 u1 u2 u3 q (1 : Int32) X0 H e0 (own_sA1n l Z a0 hw [] ((1 : Int32)) (((u3).toUInt32 >>> ((2 : Int32) &&& 31).toUInt32).toInt32) (q) ((u1 &&& (3 : Int32))) ((u2 &&& (3 : Int32))) ((0 : Int32)) ((1 : Int32)) (b1) (a1) ((2 : Int32)) h1 n0 (Nat.le_trans Z0 K0.1) B0 (own_and3 u1) (own_and3 u2) (by decide) ho (by decide) (by decide) (by decide)) (by decide) (by decide) (by decide) (by decide) ?_
    intro v T' L X' q'
    obtain ⟨rfl, N', K', f'⟩ := q'
    exact ⟨(2 : Int32), rfl, own_g3_2_0_2 u1 u2 u3 q b1 a1 X' H rfl (Fr.app N0 N') (K0.trans K' (allS (Or.inr sq) all0)) f' sq sb1 sa1⟩
set_option maxRecDepth 65536 in
set_option maxHeartbeats 40000000 in
theorem own_g2_2_0_2 {p : Program} {l : Launch} {e : Env} {s : State} {m : MethodId} {args : Array Value} {below : List Frame} {meth : Method} {c : Code} {T0 : State} {locs : List Loc} {Z : State} {a0 : Array Value} {h0 h1 : Heap} {n0 : Nat} (u1 u2 u3 : Int32) (q b1 a1 : Addr) (X0 : Stand p l e room_1 s m args below meth c T0 locs 4 22) (H : own_Cx p s m meth c Z a0 n0 h0) (e0 : T0.heap = h1) (N0 : Fr n0 locs) (K0 : Keep h0 h1 []) (B0 : own_Q1 Z h1 q n0 (u1 &&& (3 : Int32)) (u2 &&& (3 : Int32)) (0 : Int32) (2 : Int32) b1 a1 (2 : Int32)) (sq : h0.size ≤ q) (sb1 : h0.size ≤ b1) (sa1 : h0.size ≤ a1) : own_Goes p e below s 32 320 (Q_own_law Z u1 u2 u3 h0 n0) T0 (mkF m 46 #[iv u1, iv u2, iv u3, rv q, iv (2 : Int32)] []) := by
  obtain ⟨hx, hZ, hw, hby, hml, hown, hnm, hlk, hret, Z0⟩ := id H
  by_cases ho : (((u3).toUInt32 >>> ((2 : Int32) &&& 31).toUInt32).toInt32 &&& (1 : Int32)) = (0 : Int32)
  · refine own_lv2 u1 u2 u3 q (2 : Int32) X0 H e0 (own_sR1n l Z a0 hw [] ((2 : Int32)) (((u3).toUInt32 >>> ((2 : Int32) &&& 31).toUInt32).toInt32) (q) ((u1 &&& (3 : Int32))) ((u2 &&& (3 : Int32))) ((0 : Int32)) ((2 : Int32)) (b1) (a1) ((2 : Int32)) h1 n0 (Nat.le_trans Z0 K0.1) B0 (own_and3 u1) (own_and3 u2) (by decide) ho (by decide) (by decide) (by decide) (by decide) (by decide) (by decide) (by decide) (by decide)) (by decide) (by decide) (by decide) (by decide) ?_
    intro v T' L X' q'
    obtain ⟨rfl, N', K', f'⟩ := q'
    exact ⟨(1 : Int32), rfl, own_g3_2_1_2 u1 u2 u3 q b1 a1 X' H rfl (Fr.app N0 N') (K0.trans K' (allS (Or.inr sq) (allS (Or.inr sa1) all0))) f' sq sb1 sa1⟩
  · refine own_lv2 u1 u2 u3 q (2 : Int32) X0 H e0 (own_sA1a2 l Z a0 hw [] ((2 : Int32)) (((u3).toUInt32 >>> ((2 : Int32) &&& 31).toUInt32).toInt32) (q) ((u1 &&& (3 : Int32))) ((u2 &&& (3 : Int32))) ((0 : Int32)) (b1) (a1) h1 n0 (Nat.le_trans Z0 K0.1) B0 (own_and3 u1) (own_and3 u2) (by decide) ho (by decide)) (by decide) (by decide) (by decide) (by decide) ?_
    intro v T' L X' q'
    obtain ⟨nb2, na2, rfl, N', K', f', t0, t1⟩ := q'
    exact ⟨(3 : Int32), rfl, own_g3_24_0_1 u1 u2 u3 q b1 a1 nb2 na2 X' H rfl (Fr.app N0 N') (K0.trans K' (allS (Or.inr sq) (allS (Or.inr sb1) all0))) f' sq sb1 sa1 (Nat.le_trans K0.1 t0) (Nat.le_trans K0.1 t1)⟩
set_option maxRecDepth 65536 in
set_option maxHeartbeats 40000000 in
theorem own_g1_e_0_0 {p : Program} {l : Launch} {e : Env} {s : State} {m : MethodId} {args : Array Value} {below : List Frame} {meth : Method} {c : Code} {T0 : State} {locs : List Loc} {Z : State} {a0 : Array Value} {h0 h1 : Heap} {n0 : Nat} (u1 u2 u3 : Int32) (q : Addr) (X0 : Stand p l e room_1 s m args below meth c T0 locs 1 6) (H : own_Cx p s m meth c Z a0 n0 h0) (e0 : T0.heap = h1) (N0 : Fr n0 locs) (K0 : Keep h0 h1 []) (B0 : own_Q0 Z h1 q n0 (u1 &&& (3 : Int32)) (u2 &&& (3 : Int32))) (sq : h0.size ≤ q) : own_Goes p e below s 32 320 (Q_own_law Z u1 u2 u3 h0 n0) T0 (mkF m 35 #[iv u1, iv u2, iv u3, rv q, iv (0 : Int32)] []) := by
  obtain ⟨hx, hZ, hw, hby, hml, hown, hnm, hlk, hret, Z0⟩ := id H
  by_cases ho : (((u3).toUInt32 >>> ((1 : Int32) &&& 31).toUInt32).toInt32 &&& (1 : Int32)) = (0 : Int32)
  · refine own_lv1 u1 u2 u3 q (0 : Int32) X0 H e0 (own_sR0 l Z a0 hw [] ((0 : Int32)) (((u3).toUInt32 >>> ((1 : Int32) &&& 31).toUInt32).toInt32) (q) ((u1 &&& (3 : Int32))) ((u2 &&& (3 : Int32))) h1 n0 (Nat.le_trans Z0 K0.1) B0 (own_and3 u1) (own_and3 u2) (by decide) ho (by decide) (by decide)) (by decide) (by decide) (by decide) (by decide) ?_
    intro v T' L X' q'
    obtain ⟨rfl, N', e'⟩ := q'
    exact ⟨(0 : Int32), rfl, own_g2_e_0_0 u1 u2 u3 q  X' H e' (Fr.app N0 N') K0 B0 sq ⟩
  · refine own_lv1 u1 u2 u3 q (0 : Int32) X0 H e0 (own_sA0 l Z a0 hw [] ((0 : Int32)) (((u3).toUInt32 >>> ((1 : Int32) &&& 31).toUInt32).toInt32) (q) ((u1 &&& (3 : Int32))) ((u2 &&& (3 : Int32))) h1 n0 (Nat.le_trans Z0 K0.1) B0 (own_and3 u1) (own_and3 u2) (by decide) ho (by decide)) (by decide) (by decide) (by decide) (by decide) ?_
    intro v T' L X' q'
    obtain ⟨nb1, na1, rfl, N', K', f', t0, t1⟩ := q'
    exact ⟨(1 : Int32), rfl, own_g2_2_0_1 u1 u2 u3 q nb1 na1 X' H rfl (Fr.app N0 N') (K0.trans K' (allS (Or.inr sq) all0)) f' sq (Nat.le_trans K0.1 t0) (Nat.le_trans K0.1 t1)⟩
set_option maxRecDepth 65536 in
set_option maxHeartbeats 40000000 in
theorem own_g1_2_0_1 {p : Program} {l : Launch} {e : Env} {s : State} {m : MethodId} {args : Array Value} {below : List Frame} {meth : Method} {c : Code} {T0 : State} {locs : List Loc} {Z : State} {a0 : Array Value} {h0 h1 : Heap} {n0 : Nat} (u1 u2 u3 : Int32) (q b1 a1 : Addr) (X0 : Stand p l e room_1 s m args below meth c T0 locs 4 22) (H : own_Cx p s m meth c Z a0 n0 h0) (e0 : T0.heap = h1) (N0 : Fr n0 locs) (K0 : Keep h0 h1 []) (B0 : own_Q1 Z h1 q n0 (u1 &&& (3 : Int32)) (u2 &&& (3 : Int32)) (0 : Int32) (1 : Int32) b1 a1 (2 : Int32)) (sq : h0.size ≤ q) (sb1 : h0.size ≤ b1) (sa1 : h0.size ≤ a1) : own_Goes p e below s 32 320 (Q_own_law Z u1 u2 u3 h0 n0) T0 (mkF m 35 #[iv u1, iv u2, iv u3, rv q, iv (1 : Int32)] []) := by
  obtain ⟨hx, hZ, hw, hby, hml, hown, hnm, hlk, hret, Z0⟩ := id H
  by_cases ho : (((u3).toUInt32 >>> ((1 : Int32) &&& 31).toUInt32).toInt32 &&& (1 : Int32)) = (0 : Int32)
  · refine own_lv1 u1 u2 u3 q (1 : Int32) X0 H e0 (own_sR1e l Z a0 hw [] ((1 : Int32)) (((u3).toUInt32 >>> ((1 : Int32) &&& 31).toUInt32).toInt32) (q) ((u1 &&& (3 : Int32))) ((u2 &&& (3 : Int32))) ((0 : Int32)) ((1 : Int32)) (b1) (a1) ((2 : Int32)) h1 n0 (Nat.le_trans Z0 K0.1) B0 (own_and3 u1) (own_and3 u2) (by decide) ho (by decide) (by decide) (by decide) (by decide) (by decide) (by decide) (by decide)) (by decide) (by decide) (by decide) (by decide) ?_
    intro v T' L X' q'
    obtain ⟨rfl, N', K', f'⟩ := q'
    exact ⟨(0 : Int32), rfl, own_g2_2_0_0 u1 u2 u3 q b1 a1 X' H rfl (Fr.app N0 N') (K0.trans K' (allS (Or.inr sq) (allS (Or.inr sa1) all0))) f' sq sb1 sa1⟩
  · refine own_lv1 u1 u2 u3 q (1 : Int32) X0 H e0 (own_sA1n l Z a0 hw [] ((1 : Int32)) (((u3).toUInt32 >>> ((1 : Int32) &&& 31).toUInt32).toInt32) (q) ((u1 &&& (3 : Int32))) ((u2 &&& (3 : Int32))) ((0 : Int32)) ((1 : Int32)) (b1) (a1) ((2 : Int32)) h1 n0 (Nat.le_trans Z0 K0.1) B0 (own_and3 u1) (own_and3 u2) (by decide) ho (by decide) (by decide) (by decide)) (by decide) (by decide) (by decide) (by decide) ?_
    intro v T' L X' q'
    obtain ⟨rfl, N', K', f'⟩ := q'
    exact ⟨(2 : Int32), rfl, own_g2_2_0_2 u1 u2 u3 q b1 a1 X' H rfl (Fr.app N0 N') (K0.trans K' (allS (Or.inr sq) all0)) f' sq sb1 sa1⟩
set_option maxRecDepth 65536 in
set_option maxHeartbeats 40000000 in
theorem own_g0_e_0_0 {p : Program} {l : Launch} {e : Env} {s : State} {m : MethodId} {args : Array Value} {below : List Frame} {meth : Method} {c : Code} {T0 : State} {locs : List Loc} {Z : State} {a0 : Array Value} {h0 h1 : Heap} {n0 : Nat} (u1 u2 u3 : Int32) (q : Addr) (X0 : Stand p l e room_1 s m args below meth c T0 locs 1 6) (H : own_Cx p s m meth c Z a0 n0 h0) (e0 : T0.heap = h1) (N0 : Fr n0 locs) (K0 : Keep h0 h1 []) (B0 : own_Q0 Z h1 q n0 (u1 &&& (3 : Int32)) (u2 &&& (3 : Int32))) (sq : h0.size ≤ q) : own_Goes p e below s 32 320 (Q_own_law Z u1 u2 u3 h0 n0) T0 (mkF m 26 #[iv u1, iv u2, iv u3, rv q, iv (0 : Int32)] []) := by
  obtain ⟨hx, hZ, hw, hby, hml, hown, hnm, hlk, hret, Z0⟩ := id H
  by_cases ho : (u3 &&& (1 : Int32)) = (0 : Int32)
  · refine own_lv0 u1 u2 u3 q (0 : Int32) X0 H e0 (own_sR0 l Z a0 hw [] ((0 : Int32)) (u3) (q) ((u1 &&& (3 : Int32))) ((u2 &&& (3 : Int32))) h1 n0 (Nat.le_trans Z0 K0.1) B0 (own_and3 u1) (own_and3 u2) (by decide) ho (by decide) (by decide)) (by decide) (by decide) (by decide) (by decide) ?_
    intro v T' L X' q'
    obtain ⟨rfl, N', e'⟩ := q'
    exact ⟨(0 : Int32), rfl, own_g1_e_0_0 u1 u2 u3 q  X' H e' (Fr.app N0 N') K0 B0 sq ⟩
  · refine own_lv0 u1 u2 u3 q (0 : Int32) X0 H e0 (own_sA0 l Z a0 hw [] ((0 : Int32)) (u3) (q) ((u1 &&& (3 : Int32))) ((u2 &&& (3 : Int32))) h1 n0 (Nat.le_trans Z0 K0.1) B0 (own_and3 u1) (own_and3 u2) (by decide) ho (by decide)) (by decide) (by decide) (by decide) (by decide) ?_
    intro v T' L X' q'
    obtain ⟨nb1, na1, rfl, N', K', f', t0, t1⟩ := q'
    exact ⟨(1 : Int32), rfl, own_g1_2_0_1 u1 u2 u3 q nb1 na1 X' H rfl (Fr.app N0 N') (K0.trans K' (allS (Or.inr sq) all0)) f' sq (Nat.le_trans K0.1 t0) (Nat.le_trans K0.1 t1)⟩
theorem own_pd7 : parseMethodDescriptor "(II)V" = some ⟨[.int, .int], none⟩ := by decide +kernel
theorem own_ef_own_law (m : MethodId) (u1 : Int32) (u2 : Int32) (u3 : Int32) : entryFrame m #[(.int u1), (.int u2), (.int u3)] maxLocals = mkF m 0 #[iv u1, iv u2, iv u3, .unset, .unset] [] := by first | (simp [entryFrame, mkF, argsToLocals, Value.category, maxLocals]; done) | rfl
set_option maxRecDepth 65536 in
set_option maxHeartbeats 40000000 in
theorem own_law (l : Launch) (Z : State) (a0 : Array Value) (hw : ∀ d ∈ tables_1, d.before a0 Z = true) (ws : List Jvm.Cond) (u1 : Int32) (u2 : Int32) (u3 : Int32) (h0 : Heap) (n0 : Nat) (Z0 : n0 ≤ h0.size)  :
    own_Ctr l Z x code maxLocals ret ws room_1 32 320 #[(.int u1), (.int u2), (.int u3)] h0 (Q_own_law Z u1 u2 u3 h0 n0) := by
  refine own_enter (plainFor_of_name own_pn2) ?_
  intro p e s m below meth c s₁ X0 hx hZ hby hml hown hnm hlk hret e0
  have N0 := Fr.nil n0
  refine own_cast (own_ef_own_law m u1 u2 u3) ?_
  obtain ⟨T101, h101, X101, e101, E101, A101, D101, U101, st101⟩ := newO X0 hx hZ hown (hw _ (List.mem_of_getElem? (i := 0) rfl)) (hw _ (List.mem_of_getElem? (i := 1) rfl)) (hw _ (List.mem_of_getElem? (i := 2) rfl)) e0 (g := (mkF m 0 #[iv u1, iv u2, iv u3, .unset, .unset] [])) rfl (hb hby at_0) (by decide) (by decide)
  obtain ⟨b101, g101⟩ : ∃ z, z = h0.size := ⟨_, rfl⟩
  rw [← g101] at A101 D101 U101 st101
  have sz_b101 : h0.size ≤ b101 := Nat.le_trans (Nat.le_refl _) (Nat.le_of_eq g101.symm)
  have g_b101 : n0 ≤ b101 := Nat.le_trans Z0 sz_b101
  have f102 : Fld Z h101 b101 "com/example/limentinus/limentinus/simulator/RecordQueue" "references" "I" (.int (0 : Int32)) := D101 (Or.inr (hw _ (List.mem_of_getElem? (i := 10) rfl))) (ty := .int) (by decide)
  have f103 : Fld Z h101 b101 "com/example/limentinus/limentinus/simulator/RecordQueue" "numbers" "I" (.int (0 : Int32)) := D101 (Or.inr (hw _ (List.mem_of_getElem? (i := 12) rfl))) (ty := .int) (by decide)
  have f104 : Fld Z h101 b101 "com/example/limentinus/limentinus/simulator/RecordQueue" "first" "Lcom/example/limentinus/limentinus/simulator/RecordQueue$Block;" .null := D101 (Or.inl (hw _ (List.mem_of_getElem? (i := 19) rfl))) (ty := (.object "com/example/limentinus/limentinus/simulator/RecordQueue$Block")) (by decide)
  have f105 : Fld Z h101 b101 "com/example/limentinus/limentinus/simulator/RecordQueue" "last" "Lcom/example/limentinus/limentinus/simulator/RecordQueue$Block;" .null := D101 (Or.inl (hw _ (List.mem_of_getElem? (i := 21) rfl))) (ty := (.object "com/example/limentinus/limentinus/simulator/RecordQueue$Block")) (by decide)
  have f106 : Fld Z h101 b101 "com/example/limentinus/limentinus/simulator/RecordQueue" "head" "I" (.int (0 : Int32)) := D101 (Or.inl (hw _ (List.mem_of_getElem? (i := 23) rfl))) (ty := .int) (by decide)
  have f107 : Fld Z h101 b101 "com/example/limentinus/limentinus/simulator/RecordQueue" "tail" "I" (.int (0 : Int32)) := D101 (Or.inl (hw _ (List.mem_of_getElem? (i := 25) rfl))) (ty := .int) (by decide)
  refine own_by (g' := (mkF m 3 #[iv u1, iv u2, iv u3, .unset, .unset] [(.ref b101)])) st101 ?_
  refine own_by (g' := (mkF m 10 #[iv u1, iv u2, iv u3, .unset, .unset] [(.int (u2 &&& (3 : Int32))), (.int (u1 &&& (3 : Int32))), (.ref b101), (.ref b101)])) (fun t k => XS.dup X101.here hx rfl (hb hby at_3) rfl rfl (XS.iloadN X101.here hx rfl (hb hby at_4) rfl (XS.iconst X101.here hx rfl (hb hby at_5) (XS.iand X101.here hx rfl (hb hby at_6) rfl (XS.iloadN X101.here hx rfl (hb hby at_7) rfl (XS.iconst X101.here hx rfl (hb hby at_8) (XS.iand X101.here hx rfl (hb hby at_9) rfl k))))))) ?_
  refine own_callI X101 hx hZ hown rfl (hw _ (List.mem_of_getElem? (i := 3) rfl)) (hw _ (List.mem_of_getElem? (i := 4) rfl)) (hw _ (List.mem_of_getElem? (i := 2) rfl)) (hw _ (List.mem_of_getElem? (i := 5) rfl)) (by decide) (a := b101) (own_ini l Z a0 hw [] (b101) ((u1 &&& (3 : Int32))) ((u2 &&& (3 : Int32))) h101 n0 (Nat.le_trans Z0 E101.1) A101 f102 f103 f104 f105 f106 f107 g_b101) 1 (by decide) (by decide) (by decide) (by decide) e101 (g := (mkF m 10 #[iv u1, iv u2, iv u3, .unset, .unset] [(.int (u2 &&& (3 : Int32))), (.int (u1 &&& (3 : Int32))), (.ref b101), (.ref b101)])) rfl (by rw [hml]; rfl) (argsL := [(.int (u1 &&& (3 : Int32))), (.int (u2 &&& (3 : Int32)))]) (rest := [(.ref b101)]) (lenOf own_pd7 rfl) rfl (by show 2 * 0 + _ ≤ _; exact Nat.le_of_eq rfl) (hb hby at_10) ?_
  intro v108 T108 L108 X108 q108
  obtain ⟨rfl, N108q, K108, f109⟩ := q108
  have N108 := Fr.app N0 N108q
  show own_Goes p e below s _ _ _ T108 (mkF m 13 #[iv u1, iv u2, iv u3, .unset, .unset] [(.ref b101)])
  refine own_by (g' := (mkF m 18 #[iv u1, iv u2, iv u3, rv b101, iv (0 : Int32)] [(.ref b101)])) (fun t k => XS.astoreN X108.here hx rfl (hb hby at_13) rfl rfl (l' := #[iv u1, iv u2, iv u3, rv b101, .unset]) rfl (XS.iconst X108.here hx rfl (hb hby at_14) (XS.istore X108.here hx rfl (hb hby at_15) rfl (l' := #[iv u1, iv u2, iv u3, rv b101, iv (0 : Int32)]) rfl (XS.aloadN X108.here hx rfl (hb hby at_17) rfl rfl k)))) ?_
  have f110 := (A101.keep K108)
  refine own_callV X108 hx hZ hown (hw _ (List.mem_of_getElem? (i := 13) rfl)) (hw _ (List.mem_of_getElem? (i := 14) rfl)) (notFace_of_selects (args := #[]) (mvT hZ (hw _ (List.mem_of_getElem? (i := 16) rfl)))) (hw _ (List.mem_of_getElem? (i := 16) rfl)) (hw _ (List.mem_of_getElem? (i := 15) rfl)) (hw _ (List.mem_of_getElem? (i := 17) rfl)) (hw _ (List.mem_of_getElem? (i := 2) rfl)) (by decide) (a := b101) f110 (own_em0 l Z a0 hw [] (b101) ((u1 &&& (3 : Int32))) ((u2 &&& (3 : Int32))) T108.heap n0 (Nat.le_trans Z0 (Nat.le_trans E101.1 K108.1)) f109) 0 (by decide) (by decide) (by decide) (by decide) rfl (g := (mkF m 18 #[iv u1, iv u2, iv u3, rv b101, iv (0 : Int32)] [(.ref b101)])) rfl (by rw [hml]; rfl) (argsL := []) (rest := []) (lenOf own_pd3 rfl) rfl (by show 2 * 0 + _ ≤ _; exact Nat.le_of_eq rfl) (hb hby at_18) ?_
  intro v111 T111 L111 X111 q111
  obtain ⟨rfl, N111q, e111⟩ := q111
  have N111 := Fr.app N108 N111q
  show own_Goes p e below s _ _ _ T111 (mkF m 21 #[iv u1, iv u2, iv u3, rv b101, iv (0 : Int32)] [(.int (1 : Int32))])
  refine own_by (g' := (mkF m 26 #[iv u1, iv u2, iv u3, rv b101, iv (0 : Int32)] [])) (fun t k => XS.ifYes X111.here hx rfl (pc0 := 21) (pc' := 26) rfl (hb hby at_21) rfl ((if0 _ _).trans (feq (by decide : ¬ ((1 : Int32) = (0 : Int32)))).2) (by decide) (by decide) k) ?_
  exact own_g0_e_0_0 u1 u2 u3 b101 X111 ⟨hx, hZ, hw, hby, hml, hown, hnm, hlk, hret, Z0⟩ e111 N111 (((Keep.refl h0 []).ext E101).trans K108 (allS (Or.inr sz_b101) all0)) f109 sz_b101
set_option maxRecDepth 65536 in
set_option maxHeartbeats 40000000 in
theorem comes_1 {Post : Tables → Env → Array Value → State → Outcome → State → Prop} (hpost : ∀ tb e args s v u, (limb_1_1.after args s (.returned v) u = true ∧ limb_1_2.after args s (.returned v) u = true ∧ True) → FrameEnd s (.returned v) u (Jvm.fieldLocs frame_1_writes args s ++ Jvm.arrayLocs frame_1_arrays args s ++ Jvm.staticLocs frame_1_statics s) 32 320 → Post tb e args s (.returned v) u) :
    ArmFor flags0 classFile x code maxLocals ret World_1 tables_1 room_1 Calls_1 rest_1 Pre_1 Post := by
  intro l hfl _ _ p e ha hc hk s m args below hf hA hF happ hP
  obtain ⟨hcalls, hrest, hpre⟩ := hP
  obtain ⟨-, -, -, hnamed, -, -, -, hat⟩ := (Spec.applies_iff hf).mp happ
  obtain ⟨hg, hn⟩ := and_e (Cond.before_iff.mp (show (Jvm.Cond.and given_1 narrow_1).before args s = true from hpre))
  obtain ⟨ga1, gb1⟩ := and_e hg
  obtain ⟨ga2, gb2⟩ := and_e gb1
  obtain ⟨ga3, gb3⟩ := and_e gb2
  obtain ⟨w0, w1, w2, rfl⟩ : ∃ w0 w1 w2 : Value, args = #[w0, w1, w2] := by
    have hs : args.size = 3 := by simpa [Cond.value, given_1] using ga1
    obtain ⟨L⟩ := args
    match L, hs with
    | [w0, w1, w2], _ => exact ⟨w0, w1, w2, rfl⟩
  have hw := fun d (hd : d ∈ tables_1) => atoms_spec (ws := Jvm.Cond.code x code maxLocals ret :: tables_1) hat d (List.mem_cons_of_mem _ hd)
  have hfit : Fit s := fun {y c} hc i hi => by
    obtain ⟨ha, rfl⟩ := Array.getElem?_eq_some_iff.mp hc
    have q := List.all_eq_true.mp ((Array.all_eq_true_iff_forall_mem.mp hF) _ (Array.getElem_mem ha)) i (List.mem_range.mpr hi)
    simpa [Array.getElem?_eq_getElem hi] using q
  obtain ⟨i0, ei0⟩ := is_v ga2
  obtain rfl : w0 = (.int i0) := Option.some.inj ei0
  obtain ⟨i1, ei1⟩ := is_v ga3
  obtain rfl : w1 = (.int i1) := Option.some.inj ei1
  obtain ⟨i2, ei2⟩ := is_v gb3
  obtain rfl : w2 = (.int i2) := Option.some.inj ei2
  obtain ⟨n, o, h1, h2, h3, _, L, rfl, ⟨rfl, N, -⟩, hq⟩ := own_law l s _ hw tables_1 i0 i1 i2 s.heap s.heap.size (Nat.le_refl _)  p e ha hc hk s m _ below hf ((Spec.applies_iff_loose hf).mp happ).1 ⟨rfl, State.Warmed39.refl s, rfl⟩ trivial
  exact ⟨n, _, h1, h2, h3, hpost _ _ _ _ _ _ ⟨Cond.after_iff.mpr rfl, Cond.after_iff.mpr (eq_i res_at (Term.int_eval (1)) rfl), trivial⟩ ⟨hq.1, hq.2.1, (hq.2.2.sift fun y hy => Or.inr (N y hy)).mono (by decide) (by decide)⟩⟩
theorem main_1_1 : Claimed_1_1 := comes_1 fun _ _ _ _ _ _ h hF => ⟨h.1, hF⟩
theorem main_1_2 : Claimed_1_2 := comes_1 fun _ _ _ _ _ _ h hF => ⟨h.2.1, hF⟩
end Jvm.Pilot.@@N@@
namespace Jvm.Pilot.@@N@@
open Jvm Jvm.ClassFile Sem Op Lib Jvm.Free Jvm.Stand Jvm.Pilot.@@N@@.Jvm.D
/-! MADE BY PROGRAM (witnessworld.py) out of the Statement's table words and the real class files: 14 classes; the members and pool entries that the words name. The judged class is class 1, her method 2. -/
namespace start1
open Jvm.ClassFile
def u (s : String) : CpInfo := .utf8 (stringToUtf16 s)
/-- a pool by its gaps: so many unusable entries, then the entry; so many at the end -/
def gap : Nat → List CpInfo → List CpInfo
  | 0, r => r
  | n + 1, r => .unusable :: gap n r
def poolList (es : List (Nat × CpInfo)) (last : Nat) : List CpInfo := es.foldr (fun e r => gap e.1 (e.2 :: r)) (gap last [])
def pool (es : List (Nat × CpInfo)) (last : Nat) : Array CpInfo := ⟨poolList es last⟩
def fileOf (pool : Array CpInfo) (this : Nat) (attrs : Array Attribute := #[]) (ms : Array MethodInfo := #[]) (fl : Nat := 33) (sup : Nat := 0) (ifs : Array Nat := #[]) (fds : Array FieldInfo := #[]) : ClassFile where
  minorVersion := 0
  majorVersion := 65
  constantPool := pool
  accessFlags := fl
  thisClass := this
  superClass := sup
  interfaces := ifs
  fields := fds
  methods := ms
  attributes := attrs
def plain (name : String) (sup : Option ClassId) : Class where
  name := name
  kind := .ordinary
  loader := none
  accessFlags := 33
  super := sup
  interfaces := #[]
  cf := none
  fields := #[]
  methods := #[]
  instanceTypes := #[]
  staticTypes := #[]
  resolved := #[]
  callSites := []
  init := .initialized
  statics := none
  mirror := none

def pool0 : Array CpInfo := pool [(5, u "<init>"), (0, u "()V"), (1, .class_ 10), (1, u "java/lang/Object")] 113

def k0c0 : Code := { maxStack := 0, maxLocals := 1, code := object_method_1_code, exceptionTable := #[], attributes := #[] }
def k0m0 : Method := { name := "<init>", desc := "()V", sig := { parameters := [], returnType := none }, accessFlags := 1, code := some k0c0 }
/-- java/lang/Object -/
def k0 : Class := { plain "java/lang/Object" none with
  accessFlags := 33
  interfaces := #[]
  cf := some (fileOf pool0 8 #[] #[{ accessFlags := 1, nameIndex := 5, descriptorIndex := 6, attributes := #[] }] 33 0 #[] #[])
  fields := #[]
  methods := #[k0m0]
  instanceTypes := #[]
  staticTypes := #[]
  resolved := Array.replicate 124 none
  statics := none }

def pool1 : Array CpInfo := pool [(2, .class_ 4), (1, u "java/lang/Object"), (0, u "<init>"), (0, u "()V"), (0, .methodref 8 9), (0, .class_ 10), (0, .nameAndType 11 6), (0, u "com/example/limentinus/limentinus/simulator/RecordQueue"), (0, u "add"), (0, .methodref 8 13), (0, .nameAndType 14 6), (0, u "removeFirst"), (0, .methodref 8 16), (0, .nameAndType 17 18), (0, u "isEmpty"), (0, u "()Z"), (0, .methodref 8 20), (0, .nameAndType 5 21), (0, u "(II)V"), (0, .methodref 23 24), (0, .class_ 25), (0, .nameAndType 26 27), (0, u "com/example/limentinus/limentinus/simulator/RecordQueueIsEmptyPinLaw"), (0, u "step"), (0, u "(Lcom/example/limentinus/limentinus/simulator/RecordQueue;II)I"), (3, u "law"), (0, u "(III)Z")] 2

def k1m0 : Method := { name := "<init>", desc := "()V", sig := { parameters := [], returnType := none }, accessFlags := 1, code := none }
def k1c1 : Code := { maxStack := 2, maxLocals := 3, code := method_2_code, exceptionTable := #[], attributes := #[] }
def k1m1 : Method := { name := "step", desc := "(Lcom/example/limentinus/limentinus/simulator/RecordQueue;II)I", sig := { parameters := [(.object "com/example/limentinus/limentinus/simulator/RecordQueue"), .int, .int], returnType := some .int }, accessFlags := 10, code := some k1c1 }
def k1c2 : Code := { maxStack := 5, maxLocals := 5, code := code, exceptionTable := #[], attributes := #[] }
def k1m2 : Method := { name := "law", desc := "(III)Z", sig := { parameters := [.int, .int, .int], returnType := some .boolean }, accessFlags := 9, code := some k1c2 }
/-- com/example/limentinus/limentinus/simulator/RecordQueueIsEmptyPinLaw -/
def k1 : Class := { plain "com/example/limentinus/limentinus/simulator/RecordQueueIsEmptyPinLaw" (some 0) with
  accessFlags := 49
  interfaces := #[]
  cf := some (fileOf pool1 23 #[] #[{ accessFlags := 1, nameIndex := 5, descriptorIndex := 6, attributes := #[] }, { accessFlags := 10, nameIndex := 26, descriptorIndex := 27, attributes := #[] }, { accessFlags := 9, nameIndex := 31, descriptorIndex := 32, attributes := #[] }] 49 2 #[] #[])
  fields := #[]
  methods := #[k1m0, k1m1, k1m2]
  instanceTypes := #[]
  staticTypes := #[]
  resolved := Array.replicate 35 none
  statics := none }

def pool2 : Array CpInfo := pool [(1, .methodref 2 3), (0, .class_ 4), (0, .nameAndType 5 6), (0, u "java/lang/Object"), (0, u "<init>"), (0, u "()V"), (0, .fieldref 8 9), (0, .class_ 10), (0, .nameAndType 11 12), (0, u "com/example/limentinus/limentinus/simulator/RecordQueue"), (0, u "references"), (0, u "I"), (0, .fieldref 8 14), (0, .nameAndType 15 12), (0, u "numbers"), (0, .fieldref 8 17), (0, .nameAndType 18 19), (0, u "first"), (0, u "Lcom/example/limentinus/limentinus/simulator/RecordQueue$Block;"), (0, .fieldref 8 21), (0, .nameAndType 22 19), (0, u "last"), (0, .fieldref 8 24), (0, .nameAndType 25 12), (0, u "head"), (0, .fieldref 8 27), (0, .nameAndType 28 12), (0, u "tail"), (0, .methodref 8 30), (0, .nameAndType 31 32), (0, u "block"), (0, u "(I)Lcom/example/limentinus/limentinus/simulator/RecordQueue$Block;"), (0, .fieldref 34 35), (0, .class_ 36), (0, .nameAndType 37 12), (0, u "com/example/limentinus/limentinus/simulator/RecordQueue$Block"), (0, u "records"), (0, .methodref 39 40), (0, .class_ 41), (0, .nameAndType 42 43), (0, u "java/lang/Math"), (0, u "min"), (0, u "(II)I"), (0, .fieldref 34 45), (0, .nameAndType 46 19), (0, u "next"), (0, .fieldref 34 48), (0, .nameAndType 11 49), (0, u "[Ljava/lang/Object;"), (3, .methodref 8 54), (0, .nameAndType 55 56), (0, u "firstRecord"), (0, u "()I"), (0, .methodref 8 58), (0, .nameAndType 59 60), (0, u "isEmpty"), (0, u "()Z"), (7, .methodref 34 69), (0, .nameAndType 5 70), (0, u "(I[Ljava/lang/Object;[J)V"), (0, u "FIRST_BLOCK_RECORDS"), (2, u "MOST_BLOCK_RECORDS"), (1, u "(II)V"), (3, u "add"), (7, u "removeFirst")] 5

def k2c0 : Code := { maxStack := 2, maxLocals := 3, code := prog_85_method_1_code, exceptionTable := #[], attributes := #[] }
def k2m0 : Method := { name := "<init>", desc := "(II)V", sig := { parameters := [.int, .int], returnType := none }, accessFlags := 0, code := some k2c0 }
def k2c1 : Code := { maxStack := 2, maxLocals := 1, code := prog_85_method_2_code, exceptionTable := #[], attributes := #[] }
def k2m1 : Method := { name := "isEmpty", desc := "()Z", sig := { parameters := [], returnType := some .boolean }, accessFlags := 0, code := some k2c1 }
def k2c2 : Code := { maxStack := 3, maxLocals := 2, code := prog_85_method_3_code, exceptionTable := #[], attributes := #[] }
def k2m2 : Method := { name := "add", desc := "()V", sig := { parameters := [], returnType := none }, accessFlags := 0, code := some k2c2 }
def k2c3 : Code := { maxStack := 3, maxLocals := 3, code := prog_85_method_8_code, exceptionTable := #[], attributes := #[] }
def k2m3 : Method := { name := "removeFirst", desc := "()V", sig := { parameters := [], returnType := none }, accessFlags := 0, code := some k2c3 }
def k2c4 : Code := { maxStack := 3, maxLocals := 1, code := prog_85_method_9_code, exceptionTable := #[], attributes := #[] }
def k2m4 : Method := { name := "firstRecord", desc := "()I", sig := { parameters := [], returnType := some .int }, accessFlags := 2, code := some k2c4 }
def k2c5 : Code := { maxStack := 6, maxLocals := 2, code := prog_85_method_10_code, exceptionTable := #[], attributes := #[] }
def k2m5 : Method := { name := "block", desc := "(I)Lcom/example/limentinus/limentinus/simulator/RecordQueue$Block;", sig := { parameters := [.int], returnType := some (.object "com/example/limentinus/limentinus/simulator/RecordQueue$Block") }, accessFlags := 2, code := some k2c5 }
/-- com/example/limentinus/limentinus/simulator/RecordQueue -/
def k2 : Class := { plain "com/example/limentinus/limentinus/simulator/RecordQueue" (some 0) with
  accessFlags := 48
  interfaces := #[]
  cf := some (fileOf pool2 8 #[.nestMembers #[34]] #[{ accessFlags := 0, nameIndex := 5, descriptorIndex := 76, attributes := #[] }, { accessFlags := 0, nameIndex := 59, descriptorIndex := 60, attributes := #[] }, { accessFlags := 0, nameIndex := 80, descriptorIndex := 6, attributes := #[] }, { accessFlags := 0, nameIndex := 88, descriptorIndex := 6, attributes := #[] }, { accessFlags := 2, nameIndex := 55, descriptorIndex := 56, attributes := #[] }, { accessFlags := 2, nameIndex := 31, descriptorIndex := 32, attributes := #[] }] 48 2 #[] #[{ accessFlags := 26, nameIndex := 71, descriptorIndex := 12, attributes := #[] }, { accessFlags := 26, nameIndex := 74, descriptorIndex := 12, attributes := #[] }, { accessFlags := 18, nameIndex := 11, descriptorIndex := 12, attributes := #[] }, { accessFlags := 18, nameIndex := 15, descriptorIndex := 12, attributes := #[] }, { accessFlags := 2, nameIndex := 18, descriptorIndex := 19, attributes := #[] }, { accessFlags := 2, nameIndex := 22, descriptorIndex := 19, attributes := #[] }, { accessFlags := 2, nameIndex := 25, descriptorIndex := 12, attributes := #[] }, { accessFlags := 2, nameIndex := 28, descriptorIndex := 12, attributes := #[] }])
  fields := #[{ name := "FIRST_BLOCK_RECORDS", type := .int, accessFlags := 26, slot := 0, constantValue := 0 }, { name := "MOST_BLOCK_RECORDS", type := .int, accessFlags := 26, slot := 1, constantValue := 0 }, { name := "references", type := .int, accessFlags := 18, slot := 0, constantValue := 0 }, { name := "numbers", type := .int, accessFlags := 18, slot := 1, constantValue := 0 }, { name := "first", type := (.object "com/example/limentinus/limentinus/simulator/RecordQueue$Block"), accessFlags := 2, slot := 2, constantValue := 0 }, { name := "last", type := (.object "com/example/limentinus/limentinus/simulator/RecordQueue$Block"), accessFlags := 2, slot := 3, constantValue := 0 }, { name := "head", type := .int, accessFlags := 2, slot := 4, constantValue := 0 }, { name := "tail", type := .int, accessFlags := 2, slot := 5, constantValue := 0 }]
  methods := #[k2m0, k2m1, k2m2, k2m3, k2m4, k2m5]
  instanceTypes := #[.int, .int, (.object "com/example/limentinus/limentinus/simulator/RecordQueue$Block"), (.object "com/example/limentinus/limentinus/simulator/RecordQueue$Block"), .int, .int]
  staticTypes := #[.int, .int]
  resolved := (((((Array.replicate 94 none).setIfInBounds 33 (some (.field 3 0))).setIfInBounds 44 (some (.field 3 3))).setIfInBounds 47 (some (.field 3 1))).setIfInBounds 68 (some (.method ⟨3, 0⟩))).setIfInBounds 34 (some (.cls 3))
  statics := none }

def pool3 : Array CpInfo := pool [(1, .methodref 2 3), (0, .class_ 4), (0, .nameAndType 5 6), (0, u "java/lang/Object"), (0, u "<init>"), (0, u "()V"), (0, .fieldref 8 9), (0, .class_ 10), (0, .nameAndType 11 12), (0, u "com/example/limentinus/limentinus/simulator/RecordQueue$Block"), (0, u "records"), (0, u "I"), (0, .fieldref 8 14), (0, .nameAndType 15 16), (0, u "references"), (0, u "[Ljava/lang/Object;"), (0, .fieldref 8 18), (0, .nameAndType 19 20), (0, u "numbers"), (0, u "[J"), (0, u "next"), (0, u "Lcom/example/limentinus/limentinus/simulator/RecordQueue$Block;"), (0, u "(I[Ljava/lang/Object;[J)V"), (5, .class_ 30), (0, u "com/example/limentinus/limentinus/simulator/RecordQueue")] 2

def k3c0 : Code := { maxStack := 2, maxLocals := 4, code := prog_86_method_1_code, exceptionTable := #[], attributes := #[] }
def k3m0 : Method := { name := "<init>", desc := "(I[Ljava/lang/Object;[J)V", sig := { parameters := [.int, (.array (.object "java/lang/Object")), (.array .long)], returnType := none }, accessFlags := 2, code := some k3c0 }
/-- com/example/limentinus/limentinus/simulator/RecordQueue$Block -/
def k3 : Class := { plain "com/example/limentinus/limentinus/simulator/RecordQueue$Block" (some 0) with
  accessFlags := 48
  interfaces := #[]
  cf := some (fileOf pool3 8 #[.nestHost 29] #[{ accessFlags := 2, nameIndex := 5, descriptorIndex := 23, attributes := #[] }] 48 2 #[] #[{ accessFlags := 18, nameIndex := 11, descriptorIndex := 12, attributes := #[] }, { accessFlags := 18, nameIndex := 15, descriptorIndex := 16, attributes := #[] }, { accessFlags := 18, nameIndex := 19, descriptorIndex := 20, attributes := #[] }, { accessFlags := 2, nameIndex := 21, descriptorIndex := 22, attributes := #[] }])
  fields := #[{ name := "records", type := .int, accessFlags := 18, slot := 0, constantValue := 0 }, { name := "references", type := (.array (.object "java/lang/Object")), accessFlags := 18, slot := 1, constantValue := 0 }, { name := "numbers", type := (.array .long), accessFlags := 18, slot := 2, constantValue := 0 }, { name := "next", type := (.object "com/example/limentinus/limentinus/simulator/RecordQueue$Block"), accessFlags := 2, slot := 3, constantValue := 0 }]
  methods := #[k3m0]
  instanceTypes := #[.int, (.array (.object "java/lang/Object")), (.array .long), (.object "com/example/limentinus/limentinus/simulator/RecordQueue$Block")]
  staticTypes := #[]
  resolved := Array.replicate 33 none
  statics := none }

def pool4 : Array CpInfo := pool [(1, .class_ 2), (0, u "java/lang/Math"), (1, .class_ 6), (1, u "java/lang/Object"), (0, u "<init>"), (0, u "()V"), (89, .class_ 100), (1, u "java/lang/Math$RandomNumberGeneratorHolder"), (71, u "negativeZeroFloatBits"), (0, u "J"), (2, u "negativeZeroDoubleBits"), (24, u "min"), (43, u "$assertionsDisabled"), (0, u "Z"), (88, u "(II)I"), (2, u "twoToTheDoubleScaleDown"), (0, u "D"), (4, u "twoToTheDoubleScaleUp"), (9, u "E"), (3, u "PI"), (2, u "TAU"), (2, u "DEGREES_TO_RADIANS"), (0, u "RADIANS_TO_DEGREES")] 94

def k4m0 : Method := { name := "<init>", desc := "()V", sig := { parameters := [], returnType := none }, accessFlags := 2, code := none }
def k4c1 : Code := { maxStack := 2, maxLocals := 2, code := jdk_29_method_69_code, exceptionTable := #[], attributes := #[] }
def k4m1 : Method := { name := "min", desc := "(II)I", sig := { parameters := [.int, .int], returnType := some .int }, accessFlags := 9, code := some k4c1 }
/-- java/lang/Math -/
def k4 : Class := { plain "java/lang/Math" (some 0) with
  accessFlags := 49
  interfaces := #[]
  cf := some (fileOf pool4 1 #[.nestMembers #[98]] #[{ accessFlags := 2, nameIndex := 7, descriptorIndex := 8, attributes := #[] }, { accessFlags := 9, nameIndex := 201, descriptorIndex := 335, attributes := #[] }] 49 4 #[] #[{ accessFlags := 25, nameIndex := 354, descriptorIndex := 339, attributes := #[] }, { accessFlags := 25, nameIndex := 358, descriptorIndex := 339, attributes := #[] }, { accessFlags := 25, nameIndex := 361, descriptorIndex := 339, attributes := #[] }, { accessFlags := 26, nameIndex := 364, descriptorIndex := 339, attributes := #[] }, { accessFlags := 26, nameIndex := 365, descriptorIndex := 339, attributes := #[] }, { accessFlags := 26, nameIndex := 172, descriptorIndex := 173, attributes := #[] }, { accessFlags := 26, nameIndex := 176, descriptorIndex := 173, attributes := #[] }, { accessFlags := 8, nameIndex := 344, descriptorIndex := 339, attributes := #[] }, { accessFlags := 8, nameIndex := 338, descriptorIndex := 339, attributes := #[] }, { accessFlags := 4120, nameIndex := 245, descriptorIndex := 246, attributes := #[] }])
  fields := #[{ name := "E", type := .double, accessFlags := 25, slot := 0, constantValue := 0 }, { name := "PI", type := .double, accessFlags := 25, slot := 1, constantValue := 0 }, { name := "TAU", type := .double, accessFlags := 25, slot := 2, constantValue := 0 }, { name := "DEGREES_TO_RADIANS", type := .double, accessFlags := 26, slot := 3, constantValue := 0 }, { name := "RADIANS_TO_DEGREES", type := .double, accessFlags := 26, slot := 4, constantValue := 0 }, { name := "negativeZeroFloatBits", type := .long, accessFlags := 26, slot := 5, constantValue := 0 }, { name := "negativeZeroDoubleBits", type := .long, accessFlags := 26, slot := 6, constantValue := 0 }, { name := "twoToTheDoubleScaleUp", type := .double, accessFlags := 8, slot := 7, constantValue := 0 }, { name := "twoToTheDoubleScaleDown", type := .double, accessFlags := 8, slot := 8, constantValue := 0 }, { name := "$assertionsDisabled", type := .boolean, accessFlags := 4120, slot := 9, constantValue := 0 }]
  methods := #[k4m0, k4m1]
  instanceTypes := #[]
  staticTypes := #[.double, .double, .double, .double, .double, .long, .long, .double, .double, .boolean]
  resolved := Array.replicate 460 none
  statics := none }

def pool5 : Array CpInfo := pool [(1, u "java/lang/Cloneable"), (0, .class_ 1), (0, u "java/lang/Object"), (0, .class_ 3)] 3

/-- java/lang/Cloneable -/
def k5 : Class := { plain "java/lang/Cloneable" (some 0) with
  accessFlags := 1537
  interfaces := #[]
  cf := some (fileOf pool5 2 #[] #[] 1537 4 #[] #[])
  fields := #[]
  methods := #[]
  instanceTypes := #[]
  staticTypes := #[]
  resolved := Array.replicate 8 none
  statics := none }

def pool6 : Array CpInfo := pool [(1, u "java/io/Serializable"), (0, .class_ 1), (0, u "java/lang/Object"), (0, .class_ 3)] 3

/-- java/io/Serializable -/
def k6 : Class := { plain "java/io/Serializable" (some 0) with
  accessFlags := 1537
  interfaces := #[]
  cf := some (fileOf pool6 2 #[] #[] 1537 4 #[] #[])
  fields := #[]
  methods := #[]
  instanceTypes := #[]
  staticTypes := #[]
  resolved := Array.replicate 8 none
  statics := none }

/-- the primitive byte -/
def k7 : Class := { plain "byte" none with kind := .primitive 'B', accessFlags := 0x411 }
/-- [B -/
def k8 : Class := { plain "[B" (some 0) with kind := .array 7 .byte, interfaces := #[5, 6], accessFlags := 1041 }

/-- the primitive int -/
def k9 : Class := { plain "int" none with kind := .primitive 'I', accessFlags := 0x411 }
/-- [I -/
def k10 : Class := { plain "[I" (some 0) with kind := .array 9 .int, interfaces := #[5, 6], accessFlags := 1041 }

/-- the primitive long -/
def k11 : Class := { plain "long" none with kind := .primitive 'J', accessFlags := 0x411 }
/-- [J -/
def k12 : Class := { plain "[J" (some 0) with kind := .array 11 .long, interfaces := #[5, 6], accessFlags := 1041 }

/-- [Ljava/lang/Object; -/
def k13 : Class := { plain "[Ljava/lang/Object;" (some 0) with kind := .array 0 (.object "java/lang/Object"), interfaces := #[5, 6], accessFlags := 1041 }

def heap : Heap := #[]
def classes : Array Class := #[k0, k1, k2, k3, k4, k5, k6, k7, k8, k9, k10, k11, k12, k13]
def interned : List (Array UInt16 × Addr) := []
def slotsUsed : Nat := 0
def theMethod : MethodId := ⟨1, 2⟩
def args0 : Array Value := #[.int 5, .int 6, .int 7]
def aboutOver (below : List Frame) : State where
  vm := { classes := classes, interned := interned.toArray }
  heap := heap
  slotsUsed := slotsUsed
  threads := #[{ frames := .invoking theMethod args0 :: below }]
def below0 : List Frame := [.native { method := ⟨0, 0⟩, args := #[] }]
def about1 : State := aboutOver below0
def p0 : Program := .bare "" "" ""
def e0 : Env := launch0.env 0 0 0
theorem w_frames : about1.frames = Frame.invoking theMethod args0 :: below0 := rfl
set_option maxRecDepth 65536 in
theorem w_args : argsFit about1.vm theMethod args0 = true := by decide +kernel
set_option maxRecDepth 65536 in
theorem w_heap : heapFits about1 = true := by decide +kernel
set_option maxRecDepth 65536 in
theorem w_runnable : about1.curStatus? = some .runnable := by decide +kernel
set_option maxRecDepth 65536 in
theorem w_alone : about1.alone = true := by decide +kernel
set_option maxRecDepth 65536 in
theorem w_named : about1.methodNamed? x = some theMethod := by decide +kernel
set_option maxRecDepth 65536 in
theorem w_hears : about1.hears theMethod below0 = true := by decide +kernel
set_option maxRecDepth 65536 in
theorem w_ripe : about1.ripe theMethod args0 below0 = true := by decide +kernel
theorem w_running : about1.status = .running := rfl
set_option maxRecDepth 65536 in
theorem w_room : about1.hasRoom e0.platform room_1 = true :=
  launch0.hasRoom_least _ room_1 (by decide +kernel) (by decide +kernel) (by decide +kernel) (by decide +kernel) (by decide +kernel) (by decide +kernel)
theorem allAtoms_all (ts : List Jvm.Cond) (a : Array Jvm.Value) (st : Jvm.State) : (allAtoms ts).before a st = ts.all (fun c => c.before a st) := by
  induction ts with
  | nil => rfl
  | cons c t ih =>
    show (Jvm.Cond.and c (allAtoms t)).before a st = _
    rw [Jvm.Cond.before_and, ih, List.all_cons]
def words1 : List Jvm.Cond := Jvm.Cond.code x code maxLocals ret :: tables_1
/-- a 'code' word, met by the world's own term for the bytes: nothing is compared byte by byte -/
theorem code_word {y : MethodName} {bytes : ByteArray} {mx : Nat} {rt : Option FieldType} {a : Array Value} {s : State} {m : MethodId} {meth : Method} {c : Code} (h1 : s.methodNamed? y = some m) (h2 : s.vm.method? m = some meth) (h3 : meth.code = some c) (h4 : c.code = bytes)
    (h5 : (c.maxLocals == mx && c.exceptionTable.isEmpty && decide (c.maxStack ≤ mostOperands) && decide (meth.sig.returnType = rt) && !meth.locks && decide (parseMethodDescriptor y.desc = some meth.sig)) = true) : (Jvm.Cond.code y bytes mx rt).before a s = true := by
  simp only [Bool.and_eq_true, beq_iff_eq, Bool.not_eq_true', decide_eq_true_eq] at h5
  obtain ⟨⟨⟨⟨⟨g1, g2⟩, g3⟩, g4⟩, g5⟩, g6⟩ := h5
  simp [Cond.before, Cond.holds, Cond.value, h1, h2, h3, h4, g1, g2, g3, g4, g5, g6]
def isCode : Jvm.Cond → Bool
  | .code _ _ _ _ => true
  | _ => false
theorem all_split {L : List Jvm.Cond} {P : Jvm.Cond → Bool} (h1 : L.all (fun c => isCode c || P c) = true) (h2 : ∀ c ∈ L.filter isCode, P c = true) : L.all P = true := by
  refine List.all_eq_true.mpr fun c hc => ?_
  have h := List.all_eq_true.mp h1 c hc
  rcases Bool.eq_false_or_eq_true (isCode c) with hi | hi
  · exact h2 c (List.mem_filter.mpr ⟨hc, hi⟩)
  · simpa [hi] using h
set_option maxRecDepth 65536 in
theorem w_c0 : (Jvm.Cond.code x code maxLocals ret).before args0 about1 = true := code_word (m := ⟨1, 2⟩) (meth := k1m2) (c := k1c2) (by decide +kernel) rfl rfl rfl (by decide +kernel)
set_option maxRecDepth 65536 in
theorem w_c1 : (Jvm.Cond.code ({ cls := "com/example/limentinus/limentinus/simulator/RecordQueue", name := "<init>", desc := "(II)V" } : Jvm.MethodName) prog_85_method_1_code (3 : Nat) (Option.none : Option Jvm.ClassFile.FieldType)).before args0 about1 = true := code_word (m := ⟨2, 0⟩) (meth := k2m0) (c := k2c0) (by decide +kernel) rfl rfl rfl (by decide +kernel)
set_option maxRecDepth 65536 in
theorem w_c2 : (Jvm.Cond.code ({ cls := "java/lang/Object", name := "<init>", desc := "()V" } : Jvm.MethodName) object_method_1_code (1 : Nat) (Option.none : Option Jvm.ClassFile.FieldType)).before args0 about1 = true := code_word (m := ⟨0, 0⟩) (meth := k0m0) (c := k0c0) (by decide +kernel) rfl rfl rfl (by decide +kernel)
set_option maxRecDepth 65536 in
theorem w_c3 : (Jvm.Cond.code ({ cls := "com/example/limentinus/limentinus/simulator/RecordQueue", name := "isEmpty", desc := "()Z" } : Jvm.MethodName) prog_85_method_2_code (1 : Nat) (Option.some Jvm.ClassFile.FieldType.boolean)).before args0 about1 = true := code_word (m := ⟨2, 1⟩) (meth := k2m1) (c := k2c1) (by decide +kernel) rfl rfl rfl (by decide +kernel)
set_option maxRecDepth 65536 in
theorem w_c4 : (Jvm.Cond.code ({ cls := "com/example/limentinus/limentinus/simulator/RecordQueueIsEmptyPinLaw", name := "step", desc := "(Lcom/example/limentinus/limentinus/simulator/RecordQueue;II)I" } : Jvm.MethodName) method_2_code (3 : Nat) (Option.some Jvm.ClassFile.FieldType.int)).before args0 about1 = true := code_word (m := ⟨1, 1⟩) (meth := k1m1) (c := k1c1) (by decide +kernel) rfl rfl rfl (by decide +kernel)
set_option maxRecDepth 65536 in
theorem w_c5 : (Jvm.Cond.code ({ cls := "com/example/limentinus/limentinus/simulator/RecordQueue", name := "add", desc := "()V" } : Jvm.MethodName) prog_85_method_3_code (2 : Nat) (Option.none : Option Jvm.ClassFile.FieldType)).before args0 about1 = true := code_word (m := ⟨2, 2⟩) (meth := k2m2) (c := k2c2) (by decide +kernel) rfl rfl rfl (by decide +kernel)
set_option maxRecDepth 65536 in
theorem w_c6 : (Jvm.Cond.code ({ cls := "com/example/limentinus/limentinus/simulator/RecordQueue", name := "block", desc := "(I)Lcom/example/limentinus/limentinus/simulator/RecordQueue$Block;" } : Jvm.MethodName) prog_85_method_10_code (2 : Nat) (Option.some (Jvm.ClassFile.FieldType.object "com/example/limentinus/limentinus/simulator/RecordQueue$Block"))).before args0 about1 = true := code_word (m := ⟨2, 5⟩) (meth := k2m5) (c := k2c5) (by decide +kernel) rfl rfl rfl (by decide +kernel)
set_option maxRecDepth 65536 in
theorem w_c7 : (Jvm.Cond.code ({ cls := "com/example/limentinus/limentinus/simulator/RecordQueue$Block", name := "<init>", desc := "(I[Ljava/lang/Object;[J)V" } : Jvm.MethodName) prog_86_method_1_code (4 : Nat) (Option.none : Option Jvm.ClassFile.FieldType)).before args0 about1 = true := code_word (m := ⟨3, 0⟩) (meth := k3m0) (c := k3c0) (by decide +kernel) rfl rfl rfl (by decide +kernel)
set_option maxRecDepth 65536 in
theorem w_c8 : (Jvm.Cond.code ({ cls := "com/example/limentinus/limentinus/simulator/RecordQueue", name := "removeFirst", desc := "()V" } : Jvm.MethodName) prog_85_method_8_code (3 : Nat) (Option.none : Option Jvm.ClassFile.FieldType)).before args0 about1 = true := code_word (m := ⟨2, 3⟩) (meth := k2m3) (c := k2c3) (by decide +kernel) rfl rfl rfl (by decide +kernel)
set_option maxRecDepth 65536 in
theorem w_c9 : (Jvm.Cond.code ({ cls := "com/example/limentinus/limentinus/simulator/RecordQueue", name := "firstRecord", desc := "()I" } : Jvm.MethodName) prog_85_method_9_code (1 : Nat) (Option.some Jvm.ClassFile.FieldType.int)).before args0 about1 = true := code_word (m := ⟨2, 4⟩) (meth := k2m4) (c := k2c4) (by decide +kernel) rfl rfl rfl (by decide +kernel)
set_option maxRecDepth 65536 in
theorem w_c10 : (Jvm.Cond.code ({ cls := "java/lang/Math", name := "min", desc := "(II)I" } : Jvm.MethodName) jdk_29_method_69_code (2 : Nat) (Option.some Jvm.ClassFile.FieldType.int)).before args0 about1 = true := code_word (m := ⟨4, 1⟩) (meth := k4m1) (c := k4c1) (by decide +kernel) rfl rfl rfl (by decide +kernel)
def codes1 : List Jvm.Cond := [Jvm.Cond.code x code maxLocals ret, Jvm.Cond.code ({ cls := "com/example/limentinus/limentinus/simulator/RecordQueue", name := "<init>", desc := "(II)V" } : Jvm.MethodName) prog_85_method_1_code (3 : Nat) (Option.none : Option Jvm.ClassFile.FieldType), Jvm.Cond.code ({ cls := "java/lang/Object", name := "<init>", desc := "()V" } : Jvm.MethodName) object_method_1_code (1 : Nat) (Option.none : Option Jvm.ClassFile.FieldType), Jvm.Cond.code ({ cls := "com/example/limentinus/limentinus/simulator/RecordQueue", name := "isEmpty", desc := "()Z" } : Jvm.MethodName) prog_85_method_2_code (1 : Nat) (Option.some Jvm.ClassFile.FieldType.boolean), Jvm.Cond.code ({ cls := "com/example/limentinus/limentinus/simulator/RecordQueueIsEmptyPinLaw", name := "step", desc := "(Lcom/example/limentinus/limentinus/simulator/RecordQueue;II)I" } : Jvm.MethodName) method_2_code (3 : Nat) (Option.some Jvm.ClassFile.FieldType.int), Jvm.Cond.code ({ cls := "com/example/limentinus/limentinus/simulator/RecordQueue", name := "add", desc := "()V" } : Jvm.MethodName) prog_85_method_3_code (2 : Nat) (Option.none : Option Jvm.ClassFile.FieldType), Jvm.Cond.code ({ cls := "com/example/limentinus/limentinus/simulator/RecordQueue", name := "block", desc := "(I)Lcom/example/limentinus/limentinus/simulator/RecordQueue$Block;" } : Jvm.MethodName) prog_85_method_10_code (2 : Nat) (Option.some (Jvm.ClassFile.FieldType.object "com/example/limentinus/limentinus/simulator/RecordQueue$Block")), Jvm.Cond.code ({ cls := "com/example/limentinus/limentinus/simulator/RecordQueue$Block", name := "<init>", desc := "(I[Ljava/lang/Object;[J)V" } : Jvm.MethodName) prog_86_method_1_code (4 : Nat) (Option.none : Option Jvm.ClassFile.FieldType), Jvm.Cond.code ({ cls := "com/example/limentinus/limentinus/simulator/RecordQueue", name := "removeFirst", desc := "()V" } : Jvm.MethodName) prog_85_method_8_code (3 : Nat) (Option.none : Option Jvm.ClassFile.FieldType), Jvm.Cond.code ({ cls := "com/example/limentinus/limentinus/simulator/RecordQueue", name := "firstRecord", desc := "()I" } : Jvm.MethodName) prog_85_method_9_code (1 : Nat) (Option.some Jvm.ClassFile.FieldType.int), Jvm.Cond.code ({ cls := "java/lang/Math", name := "min", desc := "(II)I" } : Jvm.MethodName) jdk_29_method_69_code (2 : Nat) (Option.some Jvm.ClassFile.FieldType.int)]
set_option maxRecDepth 65536 in
theorem codes_eq : words1.filter isCode = codes1 := rfl
theorem w_codes : ∀ c ∈ words1.filter isCode, c.before args0 about1 = true := by
  rw [codes_eq]
  intro c hc
  simp only [codes1, List.mem_cons, List.not_mem_nil, or_false] at hc
  rcases hc with rfl | rfl | rfl | rfl | rfl | rfl | rfl | rfl | rfl | rfl | rfl
  · exact w_c0
  · exact w_c1
  · exact w_c2
  · exact w_c3
  · exact w_c4
  · exact w_c5
  · exact w_c6
  · exact w_c7
  · exact w_c8
  · exact w_c9
  · exact w_c10
set_option maxRecDepth 65536 in
theorem w_t1 : (words1.take 24).all (fun c => isCode c || c.before args0 about1) = true := by decide +kernel
set_option maxRecDepth 65536 in
theorem w_t2 : ((words1.drop 24).take 24).all (fun c => isCode c || c.before args0 about1) = true := by decide +kernel
set_option maxRecDepth 65536 in
theorem w_t3 : (((words1.drop 24).drop 24).take 24).all (fun c => isCode c || c.before args0 about1) = true := by decide +kernel
set_option maxRecDepth 65536 in
theorem w_t4 : (((words1.drop 24).drop 24).drop 24).all (fun c => isCode c || c.before args0 about1) = true := by decide +kernel
theorem w_tables : (allAtoms (Jvm.Cond.code x code maxLocals ret :: tables_1)).before args0 about1 = true := by
  rw [allAtoms_all]
  show words1.all (fun c => c.before args0 about1) = true
  refine all_split ?_ w_codes
  rw [← List.take_append_drop 24 words1, List.all_append, w_t1, ← List.take_append_drop 24 (words1.drop 24), List.all_append, w_t2, ← List.take_append_drop 24 ((words1.drop 24).drop 24), List.all_append, w_t3, w_t4]
  rfl
set_option maxRecDepth 65536 in
theorem w_case : (Jvm.Cond.and given_1 narrow_1).before args0 about1 = true := by decide +kernel
theorem w_applies : (headSpec (Jvm.Cond.code x code maxLocals ret :: tables_1) room_1).applies x e0.platform about1 = true :=
  (Spec.applies_iff w_frames).mpr ⟨w_running, w_runnable, w_alone, w_named, w_hears, w_ripe, w_room, w_tables⟩
theorem atStart : AtStart classFile x code maxLocals ret World_1 tables_1 room_1 Calls_1 rest_1 Pre_1 launch0 p0 e0 about1 theMethod args0 below0 :=
  ⟨lists_1, trivial, launch0.admits_env _ _ _, launch0.least_env, fairChoices_fair.cas, fairChoices_fair.clock, w_frames, w_args, w_heap, w_applies, trivial, trivial, w_case⟩
end start1
theorem witness_1 : WitnessClaimed_1 := ⟨start1.p0, start1.e0, start1.about1, start1.theMethod, start1.args0, start1.below0, start1.atStart⟩
end Jvm.Pilot.@@N@@
