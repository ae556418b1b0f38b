import JvmDerived
import JvmDerived.Pilot.@@N@@Statement
import JvmDerived.Pilot.@@N@@Code
set_option linter.unusedVariables false
set_option linter.unusedSimpArgs false
namespace Jvm.Pilot.@@N@@
open Jvm Jvm.ClassFile Sem Op Lib Jvm.Free Jvm.Stand Jvm.LawKit Jvm.RoadKit Bundle Jvm.Pilot.@@N@@.Jvm.D
/-! own prelude: 'own_Goes' says that from state T with top frame g the invocation comes to its end with what Q says -/
section OwnPrelude
variable {p : Program} {l : Launch} {e : Env} {R : Room} {s : State} {m : MethodId} {args : Array Value} {below : List Frame} {meth : Method} {c : Code} {T T' : State} {locs : List Loc} {cells slots : Nat} {Z : State} {a0 : Array Value} {h : Heap} {kc ks : Nat} {Q : Option Value → Heap → List Loc → Prop} {g g' : JFrame}
def own_Goes (p : Program) (e : Env) (below : List Frame) (s : State) (kc ks : Nat) (Q : Option Value → Heap → List Loc → Prop) (T : State) (g : JFrame) : Prop :=
  ∃ t o, Steps p.tables e below (T.setTop g) t ∧ t.status = .running ∧ Ended t below o ∧ ∃ v L, o = .returned v ∧ Q v t.heap L ∧ FrameEnd s o t L kc ks
abbrev own_Ctr (l : Launch) (Z : State) (y : MethodName) (bytes : ByteArray) (maxL : Nat) (ret : Option FieldType) (ws : List Jvm.Cond) (rm : Room) (kc ks : Nat) (as' : Array Value) (h : Heap) (Q : Option Value → Heap → List Loc → Prop) : Prop :=
  MetFree l y (head1 (Jvm.Cond.code y bytes maxL ret :: ws) rm) (fun a U => a = as' ∧ Z.Warmed39 U.vm ∧ U.heap = h) (fun _ _ _ _ _ => True) (fun _ U o U' => ∃ v L, o = .returned v ∧ Q v U'.heap L ∧ FrameEnd U o U' L kc ks)
theorem own_by (st : ∀ t, Steps p.tables e below (T'.setTop g') t → Steps p.tables e below (T.setTop g) t) (k : own_Goes p e below s kc ks Q T' g') : own_Goes p e below s kc ks Q T g := by
  obtain ⟨t, o, h1, r⟩ := k; exact ⟨t, o, st t h1, r⟩
theorem own_cast (q : g = g') (k : own_Goes p e below s kc ks Q T g') : own_Goes p e below s kc ks Q T g := q ▸ k
theorem own_enter {y : MethodName} {bytes : ByteArray} {maxL : Nat} {ret : Option FieldType} {ws : List Jvm.Cond} {rm : Room} {as' : Array Value} (hpl : plainFor y = true)
    (k : ∀ p e s m below meth c s₁, Stand p l e rm s m as' below meth c s₁ [] 0 0 → p.tables.exec = Jvm.exec → Z.Warmed39 s.vm → c.code = bytes → c.maxLocals = maxL → s.vm.findClass y.cls = some m.cls → meth.name = y.name → meth.locks = false → meth.sig.returnType = ret → s₁.heap = h → own_Goes p e below s kc ks Q s₁ (entryFrame m as' maxL)) :
    own_Ctr l Z y bytes maxL ret ws rm kc ks as' h Q := by
  refine MetFree.of_bodySF hpl hisR ?_
  intro p e s m args below meth c s₁ Bd hml0 hP hK
  obtain ⟨rfl, hZ, hh⟩ := hP
  exact k p e s m below meth c s₁ (Stand.of_body Bd) Bd.exec hZ Bd.bytes hml0 (findClass_of_methodNamed Bd.named) (name_of_methodNamed Bd.named Bd.method).1 Bd.notSynchronized Bd.returns (by rw [← hh, Bd.state]; rfl)
theorem own_mono (X : Stand p l e R s m args below meth c T locs cells slots) {c' n' : Nat} (h1 : cells ≤ c') (h2 : slots ≤ n') : Stand p l e R s m args below meth c T locs c' n' :=
  { X with same := X.same.mono h1 h2 }
theorem own_out (X : Stand p l e R s m args below meth c T locs cells slots) (hlk : meth.locks = false) {v : Option Value} (hv : meth.sig.returnType = none → v = none)
    (st : ∀ fs, (∀ (f : JFrame) (acts : List Action), f.method = m → f.locked = none → f.entered = [] → (doReturn e (T.setTop f) acts v).1 = T.setFrames fs) → Steps p.tables e below (T.setTop g) (T.setFrames fs))
    (hc : cells ≤ kc) (hs : slots ≤ ks) (hQ : Q v T.heap locs) : own_Goes p e below s kc ks Q T g := by
  obtain ⟨fs, hr, hrun, hended, hW, hsame⟩ := X.leave (v := v) hv hlk
  exact ⟨_, _, st fs hr, hrun, hended, v, locs, rfl, hQ, ⟨_, rfl⟩, hW, hsame.mono hc hs⟩
theorem own_ret {w : Value} {t : FieldType} {i : Instr} {pc : Nat} {Ls : Array Slot} {rest : List Value} (X : Stand p l e R s m args below meth c T locs cells slots) (hx : p.tables.exec = Jvm.exec) (hlk : meth.locks = false) (hret : meth.sig.returnType = some t) (hn : narrow t w = w)
    (hi : (i = .ireturn ∧ (t = .int ∨ t = .boolean ∨ t = .byte ∨ t = .char ∨ t = .short) ∧ ∃ z, w = .int z) ∨ (i = .lreturn ∧ t = .long ∧ ∃ z, w = .long z) ∨ (i = .dreturn ∧ t = .double ∧ ∃ z, w = .double z) ∨ (i = .freturn ∧ t = .float ∧ ∃ z, w = .float z) ∨ (i = .areturn ∧ t.isReference = true ∧ w.isRef = true))
    (hd : decode c.code pc = .ok (i, 1)) (hc : cells ≤ kc) (hs : slots ≤ ks) (hQ : Q (some w) T.heap locs) : own_Goes p e below s kc ks Q T (mkF m pc Ls (w :: rest)) :=
  own_out X hlk (fun h => by rw [hret] at h; cases h) (fun fs hr => retOut X hx hret hn hi hd hr) hc hs hQ
theorem own_retI {z : Int32} {pc : Nat} {Ls : Array Slot} {rest : List Value} (X : Stand p l e R s m args below meth c T locs cells slots) (hx : p.tables.exec = Jvm.exec) (hlk : meth.locks = false) (hret : meth.sig.returnType = some .int)
    (hd : decode c.code pc = .ok (.ireturn, 1)) (hc : cells ≤ kc) (hs : slots ≤ ks) (hQ : Q (some (.int z)) T.heap locs) : own_Goes p e below s kc ks Q T (mkF m pc Ls (.int z :: rest)) :=
  own_ret X hx hlk hret rfl (Or.inl ⟨rfl, Or.inl rfl, z, rfl⟩) hd hc hs hQ
theorem own_retJ {z : Int64} {pc : Nat} {Ls : Array Slot} {rest : List Value} (X : Stand p l e R s m args below meth c T locs cells slots) (hx : p.tables.exec = Jvm.exec) (hlk : meth.locks = false) (hret : meth.sig.returnType = some .long)
    (hd : decode c.code pc = .ok (.lreturn, 1)) (hc : cells ≤ kc) (hs : slots ≤ ks) (hQ : Q (some (.long z)) T.heap locs) : own_Goes p e below s kc ks Q T (mkF m pc Ls (.long z :: rest)) :=
  own_ret X hx hlk hret rfl (Or.inr (Or.inl ⟨rfl, rfl, z, rfl⟩)) hd hc hs hQ
theorem own_retD {z : UInt64} {pc : Nat} {Ls : Array Slot} {rest : List Value} (X : Stand p l e R s m args below meth c T locs cells slots) (hx : p.tables.exec = Jvm.exec) (hlk : meth.locks = false) (hret : meth.sig.returnType = some .double)
    (hd : decode c.code pc = .ok (.dreturn, 1)) (hc : cells ≤ kc) (hs : slots ≤ ks) (hQ : Q (some (.double z)) T.heap locs) : own_Goes p e below s kc ks Q T (mkF m pc Ls (.double z :: rest)) :=
  own_ret X hx hlk hret rfl (Or.inr (Or.inr (Or.inl ⟨rfl, rfl, z, rfl⟩))) hd hc hs hQ
theorem own_b8 (x : Int32) : ((x).toInt8.toInt32).toInt8.toInt32 = x.toInt8.toInt32 := by simp
theorem own_c16 (x : Int32) : ((x).toUInt32.toUInt16.toUInt32.toInt32).toUInt32.toUInt16.toUInt32.toInt32 = x.toUInt32.toUInt16.toUInt32.toInt32 := by
  have h : ∀ u : UInt16, (u.toUInt32.toInt32).toUInt32.toUInt16 = u := fun u => by
    show (u.toUInt32).toUInt16 = u
    simp
  rw [h]
theorem own_at_ {a : Addr} {cl : Cell} (q : T.heap = h) (A : h[a]? = some cl) : T.heap[a]? = some cl := q ▸ A
theorem own_wr {h' : Heap} {a : Addr} {sl : Nat} {v v' : Value} (W : Wr h h' a sl v) (q : v = v') : Wr h h' a sl v' := q ▸ W
theorem own_eqI {first : State} {o : Option Outcome} {idx : List Nat} {a b : Term} {x y : Int32} (ha : a.eval args first o idx s = some (.int x)) (hb : b.eval args first o idx s = some (.int y)) : (Cond.eq a b).value args first o s idx = some (decide (x = y)) := by simp [Cond.value, ha, hb]
theorem own_fitR {t : FieldType} {w : Value} (ht : t.isReference = true) (hw : w.isRef = true) : fits t w = true := by cases t <;> simp [FieldType.isReference] at ht <;> rcases ref_cases hw with rfl | ⟨a, rfl⟩ <;> rfl
theorem own_cat1 {w : Value} (hw : w.isRef = true) : w.category = 1 := by rcases ref_cases hw with rfl | ⟨a, rfl⟩ <;> rfl
theorem own_stG {ls l' : Array Slot} {i : Nat} {v : Value} {o : Slot} (hold : ls[i]? = some o) (ho : o = .unset ∨ ∃ w, o = .val w ∧ w.category = 1) (hv : v.category = 1) (q : ls.setIfInBounds i (.val v) = l') : storeLocals ls i v = some l' := q ▸ XS.store1 hold ho hv
theorem own_narR {t : FieldType} {w : Value} (ht : t.isReference = true) : narrow t w = w := by cases t <;> simp [FieldType.isReference] at ht <;> cases w <;> rfl
theorem own_retA {w : Value} {t : FieldType} {pc : Nat} {Ls : Array Slot} {rest : List Value} (X : Stand p l e R s m args below meth c T locs cells slots) (hx : p.tables.exec = Jvm.exec) (hlk : meth.locks = false) (hret : meth.sig.returnType = some t) (ht : t.isReference = true) (hw : w.isRef = true)
    (hd : decode c.code pc = .ok (.areturn, 1)) (hc : cells ≤ kc) (hs : slots ≤ ks) (hQ : Q (some w) T.heap locs) : own_Goes p e below s kc ks Q T (mkF m pc Ls (w :: rest)) :=
  own_ret X hx hlk hret (own_narR ht) (Or.inr (Or.inr (Or.inr (Or.inr ⟨rfl, ht, hw⟩)))) hd hc hs hQ
theorem own_retN {z : Int32} {t : FieldType} {pc : Nat} {Ls : Array Slot} {rest : List Value} (X : Stand p l e R s m args below meth c T locs cells slots) (hx : p.tables.exec = Jvm.exec) (hlk : meth.locks = false) (hret : meth.sig.returnType = some t) (ht : t = .boolean ∨ t = .byte ∨ t = .char ∨ t = .short)
    (hd : decode c.code pc = .ok (.ireturn, 1)) (hc : cells ≤ kc) (hs : slots ≤ ks) (hQ : Q (some (.int (nar t z))) T.heap locs) : own_Goes p e below s kc ks Q T (mkF m pc Ls (.int z :: rest)) :=
  own_out X hlk (fun h => by rw [hret] at h; cases h) (fun fs hr => retN X hx hret ht hd hr) hc hs hQ
theorem own_retV {pc : Nat} {Ls : Array Slot} (X : Stand p l e R s m args below meth c T locs cells slots) (hx : p.tables.exec = Jvm.exec) (hlk : meth.locks = false) (hret : meth.sig.returnType = none)
    (hd : decode c.code pc = .ok (.return_, 1)) (hc : cells ≤ kc) (hs : slots ≤ ks) (hQ : Q none T.heap locs) : own_Goes p e below s kc ks Q T (mkF m pc Ls []) :=
  own_out X hlk (fun _ => rfl) (fun fs hr => X.returnOut hx hret hd hr) hc hs hQ
/-- an array of that type and length, whatever it holds -/
def own_Arz (Z : State) (h : Heap) (a : Addr) (ty : FieldType) (z : Int32) : Prop := ∃ c : Cell, Arr Z h a c ty ∧ c.slots.size = z.toNatClampNeg ∧ ¬ z < 0
theorem own_Arz.of {a : Addr} {k : ClassId} {ty : FieldType} {z : Int32} {vs : List Value} {dv : Value} (F : Arv Z h a k ty z vs dv) : own_Arz Z h a ty z := by obtain ⟨c, A, -, S, q, -⟩ := F; exact ⟨c, A, S, q⟩
theorem own_Arz.lt {a : Addr} {ty : FieldType} {z : Int32} (F : own_Arz Z h a ty z) : a < h.size := by obtain ⟨c, A, -⟩ := F; exact A.lt
theorem own_Arz.ext {h' : Heap} {a : Addr} {ty : FieldType} {z : Int32} (F : own_Arz Z h a ty z) (E : Ext h h') : own_Arz Z h' a ty z := by obtain ⟨c, A, r⟩ := F; exact ⟨c, A.ext E, r⟩
theorem own_Arz.other {h' : Heap} {a b : Addr} {ty : FieldType} {z : Int32} {sl : Nat} {v : Value} (F : own_Arz Z h b ty z) (W : Wr h h' a sl v) (q : b ≠ a) : own_Arz Z h' b ty z := by obtain ⟨c, A, r⟩ := F; exact ⟨c, A.other W q, r⟩
theorem own_Arz.same {h' : Heap} {a : Addr} {ty : FieldType} {z : Int32} {sl : Nat} {v : Value} (F : own_Arz Z h a ty z) (W : Wr h h' a sl v) : own_Arz Z h' a ty z := by obtain ⟨c, A, r1, r2⟩ := F; exact ⟨_, A.same W, by rw [sz_set]; exact r1, r2⟩
theorem own_Arz.keep {h' : Heap} {a : Addr} {ty : FieldType} {z : Int32} {ws : List Addr} (F : own_Arz Z h a ty z) (K : Keep h h' ws) (q : a ∉ ws) : own_Arz Z h' a ty z := by obtain ⟨c, A, r⟩ := F; exact ⟨c, ⟨K.2.1 a c A.1 q, A.2⟩, r⟩
theorem own_neY {a b : Addr} {C : String} {n : Nat} {ty : FieldType} {z : Int32} (E : Exa Z h a C) (w : (Cond.instantiable C n).before a0 Z = true) (F : own_Arz Z h b ty z) : a ≠ b := by obtain ⟨c, A, -⟩ := F; exact ne_arr E w A
section OwnCalls
variable {own : String} {index : Nat} {y z : MethodName} {bytes : ByteArray} {maxL : Nat} {ret : Option FieldType} {rm : Room} {Q' : Option Value → Heap → List Loc → Prop} {argsL rest : List Value}
theorem own_callS (X : Stand p l e R s m args below meth c T locs cells slots) (hx : p.tables.exec = Jvm.exec) (hZ : Z.Warmed39 s.vm) (hown : s.vm.findClass own = some m.cls)
    (w1 : (Cond.methodLink own index y).before a0 Z = true) (w2 : (Cond.static y).before a0 Z = true) (w3 : (Cond.initialized y.cls).before a0 Z = true) (w4 : (Cond.code y bytes maxL ret).before a0 Z = true)
    (hy : y.cls ≠ "java/lang/invoke/MethodHandle" ∧ y.cls ≠ "java/lang/invoke/VarHandle") (hM : own_Ctr l Z y bytes maxL ret [] rm rm.cells rm.slots argsL.toArray h Q') (W : Nat)
    (hf : rm.frames + 1 ≤ R.frames) (hl : W + (maxL + 11) + rm.locals ≤ R.locals) (hc : cells + rm.cells ≤ R.cells) (hs : slots + rm.slots ≤ R.slots) (eT : T.heap = h)
    (hg : g.method = m) (hsize : g.locals.size = c.maxLocals) (hlen : ∀ sig, parseMethodDescriptor y.desc = some sig → argsL.length = sig.parameters.length) (hstack : g.stack = argsL.reverse ++ rest)
    (hW : 2 * g.monitorRoom + (rest.map fun v => v.category).sum ≤ W) (hd : decode c.code g.pc = .ok (.invokestatic index, 3))
    (k : ∀ v T' L, Stand p l e R s m args below meth c T' (locs ++ L) (cells + rm.cells) (slots + rm.slots) → Q' v T'.heap L → own_Goes p e below s kc ks Q T' { g with pc := g.pc + 3, stack := v.toList ++ rest }) : own_Goes p e below s kc ks Q T g := by
  obtain ⟨v, _, ⟨T', L', k', n'⟩, -, X', ⟨Lc, hQ, l1, y1, z1⟩, st⟩ := Jvm.LawKit.callS X hx hown (mvT hZ w1) (mvT hZ w2) (mvT hZ w3) (mvT hZ w4) hy (backOf (W := W) hM hZ w4 w3 hf hl) hg hsize hlen hstack hW hd (fun _ _ => ⟨rfl, eT, hc, hs⟩)
  dsimp only [Pt.U, Pt.locs, Pt.cells, Pt.slots] at X' l1 y1 z1 st hQ
  subst l1 y1 z1
  exact own_by st (k v T' Lc X' hQ)
theorem own_callI (X : Stand p l e R s m args below meth c T locs cells slots) (hx : p.tables.exec = Jvm.exec) (hZ : Z.Warmed39 s.vm) (hown : s.vm.findClass own = some m.cls) (hy1 : y.name = "<init>")
    (w1 : (Cond.methodLink own index y).before a0 Z = true) (w2 : (Cond.instanceMethod y).before a0 Z = true) (w3 : (Cond.initialized y.cls).before a0 Z = true) (w4 : (Cond.code y bytes maxL none).before a0 Z = true)
    (hy : y.cls ≠ "java/lang/invoke/MethodHandle" ∧ y.cls ≠ "java/lang/invoke/VarHandle") {a : Addr} (hM : own_Ctr l Z y bytes maxL none [] rm rm.cells rm.slots (.ref a :: argsL).toArray h Q') (W : Nat)
    (hf : rm.frames + 1 ≤ R.frames) (hl : W + (maxL + 11) + rm.locals ≤ R.locals) (hc : cells + rm.cells ≤ R.cells) (hs : slots + rm.slots ≤ R.slots) (eT : T.heap = h)
    (hg : g.method = m) (hsize : g.locals.size = c.maxLocals) (hlen : ∀ sig, parseMethodDescriptor y.desc = some sig → argsL.length = sig.parameters.length) (hstack : g.stack = argsL.reverse ++ .ref a :: rest)
    (hW : 2 * g.monitorRoom + (rest.map fun v => v.category).sum ≤ W) (hd : decode c.code g.pc = .ok (.invokespecial index, 3))
    (k : ∀ v T' L, Stand p l e R s m args below meth c T' (locs ++ L) (cells + rm.cells) (slots + rm.slots) → Q' v T'.heap L → own_Goes p e below s kc ks Q T' { g with pc := g.pc + 3, stack := v.toList ++ rest }) : own_Goes p e below s kc ks Q T g := by
  obtain ⟨v, _, ⟨T', L', k', n'⟩, -, X', ⟨Lc, hQ, l1, y1, z1⟩, st⟩ := X.specialBack hx hy1 hown (mvT hZ w1) (mvT hZ w2) (mvT hZ w4) hy (backOf (W := W) hM hZ w4 w3 hf hl) hg hsize (Steps.refl _) hlen hstack hW hd (fun _ _ => ⟨rfl, eT, hc, hs⟩)
  dsimp only [Pt.U, Pt.locs, Pt.cells, Pt.slots] at X' l1 y1 z1 st hQ
  subst l1 y1 z1
  exact own_by (fun t kt => st.trans kt) (k v T' Lc X' hQ)
theorem own_callIN {host : String} (X : Stand p l e R s m args below meth c T locs cells slots) (hx : p.tables.exec = Jvm.exec) (hZ : Z.Warmed39 s.vm) (hown : s.vm.findClass own = some m.cls) (hy1 : y.name = "<init>")
    (w1 : (Cond.methodLinkNest own index y host).before a0 Z = true) (w2 : (Cond.instanceMethod y).before a0 Z = true) (w3 : (Cond.initialized y.cls).before a0 Z = true) (w4 : (Cond.code y bytes maxL none).before a0 Z = true)
    (hy : y.cls ≠ "java/lang/invoke/MethodHandle" ∧ y.cls ≠ "java/lang/invoke/VarHandle") {a : Addr} (hM : own_Ctr l Z y bytes maxL none [] rm rm.cells rm.slots (.ref a :: argsL).toArray h Q') (W : Nat)
    (hf : rm.frames + 1 ≤ R.frames) (hl : W + (maxL + 11) + rm.locals ≤ R.locals) (hc : cells + rm.cells ≤ R.cells) (hs : slots + rm.slots ≤ R.slots) (eT : T.heap = h)
    (hg : g.method = m) (hsize : g.locals.size = c.maxLocals) (hlen : ∀ sig, parseMethodDescriptor y.desc = some sig → argsL.length = sig.parameters.length) (hstack : g.stack = argsL.reverse ++ .ref a :: rest)
    (hW : 2 * g.monitorRoom + (rest.map fun v => v.category).sum ≤ W) (hd : decode c.code g.pc = .ok (.invokespecial index, 3))
    (k : ∀ v T' L, Stand p l e R s m args below meth c T' (locs ++ L) (cells + rm.cells) (slots + rm.slots) → Q' v T'.heap L → own_Goes p e below s kc ks Q T' { g with pc := g.pc + 3, stack := v.toList ++ rest }) : own_Goes p e below s kc ks Q T g := by
  obtain ⟨v, _, ⟨T', L', k', n'⟩, -, X', ⟨Lc, hQ, l1, y1, z1⟩, st⟩ := X.specialBackNest hx hy1 hown (Cond.methodLinkNest_wide hZ w1 :) (mvT hZ w2) (mvT hZ w4) hy (backOf (W := W) hM hZ w4 w3 hf hl) hg hsize (Steps.refl _) hlen hstack hW hd (fun _ _ => ⟨rfl, eT, hc, hs⟩)
  dsimp only [Pt.U, Pt.locs, Pt.cells, Pt.slots] at X' l1 y1 z1 st hQ
  subst l1 y1 z1
  exact own_by (fun t kt => st.trans kt) (k v T' Lc X' hQ)
theorem own_callV {C : String} (X : Stand p l e R s m args below meth c T locs cells slots) (hx : p.tables.exec = Jvm.exec) (hZ : Z.Warmed39 s.vm) (hown : s.vm.findClass own = some m.cls)
    (w1 : (Cond.methodLink own index y).before a0 Z = true) (w2 : (Cond.declares y).before a0 Z = true) (hnf : NotFace s y) (w3 : (Cond.selects C y z).before a0 Z = true) (w4 : (Cond.instanceMethod z).before a0 Z = true) (w5 : (Cond.code z bytes maxL ret).before a0 Z = true) (w6 : (Cond.initialized z.cls).before a0 Z = true)
    (hy : y.cls ≠ "java/lang/invoke/MethodHandle" ∧ y.cls ≠ "java/lang/invoke/VarHandle") {a : Addr} (E : Exa Z h a C) (hM : own_Ctr l Z z bytes maxL ret [] rm rm.cells rm.slots (.ref a :: argsL).toArray h Q') (W : Nat)
    (hf : rm.frames + 1 ≤ R.frames) (hl : W + (maxL + 11) + rm.locals ≤ R.locals) (hc : cells + rm.cells ≤ R.cells) (hs : slots + rm.slots ≤ R.slots) (eT : T.heap = h)
    (hg : g.method = m) (hsize : g.locals.size = c.maxLocals) (hlen : ∀ sig, parseMethodDescriptor y.desc = some sig → argsL.length = sig.parameters.length) (hstack : g.stack = argsL.reverse ++ .ref a :: rest)
    (hW : 2 * g.monitorRoom + (rest.map fun v => v.category).sum ≤ W) (hd : decode c.code g.pc = .ok (.invokevirtual index, 3))
    (k : ∀ v T' L, Stand p l e R s m args below meth c T' (locs ++ L) (cells + rm.cells) (slots + rm.slots) → Q' v T'.heap L → own_Goes p e below s kc ks Q T' { g with pc := g.pc + 3, stack := v.toList ++ rest }) : own_Goes p e below s kc ks Q T g := by
  obtain ⟨cq, kq, qa, qb, qc⟩ := isOf hZ eT E
  obtain ⟨v, _, ⟨T', L', k', n'⟩, -, X', ⟨Lc, hQ, l1, y1, z1⟩, st⟩ := X.virtualBack hx hown (mvT hZ w1) (mvT hZ w2) hnf (mvT hZ w3) (mvT hZ w4) hy (backOf (W := W) hM hZ w5 w6 hf hl) qa qc hg hsize (Steps.refl _) hlen hstack hW hd (fun _ _ => ⟨rfl, eT, hc, hs⟩)
  dsimp only [Pt.U, Pt.locs, Pt.cells, Pt.slots] at X' l1 y1 z1 st hQ
  subst l1 y1 z1
  exact own_by (fun t kt => st.trans kt) (k v T' Lc X' hQ)
theorem own_callP (X : Stand p l e R s m args below meth c T locs cells slots) (hx : p.tables.exec = Jvm.exec) (hZ : Z.Warmed39 s.vm) (hown : s.vm.findClass own = some m.cls)
    (w1 : (Cond.methodLink own index y).before a0 Z = true) (w2 : (Cond.instanceMethod y).before a0 Z = true) (w3 : (Cond.selects y.cls y y).before a0 Z = true) (w4 : (Cond.privateMethod y).before a0 Z = true) (w5 : (Cond.code y bytes maxL ret).before a0 Z = true) (w6 : (Cond.initialized y.cls).before a0 Z = true)
    (hy : y.cls ≠ "java/lang/invoke/MethodHandle" ∧ y.cls ≠ "java/lang/invoke/VarHandle") {a : Addr} {C : String} (E : Exa Z h a C) (hM : own_Ctr l Z y bytes maxL ret [] rm rm.cells rm.slots (.ref a :: argsL).toArray h Q') (W : Nat)
    (hf : rm.frames + 1 ≤ R.frames) (hl : W + (maxL + 11) + rm.locals ≤ R.locals) (hc : cells + rm.cells ≤ R.cells) (hs : slots + rm.slots ≤ R.slots) (eT : T.heap = h)
    (hg : g.method = m) (hsize : g.locals.size = c.maxLocals) (hlen : ∀ sig, parseMethodDescriptor y.desc = some sig → argsL.length = sig.parameters.length) (hstack : g.stack = argsL.reverse ++ .ref a :: rest)
    (hW : 2 * g.monitorRoom + (rest.map fun v => v.category).sum ≤ W) (hd : decode c.code g.pc = .ok (.invokevirtual index, 3))
    (k : ∀ v T' L, Stand p l e R s m args below meth c T' (locs ++ L) (cells + rm.cells) (slots + rm.slots) → Q' v T'.heap L → own_Goes p e below s kc ks Q T' { g with pc := g.pc + 3, stack := v.toList ++ rest }) : own_Goes p e below s kc ks Q T g := by
  obtain ⟨cq, q1, q2⟩ := E.cell
  obtain ⟨v, _, ⟨T', L', k', n'⟩, -, X', ⟨Lc, hQ, l1, y1, z1⟩, st⟩ := X.privateBack hx hown (mvT hZ w1) (mvT hZ w2) (mvT hZ w3) (Cond.privateMethod_at (mvP hZ w4 (args := #[]))) (mvT hZ w5) hy (backOf (W := W) hM hZ w5 w6 hf hl) hg hsize (Steps.refl _) (a := a) (by rw [eT]; exact q1) q2 hlen hstack hW hd (fun _ _ => ⟨rfl, eT, hc, hs⟩)
  dsimp only [Pt.U, Pt.locs, Pt.cells, Pt.slots] at X' l1 y1 z1 st hQ
  subst l1 y1 z1
  exact own_by (fun t kt => st.trans kt) (k v T' Lc X' hQ)
theorem own_callF {C : String} {count : Nat} (X : Stand p l e R s m args below meth c T locs cells slots) (hx : p.tables.exec = Jvm.exec) (hZ : Z.Warmed39 s.vm) (hown : s.vm.findClass own = some m.cls)
    (w1 : (Cond.methodLink own index y).before a0 Z = true) (w2 : (Cond.declares y).before a0 Z = true) (w2f : (Cond.interfaceMethod y.cls y.cls y.name y.desc).before a0 Z = true) (w3 : (Cond.selects C y z).before a0 Z = true) (w4 : (Cond.instanceMethod z).before a0 Z = true)
    (wp : (Cond.publicMethod z).before a0 Z = true) (wu : (Cond.unhidden C y.name y.desc).before a0 Z = true) (wk : (Cond.castable C y.cls).before a0 Z = true) (w5 : (Cond.code z bytes maxL ret).before a0 Z = true) (w6 : (Cond.initialized z.cls).before a0 Z = true)
    (hy : y.cls ≠ "java/lang/invoke/MethodHandle" ∧ y.cls ≠ "java/lang/invoke/VarHandle") {a : Addr} (E : Exa Z h a C) (hM : own_Ctr l Z z bytes maxL ret [] rm rm.cells rm.slots (.ref a :: argsL).toArray h Q') (W : Nat)
    (hf : rm.frames + 1 ≤ R.frames) (hl : W + (maxL + 11) + rm.locals ≤ R.locals) (hc : cells + rm.cells ≤ R.cells) (hs : slots + rm.slots ≤ R.slots) (eT : T.heap = h)
    (hg : g.method = m) (hsize : g.locals.size = c.maxLocals) (hlen : ∀ sig, parseMethodDescriptor y.desc = some sig → argsL.length = sig.parameters.length) (hstack : g.stack = argsL.reverse ++ .ref a :: rest)
    (hW : 2 * g.monitorRoom + (rest.map fun v => v.category).sum ≤ W) (hd : decode c.code g.pc = .ok (.invokeinterface index count, 5))
    (k : ∀ v T' L, Stand p l e R s m args below meth c T' (locs ++ L) (cells + rm.cells) (slots + rm.slots) → Q' v T'.heap L → own_Goes p e below s kc ks Q T' { g with pc := g.pc + 5, stack := v.toList ++ rest }) : own_Goes p e below s kc ks Q T g := by
  obtain ⟨cq, kq, qa, qb, qc⟩ := isOf hZ eT E
  have hface : ((Cond.interfaceMethod y.cls y.cls y.name y.desc).onTables && (Cond.interfaceMethod y.cls y.cls y.name y.desc).keepsFace) = true := by simp [Cond.onTables, Cond.keepsFace, Cond.keeps, Cond.steady, Cond.faceAtom, hy.1, hy.2]
  obtain ⟨v, _, ⟨T', L', k', n'⟩, -, X', ⟨Lc, hQ, l1, y1, z1⟩, st⟩ := X.interfaceBack hx hown (mvT hZ w1) (mvT hZ w2) (mvT hZ w2f hface) (mvT hZ w3) (mvT hZ w4) (mvT hZ wp) (mvT hZ wu) (mvT hZ wk) hy (backOf (W := W) hM hZ w5 w6 hf hl) qa qb qc hg hsize (Steps.refl _) hlen hstack hW hd (fun _ _ => ⟨rfl, eT, hc, hs⟩)
  dsimp only [Pt.U, Pt.locs, Pt.cells, Pt.slots] at X' l1 y1 z1 st hQ
  subst l1 y1 z1
  exact own_by (fun t kt => st.trans kt) (k v T' Lc X' hQ)
end OwnCalls
end OwnPrelude
/-! own wide prelude: bodies that may load a String constant cold (the intern table may grow): 's0' is the true start, 's' the start with the tables at hand -/
section OwnWide
variable {p : Program} {l : Launch} {e : Env} {R : Room} {s s0 : State} {m : MethodId} {args : Array Value} {below : List Frame} {meth : Method} {c : Code} {T T' : State} {locs : List Loc} {cells slots : Nat} {Z : State} {a0 : Array Value} {h hb : Heap} {kc ks n : Nat} {QW : Option Value → Vm → Heap → List Loc → Prop} {g g' : JFrame} {J : Vm → Prop}
def ownW_Goes (p : Program) (e : Env) (below : List Frame) (s : State) (kc ks : Nat) (Q : Option Value → Vm → Heap → List Loc → Prop) (T : State) (g : JFrame) : Prop :=
  ∃ t o, Steps p.tables e below (T.setTop g) t ∧ t.status = .running ∧ Ended t below o ∧ ∃ v L, o = .returned v ∧ Q v t.vm t.heap L ∧ ReturnedEndW s o t L kc ks
abbrev ownW_Ctr (l : Launch) (Z : State) (y : MethodName) (bytes : ByteArray) (maxL : Nat) (ret : Option FieldType) (ws : List Jvm.Cond) (rm : Room) (kc ks : Nat) (as' : Array Value) (h : Heap) (J : Vm → Prop) (Q : Option Value → Vm → Heap → List Loc → Prop) : Prop :=
  MetFree l y (head1 (Jvm.Cond.code y bytes maxL ret :: ws) rm) (fun a U => a = as' ∧ Z.Warmed39 U.vm ∧ U.heap = h ∧ J U.vm) (fun _ _ _ _ _ => True) (fun _ U o U' => ∃ v L, o = .returned v ∧ Q v U'.vm U'.heap L ∧ ReturnedEndW U o U' L kc ks)
theorem ownW_by (st : ∀ t, Steps p.tables e below (T'.setTop g') t → Steps p.tables e below (T.setTop g) t) (k : ownW_Goes p e below s0 kc ks QW T' g') : ownW_Goes p e below s0 kc ks QW T g := by
  obtain ⟨t, o, h1, r⟩ := k; exact ⟨t, o, st t h1, r⟩
theorem ownW_cast (q : g = g') (k : ownW_Goes p e below s0 kc ks QW T g') : ownW_Goes p e below s0 kc ks QW T g := q ▸ k
theorem ownW_enter {y : MethodName} {bytes : ByteArray} {maxL : Nat} {ret : Option FieldType} {ws : List Jvm.Cond} {rm : Room} {as' : Array Value} (hpl : plainFor y = true)
    (k : ∀ p e s0 s m below meth c s₁, s = s0.setVm s.vm → s.heap = h → s0.Since s.vm 0 → Stand p l e rm s m as' below meth c s₁ [] 0 0 → p.tables.exec = Jvm.exec → Z.Warmed39 s.vm → c.code = bytes → c.maxLocals = maxL → s.vm.findClass y.cls = some m.cls → meth.name = y.name → meth.locks = false → meth.sig.returnType = ret → s₁.heap = h → J s.vm → ownW_Goes p e below s0 kc ks QW s₁ (entryFrame m as' maxL)) :
    ownW_Ctr l Z y bytes maxL ret ws rm kc ks as' h J QW := by
  refine MetFree.of_bodySF hpl hisR ?_
  intro p e s m args below meth c s₁ Bd hml0 hP hK
  obtain ⟨rfl, hZ, hh, hJ⟩ := hP
  exact k p e s s m below meth c s₁ rfl hh ((State.WarmedH.refl s).since 0) (Stand.of_body Bd) Bd.exec hZ Bd.bytes hml0 (findClass_of_methodNamed Bd.named) (name_of_methodNamed Bd.named Bd.method).1 Bd.notSynchronized Bd.returns (by rw [← hh, Bd.state]; rfl) hJ
theorem ownW_rebase (hsv : s = s0.setVm s.vm) (X : Stand p l e R s m args below meth c T locs cells slots) : Stand p l e R (s0.setVm s.vm) m args below meth c T locs cells slots :=
  Eq.mp (congrArg (fun z => Stand p l e R z m args below meth c T locs cells slots) hsv) X
theorem ownW_since {u : Vm} {n2 : Nat} (hsv : s = s0.setVm s.vm) (hS : s0.Since s.vm n) (h2 : s.Since u n2) (hn : n ≤ n2) : s0.Since u n2 :=
  hS.trans (Eq.mp (congrArg (fun z : State => z.Since u n2) hsv) h2) hn
theorem ownW_set (hsv : s = s0.setVm s.vm) (u : Vm) : s.setVm u = s0.setVm (s.setVm u).vm := by
  have q : s.setVm u = (s0.setVm s.vm).setVm u := congrArg (fun z : State => z.setVm u) hsv
  exact q
theorem ownW_out (X : Stand p l e R s m args below meth c T locs cells slots) (hsv : s = s0.setVm s.vm) (hS : s0.Since s.vm n) (hn : n ≤ T.heap.size) (hlk : meth.locks = false) {v : Option Value} (hv : meth.sig.returnType = none → v = none)
    (st : ∀ fs, (∀ (f : JFrame) (acts : List Action), f.method = m → f.locked = none → f.entered = [] → (doReturn e (T.setTop f) acts v).1 = T.setFrames fs) → Steps p.tables e below (T.setTop g) (T.setFrames fs))
    (hc : cells ≤ kc) (hs : slots ≤ ks) (hQ : ∀ u, s.WarmedH u → QW v u T.heap locs) : ownW_Goes p e below s0 kc ks QW T g := by
  obtain ⟨fs, hr, hrun, hended, -, hW, hB, hsame⟩ := (ownW_rebase hsv X).leaveW hS hn (v := v) hv hlk
  exact ⟨_, _, st fs hr, hrun, hended, v, locs, rfl, hQ _ X.warmed, ⟨_, rfl⟩, hW, hB, hsame.mono hc hs⟩
theorem ownW_ret {w : Value} {t : FieldType} {i : Instr} {pc : Nat} {Ls : Array Slot} {rest : List Value} (X : Stand p l e R s m args below meth c T locs cells slots) (hsv : s = s0.setVm s.vm) (hS : s0.Since s.vm n) (hnS : n ≤ T.heap.size) (hx : p.tables.exec = Jvm.exec) (hlk : meth.locks = false) (hret : meth.sig.returnType = some t) (hn : narrow t w = w)
    (hi : (i = .ireturn ∧ (t = .int ∨ t = .boolean ∨ t = .byte ∨ t = .char ∨ t = .short) ∧ ∃ z, w = .int z) ∨ (i = .lreturn ∧ t = .long ∧ ∃ z, w = .long z) ∨ (i = .dreturn ∧ t = .double ∧ ∃ z, w = .double z) ∨ (i = .freturn ∧ t = .float ∧ ∃ z, w = .float z) ∨ (i = .areturn ∧ t.isReference = true ∧ w.isRef = true))
    (hd : decode c.code pc = .ok (i, 1)) (hc : cells ≤ kc) (hs : slots ≤ ks) (hQ : ∀ u, s.WarmedH u → QW (some w) u T.heap locs) : ownW_Goes p e below s0 kc ks QW T (mkF m pc Ls (w :: rest)) :=
  ownW_out X hsv hS hnS hlk (fun h => by rw [hret] at h; cases h) (fun fs hr => retOut X hx hret hn hi hd hr) hc hs hQ
theorem ownW_retI {z : Int32} {pc : Nat} {Ls : Array Slot} {rest : List Value} (X : Stand p l e R s m args below meth c T locs cells slots) (hsv : s = s0.setVm s.vm) (hS : s0.Since s.vm n) (hnS : n ≤ T.heap.size) (hx : p.tables.exec = Jvm.exec) (hlk : meth.locks = false) (hret : meth.sig.returnType = some .int)
    (hd : decode c.code pc = .ok (.ireturn, 1)) (hc : cells ≤ kc) (hs : slots ≤ ks) (hQ : ∀ u, s.WarmedH u → QW (some (.int z)) u T.heap locs) : ownW_Goes p e below s0 kc ks QW T (mkF m pc Ls (.int z :: rest)) :=
  ownW_ret X hsv hS hnS hx hlk hret rfl (Or.inl ⟨rfl, Or.inl rfl, z, rfl⟩) hd hc hs hQ
theorem ownW_retJ {z : Int64} {pc : Nat} {Ls : Array Slot} {rest : List Value} (X : Stand p l e R s m args below meth c T locs cells slots) (hsv : s = s0.setVm s.vm) (hS : s0.Since s.vm n) (hnS : n ≤ T.heap.size) (hx : p.tables.exec = Jvm.exec) (hlk : meth.locks = false) (hret : meth.sig.returnType = some .long)
    (hd : decode c.code pc = .ok (.lreturn, 1)) (hc : cells ≤ kc) (hs : slots ≤ ks) (hQ : ∀ u, s.WarmedH u → QW (some (.long z)) u T.heap locs) : ownW_Goes p e below s0 kc ks QW T (mkF m pc Ls (.long z :: rest)) :=
  ownW_ret X hsv hS hnS hx hlk hret rfl (Or.inr (Or.inl ⟨rfl, rfl, z, rfl⟩)) hd hc hs hQ
theorem ownW_retD {z : UInt64} {pc : Nat} {Ls : Array Slot} {rest : List Value} (X : Stand p l e R s m args below meth c T locs cells slots) (hsv : s = s0.setVm s.vm) (hS : s0.Since s.vm n) (hnS : n ≤ T.heap.size) (hx : p.tables.exec = Jvm.exec) (hlk : meth.locks = false) (hret : meth.sig.returnType = some .double)
    (hd : decode c.code pc = .ok (.dreturn, 1)) (hc : cells ≤ kc) (hs : slots ≤ ks) (hQ : ∀ u, s.WarmedH u → QW (some (.double z)) u T.heap locs) : ownW_Goes p e below s0 kc ks QW T (mkF m pc Ls (.double z :: rest)) :=
  ownW_ret X hsv hS hnS hx hlk hret rfl (Or.inr (Or.inr (Or.inl ⟨rfl, rfl, z, rfl⟩))) hd hc hs hQ
theorem ownW_retA {w : Value} {t : FieldType} {pc : Nat} {Ls : Array Slot} {rest : List Value} (X : Stand p l e R s m args below meth c T locs cells slots) (hsv : s = s0.setVm s.vm) (hS : s0.Since s.vm n) (hnS : n ≤ T.heap.size) (hx : p.tables.exec = Jvm.exec) (hlk : meth.locks = false) (hret : meth.sig.returnType = some t) (ht : t.isReference = true) (hw : w.isRef = true)
    (hd : decode c.code pc = .ok (.areturn, 1)) (hc : cells ≤ kc) (hs : slots ≤ ks) (hQ : ∀ u, s.WarmedH u → QW (some w) u T.heap locs) : ownW_Goes p e below s0 kc ks QW T (mkF m pc Ls (w :: rest)) :=
  ownW_ret X hsv hS hnS hx hlk hret (own_narR ht) (Or.inr (Or.inr (Or.inr (Or.inr ⟨rfl, ht, hw⟩)))) hd hc hs hQ
theorem ownW_retN {z : Int32} {t : FieldType} {pc : Nat} {Ls : Array Slot} {rest : List Value} (X : Stand p l e R s m args below meth c T locs cells slots) (hsv : s = s0.setVm s.vm) (hS : s0.Since s.vm n) (hnS : n ≤ T.heap.size) (hx : p.tables.exec = Jvm.exec) (hlk : meth.locks = false) (hret : meth.sig.returnType = some t) (ht : t = .boolean ∨ t = .byte ∨ t = .char ∨ t = .short)
    (hd : decode c.code pc = .ok (.ireturn, 1)) (hc : cells ≤ kc) (hs : slots ≤ ks) (hQ : ∀ u, s.WarmedH u → QW (some (.int (nar t z))) u T.heap locs) : ownW_Goes p e below s0 kc ks QW T (mkF m pc Ls (.int z :: rest)) :=
  ownW_out X hsv hS hnS hlk (fun h => by rw [hret] at h; cases h) (fun fs hr => retN X hx hret ht hd hr) hc hs hQ
theorem ownW_retV {pc : Nat} {Ls : Array Slot} (X : Stand p l e R s m args below meth c T locs cells slots) (hsv : s = s0.setVm s.vm) (hS : s0.Since s.vm n) (hnS : n ≤ T.heap.size) (hx : p.tables.exec = Jvm.exec) (hlk : meth.locks = false) (hret : meth.sig.returnType = none)
    (hd : decode c.code pc = .ok (.return_, 1)) (hc : cells ≤ kc) (hs : slots ≤ ks) (hQ : ∀ u, s.WarmedH u → QW none u T.heap locs) : ownW_Goes p e below s0 kc ks QW T (mkF m pc Ls []) :=
  ownW_out X hsv hS hnS hlk (fun _ => rfl) (fun fs hr => X.returnOut hx hret hd hr) hc hs hQ
theorem own_litW {u : Vm} {own : String} {i : Nat} {a : Addr} (L : Lit (Z.setVm s.vm) own i a) (hu : s.WarmedH u) : Lit (Z.setVm u) own i a :=
  State.resolvedAt?_warmed39 (s := s) hu.wide L
theorem own_ibW {u : Vm} {Ts : List String} (I : IB Z s.vm Ts) (hu : s.WarmedH u) : IB Z u Ts := by
  obtain ⟨more, h1, h2⟩ := I; exact ⟨more, hu.interned_eq.trans h1, h2⟩
section OwnWideCalls
variable {own : String} {index : Nat} {y z : MethodName} {bytes : ByteArray} {maxL : Nat} {ret : Option FieldType} {rm : Room} {Q' : Option Value → Heap → List Loc → Prop} {QV : Option Value → Vm → Heap → List Loc → Prop} {argsL rest : List Value}
theorem ownW_callS (X : Stand p l e R s m args below meth c T locs cells slots) (hx : p.tables.exec = Jvm.exec) (hZ : Z.Warmed39 s.vm) (hown : s.vm.findClass own = some m.cls)
    (w1 : (Cond.methodLink own index y).before a0 Z = true) (w2 : (Cond.static y).before a0 Z = true) (w3 : (Cond.initialized y.cls).before a0 Z = true) (w4 : (Cond.code y bytes maxL ret).before a0 Z = true)
    (hy : y.cls ≠ "java/lang/invoke/MethodHandle" ∧ y.cls ≠ "java/lang/invoke/VarHandle") (hM : own_Ctr l Z y bytes maxL ret [] rm rm.cells rm.slots argsL.toArray h Q') (W : Nat)
    (hf : rm.frames + 1 ≤ R.frames) (hl : W + (maxL + 11) + rm.locals ≤ R.locals) (hc : cells + rm.cells ≤ R.cells) (hs : slots + rm.slots ≤ R.slots) (eT : T.heap = h)
    (hg : g.method = m) (hsize : g.locals.size = c.maxLocals) (hlen : ∀ sig, parseMethodDescriptor y.desc = some sig → argsL.length = sig.parameters.length) (hstack : g.stack = argsL.reverse ++ rest)
    (hW : 2 * g.monitorRoom + (rest.map fun v => v.category).sum ≤ W) (hd : decode c.code g.pc = .ok (.invokestatic index, 3))
    (k : ∀ v T' L, Stand p l e R s m args below meth c T' (locs ++ L) (cells + rm.cells) (slots + rm.slots) → Q' v T'.heap L → ownW_Goes p e below s0 kc ks QW T' { g with pc := g.pc + 3, stack := v.toList ++ rest }) : ownW_Goes p e below s0 kc ks QW T g := by
  obtain ⟨v, _, ⟨T', L', k', n'⟩, -, X', ⟨Lc, hQ, l1, y1, z1⟩, st⟩ := Jvm.LawKit.callS X hx hown (mvT hZ w1) (mvT hZ w2) (mvT hZ w3) (mvT hZ w4) hy (backOf (W := W) hM hZ w4 w3 hf hl) hg hsize hlen hstack hW hd (fun _ _ => ⟨rfl, eT, hc, hs⟩)
  dsimp only [Pt.U, Pt.locs, Pt.cells, Pt.slots] at X' l1 y1 z1 st hQ
  subst l1 y1 z1
  exact ownW_by st (k v T' Lc X' hQ)
theorem ownW_callI (X : Stand p l e R s m args below meth c T locs cells slots) (hx : p.tables.exec = Jvm.exec) (hZ : Z.Warmed39 s.vm) (hown : s.vm.findClass own = some m.cls) (hy1 : y.name = "<init>")
    (w1 : (Cond.methodLink own index y).before a0 Z = true) (w2 : (Cond.instanceMethod y).before a0 Z = true) (w3 : (Cond.initialized y.cls).before a0 Z = true) (w4 : (Cond.code y bytes maxL none).before a0 Z = true)
    (hy : y.cls ≠ "java/lang/invoke/MethodHandle" ∧ y.cls ≠ "java/lang/invoke/VarHandle") {a : Addr} (hM : own_Ctr l Z y bytes maxL none [] rm rm.cells rm.slots (.ref a :: argsL).toArray h Q') (W : Nat)
    (hf : rm.frames + 1 ≤ R.frames) (hl : W + (maxL + 11) + rm.locals ≤ R.locals) (hc : cells + rm.cells ≤ R.cells) (hs : slots + rm.slots ≤ R.slots) (eT : T.heap = h)
    (hg : g.method = m) (hsize : g.locals.size = c.maxLocals) (hlen : ∀ sig, parseMethodDescriptor y.desc = some sig → argsL.length = sig.parameters.length) (hstack : g.stack = argsL.reverse ++ .ref a :: rest)
    (hW : 2 * g.monitorRoom + (rest.map fun v => v.category).sum ≤ W) (hd : decode c.code g.pc = .ok (.invokespecial index, 3))
    (k : ∀ v T' L, Stand p l e R s m args below meth c T' (locs ++ L) (cells + rm.cells) (slots + rm.slots) → Q' v T'.heap L → ownW_Goes p e below s0 kc ks QW T' { g with pc := g.pc + 3, stack := v.toList ++ rest }) : ownW_Goes p e below s0 kc ks QW T g := by
  obtain ⟨v, _, ⟨T', L', k', n'⟩, -, X', ⟨Lc, hQ, l1, y1, z1⟩, st⟩ := X.specialBack hx hy1 hown (mvT hZ w1) (mvT hZ w2) (mvT hZ w4) hy (backOf (W := W) hM hZ w4 w3 hf hl) hg hsize (Steps.refl _) hlen hstack hW hd (fun _ _ => ⟨rfl, eT, hc, hs⟩)
  dsimp only [Pt.U, Pt.locs, Pt.cells, Pt.slots] at X' l1 y1 z1 st hQ
  subst l1 y1 z1
  exact ownW_by (fun t kt => st.trans kt) (k v T' Lc X' hQ)
theorem ownW_callIN {host : String} (X : Stand p l e R s m args below meth c T locs cells slots) (hx : p.tables.exec = Jvm.exec) (hZ : Z.Warmed39 s.vm) (hown : s.vm.findClass own = some m.cls) (hy1 : y.name = "<init>")
    (w1 : (Cond.methodLinkNest own index y host).before a0 Z = true) (w2 : (Cond.instanceMethod y).before a0 Z = true) (w3 : (Cond.initialized y.cls).before a0 Z = true) (w4 : (Cond.code y bytes maxL none).before a0 Z = true)
    (hy : y.cls ≠ "java/lang/invoke/MethodHandle" ∧ y.cls ≠ "java/lang/invoke/VarHandle") {a : Addr} (hM : own_Ctr l Z y bytes maxL none [] rm rm.cells rm.slots (.ref a :: argsL).toArray h Q') (W : Nat)
    (hf : rm.frames + 1 ≤ R.frames) (hl : W + (maxL + 11) + rm.locals ≤ R.locals) (hc : cells + rm.cells ≤ R.cells) (hs : slots + rm.slots ≤ R.slots) (eT : T.heap = h)
    (hg : g.method = m) (hsize : g.locals.size = c.maxLocals) (hlen : ∀ sig, parseMethodDescriptor y.desc = some sig → argsL.length = sig.parameters.length) (hstack : g.stack = argsL.reverse ++ .ref a :: rest)
    (hW : 2 * g.monitorRoom + (rest.map fun v => v.category).sum ≤ W) (hd : decode c.code g.pc = .ok (.invokespecial index, 3))
    (k : ∀ v T' L, Stand p l e R s m args below meth c T' (locs ++ L) (cells + rm.cells) (slots + rm.slots) → Q' v T'.heap L → ownW_Goes p e below s0 kc ks QW T' { g with pc := g.pc + 3, stack := v.toList ++ rest }) : ownW_Goes p e below s0 kc ks QW T g := by
  obtain ⟨v, _, ⟨T', L', k', n'⟩, -, X', ⟨Lc, hQ, l1, y1, z1⟩, st⟩ := X.specialBackNest hx hy1 hown (Cond.methodLinkNest_wide hZ w1 :) (mvT hZ w2) (mvT hZ w4) hy (backOf (W := W) hM hZ w4 w3 hf hl) hg hsize (Steps.refl _) hlen hstack hW hd (fun _ _ => ⟨rfl, eT, hc, hs⟩)
  dsimp only [Pt.U, Pt.locs, Pt.cells, Pt.slots] at X' l1 y1 z1 st hQ
  subst l1 y1 z1
  exact ownW_by (fun t kt => st.trans kt) (k v T' Lc X' hQ)
theorem ownW_callV {C : String} (X : Stand p l e R s m args below meth c T locs cells slots) (hx : p.tables.exec = Jvm.exec) (hZ : Z.Warmed39 s.vm) (hown : s.vm.findClass own = some m.cls)
    (w1 : (Cond.methodLink own index y).before a0 Z = true) (w2 : (Cond.declares y).before a0 Z = true) (hnf : NotFace s y) (w3 : (Cond.selects C y z).before a0 Z = true) (w4 : (Cond.instanceMethod z).before a0 Z = true) (w5 : (Cond.code z bytes maxL ret).before a0 Z = true) (w6 : (Cond.initialized z.cls).before a0 Z = true)
    (hy : y.cls ≠ "java/lang/invoke/MethodHandle" ∧ y.cls ≠ "java/lang/invoke/VarHandle") {a : Addr} (E : Exa Z h a C) (hM : own_Ctr l Z z bytes maxL ret [] rm rm.cells rm.slots (.ref a :: argsL).toArray h Q') (W : Nat)
    (hf : rm.frames + 1 ≤ R.frames) (hl : W + (maxL + 11) + rm.locals ≤ R.locals) (hc : cells + rm.cells ≤ R.cells) (hs : slots + rm.slots ≤ R.slots) (eT : T.heap = h)
    (hg : g.method = m) (hsize : g.locals.size = c.maxLocals) (hlen : ∀ sig, parseMethodDescriptor y.desc = some sig → argsL.length = sig.parameters.length) (hstack : g.stack = argsL.reverse ++ .ref a :: rest)
    (hW : 2 * g.monitorRoom + (rest.map fun v => v.category).sum ≤ W) (hd : decode c.code g.pc = .ok (.invokevirtual index, 3))
    (k : ∀ v T' L, Stand p l e R s m args below meth c T' (locs ++ L) (cells + rm.cells) (slots + rm.slots) → Q' v T'.heap L → ownW_Goes p e below s0 kc ks QW T' { g with pc := g.pc + 3, stack := v.toList ++ rest }) : ownW_Goes p e below s0 kc ks QW T g := by
  obtain ⟨cq, kq, qa, qb, qc⟩ := isOf hZ eT E
  obtain ⟨v, _, ⟨T', L', k', n'⟩, -, X', ⟨Lc, hQ, l1, y1, z1⟩, st⟩ := X.virtualBack hx hown (mvT hZ w1) (mvT hZ w2) hnf (mvT hZ w3) (mvT hZ w4) hy (backOf (W := W) hM hZ w5 w6 hf hl) qa qc hg hsize (Steps.refl _) hlen hstack hW hd (fun _ _ => ⟨rfl, eT, hc, hs⟩)
  dsimp only [Pt.U, Pt.locs, Pt.cells, Pt.slots] at X' l1 y1 z1 st hQ
  subst l1 y1 z1
  exact ownW_by (fun t kt => st.trans kt) (k v T' Lc X' hQ)
theorem ownW_callP (X : Stand p l e R s m args below meth c T locs cells slots) (hx : p.tables.exec = Jvm.exec) (hZ : Z.Warmed39 s.vm) (hown : s.vm.findClass own = some m.cls)
    (w1 : (Cond.methodLink own index y).before a0 Z = true) (w2 : (Cond.instanceMethod y).before a0 Z = true) (w3 : (Cond.selects y.cls y y).before a0 Z = true) (w4 : (Cond.privateMethod y).before a0 Z = true) (w5 : (Cond.code y bytes maxL ret).before a0 Z = true) (w6 : (Cond.initialized y.cls).before a0 Z = true)
    (hy : y.cls ≠ "java/lang/invoke/MethodHandle" ∧ y.cls ≠ "java/lang/invoke/VarHandle") {a : Addr} {C : String} (E : Exa Z h a C) (hM : own_Ctr l Z y bytes maxL ret [] rm rm.cells rm.slots (.ref a :: argsL).toArray h Q') (W : Nat)
    (hf : rm.frames + 1 ≤ R.frames) (hl : W + (maxL + 11) + rm.locals ≤ R.locals) (hc : cells + rm.cells ≤ R.cells) (hs : slots + rm.slots ≤ R.slots) (eT : T.heap = h)
    (hg : g.method = m) (hsize : g.locals.size = c.maxLocals) (hlen : ∀ sig, parseMethodDescriptor y.desc = some sig → argsL.length = sig.parameters.length) (hstack : g.stack = argsL.reverse ++ .ref a :: rest)
    (hW : 2 * g.monitorRoom + (rest.map fun v => v.category).sum ≤ W) (hd : decode c.code g.pc = .ok (.invokevirtual index, 3))
    (k : ∀ v T' L, Stand p l e R s m args below meth c T' (locs ++ L) (cells + rm.cells) (slots + rm.slots) → Q' v T'.heap L → ownW_Goes p e below s0 kc ks QW T' { g with pc := g.pc + 3, stack := v.toList ++ rest }) : ownW_Goes p e below s0 kc ks QW T g := by
  obtain ⟨cq, q1, q2⟩ := E.cell
  obtain ⟨v, _, ⟨T', L', k', n'⟩, -, X', ⟨Lc, hQ, l1, y1, z1⟩, st⟩ := X.privateBack hx hown (mvT hZ w1) (mvT hZ w2) (mvT hZ w3) (Cond.privateMethod_at (mvP hZ w4 (args := #[]))) (mvT hZ w5) hy (backOf (W := W) hM hZ w5 w6 hf hl) hg hsize (Steps.refl _) (a := a) (by rw [eT]; exact q1) q2 hlen hstack hW hd (fun _ _ => ⟨rfl, eT, hc, hs⟩)
  dsimp only [Pt.U, Pt.locs, Pt.cells, Pt.slots] at X' l1 y1 z1 st hQ
  subst l1 y1 z1
  exact ownW_by (fun t kt => st.trans kt) (k v T' Lc X' hQ)
theorem ownW_callF {C : String} {count : Nat} (X : Stand p l e R s m args below meth c T locs cells slots) (hx : p.tables.exec = Jvm.exec) (hZ : Z.Warmed39 s.vm) (hown : s.vm.findClass own = some m.cls)
    (w1 : (Cond.methodLink own index y).before a0 Z = true) (w2 : (Cond.declares y).before a0 Z = true) (w2f : (Cond.interfaceMethod y.cls y.cls y.name y.desc).before a0 Z = true) (w3 : (Cond.selects C y z).before a0 Z = true) (w4 : (Cond.instanceMethod z).before a0 Z = true)
    (wp : (Cond.publicMethod z).before a0 Z = true) (wu : (Cond.unhidden C y.name y.desc).before a0 Z = true) (wk : (Cond.castable C y.cls).before a0 Z = true) (w5 : (Cond.code z bytes maxL ret).before a0 Z = true) (w6 : (Cond.initialized z.cls).before a0 Z = true)
    (hy : y.cls ≠ "java/lang/invoke/MethodHandle" ∧ y.cls ≠ "java/lang/invoke/VarHandle") {a : Addr} (E : Exa Z h a C) (hM : own_Ctr l Z z bytes maxL ret [] rm rm.cells rm.slots (.ref a :: argsL).toArray h Q') (W : Nat)
    (hf : rm.frames + 1 ≤ R.frames) (hl : W + (maxL + 11) + rm.locals ≤ R.locals) (hc : cells + rm.cells ≤ R.cells) (hs : slots + rm.slots ≤ R.slots) (eT : T.heap = h)
    (hg : g.method = m) (hsize : g.locals.size = c.maxLocals) (hlen : ∀ sig, parseMethodDescriptor y.desc = some sig → argsL.length = sig.parameters.length) (hstack : g.stack = argsL.reverse ++ .ref a :: rest)
    (hW : 2 * g.monitorRoom + (rest.map fun v => v.category).sum ≤ W) (hd : decode c.code g.pc = .ok (.invokeinterface index count, 5))
    (k : ∀ v T' L, Stand p l e R s m args below meth c T' (locs ++ L) (cells + rm.cells) (slots + rm.slots) → Q' v T'.heap L → ownW_Goes p e below s0 kc ks QW T' { g with pc := g.pc + 5, stack := v.toList ++ rest }) : ownW_Goes p e below s0 kc ks QW T g := by
  obtain ⟨cq, kq, qa, qb, qc⟩ := isOf hZ eT E
  have hface : ((Cond.interfaceMethod y.cls y.cls y.name y.desc).onTables && (Cond.interfaceMethod y.cls y.cls y.name y.desc).keepsFace) = true := by simp [Cond.onTables, Cond.keepsFace, Cond.keeps, Cond.steady, Cond.faceAtom, hy.1, hy.2]
  obtain ⟨v, _, ⟨T', L', k', n'⟩, -, X', ⟨Lc, hQ, l1, y1, z1⟩, st⟩ := X.interfaceBack hx hown (mvT hZ w1) (mvT hZ w2) (mvT hZ w2f hface) (mvT hZ w3) (mvT hZ w4) (mvT hZ wp) (mvT hZ wu) (mvT hZ wk) hy (backOf (W := W) hM hZ w5 w6 hf hl) qa qb qc hg hsize (Steps.refl _) hlen hstack hW hd (fun _ _ => ⟨rfl, eT, hc, hs⟩)
  dsimp only [Pt.U, Pt.locs, Pt.cells, Pt.slots] at X' l1 y1 z1 st hQ
  subst l1 y1 z1
  exact ownW_by (fun t kt => st.trans kt) (k v T' Lc X' hQ)
theorem ownW_backOf {len W : Nat} {as' : Array Value} (hM : ownW_Ctr l Z y bytes maxL ret [] rm rm.cells rm.slots as' h J QV)
    (hZ : Z.Warmed39 s.vm) (wc : (Cond.code y bytes maxL ret).before a0 Z = true) (wz : (Cond.initialized y.cls).before a0 Z = true) (hf : rm.frames + 1 ≤ R.frames) (hl : W + (maxL + 11) + rm.locals ≤ R.locals) :
    BackS l R p e below s args y len W (fun A a => a = as' ∧ A.U.heap = h ∧ A.cells + rm.cells ≤ R.cells ∧ A.slots + rm.slots ≤ R.slots ∧ J A.U.vm)
      (fun A _ v B => ∃ L, QV v B.U.vm B.U.heap L ∧ B.locs = A.locs ++ L ∧ B.cells = A.cells + rm.cells ∧ B.slots = A.slots + rm.slots) :=
  BackS.of_freeW (bytes := bytes) (maxL := maxL) (ret := ret) (E := fun _ _ o t L k n => k = rm.cells ∧ n = rm.slots ∧ ∃ v, o = .returned v ∧ QV v t.vm t.heap L) hM hf hl
    (fun m meth c A a Y hp => have hU : Z.Warmed39 A.U.vm := wtrans hZ Y.warmed
      ⟨by show (Cond.and _ .tt).before a A.U = true; rw [Cond.before_and, mv hU wc]; rfl, mv hU wc, mv hU wz, hp.2.2.1, hp.2.2.2.1⟩)
    (fun m meth c A a g mk Y hp => ⟨hp.1, wtrans hZ Y.warmed, hp.2.1, hp.2.2.2.2⟩) (fun _ _ _ _ _ _ _ _ _ => trivial)
    (fun _ _ _ _ ⟨v, L, h1, h2, h3⟩ => ⟨L, _, _, h3, rfl, rfl, v, h1, h2⟩)
    (fun m meth c A a g mk v t L k n Y hp _ _ ⟨e1, e2, v', e3, e4⟩ => by cases e3; subst e1 e2; exact ⟨L, e4, rfl, rfl, rfl⟩)
theorem ownW_callSW (X : Stand p l e R s m args below meth c T locs cells slots) (hx : p.tables.exec = Jvm.exec) (hZ : Z.Warmed39 s.vm) (hsv : s = s0.setVm s.vm) (hsh : s.heap = hb) (hS : s0.Since s.vm n) (hn : n ≤ h.size) (hown : s.vm.findClass own = some m.cls)
    (w1 : (Cond.methodLink own index y).before a0 Z = true) (w2 : (Cond.static y).before a0 Z = true) (w3 : (Cond.initialized y.cls).before a0 Z = true) (w4 : (Cond.code y bytes maxL ret).before a0 Z = true)
    (hy : y.cls ≠ "java/lang/invoke/MethodHandle" ∧ y.cls ≠ "java/lang/invoke/VarHandle") (hM : ownW_Ctr l Z y bytes maxL ret [] rm rm.cells rm.slots argsL.toArray h J QV) (hJ : ∀ u, s.WarmedH u → J u) (W : Nat)
    (hf : rm.frames + 1 ≤ R.frames) (hl : W + (maxL + 11) + rm.locals ≤ R.locals) (hc : cells + rm.cells ≤ R.cells) (hs : slots + rm.slots ≤ R.slots) (eT : T.heap = h)
    (hg : g.method = m) (hsize : g.locals.size = c.maxLocals) (hlen : ∀ sig, parseMethodDescriptor y.desc = some sig → argsL.length = sig.parameters.length) (hstack : g.stack = argsL.reverse ++ rest)
    (hW : 2 * g.monitorRoom + (rest.map fun v => v.category).sum ≤ W) (hd : decode c.code g.pc = .ok (.invokestatic index, 3))
    (k : ∀ s' v T' L, Stand p l e R s' m args below meth c T' (locs ++ L) (cells + rm.cells) (slots + rm.slots) → s' = s0.setVm s'.vm → s'.heap = hb → s0.Since s'.vm T'.heap.size → Z.Warmed39 s'.vm → s'.vm.findClass own = some m.cls → QV v s'.vm T'.heap L → ownW_Goes p e below s0 kc ks QW T' { g with pc := g.pc + 3, stack := v.toList ++ rest }) : ownW_Goes p e below s0 kc ks QW T g := by
  obtain ⟨v, _, ⟨T', L', k', n'⟩, -, X', hS2, hgr, ⟨Lc, hQ, l1, y1, z1⟩, st⟩ := callSS X hx hown (mvT hZ w1) (mvT hZ w2) (mvT hZ w3) (mvT hZ w4) hy (ownW_backOf (W := W) hM hZ w4 w3 hf hl) hg hsize hlen hstack hW hd (fun u hu => ⟨rfl, eT, hc, hs, hJ u hu⟩)
  dsimp only [Pt.U, Pt.locs, Pt.cells, Pt.slots] at X' l1 y1 z1 st hQ hS2 hgr
  subst l1 y1 z1
  rw [← eT] at hn
  exact ownW_by (fun t kt => st.trans kt) (k (s.setVm T'.vm) v T' Lc X' (ownW_set hsv _) hsh (ownW_since hsv hS hS2 (Nat.le_trans hn hgr)) (State.Warmed39.trans hZ hS2.1) ((hS2.1.alike.findClass _ _).trans hown) hQ)
theorem ownW_callIW (X : Stand p l e R s m args below meth c T locs cells slots) (hx : p.tables.exec = Jvm.exec) (hZ : Z.Warmed39 s.vm) (hsv : s = s0.setVm s.vm) (hsh : s.heap = hb) (hS : s0.Since s.vm n) (hn : n ≤ h.size) (hown : s.vm.findClass own = some m.cls) (hy1 : y.name = "<init>")
    (w1 : (Cond.methodLink own index y).before a0 Z = true) (w2 : (Cond.instanceMethod y).before a0 Z = true) (w3 : (Cond.initialized y.cls).before a0 Z = true) (w4 : (Cond.code y bytes maxL none).before a0 Z = true)
    (hy : y.cls ≠ "java/lang/invoke/MethodHandle" ∧ y.cls ≠ "java/lang/invoke/VarHandle") {a : Addr} (hM : ownW_Ctr l Z y bytes maxL none [] rm rm.cells rm.slots (.ref a :: argsL).toArray h J QV) (hJ : ∀ u, s.WarmedH u → J u) (W : Nat)
    (hf : rm.frames + 1 ≤ R.frames) (hl : W + (maxL + 11) + rm.locals ≤ R.locals) (hc : cells + rm.cells ≤ R.cells) (hs : slots + rm.slots ≤ R.slots) (eT : T.heap = h)
    (hg : g.method = m) (hsize : g.locals.size = c.maxLocals) (hlen : ∀ sig, parseMethodDescriptor y.desc = some sig → argsL.length = sig.parameters.length) (hstack : g.stack = argsL.reverse ++ .ref a :: rest)
    (hW : 2 * g.monitorRoom + (rest.map fun v => v.category).sum ≤ W) (hd : decode c.code g.pc = .ok (.invokespecial index, 3))
    (k : ∀ s' v T' L, Stand p l e R s' m args below meth c T' (locs ++ L) (cells + rm.cells) (slots + rm.slots) → s' = s0.setVm s'.vm → s'.heap = hb → s0.Since s'.vm T'.heap.size → Z.Warmed39 s'.vm → s'.vm.findClass own = some m.cls → QV v s'.vm T'.heap L → ownW_Goes p e below s0 kc ks QW T' { g with pc := g.pc + 3, stack := v.toList ++ rest }) : ownW_Goes p e below s0 kc ks QW T g := by
  obtain ⟨v, _, ⟨T', L', k', n'⟩, -, X', hS2, hgr, ⟨Lc, hQ, l1, y1, z1⟩, st⟩ := X.specialBackS hx hy1 hown (mvT hZ w1) (mvT hZ w2) (mvT hZ w4) hy (ownW_backOf (W := W) hM hZ w4 w3 hf hl) hg hsize (Steps.refl _) hlen hstack hW hd (fun u hu => ⟨rfl, eT, hc, hs, hJ u hu⟩)
  dsimp only [Pt.U, Pt.locs, Pt.cells, Pt.slots] at X' l1 y1 z1 st hQ hS2 hgr
  subst l1 y1 z1
  rw [← eT] at hn
  exact ownW_by (fun t kt => st.trans kt) (k (s.setVm T'.vm) v T' Lc X' (ownW_set hsv _) hsh (ownW_since hsv hS hS2 (Nat.le_trans hn hgr)) (State.Warmed39.trans hZ hS2.1) ((hS2.1.alike.findClass _ _).trans hown) hQ)
theorem ownW_callVW {C : String} (X : Stand p l e R s m args below meth c T locs cells slots) (hx : p.tables.exec = Jvm.exec) (hZ : Z.Warmed39 s.vm) (hsv : s = s0.setVm s.vm) (hsh : s.heap = hb) (hS : s0.Since s.vm n) (hn : n ≤ h.size) (hown : s.vm.findClass own = some m.cls)
    (w1 : (Cond.methodLink own index y).before a0 Z = true) (w2 : (Cond.declares y).before a0 Z = true) (hnf : NotFace s y) (w3 : (Cond.selects C y z).before a0 Z = true) (w4 : (Cond.instanceMethod z).before a0 Z = true) (w5 : (Cond.code z bytes maxL ret).before a0 Z = true) (w6 : (Cond.initialized z.cls).before a0 Z = true)
    (hy : y.cls ≠ "java/lang/invoke/MethodHandle" ∧ y.cls ≠ "java/lang/invoke/VarHandle") {a : Addr} (E : Exa Z h a C) (hM : ownW_Ctr l Z z bytes maxL ret [] rm rm.cells rm.slots (.ref a :: argsL).toArray h J QV) (hJ : ∀ u, s.WarmedH u → J u) (W : Nat)
    (hf : rm.frames + 1 ≤ R.frames) (hl : W + (maxL + 11) + rm.locals ≤ R.locals) (hc : cells + rm.cells ≤ R.cells) (hs : slots + rm.slots ≤ R.slots) (eT : T.heap = h)
    (hg : g.method = m) (hsize : g.locals.size = c.maxLocals) (hlen : ∀ sig, parseMethodDescriptor y.desc = some sig → argsL.length = sig.parameters.length) (hstack : g.stack = argsL.reverse ++ .ref a :: rest)
    (hW : 2 * g.monitorRoom + (rest.map fun v => v.category).sum ≤ W) (hd : decode c.code g.pc = .ok (.invokevirtual index, 3))
    (k : ∀ s' v T' L, Stand p l e R s' m args below meth c T' (locs ++ L) (cells + rm.cells) (slots + rm.slots) → s' = s0.setVm s'.vm → s'.heap = hb → s0.Since s'.vm T'.heap.size → Z.Warmed39 s'.vm → s'.vm.findClass own = some m.cls → QV v s'.vm T'.heap L → ownW_Goes p e below s0 kc ks QW T' { g with pc := g.pc + 3, stack := v.toList ++ rest }) : ownW_Goes p e below s0 kc ks QW T g := by
  obtain ⟨cq, kq, qa, qb, qc⟩ := isOf hZ eT E
  obtain ⟨v, _, ⟨T', L', k', n'⟩, -, X', hS2, hgr, ⟨Lc, hQ, l1, y1, z1⟩, st⟩ := X.virtualBackS hx hown (mvT hZ w1) (mvT hZ w2) hnf (mvT hZ w3) (mvT hZ w4) hy (ownW_backOf (W := W) hM hZ w5 w6 hf hl) qa qc hg hsize (Steps.refl _) hlen hstack hW hd (fun u hu => ⟨rfl, eT, hc, hs, hJ u hu⟩)
  dsimp only [Pt.U, Pt.locs, Pt.cells, Pt.slots] at X' l1 y1 z1 st hQ hS2 hgr
  subst l1 y1 z1
  rw [← eT] at hn
  exact ownW_by (fun t kt => st.trans kt) (k (s.setVm T'.vm) v T' Lc X' (ownW_set hsv _) hsh (ownW_since hsv hS hS2 (Nat.le_trans hn hgr)) (State.Warmed39.trans hZ hS2.1) ((hS2.1.alike.findClass _ _).trans hown) hQ)
/-- a String constant loaded, its text read: nothing has been interned since the case's start -/
theorem ownW_ldc {text : String} {Ts : List String} (X : Stand p l e R s m args below meth c T locs cells slots) (hx : p.tables.exec = Jvm.exec) (hZ : Z.Warmed39 s.vm) (hsv : s = s0.setVm s.vm) (hsh : s.heap = hb) (hS : s0.Since s.vm n) (hn : n ≤ h.size) (hown : s.vm.findClass own = some m.cls)
    (w : (Cond.stringLink own index text).before a0 Z = true) (wS : ∀ a ∈ Bundle.stringAtoms, a.before a0 Z = true) (eT : T.heap = h) {n0 : Nat} (O : Old Z n0 hb) (N : Fr hb.size locs) (I : IB Z s.vm Ts) (hnot : text ∉ Ts) (hh : Jvm.Lit.constHeld Z own index) (hcw : Jvm.Lit.compactW.before a0 Z = true)
    {vs : List Value} {zl : Int32} (ht : (∀ c ∈ text.toList, c.toNat < 256) ∧ text.toList.map (fun c => Value.int (Jvm.Lit.byteI c.toNat.toUInt16)) = vs) (hz : ¬ zl < 0) (hl : zl.toNatClampNeg = vs.length)
    (hg : g.method = m) (hd : decode c.code g.pc = .ok (.ldc index, 2)) {k0 : Nat} (hk0 : 4 * text.toList.length ≤ k0) (hbig : k0 ≤ 536870912) (hc : cells + 2 ≤ R.cells) (hl' : slots + (k0 + 4) ≤ R.slots)
    (k : ∀ s' T' h' a b kb, Stand p l e R s' m args below meth c T' locs (cells + 2) (slots + (k0 + 4)) → s' = s0.setVm s'.vm → s'.heap = hb → s0.Since s'.vm h'.size → Z.Warmed39 s'.vm → s'.vm.findClass own = some m.cls → T'.heap = h' → Ext h h' → Exa Z h' a "java/lang/String" → Fld Z h' a "java/lang/String" "coder" "B" (.int (0 : Int32)) → Fld Z h' a "java/lang/String" "value" "[B" (.ref b) → Arv Z h' b kb .byte zl vs (.int (0 : Int32)) → IB Z s'.vm (text :: Ts) → Lit (Z.setVm s'.vm) own index a → ownW_Goes p e below s0 kc ks QW T' { g with pc := g.pc + 2, stack := .ref a :: g.stack }) : ownW_Goes p e below s0 kc ks QW T g := by
  obtain ⟨a, T', h', k1, b, kb, X', e', E, hS', hk1, hZ', hown', Ex, Fc, Fv, Av, -, -, I', L, st⟩ := ldcSVL (s := s) (vm0 := s.vm) X hx hZ hown w wS eT ((State.WarmedH.refl s).since 0) (Nat.zero_le _) (by rw [hsh]; exact N) (by rw [hsh]; exact O.2.2) I hnot hh hcw ht hz hl hg hd hk0 hbig hc hl'
  refine ownW_by st (k (s.setVm T'.vm) T' h' a b kb X' (ownW_set hsv _) hsh (ownW_since hsv hS ⟨hS'.1, hS'.2.mono hk1⟩ (Nat.le_trans hn E.1)) hZ' hown' e' E Ex Fc Fv Av I' L)
/-- a second load of an entry that has been loaded -/
theorem own_again {text : String} (X : Stand p l e R s m args below meth c T locs cells slots) (hx : p.tables.exec = Jvm.exec) (hZ : Z.Warmed39 s.vm) (hown : s.vm.findClass own = some m.cls) (w : (Cond.stringLink own index text).before a0 Z = true) {a : Addr} (L : Lit (Z.setVm s.vm) own index a)
    (hg : g.method = m) (hd : decode c.code g.pc = .ok (.ldc index, 2)) : ∀ target, Steps p.tables e below (T.setTop { g with pc := g.pc + 2, stack := .ref a :: g.stack }) target → Steps p.tables e below (T.setTop g) target :=
  ldcAgain (s := s) (vm0 := s.vm) X hx hZ hown w L hg hd
/-- a String constant loaded, nobody reads her -/
theorem ownW_ldcP {text : String} (X : Stand p l e R s m args below meth c T locs cells slots) (hx : p.tables.exec = Jvm.exec) (hZ : Z.Warmed39 s.vm) (hsv : s = s0.setVm s.vm) (hsh : s.heap = hb) (hS : s0.Since s.vm n) (hn : n ≤ h.size) (hown : s.vm.findClass own = some m.cls)
    (w : (Cond.stringLink own index text).before a0 Z = true) (wS : ∀ a ∈ Bundle.stringAtoms, a.before a0 Z = true) (eT : T.heap = h)
    (hg : g.method = m) (hd : decode c.code g.pc = .ok (.ldc index, 2)) {k0 : Nat} (hk0 : 4 * text.toList.length ≤ k0) (hbig : k0 ≤ 536870912) (hc : cells + 2 ≤ R.cells) (hl' : slots + (k0 + 4) ≤ R.slots)
    (k : ∀ s' T' h' a, Stand p l e R s' m args below meth c T' locs (cells + 2) (slots + (k0 + 4)) → s' = s0.setVm s'.vm → s'.heap = hb → s0.Since s'.vm h'.size → Z.Warmed39 s'.vm → s'.vm.findClass own = some m.cls → T'.heap = h' → Ext h h' → ownW_Goes p e below s0 kc ks QW T' { g with pc := g.pc + 2, stack := .ref a :: g.stack }) : ownW_Goes p e below s0 kc ks QW T g := by
  obtain ⟨a, T', h', k1, X', e', E, hS', hk1, hZ', hown', st⟩ := ldcS (s := s) (vm0 := s.vm) X hx hZ hown w wS eT ((State.WarmedH.refl s).since 0) (Nat.zero_le _) hg hd hk0 hbig hc hl'
  exact ownW_by st (k (s.setVm T'.vm) T' h' a X' (ownW_set hsv _) hsh (ownW_since hsv hS ⟨hS'.1, hS'.2.mono hk1⟩ (Nat.le_trans hn E.1)) hZ' hown' e' E)
end OwnWideCalls
end OwnWide
def own_ch (x : Int32) : Prop := (x).toUInt32.toUInt16.toUInt32.toInt32 = x
def own_latc (b : Int32) : Int32 := ((b &&& (255 : Int32))).toUInt32.toUInt16.toUInt32.toInt32
def own_utfc (b0 b1 : Int32) : Int32 := ((((b0 &&& (255 : Int32)) <<< ((0 : Int32) &&& 31)) ||| ((b1 &&& (255 : Int32)) <<< ((8 : Int32) &&& 31)))).toUInt32.toUInt16.toUInt32.toInt32
def own_len (k k2 cd ln : Int32) : Prop := (cd = (0 : Int32) ∧ ln = k) ∨ (cd = (1 : Int32) ∧ ln = k2)
theorem own_c16b (z : Int32) : (z.toUInt32.toUInt16.toUInt32.toInt32).toBitVec = (z.toBitVec.setWidth 16).setWidth 32 := rfl
theorem own_b8b (z : Int32) : (z.toInt8.toInt32).toBitVec = (z.toBitVec.signExtend 8).signExtend 32 := by simp
theorem own_chi {x : Int32} (h : own_ch x) (i : Nat) (hi : 16 ≤ i) : x.toBitVec.getLsbD i = false := by
  have q := congrArg Int32.toBitVec h
  rw [own_c16b] at q
  rw [← q]; simp only [BitVec.getLsbD_setWidth]; simp; omega
theorem own_m255 (i : Nat) : (255#32 : BitVec 32).getLsbD i = decide (i < 8) := by
  by_cases h : i < 32
  · have : ∀ j : Fin 32, (255#32 : BitVec 32).getLsbD j = decide (j.val < 8) := by decide
    exact this ⟨i, h⟩
  · rw [BitVec.getLsbD_of_ge _ _ (by omega)]; simp; omega
theorem own_s8 (b : BitVec 32) (i : Nat) (hi : i < 8) : ((b.signExtend 8).signExtend 32).getLsbD i = b.getLsbD i := by
  simp only [BitVec.getLsbD_signExtend]; simp [hi, show i < 32 by omega]
theorem own_utf (x : Int32) (h : own_ch x) : own_utfc ((x >>> ((0 : Int32) &&& 31))).toInt8.toInt32 ((x >>> ((8 : Int32) &&& 31))).toInt8.toInt32 = x := by
  apply Int32.toBitVec_inj.mp
  have e0 : ((0 : Int32) &&& 31) = 0 := by decide
  have e8 : ((8 : Int32) &&& 31) = 8 := by decide
  unfold own_utfc
  rw [own_c16b, e0, e8]
  have z0 : ∀ z : Int32, z <<< (0 : Int32) = z := fun z => by simp
  have z1 : ∀ z : Int32, z >>> (0 : Int32) = z := fun z => by simp
  rw [z0, z1]
  have s8 : (x >>> (8 : Int32)).toBitVec = x.toBitVec.sshiftRight 8 := by simp
  have l8 : ∀ z : Int32, (z <<< (8 : Int32)).toBitVec = z.toBitVec <<< 8 := fun z => by simp
  apply BitVec.eq_of_getLsbD_eq
  intro i hi
  simp only [BitVec.getLsbD_setWidth, Int32.toBitVec_or, l8, Int32.toBitVec_and, own_b8b, s8, BitVec.getLsbD_or, BitVec.getLsbD_and, BitVec.getLsbD_shiftLeft]
  rw [show (255 : Int32).toBitVec = 255#32 from rfl, own_m255, own_m255]
  by_cases h8 : i < 8
  · rw [own_s8 _ i h8]; simp [h8, show i < 16 by omega, hi]
  · by_cases h16 : i < 16
    · rw [own_s8 _ (i - 8) (by omega), BitVec.getLsbD_sshiftRight, show 8 + (i - 8) = i by omega]
      simp [h8, h16, hi, show i - 8 < 8 by omega, show ¬ 32 ≤ i - 8 by omega]
    · simp [h8, h16, own_chi h i (by omega)]
theorem own_lat (x : Int32) (h : own_ch x) (hx : ¬ ((255 : Int32) < x)) : own_latc ((x).toInt8.toInt32) = x := by
  have hb : ∀ i, 8 ≤ i → x.toBitVec.getLsbD i = false := by
    have q : x.toInt ≤ 255 := by rw [Int32.lt_iff_toInt_lt] at hx; have : (255 : Int32).toInt = 255 := by decide
                                 omega
    have q0 : x.toBitVec.toNat < 65536 := by
      have q1 := congrArg Int32.toBitVec h
      rw [own_c16b] at q1
      rw [← q1]; simp; omega
    have q2 : x.toInt = x.toBitVec.toNat := by
      show x.toBitVec.toInt = _
      rw [BitVec.toInt_eq_toNat_of_lt]; omega
    intro i hi
    have : x.toBitVec.toNat < 2 ^ i := Nat.lt_of_lt_of_le (show x.toBitVec.toNat < 2 ^ 8 by omega) (Nat.pow_le_pow_right (by decide) hi)
    simp [BitVec.getLsbD, Nat.testBit_lt_two_pow this]
  apply Int32.toBitVec_inj.mp
  unfold own_latc
  rw [own_c16b]
  apply BitVec.eq_of_getLsbD_eq
  intro i hi
  simp only [BitVec.getLsbD_setWidth, Int32.toBitVec_and, own_b8b, BitVec.getLsbD_and]
  rw [show (255 : Int32).toBitVec = 255#32 from rfl, own_m255]
  by_cases h8 : i < 8
  · rw [own_s8 _ i h8]; simp [h8, show i < 16 by omega, hi]
  · simp [h8, hb i (by omega)]

def own_cA0 (x cd ln : Int32) (vs : List Value) : Prop := (cd = (0 : Int32) ∧ (0 : Int32) < ln ∧ ∃ b : Int32, vs.getD 0 (.int (0 : Int32)) = .int b ∧ own_latc b = x) ∨ (cd = (1 : Int32) ∧ (0 : Int32) < (ln >>> ((1 : Int32) &&& 31)) ∧ (0 : Int32) < ln ∧ (1 : Int32) < ln ∧ ∃ b0 b1 : Int32, vs.getD 0 (.int (0 : Int32)) = .int b0 ∧ vs.getD 1 (.int (0 : Int32)) = .int b1 ∧ own_utfc b0 b1 = x)
def own_cA1 (x cd ln : Int32) (vs : List Value) : Prop := (cd = (0 : Int32) ∧ (1 : Int32) < ln ∧ ∃ b : Int32, vs.getD 1 (.int (0 : Int32)) = .int b ∧ own_latc b = x) ∨ (cd = (1 : Int32) ∧ (1 : Int32) < (ln >>> ((1 : Int32) &&& 31)) ∧ (2 : Int32) < ln ∧ (3 : Int32) < ln ∧ ∃ b0 b1 : Int32, vs.getD 2 (.int (0 : Int32)) = .int b0 ∧ vs.getD 3 (.int (0 : Int32)) = .int b1 ∧ own_utfc b0 b1 = x)
def own_s1 (x0 cd ln : Int32) (vs : List Value) : Prop := (cd = (0 : Int32) ∧ ln = (1 : Int32) ∧ vs = [(.int (x0).toInt8.toInt32)] ∧ ¬ ((255 : Int32) < x0)) ∨ (cd = (1 : Int32) ∧ ln = (2 : Int32) ∧ vs = [(.int ((x0 >>> ((0 : Int32) &&& 31))).toInt8.toInt32), (.int ((x0 >>> ((8 : Int32) &&& 31))).toInt8.toInt32)])
theorem own_sl1 {x0 cd ln : Int32} {vs : List Value} (q : own_s1 x0 cd ln vs) : own_len (1 : Int32) (2 : Int32) cd ln := by
  rcases q with ⟨r1, r2, -⟩ | ⟨r1, r2, -⟩
  · exact Or.inl ⟨r1, r2⟩
  · exact Or.inr ⟨r1, r2⟩
theorem own_sc1_0 {x0 cd ln : Int32} {vs : List Value} (hk : own_ch x0) (q : own_s1 x0 cd ln vs) : own_cA0 x0 cd ln vs := by
  rcases q with ⟨rfl, rfl, rfl, q0⟩ | ⟨rfl, rfl, rfl⟩
  · exact Or.inl ⟨rfl, by decide, _, rfl, own_lat x0 hk q0⟩
  · exact Or.inr ⟨rfl, by decide, by decide, by decide, _, _, rfl, rfl, own_utf x0 hk⟩
def own_s2 (x0 x1 cd ln : Int32) (vs : List Value) : Prop := (cd = (0 : Int32) ∧ ln = (2 : Int32) ∧ vs = [(.int (x0).toInt8.toInt32), (.int (x1).toInt8.toInt32)] ∧ ¬ ((255 : Int32) < x0) ∧ ¬ ((255 : Int32) < x1)) ∨ (cd = (1 : Int32) ∧ ln = (4 : Int32) ∧ vs = [(.int ((x0 >>> ((0 : Int32) &&& 31))).toInt8.toInt32), (.int ((x0 >>> ((8 : Int32) &&& 31))).toInt8.toInt32), (.int ((x1 >>> ((0 : Int32) &&& 31))).toInt8.toInt32), (.int ((x1 >>> ((8 : Int32) &&& 31))).toInt8.toInt32)])
theorem own_sl2 {x0 x1 cd ln : Int32} {vs : List Value} (q : own_s2 x0 x1 cd ln vs) : own_len (2 : Int32) (4 : Int32) cd ln := by
  rcases q with ⟨r1, r2, -⟩ | ⟨r1, r2, -⟩
  · exact Or.inl ⟨r1, r2⟩
  · exact Or.inr ⟨r1, r2⟩
theorem own_sc2_0 {x0 x1 cd ln : Int32} {vs : List Value} (hk : own_ch x0) (q : own_s2 x0 x1 cd ln vs) : own_cA0 x0 cd ln vs := by
  rcases q with ⟨rfl, rfl, rfl, q0, q1⟩ | ⟨rfl, rfl, rfl⟩
  · exact Or.inl ⟨rfl, by decide, _, rfl, own_lat x0 hk q0⟩
  · exact Or.inr ⟨rfl, by decide, by decide, by decide, _, _, rfl, rfl, own_utf x0 hk⟩
theorem own_sc2_1 {x0 x1 cd ln : Int32} {vs : List Value} (hk : own_ch x1) (q : own_s2 x0 x1 cd ln vs) : own_cA1 x1 cd ln vs := by
  rcases q with ⟨rfl, rfl, rfl, q0, q1⟩ | ⟨rfl, rfl, rfl⟩
  · exact Or.inl ⟨rfl, by decide, _, rfl, own_lat x1 hk q1⟩
  · exact Or.inr ⟨rfl, by decide, by decide, by decide, _, _, rfl, rfl, own_utf x1 hk⟩
theorem own_pn0 : plainName "jdk/internal/util/Preconditions" = true := by first | (simp [plainName, overriddenIn]; done) | decide +kernel
theorem own_d24_0 : decode jdk_41_method_11_code 0 = .ok (.iload_n 0, 1) := by decide +kernel
theorem own_d24_1 : decode jdk_41_method_11_code 1 = .ok (.ifCond .lt 8, 3) := by decide +kernel
theorem own_d24_4 : decode jdk_41_method_11_code 4 = .ok (.iload_n 0, 1) := by decide +kernel
theorem own_d24_5 : decode jdk_41_method_11_code 5 = .ok (.iload_n 1, 1) := by decide +kernel
theorem own_d24_6 : decode jdk_41_method_11_code 6 = .ok (.if_icmp .lt 10, 3) := by decide +kernel
theorem own_d24_16 : decode jdk_41_method_11_code 16 = .ok (.iload_n 0, 1) := by decide +kernel
theorem own_d24_17 : decode jdk_41_method_11_code 17 = .ok (.ireturn, 1) := by decide +kernel
def Q_own_pchk (Z : State) (ix : Int32) (nn : Int32) (vsf : Value) (h0 : Heap) (n0 : Nat) (v : Option Value) (h : Heap) (L : List Loc) : Prop := v = some (.int ix) ∧ Fr n0 L ∧ h = h0
theorem own_ef_own_pchk (m : MethodId) (ix : Int32) (nn : Int32) (vsf : Value) (r_sf : (vsf).isRef = true) : entryFrame m #[(.int ix), (.int nn), vsf] 3 = mkF m 0 #[iv ix, iv nn, .val vsf] [] := by
  rcases ref_cases r_sf with rfl | ⟨_, rfl⟩ <;>
  first | (simp [entryFrame, mkF, argsToLocals, Value.category]; done) | rfl
set_option maxRecDepth 65536 in
set_option maxHeartbeats 40000000 in
theorem own_pchk (l : Launch) (Z : State) (a0 : Array Value) (hw : ∀ d ∈ tables_1, d.before a0 Z = true) (ws : List Jvm.Cond) (ix : Int32) (nn : Int32) (vsf : Value) (h0 : Heap) (n0 : Nat) (Z0 : n0 ≤ h0.size) (r_sf : (vsf).isRef = true) (q0 : ¬ (ix < (0 : Int32))) (q1 : ix < nn) :
    own_Ctr l Z (⟨"jdk/internal/util/Preconditions", "checkIndex", "(IILjava/util/function/BiFunction;)I"⟩ : MethodName) jdk_41_method_11_code 3 (some .int) ws ({ frames := 0, cells := 0, slots := 0, locals := 0 } : Room) (({ frames := 0, cells := 0, slots := 0, locals := 0 } : Room)).cells (({ frames := 0, cells := 0, slots := 0, locals := 0 } : Room)).slots #[(.int ix), (.int nn), vsf] h0 (Q_own_pchk Z ix nn vsf h0 n0) := by
  refine own_enter (plainFor_of_name own_pn0) ?_
  intro p e s m below meth c s₁ X0 hx hZ hby hml hown hnm hlk hret e0
  have N0 := Fr.nil n0
  refine own_cast (own_ef_own_pchk m ix nn vsf r_sf) ?_
  refine own_by (g' := (mkF m 17 #[iv ix, iv nn, .val vsf] [(.int ix)])) (fun t k => XS.iloadN X0.here hx rfl (hb hby own_d24_0) rfl (XS.ifNo X0.here hx rfl (hb hby own_d24_1) rfl ((if0 _ _).trans (flt q0).1) (XS.iloadN X0.here hx rfl (hb hby own_d24_4) rfl (XS.iloadN X0.here hx rfl (hb hby own_d24_5) rfl (XS.icmpYes X0.here hx rfl (pc0 := 6) (pc' := 16) rfl (hb hby own_d24_6) rfl (tlt q1).1 (by decide) (by decide) (XS.iloadN X0.here hx rfl (hb hby own_d24_16) rfl k)))))) ?_
  refine own_retI X0 hx hlk hret (hb hby own_d24_17) (by decide) (by decide) ?_
  exact ⟨rfl, N0, e0⟩
theorem own_pn1 : plainName "java/lang/String" = true := by first | (simp [plainName, overriddenIn]; done) | decide +kernel
theorem own_d23_0 : decode jdk_42_method_155_code 0 = .ok (.iload_n 0, 1) := by decide +kernel
theorem own_d23_1 : decode jdk_42_method_155_code 1 = .ok (.iload_n 1, 1) := by decide +kernel
theorem own_d23_2 : decode jdk_42_method_155_code 2 = .ok (.getstatic 1053, 3) := by decide +kernel
theorem own_d23_5 : decode jdk_42_method_155_code 5 = .ok (.invokestatic 1059, 3) := by decide +kernel
theorem own_pd0 : parseMethodDescriptor "(IILjava/util/function/BiFunction;)I" = some ⟨[.int, .int, (.object "java/util/function/BiFunction")], some .int⟩ := by decide +kernel
theorem own_d23_8 : decode jdk_42_method_155_code 8 = .ok (.pop, 1) := by decide +kernel
theorem own_d23_9 : decode jdk_42_method_155_code 9 = .ok (.return_, 1) := by decide +kernel
def Q_own_schk (Z : State) (ix : Int32) (nn : Int32) (vsf : Value) (h0 : Heap) (n0 : Nat) (v : Option Value) (h : Heap) (L : List Loc) : Prop := v = none ∧ Fr n0 L ∧ h = h0
theorem own_ef_own_schk (m : MethodId) (ix : Int32) (nn : Int32) : entryFrame m #[(.int ix), (.int nn)] 2 = mkF m 0 #[iv ix, iv nn] [] := by first | (simp [entryFrame, mkF, argsToLocals, Value.category]; done) | rfl
set_option maxRecDepth 65536 in
set_option maxHeartbeats 40000000 in
theorem own_schk (l : Launch) (Z : State) (a0 : Array Value) (hw : ∀ d ∈ tables_1, d.before a0 Z = true) (ws : List Jvm.Cond) (ix : Int32) (nn : Int32) (vsf : Value) (h0 : Heap) (n0 : Nat) (Z0 : n0 ≤ h0.size) (O0 : Old Z n0 h0) (S_sf : Sta Z Z.heap "jdk/internal/util/Preconditions" "SIOOBE_FORMATTER" "Ljava/util/function/BiFunction;" vsf) (r_sf : (vsf).isRef = true) (q0 : ¬ (ix < (0 : Int32))) (q1 : ix < nn) :
    own_Ctr l Z (⟨"java/lang/String", "checkIndex", "(II)V"⟩ : MethodName) jdk_42_method_155_code 2 none ws ({ frames := 1, cells := 0, slots := 0, locals := 14 } : Room) (({ frames := 1, cells := 0, slots := 0, locals := 14 } : Room)).cells (({ frames := 1, cells := 0, slots := 0, locals := 14 } : Room)).slots #[(.int ix), (.int nn)] h0 (Q_own_schk Z ix nn vsf h0 n0) := by
  refine own_enter (plainFor_of_name own_pn1) ?_
  intro p e s m below meth c s₁ X0 hx hZ hby hml hown hnm hlk hret e0
  have N0 := Fr.nil n0
  refine own_cast (own_ef_own_schk m ix nn) ?_
  refine own_by (g' := (mkF m 2 #[iv ix, iv nn] [(.int nn), (.int ix)])) (fun t k => XS.iloadN X0.here hx rfl (hb hby own_d23_0) rfl (XS.iloadN X0.here hx rfl (hb hby own_d23_1) rfl k)) ?_
  obtain ⟨T101, X101, e101, st101⟩ := getS2 X0 hx hZ hown (host := "") (Or.inl (hw _ (List.mem_of_getElem? (i := 110) rfl))) Via.refl e0 (S_sf.ext O0.2) (g := (mkF m 2 #[iv ix, iv nn] [(.int nn), (.int ix)])) rfl (hb hby own_d23_2)
  refine own_by (g' := (mkF m 5 #[iv ix, iv nn] [vsf, (.int nn), (.int ix)])) st101 ?_
  refine own_callS X101 hx hZ hown (hw _ (List.mem_of_getElem? (i := 112) rfl)) (hw _ (List.mem_of_getElem? (i := 113) rfl)) (hw _ (List.mem_of_getElem? (i := 111) rfl)) (hw _ (List.mem_of_getElem? (i := 114) rfl)) (by decide) (own_pchk l Z a0 hw [] (ix) (nn) (vsf) h0 n0 Z0 r_sf (by first | assumption | decide) (by first | assumption | decide)) 0 (by decide) (by decide) (by decide) (by decide) e101 (g := (mkF m 5 #[iv ix, iv nn] [vsf, (.int nn), (.int ix)])) rfl (by rw [hml]; rfl) (argsL := [(.int ix), (.int nn), vsf]) (rest := []) (lenOf own_pd0 rfl) rfl (by show 2 * 0 + _ ≤ _; exact Nat.le_of_eq rfl) (hb hby own_d23_5) ?_
  intro v102 T102 L102 X102 q102
  obtain ⟨rfl, N102q, e102⟩ := q102
  have N102 := Fr.app N0 N102q
  show own_Goes p e below s _ _ _ T102 (mkF m 8 #[iv ix, iv nn] [(.int ix)])
  refine own_by (g' := (mkF m 9 #[iv ix, iv nn] [])) (fun t k => XS.pop X102.here hx rfl (hb hby own_d23_8) rfl rfl k) ?_
  refine own_retV X102 hx hlk hret (hb hby own_d23_9) (by decide) (by decide) ?_
  exact ⟨rfl, N102, e102⟩
theorem own_pn2 : plainName "java/lang/StringUTF16" = true := by first | (simp [plainName, overriddenIn]; done) | decide +kernel
theorem own_d32_0 : decode jdk_52_method_6_code 0 = .ok (.aload_n 0, 1) := by decide +kernel
theorem own_d32_1 : decode jdk_52_method_6_code 1 = .ok (.arraylength, 1) := by decide +kernel
theorem own_d32_2 : decode jdk_52_method_6_code 2 = .ok (.iconst 1, 1) := by decide +kernel
theorem own_d32_3 : decode jdk_52_method_6_code 3 = .ok (.ishr, 1) := by decide +kernel
theorem own_d32_4 : decode jdk_52_method_6_code 4 = .ok (.ireturn, 1) := by decide +kernel
def Q_own_ulen (Z : State) (r1 : Addr) (k1 : ClassId) (ln : Int32) (vs : List Value) (h0 : Heap) (n0 : Nat) (v : Option Value) (h : Heap) (L : List Loc) : Prop := v = some (.int (ln >>> ((1 : Int32) &&& 31))) ∧ Fr n0 L ∧ h = h0
theorem own_ef_own_ulen (m : MethodId) (r1 : Addr) : entryFrame m #[(.ref r1)] 1 = mkF m 0 #[rv r1] [] := by first | (simp [entryFrame, mkF, argsToLocals, Value.category]; done) | rfl
set_option maxRecDepth 65536 in
set_option maxHeartbeats 40000000 in
theorem own_ulen (l : Launch) (Z : State) (a0 : Array Value) (hw : ∀ d ∈ tables_1, d.before a0 Z = true) (ws : List Jvm.Cond) (r1 : Addr) (k1 : ClassId) (ln : Int32) (vs : List Value) (h0 : Heap) (n0 : Nat) (Z0 : n0 ≤ h0.size) (V1 : Arv Z h0 r1 k1 .byte ln vs (.int (0 : Int32))) :
    own_Ctr l Z (⟨"java/lang/StringUTF16", "length", "([B)I"⟩ : MethodName) jdk_52_method_6_code 1 (some .int) ws ({ frames := 0, cells := 0, slots := 0, locals := 0 } : Room) (({ frames := 0, cells := 0, slots := 0, locals := 0 } : Room)).cells (({ frames := 0, cells := 0, slots := 0, locals := 0 } : Room)).slots #[(.ref r1)] h0 (Q_own_ulen Z r1 k1 ln vs h0 n0) := by
  refine own_enter (plainFor_of_name own_pn2) ?_
  intro p e s m below meth c s₁ X0 hx hZ hby hml hown hnm hlk hret e0
  have N0 := Fr.nil n0
  refine own_cast (own_ef_own_ulen m r1) ?_
  refine own_by (g' := (mkF m 1 #[rv r1] [(.ref r1)])) (fun t k => XS.aloadN X0.here hx rfl (hb hby own_d32_0) rfl rfl k) ?_
  obtain ⟨c101, Ar101, -, S101, G101, -, -⟩ := id V1
  refine own_by (g' := (mkF m 2 #[rv r1] [(.int ln)])) (fun t k => X0.arraylength hx (own_at_ e0 Ar101.1) (State.isArrayOf_alike hZ.alike Ar101.2.1) (g := (mkF m 1 #[rv r1] [(.ref r1)])) rfl rfl (hb hby own_d32_1) t (by rw [len_of S101 G101]; exact k)) ?_
  refine own_by (g' := (mkF m 4 #[rv r1] [(.int (ln >>> ((1 : Int32) &&& 31)))])) (fun t k => XS.iconst X0.here hx rfl (hb hby own_d32_2) (XS.ishr X0.here hx rfl (hb hby own_d32_3) rfl k)) ?_
  refine own_retI X0 hx hlk hret (hb hby own_d32_4) (by decide) (by decide) ?_
  exact ⟨rfl, N0, e0⟩
theorem own_d31_0 : decode jdk_52_method_91_code 0 = .ok (.iload_n 0, 1) := by decide +kernel
theorem own_d31_1 : decode jdk_52_method_91_code 1 = .ok (.aload_n 1, 1) := by decide +kernel
theorem own_d31_2 : decode jdk_52_method_91_code 2 = .ok (.invokestatic 48, 3) := by decide +kernel
theorem own_pd1 : parseMethodDescriptor "([B)I" = some ⟨[(.array .byte)], some .int⟩ := by decide +kernel
theorem own_d31_5 : decode jdk_52_method_91_code 5 = .ok (.invokestatic 414, 3) := by decide +kernel
theorem own_pd2 : parseMethodDescriptor "(II)V" = some ⟨[.int, .int], none⟩ := by decide +kernel
theorem own_d31_8 : decode jdk_52_method_91_code 8 = .ok (.return_, 1) := by decide +kernel
def Q_own_uchk (Z : State) (r1 : Addr) (k1 : ClassId) (ln : Int32) (vs : List Value) (ix : Int32) (vsf : Value) (h0 : Heap) (n0 : Nat) (v : Option Value) (h : Heap) (L : List Loc) : Prop := v = none ∧ Fr n0 L ∧ h = h0
theorem own_ef_own_uchk (m : MethodId) (r1 : Addr) (ix : Int32) : entryFrame m #[(.int ix), (.ref r1)] 2 = mkF m 0 #[iv ix, rv r1] [] := by first | (simp [entryFrame, mkF, argsToLocals, Value.category]; done) | rfl
set_option maxRecDepth 65536 in
set_option maxHeartbeats 40000000 in
theorem own_uchk (l : Launch) (Z : State) (a0 : Array Value) (hw : ∀ d ∈ tables_1, d.before a0 Z = true) (ws : List Jvm.Cond) (r1 : Addr) (k1 : ClassId) (ln : Int32) (vs : List Value) (ix : Int32) (vsf : Value) (h0 : Heap) (n0 : Nat) (Z0 : n0 ≤ h0.size) (O0 : Old Z n0 h0) (S_sf : Sta Z Z.heap "jdk/internal/util/Preconditions" "SIOOBE_FORMATTER" "Ljava/util/function/BiFunction;" vsf) (r_sf : (vsf).isRef = true) (V1 : Arv Z h0 r1 k1 .byte ln vs (.int (0 : Int32))) (q0 : ¬ (ix < (0 : Int32))) (q1 : ix < (ln >>> ((1 : Int32) &&& 31))) :
    own_Ctr l Z (⟨"java/lang/StringUTF16", "checkIndex", "(I[B)V"⟩ : MethodName) jdk_52_method_91_code 2 none ws ({ frames := 2, cells := 0, slots := 0, locals := 27 } : Room) (({ frames := 2, cells := 0, slots := 0, locals := 27 } : Room)).cells (({ frames := 2, cells := 0, slots := 0, locals := 27 } : Room)).slots #[(.int ix), (.ref r1)] h0 (Q_own_uchk Z r1 k1 ln vs ix vsf h0 n0) := by
  refine own_enter (plainFor_of_name own_pn2) ?_
  intro p e s m below meth c s₁ X0 hx hZ hby hml hown hnm hlk hret e0
  have N0 := Fr.nil n0
  refine own_cast (own_ef_own_uchk m r1 ix) ?_
  refine own_by (g' := (mkF m 2 #[iv ix, rv r1] [(.ref r1), (.int ix)])) (fun t k => XS.iloadN X0.here hx rfl (hb hby own_d31_0) rfl (XS.aloadN X0.here hx rfl (hb hby own_d31_1) rfl rfl k)) ?_
  refine own_callS X0 hx hZ hown (hw _ (List.mem_of_getElem? (i := 140) rfl)) (hw _ (List.mem_of_getElem? (i := 141) rfl)) (hw _ (List.mem_of_getElem? (i := 80) rfl)) (hw _ (List.mem_of_getElem? (i := 142) rfl)) (by decide) (own_ulen l Z a0 hw [] (r1) (k1) (ln) (vs) h0 n0 Z0 V1) 1 (by decide) (by decide) (by decide) (by decide) e0 (g := (mkF m 2 #[iv ix, rv r1] [(.ref r1), (.int ix)])) rfl (by rw [hml]; rfl) (argsL := [(.ref r1)]) (rest := [(.int ix)]) (lenOf own_pd1 rfl) rfl (by show 2 * 0 + _ ≤ _; exact Nat.le_of_eq rfl) (hb hby own_d31_2) ?_
  intro v101 T101 L101 X101 q101
  obtain ⟨rfl, N101q, e101⟩ := q101
  have N101 := Fr.app N0 N101q
  show own_Goes p e below s _ _ _ T101 (mkF m 5 #[iv ix, rv r1] [(.int (ln >>> ((1 : Int32) &&& 31))), (.int ix)])
  refine own_callS X101 hx hZ hown (hw _ (List.mem_of_getElem? (i := 143) rfl)) (hw _ (List.mem_of_getElem? (i := 108) rfl)) (hw _ (List.mem_of_getElem? (i := 10) rfl)) (hw _ (List.mem_of_getElem? (i := 109) rfl)) (by decide) (own_schk l Z a0 hw [] (ix) ((ln >>> ((1 : Int32) &&& 31))) (vsf) h0 n0 Z0 O0 S_sf r_sf (by first | assumption | decide) (by first | assumption | decide)) 0 (by decide) (by decide) (by decide) (by decide) e101 (g := (mkF m 5 #[iv ix, rv r1] [(.int (ln >>> ((1 : Int32) &&& 31))), (.int ix)])) rfl (by rw [hml]; rfl) (argsL := [(.int ix), (.int (ln >>> ((1 : Int32) &&& 31)))]) (rest := []) (lenOf own_pd2 rfl) rfl (by show 2 * 0 + _ ≤ _; exact Nat.le_of_eq rfl) (hb hby own_d31_5) ?_
  intro v102 T102 L102 X102 q102
  obtain ⟨rfl, N102q, e102⟩ := q102
  have N102 := Fr.app N101 N102q
  show own_Goes p e below s _ _ _ T102 (mkF m 8 #[iv ix, rv r1] [])
  refine own_retV X102 hx hlk hret (hb hby own_d31_8) (by decide) (by decide) ?_
  exact ⟨rfl, N102, e102⟩
theorem own_d29_0 : decode jdk_52_method_5_code 0 = .ok (.getstatic 44, 3) := by decide +kernel
theorem own_d29_3 : decode jdk_52_method_5_code 3 = .ok (.ifCond .ne 25, 3) := by decide +kernel
theorem own_d29_28 : decode jdk_52_method_5_code 28 = .ok (.iload_n 1, 1) := by decide +kernel
theorem own_d29_29 : decode jdk_52_method_5_code 29 = .ok (.iconst 1, 1) := by decide +kernel
theorem own_d29_30 : decode jdk_52_method_5_code 30 = .ok (.ishl, 1) := by decide +kernel
theorem own_d29_31 : decode jdk_52_method_5_code 31 = .ok (.istore_n 1, 1) := by decide +kernel
theorem own_d29_32 : decode jdk_52_method_5_code 32 = .ok (.aload_n 0, 1) := by decide +kernel
theorem own_d29_33 : decode jdk_52_method_5_code 33 = .ok (.iload_n 1, 1) := by decide +kernel
theorem own_d29_34 : decode jdk_52_method_5_code 34 = .ok (.iinc 1 1, 3) := by decide +kernel
theorem own_d29_37 : decode jdk_52_method_5_code 37 = .ok (.baload, 1) := by decide +kernel
theorem own_d29_38 : decode jdk_52_method_5_code 38 = .ok (.sipush 255, 3) := by decide +kernel
theorem own_d29_41 : decode jdk_52_method_5_code 41 = .ok (.iand, 1) := by decide +kernel
theorem own_d29_42 : decode jdk_52_method_5_code 42 = .ok (.getstatic 59, 3) := by decide +kernel
theorem own_d29_45 : decode jdk_52_method_5_code 45 = .ok (.ishl, 1) := by decide +kernel
theorem own_d29_46 : decode jdk_52_method_5_code 46 = .ok (.aload_n 0, 1) := by decide +kernel
theorem own_d29_47 : decode jdk_52_method_5_code 47 = .ok (.iload_n 1, 1) := by decide +kernel
theorem own_d29_48 : decode jdk_52_method_5_code 48 = .ok (.baload, 1) := by decide +kernel
theorem own_d29_49 : decode jdk_52_method_5_code 49 = .ok (.sipush 255, 3) := by decide +kernel
theorem own_d29_52 : decode jdk_52_method_5_code 52 = .ok (.iand, 1) := by decide +kernel
theorem own_d29_53 : decode jdk_52_method_5_code 53 = .ok (.getstatic 63, 3) := by decide +kernel
theorem own_d29_56 : decode jdk_52_method_5_code 56 = .ok (.ishl, 1) := by decide +kernel
theorem own_d29_57 : decode jdk_52_method_5_code 57 = .ok (.ior, 1) := by decide +kernel
theorem own_d29_58 : decode jdk_52_method_5_code 58 = .ok (.i2c, 1) := by decide +kernel
theorem own_d29_59 : decode jdk_52_method_5_code 59 = .ok (.ireturn, 1) := by decide +kernel
def Q_own_getc0 (Z : State) (r1 : Addr) (k1 : ClassId) (ln : Int32) (vs : List Value) (b0 : Int32) (b1 : Int32) (xc : Int32) (h0 : Heap) (n0 : Nat) (v : Option Value) (h : Heap) (L : List Loc) : Prop := v = some (.int xc) ∧ Fr n0 L ∧ h = h0
theorem own_ef_own_getc0 (m : MethodId) (r1 : Addr) : entryFrame m #[(.ref r1), (.int (0 : Int32))] 2 = mkF m 0 #[rv r1, iv (0 : Int32)] [] := by first | (simp [entryFrame, mkF, argsToLocals, Value.category]; done) | rfl
set_option maxRecDepth 65536 in
set_option maxHeartbeats 40000000 in
theorem own_getc0 (l : Launch) (Z : State) (a0 : Array Value) (hw : ∀ d ∈ tables_1, d.before a0 Z = true) (ws : List Jvm.Cond) (r1 : Addr) (k1 : ClassId) (ln : Int32) (vs : List Value) (b0 : Int32) (b1 : Int32) (xc : Int32) (h0 : Heap) (n0 : Nat) (Z0 : n0 ≤ h0.size) (O0 : Old Z n0 h0) (S_ad : Sta Z Z.heap "java/lang/StringUTF16" "$assertionsDisabled" "Z" (.int (1 : Int32))) (S_hi : Sta Z Z.heap "java/lang/StringUTF16" "HI_BYTE_SHIFT" "I" (.int (0 : Int32))) (S_lo : Sta Z Z.heap "java/lang/StringUTF16" "LO_BYTE_SHIFT" "I" (.int (8 : Int32))) (V1 : Arv Z h0 r1 k1 .byte ln vs (.int (0 : Int32))) (q1 : (0 : Int32) < ln) (q2 : (1 : Int32) < ln) (q3 : vs.getD 0 (.int (0 : Int32)) = .int b0) (q4 : vs.getD 1 (.int (0 : Int32)) = .int b1) (q5 : own_utfc b0 b1 = xc) :
    own_Ctr l Z (⟨"java/lang/StringUTF16", "getChar", "([BI)C"⟩ : MethodName) jdk_52_method_5_code 2 (some .char) ws ({ frames := 0, cells := 0, slots := 0, locals := 0 } : Room) (({ frames := 0, cells := 0, slots := 0, locals := 0 } : Room)).cells (({ frames := 0, cells := 0, slots := 0, locals := 0 } : Room)).slots #[(.ref r1), (.int (0 : Int32))] h0 (Q_own_getc0 Z r1 k1 ln vs b0 b1 xc h0 n0) := by
  refine own_enter (plainFor_of_name own_pn2) ?_
  intro p e s m below meth c s₁ X0 hx hZ hby hml hown hnm hlk hret e0
  have N0 := Fr.nil n0
  refine own_cast (own_ef_own_getc0 m r1) ?_
  obtain ⟨T101, X101, e101, st101⟩ := getS2 X0 hx hZ hown (host := "") (Or.inl (hw _ (List.mem_of_getElem? (i := 128) rfl))) Via.refl e0 (S_ad.ext O0.2) (g := (mkF m 0 #[rv r1, iv (0 : Int32)] [])) rfl (hb hby own_d29_0)
  refine own_by (g' := (mkF m 3 #[rv r1, iv (0 : Int32)] [(.int (1 : Int32))])) st101 ?_
  refine own_by (g' := (mkF m 31 #[rv r1, iv (0 : Int32)] [(.int ((0 : Int32) <<< ((1 : Int32) &&& 31)))])) (fun t k => XS.ifYes X101.here hx rfl (pc0 := 3) (pc' := 28) rfl (hb hby own_d29_3) rfl ((if0 _ _).trans (feq (by decide : ¬ ((1 : Int32) = (0 : Int32)))).2) (by decide) (by decide) (XS.iloadN X101.here hx rfl (hb hby own_d29_28) rfl (XS.iconst X101.here hx rfl (hb hby own_d29_29) (XS.ishl X101.here hx rfl (hb hby own_d29_30) rfl k)))) ?_
  have hz : ((0 : Int32) <<< ((1 : Int32) &&& 31)) = (0 : Int32) := by decide
  rw [hz]
  refine own_by (g' := (mkF m 37 #[rv r1, iv (1 : Int32)] [(.int (0 : Int32)), (.ref r1)])) (fun t k => XS.istoreN X101.here hx rfl (hb hby own_d29_31) rfl (l' := #[rv r1, iv (0 : Int32)]) rfl (XS.aloadN X101.here hx rfl (hb hby own_d29_32) rfl rfl (XS.iloadN X101.here hx rfl (hb hby own_d29_33) rfl (XS.iinc X101.here hx rfl (hb hby own_d29_34) rfl (l' := #[rv r1, iv (1 : Int32)]) rfl k)))) ?_
  obtain ⟨c102, Ar102, q102, S102, G102, H102, F102⟩ := id V1
  have hin102 : ¬ ((0 : Int32) < 0 ∨ c102.slots.size ≤ ((0 : Int32)).toNatClampNeg) := inb_of S102 ⟨by decide, q1⟩
  have hat102 : c102.slots[((0 : Int32)).toNatClampNeg]? = some (.int b0) := H102.at hin102 q3
  refine own_by (g' := (mkF m 42 #[rv r1, iv (1 : Int32)] [(.int (b0 &&& (255 : Int32)))])) (fun t k => X101.baloadBytes hx (j := (0 : Int32)) (v := (.int b0)) (own_at_ e101 Ar102.1) (State.isArrayOf_alike hZ.alike Ar102.2.1) Ar102.2.2 hin102 hat102 (g := (mkF m 37 #[rv r1, iv (1 : Int32)] [(.int (0 : Int32)), (.ref r1)])) rfl rfl (hb hby own_d29_37) t (XS.sipush X101.here hx rfl (hb hby own_d29_38) (XS.iand X101.here hx rfl (hb hby own_d29_41) rfl k))) ?_
  obtain ⟨T103, X103, e103, st103⟩ := getS2 X101 hx hZ hown (host := "") (Or.inl (hw _ (List.mem_of_getElem? (i := 129) rfl))) Via.refl e101 (S_hi.ext O0.2) (g := (mkF m 42 #[rv r1, iv (1 : Int32)] [(.int (b0 &&& (255 : Int32)))])) rfl (hb hby own_d29_42)
  refine own_by (g' := (mkF m 45 #[rv r1, iv (1 : Int32)] [(.int (0 : Int32)), (.int (b0 &&& (255 : Int32)))])) st103 ?_
  refine own_by (g' := (mkF m 48 #[rv r1, iv (1 : Int32)] [(.int (1 : Int32)), (.ref r1), (.int ((b0 &&& (255 : Int32)) <<< ((0 : Int32) &&& 31)))])) (fun t k => XS.ishl X103.here hx rfl (hb hby own_d29_45) rfl (XS.aloadN X103.here hx rfl (hb hby own_d29_46) rfl rfl (XS.iloadN X103.here hx rfl (hb hby own_d29_47) rfl k))) ?_
  obtain ⟨c104, Ar104, q104, S104, G104, H104, F104⟩ := id V1
  have hin104 : ¬ ((1 : Int32) < 0 ∨ c104.slots.size ≤ ((1 : Int32)).toNatClampNeg) := inb_of S104 ⟨by decide, q2⟩
  have hat104 : c104.slots[((1 : Int32)).toNatClampNeg]? = some (.int b1) := H104.at hin104 q4
  refine own_by (g' := (mkF m 53 #[rv r1, iv (1 : Int32)] [(.int (b1 &&& (255 : Int32))), (.int ((b0 &&& (255 : Int32)) <<< ((0 : Int32) &&& 31)))])) (fun t k => X103.baloadBytes hx (j := (1 : Int32)) (v := (.int b1)) (own_at_ e103 Ar104.1) (State.isArrayOf_alike hZ.alike Ar104.2.1) Ar104.2.2 hin104 hat104 (g := (mkF m 48 #[rv r1, iv (1 : Int32)] [(.int (1 : Int32)), (.ref r1), (.int ((b0 &&& (255 : Int32)) <<< ((0 : Int32) &&& 31)))])) rfl rfl (hb hby own_d29_48) t (XS.sipush X103.here hx rfl (hb hby own_d29_49) (XS.iand X103.here hx rfl (hb hby own_d29_52) rfl k))) ?_
  obtain ⟨T105, X105, e105, st105⟩ := getS2 X103 hx hZ hown (host := "") (Or.inl (hw _ (List.mem_of_getElem? (i := 130) rfl))) Via.refl e103 (S_lo.ext O0.2) (g := (mkF m 53 #[rv r1, iv (1 : Int32)] [(.int (b1 &&& (255 : Int32))), (.int ((b0 &&& (255 : Int32)) <<< ((0 : Int32) &&& 31)))])) rfl (hb hby own_d29_53)
  refine own_by (g' := (mkF m 56 #[rv r1, iv (1 : Int32)] [(.int (8 : Int32)), (.int (b1 &&& (255 : Int32))), (.int ((b0 &&& (255 : Int32)) <<< ((0 : Int32) &&& 31)))])) st105 ?_
  refine own_by (g' := (mkF m 59 #[rv r1, iv (1 : Int32)] [(.int ((((b0 &&& (255 : Int32)) <<< ((0 : Int32) &&& 31)) ||| ((b1 &&& (255 : Int32)) <<< ((8 : Int32) &&& 31)))).toUInt32.toUInt16.toUInt32.toInt32)])) (fun t k => XS.ishl X105.here hx rfl (hb hby own_d29_56) rfl (XS.ior X105.here hx rfl (hb hby own_d29_57) rfl (XS.i2c X105.here hx rfl (hb hby own_d29_58) rfl k))) ?_
  refine own_retN X105 hx hlk hret (t := .char) (by simp) (hb hby own_d29_59) (by decide) (by decide) ?_
  exact ⟨(congrArg (fun z => some (Value.int z)) ((own_c16 _).trans q5)), N0, e105⟩
theorem own_d30_0 : decode jdk_52_method_83_code 0 = .ok (.iload_n 1, 1) := by decide +kernel
theorem own_d30_1 : decode jdk_52_method_83_code 1 = .ok (.aload_n 0, 1) := by decide +kernel
theorem own_d30_2 : decode jdk_52_method_83_code 2 = .ok (.invokestatic 67, 3) := by decide +kernel
theorem own_pd3 : parseMethodDescriptor "(I[B)V" = some ⟨[.int, (.array .byte)], none⟩ := by decide +kernel
theorem own_d30_5 : decode jdk_52_method_83_code 5 = .ok (.aload_n 0, 1) := by decide +kernel
theorem own_d30_6 : decode jdk_52_method_83_code 6 = .ok (.iload_n 1, 1) := by decide +kernel
theorem own_d30_7 : decode jdk_52_method_83_code 7 = .ok (.invokestatic 71, 3) := by decide +kernel
theorem own_pd4 : parseMethodDescriptor "([BI)C" = some ⟨[(.array .byte), .int], some .char⟩ := by decide +kernel
theorem own_d30_10 : decode jdk_52_method_83_code 10 = .ok (.ireturn, 1) := by decide +kernel
def Q_own_uchar0 (Z : State) (r1 : Addr) (k1 : ClassId) (ln : Int32) (vs : List Value) (b0 : Int32) (b1 : Int32) (xc : Int32) (vsf : Value) (h0 : Heap) (n0 : Nat) (v : Option Value) (h : Heap) (L : List Loc) : Prop := v = some (.int xc) ∧ Fr n0 L ∧ h = h0
theorem own_ef_own_uchar0 (m : MethodId) (r1 : Addr) : entryFrame m #[(.ref r1), (.int (0 : Int32))] 2 = mkF m 0 #[rv r1, iv (0 : Int32)] [] := by first | (simp [entryFrame, mkF, argsToLocals, Value.category]; done) | rfl
set_option maxRecDepth 65536 in
set_option maxHeartbeats 40000000 in
theorem own_uchar0 (l : Launch) (Z : State) (a0 : Array Value) (hw : ∀ d ∈ tables_1, d.before a0 Z = true) (ws : List Jvm.Cond) (r1 : Addr) (k1 : ClassId) (ln : Int32) (vs : List Value) (b0 : Int32) (b1 : Int32) (xc : Int32) (vsf : Value) (h0 : Heap) (n0 : Nat) (Z0 : n0 ≤ h0.size) (O0 : Old Z n0 h0) (S_ad : Sta Z Z.heap "java/lang/StringUTF16" "$assertionsDisabled" "Z" (.int (1 : Int32))) (S_hi : Sta Z Z.heap "java/lang/StringUTF16" "HI_BYTE_SHIFT" "I" (.int (0 : Int32))) (S_lo : Sta Z Z.heap "java/lang/StringUTF16" "LO_BYTE_SHIFT" "I" (.int (8 : Int32))) (S_sf : Sta Z Z.heap "jdk/internal/util/Preconditions" "SIOOBE_FORMATTER" "Ljava/util/function/BiFunction;" vsf) (r_sf : (vsf).isRef = true) (q0 : (0 : Int32) < (ln >>> ((1 : Int32) &&& 31))) (V1 : Arv Z h0 r1 k1 .byte ln vs (.int (0 : Int32))) (q1 : (0 : Int32) < ln) (q2 : (1 : Int32) < ln) (q3 : vs.getD 0 (.int (0 : Int32)) = .int b0) (q4 : vs.getD 1 (.int (0 : Int32)) = .int b1) (q5 : own_utfc b0 b1 = xc) :
    own_Ctr l Z (⟨"java/lang/StringUTF16", "charAt", "([BI)C"⟩ : MethodName) jdk_52_method_83_code 2 (some .char) ws ({ frames := 3, cells := 0, slots := 0, locals := 40 } : Room) (({ frames := 3, cells := 0, slots := 0, locals := 40 } : Room)).cells (({ frames := 3, cells := 0, slots := 0, locals := 40 } : Room)).slots #[(.ref r1), (.int (0 : Int32))] h0 (Q_own_uchar0 Z r1 k1 ln vs b0 b1 xc vsf h0 n0) := by
  refine own_enter (plainFor_of_name own_pn2) ?_
  intro p e s m below meth c s₁ X0 hx hZ hby hml hown hnm hlk hret e0
  have N0 := Fr.nil n0
  refine own_cast (own_ef_own_uchar0 m r1) ?_
  refine own_by (g' := (mkF m 2 #[rv r1, iv (0 : Int32)] [(.ref r1), (.int (0 : Int32))])) (fun t k => XS.iloadN X0.here hx rfl (hb hby own_d30_0) rfl (XS.aloadN X0.here hx rfl (hb hby own_d30_1) rfl rfl k)) ?_
  refine own_callS X0 hx hZ hown (hw _ (List.mem_of_getElem? (i := 137) rfl)) (hw _ (List.mem_of_getElem? (i := 138) rfl)) (hw _ (List.mem_of_getElem? (i := 80) rfl)) (hw _ (List.mem_of_getElem? (i := 139) rfl)) (by decide) (own_uchk l Z a0 hw [] (r1) (k1) (ln) (vs) ((0 : Int32)) (vsf) h0 n0 Z0 O0 S_sf r_sf V1 (by decide) q0) 0 (by decide) (by decide) (by decide) (by decide) e0 (g := (mkF m 2 #[rv r1, iv (0 : Int32)] [(.ref r1), (.int (0 : Int32))])) rfl (by rw [hml]; rfl) (argsL := [(.int (0 : Int32)), (.ref r1)]) (rest := []) (lenOf own_pd3 rfl) rfl (by show 2 * 0 + _ ≤ _; exact Nat.le_of_eq rfl) (hb hby own_d30_2) ?_
  intro v101 T101 L101 X101 q101
  obtain ⟨rfl, N101q, e101⟩ := q101
  have N101 := Fr.app N0 N101q
  show own_Goes p e below s _ _ _ T101 (mkF m 5 #[rv r1, iv (0 : Int32)] [])
  refine own_by (g' := (mkF m 7 #[rv r1, iv (0 : Int32)] [(.int (0 : Int32)), (.ref r1)])) (fun t k => XS.aloadN X101.here hx rfl (hb hby own_d30_5) rfl rfl (XS.iloadN X101.here hx rfl (hb hby own_d30_6) rfl k)) ?_
  refine own_callS X101 hx hZ hown (hw _ (List.mem_of_getElem? (i := 131) rfl)) (hw _ (List.mem_of_getElem? (i := 132) rfl)) (hw _ (List.mem_of_getElem? (i := 80) rfl)) (hw _ (List.mem_of_getElem? (i := 133) rfl)) (by decide) (own_getc0 l Z a0 hw [] (r1) (k1) (ln) (vs) (b0) (b1) (xc) h0 n0 Z0 O0 S_ad S_hi S_lo V1 (by first | assumption | decide) (by first | assumption | decide) (by first | assumption | decide) (by first | assumption | decide) (by first | assumption | decide)) 0 (by decide) (by decide) (by decide) (by decide) e101 (g := (mkF m 7 #[rv r1, iv (0 : Int32)] [(.int (0 : Int32)), (.ref r1)])) rfl (by rw [hml]; rfl) (argsL := [(.ref r1), (.int (0 : Int32))]) (rest := []) (lenOf own_pd4 rfl) rfl (by show 2 * 0 + _ ≤ _; exact Nat.le_of_eq rfl) (hb hby own_d30_7) ?_
  intro v102 T102 L102 X102 q102
  obtain ⟨rfl, N102q, e102⟩ := q102
  have N102 := Fr.app N101 N102q
  show own_Goes p e below s _ _ _ T102 (mkF m 10 #[rv r1, iv (0 : Int32)] [(.int xc)])
  refine own_retN X102 hx hlk hret (t := .char) (by simp) (hb hby own_d30_10) (by decide) (by decide) ?_
  exact ⟨(by rw [show nar .char xc = xc from by rw [← q5]; exact own_c16 _]), N102, e102⟩
theorem own_pn3 : plainName "java/lang/StringLatin1" = true := by first | (simp [plainName, overriddenIn]; done) | decide +kernel
theorem own_d22_0 : decode jdk_43_method_2_code 0 = .ok (.iload_n 1, 1) := by decide +kernel
theorem own_d22_1 : decode jdk_43_method_2_code 1 = .ok (.aload_n 0, 1) := by decide +kernel
theorem own_d22_2 : decode jdk_43_method_2_code 2 = .ok (.arraylength, 1) := by decide +kernel
theorem own_d22_3 : decode jdk_43_method_2_code 3 = .ok (.invokestatic 9, 3) := by decide +kernel
theorem own_d22_6 : decode jdk_43_method_2_code 6 = .ok (.aload_n 0, 1) := by decide +kernel
theorem own_d22_7 : decode jdk_43_method_2_code 7 = .ok (.iload_n 1, 1) := by decide +kernel
theorem own_d22_8 : decode jdk_43_method_2_code 8 = .ok (.baload, 1) := by decide +kernel
theorem own_d22_9 : decode jdk_43_method_2_code 9 = .ok (.sipush 255, 3) := by decide +kernel
theorem own_d22_12 : decode jdk_43_method_2_code 12 = .ok (.iand, 1) := by decide +kernel
theorem own_d22_13 : decode jdk_43_method_2_code 13 = .ok (.i2c, 1) := by decide +kernel
theorem own_d22_14 : decode jdk_43_method_2_code 14 = .ok (.ireturn, 1) := by decide +kernel
def Q_own_lchar0 (Z : State) (r1 : Addr) (k1 : ClassId) (ln : Int32) (vs : List Value) (bc : Int32) (xc : Int32) (vsf : Value) (h0 : Heap) (n0 : Nat) (v : Option Value) (h : Heap) (L : List Loc) : Prop := v = some (.int xc) ∧ Fr n0 L ∧ h = h0
theorem own_ef_own_lchar0 (m : MethodId) (r1 : Addr) : entryFrame m #[(.ref r1), (.int (0 : Int32))] 2 = mkF m 0 #[rv r1, iv (0 : Int32)] [] := by first | (simp [entryFrame, mkF, argsToLocals, Value.category]; done) | rfl
set_option maxRecDepth 65536 in
set_option maxHeartbeats 40000000 in
theorem own_lchar0 (l : Launch) (Z : State) (a0 : Array Value) (hw : ∀ d ∈ tables_1, d.before a0 Z = true) (ws : List Jvm.Cond) (r1 : Addr) (k1 : ClassId) (ln : Int32) (vs : List Value) (bc : Int32) (xc : Int32) (vsf : Value) (h0 : Heap) (n0 : Nat) (Z0 : n0 ≤ h0.size) (O0 : Old Z n0 h0) (S_sf : Sta Z Z.heap "jdk/internal/util/Preconditions" "SIOOBE_FORMATTER" "Ljava/util/function/BiFunction;" vsf) (r_sf : (vsf).isRef = true) (V1 : Arv Z h0 r1 k1 .byte ln vs (.int (0 : Int32))) (q1 : (0 : Int32) < ln) (q3 : vs.getD 0 (.int (0 : Int32)) = .int bc) (q5 : own_latc bc = xc) :
    own_Ctr l Z (⟨"java/lang/StringLatin1", "charAt", "([BI)C"⟩ : MethodName) jdk_43_method_2_code 2 (some .char) ws ({ frames := 2, cells := 0, slots := 0, locals := 27 } : Room) (({ frames := 2, cells := 0, slots := 0, locals := 27 } : Room)).cells (({ frames := 2, cells := 0, slots := 0, locals := 27 } : Room)).slots #[(.ref r1), (.int (0 : Int32))] h0 (Q_own_lchar0 Z r1 k1 ln vs bc xc vsf h0 n0) := by
  refine own_enter (plainFor_of_name own_pn3) ?_
  intro p e s m below meth c s₁ X0 hx hZ hby hml hown hnm hlk hret e0
  have N0 := Fr.nil n0
  refine own_cast (own_ef_own_lchar0 m r1) ?_
  refine own_by (g' := (mkF m 2 #[rv r1, iv (0 : Int32)] [(.ref r1), (.int (0 : Int32))])) (fun t k => XS.iloadN X0.here hx rfl (hb hby own_d22_0) rfl (XS.aloadN X0.here hx rfl (hb hby own_d22_1) rfl rfl k)) ?_
  obtain ⟨c101, Ar101, -, S101, G101, -, -⟩ := id V1
  refine own_by (g' := (mkF m 3 #[rv r1, iv (0 : Int32)] [(.int ln), (.int (0 : Int32))])) (fun t k => X0.arraylength hx (own_at_ e0 Ar101.1) (State.isArrayOf_alike hZ.alike Ar101.2.1) (g := (mkF m 2 #[rv r1, iv (0 : Int32)] [(.ref r1), (.int (0 : Int32))])) rfl rfl (hb hby own_d22_2) t (by rw [len_of S101 G101]; exact k)) ?_
  refine own_callS X0 hx hZ hown (hw _ (List.mem_of_getElem? (i := 107) rfl)) (hw _ (List.mem_of_getElem? (i := 108) rfl)) (hw _ (List.mem_of_getElem? (i := 10) rfl)) (hw _ (List.mem_of_getElem? (i := 109) rfl)) (by decide) (own_schk l Z a0 hw [] ((0 : Int32)) (ln) (vsf) h0 n0 Z0 O0 S_sf r_sf (by decide) q1) 0 (by decide) (by decide) (by decide) (by decide) e0 (g := (mkF m 3 #[rv r1, iv (0 : Int32)] [(.int ln), (.int (0 : Int32))])) rfl (by rw [hml]; rfl) (argsL := [(.int (0 : Int32)), (.int ln)]) (rest := []) (lenOf own_pd2 rfl) rfl (by show 2 * 0 + _ ≤ _; exact Nat.le_of_eq rfl) (hb hby own_d22_3) ?_
  intro v102 T102 L102 X102 q102
  obtain ⟨rfl, N102q, e102⟩ := q102
  have N102 := Fr.app N0 N102q
  show own_Goes p e below s _ _ _ T102 (mkF m 6 #[rv r1, iv (0 : Int32)] [])
  refine own_by (g' := (mkF m 8 #[rv r1, iv (0 : Int32)] [(.int (0 : Int32)), (.ref r1)])) (fun t k => XS.aloadN X102.here hx rfl (hb hby own_d22_6) rfl rfl (XS.iloadN X102.here hx rfl (hb hby own_d22_7) rfl k)) ?_
  obtain ⟨c103, Ar103, q103, S103, G103, H103, F103⟩ := id V1
  have hin103 : ¬ ((0 : Int32) < 0 ∨ c103.slots.size ≤ ((0 : Int32)).toNatClampNeg) := inb_of S103 ⟨by decide, q1⟩
  have hat103 : c103.slots[((0 : Int32)).toNatClampNeg]? = some (.int bc) := H103.at hin103 q3
  refine own_by (g' := (mkF m 14 #[rv r1, iv (0 : Int32)] [(.int ((bc &&& (255 : Int32))).toUInt32.toUInt16.toUInt32.toInt32)])) (fun t k => X102.baloadBytes hx (j := (0 : Int32)) (v := (.int bc)) (own_at_ e102 Ar103.1) (State.isArrayOf_alike hZ.alike Ar103.2.1) Ar103.2.2 hin103 hat103 (g := (mkF m 8 #[rv r1, iv (0 : Int32)] [(.int (0 : Int32)), (.ref r1)])) rfl rfl (hb hby own_d22_8) t (XS.sipush X102.here hx rfl (hb hby own_d22_9) (XS.iand X102.here hx rfl (hb hby own_d22_12) rfl (XS.i2c X102.here hx rfl (hb hby own_d22_13) rfl k)))) ?_
  refine own_retN X102 hx hlk hret (t := .char) (by simp) (hb hby own_d22_14) (by decide) (by decide) ?_
  exact ⟨(congrArg (fun z => some (Value.int z)) ((own_c16 _).trans q5)), N102, e102⟩
def Q_own_getc1 (Z : State) (r1 : Addr) (k1 : ClassId) (ln : Int32) (vs : List Value) (b0 : Int32) (b1 : Int32) (xc : Int32) (h0 : Heap) (n0 : Nat) (v : Option Value) (h : Heap) (L : List Loc) : Prop := v = some (.int xc) ∧ Fr n0 L ∧ h = h0
theorem own_ef_own_getc1 (m : MethodId) (r1 : Addr) : entryFrame m #[(.ref r1), (.int (1 : Int32))] 2 = mkF m 0 #[rv r1, iv (1 : Int32)] [] := by first | (simp [entryFrame, mkF, argsToLocals, Value.category]; done) | rfl
set_option maxRecDepth 65536 in
set_option maxHeartbeats 40000000 in
theorem own_getc1 (l : Launch) (Z : State) (a0 : Array Value) (hw : ∀ d ∈ tables_1, d.before a0 Z = true) (ws : List Jvm.Cond) (r1 : Addr) (k1 : ClassId) (ln : Int32) (vs : List Value) (b0 : Int32) (b1 : Int32) (xc : Int32) (h0 : Heap) (n0 : Nat) (Z0 : n0 ≤ h0.size) (O0 : Old Z n0 h0) (S_ad : Sta Z Z.heap "java/lang/StringUTF16" "$assertionsDisabled" "Z" (.int (1 : Int32))) (S_hi : Sta Z Z.heap "java/lang/StringUTF16" "HI_BYTE_SHIFT" "I" (.int (0 : Int32))) (S_lo : Sta Z Z.heap "java/lang/StringUTF16" "LO_BYTE_SHIFT" "I" (.int (8 : Int32))) (V1 : Arv Z h0 r1 k1 .byte ln vs (.int (0 : Int32))) (q1 : (2 : Int32) < ln) (q2 : (3 : Int32) < ln) (q3 : vs.getD 2 (.int (0 : Int32)) = .int b0) (q4 : vs.getD 3 (.int (0 : Int32)) = .int b1) (q5 : own_utfc b0 b1 = xc) :
    own_Ctr l Z (⟨"java/lang/StringUTF16", "getChar", "([BI)C"⟩ : MethodName) jdk_52_method_5_code 2 (some .char) ws ({ frames := 0, cells := 0, slots := 0, locals := 0 } : Room) (({ frames := 0, cells := 0, slots := 0, locals := 0 } : Room)).cells (({ frames := 0, cells := 0, slots := 0, locals := 0 } : Room)).slots #[(.ref r1), (.int (1 : Int32))] h0 (Q_own_getc1 Z r1 k1 ln vs b0 b1 xc h0 n0) := by
  refine own_enter (plainFor_of_name own_pn2) ?_
  intro p e s m below meth c s₁ X0 hx hZ hby hml hown hnm hlk hret e0
  have N0 := Fr.nil n0
  refine own_cast (own_ef_own_getc1 m r1) ?_
  obtain ⟨T101, X101, e101, st101⟩ := getS2 X0 hx hZ hown (host := "") (Or.inl (hw _ (List.mem_of_getElem? (i := 128) rfl))) Via.refl e0 (S_ad.ext O0.2) (g := (mkF m 0 #[rv r1, iv (1 : Int32)] [])) rfl (hb hby own_d29_0)
  refine own_by (g' := (mkF m 3 #[rv r1, iv (1 : Int32)] [(.int (1 : Int32))])) st101 ?_
  refine own_by (g' := (mkF m 31 #[rv r1, iv (1 : Int32)] [(.int ((1 : Int32) <<< ((1 : Int32) &&& 31)))])) (fun t k => XS.ifYes X101.here hx rfl (pc0 := 3) (pc' := 28) rfl (hb hby own_d29_3) rfl ((if0 _ _).trans (feq (by decide : ¬ ((1 : Int32) = (0 : Int32)))).2) (by decide) (by decide) (XS.iloadN X101.here hx rfl (hb hby own_d29_28) rfl (XS.iconst X101.here hx rfl (hb hby own_d29_29) (XS.ishl X101.here hx rfl (hb hby own_d29_30) rfl k)))) ?_
  have hz : ((1 : Int32) <<< ((1 : Int32) &&& 31)) = (2 : Int32) := by decide
  rw [hz]
  refine own_by (g' := (mkF m 37 #[rv r1, iv (3 : Int32)] [(.int (2 : Int32)), (.ref r1)])) (fun t k => XS.istoreN X101.here hx rfl (hb hby own_d29_31) rfl (l' := #[rv r1, iv (2 : Int32)]) rfl (XS.aloadN X101.here hx rfl (hb hby own_d29_32) rfl rfl (XS.iloadN X101.here hx rfl (hb hby own_d29_33) rfl (XS.iinc X101.here hx rfl (hb hby own_d29_34) rfl (l' := #[rv r1, iv (3 : Int32)]) rfl k)))) ?_
  obtain ⟨c102, Ar102, q102, S102, G102, H102, F102⟩ := id V1
  have hin102 : ¬ ((2 : Int32) < 0 ∨ c102.slots.size ≤ ((2 : Int32)).toNatClampNeg) := inb_of S102 ⟨by decide, q1⟩
  have hat102 : c102.slots[((2 : Int32)).toNatClampNeg]? = some (.int b0) := H102.at hin102 q3
  refine own_by (g' := (mkF m 42 #[rv r1, iv (3 : Int32)] [(.int (b0 &&& (255 : Int32)))])) (fun t k => X101.baloadBytes hx (j := (2 : Int32)) (v := (.int b0)) (own_at_ e101 Ar102.1) (State.isArrayOf_alike hZ.alike Ar102.2.1) Ar102.2.2 hin102 hat102 (g := (mkF m 37 #[rv r1, iv (3 : Int32)] [(.int (2 : Int32)), (.ref r1)])) rfl rfl (hb hby own_d29_37) t (XS.sipush X101.here hx rfl (hb hby own_d29_38) (XS.iand X101.here hx rfl (hb hby own_d29_41) rfl k))) ?_
  obtain ⟨T103, X103, e103, st103⟩ := getS2 X101 hx hZ hown (host := "") (Or.inl (hw _ (List.mem_of_getElem? (i := 129) rfl))) Via.refl e101 (S_hi.ext O0.2) (g := (mkF m 42 #[rv r1, iv (3 : Int32)] [(.int (b0 &&& (255 : Int32)))])) rfl (hb hby own_d29_42)
  refine own_by (g' := (mkF m 45 #[rv r1, iv (3 : Int32)] [(.int (0 : Int32)), (.int (b0 &&& (255 : Int32)))])) st103 ?_
  refine own_by (g' := (mkF m 48 #[rv r1, iv (3 : Int32)] [(.int (3 : Int32)), (.ref r1), (.int ((b0 &&& (255 : Int32)) <<< ((0 : Int32) &&& 31)))])) (fun t k => XS.ishl X103.here hx rfl (hb hby own_d29_45) rfl (XS.aloadN X103.here hx rfl (hb hby own_d29_46) rfl rfl (XS.iloadN X103.here hx rfl (hb hby own_d29_47) rfl k))) ?_
  obtain ⟨c104, Ar104, q104, S104, G104, H104, F104⟩ := id V1
  have hin104 : ¬ ((3 : Int32) < 0 ∨ c104.slots.size ≤ ((3 : Int32)).toNatClampNeg) := inb_of S104 ⟨by decide, q2⟩
  have hat104 : c104.slots[((3 : Int32)).toNatClampNeg]? = some (.int b1) := H104.at hin104 q4
  refine own_by (g' := (mkF m 53 #[rv r1, iv (3 : Int32)] [(.int (b1 &&& (255 : Int32))), (.int ((b0 &&& (255 : Int32)) <<< ((0 : Int32) &&& 31)))])) (fun t k => X103.baloadBytes hx (j := (3 : Int32)) (v := (.int b1)) (own_at_ e103 Ar104.1) (State.isArrayOf_alike hZ.alike Ar104.2.1) Ar104.2.2 hin104 hat104 (g := (mkF m 48 #[rv r1, iv (3 : Int32)] [(.int (3 : Int32)), (.ref r1), (.int ((b0 &&& (255 : Int32)) <<< ((0 : Int32) &&& 31)))])) rfl rfl (hb hby own_d29_48) t (XS.sipush X103.here hx rfl (hb hby own_d29_49) (XS.iand X103.here hx rfl (hb hby own_d29_52) rfl k))) ?_
  obtain ⟨T105, X105, e105, st105⟩ := getS2 X103 hx hZ hown (host := "") (Or.inl (hw _ (List.mem_of_getElem? (i := 130) rfl))) Via.refl e103 (S_lo.ext O0.2) (g := (mkF m 53 #[rv r1, iv (3 : Int32)] [(.int (b1 &&& (255 : Int32))), (.int ((b0 &&& (255 : Int32)) <<< ((0 : Int32) &&& 31)))])) rfl (hb hby own_d29_53)
  refine own_by (g' := (mkF m 56 #[rv r1, iv (3 : Int32)] [(.int (8 : Int32)), (.int (b1 &&& (255 : Int32))), (.int ((b0 &&& (255 : Int32)) <<< ((0 : Int32) &&& 31)))])) st105 ?_
  refine own_by (g' := (mkF m 59 #[rv r1, iv (3 : Int32)] [(.int ((((b0 &&& (255 : Int32)) <<< ((0 : Int32) &&& 31)) ||| ((b1 &&& (255 : Int32)) <<< ((8 : Int32) &&& 31)))).toUInt32.toUInt16.toUInt32.toInt32)])) (fun t k => XS.ishl X105.here hx rfl (hb hby own_d29_56) rfl (XS.ior X105.here hx rfl (hb hby own_d29_57) rfl (XS.i2c X105.here hx rfl (hb hby own_d29_58) rfl k))) ?_
  refine own_retN X105 hx hlk hret (t := .char) (by simp) (hb hby own_d29_59) (by decide) (by decide) ?_
  exact ⟨(congrArg (fun z => some (Value.int z)) ((own_c16 _).trans q5)), N0, e105⟩
def Q_own_uchar1 (Z : State) (r1 : Addr) (k1 : ClassId) (ln : Int32) (vs : List Value) (b0 : Int32) (b1 : Int32) (xc : Int32) (vsf : Value) (h0 : Heap) (n0 : Nat) (v : Option Value) (h : Heap) (L : List Loc) : Prop := v = some (.int xc) ∧ Fr n0 L ∧ h = h0
theorem own_ef_own_uchar1 (m : MethodId) (r1 : Addr) : entryFrame m #[(.ref r1), (.int (1 : Int32))] 2 = mkF m 0 #[rv r1, iv (1 : Int32)] [] := by first | (simp [entryFrame, mkF, argsToLocals, Value.category]; done) | rfl
set_option maxRecDepth 65536 in
set_option maxHeartbeats 40000000 in
theorem own_uchar1 (l : Launch) (Z : State) (a0 : Array Value) (hw : ∀ d ∈ tables_1, d.before a0 Z = true) (ws : List Jvm.Cond) (r1 : Addr) (k1 : ClassId) (ln : Int32) (vs : List Value) (b0 : Int32) (b1 : Int32) (xc : Int32) (vsf : Value) (h0 : Heap) (n0 : Nat) (Z0 : n0 ≤ h0.size) (O0 : Old Z n0 h0) (S_ad : Sta Z Z.heap "java/lang/StringUTF16" "$assertionsDisabled" "Z" (.int (1 : Int32))) (S_hi : Sta Z Z.heap "java/lang/StringUTF16" "HI_BYTE_SHIFT" "I" (.int (0 : Int32))) (S_lo : Sta Z Z.heap "java/lang/StringUTF16" "LO_BYTE_SHIFT" "I" (.int (8 : Int32))) (S_sf : Sta Z Z.heap "jdk/internal/util/Preconditions" "SIOOBE_FORMATTER" "Ljava/util/function/BiFunction;" vsf) (r_sf : (vsf).isRef = true) (q0 : (1 : Int32) < (ln >>> ((1 : Int32) &&& 31))) (V1 : Arv Z h0 r1 k1 .byte ln vs (.int (0 : Int32))) (q1 : (2 : Int32) < ln) (q2 : (3 : Int32) < ln) (q3 : vs.getD 2 (.int (0 : Int32)) = .int b0) (q4 : vs.getD 3 (.int (0 : Int32)) = .int b1) (q5 : own_utfc b0 b1 = xc) :
    own_Ctr l Z (⟨"java/lang/StringUTF16", "charAt", "([BI)C"⟩ : MethodName) jdk_52_method_83_code 2 (some .char) ws ({ frames := 3, cells := 0, slots := 0, locals := 40 } : Room) (({ frames := 3, cells := 0, slots := 0, locals := 40 } : Room)).cells (({ frames := 3, cells := 0, slots := 0, locals := 40 } : Room)).slots #[(.ref r1), (.int (1 : Int32))] h0 (Q_own_uchar1 Z r1 k1 ln vs b0 b1 xc vsf h0 n0) := by
  refine own_enter (plainFor_of_name own_pn2) ?_
  intro p e s m below meth c s₁ X0 hx hZ hby hml hown hnm hlk hret e0
  have N0 := Fr.nil n0
  refine own_cast (own_ef_own_uchar1 m r1) ?_
  refine own_by (g' := (mkF m 2 #[rv r1, iv (1 : Int32)] [(.ref r1), (.int (1 : Int32))])) (fun t k => XS.iloadN X0.here hx rfl (hb hby own_d30_0) rfl (XS.aloadN X0.here hx rfl (hb hby own_d30_1) rfl rfl k)) ?_
  refine own_callS X0 hx hZ hown (hw _ (List.mem_of_getElem? (i := 137) rfl)) (hw _ (List.mem_of_getElem? (i := 138) rfl)) (hw _ (List.mem_of_getElem? (i := 80) rfl)) (hw _ (List.mem_of_getElem? (i := 139) rfl)) (by decide) (own_uchk l Z a0 hw [] (r1) (k1) (ln) (vs) ((1 : Int32)) (vsf) h0 n0 Z0 O0 S_sf r_sf V1 (by decide) q0) 0 (by decide) (by decide) (by decide) (by decide) e0 (g := (mkF m 2 #[rv r1, iv (1 : Int32)] [(.ref r1), (.int (1 : Int32))])) rfl (by rw [hml]; rfl) (argsL := [(.int (1 : Int32)), (.ref r1)]) (rest := []) (lenOf own_pd3 rfl) rfl (by show 2 * 0 + _ ≤ _; exact Nat.le_of_eq rfl) (hb hby own_d30_2) ?_
  intro v101 T101 L101 X101 q101
  obtain ⟨rfl, N101q, e101⟩ := q101
  have N101 := Fr.app N0 N101q
  show own_Goes p e below s _ _ _ T101 (mkF m 5 #[rv r1, iv (1 : Int32)] [])
  refine own_by (g' := (mkF m 7 #[rv r1, iv (1 : Int32)] [(.int (1 : Int32)), (.ref r1)])) (fun t k => XS.aloadN X101.here hx rfl (hb hby own_d30_5) rfl rfl (XS.iloadN X101.here hx rfl (hb hby own_d30_6) rfl k)) ?_
  refine own_callS X101 hx hZ hown (hw _ (List.mem_of_getElem? (i := 131) rfl)) (hw _ (List.mem_of_getElem? (i := 132) rfl)) (hw _ (List.mem_of_getElem? (i := 80) rfl)) (hw _ (List.mem_of_getElem? (i := 133) rfl)) (by decide) (own_getc1 l Z a0 hw [] (r1) (k1) (ln) (vs) (b0) (b1) (xc) h0 n0 Z0 O0 S_ad S_hi S_lo V1 (by first | assumption | decide) (by first | assumption | decide) (by first | assumption | decide) (by first | assumption | decide) (by first | assumption | decide)) 0 (by decide) (by decide) (by decide) (by decide) e101 (g := (mkF m 7 #[rv r1, iv (1 : Int32)] [(.int (1 : Int32)), (.ref r1)])) rfl (by rw [hml]; rfl) (argsL := [(.ref r1), (.int (1 : Int32))]) (rest := []) (lenOf own_pd4 rfl) rfl (by show 2 * 0 + _ ≤ _; exact Nat.le_of_eq rfl) (hb hby own_d30_7) ?_
  intro v102 T102 L102 X102 q102
  obtain ⟨rfl, N102q, e102⟩ := q102
  have N102 := Fr.app N101 N102q
  show own_Goes p e below s _ _ _ T102 (mkF m 10 #[rv r1, iv (1 : Int32)] [(.int xc)])
  refine own_retN X102 hx hlk hret (t := .char) (by simp) (hb hby own_d30_10) (by decide) (by decide) ?_
  exact ⟨(by rw [show nar .char xc = xc from by rw [← q5]; exact own_c16 _]), N102, e102⟩
def Q_own_lchar1 (Z : State) (r1 : Addr) (k1 : ClassId) (ln : Int32) (vs : List Value) (bc : Int32) (xc : Int32) (vsf : Value) (h0 : Heap) (n0 : Nat) (v : Option Value) (h : Heap) (L : List Loc) : Prop := v = some (.int xc) ∧ Fr n0 L ∧ h = h0
theorem own_ef_own_lchar1 (m : MethodId) (r1 : Addr) : entryFrame m #[(.ref r1), (.int (1 : Int32))] 2 = mkF m 0 #[rv r1, iv (1 : Int32)] [] := by first | (simp [entryFrame, mkF, argsToLocals, Value.category]; done) | rfl
set_option maxRecDepth 65536 in
set_option maxHeartbeats 40000000 in
theorem own_lchar1 (l : Launch) (Z : State) (a0 : Array Value) (hw : ∀ d ∈ tables_1, d.before a0 Z = true) (ws : List Jvm.Cond) (r1 : Addr) (k1 : ClassId) (ln : Int32) (vs : List Value) (bc : Int32) (xc : Int32) (vsf : Value) (h0 : Heap) (n0 : Nat) (Z0 : n0 ≤ h0.size) (O0 : Old Z n0 h0) (S_sf : Sta Z Z.heap "jdk/internal/util/Preconditions" "SIOOBE_FORMATTER" "Ljava/util/function/BiFunction;" vsf) (r_sf : (vsf).isRef = true) (V1 : Arv Z h0 r1 k1 .byte ln vs (.int (0 : Int32))) (q1 : (1 : Int32) < ln) (q3 : vs.getD 1 (.int (0 : Int32)) = .int bc) (q5 : own_latc bc = xc) :
    own_Ctr l Z (⟨"java/lang/StringLatin1", "charAt", "([BI)C"⟩ : MethodName) jdk_43_method_2_code 2 (some .char) ws ({ frames := 2, cells := 0, slots := 0, locals := 27 } : Room) (({ frames := 2, cells := 0, slots := 0, locals := 27 } : Room)).cells (({ frames := 2, cells := 0, slots := 0, locals := 27 } : Room)).slots #[(.ref r1), (.int (1 : Int32))] h0 (Q_own_lchar1 Z r1 k1 ln vs bc xc vsf h0 n0) := by
  refine own_enter (plainFor_of_name own_pn3) ?_
  intro p e s m below meth c s₁ X0 hx hZ hby hml hown hnm hlk hret e0
  have N0 := Fr.nil n0
  refine own_cast (own_ef_own_lchar1 m r1) ?_
  refine own_by (g' := (mkF m 2 #[rv r1, iv (1 : Int32)] [(.ref r1), (.int (1 : Int32))])) (fun t k => XS.iloadN X0.here hx rfl (hb hby own_d22_0) rfl (XS.aloadN X0.here hx rfl (hb hby own_d22_1) rfl rfl k)) ?_
  obtain ⟨c101, Ar101, -, S101, G101, -, -⟩ := id V1
  refine own_by (g' := (mkF m 3 #[rv r1, iv (1 : Int32)] [(.int ln), (.int (1 : Int32))])) (fun t k => X0.arraylength hx (own_at_ e0 Ar101.1) (State.isArrayOf_alike hZ.alike Ar101.2.1) (g := (mkF m 2 #[rv r1, iv (1 : Int32)] [(.ref r1), (.int (1 : Int32))])) rfl rfl (hb hby own_d22_2) t (by rw [len_of S101 G101]; exact k)) ?_
  refine own_callS X0 hx hZ hown (hw _ (List.mem_of_getElem? (i := 107) rfl)) (hw _ (List.mem_of_getElem? (i := 108) rfl)) (hw _ (List.mem_of_getElem? (i := 10) rfl)) (hw _ (List.mem_of_getElem? (i := 109) rfl)) (by decide) (own_schk l Z a0 hw [] ((1 : Int32)) (ln) (vsf) h0 n0 Z0 O0 S_sf r_sf (by decide) q1) 0 (by decide) (by decide) (by decide) (by decide) e0 (g := (mkF m 3 #[rv r1, iv (1 : Int32)] [(.int ln), (.int (1 : Int32))])) rfl (by rw [hml]; rfl) (argsL := [(.int (1 : Int32)), (.int ln)]) (rest := []) (lenOf own_pd2 rfl) rfl (by show 2 * 0 + _ ≤ _; exact Nat.le_of_eq rfl) (hb hby own_d22_3) ?_
  intro v102 T102 L102 X102 q102
  obtain ⟨rfl, N102q, e102⟩ := q102
  have N102 := Fr.app N0 N102q
  show own_Goes p e below s _ _ _ T102 (mkF m 6 #[rv r1, iv (1 : Int32)] [])
  refine own_by (g' := (mkF m 8 #[rv r1, iv (1 : Int32)] [(.int (1 : Int32)), (.ref r1)])) (fun t k => XS.aloadN X102.here hx rfl (hb hby own_d22_6) rfl rfl (XS.iloadN X102.here hx rfl (hb hby own_d22_7) rfl k)) ?_
  obtain ⟨c103, Ar103, q103, S103, G103, H103, F103⟩ := id V1
  have hin103 : ¬ ((1 : Int32) < 0 ∨ c103.slots.size ≤ ((1 : Int32)).toNatClampNeg) := inb_of S103 ⟨by decide, q1⟩
  have hat103 : c103.slots[((1 : Int32)).toNatClampNeg]? = some (.int bc) := H103.at hin103 q3
  refine own_by (g' := (mkF m 14 #[rv r1, iv (1 : Int32)] [(.int ((bc &&& (255 : Int32))).toUInt32.toUInt16.toUInt32.toInt32)])) (fun t k => X102.baloadBytes hx (j := (1 : Int32)) (v := (.int bc)) (own_at_ e102 Ar103.1) (State.isArrayOf_alike hZ.alike Ar103.2.1) Ar103.2.2 hin103 hat103 (g := (mkF m 8 #[rv r1, iv (1 : Int32)] [(.int (1 : Int32)), (.ref r1)])) rfl rfl (hb hby own_d22_8) t (XS.sipush X102.here hx rfl (hb hby own_d22_9) (XS.iand X102.here hx rfl (hb hby own_d22_12) rfl (XS.i2c X102.here hx rfl (hb hby own_d22_13) rfl k)))) ?_
  refine own_retN X102 hx hlk hret (t := .char) (by simp) (hb hby own_d22_14) (by decide) (by decide) ?_
  exact ⟨(congrArg (fun z => some (Value.int z)) ((own_c16 _).trans q5)), N102, e102⟩
theorem own_d21_0 : decode jdk_42_method_154_code 0 = .ok (.getstatic 38, 3) := by decide +kernel
theorem own_d21_3 : decode jdk_42_method_154_code 3 = .ok (.ifCond .eq 14, 3) := by decide +kernel
theorem own_d21_6 : decode jdk_42_method_154_code 6 = .ok (.aload_n 0, 1) := by decide +kernel
theorem own_d21_7 : decode jdk_42_method_154_code 7 = .ok (.getfield 15, 3) := by decide +kernel
theorem own_d21_10 : decode jdk_42_method_154_code 10 = .ok (.ifCond .ne 7, 3) := by decide +kernel
theorem own_d21_13 : decode jdk_42_method_154_code 13 = .ok (.iconst 1, 1) := by decide +kernel
theorem own_d21_14 : decode jdk_42_method_154_code 14 = .ok (.goto 4, 3) := by decide +kernel
theorem own_d21_18 : decode jdk_42_method_154_code 18 = .ok (.ireturn, 1) := by decide +kernel
def Q_own_isl0 (Z : State) (r1 : Addr) (zcs : Int32) (h0 : Heap) (n0 : Nat) (v : Option Value) (h : Heap) (L : List Loc) : Prop := v = some (.int (1 : Int32)) ∧ Fr n0 L ∧ h = h0
theorem own_ef_own_isl0 (m : MethodId) (r1 : Addr) : entryFrame m #[(.ref r1)] 1 = mkF m 0 #[rv r1] [] := by first | (simp [entryFrame, mkF, argsToLocals, Value.category]; done) | rfl
set_option maxRecDepth 65536 in
set_option maxHeartbeats 40000000 in
theorem own_isl0 (l : Launch) (Z : State) (a0 : Array Value) (hw : ∀ d ∈ tables_1, d.before a0 Z = true) (ws : List Jvm.Cond) (r1 : Addr) (zcs : Int32) (h0 : Heap) (n0 : Nat) (Z0 : n0 ≤ h0.size) (O0 : Old Z n0 h0) (S_cs : Sta Z Z.heap "java/lang/String" "COMPACT_STRINGS" "Z" (.int zcs)) (hcs : ¬ zcs = (0 : Int32)) (E1 : Exa Z h0 r1 "java/lang/String") (F2 : Fld Z h0 r1 "java/lang/String" "coder" "B" (.int (0 : Int32))) :
    own_Ctr l Z (⟨"java/lang/String", "isLatin1", "()Z"⟩ : MethodName) jdk_42_method_154_code 1 (some .boolean) ws ({ frames := 0, cells := 0, slots := 0, locals := 0 } : Room) (({ frames := 0, cells := 0, slots := 0, locals := 0 } : Room)).cells (({ frames := 0, cells := 0, slots := 0, locals := 0 } : Room)).slots #[(.ref r1)] h0 (Q_own_isl0 Z r1 zcs h0 n0) := by
  refine own_enter (plainFor_of_name own_pn1) ?_
  intro p e s m below meth c s₁ X0 hx hZ hby hml hown hnm hlk hret e0
  have N0 := Fr.nil n0
  refine own_cast (own_ef_own_isl0 m r1) ?_
  obtain ⟨T101, X101, e101, st101⟩ := getS2 X0 hx hZ hown (host := "") (Or.inl (hw _ (List.mem_of_getElem? (i := 61) rfl))) Via.refl e0 (S_cs.ext O0.2) (g := (mkF m 0 #[rv r1] [])) rfl (hb hby own_d21_0)
  refine own_by (g' := (mkF m 3 #[rv r1] [(.int zcs)])) st101 ?_
  refine own_by (g' := (mkF m 7 #[rv r1] [(.ref r1)])) (fun t k => XS.ifNo X101.here hx rfl (hb hby own_d21_3) rfl ((if0 _ _).trans (feq hcs).1) (XS.aloadN X101.here hx rfl (hb hby own_d21_6) rfl rfl k)) ?_
  obtain ⟨T102, X102, e102, st102⟩ := getF X101 hx hZ hown (host := "") (Or.inl (hw _ (List.mem_of_getElem? (i := 29) rfl))) Via.refl e101 F2 (g := (mkF m 7 #[rv r1] [(.ref r1)])) rfl rfl (hb hby own_d21_7)
  refine own_by (g' := (mkF m 10 #[rv r1] [(.int (0 : Int32))])) st102 ?_
  refine own_by (g' := (mkF m 18 #[rv r1] [(.int (1 : Int32))])) (fun t k => XS.ifNo X102.here hx rfl (hb hby own_d21_10) rfl ((if0 _ _).trans (teq (by decide : (0 : Int32) = (0 : Int32))).2) (XS.iconst X102.here hx rfl (hb hby own_d21_13) (XS.goto X102.here hx rfl (pc0 := 14) (pc' := 18) rfl (hb hby own_d21_14) (by decide) (by decide) k))) ?_
  refine own_retN X102 hx hlk hret (t := .boolean) (by simp) (hb hby own_d21_18) (by decide) (by decide) ?_
  exact ⟨(by decide), N0, e102⟩
theorem own_d10_0 : decode jdk_42_method_152_code 0 = .ok (.getstatic 38, 3) := by decide +kernel
theorem own_d10_3 : decode jdk_42_method_152_code 3 = .ok (.ifCond .eq 10, 3) := by decide +kernel
theorem own_d10_6 : decode jdk_42_method_152_code 6 = .ok (.aload_n 0, 1) := by decide +kernel
theorem own_d10_7 : decode jdk_42_method_152_code 7 = .ok (.getfield 15, 3) := by decide +kernel
theorem own_d10_10 : decode jdk_42_method_152_code 10 = .ok (.goto 4, 3) := by decide +kernel
theorem own_d10_14 : decode jdk_42_method_152_code 14 = .ok (.ireturn, 1) := by decide +kernel
def Q_own_cod0 (Z : State) (r1 : Addr) (zcs : Int32) (h0 : Heap) (n0 : Nat) (v : Option Value) (h : Heap) (L : List Loc) : Prop := v = some (.int (0 : Int32)) ∧ Fr n0 L ∧ h = h0
theorem own_ef_own_cod0 (m : MethodId) (r1 : Addr) : entryFrame m #[(.ref r1)] 1 = mkF m 0 #[rv r1] [] := by first | (simp [entryFrame, mkF, argsToLocals, Value.category]; done) | rfl
set_option maxRecDepth 65536 in
set_option maxHeartbeats 40000000 in
theorem own_cod0 (l : Launch) (Z : State) (a0 : Array Value) (hw : ∀ d ∈ tables_1, d.before a0 Z = true) (ws : List Jvm.Cond) (r1 : Addr) (zcs : Int32) (h0 : Heap) (n0 : Nat) (Z0 : n0 ≤ h0.size) (O0 : Old Z n0 h0) (S_cs : Sta Z Z.heap "java/lang/String" "COMPACT_STRINGS" "Z" (.int zcs)) (hcs : ¬ zcs = (0 : Int32)) (E1 : Exa Z h0 r1 "java/lang/String") (F2 : Fld Z h0 r1 "java/lang/String" "coder" "B" (.int (0 : Int32))) :
    own_Ctr l Z (⟨"java/lang/String", "coder", "()B"⟩ : MethodName) jdk_42_method_152_code 1 (some .byte) ws ({ frames := 0, cells := 0, slots := 0, locals := 0 } : Room) (({ frames := 0, cells := 0, slots := 0, locals := 0 } : Room)).cells (({ frames := 0, cells := 0, slots := 0, locals := 0 } : Room)).slots #[(.ref r1)] h0 (Q_own_cod0 Z r1 zcs h0 n0) := by
  refine own_enter (plainFor_of_name own_pn1) ?_
  intro p e s m below meth c s₁ X0 hx hZ hby hml hown hnm hlk hret e0
  have N0 := Fr.nil n0
  refine own_cast (own_ef_own_cod0 m r1) ?_
  obtain ⟨T101, X101, e101, st101⟩ := getS2 X0 hx hZ hown (host := "") (Or.inl (hw _ (List.mem_of_getElem? (i := 61) rfl))) Via.refl e0 (S_cs.ext O0.2) (g := (mkF m 0 #[rv r1] [])) rfl (hb hby own_d10_0)
  refine own_by (g' := (mkF m 3 #[rv r1] [(.int zcs)])) st101 ?_
  refine own_by (g' := (mkF m 7 #[rv r1] [(.ref r1)])) (fun t k => XS.ifNo X101.here hx rfl (hb hby own_d10_3) rfl ((if0 _ _).trans (feq hcs).1) (XS.aloadN X101.here hx rfl (hb hby own_d10_6) rfl rfl k)) ?_
  obtain ⟨T102, X102, e102, st102⟩ := getF X101 hx hZ hown (host := "") (Or.inl (hw _ (List.mem_of_getElem? (i := 29) rfl))) Via.refl e101 F2 (g := (mkF m 7 #[rv r1] [(.ref r1)])) rfl rfl (hb hby own_d10_7)
  refine own_by (g' := (mkF m 10 #[rv r1] [(.int (0 : Int32))])) st102 ?_
  refine own_by (g' := (mkF m 14 #[rv r1] [(.int (0 : Int32))])) (fun t k => XS.goto X102.here hx rfl (pc0 := 10) (pc' := 14) rfl (hb hby own_d10_10) (by decide) (by decide) k) ?_
  refine own_retN X102 hx hlk hret (t := .byte) (by simp) (hb hby own_d10_14) (by decide) (by decide) ?_
  exact ⟨(by decide), N0, e102⟩
theorem own_d21_17 : decode jdk_42_method_154_code 17 = .ok (.iconst 0, 1) := by decide +kernel
def Q_own_isl1 (Z : State) (r1 : Addr) (zcs : Int32) (h0 : Heap) (n0 : Nat) (v : Option Value) (h : Heap) (L : List Loc) : Prop := v = some (.int (0 : Int32)) ∧ Fr n0 L ∧ h = h0
theorem own_ef_own_isl1 (m : MethodId) (r1 : Addr) : entryFrame m #[(.ref r1)] 1 = mkF m 0 #[rv r1] [] := by first | (simp [entryFrame, mkF, argsToLocals, Value.category]; done) | rfl
set_option maxRecDepth 65536 in
set_option maxHeartbeats 40000000 in
theorem own_isl1 (l : Launch) (Z : State) (a0 : Array Value) (hw : ∀ d ∈ tables_1, d.before a0 Z = true) (ws : List Jvm.Cond) (r1 : Addr) (zcs : Int32) (h0 : Heap) (n0 : Nat) (Z0 : n0 ≤ h0.size) (O0 : Old Z n0 h0) (S_cs : Sta Z Z.heap "java/lang/String" "COMPACT_STRINGS" "Z" (.int zcs)) (hcs : ¬ zcs = (0 : Int32)) (E1 : Exa Z h0 r1 "java/lang/String") (F2 : Fld Z h0 r1 "java/lang/String" "coder" "B" (.int (1 : Int32))) :
    own_Ctr l Z (⟨"java/lang/String", "isLatin1", "()Z"⟩ : MethodName) jdk_42_method_154_code 1 (some .boolean) ws ({ frames := 0, cells := 0, slots := 0, locals := 0 } : Room) (({ frames := 0, cells := 0, slots := 0, locals := 0 } : Room)).cells (({ frames := 0, cells := 0, slots := 0, locals := 0 } : Room)).slots #[(.ref r1)] h0 (Q_own_isl1 Z r1 zcs h0 n0) := by
  refine own_enter (plainFor_of_name own_pn1) ?_
  intro p e s m below meth c s₁ X0 hx hZ hby hml hown hnm hlk hret e0
  have N0 := Fr.nil n0
  refine own_cast (own_ef_own_isl1 m r1) ?_
  obtain ⟨T101, X101, e101, st101⟩ := getS2 X0 hx hZ hown (host := "") (Or.inl (hw _ (List.mem_of_getElem? (i := 61) rfl))) Via.refl e0 (S_cs.ext O0.2) (g := (mkF m 0 #[rv r1] [])) rfl (hb hby own_d21_0)
  refine own_by (g' := (mkF m 3 #[rv r1] [(.int zcs)])) st101 ?_
  refine own_by (g' := (mkF m 7 #[rv r1] [(.ref r1)])) (fun t k => XS.ifNo X101.here hx rfl (hb hby own_d21_3) rfl ((if0 _ _).trans (feq hcs).1) (XS.aloadN X101.here hx rfl (hb hby own_d21_6) rfl rfl k)) ?_
  obtain ⟨T102, X102, e102, st102⟩ := getF X101 hx hZ hown (host := "") (Or.inl (hw _ (List.mem_of_getElem? (i := 29) rfl))) Via.refl e101 F2 (g := (mkF m 7 #[rv r1] [(.ref r1)])) rfl rfl (hb hby own_d21_7)
  refine own_by (g' := (mkF m 10 #[rv r1] [(.int (1 : Int32))])) st102 ?_
  refine own_by (g' := (mkF m 18 #[rv r1] [(.int (0 : Int32))])) (fun t k => XS.ifYes X102.here hx rfl (pc0 := 10) (pc' := 17) rfl (hb hby own_d21_10) rfl ((if0 _ _).trans (feq (by decide : ¬ ((1 : Int32) = (0 : Int32)))).2) (by decide) (by decide) (XS.iconst X102.here hx rfl (hb hby own_d21_17) k)) ?_
  refine own_retN X102 hx hlk hret (t := .boolean) (by simp) (hb hby own_d21_18) (by decide) (by decide) ?_
  exact ⟨(by decide), N0, e102⟩
def Q_own_cod1 (Z : State) (r1 : Addr) (zcs : Int32) (h0 : Heap) (n0 : Nat) (v : Option Value) (h : Heap) (L : List Loc) : Prop := v = some (.int (1 : Int32)) ∧ Fr n0 L ∧ h = h0
theorem own_ef_own_cod1 (m : MethodId) (r1 : Addr) : entryFrame m #[(.ref r1)] 1 = mkF m 0 #[rv r1] [] := by first | (simp [entryFrame, mkF, argsToLocals, Value.category]; done) | rfl
set_option maxRecDepth 65536 in
set_option maxHeartbeats 40000000 in
theorem own_cod1 (l : Launch) (Z : State) (a0 : Array Value) (hw : ∀ d ∈ tables_1, d.before a0 Z = true) (ws : List Jvm.Cond) (r1 : Addr) (zcs : Int32) (h0 : Heap) (n0 : Nat) (Z0 : n0 ≤ h0.size) (O0 : Old Z n0 h0) (S_cs : Sta Z Z.heap "java/lang/String" "COMPACT_STRINGS" "Z" (.int zcs)) (hcs : ¬ zcs = (0 : Int32)) (E1 : Exa Z h0 r1 "java/lang/String") (F2 : Fld Z h0 r1 "java/lang/String" "coder" "B" (.int (1 : Int32))) :
    own_Ctr l Z (⟨"java/lang/String", "coder", "()B"⟩ : MethodName) jdk_42_method_152_code 1 (some .byte) ws ({ frames := 0, cells := 0, slots := 0, locals := 0 } : Room) (({ frames := 0, cells := 0, slots := 0, locals := 0 } : Room)).cells (({ frames := 0, cells := 0, slots := 0, locals := 0 } : Room)).slots #[(.ref r1)] h0 (Q_own_cod1 Z r1 zcs h0 n0) := by
  refine own_enter (plainFor_of_name own_pn1) ?_
  intro p e s m below meth c s₁ X0 hx hZ hby hml hown hnm hlk hret e0
  have N0 := Fr.nil n0
  refine own_cast (own_ef_own_cod1 m r1) ?_
  obtain ⟨T101, X101, e101, st101⟩ := getS2 X0 hx hZ hown (host := "") (Or.inl (hw _ (List.mem_of_getElem? (i := 61) rfl))) Via.refl e0 (S_cs.ext O0.2) (g := (mkF m 0 #[rv r1] [])) rfl (hb hby own_d10_0)
  refine own_by (g' := (mkF m 3 #[rv r1] [(.int zcs)])) st101 ?_
  refine own_by (g' := (mkF m 7 #[rv r1] [(.ref r1)])) (fun t k => XS.ifNo X101.here hx rfl (hb hby own_d10_3) rfl ((if0 _ _).trans (feq hcs).1) (XS.aloadN X101.here hx rfl (hb hby own_d10_6) rfl rfl k)) ?_
  obtain ⟨T102, X102, e102, st102⟩ := getF X101 hx hZ hown (host := "") (Or.inl (hw _ (List.mem_of_getElem? (i := 29) rfl))) Via.refl e101 F2 (g := (mkF m 7 #[rv r1] [(.ref r1)])) rfl rfl (hb hby own_d10_7)
  refine own_by (g' := (mkF m 10 #[rv r1] [(.int (1 : Int32))])) st102 ?_
  refine own_by (g' := (mkF m 14 #[rv r1] [(.int (1 : Int32))])) (fun t k => XS.goto X102.here hx rfl (pc0 := 10) (pc' := 14) rfl (hb hby own_d10_10) (by decide) (by decide) k) ?_
  refine own_retN X102 hx hlk hret (t := .byte) (by simp) (hb hby own_d10_14) (by decide) (by decide) ?_
  exact ⟨(by decide), N0, e102⟩
theorem own_d9_0 : decode jdk_42_method_54_code 0 = .ok (.aload_n 0, 1) := by decide +kernel
theorem own_d9_1 : decode jdk_42_method_54_code 1 = .ok (.getfield 9, 3) := by decide +kernel
theorem own_d9_4 : decode jdk_42_method_54_code 4 = .ok (.arraylength, 1) := by decide +kernel
theorem own_d9_5 : decode jdk_42_method_54_code 5 = .ok (.aload_n 0, 1) := by decide +kernel
theorem own_d9_6 : decode jdk_42_method_54_code 6 = .ok (.invokevirtual 335, 3) := by decide +kernel
theorem own_pd5 : parseMethodDescriptor "()B" = some ⟨[], some .byte⟩ := by decide +kernel
theorem own_d9_9 : decode jdk_42_method_54_code 9 = .ok (.ishr, 1) := by decide +kernel
theorem own_d9_10 : decode jdk_42_method_54_code 10 = .ok (.ireturn, 1) := by decide +kernel
def Q_own_slen0 (Z : State) (r1 : Addr) (ba : Addr) (kb : ClassId) (cd : Int32) (ln : Int32) (vs : List Value) (zcs : Int32) (h0 : Heap) (n0 : Nat) (v : Option Value) (h : Heap) (L : List Loc) : Prop := v = some (.int (0 : Int32)) ∧ Fr n0 L ∧ h = h0
theorem own_ef_own_slen0 (m : MethodId) (r1 : Addr) : entryFrame m #[(.ref r1)] 1 = mkF m 0 #[rv r1] [] := by first | (simp [entryFrame, mkF, argsToLocals, Value.category]; done) | rfl
set_option maxRecDepth 65536 in
set_option maxHeartbeats 40000000 in
theorem own_slen0 (l : Launch) (Z : State) (a0 : Array Value) (hw : ∀ d ∈ tables_1, d.before a0 Z = true) (ws : List Jvm.Cond) (r1 : Addr) (ba : Addr) (kb : ClassId) (cd : Int32) (ln : Int32) (vs : List Value) (zcs : Int32) (h0 : Heap) (n0 : Nat) (Z0 : n0 ≤ h0.size) (O0 : Old Z n0 h0) (S_cs : Sta Z Z.heap "java/lang/String" "COMPACT_STRINGS" "Z" (.int zcs)) (hcs : ¬ zcs = (0 : Int32)) (E1 : Exa Z h0 r1 "java/lang/String") (F1 : Fld Z h0 r1 "java/lang/String" "value" "[B" (.ref ba)) (F2 : Fld Z h0 r1 "java/lang/String" "coder" "B" (.int cd)) (V1 : Arv Z h0 ba kb .byte ln vs (.int (0 : Int32))) (hl : own_len (0 : Int32) (0 : Int32) cd ln) :
    own_Ctr l Z (⟨"java/lang/String", "length", "()I"⟩ : MethodName) jdk_42_method_54_code 1 (some .int) ws ({ frames := 1, cells := 0, slots := 0, locals := 13 } : Room) (({ frames := 1, cells := 0, slots := 0, locals := 13 } : Room)).cells (({ frames := 1, cells := 0, slots := 0, locals := 13 } : Room)).slots #[(.ref r1)] h0 (Q_own_slen0 Z r1 ba kb cd ln vs zcs h0 n0) := by
  refine own_enter (plainFor_of_name own_pn1) ?_
  intro p e s m below meth c s₁ X0 hx hZ hby hml hown hnm hlk hret e0
  have N0 := Fr.nil n0
  refine own_cast (own_ef_own_slen0 m r1) ?_
  rcases hl with ⟨rfl, rfl⟩ | ⟨rfl, rfl⟩
  ·
    refine own_by (g' := (mkF m 1 #[rv r1] [(.ref r1)])) (fun t k => XS.aloadN X0.here hx rfl (hb hby own_d9_0) rfl rfl k) ?_
    obtain ⟨T101, X101, e101, st101⟩ := getF X0 hx hZ hown (host := "") (Or.inl (hw _ (List.mem_of_getElem? (i := 28) rfl))) Via.refl e0 F1 (g := (mkF m 1 #[rv r1] [(.ref r1)])) rfl rfl (hb hby own_d9_1)
    refine own_by (g' := (mkF m 4 #[rv r1] [(.ref ba)])) st101 ?_
    obtain ⟨c102, Ar102, -, S102, G102, -, -⟩ := id V1
    refine own_by (g' := (mkF m 5 #[rv r1] [(.int (0 : Int32))])) (fun t k => X101.arraylength hx (own_at_ e101 Ar102.1) (State.isArrayOf_alike hZ.alike Ar102.2.1) (g := (mkF m 4 #[rv r1] [(.ref ba)])) rfl rfl (hb hby own_d9_4) t (by rw [len_of S102 G102]; exact k)) ?_
    refine own_by (g' := (mkF m 6 #[rv r1] [(.ref r1), (.int (0 : Int32))])) (fun t k => XS.aloadN X101.here hx rfl (hb hby own_d9_5) rfl rfl k) ?_
    refine own_callV X101 hx hZ hown (hw _ (List.mem_of_getElem? (i := 56) rfl)) (hw _ (List.mem_of_getElem? (i := 57) rfl)) (notFace_of_selects (args := #[]) (mvT hZ (hw _ (List.mem_of_getElem? (i := 59) rfl)))) (hw _ (List.mem_of_getElem? (i := 59) rfl)) (hw _ (List.mem_of_getElem? (i := 58) rfl)) (hw _ (List.mem_of_getElem? (i := 60) rfl)) (hw _ (List.mem_of_getElem? (i := 10) rfl)) (by decide) (a := r1) E1 (own_cod0 l Z a0 hw [] (r1) (zcs) h0 n0 Z0 O0 S_cs (by first | assumption | decide) E1 F2) 1 (by decide) (by decide) (by decide) (by decide) e101 (g := (mkF m 6 #[rv r1] [(.ref r1), (.int (0 : Int32))])) rfl (by rw [hml]; rfl) (argsL := []) (rest := [(.int (0 : Int32))]) (lenOf own_pd5 rfl) rfl (by show 2 * 0 + _ ≤ _; exact Nat.le_of_eq rfl) (hb hby own_d9_6) ?_
    intro v103 T103 L103 X103 q103
    obtain ⟨rfl, N103q, e103⟩ := q103
    have N103 := Fr.app N0 N103q
    show own_Goes p e below s _ _ _ T103 (mkF m 9 #[rv r1] [(.int (0 : Int32)), (.int (0 : Int32))])
    refine own_by (g' := (mkF m 10 #[rv r1] [(.int ((0 : Int32) >>> ((0 : Int32) &&& 31)))])) (fun t k => XS.ishr X103.here hx rfl (hb hby own_d9_9) rfl k) ?_
    refine own_retI X103 hx hlk hret (hb hby own_d9_10) (by decide) (by decide) ?_
    exact ⟨(by decide), N103, e103⟩
  ·
    refine own_by (g' := (mkF m 1 #[rv r1] [(.ref r1)])) (fun t k => XS.aloadN X0.here hx rfl (hb hby own_d9_0) rfl rfl k) ?_
    obtain ⟨T104, X104, e104, st104⟩ := getF X0 hx hZ hown (host := "") (Or.inl (hw _ (List.mem_of_getElem? (i := 28) rfl))) Via.refl e0 F1 (g := (mkF m 1 #[rv r1] [(.ref r1)])) rfl rfl (hb hby own_d9_1)
    refine own_by (g' := (mkF m 4 #[rv r1] [(.ref ba)])) st104 ?_
    obtain ⟨c105, Ar105, -, S105, G105, -, -⟩ := id V1
    refine own_by (g' := (mkF m 5 #[rv r1] [(.int (0 : Int32))])) (fun t k => X104.arraylength hx (own_at_ e104 Ar105.1) (State.isArrayOf_alike hZ.alike Ar105.2.1) (g := (mkF m 4 #[rv r1] [(.ref ba)])) rfl rfl (hb hby own_d9_4) t (by rw [len_of S105 G105]; exact k)) ?_
    refine own_by (g' := (mkF m 6 #[rv r1] [(.ref r1), (.int (0 : Int32))])) (fun t k => XS.aloadN X104.here hx rfl (hb hby own_d9_5) rfl rfl k) ?_
    refine own_callV X104 hx hZ hown (hw _ (List.mem_of_getElem? (i := 56) rfl)) (hw _ (List.mem_of_getElem? (i := 57) rfl)) (notFace_of_selects (args := #[]) (mvT hZ (hw _ (List.mem_of_getElem? (i := 59) rfl)))) (hw _ (List.mem_of_getElem? (i := 59) rfl)) (hw _ (List.mem_of_getElem? (i := 58) rfl)) (hw _ (List.mem_of_getElem? (i := 60) rfl)) (hw _ (List.mem_of_getElem? (i := 10) rfl)) (by decide) (a := r1) E1 (own_cod1 l Z a0 hw [] (r1) (zcs) h0 n0 Z0 O0 S_cs (by first | assumption | decide) E1 F2) 1 (by decide) (by decide) (by decide) (by decide) e104 (g := (mkF m 6 #[rv r1] [(.ref r1), (.int (0 : Int32))])) rfl (by rw [hml]; rfl) (argsL := []) (rest := [(.int (0 : Int32))]) (lenOf own_pd5 rfl) rfl (by show 2 * 0 + _ ≤ _; exact Nat.le_of_eq rfl) (hb hby own_d9_6) ?_
    intro v106 T106 L106 X106 q106
    obtain ⟨rfl, N106q, e106⟩ := q106
    have N106 := Fr.app N0 N106q
    show own_Goes p e below s _ _ _ T106 (mkF m 9 #[rv r1] [(.int (1 : Int32)), (.int (0 : Int32))])
    refine own_by (g' := (mkF m 10 #[rv r1] [(.int ((0 : Int32) >>> ((1 : Int32) &&& 31)))])) (fun t k => XS.ishr X106.here hx rfl (hb hby own_d9_9) rfl k) ?_
    refine own_retI X106 hx hlk hret (hb hby own_d9_10) (by decide) (by decide) ?_
    exact ⟨(by decide), N106, e106⟩
def Q_own_slen1 (Z : State) (r1 : Addr) (ba : Addr) (kb : ClassId) (cd : Int32) (ln : Int32) (vs : List Value) (zcs : Int32) (h0 : Heap) (n0 : Nat) (v : Option Value) (h : Heap) (L : List Loc) : Prop := v = some (.int (1 : Int32)) ∧ Fr n0 L ∧ h = h0
theorem own_ef_own_slen1 (m : MethodId) (r1 : Addr) : entryFrame m #[(.ref r1)] 1 = mkF m 0 #[rv r1] [] := by first | (simp [entryFrame, mkF, argsToLocals, Value.category]; done) | rfl
set_option maxRecDepth 65536 in
set_option maxHeartbeats 40000000 in
theorem own_slen1 (l : Launch) (Z : State) (a0 : Array Value) (hw : ∀ d ∈ tables_1, d.before a0 Z = true) (ws : List Jvm.Cond) (r1 : Addr) (ba : Addr) (kb : ClassId) (cd : Int32) (ln : Int32) (vs : List Value) (zcs : Int32) (h0 : Heap) (n0 : Nat) (Z0 : n0 ≤ h0.size) (O0 : Old Z n0 h0) (S_cs : Sta Z Z.heap "java/lang/String" "COMPACT_STRINGS" "Z" (.int zcs)) (hcs : ¬ zcs = (0 : Int32)) (E1 : Exa Z h0 r1 "java/lang/String") (F1 : Fld Z h0 r1 "java/lang/String" "value" "[B" (.ref ba)) (F2 : Fld Z h0 r1 "java/lang/String" "coder" "B" (.int cd)) (V1 : Arv Z h0 ba kb .byte ln vs (.int (0 : Int32))) (hl : own_len (1 : Int32) (2 : Int32) cd ln) :
    own_Ctr l Z (⟨"java/lang/String", "length", "()I"⟩ : MethodName) jdk_42_method_54_code 1 (some .int) ws ({ frames := 1, cells := 0, slots := 0, locals := 13 } : Room) (({ frames := 1, cells := 0, slots := 0, locals := 13 } : Room)).cells (({ frames := 1, cells := 0, slots := 0, locals := 13 } : Room)).slots #[(.ref r1)] h0 (Q_own_slen1 Z r1 ba kb cd ln vs zcs h0 n0) := by
  refine own_enter (plainFor_of_name own_pn1) ?_
  intro p e s m below meth c s₁ X0 hx hZ hby hml hown hnm hlk hret e0
  have N0 := Fr.nil n0
  refine own_cast (own_ef_own_slen1 m r1) ?_
  rcases hl with ⟨rfl, rfl⟩ | ⟨rfl, rfl⟩
  ·
    refine own_by (g' := (mkF m 1 #[rv r1] [(.ref r1)])) (fun t k => XS.aloadN X0.here hx rfl (hb hby own_d9_0) rfl rfl k) ?_
    obtain ⟨T101, X101, e101, st101⟩ := getF X0 hx hZ hown (host := "") (Or.inl (hw _ (List.mem_of_getElem? (i := 28) rfl))) Via.refl e0 F1 (g := (mkF m 1 #[rv r1] [(.ref r1)])) rfl rfl (hb hby own_d9_1)
    refine own_by (g' := (mkF m 4 #[rv r1] [(.ref ba)])) st101 ?_
    obtain ⟨c102, Ar102, -, S102, G102, -, -⟩ := id V1
    refine own_by (g' := (mkF m 5 #[rv r1] [(.int (1 : Int32))])) (fun t k => X101.arraylength hx (own_at_ e101 Ar102.1) (State.isArrayOf_alike hZ.alike Ar102.2.1) (g := (mkF m 4 #[rv r1] [(.ref ba)])) rfl rfl (hb hby own_d9_4) t (by rw [len_of S102 G102]; exact k)) ?_
    refine own_by (g' := (mkF m 6 #[rv r1] [(.ref r1), (.int (1 : Int32))])) (fun t k => XS.aloadN X101.here hx rfl (hb hby own_d9_5) rfl rfl k) ?_
    refine own_callV X101 hx hZ hown (hw _ (List.mem_of_getElem? (i := 56) rfl)) (hw _ (List.mem_of_getElem? (i := 57) rfl)) (notFace_of_selects (args := #[]) (mvT hZ (hw _ (List.mem_of_getElem? (i := 59) rfl)))) (hw _ (List.mem_of_getElem? (i := 59) rfl)) (hw _ (List.mem_of_getElem? (i := 58) rfl)) (hw _ (List.mem_of_getElem? (i := 60) rfl)) (hw _ (List.mem_of_getElem? (i := 10) rfl)) (by decide) (a := r1) E1 (own_cod0 l Z a0 hw [] (r1) (zcs) h0 n0 Z0 O0 S_cs (by first | assumption | decide) E1 F2) 1 (by decide) (by decide) (by decide) (by decide) e101 (g := (mkF m 6 #[rv r1] [(.ref r1), (.int (1 : Int32))])) rfl (by rw [hml]; rfl) (argsL := []) (rest := [(.int (1 : Int32))]) (lenOf own_pd5 rfl) rfl (by show 2 * 0 + _ ≤ _; exact Nat.le_of_eq rfl) (hb hby own_d9_6) ?_
    intro v103 T103 L103 X103 q103
    obtain ⟨rfl, N103q, e103⟩ := q103
    have N103 := Fr.app N0 N103q
    show own_Goes p e below s _ _ _ T103 (mkF m 9 #[rv r1] [(.int (0 : Int32)), (.int (1 : Int32))])
    refine own_by (g' := (mkF m 10 #[rv r1] [(.int ((1 : Int32) >>> ((0 : Int32) &&& 31)))])) (fun t k => XS.ishr X103.here hx rfl (hb hby own_d9_9) rfl k) ?_
    refine own_retI X103 hx hlk hret (hb hby own_d9_10) (by decide) (by decide) ?_
    exact ⟨(by decide), N103, e103⟩
  ·
    refine own_by (g' := (mkF m 1 #[rv r1] [(.ref r1)])) (fun t k => XS.aloadN X0.here hx rfl (hb hby own_d9_0) rfl rfl k) ?_
    obtain ⟨T104, X104, e104, st104⟩ := getF X0 hx hZ hown (host := "") (Or.inl (hw _ (List.mem_of_getElem? (i := 28) rfl))) Via.refl e0 F1 (g := (mkF m 1 #[rv r1] [(.ref r1)])) rfl rfl (hb hby own_d9_1)
    refine own_by (g' := (mkF m 4 #[rv r1] [(.ref ba)])) st104 ?_
    obtain ⟨c105, Ar105, -, S105, G105, -, -⟩ := id V1
    refine own_by (g' := (mkF m 5 #[rv r1] [(.int (2 : Int32))])) (fun t k => X104.arraylength hx (own_at_ e104 Ar105.1) (State.isArrayOf_alike hZ.alike Ar105.2.1) (g := (mkF m 4 #[rv r1] [(.ref ba)])) rfl rfl (hb hby own_d9_4) t (by rw [len_of S105 G105]; exact k)) ?_
    refine own_by (g' := (mkF m 6 #[rv r1] [(.ref r1), (.int (2 : Int32))])) (fun t k => XS.aloadN X104.here hx rfl (hb hby own_d9_5) rfl rfl k) ?_
    refine own_callV X104 hx hZ hown (hw _ (List.mem_of_getElem? (i := 56) rfl)) (hw _ (List.mem_of_getElem? (i := 57) rfl)) (notFace_of_selects (args := #[]) (mvT hZ (hw _ (List.mem_of_getElem? (i := 59) rfl)))) (hw _ (List.mem_of_getElem? (i := 59) rfl)) (hw _ (List.mem_of_getElem? (i := 58) rfl)) (hw _ (List.mem_of_getElem? (i := 60) rfl)) (hw _ (List.mem_of_getElem? (i := 10) rfl)) (by decide) (a := r1) E1 (own_cod1 l Z a0 hw [] (r1) (zcs) h0 n0 Z0 O0 S_cs (by first | assumption | decide) E1 F2) 1 (by decide) (by decide) (by decide) (by decide) e104 (g := (mkF m 6 #[rv r1] [(.ref r1), (.int (2 : Int32))])) rfl (by rw [hml]; rfl) (argsL := []) (rest := [(.int (2 : Int32))]) (lenOf own_pd5 rfl) rfl (by show 2 * 0 + _ ≤ _; exact Nat.le_of_eq rfl) (hb hby own_d9_6) ?_
    intro v106 T106 L106 X106 q106
    obtain ⟨rfl, N106q, e106⟩ := q106
    have N106 := Fr.app N0 N106q
    show own_Goes p e below s _ _ _ T106 (mkF m 9 #[rv r1] [(.int (1 : Int32)), (.int (2 : Int32))])
    refine own_by (g' := (mkF m 10 #[rv r1] [(.int ((2 : Int32) >>> ((1 : Int32) &&& 31)))])) (fun t k => XS.ishr X106.here hx rfl (hb hby own_d9_9) rfl k) ?_
    refine own_retI X106 hx hlk hret (hb hby own_d9_10) (by decide) (by decide) ?_
    exact ⟨(by decide), N106, e106⟩
def Q_own_slen2 (Z : State) (r1 : Addr) (ba : Addr) (kb : ClassId) (cd : Int32) (ln : Int32) (vs : List Value) (zcs : Int32) (h0 : Heap) (n0 : Nat) (v : Option Value) (h : Heap) (L : List Loc) : Prop := v = some (.int (2 : Int32)) ∧ Fr n0 L ∧ h = h0
theorem own_ef_own_slen2 (m : MethodId) (r1 : Addr) : entryFrame m #[(.ref r1)] 1 = mkF m 0 #[rv r1] [] := by first | (simp [entryFrame, mkF, argsToLocals, Value.category]; done) | rfl
set_option maxRecDepth 65536 in
set_option maxHeartbeats 40000000 in
theorem own_slen2 (l : Launch) (Z : State) (a0 : Array Value) (hw : ∀ d ∈ tables_1, d.before a0 Z = true) (ws : List Jvm.Cond) (r1 : Addr) (ba : Addr) (kb : ClassId) (cd : Int32) (ln : Int32) (vs : List Value) (zcs : Int32) (h0 : Heap) (n0 : Nat) (Z0 : n0 ≤ h0.size) (O0 : Old Z n0 h0) (S_cs : Sta Z Z.heap "java/lang/String" "COMPACT_STRINGS" "Z" (.int zcs)) (hcs : ¬ zcs = (0 : Int32)) (E1 : Exa Z h0 r1 "java/lang/String") (F1 : Fld Z h0 r1 "java/lang/String" "value" "[B" (.ref ba)) (F2 : Fld Z h0 r1 "java/lang/String" "coder" "B" (.int cd)) (V1 : Arv Z h0 ba kb .byte ln vs (.int (0 : Int32))) (hl : own_len (2 : Int32) (4 : Int32) cd ln) :
    own_Ctr l Z (⟨"java/lang/String", "length", "()I"⟩ : MethodName) jdk_42_method_54_code 1 (some .int) ws ({ frames := 1, cells := 0, slots := 0, locals := 13 } : Room) (({ frames := 1, cells := 0, slots := 0, locals := 13 } : Room)).cells (({ frames := 1, cells := 0, slots := 0, locals := 13 } : Room)).slots #[(.ref r1)] h0 (Q_own_slen2 Z r1 ba kb cd ln vs zcs h0 n0) := by
  refine own_enter (plainFor_of_name own_pn1) ?_
  intro p e s m below meth c s₁ X0 hx hZ hby hml hown hnm hlk hret e0
  have N0 := Fr.nil n0
  refine own_cast (own_ef_own_slen2 m r1) ?_
  rcases hl with ⟨rfl, rfl⟩ | ⟨rfl, rfl⟩
  ·
    refine own_by (g' := (mkF m 1 #[rv r1] [(.ref r1)])) (fun t k => XS.aloadN X0.here hx rfl (hb hby own_d9_0) rfl rfl k) ?_
    obtain ⟨T101, X101, e101, st101⟩ := getF X0 hx hZ hown (host := "") (Or.inl (hw _ (List.mem_of_getElem? (i := 28) rfl))) Via.refl e0 F1 (g := (mkF m 1 #[rv r1] [(.ref r1)])) rfl rfl (hb hby own_d9_1)
    refine own_by (g' := (mkF m 4 #[rv r1] [(.ref ba)])) st101 ?_
    obtain ⟨c102, Ar102, -, S102, G102, -, -⟩ := id V1
    refine own_by (g' := (mkF m 5 #[rv r1] [(.int (2 : Int32))])) (fun t k => X101.arraylength hx (own_at_ e101 Ar102.1) (State.isArrayOf_alike hZ.alike Ar102.2.1) (g := (mkF m 4 #[rv r1] [(.ref ba)])) rfl rfl (hb hby own_d9_4) t (by rw [len_of S102 G102]; exact k)) ?_
    refine own_by (g' := (mkF m 6 #[rv r1] [(.ref r1), (.int (2 : Int32))])) (fun t k => XS.aloadN X101.here hx rfl (hb hby own_d9_5) rfl rfl k) ?_
    refine own_callV X101 hx hZ hown (hw _ (List.mem_of_getElem? (i := 56) rfl)) (hw _ (List.mem_of_getElem? (i := 57) rfl)) (notFace_of_selects (args := #[]) (mvT hZ (hw _ (List.mem_of_getElem? (i := 59) rfl)))) (hw _ (List.mem_of_getElem? (i := 59) rfl)) (hw _ (List.mem_of_getElem? (i := 58) rfl)) (hw _ (List.mem_of_getElem? (i := 60) rfl)) (hw _ (List.mem_of_getElem? (i := 10) rfl)) (by decide) (a := r1) E1 (own_cod0 l Z a0 hw [] (r1) (zcs) h0 n0 Z0 O0 S_cs (by first | assumption | decide) E1 F2) 1 (by decide) (by decide) (by decide) (by decide) e101 (g := (mkF m 6 #[rv r1] [(.ref r1), (.int (2 : Int32))])) rfl (by rw [hml]; rfl) (argsL := []) (rest := [(.int (2 : Int32))]) (lenOf own_pd5 rfl) rfl (by show 2 * 0 + _ ≤ _; exact Nat.le_of_eq rfl) (hb hby own_d9_6) ?_
    intro v103 T103 L103 X103 q103
    obtain ⟨rfl, N103q, e103⟩ := q103
    have N103 := Fr.app N0 N103q
    show own_Goes p e below s _ _ _ T103 (mkF m 9 #[rv r1] [(.int (0 : Int32)), (.int (2 : Int32))])
    refine own_by (g' := (mkF m 10 #[rv r1] [(.int ((2 : Int32) >>> ((0 : Int32) &&& 31)))])) (fun t k => XS.ishr X103.here hx rfl (hb hby own_d9_9) rfl k) ?_
    refine own_retI X103 hx hlk hret (hb hby own_d9_10) (by decide) (by decide) ?_
    exact ⟨(by decide), N103, e103⟩
  ·
    refine own_by (g' := (mkF m 1 #[rv r1] [(.ref r1)])) (fun t k => XS.aloadN X0.here hx rfl (hb hby own_d9_0) rfl rfl k) ?_
    obtain ⟨T104, X104, e104, st104⟩ := getF X0 hx hZ hown (host := "") (Or.inl (hw _ (List.mem_of_getElem? (i := 28) rfl))) Via.refl e0 F1 (g := (mkF m 1 #[rv r1] [(.ref r1)])) rfl rfl (hb hby own_d9_1)
    refine own_by (g' := (mkF m 4 #[rv r1] [(.ref ba)])) st104 ?_
    obtain ⟨c105, Ar105, -, S105, G105, -, -⟩ := id V1
    refine own_by (g' := (mkF m 5 #[rv r1] [(.int (4 : Int32))])) (fun t k => X104.arraylength hx (own_at_ e104 Ar105.1) (State.isArrayOf_alike hZ.alike Ar105.2.1) (g := (mkF m 4 #[rv r1] [(.ref ba)])) rfl rfl (hb hby own_d9_4) t (by rw [len_of S105 G105]; exact k)) ?_
    refine own_by (g' := (mkF m 6 #[rv r1] [(.ref r1), (.int (4 : Int32))])) (fun t k => XS.aloadN X104.here hx rfl (hb hby own_d9_5) rfl rfl k) ?_
    refine own_callV X104 hx hZ hown (hw _ (List.mem_of_getElem? (i := 56) rfl)) (hw _ (List.mem_of_getElem? (i := 57) rfl)) (notFace_of_selects (args := #[]) (mvT hZ (hw _ (List.mem_of_getElem? (i := 59) rfl)))) (hw _ (List.mem_of_getElem? (i := 59) rfl)) (hw _ (List.mem_of_getElem? (i := 58) rfl)) (hw _ (List.mem_of_getElem? (i := 60) rfl)) (hw _ (List.mem_of_getElem? (i := 10) rfl)) (by decide) (a := r1) E1 (own_cod1 l Z a0 hw [] (r1) (zcs) h0 n0 Z0 O0 S_cs (by first | assumption | decide) E1 F2) 1 (by decide) (by decide) (by decide) (by decide) e104 (g := (mkF m 6 #[rv r1] [(.ref r1), (.int (4 : Int32))])) rfl (by rw [hml]; rfl) (argsL := []) (rest := [(.int (4 : Int32))]) (lenOf own_pd5 rfl) rfl (by show 2 * 0 + _ ≤ _; exact Nat.le_of_eq rfl) (hb hby own_d9_6) ?_
    intro v106 T106 L106 X106 q106
    obtain ⟨rfl, N106q, e106⟩ := q106
    have N106 := Fr.app N0 N106q
    show own_Goes p e below s _ _ _ T106 (mkF m 9 #[rv r1] [(.int (1 : Int32)), (.int (4 : Int32))])
    refine own_by (g' := (mkF m 10 #[rv r1] [(.int ((4 : Int32) >>> ((1 : Int32) &&& 31)))])) (fun t k => XS.ishr X106.here hx rfl (hb hby own_d9_9) rfl k) ?_
    refine own_retI X106 hx hlk hret (hb hby own_d9_10) (by decide) (by decide) ?_
    exact ⟨(by decide), N106, e106⟩
theorem own_d20_0 : decode jdk_42_method_56_code 0 = .ok (.aload_n 0, 1) := by decide +kernel
theorem own_d20_1 : decode jdk_42_method_56_code 1 = .ok (.invokevirtual 492, 3) := by decide +kernel
theorem own_pd6 : parseMethodDescriptor "()Z" = some ⟨[], some .boolean⟩ := by decide +kernel
theorem own_d20_4 : decode jdk_42_method_56_code 4 = .ok (.ifCond .eq 12, 3) := by decide +kernel
theorem own_d20_7 : decode jdk_42_method_56_code 7 = .ok (.aload_n 0, 1) := by decide +kernel
theorem own_d20_8 : decode jdk_42_method_56_code 8 = .ok (.getfield 9, 3) := by decide +kernel
theorem own_d20_11 : decode jdk_42_method_56_code 11 = .ok (.iload_n 1, 1) := by decide +kernel
theorem own_d20_12 : decode jdk_42_method_56_code 12 = .ok (.invokestatic 495, 3) := by decide +kernel
theorem own_d20_15 : decode jdk_42_method_56_code 15 = .ok (.ireturn, 1) := by decide +kernel
theorem own_d20_16 : decode jdk_42_method_56_code 16 = .ok (.aload_n 0, 1) := by decide +kernel
theorem own_d20_17 : decode jdk_42_method_56_code 17 = .ok (.getfield 9, 3) := by decide +kernel
theorem own_d20_20 : decode jdk_42_method_56_code 20 = .ok (.iload_n 1, 1) := by decide +kernel
theorem own_d20_21 : decode jdk_42_method_56_code 21 = .ok (.invokestatic 498, 3) := by decide +kernel
theorem own_d20_24 : decode jdk_42_method_56_code 24 = .ok (.ireturn, 1) := by decide +kernel
def Q_own_schar0 (Z : State) (r1 : Addr) (ba : Addr) (kb : ClassId) (cd : Int32) (ln : Int32) (vs : List Value) (xc : Int32) (zcs : Int32) (vsf : Value) (h0 : Heap) (n0 : Nat) (v : Option Value) (h : Heap) (L : List Loc) : Prop := v = some (.int xc) ∧ Fr n0 L ∧ h = h0
theorem own_ef_own_schar0 (m : MethodId) (r1 : Addr) : entryFrame m #[(.ref r1), (.int (0 : Int32))] 2 = mkF m 0 #[rv r1, iv (0 : Int32)] [] := by first | (simp [entryFrame, mkF, argsToLocals, Value.category]; done) | rfl
set_option maxRecDepth 65536 in
set_option maxHeartbeats 40000000 in
theorem own_schar0 (l : Launch) (Z : State) (a0 : Array Value) (hw : ∀ d ∈ tables_1, d.before a0 Z = true) (ws : List Jvm.Cond) (r1 : Addr) (ba : Addr) (kb : ClassId) (cd : Int32) (ln : Int32) (vs : List Value) (xc : Int32) (zcs : Int32) (vsf : Value) (h0 : Heap) (n0 : Nat) (Z0 : n0 ≤ h0.size) (O0 : Old Z n0 h0) (S_cs : Sta Z Z.heap "java/lang/String" "COMPACT_STRINGS" "Z" (.int zcs)) (hcs : ¬ zcs = (0 : Int32)) (S_ad : Sta Z Z.heap "java/lang/StringUTF16" "$assertionsDisabled" "Z" (.int (1 : Int32))) (S_hi : Sta Z Z.heap "java/lang/StringUTF16" "HI_BYTE_SHIFT" "I" (.int (0 : Int32))) (S_lo : Sta Z Z.heap "java/lang/StringUTF16" "LO_BYTE_SHIFT" "I" (.int (8 : Int32))) (S_sf : Sta Z Z.heap "jdk/internal/util/Preconditions" "SIOOBE_FORMATTER" "Ljava/util/function/BiFunction;" vsf) (r_sf : (vsf).isRef = true) (E1 : Exa Z h0 r1 "java/lang/String") (F1 : Fld Z h0 r1 "java/lang/String" "value" "[B" (.ref ba)) (F2 : Fld Z h0 r1 "java/lang/String" "coder" "B" (.int cd)) (V1 : Arv Z h0 ba kb .byte ln vs (.int (0 : Int32))) (ha : own_cA0 xc cd ln vs) (hk : own_ch xc) :
    own_Ctr l Z (⟨"java/lang/String", "charAt", "(I)C"⟩ : MethodName) jdk_42_method_56_code 2 (some .char) ws ({ frames := 4, cells := 0, slots := 0, locals := 53 } : Room) (({ frames := 4, cells := 0, slots := 0, locals := 53 } : Room)).cells (({ frames := 4, cells := 0, slots := 0, locals := 53 } : Room)).slots #[(.ref r1), (.int (0 : Int32))] h0 (Q_own_schar0 Z r1 ba kb cd ln vs xc zcs vsf h0 n0) := by
  refine own_enter (plainFor_of_name own_pn1) ?_
  intro p e s m below meth c s₁ X0 hx hZ hby hml hown hnm hlk hret e0
  have N0 := Fr.nil n0
  refine own_cast (own_ef_own_schar0 m r1) ?_
  rcases ha with ⟨rfl, q1, bc, q3, q5⟩ | ⟨rfl, q0, q1, q2, b0, b1, q3, q4, q5⟩
  ·
    refine own_by (g' := (mkF m 1 #[rv r1, iv (0 : Int32)] [(.ref r1)])) (fun t k => XS.aloadN X0.here hx rfl (hb hby own_d20_0) rfl rfl k) ?_
    refine own_callV X0 hx hZ hown (hw _ (List.mem_of_getElem? (i := 98) rfl)) (hw _ (List.mem_of_getElem? (i := 99) rfl)) (notFace_of_selects (args := #[]) (mvT hZ (hw _ (List.mem_of_getElem? (i := 101) rfl)))) (hw _ (List.mem_of_getElem? (i := 101) rfl)) (hw _ (List.mem_of_getElem? (i := 100) rfl)) (hw _ (List.mem_of_getElem? (i := 102) rfl)) (hw _ (List.mem_of_getElem? (i := 10) rfl)) (by decide) (a := r1) E1 (own_isl0 l Z a0 hw [] (r1) (zcs) h0 n0 Z0 O0 S_cs (by first | assumption | decide) E1 F2) 0 (by decide) (by decide) (by decide) (by decide) e0 (g := (mkF m 1 #[rv r1, iv (0 : Int32)] [(.ref r1)])) rfl (by rw [hml]; rfl) (argsL := []) (rest := []) (lenOf own_pd6 rfl) rfl (by show 2 * 0 + _ ≤ _; exact Nat.le_of_eq rfl) (hb hby own_d20_1) ?_
    intro v101 T101 L101 X101 q101
    obtain ⟨rfl, N101q, e101⟩ := q101
    have N101 := Fr.app N0 N101q
    show own_Goes p e below s _ _ _ T101 (mkF m 4 #[rv r1, iv (0 : Int32)] [(.int (1 : Int32))])
    refine own_by (g' := (mkF m 8 #[rv r1, iv (0 : Int32)] [(.ref r1)])) (fun t k => XS.ifNo X101.here hx rfl (hb hby own_d20_4) rfl ((if0 _ _).trans (feq (by decide : ¬ ((1 : Int32) = (0 : Int32)))).1) (XS.aloadN X101.here hx rfl (hb hby own_d20_7) rfl rfl k)) ?_
    obtain ⟨T102, X102, e102, st102⟩ := getF X101 hx hZ hown (host := "") (Or.inl (hw _ (List.mem_of_getElem? (i := 28) rfl))) Via.refl e101 F1 (g := (mkF m 8 #[rv r1, iv (0 : Int32)] [(.ref r1)])) rfl rfl (hb hby own_d20_8)
    refine own_by (g' := (mkF m 11 #[rv r1, iv (0 : Int32)] [(.ref ba)])) st102 ?_
    refine own_by (g' := (mkF m 12 #[rv r1, iv (0 : Int32)] [(.int (0 : Int32)), (.ref ba)])) (fun t k => XS.iloadN X102.here hx rfl (hb hby own_d20_11) rfl k) ?_
    refine own_callS X102 hx hZ hown (hw _ (List.mem_of_getElem? (i := 103) rfl)) (hw _ (List.mem_of_getElem? (i := 104) rfl)) (hw _ (List.mem_of_getElem? (i := 105) rfl)) (hw _ (List.mem_of_getElem? (i := 106) rfl)) (by decide) (own_lchar0 l Z a0 hw [] (ba) (kb) (ln) (vs) (bc) (xc) (vsf) h0 n0 Z0 O0 S_sf r_sf V1 (by first | assumption | decide) (by first | assumption | decide) (by first | assumption | decide)) 0 (by decide) (by decide) (by decide) (by decide) e102 (g := (mkF m 12 #[rv r1, iv (0 : Int32)] [(.int (0 : Int32)), (.ref ba)])) rfl (by rw [hml]; rfl) (argsL := [(.ref ba), (.int (0 : Int32))]) (rest := []) (lenOf own_pd4 rfl) rfl (by show 2 * 0 + _ ≤ _; exact Nat.le_of_eq rfl) (hb hby own_d20_12) ?_
    intro v103 T103 L103 X103 q103
    obtain ⟨rfl, N103q, e103⟩ := q103
    have N103 := Fr.app N101 N103q
    show own_Goes p e below s _ _ _ T103 (mkF m 15 #[rv r1, iv (0 : Int32)] [(.int xc)])
    refine own_retN X103 hx hlk hret (t := .char) (by simp) (hb hby own_d20_15) (by decide) (by decide) ?_
    exact ⟨(congrArg (fun z => some (Value.int z)) hk), N103, e103⟩
  ·
    refine own_by (g' := (mkF m 1 #[rv r1, iv (0 : Int32)] [(.ref r1)])) (fun t k => XS.aloadN X0.here hx rfl (hb hby own_d20_0) rfl rfl k) ?_
    refine own_callV X0 hx hZ hown (hw _ (List.mem_of_getElem? (i := 98) rfl)) (hw _ (List.mem_of_getElem? (i := 99) rfl)) (notFace_of_selects (args := #[]) (mvT hZ (hw _ (List.mem_of_getElem? (i := 101) rfl)))) (hw _ (List.mem_of_getElem? (i := 101) rfl)) (hw _ (List.mem_of_getElem? (i := 100) rfl)) (hw _ (List.mem_of_getElem? (i := 102) rfl)) (hw _ (List.mem_of_getElem? (i := 10) rfl)) (by decide) (a := r1) E1 (own_isl1 l Z a0 hw [] (r1) (zcs) h0 n0 Z0 O0 S_cs (by first | assumption | decide) E1 F2) 0 (by decide) (by decide) (by decide) (by decide) e0 (g := (mkF m 1 #[rv r1, iv (0 : Int32)] [(.ref r1)])) rfl (by rw [hml]; rfl) (argsL := []) (rest := []) (lenOf own_pd6 rfl) rfl (by show 2 * 0 + _ ≤ _; exact Nat.le_of_eq rfl) (hb hby own_d20_1) ?_
    intro v104 T104 L104 X104 q104
    obtain ⟨rfl, N104q, e104⟩ := q104
    have N104 := Fr.app N0 N104q
    show own_Goes p e below s _ _ _ T104 (mkF m 4 #[rv r1, iv (0 : Int32)] [(.int (0 : Int32))])
    refine own_by (g' := (mkF m 17 #[rv r1, iv (0 : Int32)] [(.ref r1)])) (fun t k => XS.ifYes X104.here hx rfl (pc0 := 4) (pc' := 16) rfl (hb hby own_d20_4) rfl ((if0 _ _).trans (teq (by decide : (0 : Int32) = (0 : Int32))).1) (by decide) (by decide) (XS.aloadN X104.here hx rfl (hb hby own_d20_16) rfl rfl k)) ?_
    obtain ⟨T105, X105, e105, st105⟩ := getF X104 hx hZ hown (host := "") (Or.inl (hw _ (List.mem_of_getElem? (i := 28) rfl))) Via.refl e104 F1 (g := (mkF m 17 #[rv r1, iv (0 : Int32)] [(.ref r1)])) rfl rfl (hb hby own_d20_17)
    refine own_by (g' := (mkF m 20 #[rv r1, iv (0 : Int32)] [(.ref ba)])) st105 ?_
    refine own_by (g' := (mkF m 21 #[rv r1, iv (0 : Int32)] [(.int (0 : Int32)), (.ref ba)])) (fun t k => XS.iloadN X105.here hx rfl (hb hby own_d20_20) rfl k) ?_
    refine own_callS X105 hx hZ hown (hw _ (List.mem_of_getElem? (i := 134) rfl)) (hw _ (List.mem_of_getElem? (i := 135) rfl)) (hw _ (List.mem_of_getElem? (i := 80) rfl)) (hw _ (List.mem_of_getElem? (i := 136) rfl)) (by decide) (own_uchar0 l Z a0 hw [] (ba) (kb) (ln) (vs) (b0) (b1) (xc) (vsf) h0 n0 Z0 O0 S_ad S_hi S_lo S_sf r_sf (by first | assumption | decide) V1 (by first | assumption | decide) (by first | assumption | decide) (by first | assumption | decide) (by first | assumption | decide) (by first | assumption | decide)) 0 (by decide) (by decide) (by decide) (by decide) e105 (g := (mkF m 21 #[rv r1, iv (0 : Int32)] [(.int (0 : Int32)), (.ref ba)])) rfl (by rw [hml]; rfl) (argsL := [(.ref ba), (.int (0 : Int32))]) (rest := []) (lenOf own_pd4 rfl) rfl (by show 2 * 0 + _ ≤ _; exact Nat.le_of_eq rfl) (hb hby own_d20_21) ?_
    intro v106 T106 L106 X106 q106
    obtain ⟨rfl, N106q, e106⟩ := q106
    have N106 := Fr.app N104 N106q
    show own_Goes p e below s _ _ _ T106 (mkF m 24 #[rv r1, iv (0 : Int32)] [(.int xc)])
    refine own_retN X106 hx hlk hret (t := .char) (by simp) (hb hby own_d20_24) (by decide) (by decide) ?_
    exact ⟨(congrArg (fun z => some (Value.int z)) hk), N106, e106⟩
def Q_own_schar1 (Z : State) (r1 : Addr) (ba : Addr) (kb : ClassId) (cd : Int32) (ln : Int32) (vs : List Value) (xc : Int32) (zcs : Int32) (vsf : Value) (h0 : Heap) (n0 : Nat) (v : Option Value) (h : Heap) (L : List Loc) : Prop := v = some (.int xc) ∧ Fr n0 L ∧ h = h0
theorem own_ef_own_schar1 (m : MethodId) (r1 : Addr) : entryFrame m #[(.ref r1), (.int (1 : Int32))] 2 = mkF m 0 #[rv r1, iv (1 : Int32)] [] := by first | (simp [entryFrame, mkF, argsToLocals, Value.category]; done) | rfl
set_option maxRecDepth 65536 in
set_option maxHeartbeats 40000000 in
theorem own_schar1 (l : Launch) (Z : State) (a0 : Array Value) (hw : ∀ d ∈ tables_1, d.before a0 Z = true) (ws : List Jvm.Cond) (r1 : Addr) (ba : Addr) (kb : ClassId) (cd : Int32) (ln : Int32) (vs : List Value) (xc : Int32) (zcs : Int32) (vsf : Value) (h0 : Heap) (n0 : Nat) (Z0 : n0 ≤ h0.size) (O0 : Old Z n0 h0) (S_cs : Sta Z Z.heap "java/lang/String" "COMPACT_STRINGS" "Z" (.int zcs)) (hcs : ¬ zcs = (0 : Int32)) (S_ad : Sta Z Z.heap "java/lang/StringUTF16" "$assertionsDisabled" "Z" (.int (1 : Int32))) (S_hi : Sta Z Z.heap "java/lang/StringUTF16" "HI_BYTE_SHIFT" "I" (.int (0 : Int32))) (S_lo : Sta Z Z.heap "java/lang/StringUTF16" "LO_BYTE_SHIFT" "I" (.int (8 : Int32))) (S_sf : Sta Z Z.heap "jdk/internal/util/Preconditions" "SIOOBE_FORMATTER" "Ljava/util/function/BiFunction;" vsf) (r_sf : (vsf).isRef = true) (E1 : Exa Z h0 r1 "java/lang/String") (F1 : Fld Z h0 r1 "java/lang/String" "value" "[B" (.ref ba)) (F2 : Fld Z h0 r1 "java/lang/String" "coder" "B" (.int cd)) (V1 : Arv Z h0 ba kb .byte ln vs (.int (0 : Int32))) (ha : own_cA1 xc cd ln vs) (hk : own_ch xc) :
    own_Ctr l Z (⟨"java/lang/String", "charAt", "(I)C"⟩ : MethodName) jdk_42_method_56_code 2 (some .char) ws ({ frames := 4, cells := 0, slots := 0, locals := 53 } : Room) (({ frames := 4, cells := 0, slots := 0, locals := 53 } : Room)).cells (({ frames := 4, cells := 0, slots := 0, locals := 53 } : Room)).slots #[(.ref r1), (.int (1 : Int32))] h0 (Q_own_schar1 Z r1 ba kb cd ln vs xc zcs vsf h0 n0) := by
  refine own_enter (plainFor_of_name own_pn1) ?_
  intro p e s m below meth c s₁ X0 hx hZ hby hml hown hnm hlk hret e0
  have N0 := Fr.nil n0
  refine own_cast (own_ef_own_schar1 m r1) ?_
  rcases ha with ⟨rfl, q1, bc, q3, q5⟩ | ⟨rfl, q0, q1, q2, b0, b1, q3, q4, q5⟩
  ·
    refine own_by (g' := (mkF m 1 #[rv r1, iv (1 : Int32)] [(.ref r1)])) (fun t k => XS.aloadN X0.here hx rfl (hb hby own_d20_0) rfl rfl k) ?_
    refine own_callV X0 hx hZ hown (hw _ (List.mem_of_getElem? (i := 98) rfl)) (hw _ (List.mem_of_getElem? (i := 99) rfl)) (notFace_of_selects (args := #[]) (mvT hZ (hw _ (List.mem_of_getElem? (i := 101) rfl)))) (hw _ (List.mem_of_getElem? (i := 101) rfl)) (hw _ (List.mem_of_getElem? (i := 100) rfl)) (hw _ (List.mem_of_getElem? (i := 102) rfl)) (hw _ (List.mem_of_getElem? (i := 10) rfl)) (by decide) (a := r1) E1 (own_isl0 l Z a0 hw [] (r1) (zcs) h0 n0 Z0 O0 S_cs (by first | assumption | decide) E1 F2) 0 (by decide) (by decide) (by decide) (by decide) e0 (g := (mkF m 1 #[rv r1, iv (1 : Int32)] [(.ref r1)])) rfl (by rw [hml]; rfl) (argsL := []) (rest := []) (lenOf own_pd6 rfl) rfl (by show 2 * 0 + _ ≤ _; exact Nat.le_of_eq rfl) (hb hby own_d20_1) ?_
    intro v101 T101 L101 X101 q101
    obtain ⟨rfl, N101q, e101⟩ := q101
    have N101 := Fr.app N0 N101q
    show own_Goes p e below s _ _ _ T101 (mkF m 4 #[rv r1, iv (1 : Int32)] [(.int (1 : Int32))])
    refine own_by (g' := (mkF m 8 #[rv r1, iv (1 : Int32)] [(.ref r1)])) (fun t k => XS.ifNo X101.here hx rfl (hb hby own_d20_4) rfl ((if0 _ _).trans (feq (by decide : ¬ ((1 : Int32) = (0 : Int32)))).1) (XS.aloadN X101.here hx rfl (hb hby own_d20_7) rfl rfl k)) ?_
    obtain ⟨T102, X102, e102, st102⟩ := getF X101 hx hZ hown (host := "") (Or.inl (hw _ (List.mem_of_getElem? (i := 28) rfl))) Via.refl e101 F1 (g := (mkF m 8 #[rv r1, iv (1 : Int32)] [(.ref r1)])) rfl rfl (hb hby own_d20_8)
    refine own_by (g' := (mkF m 11 #[rv r1, iv (1 : Int32)] [(.ref ba)])) st102 ?_
    refine own_by (g' := (mkF m 12 #[rv r1, iv (1 : Int32)] [(.int (1 : Int32)), (.ref ba)])) (fun t k => XS.iloadN X102.here hx rfl (hb hby own_d20_11) rfl k) ?_
    refine own_callS X102 hx hZ hown (hw _ (List.mem_of_getElem? (i := 103) rfl)) (hw _ (List.mem_of_getElem? (i := 104) rfl)) (hw _ (List.mem_of_getElem? (i := 105) rfl)) (hw _ (List.mem_of_getElem? (i := 106) rfl)) (by decide) (own_lchar1 l Z a0 hw [] (ba) (kb) (ln) (vs) (bc) (xc) (vsf) h0 n0 Z0 O0 S_sf r_sf V1 (by first | assumption | decide) (by first | assumption | decide) (by first | assumption | decide)) 0 (by decide) (by decide) (by decide) (by decide) e102 (g := (mkF m 12 #[rv r1, iv (1 : Int32)] [(.int (1 : Int32)), (.ref ba)])) rfl (by rw [hml]; rfl) (argsL := [(.ref ba), (.int (1 : Int32))]) (rest := []) (lenOf own_pd4 rfl) rfl (by show 2 * 0 + _ ≤ _; exact Nat.le_of_eq rfl) (hb hby own_d20_12) ?_
    intro v103 T103 L103 X103 q103
    obtain ⟨rfl, N103q, e103⟩ := q103
    have N103 := Fr.app N101 N103q
    show own_Goes p e below s _ _ _ T103 (mkF m 15 #[rv r1, iv (1 : Int32)] [(.int xc)])
    refine own_retN X103 hx hlk hret (t := .char) (by simp) (hb hby own_d20_15) (by decide) (by decide) ?_
    exact ⟨(congrArg (fun z => some (Value.int z)) hk), N103, e103⟩
  ·
    refine own_by (g' := (mkF m 1 #[rv r1, iv (1 : Int32)] [(.ref r1)])) (fun t k => XS.aloadN X0.here hx rfl (hb hby own_d20_0) rfl rfl k) ?_
    refine own_callV X0 hx hZ hown (hw _ (List.mem_of_getElem? (i := 98) rfl)) (hw _ (List.mem_of_getElem? (i := 99) rfl)) (notFace_of_selects (args := #[]) (mvT hZ (hw _ (List.mem_of_getElem? (i := 101) rfl)))) (hw _ (List.mem_of_getElem? (i := 101) rfl)) (hw _ (List.mem_of_getElem? (i := 100) rfl)) (hw _ (List.mem_of_getElem? (i := 102) rfl)) (hw _ (List.mem_of_getElem? (i := 10) rfl)) (by decide) (a := r1) E1 (own_isl1 l Z a0 hw [] (r1) (zcs) h0 n0 Z0 O0 S_cs (by first | assumption | decide) E1 F2) 0 (by decide) (by decide) (by decide) (by decide) e0 (g := (mkF m 1 #[rv r1, iv (1 : Int32)] [(.ref r1)])) rfl (by rw [hml]; rfl) (argsL := []) (rest := []) (lenOf own_pd6 rfl) rfl (by show 2 * 0 + _ ≤ _; exact Nat.le_of_eq rfl) (hb hby own_d20_1) ?_
    intro v104 T104 L104 X104 q104
    obtain ⟨rfl, N104q, e104⟩ := q104
    have N104 := Fr.app N0 N104q
    show own_Goes p e below s _ _ _ T104 (mkF m 4 #[rv r1, iv (1 : Int32)] [(.int (0 : Int32))])
    refine own_by (g' := (mkF m 17 #[rv r1, iv (1 : Int32)] [(.ref r1)])) (fun t k => XS.ifYes X104.here hx rfl (pc0 := 4) (pc' := 16) rfl (hb hby own_d20_4) rfl ((if0 _ _).trans (teq (by decide : (0 : Int32) = (0 : Int32))).1) (by decide) (by decide) (XS.aloadN X104.here hx rfl (hb hby own_d20_16) rfl rfl k)) ?_
    obtain ⟨T105, X105, e105, st105⟩ := getF X104 hx hZ hown (host := "") (Or.inl (hw _ (List.mem_of_getElem? (i := 28) rfl))) Via.refl e104 F1 (g := (mkF m 17 #[rv r1, iv (1 : Int32)] [(.ref r1)])) rfl rfl (hb hby own_d20_17)
    refine own_by (g' := (mkF m 20 #[rv r1, iv (1 : Int32)] [(.ref ba)])) st105 ?_
    refine own_by (g' := (mkF m 21 #[rv r1, iv (1 : Int32)] [(.int (1 : Int32)), (.ref ba)])) (fun t k => XS.iloadN X105.here hx rfl (hb hby own_d20_20) rfl k) ?_
    refine own_callS X105 hx hZ hown (hw _ (List.mem_of_getElem? (i := 134) rfl)) (hw _ (List.mem_of_getElem? (i := 135) rfl)) (hw _ (List.mem_of_getElem? (i := 80) rfl)) (hw _ (List.mem_of_getElem? (i := 136) rfl)) (by decide) (own_uchar1 l Z a0 hw [] (ba) (kb) (ln) (vs) (b0) (b1) (xc) (vsf) h0 n0 Z0 O0 S_ad S_hi S_lo S_sf r_sf (by first | assumption | decide) V1 (by first | assumption | decide) (by first | assumption | decide) (by first | assumption | decide) (by first | assumption | decide) (by first | assumption | decide)) 0 (by decide) (by decide) (by decide) (by decide) e105 (g := (mkF m 21 #[rv r1, iv (1 : Int32)] [(.int (1 : Int32)), (.ref ba)])) rfl (by rw [hml]; rfl) (argsL := [(.ref ba), (.int (1 : Int32))]) (rest := []) (lenOf own_pd4 rfl) rfl (by show 2 * 0 + _ ≤ _; exact Nat.le_of_eq rfl) (hb hby own_d20_21) ?_
    intro v106 T106 L106 X106 q106
    obtain ⟨rfl, N106q, e106⟩ := q106
    have N106 := Fr.app N104 N106q
    show own_Goes p e below s _ _ _ T106 (mkF m 24 #[rv r1, iv (1 : Int32)] [(.int xc)])
    refine own_retN X106 hx hlk hret (t := .char) (by simp) (hb hby own_d20_24) (by decide) (by decide) ?_
    exact ⟨(congrArg (fun z => some (Value.int z)) hk), N106, e106⟩
theorem own_d27_0 : decode jdk_52_method_3_code 0 = .ok (.iload_n 0, 1) := by decide +kernel
theorem own_d27_1 : decode jdk_52_method_3_code 1 = .ok (.ifCond .ge 11, 3) := by decide +kernel
theorem own_d27_12 : decode jdk_52_method_3_code 12 = .ok (.iload_n 0, 1) := by decide +kernel
theorem own_d27_13 : decode jdk_52_method_3_code 13 = .ok (.ldc 20, 2) := by decide +kernel
theorem own_d27_15 : decode jdk_52_method_3_code 15 = .ok (.if_icmp .lt 40, 3) := by decide +kernel
theorem own_d27_55 : decode jdk_52_method_3_code 55 = .ok (.iload_n 0, 1) := by decide +kernel
theorem own_d27_56 : decode jdk_52_method_3_code 56 = .ok (.iconst 1, 1) := by decide +kernel
theorem own_d27_57 : decode jdk_52_method_3_code 57 = .ok (.ishl, 1) := by decide +kernel
theorem own_d27_58 : decode jdk_52_method_3_code 58 = .ok (.ireturn, 1) := by decide +kernel
def Q_own_nbl1 (Z : State)  (h0 : Heap) (n0 : Nat) (v : Option Value) (h : Heap) (L : List Loc) : Prop := v = some (.int (2 : Int32)) ∧ Fr n0 L ∧ h = h0
theorem own_ef_own_nbl1 (m : MethodId)  : entryFrame m #[(.int (1 : Int32))] 1 = mkF m 0 #[iv (1 : Int32)] [] := by first | (simp [entryFrame, mkF, argsToLocals, Value.category]; done) | rfl
set_option maxRecDepth 65536 in
set_option maxHeartbeats 40000000 in
theorem own_nbl1 (l : Launch) (Z : State) (a0 : Array Value) (hw : ∀ d ∈ tables_1, d.before a0 Z = true) (ws : List Jvm.Cond)  (h0 : Heap) (n0 : Nat) (Z0 : n0 ≤ h0.size)  :
    own_Ctr l Z (⟨"java/lang/StringUTF16", "newBytesLength", "(I)I"⟩ : MethodName) jdk_52_method_3_code 1 (some .int) ws ({ frames := 0, cells := 0, slots := 0, locals := 0 } : Room) (({ frames := 0, cells := 0, slots := 0, locals := 0 } : Room)).cells (({ frames := 0, cells := 0, slots := 0, locals := 0 } : Room)).slots #[(.int (1 : Int32))] h0 (Q_own_nbl1 Z  h0 n0) := by
  refine own_enter (plainFor_of_name own_pn2) ?_
  intro p e s m below meth c s₁ X0 hx hZ hby hml hown hnm hlk hret e0
  have N0 := Fr.nil n0
  refine own_cast (own_ef_own_nbl1 m ) ?_
  refine own_by (g' := (mkF m 58 #[iv (1 : Int32)] [(.int ((1 : Int32) <<< ((1 : Int32) &&& 31)))])) (fun t k => XS.iloadN X0.here hx rfl (hb hby own_d27_0) rfl (XS.ifYes X0.here hx rfl (pc0 := 1) (pc' := 12) rfl (hb hby own_d27_1) rfl ((if0 _ _).trans (flt (by decide : ¬ ((1 : Int32) < (0 : Int32)))).2.1) (by decide) (by decide) (XS.iloadN X0.here hx rfl (hb hby own_d27_12) rfl (X0.ldcInt hx hown (mvT hZ (hw _ (List.mem_of_getElem? (i := 124) rfl))) (g := (mkF m 13 #[iv (1 : Int32)] [(.int (1 : Int32))])) rfl (hb hby own_d27_13) t (XS.icmpYes X0.here hx rfl (pc0 := 15) (pc' := 55) rfl (hb hby own_d27_15) rfl (tlt (by decide : (1 : Int32) < (1073741823 : Int32))).1 (by decide) (by decide) (XS.iloadN X0.here hx rfl (hb hby own_d27_55) rfl (XS.iconst X0.here hx rfl (hb hby own_d27_56) (XS.ishl X0.here hx rfl (hb hby own_d27_57) rfl k)))))))) ?_
  refine own_retI X0 hx hlk hret (hb hby own_d27_58) (by decide) (by decide) ?_
  exact ⟨(by decide), N0, e0⟩
theorem own_d26_0 : decode jdk_52_method_2_code 0 = .ok (.iload_n 0, 1) := by decide +kernel
theorem own_d26_1 : decode jdk_52_method_2_code 1 = .ok (.invokestatic 11, 3) := by decide +kernel
theorem own_pd7 : parseMethodDescriptor "(I)I" = some ⟨[.int], some .int⟩ := by decide +kernel
theorem own_d26_4 : decode jdk_52_method_2_code 4 = .ok (.newarray .byte, 2) := by decide +kernel
theorem own_ad_byte : "[" ++ (newarray.typeOf .byte).toString = "[B" := by decide +kernel
theorem own_d26_6 : decode jdk_52_method_2_code 6 = .ok (.areturn, 1) := by decide +kernel
def Q_own_nbf1 (Z : State)  (h0 : Heap) (n0 : Nat) (v : Option Value) (h : Heap) (L : List Loc) : Prop := ∃ (bo : Addr), ∃ (kb : ClassId), v = some (.ref bo) ∧ Fr n0 L ∧ Keep h0 h [] ∧ h0.size ≤ bo ∧ Exa Z h bo "[B" ∧ Arv Z h bo kb .byte (2 : Int32) [(.int (0 : Int32)), (.int (0 : Int32))] (.int (0 : Int32))
theorem own_ef_own_nbf1 (m : MethodId)  : entryFrame m #[(.int (1 : Int32))] 1 = mkF m 0 #[iv (1 : Int32)] [] := by first | (simp [entryFrame, mkF, argsToLocals, Value.category]; done) | rfl
set_option maxRecDepth 65536 in
set_option maxHeartbeats 40000000 in
theorem own_nbf1 (l : Launch) (Z : State) (a0 : Array Value) (hw : ∀ d ∈ tables_1, d.before a0 Z = true) (ws : List Jvm.Cond)  (h0 : Heap) (n0 : Nat) (Z0 : n0 ≤ h0.size)  :
    own_Ctr l Z (⟨"java/lang/StringUTF16", "newBytesFor", "(I)[B"⟩ : MethodName) jdk_52_method_2_code 1 (some (.array .byte)) ws ({ frames := 1, cells := 1, slots := 2, locals := 12 } : Room) (({ frames := 1, cells := 1, slots := 2, locals := 12 } : Room)).cells (({ frames := 1, cells := 1, slots := 2, locals := 12 } : Room)).slots #[(.int (1 : Int32))] h0 (Q_own_nbf1 Z  h0 n0) := by
  refine own_enter (plainFor_of_name own_pn2) ?_
  intro p e s m below meth c s₁ X0 hx hZ hby hml hown hnm hlk hret e0
  have N0 := Fr.nil n0
  refine own_cast (own_ef_own_nbf1 m ) ?_
  refine own_by (g' := (mkF m 1 #[iv (1 : Int32)] [(.int (1 : Int32))])) (fun t k => XS.iloadN X0.here hx rfl (hb hby own_d26_0) rfl k) ?_
  refine own_callS X0 hx hZ hown (hw _ (List.mem_of_getElem? (i := 121) rfl)) (hw _ (List.mem_of_getElem? (i := 122) rfl)) (hw _ (List.mem_of_getElem? (i := 80) rfl)) (hw _ (List.mem_of_getElem? (i := 123) rfl)) (by decide) (own_nbl1 l Z a0 hw []  h0 n0 Z0 ) 0 (by decide) (by decide) (by decide) (by decide) e0 (g := (mkF m 1 #[iv (1 : Int32)] [(.int (1 : Int32))])) rfl (by rw [hml]; rfl) (argsL := [(.int (1 : Int32))]) (rest := []) (lenOf own_pd7 rfl) rfl (by show 2 * 0 + _ ≤ _; exact Nat.le_of_eq rfl) (hb hby own_d26_1) ?_
  intro v101 T101 L101 X101 q101
  obtain ⟨rfl, N101q, e101⟩ := q101
  have N101 := Fr.app N0 N101q
  show own_Goes p e below s _ _ _ T101 (mkF m 4 #[iv (1 : Int32)] [(.int (2 : Int32))])
  obtain ⟨T102, h102, k102, X102, e102, E102, A102, Y102, st102⟩ := newPE X101 hx hZ (hw _ (List.mem_of_getElem? (i := 23) rfl)) e101 (g := (mkF m 4 #[iv (1 : Int32)] [(.int (2 : Int32))])) rfl (hb hby own_d26_4) rfl (by decide) (cap := 2) (by decide) (by decide) (by decide) (by decide) (ad := "[B") own_ad_byte
  obtain ⟨b102, g102⟩ : ∃ z, z = h0.size := ⟨_, rfl⟩
  rw [← g102] at A102 Y102 st102
  have sz_b102 : h0.size ≤ b102 := Nat.le_trans (Nat.le_refl _) (Nat.le_of_eq g102.symm)
  have g_b102 : n0 ≤ b102 := Nat.le_trans Z0 sz_b102
  have V102 : Arv Z h102 b102 k102 .byte (2 : Int32) [(.int (0 : Int32)), (.int (0 : Int32))] (.int (0 : Int32)) := (Arv.new A102 (by decide)).pad (pad_rep [] (.int (0 : Int32)) 2)
  refine own_by (g' := (mkF m 6 #[iv (1 : Int32)] [(.ref b102)])) st102 ?_
  refine own_retA X102 hx hlk hret rfl rfl (hb hby own_d26_6) (by decide) (by decide) ?_
  rw [e102]
  exact ⟨b102, k102, rfl, N101, ((Keep.refl h0 []).ext E102), sz_b102, Y102, V102⟩
theorem own_d28_0 : decode jdk_52_method_4_code 0 = .ok (.getstatic 44, 3) := by decide +kernel
theorem own_d28_3 : decode jdk_52_method_4_code 3 = .ok (.ifCond .ne 25, 3) := by decide +kernel
theorem own_d28_28 : decode jdk_52_method_4_code 28 = .ok (.iload_n 1, 1) := by decide +kernel
theorem own_d28_29 : decode jdk_52_method_4_code 29 = .ok (.iconst 1, 1) := by decide +kernel
theorem own_d28_30 : decode jdk_52_method_4_code 30 = .ok (.ishl, 1) := by decide +kernel
theorem own_d28_31 : decode jdk_52_method_4_code 31 = .ok (.istore_n 1, 1) := by decide +kernel
theorem own_d28_32 : decode jdk_52_method_4_code 32 = .ok (.aload_n 0, 1) := by decide +kernel
theorem own_d28_33 : decode jdk_52_method_4_code 33 = .ok (.iload_n 1, 1) := by decide +kernel
theorem own_d28_34 : decode jdk_52_method_4_code 34 = .ok (.iinc 1 1, 3) := by decide +kernel
theorem own_d28_37 : decode jdk_52_method_4_code 37 = .ok (.iload_n 2, 1) := by decide +kernel
theorem own_d28_38 : decode jdk_52_method_4_code 38 = .ok (.getstatic 59, 3) := by decide +kernel
theorem own_d28_41 : decode jdk_52_method_4_code 41 = .ok (.ishr, 1) := by decide +kernel
theorem own_d28_42 : decode jdk_52_method_4_code 42 = .ok (.i2b, 1) := by decide +kernel
theorem own_d28_43 : decode jdk_52_method_4_code 43 = .ok (.bastore, 1) := by decide +kernel
theorem own_d28_44 : decode jdk_52_method_4_code 44 = .ok (.aload_n 0, 1) := by decide +kernel
theorem own_d28_45 : decode jdk_52_method_4_code 45 = .ok (.iload_n 1, 1) := by decide +kernel
theorem own_d28_46 : decode jdk_52_method_4_code 46 = .ok (.iload_n 2, 1) := by decide +kernel
theorem own_d28_47 : decode jdk_52_method_4_code 47 = .ok (.getstatic 63, 3) := by decide +kernel
theorem own_d28_50 : decode jdk_52_method_4_code 50 = .ok (.ishr, 1) := by decide +kernel
theorem own_d28_51 : decode jdk_52_method_4_code 51 = .ok (.i2b, 1) := by decide +kernel
theorem own_d28_52 : decode jdk_52_method_4_code 52 = .ok (.bastore, 1) := by decide +kernel
theorem own_d28_53 : decode jdk_52_method_4_code 53 = .ok (.return_, 1) := by decide +kernel
def Q_own_putc1_0 (Z : State) (r1 : Addr) (k1 : ClassId) (xc : Int32) (ye0 : Value) (ye1 : Value) (h0 : Heap) (n0 : Nat) (v : Option Value) (h : Heap) (L : List Loc) : Prop := v = none ∧ Fr n0 L ∧ Keep h0 h [r1] ∧ Arv Z h r1 k1 .byte (2 : Int32) [(.int ((xc >>> ((0 : Int32) &&& 31))).toInt8.toInt32), (.int ((xc >>> ((8 : Int32) &&& 31))).toInt8.toInt32)] (.int (0 : Int32))
theorem own_ef_own_putc1_0 (m : MethodId) (r1 : Addr) (xc : Int32) : entryFrame m #[(.ref r1), (.int (0 : Int32)), (.int xc)] 3 = mkF m 0 #[rv r1, iv (0 : Int32), iv xc] [] := by first | (simp [entryFrame, mkF, argsToLocals, Value.category]; done) | rfl
set_option maxRecDepth 65536 in
set_option maxHeartbeats 40000000 in
theorem own_putc1_0 (l : Launch) (Z : State) (a0 : Array Value) (hw : ∀ d ∈ tables_1, d.before a0 Z = true) (ws : List Jvm.Cond) (r1 : Addr) (k1 : ClassId) (xc : Int32) (ye0 : Value) (ye1 : Value) (h0 : Heap) (n0 : Nat) (Z0 : n0 ≤ h0.size) (O0 : Old Z n0 h0) (S_ad : Sta Z Z.heap "java/lang/StringUTF16" "$assertionsDisabled" "Z" (.int (1 : Int32))) (S_hi : Sta Z Z.heap "java/lang/StringUTF16" "HI_BYTE_SHIFT" "I" (.int (0 : Int32))) (S_lo : Sta Z Z.heap "java/lang/StringUTF16" "LO_BYTE_SHIFT" "I" (.int (8 : Int32))) (V1 : Arv Z h0 r1 k1 .byte (2 : Int32) [ye0, ye1] (.int (0 : Int32))) (g1 : n0 ≤ r1) :
    own_Ctr l Z (⟨"java/lang/StringUTF16", "putChar", "([BII)V"⟩ : MethodName) jdk_52_method_4_code 3 none ws ({ frames := 0, cells := 0, slots := 0, locals := 0 } : Room) (({ frames := 0, cells := 0, slots := 0, locals := 0 } : Room)).cells (({ frames := 0, cells := 0, slots := 0, locals := 0 } : Room)).slots #[(.ref r1), (.int (0 : Int32)), (.int xc)] h0 (Q_own_putc1_0 Z r1 k1 xc ye0 ye1 h0 n0) := by
  refine own_enter (plainFor_of_name own_pn2) ?_
  intro p e s m below meth c s₁ X0 hx hZ hby hml hown hnm hlk hret e0
  have N0 := Fr.nil n0
  refine own_cast (own_ef_own_putc1_0 m r1 xc) ?_
  obtain ⟨T101, X101, e101, st101⟩ := getS2 X0 hx hZ hown (host := "") (Or.inl (hw _ (List.mem_of_getElem? (i := 128) rfl))) Via.refl e0 (S_ad.ext O0.2) (g := (mkF m 0 #[rv r1, iv (0 : Int32), iv xc] [])) rfl (hb hby own_d28_0)
  refine own_by (g' := (mkF m 3 #[rv r1, iv (0 : Int32), iv xc] [(.int (1 : Int32))])) st101 ?_
  refine own_by (g' := (mkF m 31 #[rv r1, iv (0 : Int32), iv xc] [(.int ((0 : Int32) <<< ((1 : Int32) &&& 31)))])) (fun t k => XS.ifYes X101.here hx rfl (pc0 := 3) (pc' := 28) rfl (hb hby own_d28_3) rfl ((if0 _ _).trans (feq (by decide : ¬ ((1 : Int32) = (0 : Int32)))).2) (by decide) (by decide) (XS.iloadN X101.here hx rfl (hb hby own_d28_28) rfl (XS.iconst X101.here hx rfl (hb hby own_d28_29) (XS.ishl X101.here hx rfl (hb hby own_d28_30) rfl k)))) ?_
  have hz : ((0 : Int32) <<< ((1 : Int32) &&& 31)) = (0 : Int32) := by decide
  rw [hz]
  refine own_by (g' := (mkF m 38 #[rv r1, iv (1 : Int32), iv xc] [(.int xc), (.int (0 : Int32)), (.ref r1)])) (fun t k => XS.istoreN X101.here hx rfl (hb hby own_d28_31) rfl (l' := #[rv r1, iv (0 : Int32), iv xc]) rfl (XS.aloadN X101.here hx rfl (hb hby own_d28_32) rfl rfl (XS.iloadN X101.here hx rfl (hb hby own_d28_33) rfl (XS.iinc X101.here hx rfl (hb hby own_d28_34) rfl (l' := #[rv r1, iv (1 : Int32), iv xc]) rfl (XS.iloadN X101.here hx rfl (hb hby own_d28_37) rfl k))))) ?_
  obtain ⟨T102, X102, e102, st102⟩ := getS2 X101 hx hZ hown (host := "") (Or.inl (hw _ (List.mem_of_getElem? (i := 129) rfl))) Via.refl e101 (S_hi.ext O0.2) (g := (mkF m 38 #[rv r1, iv (1 : Int32), iv xc] [(.int xc), (.int (0 : Int32)), (.ref r1)])) rfl (hb hby own_d28_38)
  refine own_by (g' := (mkF m 41 #[rv r1, iv (1 : Int32), iv xc] [(.int (0 : Int32)), (.int xc), (.int (0 : Int32)), (.ref r1)])) st102 ?_
  refine own_by (g' := (mkF m 43 #[rv r1, iv (1 : Int32), iv xc] [(.int ((xc >>> ((0 : Int32) &&& 31))).toInt8.toInt32), (.int (0 : Int32)), (.ref r1)])) (fun t k => XS.ishr X102.here hx rfl (hb hby own_d28_41) rfl (XS.i2b X102.here hx rfl (hb hby own_d28_42) rfl k)) ?_
  obtain ⟨c103, Ar103, q103, S103, G103, H103, F103⟩ := id V1
  have hin103 : ¬ ((0 : Int32) < 0 ∨ c103.slots.size ≤ ((0 : Int32)).toNatClampNeg) := inb_of S103 ⟨by decide, by decide⟩
  obtain ⟨T103, h103, X103, e103, W103, st103⟩ := stB X102 hx hZ e102 Ar103 (j := (0 : Int32)) hin103 (g := (mkF m 43 #[rv r1, iv (1 : Int32), iv xc] [(.int ((xc >>> ((0 : Int32) &&& 31))).toInt8.toInt32), (.int (0 : Int32)), (.ref r1)])) rfl rfl (hb hby own_d28_43)
  have V104 : Arv Z h103 r1 k1 .byte (2 : Int32) [(.int ((xc >>> ((0 : Int32) &&& 31))).toInt8.toInt32), ye1] (.int (0 : Int32)) := Arv.set Ar103 q103 S103 G103 H103 F103 (fits_nar_byte _) (own_wr W103 (congrArg Value.int (own_b8 _))) 0 rfl (Nat.le_of_ble_eq_true rfl)
  have N103 := Fr.snoc X103 N0 g1
  refine own_by (g' := (mkF m 44 #[rv r1, iv (1 : Int32), iv xc] [])) st103 ?_
  refine own_by (g' := (mkF m 47 #[rv r1, iv (1 : Int32), iv xc] [(.int xc), (.int (1 : Int32)), (.ref r1)])) (fun t k => XS.aloadN X103.here hx rfl (hb hby own_d28_44) rfl rfl (XS.iloadN X103.here hx rfl (hb hby own_d28_45) rfl (XS.iloadN X103.here hx rfl (hb hby own_d28_46) rfl k))) ?_
  have f105 := (O0.wr W103 g1)
  obtain ⟨T106, X106, e106, st106⟩ := getS2 X103 hx hZ hown (host := "") (Or.inl (hw _ (List.mem_of_getElem? (i := 130) rfl))) Via.refl e103 (S_lo.ext f105.2) (g := (mkF m 47 #[rv r1, iv (1 : Int32), iv xc] [(.int xc), (.int (1 : Int32)), (.ref r1)])) rfl (hb hby own_d28_47)
  refine own_by (g' := (mkF m 50 #[rv r1, iv (1 : Int32), iv xc] [(.int (8 : Int32)), (.int xc), (.int (1 : Int32)), (.ref r1)])) st106 ?_
  refine own_by (g' := (mkF m 52 #[rv r1, iv (1 : Int32), iv xc] [(.int ((xc >>> ((8 : Int32) &&& 31))).toInt8.toInt32), (.int (1 : Int32)), (.ref r1)])) (fun t k => XS.ishr X106.here hx rfl (hb hby own_d28_50) rfl (XS.i2b X106.here hx rfl (hb hby own_d28_51) rfl k)) ?_
  obtain ⟨c107, Ar107, q107, S107, G107, H107, F107⟩ := id V104
  have hin107 : ¬ ((1 : Int32) < 0 ∨ c107.slots.size ≤ ((1 : Int32)).toNatClampNeg) := inb_of S107 ⟨by decide, by decide⟩
  obtain ⟨T107, h107, X107, e107, W107, st107⟩ := stB X106 hx hZ e106 Ar107 (j := (1 : Int32)) hin107 (g := (mkF m 52 #[rv r1, iv (1 : Int32), iv xc] [(.int ((xc >>> ((8 : Int32) &&& 31))).toInt8.toInt32), (.int (1 : Int32)), (.ref r1)])) rfl rfl (hb hby own_d28_52)
  have V108 : Arv Z h107 r1 k1 .byte (2 : Int32) [(.int ((xc >>> ((0 : Int32) &&& 31))).toInt8.toInt32), (.int ((xc >>> ((8 : Int32) &&& 31))).toInt8.toInt32)] (.int (0 : Int32)) := Arv.set Ar107 q107 S107 G107 H107 F107 (fits_nar_byte _) (own_wr W107 (congrArg Value.int (own_b8 _))) 1 rfl (Nat.le_of_ble_eq_true rfl)
  have N107 := Fr.snoc X107 N103 g1
  refine own_by (g' := (mkF m 53 #[rv r1, iv (1 : Int32), iv xc] [])) st107 ?_
  refine own_retV X107 hx hlk hret (hb hby own_d28_53) (by decide) (by decide) ?_
  rw [e107]
  exact ⟨rfl, N107, (((Keep.refl h0 [r1]).wr W103 (Or.inl (List.mem_of_getElem? (i := 0) rfl))).wr W107 (Or.inl (List.mem_of_getElem? (i := 0) rfl))), V108⟩
theorem own_d25_0 : decode jdk_52_method_14_code 0 = .ok (.iload_n 2, 1) := by decide +kernel
theorem own_d25_1 : decode jdk_52_method_14_code 1 = .ok (.invokestatic 107, 3) := by decide +kernel
theorem own_pd8 : parseMethodDescriptor "(I)[B" = some ⟨[.int], some (.array .byte)⟩ := by decide +kernel
theorem own_d25_4 : decode jdk_52_method_14_code 4 = .ok (.astore_n 3, 1) := by decide +kernel
theorem own_d25_5 : decode jdk_52_method_14_code 5 = .ok (.iconst 0, 1) := by decide +kernel
theorem own_d25_6 : decode jdk_52_method_14_code 6 = .ok (.istore 4, 2) := by decide +kernel
theorem own_d25_8 : decode jdk_52_method_14_code 8 = .ok (.iload 4, 2) := by decide +kernel
theorem own_d25_10 : decode jdk_52_method_14_code 10 = .ok (.iload_n 2, 1) := by decide +kernel
theorem own_d25_11 : decode jdk_52_method_14_code 11 = .ok (.if_icmp .ge 21, 3) := by decide +kernel
theorem own_d25_14 : decode jdk_52_method_14_code 14 = .ok (.aload_n 3, 1) := by decide +kernel
theorem own_d25_15 : decode jdk_52_method_14_code 15 = .ok (.iload 4, 2) := by decide +kernel
theorem own_d25_17 : decode jdk_52_method_14_code 17 = .ok (.aload_n 0, 1) := by decide +kernel
theorem own_d25_18 : decode jdk_52_method_14_code 18 = .ok (.iload_n 1, 1) := by decide +kernel
theorem own_d25_19 : decode jdk_52_method_14_code 19 = .ok (.caload, 1) := by decide +kernel
theorem own_d25_20 : decode jdk_52_method_14_code 20 = .ok (.invokestatic 111, 3) := by decide +kernel
theorem own_pd9 : parseMethodDescriptor "([BII)V" = some ⟨[(.array .byte), .int, .int], none⟩ := by decide +kernel
theorem own_d25_23 : decode jdk_52_method_14_code 23 = .ok (.iinc 1 1, 3) := by decide +kernel
theorem own_d25_26 : decode jdk_52_method_14_code 26 = .ok (.iinc 4 1, 3) := by decide +kernel
theorem own_d25_29 : decode jdk_52_method_14_code 29 = .ok (.goto (-21), 3) := by decide +kernel
theorem own_d25_32 : decode jdk_52_method_14_code 32 = .ok (.aload_n 3, 1) := by decide +kernel
theorem own_d25_33 : decode jdk_52_method_14_code 33 = .ok (.areturn, 1) := by decide +kernel
def Q_own_tob1 (Z : State) (r1 : Addr) (k1 : ClassId) (x0 : Int32) (h0 : Heap) (n0 : Nat) (v : Option Value) (h : Heap) (L : List Loc) : Prop := ∃ (bo : Addr), ∃ (kb : ClassId), v = some (.ref bo) ∧ Fr n0 L ∧ Keep h0 h [] ∧ h0.size ≤ bo ∧ Exa Z h bo "[B" ∧ Arv Z h bo kb .byte (2 : Int32) [(.int ((x0 >>> ((0 : Int32) &&& 31))).toInt8.toInt32), (.int ((x0 >>> ((8 : Int32) &&& 31))).toInt8.toInt32)] (.int (0 : Int32))
theorem own_ef_own_tob1 (m : MethodId) (r1 : Addr) : entryFrame m #[(.ref r1), (.int (0 : Int32)), (.int (1 : Int32))] 5 = mkF m 0 #[rv r1, iv (0 : Int32), iv (1 : Int32), .unset, .unset] [] := by first | (simp [entryFrame, mkF, argsToLocals, Value.category]; done) | rfl
set_option maxRecDepth 65536 in
set_option maxHeartbeats 40000000 in
theorem own_tob1 (l : Launch) (Z : State) (a0 : Array Value) (hw : ∀ d ∈ tables_1, d.before a0 Z = true) (ws : List Jvm.Cond) (r1 : Addr) (k1 : ClassId) (x0 : Int32) (h0 : Heap) (n0 : Nat) (Z0 : n0 ≤ h0.size) (O0 : Old Z n0 h0) (S_ad : Sta Z Z.heap "java/lang/StringUTF16" "$assertionsDisabled" "Z" (.int (1 : Int32))) (S_hi : Sta Z Z.heap "java/lang/StringUTF16" "HI_BYTE_SHIFT" "I" (.int (0 : Int32))) (S_lo : Sta Z Z.heap "java/lang/StringUTF16" "LO_BYTE_SHIFT" "I" (.int (8 : Int32))) (V1 : Arv Z h0 r1 k1 .char (1 : Int32) [(.int x0)] (.int (0 : Int32))) :
    own_Ctr l Z (⟨"java/lang/StringUTF16", "toBytes", "([CII)[B"⟩ : MethodName) jdk_52_method_14_code 5 (some (.array .byte)) ws ({ frames := 2, cells := 1, slots := 2, locals := 24 } : Room) (({ frames := 2, cells := 1, slots := 2, locals := 24 } : Room)).cells (({ frames := 2, cells := 1, slots := 2, locals := 24 } : Room)).slots #[(.ref r1), (.int (0 : Int32)), (.int (1 : Int32))] h0 (Q_own_tob1 Z r1 k1 x0 h0 n0) := by
  refine own_enter (plainFor_of_name own_pn2) ?_
  intro p e s m below meth c s₁ X0 hx hZ hby hml hown hnm hlk hret e0
  have N0 := Fr.nil n0
  refine own_cast (own_ef_own_tob1 m r1) ?_
  refine own_by (g' := (mkF m 1 #[rv r1, iv (0 : Int32), iv (1 : Int32), .unset, .unset] [(.int (1 : Int32))])) (fun t k => XS.iloadN X0.here hx rfl (hb hby own_d25_0) rfl k) ?_
  refine own_callS X0 hx hZ hown (hw _ (List.mem_of_getElem? (i := 118) rfl)) (hw _ (List.mem_of_getElem? (i := 119) rfl)) (hw _ (List.mem_of_getElem? (i := 80) rfl)) (hw _ (List.mem_of_getElem? (i := 120) rfl)) (by decide) (own_nbf1 l Z a0 hw []  h0 n0 Z0 ) 0 (by decide) (by decide) (by decide) (by decide) e0 (g := (mkF m 1 #[rv r1, iv (0 : Int32), iv (1 : Int32), .unset, .unset] [(.int (1 : Int32))])) rfl (by rw [hml]; rfl) (argsL := [(.int (1 : Int32))]) (rest := []) (lenOf own_pd8 rfl) rfl (by show 2 * 0 + _ ≤ _; exact Nat.le_of_eq rfl) (hb hby own_d25_1) ?_
  intro v101 T101 L101 X101 q101
  obtain ⟨bo101, kb101, rfl, N101q, K101, f102, f103, f104⟩ := q101
  have N101 := Fr.app N0 N101q
  show own_Goes p e below s _ _ _ T101 (mkF m 4 #[rv r1, iv (0 : Int32), iv (1 : Int32), .unset, .unset] [(.ref bo101)])
  refine own_by (g' := (mkF m 17 #[rv r1, iv (0 : Int32), iv (1 : Int32), rv bo101, iv (0 : Int32)] [(.int (0 : Int32)), (.ref bo101)])) (fun t k => XS.astoreN X101.here hx rfl (hb hby own_d25_4) rfl rfl (l' := #[rv r1, iv (0 : Int32), iv (1 : Int32), rv bo101, .unset]) rfl (XS.iconst X101.here hx rfl (hb hby own_d25_5) (XS.istore X101.here hx rfl (hb hby own_d25_6) rfl (l' := #[rv r1, iv (0 : Int32), iv (1 : Int32), rv bo101, iv (0 : Int32)]) rfl (XS.iload X101.here hx rfl (hb hby own_d25_8) rfl (XS.iloadN X101.here hx rfl (hb hby own_d25_10) rfl (XS.icmpNo X101.here hx rfl (hb hby own_d25_11) rfl (tlt (by decide : (0 : Int32) < (1 : Int32))).2.1 (XS.aloadN X101.here hx rfl (hb hby own_d25_14) rfl rfl (XS.iload X101.here hx rfl (hb hby own_d25_15) rfl k)))))))) ?_
  refine own_by (g' := (mkF m 19 #[rv r1, iv (0 : Int32), iv (1 : Int32), rv bo101, iv (0 : Int32)] [(.int (0 : Int32)), (.ref r1), (.int (0 : Int32)), (.ref bo101)])) (fun t k => XS.aloadN X101.here hx rfl (hb hby own_d25_17) rfl rfl (XS.iloadN X101.here hx rfl (hb hby own_d25_18) rfl k)) ?_
  have f105 := (V1.keep K101 nin0)
  obtain ⟨c106, Ar106, q106, S106, G106, H106, F106⟩ := id f105
  have hin106 : ¬ ((0 : Int32) < 0 ∨ c106.slots.size ≤ ((0 : Int32)).toNatClampNeg) := inb_of S106 ⟨by decide, by decide⟩
  have hat106 : c106.slots[((0 : Int32)).toNatClampNeg]? = some (.int x0) := H106.at hin106 rfl
  refine own_by (g' := (mkF m 20 #[rv r1, iv (0 : Int32), iv (1 : Int32), rv bo101, iv (0 : Int32)] [(.int x0), (.int (0 : Int32)), (.ref bo101)])) (fun t k => X101.caload hx (j := (0 : Int32)) (v := (.int x0)) (own_at_ rfl Ar106.1) (State.isArrayOf_alike hZ.alike Ar106.2.1) Ar106.2.2 hin106 hat106 (g := (mkF m 19 #[rv r1, iv (0 : Int32), iv (1 : Int32), rv bo101, iv (0 : Int32)] [(.int (0 : Int32)), (.ref r1), (.int (0 : Int32)), (.ref bo101)])) rfl rfl (hb hby own_d25_19) t k) ?_
  have f107 := (O0.keep K101 all0)
  refine own_callS X101 hx hZ hown (hw _ (List.mem_of_getElem? (i := 125) rfl)) (hw _ (List.mem_of_getElem? (i := 126) rfl)) (hw _ (List.mem_of_getElem? (i := 80) rfl)) (hw _ (List.mem_of_getElem? (i := 127) rfl)) (by decide) (own_putc1_0 l Z a0 hw [] (bo101) (kb101) (x0) ((.int (0 : Int32))) ((.int (0 : Int32))) T101.heap n0 (Nat.le_trans Z0 K101.1) f107 S_ad S_hi S_lo f104 (Nat.le_trans Z0 f102)) 0 (by decide) (by decide) (by decide) (by decide) rfl (g := (mkF m 20 #[rv r1, iv (0 : Int32), iv (1 : Int32), rv bo101, iv (0 : Int32)] [(.int x0), (.int (0 : Int32)), (.ref bo101)])) rfl (by rw [hml]; rfl) (argsL := [(.ref bo101), (.int (0 : Int32)), (.int x0)]) (rest := []) (lenOf own_pd9 rfl) rfl (by show 2 * 0 + _ ≤ _; exact Nat.le_of_eq rfl) (hb hby own_d25_20) ?_
  intro v108 T108 L108 X108 q108
  obtain ⟨rfl, N108q, K108, f109⟩ := q108
  have N108 := Fr.app N101 N108q
  show own_Goes p e below s _ _ _ T108 (mkF m 23 #[rv r1, iv (0 : Int32), iv (1 : Int32), rv bo101, iv (0 : Int32)] [])
  refine own_by (g' := (mkF m 33 #[rv r1, iv (1 : Int32), iv (1 : Int32), rv bo101, iv (1 : Int32)] [(.ref bo101)])) (fun t k => XS.iinc X108.here hx rfl (hb hby own_d25_23) rfl (l' := #[rv r1, iv (1 : Int32), iv (1 : Int32), rv bo101, iv (0 : Int32)]) rfl (XS.iinc X108.here hx rfl (hb hby own_d25_26) rfl (l' := #[rv r1, iv (1 : Int32), iv (1 : Int32), rv bo101, iv (1 : Int32)]) rfl (XS.goto X108.here hx rfl (pc0 := 29) (pc' := 8) rfl (hb hby own_d25_29) (by decide) (by decide) (XS.iload X108.here hx rfl (hb hby own_d25_8) rfl (XS.iloadN X108.here hx rfl (hb hby own_d25_10) rfl (XS.icmpYes X108.here hx rfl (pc0 := 11) (pc' := 32) rfl (hb hby own_d25_11) rfl (flt (by decide : ¬ ((1 : Int32) < (1 : Int32)))).2.1 (by decide) (by decide) (XS.aloadN X108.here hx rfl (hb hby own_d25_32) rfl rfl k))))))) ?_
  have f110 := (f103.keep K108)
  refine own_retA X108 hx hlk hret rfl rfl (hb hby own_d25_33) (by decide) (by decide) ?_
  exact ⟨bo101, kb101, rfl, N108, (((Keep.refl h0 []).trans K101 all0).trans K108 (allS (Or.inr (Nat.le_trans (Nat.le_refl _) f102)) all0)), (Nat.le_trans (Nat.le_refl _) f102), f110, f109⟩
theorem own_d17_0 : decode jdk_52_method_21_code 0 = .ok (.iconst 0, 1) := by decide +kernel
theorem own_d17_1 : decode jdk_52_method_21_code 1 = .ok (.istore 5, 2) := by decide +kernel
theorem own_d17_3 : decode jdk_52_method_21_code 3 = .ok (.iload 5, 2) := by decide +kernel
theorem own_d17_5 : decode jdk_52_method_21_code 5 = .ok (.iload 4, 2) := by decide +kernel
theorem own_d17_7 : decode jdk_52_method_21_code 7 = .ok (.if_icmp .ge 37, 3) := by decide +kernel
theorem own_d17_10 : decode jdk_52_method_21_code 10 = .ok (.aload_n 0, 1) := by decide +kernel
theorem own_d17_11 : decode jdk_52_method_21_code 11 = .ok (.iload_n 1, 1) := by decide +kernel
theorem own_d17_12 : decode jdk_52_method_21_code 12 = .ok (.caload, 1) := by decide +kernel
theorem own_d17_13 : decode jdk_52_method_21_code 13 = .ok (.istore 6, 2) := by decide +kernel
theorem own_d17_15 : decode jdk_52_method_21_code 15 = .ok (.iload 6, 2) := by decide +kernel
theorem own_d17_17 : decode jdk_52_method_21_code 17 = .ok (.sipush 255, 3) := by decide +kernel
theorem own_d17_20 : decode jdk_52_method_21_code 20 = .ok (.if_icmp .le 6, 3) := by decide +kernel
theorem own_d17_23 : decode jdk_52_method_21_code 23 = .ok (.iload 5, 2) := by decide +kernel
theorem own_d17_25 : decode jdk_52_method_21_code 25 = .ok (.ireturn, 1) := by decide +kernel
theorem own_d17_26 : decode jdk_52_method_21_code 26 = .ok (.aload_n 2, 1) := by decide +kernel
theorem own_d17_27 : decode jdk_52_method_21_code 27 = .ok (.iload_n 3, 1) := by decide +kernel
theorem own_d17_28 : decode jdk_52_method_21_code 28 = .ok (.iload 6, 2) := by decide +kernel
theorem own_d17_30 : decode jdk_52_method_21_code 30 = .ok (.i2b, 1) := by decide +kernel
theorem own_d17_31 : decode jdk_52_method_21_code 31 = .ok (.bastore, 1) := by decide +kernel
theorem own_d17_32 : decode jdk_52_method_21_code 32 = .ok (.iinc 1 1, 3) := by decide +kernel
theorem own_d17_35 : decode jdk_52_method_21_code 35 = .ok (.iinc 3 1, 3) := by decide +kernel
theorem own_d17_38 : decode jdk_52_method_21_code 38 = .ok (.iinc 5 1, 3) := by decide +kernel
theorem own_d17_41 : decode jdk_52_method_21_code 41 = .ok (.goto (-38), 3) := by decide +kernel
theorem own_d17_44 : decode jdk_52_method_21_code 44 = .ok (.iload 4, 2) := by decide +kernel
theorem own_d17_46 : decode jdk_52_method_21_code 46 = .ok (.ireturn, 1) := by decide +kernel
def Q_own_com5_1 (Z : State) (r1 : Addr) (r2 : Addr) (k1 : ClassId) (k2 : ClassId) (x0 : Int32) (h0 : Heap) (n0 : Nat) (v : Option Value) (h : Heap) (L : List Loc) : Prop := ∃ (cnt : Int32), ∃ (vs : List Value), v = some (.int cnt) ∧ Fr n0 L ∧ Keep h0 h [r2] ∧ Arv Z h r2 k2 .byte (1 : Int32) vs (.int (0 : Int32)) ∧ ((cnt = (1 : Int32) ∧ vs = [(.int (x0).toInt8.toInt32)] ∧ ¬ ((255 : Int32) < x0)) ∨ (cnt = (0 : Int32) ∧ (255 : Int32) < x0))
theorem own_ef_own_com5_1 (m : MethodId) (r1 : Addr) (r2 : Addr) : entryFrame m #[(.ref r1), (.int (0 : Int32)), (.ref r2), (.int (0 : Int32)), (.int (1 : Int32))] 7 = mkF m 0 #[rv r1, iv (0 : Int32), rv r2, iv (0 : Int32), iv (1 : Int32), .unset, .unset] [] := by first | (simp [entryFrame, mkF, argsToLocals, Value.category]; done) | rfl
set_option maxRecDepth 65536 in
set_option maxHeartbeats 40000000 in
theorem own_com5_1 (l : Launch) (Z : State) (a0 : Array Value) (hw : ∀ d ∈ tables_1, d.before a0 Z = true) (ws : List Jvm.Cond) (r1 : Addr) (r2 : Addr) (k1 : ClassId) (k2 : ClassId) (x0 : Int32) (h0 : Heap) (n0 : Nat) (Z0 : n0 ≤ h0.size) (V1 : Arv Z h0 r1 k1 .char (1 : Int32) [(.int x0)] (.int (0 : Int32))) (V2 : Arv Z h0 r2 k2 .byte (1 : Int32) [(.int (0 : Int32))] (.int (0 : Int32))) (g2 : n0 ≤ r2) (n12 : r1 ≠ r2) :
    own_Ctr l Z (⟨"java/lang/StringUTF16", "compress", "([CI[BII)I"⟩ : MethodName) jdk_52_method_21_code 7 (some .int) ws ({ frames := 0, cells := 0, slots := 0, locals := 0 } : Room) (({ frames := 0, cells := 0, slots := 0, locals := 0 } : Room)).cells (({ frames := 0, cells := 0, slots := 0, locals := 0 } : Room)).slots #[(.ref r1), (.int (0 : Int32)), (.ref r2), (.int (0 : Int32)), (.int (1 : Int32))] h0 (Q_own_com5_1 Z r1 r2 k1 k2 x0 h0 n0) := by
  refine own_enter (plainFor_of_name own_pn2) ?_
  intro p e s m below meth c s₁ X0 hx hZ hby hml hown hnm hlk hret e0
  have N0 := Fr.nil n0
  refine own_cast (own_ef_own_com5_1 m r1 r2) ?_
  refine own_by (g' := (mkF m 12 #[rv r1, iv (0 : Int32), rv r2, iv (0 : Int32), iv (1 : Int32), iv (0 : Int32), .unset] [(.int (0 : Int32)), (.ref r1)])) (fun t k => XS.iconst X0.here hx rfl (hb hby own_d17_0) (XS.istore X0.here hx rfl (hb hby own_d17_1) rfl (l' := #[rv r1, iv (0 : Int32), rv r2, iv (0 : Int32), iv (1 : Int32), iv (0 : Int32), .unset]) rfl (XS.iload X0.here hx rfl (hb hby own_d17_3) rfl (XS.iload X0.here hx rfl (hb hby own_d17_5) rfl (XS.icmpNo X0.here hx rfl (hb hby own_d17_7) rfl (tlt (by decide : (0 : Int32) < (1 : Int32))).2.1 (XS.aloadN X0.here hx rfl (hb hby own_d17_10) rfl rfl (XS.iloadN X0.here hx rfl (hb hby own_d17_11) rfl k))))))) ?_
  obtain ⟨c101, Ar101, q101, S101, G101, H101, F101⟩ := id V1
  have hin101 : ¬ ((0 : Int32) < 0 ∨ c101.slots.size ≤ ((0 : Int32)).toNatClampNeg) := inb_of S101 ⟨by decide, by decide⟩
  have hat101 : c101.slots[((0 : Int32)).toNatClampNeg]? = some (.int x0) := H101.at hin101 rfl
  refine own_by (g' := (mkF m 20 #[rv r1, iv (0 : Int32), rv r2, iv (0 : Int32), iv (1 : Int32), iv (0 : Int32), iv x0] [(.int (255 : Int32)), (.int x0)])) (fun t k => X0.caload hx (j := (0 : Int32)) (v := (.int x0)) (own_at_ e0 Ar101.1) (State.isArrayOf_alike hZ.alike Ar101.2.1) Ar101.2.2 hin101 hat101 (g := (mkF m 12 #[rv r1, iv (0 : Int32), rv r2, iv (0 : Int32), iv (1 : Int32), iv (0 : Int32), .unset] [(.int (0 : Int32)), (.ref r1)])) rfl rfl (hb hby own_d17_12) t (XS.istore X0.here hx rfl (hb hby own_d17_13) rfl (l' := #[rv r1, iv (0 : Int32), rv r2, iv (0 : Int32), iv (1 : Int32), iv (0 : Int32), iv x0]) rfl (XS.iload X0.here hx rfl (hb hby own_d17_15) rfl (XS.sipush X0.here hx rfl (hb hby own_d17_17) k)))) ?_
  by_cases hc102 : (255 : Int32) < x0
  ·
    refine own_by (g' := (mkF m 25 #[rv r1, iv (0 : Int32), rv r2, iv (0 : Int32), iv (1 : Int32), iv (0 : Int32), iv x0] [(.int (0 : Int32))])) (fun t k => XS.icmpNo X0.here hx rfl (hb hby own_d17_20) rfl (tlt hc102).2.2.2 (XS.iload X0.here hx rfl (hb hby own_d17_23) rfl k)) ?_
    refine own_retI X0 hx hlk hret (hb hby own_d17_25) (by decide) (by decide) ?_
    rw [e0]
    exact ⟨(0 : Int32), [(.int (0 : Int32))], rfl, N0, (Keep.refl h0 [r2]), V2, (Or.inr (⟨rfl, hc102⟩))⟩
  ·
    refine own_by (g' := (mkF m 31 #[rv r1, iv (0 : Int32), rv r2, iv (0 : Int32), iv (1 : Int32), iv (0 : Int32), iv x0] [(.int (x0).toInt8.toInt32), (.int (0 : Int32)), (.ref r2)])) (fun t k => XS.icmpYes X0.here hx rfl (pc0 := 20) (pc' := 26) rfl (hb hby own_d17_20) rfl (flt hc102).2.2.2 (by decide) (by decide) (XS.aloadN X0.here hx rfl (hb hby own_d17_26) rfl rfl (XS.iloadN X0.here hx rfl (hb hby own_d17_27) rfl (XS.iload X0.here hx rfl (hb hby own_d17_28) rfl (XS.i2b X0.here hx rfl (hb hby own_d17_30) rfl k))))) ?_
    obtain ⟨c103, Ar103, q103, S103, G103, H103, F103⟩ := id V2
    have hin103 : ¬ ((0 : Int32) < 0 ∨ c103.slots.size ≤ ((0 : Int32)).toNatClampNeg) := inb_of S103 ⟨by decide, by decide⟩
    obtain ⟨T103, h103, X103, e103, W103, st103⟩ := stB X0 hx hZ e0 Ar103 (j := (0 : Int32)) hin103 (g := (mkF m 31 #[rv r1, iv (0 : Int32), rv r2, iv (0 : Int32), iv (1 : Int32), iv (0 : Int32), iv x0] [(.int (x0).toInt8.toInt32), (.int (0 : Int32)), (.ref r2)])) rfl rfl (hb hby own_d17_31)
    have V104 : Arv Z h103 r2 k2 .byte (1 : Int32) [(.int (x0).toInt8.toInt32)] (.int (0 : Int32)) := Arv.set Ar103 q103 S103 G103 H103 F103 (fits_nar_byte _) (own_wr W103 (congrArg Value.int (own_b8 _))) 0 rfl (Nat.le_of_ble_eq_true rfl)
    have N103 := Fr.snoc X103 N0 g2
    refine own_by (g' := (mkF m 32 #[rv r1, iv (0 : Int32), rv r2, iv (0 : Int32), iv (1 : Int32), iv (0 : Int32), iv x0] [])) st103 ?_
    refine own_by (g' := (mkF m 46 #[rv r1, iv (1 : Int32), rv r2, iv (1 : Int32), iv (1 : Int32), iv (1 : Int32), iv x0] [(.int (1 : Int32))])) (fun t k => XS.iinc X103.here hx rfl (hb hby own_d17_32) rfl (l' := #[rv r1, iv (1 : Int32), rv r2, iv (0 : Int32), iv (1 : Int32), iv (0 : Int32), iv x0]) rfl (XS.iinc X103.here hx rfl (hb hby own_d17_35) rfl (l' := #[rv r1, iv (1 : Int32), rv r2, iv (1 : Int32), iv (1 : Int32), iv (0 : Int32), iv x0]) rfl (XS.iinc X103.here hx rfl (hb hby own_d17_38) rfl (l' := #[rv r1, iv (1 : Int32), rv r2, iv (1 : Int32), iv (1 : Int32), iv (1 : Int32), iv x0]) rfl (XS.goto X103.here hx rfl (pc0 := 41) (pc' := 3) rfl (hb hby own_d17_41) (by decide) (by decide) (XS.iload X103.here hx rfl (hb hby own_d17_3) rfl (XS.iload X103.here hx rfl (hb hby own_d17_5) rfl (XS.icmpYes X103.here hx rfl (pc0 := 7) (pc' := 44) rfl (hb hby own_d17_7) rfl (flt (by decide : ¬ ((1 : Int32) < (1 : Int32)))).2.1 (by decide) (by decide) (XS.iload X103.here hx rfl (hb hby own_d17_44) rfl k)))))))) ?_
    refine own_retI X103 hx hlk hret (hb hby own_d17_46) (by decide) (by decide) ?_
    rw [e103]
    exact ⟨(1 : Int32), [(.int (x0).toInt8.toInt32)], rfl, N103, ((Keep.refl h0 [r2]).wr W103 (Or.inl (List.mem_of_getElem? (i := 0) rfl))), V104, (Or.inl ⟨rfl, rfl, hc102⟩)⟩
theorem own_d16_0 : decode jdk_52_method_16_code 0 = .ok (.iload_n 2, 1) := by decide +kernel
theorem own_d16_1 : decode jdk_52_method_16_code 1 = .ok (.newarray .byte, 2) := by decide +kernel
theorem own_d16_3 : decode jdk_52_method_16_code 3 = .ok (.astore_n 3, 1) := by decide +kernel
theorem own_d16_4 : decode jdk_52_method_16_code 4 = .ok (.aload_n 0, 1) := by decide +kernel
theorem own_d16_5 : decode jdk_52_method_16_code 5 = .ok (.iload_n 1, 1) := by decide +kernel
theorem own_d16_6 : decode jdk_52_method_16_code 6 = .ok (.aload_n 3, 1) := by decide +kernel
theorem own_d16_7 : decode jdk_52_method_16_code 7 = .ok (.iconst 0, 1) := by decide +kernel
theorem own_d16_8 : decode jdk_52_method_16_code 8 = .ok (.iload_n 2, 1) := by decide +kernel
theorem own_d16_9 : decode jdk_52_method_16_code 9 = .ok (.invokestatic 115, 3) := by decide +kernel
theorem own_pd10 : parseMethodDescriptor "([CI[BII)I" = some ⟨[(.array .char), .int, (.array .byte), .int, .int], some .int⟩ := by decide +kernel
theorem own_d16_12 : decode jdk_52_method_16_code 12 = .ok (.istore 4, 2) := by decide +kernel
theorem own_d16_14 : decode jdk_52_method_16_code 14 = .ok (.iload 4, 2) := by decide +kernel
theorem own_d16_16 : decode jdk_52_method_16_code 16 = .ok (.iload_n 2, 1) := by decide +kernel
theorem own_d16_17 : decode jdk_52_method_16_code 17 = .ok (.if_icmp .eq 40, 3) := by decide +kernel
theorem own_d16_57 : decode jdk_52_method_16_code 57 = .ok (.aload_n 3, 1) := by decide +kernel
theorem own_d16_58 : decode jdk_52_method_16_code 58 = .ok (.areturn, 1) := by decide +kernel
theorem own_d16_20 : decode jdk_52_method_16_code 20 = .ok (.aload_n 0, 1) := by decide +kernel
theorem own_d16_21 : decode jdk_52_method_16_code 21 = .ok (.iload_n 1, 1) := by decide +kernel
theorem own_d16_22 : decode jdk_52_method_16_code 22 = .ok (.iload_n 2, 1) := by decide +kernel
theorem own_d16_23 : decode jdk_52_method_16_code 23 = .ok (.invokestatic 119, 3) := by decide +kernel
theorem own_pd11 : parseMethodDescriptor "([CII)[B" = some ⟨[(.array .char), .int, .int], some (.array .byte)⟩ := by decide +kernel
theorem own_d16_26 : decode jdk_52_method_16_code 26 = .ok (.astore 5, 2) := by decide +kernel
theorem own_d16_28 : decode jdk_52_method_16_code 28 = .ok (.aload 5, 2) := by decide +kernel
theorem own_d16_30 : decode jdk_52_method_16_code 30 = .ok (.iload 4, 2) := by decide +kernel
theorem own_d16_32 : decode jdk_52_method_16_code 32 = .ok (.invokestatic 71, 3) := by decide +kernel
theorem own_d16_35 : decode jdk_52_method_16_code 35 = .ok (.sipush 255, 3) := by decide +kernel
theorem own_d16_38 : decode jdk_52_method_16_code 38 = .ok (.if_icmp .gt 16, 3) := by decide +kernel
theorem own_d16_54 : decode jdk_52_method_16_code 54 = .ok (.aload 5, 2) := by decide +kernel
theorem own_d16_56 : decode jdk_52_method_16_code 56 = .ok (.areturn, 1) := by decide +kernel
def Q_own_com3_1 (Z : State) (r1 : Addr) (k1 : ClassId) (x0 : Int32) (h0 : Heap) (n0 : Nat) (v : Option Value) (h : Heap) (L : List Loc) : Prop := ∃ (bo : Addr), ∃ (kb : ClassId), ∃ (ln : Int32), ∃ (vs : List Value), v = some (.ref bo) ∧ Fr n0 L ∧ Keep h0 h [] ∧ h0.size ≤ bo ∧ Exa Z h bo "[B" ∧ Arv Z h bo kb .byte ln vs (.int (0 : Int32)) ∧ ((ln = (1 : Int32) ∧ vs = [(.int (x0).toInt8.toInt32)] ∧ ¬ ((255 : Int32) < x0)) ∨ (ln = (2 : Int32) ∧ vs = [(.int ((x0 >>> ((0 : Int32) &&& 31))).toInt8.toInt32), (.int ((x0 >>> ((8 : Int32) &&& 31))).toInt8.toInt32)]))
theorem own_ef_own_com3_1 (m : MethodId) (r1 : Addr) : entryFrame m #[(.ref r1), (.int (0 : Int32)), (.int (1 : Int32))] 6 = mkF m 0 #[rv r1, iv (0 : Int32), iv (1 : Int32), .unset, .unset, .unset] [] := by first | (simp [entryFrame, mkF, argsToLocals, Value.category]; done) | rfl
set_option maxRecDepth 65536 in
set_option maxHeartbeats 40000000 in
theorem own_com3_1 (l : Launch) (Z : State) (a0 : Array Value) (hw : ∀ d ∈ tables_1, d.before a0 Z = true) (ws : List Jvm.Cond) (r1 : Addr) (k1 : ClassId) (x0 : Int32) (h0 : Heap) (n0 : Nat) (Z0 : n0 ≤ h0.size) (O0 : Old Z n0 h0) (S_ad : Sta Z Z.heap "java/lang/StringUTF16" "$assertionsDisabled" "Z" (.int (1 : Int32))) (S_hi : Sta Z Z.heap "java/lang/StringUTF16" "HI_BYTE_SHIFT" "I" (.int (0 : Int32))) (S_lo : Sta Z Z.heap "java/lang/StringUTF16" "LO_BYTE_SHIFT" "I" (.int (8 : Int32))) (hk0 : own_ch x0) (V1 : Arv Z h0 r1 k1 .char (1 : Int32) [(.int x0)] (.int (0 : Int32))) :
    own_Ctr l Z (⟨"java/lang/StringUTF16", "compress", "([CII)[B"⟩ : MethodName) jdk_52_method_16_code 6 (some (.array .byte)) ws ({ frames := 3, cells := 2, slots := 3, locals := 40 } : Room) (({ frames := 3, cells := 2, slots := 3, locals := 40 } : Room)).cells (({ frames := 3, cells := 2, slots := 3, locals := 40 } : Room)).slots #[(.ref r1), (.int (0 : Int32)), (.int (1 : Int32))] h0 (Q_own_com3_1 Z r1 k1 x0 h0 n0) := by
  refine own_enter (plainFor_of_name own_pn2) ?_
  intro p e s m below meth c s₁ X0 hx hZ hby hml hown hnm hlk hret e0
  have N0 := Fr.nil n0
  refine own_cast (own_ef_own_com3_1 m r1) ?_
  refine own_by (g' := (mkF m 1 #[rv r1, iv (0 : Int32), iv (1 : Int32), .unset, .unset, .unset] [(.int (1 : Int32))])) (fun t k => XS.iloadN X0.here hx rfl (hb hby own_d16_0) rfl k) ?_
  obtain ⟨T101, h101, k101, X101, e101, E101, A101, Y101, st101⟩ := newPE X0 hx hZ (hw _ (List.mem_of_getElem? (i := 23) rfl)) e0 (g := (mkF m 1 #[rv r1, iv (0 : Int32), iv (1 : Int32), .unset, .unset, .unset] [(.int (1 : Int32))])) rfl (hb hby own_d16_1) rfl (by decide) (cap := 1) (by decide) (by decide) (by decide) (by decide) (ad := "[B") own_ad_byte
  obtain ⟨b101, g101⟩ : ∃ z, z = h0.size := ⟨_, rfl⟩
  rw [← g101] at A101 Y101 st101
  have sz_b101 : h0.size ≤ b101 := Nat.le_trans (Nat.le_refl _) (Nat.le_of_eq g101.symm)
  have g_b101 : n0 ≤ b101 := Nat.le_trans Z0 sz_b101
  have V101 : Arv Z h101 b101 k101 .byte (1 : Int32) [(.int (0 : Int32))] (.int (0 : Int32)) := (Arv.new A101 (by decide)).pad (pad_rep [] (.int (0 : Int32)) 1)
  refine own_by (g' := (mkF m 3 #[rv r1, iv (0 : Int32), iv (1 : Int32), .unset, .unset, .unset] [(.ref b101)])) st101 ?_
  refine own_by (g' := (mkF m 9 #[rv r1, iv (0 : Int32), iv (1 : Int32), rv b101, .unset, .unset] [(.int (1 : Int32)), (.int (0 : Int32)), (.ref b101), (.int (0 : Int32)), (.ref r1)])) (fun t k => XS.astoreN X101.here hx rfl (hb hby own_d16_3) rfl rfl (l' := #[rv r1, iv (0 : Int32), iv (1 : Int32), rv b101, .unset, .unset]) rfl (XS.aloadN X101.here hx rfl (hb hby own_d16_4) rfl rfl (XS.iloadN X101.here hx rfl (hb hby own_d16_5) rfl (XS.aloadN X101.here hx rfl (hb hby own_d16_6) rfl rfl (XS.iconst X101.here hx rfl (hb hby own_d16_7) (XS.iloadN X101.here hx rfl (hb hby own_d16_8) rfl k)))))) ?_
  have f102 := (V1.ext E101)
  refine own_callS X101 hx hZ hown (hw _ (List.mem_of_getElem? (i := 82) rfl)) (hw _ (List.mem_of_getElem? (i := 83) rfl)) (hw _ (List.mem_of_getElem? (i := 80) rfl)) (hw _ (List.mem_of_getElem? (i := 84) rfl)) (by decide) (own_com5_1 l Z a0 hw [] (r1) (b101) (k1) (k101) (x0) h101 n0 (Nat.le_trans Z0 E101.1) f102 V101 g_b101 (Nat.ne_of_lt (Nat.lt_of_lt_of_le (Nat.lt_of_lt_of_le V1.lt (Nat.le_refl _)) (Nat.le_of_eq g101.symm)))) 0 (by decide) (by decide) (by decide) (by decide) e101 (g := (mkF m 9 #[rv r1, iv (0 : Int32), iv (1 : Int32), rv b101, .unset, .unset] [(.int (1 : Int32)), (.int (0 : Int32)), (.ref b101), (.int (0 : Int32)), (.ref r1)])) rfl (by rw [hml]; rfl) (argsL := [(.ref r1), (.int (0 : Int32)), (.ref b101), (.int (0 : Int32)), (.int (1 : Int32))]) (rest := []) (lenOf own_pd10 rfl) rfl (by show 2 * 0 + _ ≤ _; exact Nat.le_of_eq rfl) (hb hby own_d16_9) ?_
  intro v103 T103 L103 X103 q103
  obtain ⟨cnt103, vs103, rfl, N103q, K103, f104, f105⟩ := q103
  have N103 := Fr.app N0 N103q
  show own_Goes p e below s _ _ _ T103 (mkF m 12 #[rv r1, iv (0 : Int32), iv (1 : Int32), rv b101, .unset, .unset] [(.int cnt103)])
  rcases f105 with ⟨rfl, rfl, hq0⟩ | ⟨rfl, hq0⟩
  ·
    refine own_by (g' := (mkF m 58 #[rv r1, iv (0 : Int32), iv (1 : Int32), rv b101, iv (1 : Int32), .unset] [(.ref b101)])) (fun t k => XS.istore X103.here hx rfl (hb hby own_d16_12) rfl (l' := #[rv r1, iv (0 : Int32), iv (1 : Int32), rv b101, iv (1 : Int32), .unset]) rfl (XS.iload X103.here hx rfl (hb hby own_d16_14) rfl (XS.iloadN X103.here hx rfl (hb hby own_d16_16) rfl (XS.icmpYes X103.here hx rfl (pc0 := 17) (pc' := 57) rfl (hb hby own_d16_17) rfl (teq (by decide : (1 : Int32) = (1 : Int32))).1 (by decide) (by decide) (XS.aloadN X103.here hx rfl (hb hby own_d16_57) rfl rfl k))))) ?_
    have f106 := (Y101.keep K103)
    refine own_retA X103 hx hlk hret rfl rfl (hb hby own_d16_58) (by decide) (by decide) ?_
    exact ⟨b101, k101, (1 : Int32), [(.int (x0).toInt8.toInt32)], rfl, N103, (((Keep.refl h0 []).ext E101).trans K103 (allS (Or.inr sz_b101) all0)), sz_b101, f106, f104, (Or.inl ⟨rfl, rfl, hq0⟩)⟩
  ·
    refine own_by (g' := (mkF m 23 #[rv r1, iv (0 : Int32), iv (1 : Int32), rv b101, iv (0 : Int32), .unset] [(.int (1 : Int32)), (.int (0 : Int32)), (.ref r1)])) (fun t k => XS.istore X103.here hx rfl (hb hby own_d16_12) rfl (l' := #[rv r1, iv (0 : Int32), iv (1 : Int32), rv b101, iv (0 : Int32), .unset]) rfl (XS.iload X103.here hx rfl (hb hby own_d16_14) rfl (XS.iloadN X103.here hx rfl (hb hby own_d16_16) rfl (XS.icmpNo X103.here hx rfl (hb hby own_d16_17) rfl (feq (by decide : ¬ ((0 : Int32) = (1 : Int32)))).1 (XS.aloadN X103.here hx rfl (hb hby own_d16_20) rfl rfl (XS.iloadN X103.here hx rfl (hb hby own_d16_21) rfl (XS.iloadN X103.here hx rfl (hb hby own_d16_22) rfl k))))))) ?_
    have f107 := ((O0.ext E101).keep K103 (allS g_b101 all0))
    have f108 := (f102.keep K103 (ninS (Nat.ne_of_lt (Nat.lt_of_lt_of_le (Nat.lt_of_lt_of_le V1.lt (Nat.le_refl _)) (Nat.le_of_eq g101.symm))) nin0))
    refine own_callS X103 hx hZ hown (hw _ (List.mem_of_getElem? (i := 115) rfl)) (hw _ (List.mem_of_getElem? (i := 116) rfl)) (hw _ (List.mem_of_getElem? (i := 80) rfl)) (hw _ (List.mem_of_getElem? (i := 117) rfl)) (by decide) (own_tob1 l Z a0 hw [] (r1) (k1) (x0) T103.heap n0 (Nat.le_trans Z0 (Nat.le_trans E101.1 K103.1)) f107 S_ad S_hi S_lo f108) 0 (by decide) (by decide) (by decide) (by decide) rfl (g := (mkF m 23 #[rv r1, iv (0 : Int32), iv (1 : Int32), rv b101, iv (0 : Int32), .unset] [(.int (1 : Int32)), (.int (0 : Int32)), (.ref r1)])) rfl (by rw [hml]; rfl) (argsL := [(.ref r1), (.int (0 : Int32)), (.int (1 : Int32))]) (rest := []) (lenOf own_pd11 rfl) rfl (by show 2 * 0 + _ ≤ _; exact Nat.le_of_eq rfl) (hb hby own_d16_23) ?_
    intro v109 T109 L109 X109 q109
    obtain ⟨bo109, kb109, rfl, N109q, K109, f110, f111, f112⟩ := q109
    have N109 := Fr.app N103 N109q
    show own_Goes p e below s _ _ _ T109 (mkF m 26 #[rv r1, iv (0 : Int32), iv (1 : Int32), rv b101, iv (0 : Int32), .unset] [(.ref bo109)])
    refine own_by (g' := (mkF m 32 #[rv r1, iv (0 : Int32), iv (1 : Int32), rv b101, iv (0 : Int32), rv bo109] [(.int (0 : Int32)), (.ref bo109)])) (fun t k => XS.astore X109.here hx rfl (hb hby own_d16_26) rfl rfl (l' := #[rv r1, iv (0 : Int32), iv (1 : Int32), rv b101, iv (0 : Int32), rv bo109]) rfl (XS.aload X109.here hx rfl (hb hby own_d16_28) rfl rfl (XS.iload X109.here hx rfl (hb hby own_d16_30) rfl k))) ?_
    have f113 := (f107.keep K109 all0)
    refine own_callS X109 hx hZ hown (hw _ (List.mem_of_getElem? (i := 131) rfl)) (hw _ (List.mem_of_getElem? (i := 132) rfl)) (hw _ (List.mem_of_getElem? (i := 80) rfl)) (hw _ (List.mem_of_getElem? (i := 133) rfl)) (by decide) (own_getc0 l Z a0 hw [] (bo109) (kb109) ((2 : Int32)) ([(.int ((x0 >>> ((0 : Int32) &&& 31))).toInt8.toInt32), (.int ((x0 >>> ((8 : Int32) &&& 31))).toInt8.toInt32)]) (((x0 >>> ((0 : Int32) &&& 31))).toInt8.toInt32) (((x0 >>> ((8 : Int32) &&& 31))).toInt8.toInt32) (x0) T109.heap n0 (Nat.le_trans Z0 (Nat.le_trans (Nat.le_trans E101.1 K103.1) K109.1)) f113 S_ad S_hi S_lo f112 (by first | assumption | decide) (by first | assumption | decide) rfl rfl (own_utf x0 hk0)) 0 (by decide) (by decide) (by decide) (by decide) rfl (g := (mkF m 32 #[rv r1, iv (0 : Int32), iv (1 : Int32), rv b101, iv (0 : Int32), rv bo109] [(.int (0 : Int32)), (.ref bo109)])) rfl (by rw [hml]; rfl) (argsL := [(.ref bo109), (.int (0 : Int32))]) (rest := []) (lenOf own_pd4 rfl) rfl (by show 2 * 0 + _ ≤ _; exact Nat.le_of_eq rfl) (hb hby own_d16_32) ?_
    intro v114 T114 L114 X114 q114
    obtain ⟨rfl, N114q, e114⟩ := q114
    have N114 := Fr.app N109 N114q
    show own_Goes p e below s _ _ _ T114 (mkF m 35 #[rv r1, iv (0 : Int32), iv (1 : Int32), rv b101, iv (0 : Int32), rv bo109] [(.int x0)])
    refine own_by (g' := (mkF m 56 #[rv r1, iv (0 : Int32), iv (1 : Int32), rv b101, iv (0 : Int32), rv bo109] [(.ref bo109)])) (fun t k => XS.sipush X114.here hx rfl (hb hby own_d16_35) (XS.icmpYes X114.here hx rfl (pc0 := 38) (pc' := 54) rfl (hb hby own_d16_38) rfl (tlt hq0).2.2.1 (by decide) (by decide) (XS.aload X114.here hx rfl (hb hby own_d16_54) rfl rfl k))) ?_
    refine own_retA X114 hx hlk hret rfl rfl (hb hby own_d16_56) (by decide) (by decide) ?_
    rw [e114]
    exact ⟨bo109, kb109, (2 : Int32), [(.int ((x0 >>> ((0 : Int32) &&& 31))).toInt8.toInt32), (.int ((x0 >>> ((8 : Int32) &&& 31))).toInt8.toInt32)], rfl, N114, ((((Keep.refl h0 []).ext E101).trans K103 (allS (Or.inr sz_b101) all0)).trans K109 all0), (Nat.le_trans (Nat.le_trans E101.1 K103.1) f110), f111, f112, (Or.inr ⟨rfl, rfl⟩)⟩
theorem own_d18_0 : decode jdk_52_method_15_code 0 = .ok (.iload_n 1, 1) := by decide +kernel
theorem own_d18_1 : decode jdk_52_method_15_code 1 = .ok (.aload_n 0, 1) := by decide +kernel
theorem own_d18_2 : decode jdk_52_method_15_code 2 = .ok (.arraylength, 1) := by decide +kernel
theorem own_d18_3 : decode jdk_52_method_15_code 3 = .ok (.isub, 1) := by decide +kernel
theorem own_d18_4 : decode jdk_52_method_15_code 4 = .ok (.bipush 31, 2) := by decide +kernel
theorem own_d18_6 : decode jdk_52_method_15_code 6 = .ok (.iushr, 1) := by decide +kernel
theorem own_d18_7 : decode jdk_52_method_15_code 7 = .ok (.i2b, 1) := by decide +kernel
theorem own_d18_8 : decode jdk_52_method_15_code 8 = .ok (.ireturn, 1) := by decide +kernel
def Q_own_cfa1_0 (Z : State) (r1 : Addr) (k1 : ClassId) (vs : List Value) (h0 : Heap) (n0 : Nat) (v : Option Value) (h : Heap) (L : List Loc) : Prop := v = some (.int (0 : Int32)) ∧ Fr n0 L ∧ h = h0
theorem own_ef_own_cfa1_0 (m : MethodId) (r1 : Addr) : entryFrame m #[(.ref r1), (.int (1 : Int32))] 2 = mkF m 0 #[rv r1, iv (1 : Int32)] [] := by first | (simp [entryFrame, mkF, argsToLocals, Value.category]; done) | rfl
set_option maxRecDepth 65536 in
set_option maxHeartbeats 40000000 in
theorem own_cfa1_0 (l : Launch) (Z : State) (a0 : Array Value) (hw : ∀ d ∈ tables_1, d.before a0 Z = true) (ws : List Jvm.Cond) (r1 : Addr) (k1 : ClassId) (vs : List Value) (h0 : Heap) (n0 : Nat) (Z0 : n0 ≤ h0.size) (V1 : Arv Z h0 r1 k1 .byte (1 : Int32) vs (.int (0 : Int32))) :
    own_Ctr l Z (⟨"java/lang/StringUTF16", "coderFromArrayLen", "([BI)B"⟩ : MethodName) jdk_52_method_15_code 2 (some .byte) ws ({ frames := 0, cells := 0, slots := 0, locals := 0 } : Room) (({ frames := 0, cells := 0, slots := 0, locals := 0 } : Room)).cells (({ frames := 0, cells := 0, slots := 0, locals := 0 } : Room)).slots #[(.ref r1), (.int (1 : Int32))] h0 (Q_own_cfa1_0 Z r1 k1 vs h0 n0) := by
  refine own_enter (plainFor_of_name own_pn2) ?_
  intro p e s m below meth c s₁ X0 hx hZ hby hml hown hnm hlk hret e0
  have N0 := Fr.nil n0
  refine own_cast (own_ef_own_cfa1_0 m r1) ?_
  refine own_by (g' := (mkF m 2 #[rv r1, iv (1 : Int32)] [(.ref r1), (.int (1 : Int32))])) (fun t k => XS.iloadN X0.here hx rfl (hb hby own_d18_0) rfl (XS.aloadN X0.here hx rfl (hb hby own_d18_1) rfl rfl k)) ?_
  obtain ⟨c101, Ar101, -, S101, G101, -, -⟩ := id V1
  refine own_by (g' := (mkF m 3 #[rv r1, iv (1 : Int32)] [(.int (1 : Int32)), (.int (1 : Int32))])) (fun t k => X0.arraylength hx (own_at_ e0 Ar101.1) (State.isArrayOf_alike hZ.alike Ar101.2.1) (g := (mkF m 2 #[rv r1, iv (1 : Int32)] [(.ref r1), (.int (1 : Int32))])) rfl rfl (hb hby own_d18_2) t (by rw [len_of S101 G101]; exact k)) ?_
  refine own_by (g' := (mkF m 8 #[rv r1, iv (1 : Int32)] [(.int ((((0 : Int32)).toUInt32 >>> ((31 : Int32) &&& 31).toUInt32).toInt32).toInt8.toInt32)])) (fun t k => XS.isub X0.here hx rfl (hb hby own_d18_3) rfl (XS.bipush X0.here hx rfl (hb hby own_d18_4) (XS.iushr X0.here hx rfl (hb hby own_d18_6) rfl (XS.i2b X0.here hx rfl (hb hby own_d18_7) rfl k)))) ?_
  refine own_retN X0 hx hlk hret (t := .byte) (by simp) (hb hby own_d18_8) (by decide) (by decide) ?_
  exact ⟨(by decide), N0, e0⟩
def Q_own_cfa1_1 (Z : State) (r1 : Addr) (k1 : ClassId) (vs : List Value) (h0 : Heap) (n0 : Nat) (v : Option Value) (h : Heap) (L : List Loc) : Prop := v = some (.int (1 : Int32)) ∧ Fr n0 L ∧ h = h0
theorem own_ef_own_cfa1_1 (m : MethodId) (r1 : Addr) : entryFrame m #[(.ref r1), (.int (1 : Int32))] 2 = mkF m 0 #[rv r1, iv (1 : Int32)] [] := by first | (simp [entryFrame, mkF, argsToLocals, Value.category]; done) | rfl
set_option maxRecDepth 65536 in
set_option maxHeartbeats 40000000 in
theorem own_cfa1_1 (l : Launch) (Z : State) (a0 : Array Value) (hw : ∀ d ∈ tables_1, d.before a0 Z = true) (ws : List Jvm.Cond) (r1 : Addr) (k1 : ClassId) (vs : List Value) (h0 : Heap) (n0 : Nat) (Z0 : n0 ≤ h0.size) (V1 : Arv Z h0 r1 k1 .byte (2 : Int32) vs (.int (0 : Int32))) :
    own_Ctr l Z (⟨"java/lang/StringUTF16", "coderFromArrayLen", "([BI)B"⟩ : MethodName) jdk_52_method_15_code 2 (some .byte) ws ({ frames := 0, cells := 0, slots := 0, locals := 0 } : Room) (({ frames := 0, cells := 0, slots := 0, locals := 0 } : Room)).cells (({ frames := 0, cells := 0, slots := 0, locals := 0 } : Room)).slots #[(.ref r1), (.int (1 : Int32))] h0 (Q_own_cfa1_1 Z r1 k1 vs h0 n0) := by
  refine own_enter (plainFor_of_name own_pn2) ?_
  intro p e s m below meth c s₁ X0 hx hZ hby hml hown hnm hlk hret e0
  have N0 := Fr.nil n0
  refine own_cast (own_ef_own_cfa1_1 m r1) ?_
  refine own_by (g' := (mkF m 2 #[rv r1, iv (1 : Int32)] [(.ref r1), (.int (1 : Int32))])) (fun t k => XS.iloadN X0.here hx rfl (hb hby own_d18_0) rfl (XS.aloadN X0.here hx rfl (hb hby own_d18_1) rfl rfl k)) ?_
  obtain ⟨c101, Ar101, -, S101, G101, -, -⟩ := id V1
  refine own_by (g' := (mkF m 3 #[rv r1, iv (1 : Int32)] [(.int (2 : Int32)), (.int (1 : Int32))])) (fun t k => X0.arraylength hx (own_at_ e0 Ar101.1) (State.isArrayOf_alike hZ.alike Ar101.2.1) (g := (mkF m 2 #[rv r1, iv (1 : Int32)] [(.ref r1), (.int (1 : Int32))])) rfl rfl (hb hby own_d18_2) t (by rw [len_of S101 G101]; exact k)) ?_
  refine own_by (g' := (mkF m 8 #[rv r1, iv (1 : Int32)] [(.int ((((-1 : Int32)).toUInt32 >>> ((31 : Int32) &&& 31).toUInt32).toInt32).toInt8.toInt32)])) (fun t k => XS.isub X0.here hx rfl (hb hby own_d18_3) rfl (XS.bipush X0.here hx rfl (hb hby own_d18_4) (XS.iushr X0.here hx rfl (hb hby own_d18_6) rfl (XS.i2b X0.here hx rfl (hb hby own_d18_7) rfl k)))) ?_
  refine own_retN X0 hx hlk hret (t := .byte) (by simp) (hb hby own_d18_8) (by decide) (by decide) ?_
  exact ⟨(by decide), N0, e0⟩
theorem own_d3_0 : decode jdk_42_method_149_code 0 = .ok (.aload_n 0, 1) := by decide +kernel
theorem own_d3_1 : decode jdk_42_method_149_code 1 = .ok (.invokespecial 1, 3) := by decide +kernel
theorem own_d3_4 : decode jdk_42_method_149_code 4 = .ok (.iload_n 3, 1) := by decide +kernel
theorem own_d3_5 : decode jdk_42_method_149_code 5 = .ok (.ifCond .ne 22, 3) := by decide +kernel
theorem own_d3_27 : decode jdk_42_method_149_code 27 = .ok (.getstatic 38, 3) := by decide +kernel
theorem own_d3_30 : decode jdk_42_method_149_code 30 = .ok (.ifCond .eq 28, 3) := by decide +kernel
theorem own_d3_33 : decode jdk_42_method_149_code 33 = .ok (.aload_n 1, 1) := by decide +kernel
theorem own_d3_34 : decode jdk_42_method_149_code 34 = .ok (.iload_n 2, 1) := by decide +kernel
theorem own_d3_35 : decode jdk_42_method_149_code 35 = .ok (.iload_n 3, 1) := by decide +kernel
theorem own_d3_36 : decode jdk_42_method_149_code 36 = .ok (.invokestatic 177, 3) := by decide +kernel
theorem own_d3_39 : decode jdk_42_method_149_code 39 = .ok (.astore 5, 2) := by decide +kernel
theorem own_d3_41 : decode jdk_42_method_149_code 41 = .ok (.aload_n 0, 1) := by decide +kernel
theorem own_d3_42 : decode jdk_42_method_149_code 42 = .ok (.aload 5, 2) := by decide +kernel
theorem own_d3_44 : decode jdk_42_method_149_code 44 = .ok (.iload_n 3, 1) := by decide +kernel
theorem own_d3_45 : decode jdk_42_method_149_code 45 = .ok (.invokestatic 47, 3) := by decide +kernel
theorem own_pd12 : parseMethodDescriptor "([BI)B" = some ⟨[(.array .byte), .int], some .byte⟩ := by decide +kernel
theorem own_d3_48 : decode jdk_42_method_149_code 48 = .ok (.putfield 15, 3) := by decide +kernel
theorem own_d3_51 : decode jdk_42_method_149_code 51 = .ok (.aload_n 0, 1) := by decide +kernel
theorem own_d3_52 : decode jdk_42_method_149_code 52 = .ok (.aload 5, 2) := by decide +kernel
theorem own_d3_54 : decode jdk_42_method_149_code 54 = .ok (.putfield 9, 3) := by decide +kernel
theorem own_d3_57 : decode jdk_42_method_149_code 57 = .ok (.return_, 1) := by decide +kernel
def Q_own_ini4_1 (Z : State) (r1 : Addr) (r2 : Addr) (k1 : ClassId) (x0 : Int32) (zcs : Int32) (h0 : Heap) (n0 : Nat) (v : Option Value) (h : Heap) (L : List Loc) : Prop := ∃ (ba : Addr), ∃ (kb : ClassId), ∃ (cd : Int32), ∃ (ln : Int32), ∃ (vs : List Value), v = none ∧ Fr n0 L ∧ Keep h0 h [r1] ∧ h0.size ≤ ba ∧ Exa Z h r1 "java/lang/String" ∧ Fld Z h r1 "java/lang/String" "value" "[B" (.ref ba) ∧ Fld Z h r1 "java/lang/String" "coder" "B" (.int cd) ∧ Arv Z h ba kb .byte ln vs (.int (0 : Int32)) ∧ Exa Z h ba "[B" ∧ own_s1 x0 cd ln vs
theorem own_ef_own_ini4_1 (m : MethodId) (r1 : Addr) (r2 : Addr) : entryFrame m #[(.ref r1), (.ref r2), (.int (0 : Int32)), (.int (1 : Int32)), .null] 6 = mkF m 0 #[rv r1, rv r2, iv (0 : Int32), iv (1 : Int32), .val .null, .unset] [] := by first | (simp [entryFrame, mkF, argsToLocals, Value.category]; done) | rfl
set_option maxRecDepth 65536 in
set_option maxHeartbeats 40000000 in
theorem own_ini4_1 (l : Launch) (Z : State) (a0 : Array Value) (hw : ∀ d ∈ tables_1, d.before a0 Z = true) (ws : List Jvm.Cond) (r1 : Addr) (r2 : Addr) (k1 : ClassId) (x0 : Int32) (zcs : Int32) (h0 : Heap) (n0 : Nat) (Z0 : n0 ≤ h0.size) (O0 : Old Z n0 h0) (S_cs : Sta Z Z.heap "java/lang/String" "COMPACT_STRINGS" "Z" (.int zcs)) (hcs : ¬ zcs = (0 : Int32)) (S_ad : Sta Z Z.heap "java/lang/StringUTF16" "$assertionsDisabled" "Z" (.int (1 : Int32))) (S_hi : Sta Z Z.heap "java/lang/StringUTF16" "HI_BYTE_SHIFT" "I" (.int (0 : Int32))) (S_lo : Sta Z Z.heap "java/lang/StringUTF16" "LO_BYTE_SHIFT" "I" (.int (8 : Int32))) (hk0 : own_ch x0) (E1 : Exa Z h0 r1 "java/lang/String") (F1 : Fld Z h0 r1 "java/lang/String" "value" "[B" .null) (F2 : Fld Z h0 r1 "java/lang/String" "coder" "B" (.int (0 : Int32))) (g1 : n0 ≤ r1) (V1 : Arv Z h0 r2 k1 .char (1 : Int32) [(.int x0)] (.int (0 : Int32))) :
    own_Ctr l Z (⟨"java/lang/String", "<init>", "([CIILjava/lang/Void;)V"⟩ : MethodName) jdk_42_method_149_code 6 none ws ({ frames := 4, cells := 2, slots := 3, locals := 57 } : Room) (({ frames := 4, cells := 2, slots := 3, locals := 57 } : Room)).cells (({ frames := 4, cells := 2, slots := 3, locals := 57 } : Room)).slots #[(.ref r1), (.ref r2), (.int (0 : Int32)), (.int (1 : Int32)), .null] h0 (Q_own_ini4_1 Z r1 r2 k1 x0 zcs h0 n0) := by
  refine own_enter (plainFor_of_name own_pn1) ?_
  intro p e s m below meth c s₁ X0 hx hZ hby hml hown hnm hlk hret e0
  have N0 := Fr.nil n0
  refine own_cast (own_ef_own_ini4_1 m r1 r2) ?_
  refine own_by (g' := (mkF m 1 #[rv r1, rv r2, iv (0 : Int32), iv (1 : Int32), .val .null, .unset] [(.ref r1)])) (fun t k => XS.aloadN X0.here hx rfl (hb hby own_d3_0) rfl rfl k) ?_
  obtain ⟨T101, X101, e101, st101⟩ := initO X0 hx hZ hown (hw _ (List.mem_of_getElem? (i := 19) rfl)) (hw _ (List.mem_of_getElem? (i := 20) rfl)) (hw _ (List.mem_of_getElem? (i := 21) rfl)) e0 (g := (mkF m 1 #[rv r1, rv r2, iv (0 : Int32), iv (1 : Int32), .val .null, .unset] [(.ref r1)])) rfl (by rw [hml]; rfl) rfl (hb hby own_d3_1) (by decide) (W := 0) (by show 2 * 0 + _ ≤ _; exact Nat.le_of_eq rfl) (by decide)
  refine own_by (g' := (mkF m 4 #[rv r1, rv r2, iv (0 : Int32), iv (1 : Int32), .val .null, .unset] [])) st101 ?_
  refine own_by (g' := (mkF m 27 #[rv r1, rv r2, iv (0 : Int32), iv (1 : Int32), .val .null, .unset] [])) (fun t k => XS.iloadN X101.here hx rfl (hb hby own_d3_4) rfl (XS.ifYes X101.here hx rfl (pc0 := 5) (pc' := 27) rfl (hb hby own_d3_5) rfl ((if0 _ _).trans (feq (by decide : ¬ ((1 : Int32) = (0 : Int32)))).2) (by decide) (by decide) k)) ?_
  obtain ⟨T102, X102, e102, st102⟩ := getS2 X101 hx hZ hown (host := "") (Or.inl (hw _ (List.mem_of_getElem? (i := 61) rfl))) Via.refl e101 (S_cs.ext O0.2) (g := (mkF m 27 #[rv r1, rv r2, iv (0 : Int32), iv (1 : Int32), .val .null, .unset] [])) rfl (hb hby own_d3_27)
  refine own_by (g' := (mkF m 30 #[rv r1, rv r2, iv (0 : Int32), iv (1 : Int32), .val .null, .unset] [(.int zcs)])) st102 ?_
  refine own_by (g' := (mkF m 36 #[rv r1, rv r2, iv (0 : Int32), iv (1 : Int32), .val .null, .unset] [(.int (1 : Int32)), (.int (0 : Int32)), (.ref r2)])) (fun t k => XS.ifNo X102.here hx rfl (hb hby own_d3_30) rfl ((if0 _ _).trans (feq hcs).1) (XS.aloadN X102.here hx rfl (hb hby own_d3_33) rfl rfl (XS.iloadN X102.here hx rfl (hb hby own_d3_34) rfl (XS.iloadN X102.here hx rfl (hb hby own_d3_35) rfl k)))) ?_
  refine own_callS X102 hx hZ hown (hw _ (List.mem_of_getElem? (i := 78) rfl)) (hw _ (List.mem_of_getElem? (i := 79) rfl)) (hw _ (List.mem_of_getElem? (i := 80) rfl)) (hw _ (List.mem_of_getElem? (i := 81) rfl)) (by decide) (own_com3_1 l Z a0 hw [] (r2) (k1) (x0) h0 n0 Z0 O0 S_ad S_hi S_lo (by first | assumption | decide) V1) 0 (by decide) (by decide) (by decide) (by decide) e102 (g := (mkF m 36 #[rv r1, rv r2, iv (0 : Int32), iv (1 : Int32), .val .null, .unset] [(.int (1 : Int32)), (.int (0 : Int32)), (.ref r2)])) rfl (by rw [hml]; rfl) (argsL := [(.ref r2), (.int (0 : Int32)), (.int (1 : Int32))]) (rest := []) (lenOf own_pd11 rfl) rfl (by show 2 * 0 + _ ≤ _; exact Nat.le_of_eq rfl) (hb hby own_d3_36) ?_
  intro v103 T103 L103 X103 q103
  obtain ⟨bo103, kb103, ln103, vs103, rfl, N103q, K103, f104, f105, f106, f107⟩ := q103
  have N103 := Fr.app N0 N103q
  show own_Goes p e below s _ _ _ T103 (mkF m 39 #[rv r1, rv r2, iv (0 : Int32), iv (1 : Int32), .val .null, .unset] [(.ref bo103)])
  rcases f107 with ⟨rfl, rfl, hq0⟩ | ⟨rfl, rfl⟩
  ·
    refine own_by (g' := (mkF m 45 #[rv r1, rv r2, iv (0 : Int32), iv (1 : Int32), .val .null, rv bo103] [(.int (1 : Int32)), (.ref bo103), (.ref r1)])) (fun t k => XS.astore X103.here hx rfl (hb hby own_d3_39) rfl rfl (l' := #[rv r1, rv r2, iv (0 : Int32), iv (1 : Int32), .val .null, rv bo103]) rfl (XS.aloadN X103.here hx rfl (hb hby own_d3_41) rfl rfl (XS.aload X103.here hx rfl (hb hby own_d3_42) rfl rfl (XS.iloadN X103.here hx rfl (hb hby own_d3_44) rfl k)))) ?_
    refine own_callS X103 hx hZ hown (hw _ (List.mem_of_getElem? (i := 85) rfl)) (hw _ (List.mem_of_getElem? (i := 86) rfl)) (hw _ (List.mem_of_getElem? (i := 80) rfl)) (hw _ (List.mem_of_getElem? (i := 87) rfl)) (by decide) (own_cfa1_0 l Z a0 hw [] (bo103) (kb103) ([(.int (x0).toInt8.toInt32)]) T103.heap n0 (Nat.le_trans Z0 K103.1) f106) 1 (by decide) (by decide) (by decide) (by decide) rfl (g := (mkF m 45 #[rv r1, rv r2, iv (0 : Int32), iv (1 : Int32), .val .null, rv bo103] [(.int (1 : Int32)), (.ref bo103), (.ref r1)])) rfl (by rw [hml]; rfl) (argsL := [(.ref bo103), (.int (1 : Int32))]) (rest := [(.ref r1)]) (lenOf own_pd12 rfl) rfl (by show 2 * 0 + _ ≤ _; exact Nat.le_of_eq rfl) (hb hby own_d3_45) ?_
    intro v108 T108 L108 X108 q108
    obtain ⟨rfl, N108q, e108⟩ := q108
    have N108 := Fr.app N103 N108q
    show own_Goes p e below s _ _ _ T108 (mkF m 48 #[rv r1, rv r2, iv (0 : Int32), iv (1 : Int32), .val .null, rv bo103] [(.int (0 : Int32)), (.ref r1)])
    have f109 := (F2.keep K103 nin0)
    have f110 := (E1.keep K103)
    obtain ⟨T111, h111, X111, e111, W111, st111⟩ := putFN X108 hx hZ hown (hw _ (List.mem_of_getElem? (i := 29) rfl)) Via.refl e108 f109 f110 (Or.inr ⟨(hw _ (List.mem_of_getElem? (i := 25) rfl)), rfl, hnm⟩) (hw _ (List.mem_of_getElem? (i := 9) rfl)) (ty := .byte) (v' := (.int (0 : Int32))) (by decide) rfl (by decide) (g := (mkF m 48 #[rv r1, rv r2, iv (0 : Int32), iv (1 : Int32), .val .null, rv bo103] [(.int (0 : Int32)), (.ref r1)])) rfl rfl (hb hby own_d3_48)
    have f112 := f109.same W111
    have N111 := Fr.snoc X111 N108 g1
    refine own_by (g' := (mkF m 51 #[rv r1, rv r2, iv (0 : Int32), iv (1 : Int32), .val .null, rv bo103] [])) st111 ?_
    refine own_by (g' := (mkF m 54 #[rv r1, rv r2, iv (0 : Int32), iv (1 : Int32), .val .null, rv bo103] [(.ref bo103), (.ref r1)])) (fun t k => XS.aloadN X111.here hx rfl (hb hby own_d3_51) rfl rfl (XS.aload X111.here hx rfl (hb hby own_d3_52) rfl rfl k)) ?_
    have f113 := ((F1.keep K103 nin0).other W111 (Or.inr (slot_ne (Or.inr (hw _ (List.mem_of_getElem? (i := 24) rfl))) (Or.inr (hw _ (List.mem_of_getElem? (i := 25) rfl))) (by decide) (t := (.array .byte)) (t' := .byte) (by decide) (by decide))))
    have f114 := (f110.wr W111)
    obtain ⟨T115, h115, X115, e115, W115, st115⟩ := putF X111 hx hZ hown (host := "") (Or.inl (hw _ (List.mem_of_getElem? (i := 28) rfl))) Via.refl e111 f113 f114 (Or.inr ⟨(hw _ (List.mem_of_getElem? (i := 24) rfl)), rfl, hnm⟩) (hw _ (List.mem_of_getElem? (i := 9) rfl)) (ty := (.array .byte)) (by decide) rfl rfl (g := (mkF m 54 #[rv r1, rv r2, iv (0 : Int32), iv (1 : Int32), .val .null, rv bo103] [(.ref bo103), (.ref r1)])) rfl rfl (hb hby own_d3_54)
    have f116 := f113.same W115
    have N115 := Fr.snoc X115 N111 g1
    refine own_by (g' := (mkF m 57 #[rv r1, rv r2, iv (0 : Int32), iv (1 : Int32), .val .null, rv bo103] [])) st115 ?_
    have f117 := (f114.wr W115)
    have f118 := (f112.other W115 (Or.inr (slot_ne (Or.inr (hw _ (List.mem_of_getElem? (i := 25) rfl))) (Or.inr (hw _ (List.mem_of_getElem? (i := 24) rfl))) (by decide) (t := .byte) (t' := (.array .byte)) (by decide) (by decide))))
    have f119 := ((f106.other W111 (Ne.symm (Nat.ne_of_lt (Nat.lt_of_lt_of_le (Nat.lt_of_lt_of_le E1.lt (Nat.le_refl _)) f104)))).other W115 (Ne.symm (Nat.ne_of_lt (Nat.lt_of_lt_of_le (Nat.lt_of_lt_of_le E1.lt (Nat.le_refl _)) f104))))
    have f120 := ((f105.wr W111).wr W115)
    refine own_retV X115 hx hlk hret (hb hby own_d3_57) (by decide) (by decide) ?_
    rw [e115]
    exact ⟨bo103, kb103, (0 : Int32), (1 : Int32), [(.int (x0).toInt8.toInt32)], rfl, N115, ((((Keep.refl h0 [r1]).trans K103 all0).wr W111 (Or.inl (List.mem_of_getElem? (i := 0) rfl))).wr W115 (Or.inl (List.mem_of_getElem? (i := 0) rfl))), (Nat.le_trans (Nat.le_refl _) f104), f117, f116, f118, f119, f120, (Or.inl ⟨rfl, rfl, rfl, hq0⟩)⟩
  ·
    refine own_by (g' := (mkF m 45 #[rv r1, rv r2, iv (0 : Int32), iv (1 : Int32), .val .null, rv bo103] [(.int (1 : Int32)), (.ref bo103), (.ref r1)])) (fun t k => XS.astore X103.here hx rfl (hb hby own_d3_39) rfl rfl (l' := #[rv r1, rv r2, iv (0 : Int32), iv (1 : Int32), .val .null, rv bo103]) rfl (XS.aloadN X103.here hx rfl (hb hby own_d3_41) rfl rfl (XS.aload X103.here hx rfl (hb hby own_d3_42) rfl rfl (XS.iloadN X103.here hx rfl (hb hby own_d3_44) rfl k)))) ?_
    refine own_callS X103 hx hZ hown (hw _ (List.mem_of_getElem? (i := 85) rfl)) (hw _ (List.mem_of_getElem? (i := 86) rfl)) (hw _ (List.mem_of_getElem? (i := 80) rfl)) (hw _ (List.mem_of_getElem? (i := 87) rfl)) (by decide) (own_cfa1_1 l Z a0 hw [] (bo103) (kb103) ([(.int ((x0 >>> ((0 : Int32) &&& 31))).toInt8.toInt32), (.int ((x0 >>> ((8 : Int32) &&& 31))).toInt8.toInt32)]) T103.heap n0 (Nat.le_trans Z0 K103.1) f106) 1 (by decide) (by decide) (by decide) (by decide) rfl (g := (mkF m 45 #[rv r1, rv r2, iv (0 : Int32), iv (1 : Int32), .val .null, rv bo103] [(.int (1 : Int32)), (.ref bo103), (.ref r1)])) rfl (by rw [hml]; rfl) (argsL := [(.ref bo103), (.int (1 : Int32))]) (rest := [(.ref r1)]) (lenOf own_pd12 rfl) rfl (by show 2 * 0 + _ ≤ _; exact Nat.le_of_eq rfl) (hb hby own_d3_45) ?_
    intro v121 T121 L121 X121 q121
    obtain ⟨rfl, N121q, e121⟩ := q121
    have N121 := Fr.app N103 N121q
    show own_Goes p e below s _ _ _ T121 (mkF m 48 #[rv r1, rv r2, iv (0 : Int32), iv (1 : Int32), .val .null, rv bo103] [(.int (1 : Int32)), (.ref r1)])
    have f122 := (F2.keep K103 nin0)
    have f123 := (E1.keep K103)
    obtain ⟨T124, h124, X124, e124, W124, st124⟩ := putFN X121 hx hZ hown (hw _ (List.mem_of_getElem? (i := 29) rfl)) Via.refl e121 f122 f123 (Or.inr ⟨(hw _ (List.mem_of_getElem? (i := 25) rfl)), rfl, hnm⟩) (hw _ (List.mem_of_getElem? (i := 9) rfl)) (ty := .byte) (v' := (.int (1 : Int32))) (by decide) rfl (by decide) (g := (mkF m 48 #[rv r1, rv r2, iv (0 : Int32), iv (1 : Int32), .val .null, rv bo103] [(.int (1 : Int32)), (.ref r1)])) rfl rfl (hb hby own_d3_48)
    have f125 := f122.same W124
    have N124 := Fr.snoc X124 N121 g1
    refine own_by (g' := (mkF m 51 #[rv r1, rv r2, iv (0 : Int32), iv (1 : Int32), .val .null, rv bo103] [])) st124 ?_
    refine own_by (g' := (mkF m 54 #[rv r1, rv r2, iv (0 : Int32), iv (1 : Int32), .val .null, rv bo103] [(.ref bo103), (.ref r1)])) (fun t k => XS.aloadN X124.here hx rfl (hb hby own_d3_51) rfl rfl (XS.aload X124.here hx rfl (hb hby own_d3_52) rfl rfl k)) ?_
    have f126 := ((F1.keep K103 nin0).other W124 (Or.inr (slot_ne (Or.inr (hw _ (List.mem_of_getElem? (i := 24) rfl))) (Or.inr (hw _ (List.mem_of_getElem? (i := 25) rfl))) (by decide) (t := (.array .byte)) (t' := .byte) (by decide) (by decide))))
    have f127 := (f123.wr W124)
    obtain ⟨T128, h128, X128, e128, W128, st128⟩ := putF X124 hx hZ hown (host := "") (Or.inl (hw _ (List.mem_of_getElem? (i := 28) rfl))) Via.refl e124 f126 f127 (Or.inr ⟨(hw _ (List.mem_of_getElem? (i := 24) rfl)), rfl, hnm⟩) (hw _ (List.mem_of_getElem? (i := 9) rfl)) (ty := (.array .byte)) (by decide) rfl rfl (g := (mkF m 54 #[rv r1, rv r2, iv (0 : Int32), iv (1 : Int32), .val .null, rv bo103] [(.ref bo103), (.ref r1)])) rfl rfl (hb hby own_d3_54)
    have f129 := f126.same W128
    have N128 := Fr.snoc X128 N124 g1
    refine own_by (g' := (mkF m 57 #[rv r1, rv r2, iv (0 : Int32), iv (1 : Int32), .val .null, rv bo103] [])) st128 ?_
    have f130 := (f127.wr W128)
    have f131 := (f125.other W128 (Or.inr (slot_ne (Or.inr (hw _ (List.mem_of_getElem? (i := 25) rfl))) (Or.inr (hw _ (List.mem_of_getElem? (i := 24) rfl))) (by decide) (t := .byte) (t' := (.array .byte)) (by decide) (by decide))))
    have f132 := ((f106.other W124 (Ne.symm (Nat.ne_of_lt (Nat.lt_of_lt_of_le (Nat.lt_of_lt_of_le E1.lt (Nat.le_refl _)) f104)))).other W128 (Ne.symm (Nat.ne_of_lt (Nat.lt_of_lt_of_le (Nat.lt_of_lt_of_le E1.lt (Nat.le_refl _)) f104))))
    have f133 := ((f105.wr W124).wr W128)
    refine own_retV X128 hx hlk hret (hb hby own_d3_57) (by decide) (by decide) ?_
    rw [e128]
    exact ⟨bo103, kb103, (1 : Int32), (2 : Int32), [(.int ((x0 >>> ((0 : Int32) &&& 31))).toInt8.toInt32), (.int ((x0 >>> ((8 : Int32) &&& 31))).toInt8.toInt32)], rfl, N128, ((((Keep.refl h0 [r1]).trans K103 all0).wr W124 (Or.inl (List.mem_of_getElem? (i := 0) rfl))).wr W128 (Or.inl (List.mem_of_getElem? (i := 0) rfl))), (Nat.le_trans (Nat.le_refl _) f104), f130, f129, f131, f132, f133, (Or.inr ⟨rfl, rfl, rfl⟩)⟩
theorem own_d2_0 : decode jdk_42_method_3_code 0 = .ok (.aload_n 0, 1) := by decide +kernel
theorem own_d2_1 : decode jdk_42_method_3_code 1 = .ok (.aload_n 1, 1) := by decide +kernel
theorem own_d2_2 : decode jdk_42_method_3_code 2 = .ok (.iconst 0, 1) := by decide +kernel
theorem own_d2_3 : decode jdk_42_method_3_code 3 = .ok (.aload_n 1, 1) := by decide +kernel
theorem own_d2_4 : decode jdk_42_method_3_code 4 = .ok (.arraylength, 1) := by decide +kernel
theorem own_d2_5 : decode jdk_42_method_3_code 5 = .ok (.aconst_null, 1) := by decide +kernel
theorem own_d2_6 : decode jdk_42_method_3_code 6 = .ok (.invokespecial 27, 3) := by decide +kernel
theorem own_pd13 : parseMethodDescriptor "([CIILjava/lang/Void;)V" = some ⟨[(.array .char), .int, .int, (.object "java/lang/Void")], none⟩ := by decide +kernel
theorem own_d2_9 : decode jdk_42_method_3_code 9 = .ok (.return_, 1) := by decide +kernel
def Q_own_ini1_1 (Z : State) (r1 : Addr) (r2 : Addr) (k1 : ClassId) (x0 : Int32) (zcs : Int32) (h0 : Heap) (n0 : Nat) (v : Option Value) (h : Heap) (L : List Loc) : Prop := ∃ (ba : Addr), ∃ (kb : ClassId), ∃ (cd : Int32), ∃ (ln : Int32), ∃ (vs : List Value), v = none ∧ Fr n0 L ∧ Keep h0 h [r1] ∧ h0.size ≤ ba ∧ Exa Z h r1 "java/lang/String" ∧ Fld Z h r1 "java/lang/String" "value" "[B" (.ref ba) ∧ Fld Z h r1 "java/lang/String" "coder" "B" (.int cd) ∧ Arv Z h ba kb .byte ln vs (.int (0 : Int32)) ∧ Exa Z h ba "[B" ∧ own_s1 x0 cd ln vs
theorem own_ef_own_ini1_1 (m : MethodId) (r1 : Addr) (r2 : Addr) : entryFrame m #[(.ref r1), (.ref r2)] 2 = mkF m 0 #[rv r1, rv r2] [] := by first | (simp [entryFrame, mkF, argsToLocals, Value.category]; done) | rfl
set_option maxRecDepth 65536 in
set_option maxHeartbeats 40000000 in
theorem own_ini1_1 (l : Launch) (Z : State) (a0 : Array Value) (hw : ∀ d ∈ tables_1, d.before a0 Z = true) (ws : List Jvm.Cond) (r1 : Addr) (r2 : Addr) (k1 : ClassId) (x0 : Int32) (zcs : Int32) (h0 : Heap) (n0 : Nat) (Z0 : n0 ≤ h0.size) (O0 : Old Z n0 h0) (S_cs : Sta Z Z.heap "java/lang/String" "COMPACT_STRINGS" "Z" (.int zcs)) (hcs : ¬ zcs = (0 : Int32)) (S_ad : Sta Z Z.heap "java/lang/StringUTF16" "$assertionsDisabled" "Z" (.int (1 : Int32))) (S_hi : Sta Z Z.heap "java/lang/StringUTF16" "HI_BYTE_SHIFT" "I" (.int (0 : Int32))) (S_lo : Sta Z Z.heap "java/lang/StringUTF16" "LO_BYTE_SHIFT" "I" (.int (8 : Int32))) (hk0 : own_ch x0) (E1 : Exa Z h0 r1 "java/lang/String") (F1 : Fld Z h0 r1 "java/lang/String" "value" "[B" .null) (F2 : Fld Z h0 r1 "java/lang/String" "coder" "B" (.int (0 : Int32))) (g1 : n0 ≤ r1) (V1 : Arv Z h0 r2 k1 .char (1 : Int32) [(.int x0)] (.int (0 : Int32))) :
    own_Ctr l Z (⟨"java/lang/String", "<init>", "([C)V"⟩ : MethodName) jdk_42_method_3_code 2 none ws ({ frames := 5, cells := 2, slots := 3, locals := 74 } : Room) (({ frames := 5, cells := 2, slots := 3, locals := 74 } : Room)).cells (({ frames := 5, cells := 2, slots := 3, locals := 74 } : Room)).slots #[(.ref r1), (.ref r2)] h0 (Q_own_ini1_1 Z r1 r2 k1 x0 zcs h0 n0) := by
  refine own_enter (plainFor_of_name own_pn1) ?_
  intro p e s m below meth c s₁ X0 hx hZ hby hml hown hnm hlk hret e0
  have N0 := Fr.nil n0
  refine own_cast (own_ef_own_ini1_1 m r1 r2) ?_
  refine own_by (g' := (mkF m 4 #[rv r1, rv r2] [(.ref r2), (.int (0 : Int32)), (.ref r2), (.ref r1)])) (fun t k => XS.aloadN X0.here hx rfl (hb hby own_d2_0) rfl rfl (XS.aloadN X0.here hx rfl (hb hby own_d2_1) rfl rfl (XS.iconst X0.here hx rfl (hb hby own_d2_2) (XS.aloadN X0.here hx rfl (hb hby own_d2_3) rfl rfl k)))) ?_
  obtain ⟨c101, Ar101, -, S101, G101, -, -⟩ := id V1
  refine own_by (g' := (mkF m 5 #[rv r1, rv r2] [(.int (1 : Int32)), (.int (0 : Int32)), (.ref r2), (.ref r1)])) (fun t k => X0.arraylength hx (own_at_ e0 Ar101.1) (State.isArrayOf_alike hZ.alike Ar101.2.1) (g := (mkF m 4 #[rv r1, rv r2] [(.ref r2), (.int (0 : Int32)), (.ref r2), (.ref r1)])) rfl rfl (hb hby own_d2_4) t (by rw [len_of S101 G101]; exact k)) ?_
  refine own_by (g' := (mkF m 6 #[rv r1, rv r2] [.null, (.int (1 : Int32)), (.int (0 : Int32)), (.ref r2), (.ref r1)])) (fun t k => XS.aconstNull X0.here hx rfl (hb hby own_d2_5) k) ?_
  refine own_callI X0 hx hZ hown rfl (hw _ (List.mem_of_getElem? (i := 15) rfl)) (hw _ (List.mem_of_getElem? (i := 16) rfl)) (hw _ (List.mem_of_getElem? (i := 10) rfl)) (hw _ (List.mem_of_getElem? (i := 18) rfl)) (by decide) (a := r1) (own_ini4_1 l Z a0 hw [] (r1) (r2) (k1) (x0) (zcs) h0 n0 Z0 O0 S_cs (by first | assumption | decide) S_ad S_hi S_lo (by first | assumption | decide) E1 F1 F2 g1 V1) 0 (by decide) (by decide) (by decide) (by decide) e0 (g := (mkF m 6 #[rv r1, rv r2] [.null, (.int (1 : Int32)), (.int (0 : Int32)), (.ref r2), (.ref r1)])) rfl (by rw [hml]; rfl) (argsL := [(.ref r2), (.int (0 : Int32)), (.int (1 : Int32)), .null]) (rest := []) (lenOf own_pd13 rfl) rfl (by show 2 * 0 + _ ≤ _; exact Nat.le_of_eq rfl) (hb hby own_d2_6) ?_
  intro v102 T102 L102 X102 q102
  obtain ⟨ba102, kb102, cd102, ln102, vs102, rfl, N102q, K102, f103, f104, f105, f106, f107, f108, f109⟩ := q102
  have N102 := Fr.app N0 N102q
  show own_Goes p e below s _ _ _ T102 (mkF m 9 #[rv r1, rv r2] [])
  refine own_retV X102 hx hlk hret (hb hby own_d2_9) (by decide) (by decide) ?_
  exact ⟨ba102, kb102, cd102, ln102, vs102, rfl, N102, ((Keep.refl h0 [r1]).trans K102 (allS (Or.inl (List.mem_of_getElem? (i := 0) rfl)) all0)), (Nat.le_trans (Nat.le_refl _) f103), f104, f105, f106, f107, f108, f109⟩
def Q_own_nbl2 (Z : State)  (h0 : Heap) (n0 : Nat) (v : Option Value) (h : Heap) (L : List Loc) : Prop := v = some (.int (4 : Int32)) ∧ Fr n0 L ∧ h = h0
theorem own_ef_own_nbl2 (m : MethodId)  : entryFrame m #[(.int (2 : Int32))] 1 = mkF m 0 #[iv (2 : Int32)] [] := by first | (simp [entryFrame, mkF, argsToLocals, Value.category]; done) | rfl
set_option maxRecDepth 65536 in
set_option maxHeartbeats 40000000 in
theorem own_nbl2 (l : Launch) (Z : State) (a0 : Array Value) (hw : ∀ d ∈ tables_1, d.before a0 Z = true) (ws : List Jvm.Cond)  (h0 : Heap) (n0 : Nat) (Z0 : n0 ≤ h0.size)  :
    own_Ctr l Z (⟨"java/lang/StringUTF16", "newBytesLength", "(I)I"⟩ : MethodName) jdk_52_method_3_code 1 (some .int) ws ({ frames := 0, cells := 0, slots := 0, locals := 0 } : Room) (({ frames := 0, cells := 0, slots := 0, locals := 0 } : Room)).cells (({ frames := 0, cells := 0, slots := 0, locals := 0 } : Room)).slots #[(.int (2 : Int32))] h0 (Q_own_nbl2 Z  h0 n0) := by
  refine own_enter (plainFor_of_name own_pn2) ?_
  intro p e s m below meth c s₁ X0 hx hZ hby hml hown hnm hlk hret e0
  have N0 := Fr.nil n0
  refine own_cast (own_ef_own_nbl2 m ) ?_
  refine own_by (g' := (mkF m 58 #[iv (2 : Int32)] [(.int ((2 : Int32) <<< ((1 : Int32) &&& 31)))])) (fun t k => XS.iloadN X0.here hx rfl (hb hby own_d27_0) rfl (XS.ifYes X0.here hx rfl (pc0 := 1) (pc' := 12) rfl (hb hby own_d27_1) rfl ((if0 _ _).trans (flt (by decide : ¬ ((2 : Int32) < (0 : Int32)))).2.1) (by decide) (by decide) (XS.iloadN X0.here hx rfl (hb hby own_d27_12) rfl (X0.ldcInt hx hown (mvT hZ (hw _ (List.mem_of_getElem? (i := 124) rfl))) (g := (mkF m 13 #[iv (2 : Int32)] [(.int (2 : Int32))])) rfl (hb hby own_d27_13) t (XS.icmpYes X0.here hx rfl (pc0 := 15) (pc' := 55) rfl (hb hby own_d27_15) rfl (tlt (by decide : (2 : Int32) < (1073741823 : Int32))).1 (by decide) (by decide) (XS.iloadN X0.here hx rfl (hb hby own_d27_55) rfl (XS.iconst X0.here hx rfl (hb hby own_d27_56) (XS.ishl X0.here hx rfl (hb hby own_d27_57) rfl k)))))))) ?_
  refine own_retI X0 hx hlk hret (hb hby own_d27_58) (by decide) (by decide) ?_
  exact ⟨(by decide), N0, e0⟩
def Q_own_nbf2 (Z : State)  (h0 : Heap) (n0 : Nat) (v : Option Value) (h : Heap) (L : List Loc) : Prop := ∃ (bo : Addr), ∃ (kb : ClassId), v = some (.ref bo) ∧ Fr n0 L ∧ Keep h0 h [] ∧ h0.size ≤ bo ∧ Exa Z h bo "[B" ∧ Arv Z h bo kb .byte (4 : Int32) [(.int (0 : Int32)), (.int (0 : Int32)), (.int (0 : Int32)), (.int (0 : Int32))] (.int (0 : Int32))
theorem own_ef_own_nbf2 (m : MethodId)  : entryFrame m #[(.int (2 : Int32))] 1 = mkF m 0 #[iv (2 : Int32)] [] := by first | (simp [entryFrame, mkF, argsToLocals, Value.category]; done) | rfl
set_option maxRecDepth 65536 in
set_option maxHeartbeats 40000000 in
theorem own_nbf2 (l : Launch) (Z : State) (a0 : Array Value) (hw : ∀ d ∈ tables_1, d.before a0 Z = true) (ws : List Jvm.Cond)  (h0 : Heap) (n0 : Nat) (Z0 : n0 ≤ h0.size)  :
    own_Ctr l Z (⟨"java/lang/StringUTF16", "newBytesFor", "(I)[B"⟩ : MethodName) jdk_52_method_2_code 1 (some (.array .byte)) ws ({ frames := 1, cells := 1, slots := 4, locals := 12 } : Room) (({ frames := 1, cells := 1, slots := 4, locals := 12 } : Room)).cells (({ frames := 1, cells := 1, slots := 4, locals := 12 } : Room)).slots #[(.int (2 : Int32))] h0 (Q_own_nbf2 Z  h0 n0) := by
  refine own_enter (plainFor_of_name own_pn2) ?_
  intro p e s m below meth c s₁ X0 hx hZ hby hml hown hnm hlk hret e0
  have N0 := Fr.nil n0
  refine own_cast (own_ef_own_nbf2 m ) ?_
  refine own_by (g' := (mkF m 1 #[iv (2 : Int32)] [(.int (2 : Int32))])) (fun t k => XS.iloadN X0.here hx rfl (hb hby own_d26_0) rfl k) ?_
  refine own_callS X0 hx hZ hown (hw _ (List.mem_of_getElem? (i := 121) rfl)) (hw _ (List.mem_of_getElem? (i := 122) rfl)) (hw _ (List.mem_of_getElem? (i := 80) rfl)) (hw _ (List.mem_of_getElem? (i := 123) rfl)) (by decide) (own_nbl2 l Z a0 hw []  h0 n0 Z0 ) 0 (by decide) (by decide) (by decide) (by decide) e0 (g := (mkF m 1 #[iv (2 : Int32)] [(.int (2 : Int32))])) rfl (by rw [hml]; rfl) (argsL := [(.int (2 : Int32))]) (rest := []) (lenOf own_pd7 rfl) rfl (by show 2 * 0 + _ ≤ _; exact Nat.le_of_eq rfl) (hb hby own_d26_1) ?_
  intro v101 T101 L101 X101 q101
  obtain ⟨rfl, N101q, e101⟩ := q101
  have N101 := Fr.app N0 N101q
  show own_Goes p e below s _ _ _ T101 (mkF m 4 #[iv (2 : Int32)] [(.int (4 : Int32))])
  obtain ⟨T102, h102, k102, X102, e102, E102, A102, Y102, st102⟩ := newPE X101 hx hZ (hw _ (List.mem_of_getElem? (i := 23) rfl)) e101 (g := (mkF m 4 #[iv (2 : Int32)] [(.int (4 : Int32))])) rfl (hb hby own_d26_4) rfl (by decide) (cap := 4) (by decide) (by decide) (by decide) (by decide) (ad := "[B") own_ad_byte
  obtain ⟨b102, g102⟩ : ∃ z, z = h0.size := ⟨_, rfl⟩
  rw [← g102] at A102 Y102 st102
  have sz_b102 : h0.size ≤ b102 := Nat.le_trans (Nat.le_refl _) (Nat.le_of_eq g102.symm)
  have g_b102 : n0 ≤ b102 := Nat.le_trans Z0 sz_b102
  have V102 : Arv Z h102 b102 k102 .byte (4 : Int32) [(.int (0 : Int32)), (.int (0 : Int32)), (.int (0 : Int32)), (.int (0 : Int32))] (.int (0 : Int32)) := (Arv.new A102 (by decide)).pad (pad_rep [] (.int (0 : Int32)) 4)
  refine own_by (g' := (mkF m 6 #[iv (2 : Int32)] [(.ref b102)])) st102 ?_
  refine own_retA X102 hx hlk hret rfl rfl (hb hby own_d26_6) (by decide) (by decide) ?_
  rw [e102]
  exact ⟨b102, k102, rfl, N101, ((Keep.refl h0 []).ext E102), sz_b102, Y102, V102⟩
def Q_own_putc2_0 (Z : State) (r1 : Addr) (k1 : ClassId) (xc : Int32) (ye0 : Value) (ye1 : Value) (ye2 : Value) (ye3 : Value) (h0 : Heap) (n0 : Nat) (v : Option Value) (h : Heap) (L : List Loc) : Prop := v = none ∧ Fr n0 L ∧ Keep h0 h [r1] ∧ Arv Z h r1 k1 .byte (4 : Int32) [(.int ((xc >>> ((0 : Int32) &&& 31))).toInt8.toInt32), (.int ((xc >>> ((8 : Int32) &&& 31))).toInt8.toInt32), ye2, ye3] (.int (0 : Int32))
theorem own_ef_own_putc2_0 (m : MethodId) (r1 : Addr) (xc : Int32) : entryFrame m #[(.ref r1), (.int (0 : Int32)), (.int xc)] 3 = mkF m 0 #[rv r1, iv (0 : Int32), iv xc] [] := by first | (simp [entryFrame, mkF, argsToLocals, Value.category]; done) | rfl
set_option maxRecDepth 65536 in
set_option maxHeartbeats 40000000 in
theorem own_putc2_0 (l : Launch) (Z : State) (a0 : Array Value) (hw : ∀ d ∈ tables_1, d.before a0 Z = true) (ws : List Jvm.Cond) (r1 : Addr) (k1 : ClassId) (xc : Int32) (ye0 : Value) (ye1 : Value) (ye2 : Value) (ye3 : Value) (h0 : Heap) (n0 : Nat) (Z0 : n0 ≤ h0.size) (O0 : Old Z n0 h0) (S_ad : Sta Z Z.heap "java/lang/StringUTF16" "$assertionsDisabled" "Z" (.int (1 : Int32))) (S_hi : Sta Z Z.heap "java/lang/StringUTF16" "HI_BYTE_SHIFT" "I" (.int (0 : Int32))) (S_lo : Sta Z Z.heap "java/lang/StringUTF16" "LO_BYTE_SHIFT" "I" (.int (8 : Int32))) (V1 : Arv Z h0 r1 k1 .byte (4 : Int32) [ye0, ye1, ye2, ye3] (.int (0 : Int32))) (g1 : n0 ≤ r1) :
    own_Ctr l Z (⟨"java/lang/StringUTF16", "putChar", "([BII)V"⟩ : MethodName) jdk_52_method_4_code 3 none ws ({ frames := 0, cells := 0, slots := 0, locals := 0 } : Room) (({ frames := 0, cells := 0, slots := 0, locals := 0 } : Room)).cells (({ frames := 0, cells := 0, slots := 0, locals := 0 } : Room)).slots #[(.ref r1), (.int (0 : Int32)), (.int xc)] h0 (Q_own_putc2_0 Z r1 k1 xc ye0 ye1 ye2 ye3 h0 n0) := by
  refine own_enter (plainFor_of_name own_pn2) ?_
  intro p e s m below meth c s₁ X0 hx hZ hby hml hown hnm hlk hret e0
  have N0 := Fr.nil n0
  refine own_cast (own_ef_own_putc2_0 m r1 xc) ?_
  obtain ⟨T101, X101, e101, st101⟩ := getS2 X0 hx hZ hown (host := "") (Or.inl (hw _ (List.mem_of_getElem? (i := 128) rfl))) Via.refl e0 (S_ad.ext O0.2) (g := (mkF m 0 #[rv r1, iv (0 : Int32), iv xc] [])) rfl (hb hby own_d28_0)
  refine own_by (g' := (mkF m 3 #[rv r1, iv (0 : Int32), iv xc] [(.int (1 : Int32))])) st101 ?_
  refine own_by (g' := (mkF m 31 #[rv r1, iv (0 : Int32), iv xc] [(.int ((0 : Int32) <<< ((1 : Int32) &&& 31)))])) (fun t k => XS.ifYes X101.here hx rfl (pc0 := 3) (pc' := 28) rfl (hb hby own_d28_3) rfl ((if0 _ _).trans (feq (by decide : ¬ ((1 : Int32) = (0 : Int32)))).2) (by decide) (by decide) (XS.iloadN X101.here hx rfl (hb hby own_d28_28) rfl (XS.iconst X101.here hx rfl (hb hby own_d28_29) (XS.ishl X101.here hx rfl (hb hby own_d28_30) rfl k)))) ?_
  have hz : ((0 : Int32) <<< ((1 : Int32) &&& 31)) = (0 : Int32) := by decide
  rw [hz]
  refine own_by (g' := (mkF m 38 #[rv r1, iv (1 : Int32), iv xc] [(.int xc), (.int (0 : Int32)), (.ref r1)])) (fun t k => XS.istoreN X101.here hx rfl (hb hby own_d28_31) rfl (l' := #[rv r1, iv (0 : Int32), iv xc]) rfl (XS.aloadN X101.here hx rfl (hb hby own_d28_32) rfl rfl (XS.iloadN X101.here hx rfl (hb hby own_d28_33) rfl (XS.iinc X101.here hx rfl (hb hby own_d28_34) rfl (l' := #[rv r1, iv (1 : Int32), iv xc]) rfl (XS.iloadN X101.here hx rfl (hb hby own_d28_37) rfl k))))) ?_
  obtain ⟨T102, X102, e102, st102⟩ := getS2 X101 hx hZ hown (host := "") (Or.inl (hw _ (List.mem_of_getElem? (i := 129) rfl))) Via.refl e101 (S_hi.ext O0.2) (g := (mkF m 38 #[rv r1, iv (1 : Int32), iv xc] [(.int xc), (.int (0 : Int32)), (.ref r1)])) rfl (hb hby own_d28_38)
  refine own_by (g' := (mkF m 41 #[rv r1, iv (1 : Int32), iv xc] [(.int (0 : Int32)), (.int xc), (.int (0 : Int32)), (.ref r1)])) st102 ?_
  refine own_by (g' := (mkF m 43 #[rv r1, iv (1 : Int32), iv xc] [(.int ((xc >>> ((0 : Int32) &&& 31))).toInt8.toInt32), (.int (0 : Int32)), (.ref r1)])) (fun t k => XS.ishr X102.here hx rfl (hb hby own_d28_41) rfl (XS.i2b X102.here hx rfl (hb hby own_d28_42) rfl k)) ?_
  obtain ⟨c103, Ar103, q103, S103, G103, H103, F103⟩ := id V1
  have hin103 : ¬ ((0 : Int32) < 0 ∨ c103.slots.size ≤ ((0 : Int32)).toNatClampNeg) := inb_of S103 ⟨by decide, by decide⟩
  obtain ⟨T103, h103, X103, e103, W103, st103⟩ := stB X102 hx hZ e102 Ar103 (j := (0 : Int32)) hin103 (g := (mkF m 43 #[rv r1, iv (1 : Int32), iv xc] [(.int ((xc >>> ((0 : Int32) &&& 31))).toInt8.toInt32), (.int (0 : Int32)), (.ref r1)])) rfl rfl (hb hby own_d28_43)
  have V104 : Arv Z h103 r1 k1 .byte (4 : Int32) [(.int ((xc >>> ((0 : Int32) &&& 31))).toInt8.toInt32), ye1, ye2, ye3] (.int (0 : Int32)) := Arv.set Ar103 q103 S103 G103 H103 F103 (fits_nar_byte _) (own_wr W103 (congrArg Value.int (own_b8 _))) 0 rfl (Nat.le_of_ble_eq_true rfl)
  have N103 := Fr.snoc X103 N0 g1
  refine own_by (g' := (mkF m 44 #[rv r1, iv (1 : Int32), iv xc] [])) st103 ?_
  refine own_by (g' := (mkF m 47 #[rv r1, iv (1 : Int32), iv xc] [(.int xc), (.int (1 : Int32)), (.ref r1)])) (fun t k => XS.aloadN X103.here hx rfl (hb hby own_d28_44) rfl rfl (XS.iloadN X103.here hx rfl (hb hby own_d28_45) rfl (XS.iloadN X103.here hx rfl (hb hby own_d28_46) rfl k))) ?_
  have f105 := (O0.wr W103 g1)
  obtain ⟨T106, X106, e106, st106⟩ := getS2 X103 hx hZ hown (host := "") (Or.inl (hw _ (List.mem_of_getElem? (i := 130) rfl))) Via.refl e103 (S_lo.ext f105.2) (g := (mkF m 47 #[rv r1, iv (1 : Int32), iv xc] [(.int xc), (.int (1 : Int32)), (.ref r1)])) rfl (hb hby own_d28_47)
  refine own_by (g' := (mkF m 50 #[rv r1, iv (1 : Int32), iv xc] [(.int (8 : Int32)), (.int xc), (.int (1 : Int32)), (.ref r1)])) st106 ?_
  refine own_by (g' := (mkF m 52 #[rv r1, iv (1 : Int32), iv xc] [(.int ((xc >>> ((8 : Int32) &&& 31))).toInt8.toInt32), (.int (1 : Int32)), (.ref r1)])) (fun t k => XS.ishr X106.here hx rfl (hb hby own_d28_50) rfl (XS.i2b X106.here hx rfl (hb hby own_d28_51) rfl k)) ?_
  obtain ⟨c107, Ar107, q107, S107, G107, H107, F107⟩ := id V104
  have hin107 : ¬ ((1 : Int32) < 0 ∨ c107.slots.size ≤ ((1 : Int32)).toNatClampNeg) := inb_of S107 ⟨by decide, by decide⟩
  obtain ⟨T107, h107, X107, e107, W107, st107⟩ := stB X106 hx hZ e106 Ar107 (j := (1 : Int32)) hin107 (g := (mkF m 52 #[rv r1, iv (1 : Int32), iv xc] [(.int ((xc >>> ((8 : Int32) &&& 31))).toInt8.toInt32), (.int (1 : Int32)), (.ref r1)])) rfl rfl (hb hby own_d28_52)
  have V108 : Arv Z h107 r1 k1 .byte (4 : Int32) [(.int ((xc >>> ((0 : Int32) &&& 31))).toInt8.toInt32), (.int ((xc >>> ((8 : Int32) &&& 31))).toInt8.toInt32), ye2, ye3] (.int (0 : Int32)) := Arv.set Ar107 q107 S107 G107 H107 F107 (fits_nar_byte _) (own_wr W107 (congrArg Value.int (own_b8 _))) 1 rfl (Nat.le_of_ble_eq_true rfl)
  have N107 := Fr.snoc X107 N103 g1
  refine own_by (g' := (mkF m 53 #[rv r1, iv (1 : Int32), iv xc] [])) st107 ?_
  refine own_retV X107 hx hlk hret (hb hby own_d28_53) (by decide) (by decide) ?_
  rw [e107]
  exact ⟨rfl, N107, (((Keep.refl h0 [r1]).wr W103 (Or.inl (List.mem_of_getElem? (i := 0) rfl))).wr W107 (Or.inl (List.mem_of_getElem? (i := 0) rfl))), V108⟩
def Q_own_putc2_1 (Z : State) (r1 : Addr) (k1 : ClassId) (xc : Int32) (ye0 : Value) (ye1 : Value) (ye2 : Value) (ye3 : Value) (h0 : Heap) (n0 : Nat) (v : Option Value) (h : Heap) (L : List Loc) : Prop := v = none ∧ Fr n0 L ∧ Keep h0 h [r1] ∧ Arv Z h r1 k1 .byte (4 : Int32) [ye0, ye1, (.int ((xc >>> ((0 : Int32) &&& 31))).toInt8.toInt32), (.int ((xc >>> ((8 : Int32) &&& 31))).toInt8.toInt32)] (.int (0 : Int32))
theorem own_ef_own_putc2_1 (m : MethodId) (r1 : Addr) (xc : Int32) : entryFrame m #[(.ref r1), (.int (1 : Int32)), (.int xc)] 3 = mkF m 0 #[rv r1, iv (1 : Int32), iv xc] [] := by first | (simp [entryFrame, mkF, argsToLocals, Value.category]; done) | rfl
set_option maxRecDepth 65536 in
set_option maxHeartbeats 40000000 in
theorem own_putc2_1 (l : Launch) (Z : State) (a0 : Array Value) (hw : ∀ d ∈ tables_1, d.before a0 Z = true) (ws : List Jvm.Cond) (r1 : Addr) (k1 : ClassId) (xc : Int32) (ye0 : Value) (ye1 : Value) (ye2 : Value) (ye3 : Value) (h0 : Heap) (n0 : Nat) (Z0 : n0 ≤ h0.size) (O0 : Old Z n0 h0) (S_ad : Sta Z Z.heap "java/lang/StringUTF16" "$assertionsDisabled" "Z" (.int (1 : Int32))) (S_hi : Sta Z Z.heap "java/lang/StringUTF16" "HI_BYTE_SHIFT" "I" (.int (0 : Int32))) (S_lo : Sta Z Z.heap "java/lang/StringUTF16" "LO_BYTE_SHIFT" "I" (.int (8 : Int32))) (V1 : Arv Z h0 r1 k1 .byte (4 : Int32) [ye0, ye1, ye2, ye3] (.int (0 : Int32))) (g1 : n0 ≤ r1) :
    own_Ctr l Z (⟨"java/lang/StringUTF16", "putChar", "([BII)V"⟩ : MethodName) jdk_52_method_4_code 3 none ws ({ frames := 0, cells := 0, slots := 0, locals := 0 } : Room) (({ frames := 0, cells := 0, slots := 0, locals := 0 } : Room)).cells (({ frames := 0, cells := 0, slots := 0, locals := 0 } : Room)).slots #[(.ref r1), (.int (1 : Int32)), (.int xc)] h0 (Q_own_putc2_1 Z r1 k1 xc ye0 ye1 ye2 ye3 h0 n0) := by
  refine own_enter (plainFor_of_name own_pn2) ?_
  intro p e s m below meth c s₁ X0 hx hZ hby hml hown hnm hlk hret e0
  have N0 := Fr.nil n0
  refine own_cast (own_ef_own_putc2_1 m r1 xc) ?_
  obtain ⟨T101, X101, e101, st101⟩ := getS2 X0 hx hZ hown (host := "") (Or.inl (hw _ (List.mem_of_getElem? (i := 128) rfl))) Via.refl e0 (S_ad.ext O0.2) (g := (mkF m 0 #[rv r1, iv (1 : Int32), iv xc] [])) rfl (hb hby own_d28_0)
  refine own_by (g' := (mkF m 3 #[rv r1, iv (1 : Int32), iv xc] [(.int (1 : Int32))])) st101 ?_
  refine own_by (g' := (mkF m 31 #[rv r1, iv (1 : Int32), iv xc] [(.int ((1 : Int32) <<< ((1 : Int32) &&& 31)))])) (fun t k => XS.ifYes X101.here hx rfl (pc0 := 3) (pc' := 28) rfl (hb hby own_d28_3) rfl ((if0 _ _).trans (feq (by decide : ¬ ((1 : Int32) = (0 : Int32)))).2) (by decide) (by decide) (XS.iloadN X101.here hx rfl (hb hby own_d28_28) rfl (XS.iconst X101.here hx rfl (hb hby own_d28_29) (XS.ishl X101.here hx rfl (hb hby own_d28_30) rfl k)))) ?_
  have hz : ((1 : Int32) <<< ((1 : Int32) &&& 31)) = (2 : Int32) := by decide
  rw [hz]
  refine own_by (g' := (mkF m 38 #[rv r1, iv (3 : Int32), iv xc] [(.int xc), (.int (2 : Int32)), (.ref r1)])) (fun t k => XS.istoreN X101.here hx rfl (hb hby own_d28_31) rfl (l' := #[rv r1, iv (2 : Int32), iv xc]) rfl (XS.aloadN X101.here hx rfl (hb hby own_d28_32) rfl rfl (XS.iloadN X101.here hx rfl (hb hby own_d28_33) rfl (XS.iinc X101.here hx rfl (hb hby own_d28_34) rfl (l' := #[rv r1, iv (3 : Int32), iv xc]) rfl (XS.iloadN X101.here hx rfl (hb hby own_d28_37) rfl k))))) ?_
  obtain ⟨T102, X102, e102, st102⟩ := getS2 X101 hx hZ hown (host := "") (Or.inl (hw _ (List.mem_of_getElem? (i := 129) rfl))) Via.refl e101 (S_hi.ext O0.2) (g := (mkF m 38 #[rv r1, iv (3 : Int32), iv xc] [(.int xc), (.int (2 : Int32)), (.ref r1)])) rfl (hb hby own_d28_38)
  refine own_by (g' := (mkF m 41 #[rv r1, iv (3 : Int32), iv xc] [(.int (0 : Int32)), (.int xc), (.int (2 : Int32)), (.ref r1)])) st102 ?_
  refine own_by (g' := (mkF m 43 #[rv r1, iv (3 : Int32), iv xc] [(.int ((xc >>> ((0 : Int32) &&& 31))).toInt8.toInt32), (.int (2 : Int32)), (.ref r1)])) (fun t k => XS.ishr X102.here hx rfl (hb hby own_d28_41) rfl (XS.i2b X102.here hx rfl (hb hby own_d28_42) rfl k)) ?_
  obtain ⟨c103, Ar103, q103, S103, G103, H103, F103⟩ := id V1
  have hin103 : ¬ ((2 : Int32) < 0 ∨ c103.slots.size ≤ ((2 : Int32)).toNatClampNeg) := inb_of S103 ⟨by decide, by decide⟩
  obtain ⟨T103, h103, X103, e103, W103, st103⟩ := stB X102 hx hZ e102 Ar103 (j := (2 : Int32)) hin103 (g := (mkF m 43 #[rv r1, iv (3 : Int32), iv xc] [(.int ((xc >>> ((0 : Int32) &&& 31))).toInt8.toInt32), (.int (2 : Int32)), (.ref r1)])) rfl rfl (hb hby own_d28_43)
  have V104 : Arv Z h103 r1 k1 .byte (4 : Int32) [ye0, ye1, (.int ((xc >>> ((0 : Int32) &&& 31))).toInt8.toInt32), ye3] (.int (0 : Int32)) := Arv.set Ar103 q103 S103 G103 H103 F103 (fits_nar_byte _) (own_wr W103 (congrArg Value.int (own_b8 _))) 2 rfl (Nat.le_of_ble_eq_true rfl)
  have N103 := Fr.snoc X103 N0 g1
  refine own_by (g' := (mkF m 44 #[rv r1, iv (3 : Int32), iv xc] [])) st103 ?_
  refine own_by (g' := (mkF m 47 #[rv r1, iv (3 : Int32), iv xc] [(.int xc), (.int (3 : Int32)), (.ref r1)])) (fun t k => XS.aloadN X103.here hx rfl (hb hby own_d28_44) rfl rfl (XS.iloadN X103.here hx rfl (hb hby own_d28_45) rfl (XS.iloadN X103.here hx rfl (hb hby own_d28_46) rfl k))) ?_
  have f105 := (O0.wr W103 g1)
  obtain ⟨T106, X106, e106, st106⟩ := getS2 X103 hx hZ hown (host := "") (Or.inl (hw _ (List.mem_of_getElem? (i := 130) rfl))) Via.refl e103 (S_lo.ext f105.2) (g := (mkF m 47 #[rv r1, iv (3 : Int32), iv xc] [(.int xc), (.int (3 : Int32)), (.ref r1)])) rfl (hb hby own_d28_47)
  refine own_by (g' := (mkF m 50 #[rv r1, iv (3 : Int32), iv xc] [(.int (8 : Int32)), (.int xc), (.int (3 : Int32)), (.ref r1)])) st106 ?_
  refine own_by (g' := (mkF m 52 #[rv r1, iv (3 : Int32), iv xc] [(.int ((xc >>> ((8 : Int32) &&& 31))).toInt8.toInt32), (.int (3 : Int32)), (.ref r1)])) (fun t k => XS.ishr X106.here hx rfl (hb hby own_d28_50) rfl (XS.i2b X106.here hx rfl (hb hby own_d28_51) rfl k)) ?_
  obtain ⟨c107, Ar107, q107, S107, G107, H107, F107⟩ := id V104
  have hin107 : ¬ ((3 : Int32) < 0 ∨ c107.slots.size ≤ ((3 : Int32)).toNatClampNeg) := inb_of S107 ⟨by decide, by decide⟩
  obtain ⟨T107, h107, X107, e107, W107, st107⟩ := stB X106 hx hZ e106 Ar107 (j := (3 : Int32)) hin107 (g := (mkF m 52 #[rv r1, iv (3 : Int32), iv xc] [(.int ((xc >>> ((8 : Int32) &&& 31))).toInt8.toInt32), (.int (3 : Int32)), (.ref r1)])) rfl rfl (hb hby own_d28_52)
  have V108 : Arv Z h107 r1 k1 .byte (4 : Int32) [ye0, ye1, (.int ((xc >>> ((0 : Int32) &&& 31))).toInt8.toInt32), (.int ((xc >>> ((8 : Int32) &&& 31))).toInt8.toInt32)] (.int (0 : Int32)) := Arv.set Ar107 q107 S107 G107 H107 F107 (fits_nar_byte _) (own_wr W107 (congrArg Value.int (own_b8 _))) 3 rfl (Nat.le_of_ble_eq_true rfl)
  have N107 := Fr.snoc X107 N103 g1
  refine own_by (g' := (mkF m 53 #[rv r1, iv (3 : Int32), iv xc] [])) st107 ?_
  refine own_retV X107 hx hlk hret (hb hby own_d28_53) (by decide) (by decide) ?_
  rw [e107]
  exact ⟨rfl, N107, (((Keep.refl h0 [r1]).wr W103 (Or.inl (List.mem_of_getElem? (i := 0) rfl))).wr W107 (Or.inl (List.mem_of_getElem? (i := 0) rfl))), V108⟩
def Q_own_tob2 (Z : State) (r1 : Addr) (k1 : ClassId) (x0 : Int32) (x1 : Int32) (h0 : Heap) (n0 : Nat) (v : Option Value) (h : Heap) (L : List Loc) : Prop := ∃ (bo : Addr), ∃ (kb : ClassId), v = some (.ref bo) ∧ Fr n0 L ∧ Keep h0 h [] ∧ h0.size ≤ bo ∧ Exa Z h bo "[B" ∧ Arv Z h bo kb .byte (4 : Int32) [(.int ((x0 >>> ((0 : Int32) &&& 31))).toInt8.toInt32), (.int ((x0 >>> ((8 : Int32) &&& 31))).toInt8.toInt32), (.int ((x1 >>> ((0 : Int32) &&& 31))).toInt8.toInt32), (.int ((x1 >>> ((8 : Int32) &&& 31))).toInt8.toInt32)] (.int (0 : Int32))
theorem own_ef_own_tob2 (m : MethodId) (r1 : Addr) : entryFrame m #[(.ref r1), (.int (0 : Int32)), (.int (2 : Int32))] 5 = mkF m 0 #[rv r1, iv (0 : Int32), iv (2 : Int32), .unset, .unset] [] := by first | (simp [entryFrame, mkF, argsToLocals, Value.category]; done) | rfl
set_option maxRecDepth 65536 in
set_option maxHeartbeats 40000000 in
theorem own_tob2 (l : Launch) (Z : State) (a0 : Array Value) (hw : ∀ d ∈ tables_1, d.before a0 Z = true) (ws : List Jvm.Cond) (r1 : Addr) (k1 : ClassId) (x0 : Int32) (x1 : Int32) (h0 : Heap) (n0 : Nat) (Z0 : n0 ≤ h0.size) (O0 : Old Z n0 h0) (S_ad : Sta Z Z.heap "java/lang/StringUTF16" "$assertionsDisabled" "Z" (.int (1 : Int32))) (S_hi : Sta Z Z.heap "java/lang/StringUTF16" "HI_BYTE_SHIFT" "I" (.int (0 : Int32))) (S_lo : Sta Z Z.heap "java/lang/StringUTF16" "LO_BYTE_SHIFT" "I" (.int (8 : Int32))) (V1 : Arv Z h0 r1 k1 .char (2 : Int32) [(.int x0), (.int x1)] (.int (0 : Int32))) :
    own_Ctr l Z (⟨"java/lang/StringUTF16", "toBytes", "([CII)[B"⟩ : MethodName) jdk_52_method_14_code 5 (some (.array .byte)) ws ({ frames := 2, cells := 1, slots := 4, locals := 24 } : Room) (({ frames := 2, cells := 1, slots := 4, locals := 24 } : Room)).cells (({ frames := 2, cells := 1, slots := 4, locals := 24 } : Room)).slots #[(.ref r1), (.int (0 : Int32)), (.int (2 : Int32))] h0 (Q_own_tob2 Z r1 k1 x0 x1 h0 n0) := by
  refine own_enter (plainFor_of_name own_pn2) ?_
  intro p e s m below meth c s₁ X0 hx hZ hby hml hown hnm hlk hret e0
  have N0 := Fr.nil n0
  refine own_cast (own_ef_own_tob2 m r1) ?_
  refine own_by (g' := (mkF m 1 #[rv r1, iv (0 : Int32), iv (2 : Int32), .unset, .unset] [(.int (2 : Int32))])) (fun t k => XS.iloadN X0.here hx rfl (hb hby own_d25_0) rfl k) ?_
  refine own_callS X0 hx hZ hown (hw _ (List.mem_of_getElem? (i := 118) rfl)) (hw _ (List.mem_of_getElem? (i := 119) rfl)) (hw _ (List.mem_of_getElem? (i := 80) rfl)) (hw _ (List.mem_of_getElem? (i := 120) rfl)) (by decide) (own_nbf2 l Z a0 hw []  h0 n0 Z0 ) 0 (by decide) (by decide) (by decide) (by decide) e0 (g := (mkF m 1 #[rv r1, iv (0 : Int32), iv (2 : Int32), .unset, .unset] [(.int (2 : Int32))])) rfl (by rw [hml]; rfl) (argsL := [(.int (2 : Int32))]) (rest := []) (lenOf own_pd8 rfl) rfl (by show 2 * 0 + _ ≤ _; exact Nat.le_of_eq rfl) (hb hby own_d25_1) ?_
  intro v101 T101 L101 X101 q101
  obtain ⟨bo101, kb101, rfl, N101q, K101, f102, f103, f104⟩ := q101
  have N101 := Fr.app N0 N101q
  show own_Goes p e below s _ _ _ T101 (mkF m 4 #[rv r1, iv (0 : Int32), iv (2 : Int32), .unset, .unset] [(.ref bo101)])
  refine own_by (g' := (mkF m 17 #[rv r1, iv (0 : Int32), iv (2 : Int32), rv bo101, iv (0 : Int32)] [(.int (0 : Int32)), (.ref bo101)])) (fun t k => XS.astoreN X101.here hx rfl (hb hby own_d25_4) rfl rfl (l' := #[rv r1, iv (0 : Int32), iv (2 : Int32), rv bo101, .unset]) rfl (XS.iconst X101.here hx rfl (hb hby own_d25_5) (XS.istore X101.here hx rfl (hb hby own_d25_6) rfl (l' := #[rv r1, iv (0 : Int32), iv (2 : Int32), rv bo101, iv (0 : Int32)]) rfl (XS.iload X101.here hx rfl (hb hby own_d25_8) rfl (XS.iloadN X101.here hx rfl (hb hby own_d25_10) rfl (XS.icmpNo X101.here hx rfl (hb hby own_d25_11) rfl (tlt (by decide : (0 : Int32) < (2 : Int32))).2.1 (XS.aloadN X101.here hx rfl (hb hby own_d25_14) rfl rfl (XS.iload X101.here hx rfl (hb hby own_d25_15) rfl k)))))))) ?_
  refine own_by (g' := (mkF m 19 #[rv r1, iv (0 : Int32), iv (2 : Int32), rv bo101, iv (0 : Int32)] [(.int (0 : Int32)), (.ref r1), (.int (0 : Int32)), (.ref bo101)])) (fun t k => XS.aloadN X101.here hx rfl (hb hby own_d25_17) rfl rfl (XS.iloadN X101.here hx rfl (hb hby own_d25_18) rfl k)) ?_
  have f105 := (V1.keep K101 nin0)
  obtain ⟨c106, Ar106, q106, S106, G106, H106, F106⟩ := id f105
  have hin106 : ¬ ((0 : Int32) < 0 ∨ c106.slots.size ≤ ((0 : Int32)).toNatClampNeg) := inb_of S106 ⟨by decide, by decide⟩
  have hat106 : c106.slots[((0 : Int32)).toNatClampNeg]? = some (.int x0) := H106.at hin106 rfl
  refine own_by (g' := (mkF m 20 #[rv r1, iv (0 : Int32), iv (2 : Int32), rv bo101, iv (0 : Int32)] [(.int x0), (.int (0 : Int32)), (.ref bo101)])) (fun t k => X101.caload hx (j := (0 : Int32)) (v := (.int x0)) (own_at_ rfl Ar106.1) (State.isArrayOf_alike hZ.alike Ar106.2.1) Ar106.2.2 hin106 hat106 (g := (mkF m 19 #[rv r1, iv (0 : Int32), iv (2 : Int32), rv bo101, iv (0 : Int32)] [(.int (0 : Int32)), (.ref r1), (.int (0 : Int32)), (.ref bo101)])) rfl rfl (hb hby own_d25_19) t k) ?_
  have f107 := (O0.keep K101 all0)
  refine own_callS X101 hx hZ hown (hw _ (List.mem_of_getElem? (i := 125) rfl)) (hw _ (List.mem_of_getElem? (i := 126) rfl)) (hw _ (List.mem_of_getElem? (i := 80) rfl)) (hw _ (List.mem_of_getElem? (i := 127) rfl)) (by decide) (own_putc2_0 l Z a0 hw [] (bo101) (kb101) (x0) ((.int (0 : Int32))) ((.int (0 : Int32))) ((.int (0 : Int32))) ((.int (0 : Int32))) T101.heap n0 (Nat.le_trans Z0 K101.1) f107 S_ad S_hi S_lo f104 (Nat.le_trans Z0 f102)) 0 (by decide) (by decide) (by decide) (by decide) rfl (g := (mkF m 20 #[rv r1, iv (0 : Int32), iv (2 : Int32), rv bo101, iv (0 : Int32)] [(.int x0), (.int (0 : Int32)), (.ref bo101)])) rfl (by rw [hml]; rfl) (argsL := [(.ref bo101), (.int (0 : Int32)), (.int x0)]) (rest := []) (lenOf own_pd9 rfl) rfl (by show 2 * 0 + _ ≤ _; exact Nat.le_of_eq rfl) (hb hby own_d25_20) ?_
  intro v108 T108 L108 X108 q108
  obtain ⟨rfl, N108q, K108, f109⟩ := q108
  have N108 := Fr.app N101 N108q
  show own_Goes p e below s _ _ _ T108 (mkF m 23 #[rv r1, iv (0 : Int32), iv (2 : Int32), rv bo101, iv (0 : Int32)] [])
  refine own_by (g' := (mkF m 17 #[rv r1, iv (1 : Int32), iv (2 : Int32), rv bo101, iv (1 : Int32)] [(.int (1 : Int32)), (.ref bo101)])) (fun t k => XS.iinc X108.here hx rfl (hb hby own_d25_23) rfl (l' := #[rv r1, iv (1 : Int32), iv (2 : Int32), rv bo101, iv (0 : Int32)]) rfl (XS.iinc X108.here hx rfl (hb hby own_d25_26) rfl (l' := #[rv r1, iv (1 : Int32), iv (2 : Int32), rv bo101, iv (1 : Int32)]) rfl (XS.goto X108.here hx rfl (pc0 := 29) (pc' := 8) rfl (hb hby own_d25_29) (by decide) (by decide) (XS.iload X108.here hx rfl (hb hby own_d25_8) rfl (XS.iloadN X108.here hx rfl (hb hby own_d25_10) rfl (XS.icmpNo X108.here hx rfl (hb hby own_d25_11) rfl (tlt (by decide : (1 : Int32) < (2 : Int32))).2.1 (XS.aloadN X108.here hx rfl (hb hby own_d25_14) rfl rfl (XS.iload X108.here hx rfl (hb hby own_d25_15) rfl k)))))))) ?_
  refine own_by (g' := (mkF m 19 #[rv r1, iv (1 : Int32), iv (2 : Int32), rv bo101, iv (1 : Int32)] [(.int (1 : Int32)), (.ref r1), (.int (1 : Int32)), (.ref bo101)])) (fun t k => XS.aloadN X108.here hx rfl (hb hby own_d25_17) rfl rfl (XS.iloadN X108.here hx rfl (hb hby own_d25_18) rfl k)) ?_
  have f110 := (f105.keep K108 (ninS (Nat.ne_of_lt (Nat.lt_of_lt_of_le (Nat.lt_of_lt_of_le V1.lt (Nat.le_refl _)) f102)) nin0))
  obtain ⟨c111, Ar111, q111, S111, G111, H111, F111⟩ := id f110
  have hin111 : ¬ ((1 : Int32) < 0 ∨ c111.slots.size ≤ ((1 : Int32)).toNatClampNeg) := inb_of S111 ⟨by decide, by decide⟩
  have hat111 : c111.slots[((1 : Int32)).toNatClampNeg]? = some (.int x1) := H111.at hin111 rfl
  refine own_by (g' := (mkF m 20 #[rv r1, iv (1 : Int32), iv (2 : Int32), rv bo101, iv (1 : Int32)] [(.int x1), (.int (1 : Int32)), (.ref bo101)])) (fun t k => X108.caload hx (j := (1 : Int32)) (v := (.int x1)) (own_at_ rfl Ar111.1) (State.isArrayOf_alike hZ.alike Ar111.2.1) Ar111.2.2 hin111 hat111 (g := (mkF m 19 #[rv r1, iv (1 : Int32), iv (2 : Int32), rv bo101, iv (1 : Int32)] [(.int (1 : Int32)), (.ref r1), (.int (1 : Int32)), (.ref bo101)])) rfl rfl (hb hby own_d25_19) t k) ?_
  have f112 := (f107.keep K108 (allS (Nat.le_trans Z0 f102) all0))
  refine own_callS X108 hx hZ hown (hw _ (List.mem_of_getElem? (i := 125) rfl)) (hw _ (List.mem_of_getElem? (i := 126) rfl)) (hw _ (List.mem_of_getElem? (i := 80) rfl)) (hw _ (List.mem_of_getElem? (i := 127) rfl)) (by decide) (own_putc2_1 l Z a0 hw [] (bo101) (kb101) (x1) ((.int ((x0 >>> ((0 : Int32) &&& 31))).toInt8.toInt32)) ((.int ((x0 >>> ((8 : Int32) &&& 31))).toInt8.toInt32)) ((.int (0 : Int32))) ((.int (0 : Int32))) T108.heap n0 (Nat.le_trans Z0 (Nat.le_trans K101.1 K108.1)) f112 S_ad S_hi S_lo f109 (Nat.le_trans Z0 f102)) 0 (by decide) (by decide) (by decide) (by decide) rfl (g := (mkF m 20 #[rv r1, iv (1 : Int32), iv (2 : Int32), rv bo101, iv (1 : Int32)] [(.int x1), (.int (1 : Int32)), (.ref bo101)])) rfl (by rw [hml]; rfl) (argsL := [(.ref bo101), (.int (1 : Int32)), (.int x1)]) (rest := []) (lenOf own_pd9 rfl) rfl (by show 2 * 0 + _ ≤ _; exact Nat.le_of_eq rfl) (hb hby own_d25_20) ?_
  intro v113 T113 L113 X113 q113
  obtain ⟨rfl, N113q, K113, f114⟩ := q113
  have N113 := Fr.app N108 N113q
  show own_Goes p e below s _ _ _ T113 (mkF m 23 #[rv r1, iv (1 : Int32), iv (2 : Int32), rv bo101, iv (1 : Int32)] [])
  refine own_by (g' := (mkF m 33 #[rv r1, iv (2 : Int32), iv (2 : Int32), rv bo101, iv (2 : Int32)] [(.ref bo101)])) (fun t k => XS.iinc X113.here hx rfl (hb hby own_d25_23) rfl (l' := #[rv r1, iv (2 : Int32), iv (2 : Int32), rv bo101, iv (1 : Int32)]) rfl (XS.iinc X113.here hx rfl (hb hby own_d25_26) rfl (l' := #[rv r1, iv (2 : Int32), iv (2 : Int32), rv bo101, iv (2 : Int32)]) rfl (XS.goto X113.here hx rfl (pc0 := 29) (pc' := 8) rfl (hb hby own_d25_29) (by decide) (by decide) (XS.iload X113.here hx rfl (hb hby own_d25_8) rfl (XS.iloadN X113.here hx rfl (hb hby own_d25_10) rfl (XS.icmpYes X113.here hx rfl (pc0 := 11) (pc' := 32) rfl (hb hby own_d25_11) rfl (flt (by decide : ¬ ((2 : Int32) < (2 : Int32)))).2.1 (by decide) (by decide) (XS.aloadN X113.here hx rfl (hb hby own_d25_32) rfl rfl k))))))) ?_
  have f115 := ((f103.keep K108).keep K113)
  refine own_retA X113 hx hlk hret rfl rfl (hb hby own_d25_33) (by decide) (by decide) ?_
  exact ⟨bo101, kb101, rfl, N113, ((((Keep.refl h0 []).trans K101 all0).trans K108 (allS (Or.inr (Nat.le_trans (Nat.le_refl _) f102)) all0)).trans K113 (allS (Or.inr (Nat.le_trans (Nat.le_refl _) f102)) all0)), (Nat.le_trans (Nat.le_refl _) f102), f115, f114⟩
def Q_own_com5_2 (Z : State) (r1 : Addr) (r2 : Addr) (k1 : ClassId) (k2 : ClassId) (x0 : Int32) (x1 : Int32) (h0 : Heap) (n0 : Nat) (v : Option Value) (h : Heap) (L : List Loc) : Prop := ∃ (cnt : Int32), ∃ (vs : List Value), v = some (.int cnt) ∧ Fr n0 L ∧ Keep h0 h [r2] ∧ Arv Z h r2 k2 .byte (2 : Int32) vs (.int (0 : Int32)) ∧ ((cnt = (2 : Int32) ∧ vs = [(.int (x0).toInt8.toInt32), (.int (x1).toInt8.toInt32)] ∧ ¬ ((255 : Int32) < x0) ∧ ¬ ((255 : Int32) < x1)) ∨ (cnt = (0 : Int32) ∧ (255 : Int32) < x0) ∨ (cnt = (1 : Int32) ∧ (255 : Int32) < x1))
theorem own_ef_own_com5_2 (m : MethodId) (r1 : Addr) (r2 : Addr) : entryFrame m #[(.ref r1), (.int (0 : Int32)), (.ref r2), (.int (0 : Int32)), (.int (2 : Int32))] 7 = mkF m 0 #[rv r1, iv (0 : Int32), rv r2, iv (0 : Int32), iv (2 : Int32), .unset, .unset] [] := by first | (simp [entryFrame, mkF, argsToLocals, Value.category]; done) | rfl
set_option maxRecDepth 65536 in
set_option maxHeartbeats 40000000 in
theorem own_com5_2 (l : Launch) (Z : State) (a0 : Array Value) (hw : ∀ d ∈ tables_1, d.before a0 Z = true) (ws : List Jvm.Cond) (r1 : Addr) (r2 : Addr) (k1 : ClassId) (k2 : ClassId) (x0 : Int32) (x1 : Int32) (h0 : Heap) (n0 : Nat) (Z0 : n0 ≤ h0.size) (V1 : Arv Z h0 r1 k1 .char (2 : Int32) [(.int x0), (.int x1)] (.int (0 : Int32))) (V2 : Arv Z h0 r2 k2 .byte (2 : Int32) [(.int (0 : Int32)), (.int (0 : Int32))] (.int (0 : Int32))) (g2 : n0 ≤ r2) (n12 : r1 ≠ r2) :
    own_Ctr l Z (⟨"java/lang/StringUTF16", "compress", "([CI[BII)I"⟩ : MethodName) jdk_52_method_21_code 7 (some .int) ws ({ frames := 0, cells := 0, slots := 0, locals := 0 } : Room) (({ frames := 0, cells := 0, slots := 0, locals := 0 } : Room)).cells (({ frames := 0, cells := 0, slots := 0, locals := 0 } : Room)).slots #[(.ref r1), (.int (0 : Int32)), (.ref r2), (.int (0 : Int32)), (.int (2 : Int32))] h0 (Q_own_com5_2 Z r1 r2 k1 k2 x0 x1 h0 n0) := by
  refine own_enter (plainFor_of_name own_pn2) ?_
  intro p e s m below meth c s₁ X0 hx hZ hby hml hown hnm hlk hret e0
  have N0 := Fr.nil n0
  refine own_cast (own_ef_own_com5_2 m r1 r2) ?_
  refine own_by (g' := (mkF m 12 #[rv r1, iv (0 : Int32), rv r2, iv (0 : Int32), iv (2 : Int32), iv (0 : Int32), .unset] [(.int (0 : Int32)), (.ref r1)])) (fun t k => XS.iconst X0.here hx rfl (hb hby own_d17_0) (XS.istore X0.here hx rfl (hb hby own_d17_1) rfl (l' := #[rv r1, iv (0 : Int32), rv r2, iv (0 : Int32), iv (2 : Int32), iv (0 : Int32), .unset]) rfl (XS.iload X0.here hx rfl (hb hby own_d17_3) rfl (XS.iload X0.here hx rfl (hb hby own_d17_5) rfl (XS.icmpNo X0.here hx rfl (hb hby own_d17_7) rfl (tlt (by decide : (0 : Int32) < (2 : Int32))).2.1 (XS.aloadN X0.here hx rfl (hb hby own_d17_10) rfl rfl (XS.iloadN X0.here hx rfl (hb hby own_d17_11) rfl k))))))) ?_
  obtain ⟨c101, Ar101, q101, S101, G101, H101, F101⟩ := id V1
  have hin101 : ¬ ((0 : Int32) < 0 ∨ c101.slots.size ≤ ((0 : Int32)).toNatClampNeg) := inb_of S101 ⟨by decide, by decide⟩
  have hat101 : c101.slots[((0 : Int32)).toNatClampNeg]? = some (.int x0) := H101.at hin101 rfl
  refine own_by (g' := (mkF m 20 #[rv r1, iv (0 : Int32), rv r2, iv (0 : Int32), iv (2 : Int32), iv (0 : Int32), iv x0] [(.int (255 : Int32)), (.int x0)])) (fun t k => X0.caload hx (j := (0 : Int32)) (v := (.int x0)) (own_at_ e0 Ar101.1) (State.isArrayOf_alike hZ.alike Ar101.2.1) Ar101.2.2 hin101 hat101 (g := (mkF m 12 #[rv r1, iv (0 : Int32), rv r2, iv (0 : Int32), iv (2 : Int32), iv (0 : Int32), .unset] [(.int (0 : Int32)), (.ref r1)])) rfl rfl (hb hby own_d17_12) t (XS.istore X0.here hx rfl (hb hby own_d17_13) rfl (l' := #[rv r1, iv (0 : Int32), rv r2, iv (0 : Int32), iv (2 : Int32), iv (0 : Int32), iv x0]) rfl (XS.iload X0.here hx rfl (hb hby own_d17_15) rfl (XS.sipush X0.here hx rfl (hb hby own_d17_17) k)))) ?_
  by_cases hc102 : (255 : Int32) < x0
  ·
    refine own_by (g' := (mkF m 25 #[rv r1, iv (0 : Int32), rv r2, iv (0 : Int32), iv (2 : Int32), iv (0 : Int32), iv x0] [(.int (0 : Int32))])) (fun t k => XS.icmpNo X0.here hx rfl (hb hby own_d17_20) rfl (tlt hc102).2.2.2 (XS.iload X0.here hx rfl (hb hby own_d17_23) rfl k)) ?_
    refine own_retI X0 hx hlk hret (hb hby own_d17_25) (by decide) (by decide) ?_
    rw [e0]
    exact ⟨(0 : Int32), [(.int (0 : Int32)), (.int (0 : Int32))], rfl, N0, (Keep.refl h0 [r2]), V2, (Or.inr (Or.inl ⟨rfl, hc102⟩))⟩
  ·
    refine own_by (g' := (mkF m 31 #[rv r1, iv (0 : Int32), rv r2, iv (0 : Int32), iv (2 : Int32), iv (0 : Int32), iv x0] [(.int (x0).toInt8.toInt32), (.int (0 : Int32)), (.ref r2)])) (fun t k => XS.icmpYes X0.here hx rfl (pc0 := 20) (pc' := 26) rfl (hb hby own_d17_20) rfl (flt hc102).2.2.2 (by decide) (by decide) (XS.aloadN X0.here hx rfl (hb hby own_d17_26) rfl rfl (XS.iloadN X0.here hx rfl (hb hby own_d17_27) rfl (XS.iload X0.here hx rfl (hb hby own_d17_28) rfl (XS.i2b X0.here hx rfl (hb hby own_d17_30) rfl k))))) ?_
    obtain ⟨c103, Ar103, q103, S103, G103, H103, F103⟩ := id V2
    have hin103 : ¬ ((0 : Int32) < 0 ∨ c103.slots.size ≤ ((0 : Int32)).toNatClampNeg) := inb_of S103 ⟨by decide, by decide⟩
    obtain ⟨T103, h103, X103, e103, W103, st103⟩ := stB X0 hx hZ e0 Ar103 (j := (0 : Int32)) hin103 (g := (mkF m 31 #[rv r1, iv (0 : Int32), rv r2, iv (0 : Int32), iv (2 : Int32), iv (0 : Int32), iv x0] [(.int (x0).toInt8.toInt32), (.int (0 : Int32)), (.ref r2)])) rfl rfl (hb hby own_d17_31)
    have V104 : Arv Z h103 r2 k2 .byte (2 : Int32) [(.int (x0).toInt8.toInt32), (.int (0 : Int32))] (.int (0 : Int32)) := Arv.set Ar103 q103 S103 G103 H103 F103 (fits_nar_byte _) (own_wr W103 (congrArg Value.int (own_b8 _))) 0 rfl (Nat.le_of_ble_eq_true rfl)
    have N103 := Fr.snoc X103 N0 g2
    refine own_by (g' := (mkF m 32 #[rv r1, iv (0 : Int32), rv r2, iv (0 : Int32), iv (2 : Int32), iv (0 : Int32), iv x0] [])) st103 ?_
    refine own_by (g' := (mkF m 11 #[rv r1, iv (1 : Int32), rv r2, iv (1 : Int32), iv (2 : Int32), iv (1 : Int32), iv x0] [(.ref r1)])) (fun t k => XS.iinc X103.here hx rfl (hb hby own_d17_32) rfl (l' := #[rv r1, iv (1 : Int32), rv r2, iv (0 : Int32), iv (2 : Int32), iv (0 : Int32), iv x0]) rfl (XS.iinc X103.here hx rfl (hb hby own_d17_35) rfl (l' := #[rv r1, iv (1 : Int32), rv r2, iv (1 : Int32), iv (2 : Int32), iv (0 : Int32), iv x0]) rfl (XS.iinc X103.here hx rfl (hb hby own_d17_38) rfl (l' := #[rv r1, iv (1 : Int32), rv r2, iv (1 : Int32), iv (2 : Int32), iv (1 : Int32), iv x0]) rfl (XS.goto X103.here hx rfl (pc0 := 41) (pc' := 3) rfl (hb hby own_d17_41) (by decide) (by decide) (XS.iload X103.here hx rfl (hb hby own_d17_3) rfl (XS.iload X103.here hx rfl (hb hby own_d17_5) rfl (XS.icmpNo X103.here hx rfl (hb hby own_d17_7) rfl (tlt (by decide : (1 : Int32) < (2 : Int32))).2.1 (XS.aloadN X103.here hx rfl (hb hby own_d17_10) rfl rfl k)))))))) ?_
    refine own_by (g' := (mkF m 12 #[rv r1, iv (1 : Int32), rv r2, iv (1 : Int32), iv (2 : Int32), iv (1 : Int32), iv x0] [(.int (1 : Int32)), (.ref r1)])) (fun t k => XS.iloadN X103.here hx rfl (hb hby own_d17_11) rfl k) ?_
    have f105 := (V1.other W103 n12)
    obtain ⟨c106, Ar106, q106, S106, G106, H106, F106⟩ := id f105
    have hin106 : ¬ ((1 : Int32) < 0 ∨ c106.slots.size ≤ ((1 : Int32)).toNatClampNeg) := inb_of S106 ⟨by decide, by decide⟩
    have hat106 : c106.slots[((1 : Int32)).toNatClampNeg]? = some (.int x1) := H106.at hin106 rfl
    refine own_by (g' := (mkF m 20 #[rv r1, iv (1 : Int32), rv r2, iv (1 : Int32), iv (2 : Int32), iv (1 : Int32), iv x1] [(.int (255 : Int32)), (.int x1)])) (fun t k => X103.caload hx (j := (1 : Int32)) (v := (.int x1)) (own_at_ e103 Ar106.1) (State.isArrayOf_alike hZ.alike Ar106.2.1) Ar106.2.2 hin106 hat106 (g := (mkF m 12 #[rv r1, iv (1 : Int32), rv r2, iv (1 : Int32), iv (2 : Int32), iv (1 : Int32), iv x0] [(.int (1 : Int32)), (.ref r1)])) rfl rfl (hb hby own_d17_12) t (XS.istore X103.here hx rfl (hb hby own_d17_13) rfl (l' := #[rv r1, iv (1 : Int32), rv r2, iv (1 : Int32), iv (2 : Int32), iv (1 : Int32), iv x1]) rfl (XS.iload X103.here hx rfl (hb hby own_d17_15) rfl (XS.sipush X103.here hx rfl (hb hby own_d17_17) k)))) ?_
    by_cases hc107 : (255 : Int32) < x1
    ·
      refine own_by (g' := (mkF m 25 #[rv r1, iv (1 : Int32), rv r2, iv (1 : Int32), iv (2 : Int32), iv (1 : Int32), iv x1] [(.int (1 : Int32))])) (fun t k => XS.icmpNo X103.here hx rfl (hb hby own_d17_20) rfl (tlt hc107).2.2.2 (XS.iload X103.here hx rfl (hb hby own_d17_23) rfl k)) ?_
      refine own_retI X103 hx hlk hret (hb hby own_d17_25) (by decide) (by decide) ?_
      rw [e103]
      exact ⟨(1 : Int32), [(.int (x0).toInt8.toInt32), (.int (0 : Int32))], rfl, N103, ((Keep.refl h0 [r2]).wr W103 (Or.inl (List.mem_of_getElem? (i := 0) rfl))), V104, (Or.inr (Or.inr (⟨rfl, hc107⟩)))⟩
    ·
      refine own_by (g' := (mkF m 31 #[rv r1, iv (1 : Int32), rv r2, iv (1 : Int32), iv (2 : Int32), iv (1 : Int32), iv x1] [(.int (x1).toInt8.toInt32), (.int (1 : Int32)), (.ref r2)])) (fun t k => XS.icmpYes X103.here hx rfl (pc0 := 20) (pc' := 26) rfl (hb hby own_d17_20) rfl (flt hc107).2.2.2 (by decide) (by decide) (XS.aloadN X103.here hx rfl (hb hby own_d17_26) rfl rfl (XS.iloadN X103.here hx rfl (hb hby own_d17_27) rfl (XS.iload X103.here hx rfl (hb hby own_d17_28) rfl (XS.i2b X103.here hx rfl (hb hby own_d17_30) rfl k))))) ?_
      obtain ⟨c108, Ar108, q108, S108, G108, H108, F108⟩ := id V104
      have hin108 : ¬ ((1 : Int32) < 0 ∨ c108.slots.size ≤ ((1 : Int32)).toNatClampNeg) := inb_of S108 ⟨by decide, by decide⟩
      obtain ⟨T108, h108, X108, e108, W108, st108⟩ := stB X103 hx hZ e103 Ar108 (j := (1 : Int32)) hin108 (g := (mkF m 31 #[rv r1, iv (1 : Int32), rv r2, iv (1 : Int32), iv (2 : Int32), iv (1 : Int32), iv x1] [(.int (x1).toInt8.toInt32), (.int (1 : Int32)), (.ref r2)])) rfl rfl (hb hby own_d17_31)
      have V109 : Arv Z h108 r2 k2 .byte (2 : Int32) [(.int (x0).toInt8.toInt32), (.int (x1).toInt8.toInt32)] (.int (0 : Int32)) := Arv.set Ar108 q108 S108 G108 H108 F108 (fits_nar_byte _) (own_wr W108 (congrArg Value.int (own_b8 _))) 1 rfl (Nat.le_of_ble_eq_true rfl)
      have N108 := Fr.snoc X108 N103 g2
      refine own_by (g' := (mkF m 32 #[rv r1, iv (1 : Int32), rv r2, iv (1 : Int32), iv (2 : Int32), iv (1 : Int32), iv x1] [])) st108 ?_
      refine own_by (g' := (mkF m 46 #[rv r1, iv (2 : Int32), rv r2, iv (2 : Int32), iv (2 : Int32), iv (2 : Int32), iv x1] [(.int (2 : Int32))])) (fun t k => XS.iinc X108.here hx rfl (hb hby own_d17_32) rfl (l' := #[rv r1, iv (2 : Int32), rv r2, iv (1 : Int32), iv (2 : Int32), iv (1 : Int32), iv x1]) rfl (XS.iinc X108.here hx rfl (hb hby own_d17_35) rfl (l' := #[rv r1, iv (2 : Int32), rv r2, iv (2 : Int32), iv (2 : Int32), iv (1 : Int32), iv x1]) rfl (XS.iinc X108.here hx rfl (hb hby own_d17_38) rfl (l' := #[rv r1, iv (2 : Int32), rv r2, iv (2 : Int32), iv (2 : Int32), iv (2 : Int32), iv x1]) rfl (XS.goto X108.here hx rfl (pc0 := 41) (pc' := 3) rfl (hb hby own_d17_41) (by decide) (by decide) (XS.iload X108.here hx rfl (hb hby own_d17_3) rfl (XS.iload X108.here hx rfl (hb hby own_d17_5) rfl (XS.icmpYes X108.here hx rfl (pc0 := 7) (pc' := 44) rfl (hb hby own_d17_7) rfl (flt (by decide : ¬ ((2 : Int32) < (2 : Int32)))).2.1 (by decide) (by decide) (XS.iload X108.here hx rfl (hb hby own_d17_44) rfl k)))))))) ?_
      refine own_retI X108 hx hlk hret (hb hby own_d17_46) (by decide) (by decide) ?_
      rw [e108]
      exact ⟨(2 : Int32), [(.int (x0).toInt8.toInt32), (.int (x1).toInt8.toInt32)], rfl, N108, (((Keep.refl h0 [r2]).wr W103 (Or.inl (List.mem_of_getElem? (i := 0) rfl))).wr W108 (Or.inl (List.mem_of_getElem? (i := 0) rfl))), V109, (Or.inl ⟨rfl, rfl, hc102, hc107⟩)⟩
def Q_own_com3_2 (Z : State) (r1 : Addr) (k1 : ClassId) (x0 : Int32) (x1 : Int32) (h0 : Heap) (n0 : Nat) (v : Option Value) (h : Heap) (L : List Loc) : Prop := ∃ (bo : Addr), ∃ (kb : ClassId), ∃ (ln : Int32), ∃ (vs : List Value), v = some (.ref bo) ∧ Fr n0 L ∧ Keep h0 h [] ∧ h0.size ≤ bo ∧ Exa Z h bo "[B" ∧ Arv Z h bo kb .byte ln vs (.int (0 : Int32)) ∧ ((ln = (2 : Int32) ∧ vs = [(.int (x0).toInt8.toInt32), (.int (x1).toInt8.toInt32)] ∧ ¬ ((255 : Int32) < x0) ∧ ¬ ((255 : Int32) < x1)) ∨ (ln = (4 : Int32) ∧ vs = [(.int ((x0 >>> ((0 : Int32) &&& 31))).toInt8.toInt32), (.int ((x0 >>> ((8 : Int32) &&& 31))).toInt8.toInt32), (.int ((x1 >>> ((0 : Int32) &&& 31))).toInt8.toInt32), (.int ((x1 >>> ((8 : Int32) &&& 31))).toInt8.toInt32)]))
theorem own_ef_own_com3_2 (m : MethodId) (r1 : Addr) : entryFrame m #[(.ref r1), (.int (0 : Int32)), (.int (2 : Int32))] 6 = mkF m 0 #[rv r1, iv (0 : Int32), iv (2 : Int32), .unset, .unset, .unset] [] := by first | (simp [entryFrame, mkF, argsToLocals, Value.category]; done) | rfl
set_option maxRecDepth 65536 in
set_option maxHeartbeats 40000000 in
theorem own_com3_2 (l : Launch) (Z : State) (a0 : Array Value) (hw : ∀ d ∈ tables_1, d.before a0 Z = true) (ws : List Jvm.Cond) (r1 : Addr) (k1 : ClassId) (x0 : Int32) (x1 : Int32) (h0 : Heap) (n0 : Nat) (Z0 : n0 ≤ h0.size) (O0 : Old Z n0 h0) (S_ad : Sta Z Z.heap "java/lang/StringUTF16" "$assertionsDisabled" "Z" (.int (1 : Int32))) (S_hi : Sta Z Z.heap "java/lang/StringUTF16" "HI_BYTE_SHIFT" "I" (.int (0 : Int32))) (S_lo : Sta Z Z.heap "java/lang/StringUTF16" "LO_BYTE_SHIFT" "I" (.int (8 : Int32))) (hk0 : own_ch x0) (hk1 : own_ch x1) (V1 : Arv Z h0 r1 k1 .char (2 : Int32) [(.int x0), (.int x1)] (.int (0 : Int32))) :
    own_Ctr l Z (⟨"java/lang/StringUTF16", "compress", "([CII)[B"⟩ : MethodName) jdk_52_method_16_code 6 (some (.array .byte)) ws ({ frames := 3, cells := 2, slots := 6, locals := 40 } : Room) (({ frames := 3, cells := 2, slots := 6, locals := 40 } : Room)).cells (({ frames := 3, cells := 2, slots := 6, locals := 40 } : Room)).slots #[(.ref r1), (.int (0 : Int32)), (.int (2 : Int32))] h0 (Q_own_com3_2 Z r1 k1 x0 x1 h0 n0) := by
  refine own_enter (plainFor_of_name own_pn2) ?_
  intro p e s m below meth c s₁ X0 hx hZ hby hml hown hnm hlk hret e0
  have N0 := Fr.nil n0
  refine own_cast (own_ef_own_com3_2 m r1) ?_
  refine own_by (g' := (mkF m 1 #[rv r1, iv (0 : Int32), iv (2 : Int32), .unset, .unset, .unset] [(.int (2 : Int32))])) (fun t k => XS.iloadN X0.here hx rfl (hb hby own_d16_0) rfl k) ?_
  obtain ⟨T101, h101, k101, X101, e101, E101, A101, Y101, st101⟩ := newPE X0 hx hZ (hw _ (List.mem_of_getElem? (i := 23) rfl)) e0 (g := (mkF m 1 #[rv r1, iv (0 : Int32), iv (2 : Int32), .unset, .unset, .unset] [(.int (2 : Int32))])) rfl (hb hby own_d16_1) rfl (by decide) (cap := 2) (by decide) (by decide) (by decide) (by decide) (ad := "[B") own_ad_byte
  obtain ⟨b101, g101⟩ : ∃ z, z = h0.size := ⟨_, rfl⟩
  rw [← g101] at A101 Y101 st101
  have sz_b101 : h0.size ≤ b101 := Nat.le_trans (Nat.le_refl _) (Nat.le_of_eq g101.symm)
  have g_b101 : n0 ≤ b101 := Nat.le_trans Z0 sz_b101
  have V101 : Arv Z h101 b101 k101 .byte (2 : Int32) [(.int (0 : Int32)), (.int (0 : Int32))] (.int (0 : Int32)) := (Arv.new A101 (by decide)).pad (pad_rep [] (.int (0 : Int32)) 2)
  refine own_by (g' := (mkF m 3 #[rv r1, iv (0 : Int32), iv (2 : Int32), .unset, .unset, .unset] [(.ref b101)])) st101 ?_
  refine own_by (g' := (mkF m 9 #[rv r1, iv (0 : Int32), iv (2 : Int32), rv b101, .unset, .unset] [(.int (2 : Int32)), (.int (0 : Int32)), (.ref b101), (.int (0 : Int32)), (.ref r1)])) (fun t k => XS.astoreN X101.here hx rfl (hb hby own_d16_3) rfl rfl (l' := #[rv r1, iv (0 : Int32), iv (2 : Int32), rv b101, .unset, .unset]) rfl (XS.aloadN X101.here hx rfl (hb hby own_d16_4) rfl rfl (XS.iloadN X101.here hx rfl (hb hby own_d16_5) rfl (XS.aloadN X101.here hx rfl (hb hby own_d16_6) rfl rfl (XS.iconst X101.here hx rfl (hb hby own_d16_7) (XS.iloadN X101.here hx rfl (hb hby own_d16_8) rfl k)))))) ?_
  have f102 := (V1.ext E101)
  refine own_callS X101 hx hZ hown (hw _ (List.mem_of_getElem? (i := 82) rfl)) (hw _ (List.mem_of_getElem? (i := 83) rfl)) (hw _ (List.mem_of_getElem? (i := 80) rfl)) (hw _ (List.mem_of_getElem? (i := 84) rfl)) (by decide) (own_com5_2 l Z a0 hw [] (r1) (b101) (k1) (k101) (x0) (x1) h101 n0 (Nat.le_trans Z0 E101.1) f102 V101 g_b101 (Nat.ne_of_lt (Nat.lt_of_lt_of_le (Nat.lt_of_lt_of_le V1.lt (Nat.le_refl _)) (Nat.le_of_eq g101.symm)))) 0 (by decide) (by decide) (by decide) (by decide) e101 (g := (mkF m 9 #[rv r1, iv (0 : Int32), iv (2 : Int32), rv b101, .unset, .unset] [(.int (2 : Int32)), (.int (0 : Int32)), (.ref b101), (.int (0 : Int32)), (.ref r1)])) rfl (by rw [hml]; rfl) (argsL := [(.ref r1), (.int (0 : Int32)), (.ref b101), (.int (0 : Int32)), (.int (2 : Int32))]) (rest := []) (lenOf own_pd10 rfl) rfl (by show 2 * 0 + _ ≤ _; exact Nat.le_of_eq rfl) (hb hby own_d16_9) ?_
  intro v103 T103 L103 X103 q103
  obtain ⟨cnt103, vs103, rfl, N103q, K103, f104, f105⟩ := q103
  have N103 := Fr.app N0 N103q
  show own_Goes p e below s _ _ _ T103 (mkF m 12 #[rv r1, iv (0 : Int32), iv (2 : Int32), rv b101, .unset, .unset] [(.int cnt103)])
  rcases f105 with ⟨rfl, rfl, hq0, hq1⟩ | ⟨rfl, hq0⟩ | ⟨rfl, hq1⟩
  ·
    refine own_by (g' := (mkF m 58 #[rv r1, iv (0 : Int32), iv (2 : Int32), rv b101, iv (2 : Int32), .unset] [(.ref b101)])) (fun t k => XS.istore X103.here hx rfl (hb hby own_d16_12) rfl (l' := #[rv r1, iv (0 : Int32), iv (2 : Int32), rv b101, iv (2 : Int32), .unset]) rfl (XS.iload X103.here hx rfl (hb hby own_d16_14) rfl (XS.iloadN X103.here hx rfl (hb hby own_d16_16) rfl (XS.icmpYes X103.here hx rfl (pc0 := 17) (pc' := 57) rfl (hb hby own_d16_17) rfl (teq (by decide : (2 : Int32) = (2 : Int32))).1 (by decide) (by decide) (XS.aloadN X103.here hx rfl (hb hby own_d16_57) rfl rfl k))))) ?_
    have f106 := (Y101.keep K103)
    refine own_retA X103 hx hlk hret rfl rfl (hb hby own_d16_58) (by decide) (by decide) ?_
    exact ⟨b101, k101, (2 : Int32), [(.int (x0).toInt8.toInt32), (.int (x1).toInt8.toInt32)], rfl, N103, (((Keep.refl h0 []).ext E101).trans K103 (allS (Or.inr sz_b101) all0)), sz_b101, f106, f104, (Or.inl ⟨rfl, rfl, hq0, hq1⟩)⟩
  ·
    refine own_by (g' := (mkF m 23 #[rv r1, iv (0 : Int32), iv (2 : Int32), rv b101, iv (0 : Int32), .unset] [(.int (2 : Int32)), (.int (0 : Int32)), (.ref r1)])) (fun t k => XS.istore X103.here hx rfl (hb hby own_d16_12) rfl (l' := #[rv r1, iv (0 : Int32), iv (2 : Int32), rv b101, iv (0 : Int32), .unset]) rfl (XS.iload X103.here hx rfl (hb hby own_d16_14) rfl (XS.iloadN X103.here hx rfl (hb hby own_d16_16) rfl (XS.icmpNo X103.here hx rfl (hb hby own_d16_17) rfl (feq (by decide : ¬ ((0 : Int32) = (2 : Int32)))).1 (XS.aloadN X103.here hx rfl (hb hby own_d16_20) rfl rfl (XS.iloadN X103.here hx rfl (hb hby own_d16_21) rfl (XS.iloadN X103.here hx rfl (hb hby own_d16_22) rfl k))))))) ?_
    have f107 := ((O0.ext E101).keep K103 (allS g_b101 all0))
    have f108 := (f102.keep K103 (ninS (Nat.ne_of_lt (Nat.lt_of_lt_of_le (Nat.lt_of_lt_of_le V1.lt (Nat.le_refl _)) (Nat.le_of_eq g101.symm))) nin0))
    refine own_callS X103 hx hZ hown (hw _ (List.mem_of_getElem? (i := 115) rfl)) (hw _ (List.mem_of_getElem? (i := 116) rfl)) (hw _ (List.mem_of_getElem? (i := 80) rfl)) (hw _ (List.mem_of_getElem? (i := 117) rfl)) (by decide) (own_tob2 l Z a0 hw [] (r1) (k1) (x0) (x1) T103.heap n0 (Nat.le_trans Z0 (Nat.le_trans E101.1 K103.1)) f107 S_ad S_hi S_lo f108) 0 (by decide) (by decide) (by decide) (by decide) rfl (g := (mkF m 23 #[rv r1, iv (0 : Int32), iv (2 : Int32), rv b101, iv (0 : Int32), .unset] [(.int (2 : Int32)), (.int (0 : Int32)), (.ref r1)])) rfl (by rw [hml]; rfl) (argsL := [(.ref r1), (.int (0 : Int32)), (.int (2 : Int32))]) (rest := []) (lenOf own_pd11 rfl) rfl (by show 2 * 0 + _ ≤ _; exact Nat.le_of_eq rfl) (hb hby own_d16_23) ?_
    intro v109 T109 L109 X109 q109
    obtain ⟨bo109, kb109, rfl, N109q, K109, f110, f111, f112⟩ := q109
    have N109 := Fr.app N103 N109q
    show own_Goes p e below s _ _ _ T109 (mkF m 26 #[rv r1, iv (0 : Int32), iv (2 : Int32), rv b101, iv (0 : Int32), .unset] [(.ref bo109)])
    refine own_by (g' := (mkF m 32 #[rv r1, iv (0 : Int32), iv (2 : Int32), rv b101, iv (0 : Int32), rv bo109] [(.int (0 : Int32)), (.ref bo109)])) (fun t k => XS.astore X109.here hx rfl (hb hby own_d16_26) rfl rfl (l' := #[rv r1, iv (0 : Int32), iv (2 : Int32), rv b101, iv (0 : Int32), rv bo109]) rfl (XS.aload X109.here hx rfl (hb hby own_d16_28) rfl rfl (XS.iload X109.here hx rfl (hb hby own_d16_30) rfl k))) ?_
    have f113 := (f107.keep K109 all0)
    refine own_callS X109 hx hZ hown (hw _ (List.mem_of_getElem? (i := 131) rfl)) (hw _ (List.mem_of_getElem? (i := 132) rfl)) (hw _ (List.mem_of_getElem? (i := 80) rfl)) (hw _ (List.mem_of_getElem? (i := 133) rfl)) (by decide) (own_getc0 l Z a0 hw [] (bo109) (kb109) ((4 : Int32)) ([(.int ((x0 >>> ((0 : Int32) &&& 31))).toInt8.toInt32), (.int ((x0 >>> ((8 : Int32) &&& 31))).toInt8.toInt32), (.int ((x1 >>> ((0 : Int32) &&& 31))).toInt8.toInt32), (.int ((x1 >>> ((8 : Int32) &&& 31))).toInt8.toInt32)]) (((x0 >>> ((0 : Int32) &&& 31))).toInt8.toInt32) (((x0 >>> ((8 : Int32) &&& 31))).toInt8.toInt32) (x0) T109.heap n0 (Nat.le_trans Z0 (Nat.le_trans (Nat.le_trans E101.1 K103.1) K109.1)) f113 S_ad S_hi S_lo f112 (by first | assumption | decide) (by first | assumption | decide) rfl rfl (own_utf x0 hk0)) 0 (by decide) (by decide) (by decide) (by decide) rfl (g := (mkF m 32 #[rv r1, iv (0 : Int32), iv (2 : Int32), rv b101, iv (0 : Int32), rv bo109] [(.int (0 : Int32)), (.ref bo109)])) rfl (by rw [hml]; rfl) (argsL := [(.ref bo109), (.int (0 : Int32))]) (rest := []) (lenOf own_pd4 rfl) rfl (by show 2 * 0 + _ ≤ _; exact Nat.le_of_eq rfl) (hb hby own_d16_32) ?_
    intro v114 T114 L114 X114 q114
    obtain ⟨rfl, N114q, e114⟩ := q114
    have N114 := Fr.app N109 N114q
    show own_Goes p e below s _ _ _ T114 (mkF m 35 #[rv r1, iv (0 : Int32), iv (2 : Int32), rv b101, iv (0 : Int32), rv bo109] [(.int x0)])
    refine own_by (g' := (mkF m 56 #[rv r1, iv (0 : Int32), iv (2 : Int32), rv b101, iv (0 : Int32), rv bo109] [(.ref bo109)])) (fun t k => XS.sipush X114.here hx rfl (hb hby own_d16_35) (XS.icmpYes X114.here hx rfl (pc0 := 38) (pc' := 54) rfl (hb hby own_d16_38) rfl (tlt hq0).2.2.1 (by decide) (by decide) (XS.aload X114.here hx rfl (hb hby own_d16_54) rfl rfl k))) ?_
    refine own_retA X114 hx hlk hret rfl rfl (hb hby own_d16_56) (by decide) (by decide) ?_
    rw [e114]
    exact ⟨bo109, kb109, (4 : Int32), [(.int ((x0 >>> ((0 : Int32) &&& 31))).toInt8.toInt32), (.int ((x0 >>> ((8 : Int32) &&& 31))).toInt8.toInt32), (.int ((x1 >>> ((0 : Int32) &&& 31))).toInt8.toInt32), (.int ((x1 >>> ((8 : Int32) &&& 31))).toInt8.toInt32)], rfl, N114, ((((Keep.refl h0 []).ext E101).trans K103 (allS (Or.inr sz_b101) all0)).trans K109 all0), (Nat.le_trans (Nat.le_trans E101.1 K103.1) f110), f111, f112, (Or.inr ⟨rfl, rfl⟩)⟩
  ·
    refine own_by (g' := (mkF m 23 #[rv r1, iv (0 : Int32), iv (2 : Int32), rv b101, iv (1 : Int32), .unset] [(.int (2 : Int32)), (.int (0 : Int32)), (.ref r1)])) (fun t k => XS.istore X103.here hx rfl (hb hby own_d16_12) rfl (l' := #[rv r1, iv (0 : Int32), iv (2 : Int32), rv b101, iv (1 : Int32), .unset]) rfl (XS.iload X103.here hx rfl (hb hby own_d16_14) rfl (XS.iloadN X103.here hx rfl (hb hby own_d16_16) rfl (XS.icmpNo X103.here hx rfl (hb hby own_d16_17) rfl (feq (by decide : ¬ ((1 : Int32) = (2 : Int32)))).1 (XS.aloadN X103.here hx rfl (hb hby own_d16_20) rfl rfl (XS.iloadN X103.here hx rfl (hb hby own_d16_21) rfl (XS.iloadN X103.here hx rfl (hb hby own_d16_22) rfl k))))))) ?_
    have f115 := ((O0.ext E101).keep K103 (allS g_b101 all0))
    have f116 := (f102.keep K103 (ninS (Nat.ne_of_lt (Nat.lt_of_lt_of_le (Nat.lt_of_lt_of_le V1.lt (Nat.le_refl _)) (Nat.le_of_eq g101.symm))) nin0))
    refine own_callS X103 hx hZ hown (hw _ (List.mem_of_getElem? (i := 115) rfl)) (hw _ (List.mem_of_getElem? (i := 116) rfl)) (hw _ (List.mem_of_getElem? (i := 80) rfl)) (hw _ (List.mem_of_getElem? (i := 117) rfl)) (by decide) (own_tob2 l Z a0 hw [] (r1) (k1) (x0) (x1) T103.heap n0 (Nat.le_trans Z0 (Nat.le_trans E101.1 K103.1)) f115 S_ad S_hi S_lo f116) 0 (by decide) (by decide) (by decide) (by decide) rfl (g := (mkF m 23 #[rv r1, iv (0 : Int32), iv (2 : Int32), rv b101, iv (1 : Int32), .unset] [(.int (2 : Int32)), (.int (0 : Int32)), (.ref r1)])) rfl (by rw [hml]; rfl) (argsL := [(.ref r1), (.int (0 : Int32)), (.int (2 : Int32))]) (rest := []) (lenOf own_pd11 rfl) rfl (by show 2 * 0 + _ ≤ _; exact Nat.le_of_eq rfl) (hb hby own_d16_23) ?_
    intro v117 T117 L117 X117 q117
    obtain ⟨bo117, kb117, rfl, N117q, K117, f118, f119, f120⟩ := q117
    have N117 := Fr.app N103 N117q
    show own_Goes p e below s _ _ _ T117 (mkF m 26 #[rv r1, iv (0 : Int32), iv (2 : Int32), rv b101, iv (1 : Int32), .unset] [(.ref bo117)])
    refine own_by (g' := (mkF m 32 #[rv r1, iv (0 : Int32), iv (2 : Int32), rv b101, iv (1 : Int32), rv bo117] [(.int (1 : Int32)), (.ref bo117)])) (fun t k => XS.astore X117.here hx rfl (hb hby own_d16_26) rfl rfl (l' := #[rv r1, iv (0 : Int32), iv (2 : Int32), rv b101, iv (1 : Int32), rv bo117]) rfl (XS.aload X117.here hx rfl (hb hby own_d16_28) rfl rfl (XS.iload X117.here hx rfl (hb hby own_d16_30) rfl k))) ?_
    have f121 := (f115.keep K117 all0)
    refine own_callS X117 hx hZ hown (hw _ (List.mem_of_getElem? (i := 131) rfl)) (hw _ (List.mem_of_getElem? (i := 132) rfl)) (hw _ (List.mem_of_getElem? (i := 80) rfl)) (hw _ (List.mem_of_getElem? (i := 133) rfl)) (by decide) (own_getc1 l Z a0 hw [] (bo117) (kb117) ((4 : Int32)) ([(.int ((x0 >>> ((0 : Int32) &&& 31))).toInt8.toInt32), (.int ((x0 >>> ((8 : Int32) &&& 31))).toInt8.toInt32), (.int ((x1 >>> ((0 : Int32) &&& 31))).toInt8.toInt32), (.int ((x1 >>> ((8 : Int32) &&& 31))).toInt8.toInt32)]) (((x1 >>> ((0 : Int32) &&& 31))).toInt8.toInt32) (((x1 >>> ((8 : Int32) &&& 31))).toInt8.toInt32) (x1) T117.heap n0 (Nat.le_trans Z0 (Nat.le_trans (Nat.le_trans E101.1 K103.1) K117.1)) f121 S_ad S_hi S_lo f120 (by first | assumption | decide) (by first | assumption | decide) rfl rfl (own_utf x1 hk1)) 0 (by decide) (by decide) (by decide) (by decide) rfl (g := (mkF m 32 #[rv r1, iv (0 : Int32), iv (2 : Int32), rv b101, iv (1 : Int32), rv bo117] [(.int (1 : Int32)), (.ref bo117)])) rfl (by rw [hml]; rfl) (argsL := [(.ref bo117), (.int (1 : Int32))]) (rest := []) (lenOf own_pd4 rfl) rfl (by show 2 * 0 + _ ≤ _; exact Nat.le_of_eq rfl) (hb hby own_d16_32) ?_
    intro v122 T122 L122 X122 q122
    obtain ⟨rfl, N122q, e122⟩ := q122
    have N122 := Fr.app N117 N122q
    show own_Goes p e below s _ _ _ T122 (mkF m 35 #[rv r1, iv (0 : Int32), iv (2 : Int32), rv b101, iv (1 : Int32), rv bo117] [(.int x1)])
    refine own_by (g' := (mkF m 56 #[rv r1, iv (0 : Int32), iv (2 : Int32), rv b101, iv (1 : Int32), rv bo117] [(.ref bo117)])) (fun t k => XS.sipush X122.here hx rfl (hb hby own_d16_35) (XS.icmpYes X122.here hx rfl (pc0 := 38) (pc' := 54) rfl (hb hby own_d16_38) rfl (tlt hq1).2.2.1 (by decide) (by decide) (XS.aload X122.here hx rfl (hb hby own_d16_54) rfl rfl k))) ?_
    refine own_retA X122 hx hlk hret rfl rfl (hb hby own_d16_56) (by decide) (by decide) ?_
    rw [e122]
    exact ⟨bo117, kb117, (4 : Int32), [(.int ((x0 >>> ((0 : Int32) &&& 31))).toInt8.toInt32), (.int ((x0 >>> ((8 : Int32) &&& 31))).toInt8.toInt32), (.int ((x1 >>> ((0 : Int32) &&& 31))).toInt8.toInt32), (.int ((x1 >>> ((8 : Int32) &&& 31))).toInt8.toInt32)], rfl, N122, ((((Keep.refl h0 []).ext E101).trans K103 (allS (Or.inr sz_b101) all0)).trans K117 all0), (Nat.le_trans (Nat.le_trans E101.1 K103.1) f118), f119, f120, (Or.inr ⟨rfl, rfl⟩)⟩
def Q_own_cfa2_0 (Z : State) (r1 : Addr) (k1 : ClassId) (vs : List Value) (h0 : Heap) (n0 : Nat) (v : Option Value) (h : Heap) (L : List Loc) : Prop := v = some (.int (0 : Int32)) ∧ Fr n0 L ∧ h = h0
theorem own_ef_own_cfa2_0 (m : MethodId) (r1 : Addr) : entryFrame m #[(.ref r1), (.int (2 : Int32))] 2 = mkF m 0 #[rv r1, iv (2 : Int32)] [] := by first | (simp [entryFrame, mkF, argsToLocals, Value.category]; done) | rfl
set_option maxRecDepth 65536 in
set_option maxHeartbeats 40000000 in
theorem own_cfa2_0 (l : Launch) (Z : State) (a0 : Array Value) (hw : ∀ d ∈ tables_1, d.before a0 Z = true) (ws : List Jvm.Cond) (r1 : Addr) (k1 : ClassId) (vs : List Value) (h0 : Heap) (n0 : Nat) (Z0 : n0 ≤ h0.size) (V1 : Arv Z h0 r1 k1 .byte (2 : Int32) vs (.int (0 : Int32))) :
    own_Ctr l Z (⟨"java/lang/StringUTF16", "coderFromArrayLen", "([BI)B"⟩ : MethodName) jdk_52_method_15_code 2 (some .byte) ws ({ frames := 0, cells := 0, slots := 0, locals := 0 } : Room) (({ frames := 0, cells := 0, slots := 0, locals := 0 } : Room)).cells (({ frames := 0, cells := 0, slots := 0, locals := 0 } : Room)).slots #[(.ref r1), (.int (2 : Int32))] h0 (Q_own_cfa2_0 Z r1 k1 vs h0 n0) := by
  refine own_enter (plainFor_of_name own_pn2) ?_
  intro p e s m below meth c s₁ X0 hx hZ hby hml hown hnm hlk hret e0
  have N0 := Fr.nil n0
  refine own_cast (own_ef_own_cfa2_0 m r1) ?_
  refine own_by (g' := (mkF m 2 #[rv r1, iv (2 : Int32)] [(.ref r1), (.int (2 : Int32))])) (fun t k => XS.iloadN X0.here hx rfl (hb hby own_d18_0) rfl (XS.aloadN X0.here hx rfl (hb hby own_d18_1) rfl rfl k)) ?_
  obtain ⟨c101, Ar101, -, S101, G101, -, -⟩ := id V1
  refine own_by (g' := (mkF m 3 #[rv r1, iv (2 : Int32)] [(.int (2 : Int32)), (.int (2 : Int32))])) (fun t k => X0.arraylength hx (own_at_ e0 Ar101.1) (State.isArrayOf_alike hZ.alike Ar101.2.1) (g := (mkF m 2 #[rv r1, iv (2 : Int32)] [(.ref r1), (.int (2 : Int32))])) rfl rfl (hb hby own_d18_2) t (by rw [len_of S101 G101]; exact k)) ?_
  refine own_by (g' := (mkF m 8 #[rv r1, iv (2 : Int32)] [(.int ((((0 : Int32)).toUInt32 >>> ((31 : Int32) &&& 31).toUInt32).toInt32).toInt8.toInt32)])) (fun t k => XS.isub X0.here hx rfl (hb hby own_d18_3) rfl (XS.bipush X0.here hx rfl (hb hby own_d18_4) (XS.iushr X0.here hx rfl (hb hby own_d18_6) rfl (XS.i2b X0.here hx rfl (hb hby own_d18_7) rfl k)))) ?_
  refine own_retN X0 hx hlk hret (t := .byte) (by simp) (hb hby own_d18_8) (by decide) (by decide) ?_
  exact ⟨(by decide), N0, e0⟩
def Q_own_cfa2_1 (Z : State) (r1 : Addr) (k1 : ClassId) (vs : List Value) (h0 : Heap) (n0 : Nat) (v : Option Value) (h : Heap) (L : List Loc) : Prop := v = some (.int (1 : Int32)) ∧ Fr n0 L ∧ h = h0
theorem own_ef_own_cfa2_1 (m : MethodId) (r1 : Addr) : entryFrame m #[(.ref r1), (.int (2 : Int32))] 2 = mkF m 0 #[rv r1, iv (2 : Int32)] [] := by first | (simp [entryFrame, mkF, argsToLocals, Value.category]; done) | rfl
set_option maxRecDepth 65536 in
set_option maxHeartbeats 40000000 in
theorem own_cfa2_1 (l : Launch) (Z : State) (a0 : Array Value) (hw : ∀ d ∈ tables_1, d.before a0 Z = true) (ws : List Jvm.Cond) (r1 : Addr) (k1 : ClassId) (vs : List Value) (h0 : Heap) (n0 : Nat) (Z0 : n0 ≤ h0.size) (V1 : Arv Z h0 r1 k1 .byte (4 : Int32) vs (.int (0 : Int32))) :
    own_Ctr l Z (⟨"java/lang/StringUTF16", "coderFromArrayLen", "([BI)B"⟩ : MethodName) jdk_52_method_15_code 2 (some .byte) ws ({ frames := 0, cells := 0, slots := 0, locals := 0 } : Room) (({ frames := 0, cells := 0, slots := 0, locals := 0 } : Room)).cells (({ frames := 0, cells := 0, slots := 0, locals := 0 } : Room)).slots #[(.ref r1), (.int (2 : Int32))] h0 (Q_own_cfa2_1 Z r1 k1 vs h0 n0) := by
  refine own_enter (plainFor_of_name own_pn2) ?_
  intro p e s m below meth c s₁ X0 hx hZ hby hml hown hnm hlk hret e0
  have N0 := Fr.nil n0
  refine own_cast (own_ef_own_cfa2_1 m r1) ?_
  refine own_by (g' := (mkF m 2 #[rv r1, iv (2 : Int32)] [(.ref r1), (.int (2 : Int32))])) (fun t k => XS.iloadN X0.here hx rfl (hb hby own_d18_0) rfl (XS.aloadN X0.here hx rfl (hb hby own_d18_1) rfl rfl k)) ?_
  obtain ⟨c101, Ar101, -, S101, G101, -, -⟩ := id V1
  refine own_by (g' := (mkF m 3 #[rv r1, iv (2 : Int32)] [(.int (4 : Int32)), (.int (2 : Int32))])) (fun t k => X0.arraylength hx (own_at_ e0 Ar101.1) (State.isArrayOf_alike hZ.alike Ar101.2.1) (g := (mkF m 2 #[rv r1, iv (2 : Int32)] [(.ref r1), (.int (2 : Int32))])) rfl rfl (hb hby own_d18_2) t (by rw [len_of S101 G101]; exact k)) ?_
  refine own_by (g' := (mkF m 8 #[rv r1, iv (2 : Int32)] [(.int ((((-2 : Int32)).toUInt32 >>> ((31 : Int32) &&& 31).toUInt32).toInt32).toInt8.toInt32)])) (fun t k => XS.isub X0.here hx rfl (hb hby own_d18_3) rfl (XS.bipush X0.here hx rfl (hb hby own_d18_4) (XS.iushr X0.here hx rfl (hb hby own_d18_6) rfl (XS.i2b X0.here hx rfl (hb hby own_d18_7) rfl k)))) ?_
  refine own_retN X0 hx hlk hret (t := .byte) (by simp) (hb hby own_d18_8) (by decide) (by decide) ?_
  exact ⟨(by decide), N0, e0⟩
def Q_own_ini4_2 (Z : State) (r1 : Addr) (r2 : Addr) (k1 : ClassId) (x0 : Int32) (x1 : Int32) (zcs : Int32) (h0 : Heap) (n0 : Nat) (v : Option Value) (h : Heap) (L : List Loc) : Prop := ∃ (ba : Addr), ∃ (kb : ClassId), ∃ (cd : Int32), ∃ (ln : Int32), ∃ (vs : List Value), v = none ∧ Fr n0 L ∧ Keep h0 h [r1] ∧ h0.size ≤ ba ∧ Exa Z h r1 "java/lang/String" ∧ Fld Z h r1 "java/lang/String" "value" "[B" (.ref ba) ∧ Fld Z h r1 "java/lang/String" "coder" "B" (.int cd) ∧ Arv Z h ba kb .byte ln vs (.int (0 : Int32)) ∧ Exa Z h ba "[B" ∧ own_s2 x0 x1 cd ln vs
theorem own_ef_own_ini4_2 (m : MethodId) (r1 : Addr) (r2 : Addr) : entryFrame m #[(.ref r1), (.ref r2), (.int (0 : Int32)), (.int (2 : Int32)), .null] 6 = mkF m 0 #[rv r1, rv r2, iv (0 : Int32), iv (2 : Int32), .val .null, .unset] [] := by first | (simp [entryFrame, mkF, argsToLocals, Value.category]; done) | rfl
set_option maxRecDepth 65536 in
set_option maxHeartbeats 40000000 in
theorem own_ini4_2 (l : Launch) (Z : State) (a0 : Array Value) (hw : ∀ d ∈ tables_1, d.before a0 Z = true) (ws : List Jvm.Cond) (r1 : Addr) (r2 : Addr) (k1 : ClassId) (x0 : Int32) (x1 : Int32) (zcs : Int32) (h0 : Heap) (n0 : Nat) (Z0 : n0 ≤ h0.size) (O0 : Old Z n0 h0) (S_cs : Sta Z Z.heap "java/lang/String" "COMPACT_STRINGS" "Z" (.int zcs)) (hcs : ¬ zcs = (0 : Int32)) (S_ad : Sta Z Z.heap "java/lang/StringUTF16" "$assertionsDisabled" "Z" (.int (1 : Int32))) (S_hi : Sta Z Z.heap "java/lang/StringUTF16" "HI_BYTE_SHIFT" "I" (.int (0 : Int32))) (S_lo : Sta Z Z.heap "java/lang/StringUTF16" "LO_BYTE_SHIFT" "I" (.int (8 : Int32))) (hk0 : own_ch x0) (hk1 : own_ch x1) (E1 : Exa Z h0 r1 "java/lang/String") (F1 : Fld Z h0 r1 "java/lang/String" "value" "[B" .null) (F2 : Fld Z h0 r1 "java/lang/String" "coder" "B" (.int (0 : Int32))) (g1 : n0 ≤ r1) (V1 : Arv Z h0 r2 k1 .char (2 : Int32) [(.int x0), (.int x1)] (.int (0 : Int32))) :
    own_Ctr l Z (⟨"java/lang/String", "<init>", "([CIILjava/lang/Void;)V"⟩ : MethodName) jdk_42_method_149_code 6 none ws ({ frames := 4, cells := 2, slots := 6, locals := 57 } : Room) (({ frames := 4, cells := 2, slots := 6, locals := 57 } : Room)).cells (({ frames := 4, cells := 2, slots := 6, locals := 57 } : Room)).slots #[(.ref r1), (.ref r2), (.int (0 : Int32)), (.int (2 : Int32)), .null] h0 (Q_own_ini4_2 Z r1 r2 k1 x0 x1 zcs h0 n0) := by
  refine own_enter (plainFor_of_name own_pn1) ?_
  intro p e s m below meth c s₁ X0 hx hZ hby hml hown hnm hlk hret e0
  have N0 := Fr.nil n0
  refine own_cast (own_ef_own_ini4_2 m r1 r2) ?_
  refine own_by (g' := (mkF m 1 #[rv r1, rv r2, iv (0 : Int32), iv (2 : Int32), .val .null, .unset] [(.ref r1)])) (fun t k => XS.aloadN X0.here hx rfl (hb hby own_d3_0) rfl rfl k) ?_
  obtain ⟨T101, X101, e101, st101⟩ := initO X0 hx hZ hown (hw _ (List.mem_of_getElem? (i := 19) rfl)) (hw _ (List.mem_of_getElem? (i := 20) rfl)) (hw _ (List.mem_of_getElem? (i := 21) rfl)) e0 (g := (mkF m 1 #[rv r1, rv r2, iv (0 : Int32), iv (2 : Int32), .val .null, .unset] [(.ref r1)])) rfl (by rw [hml]; rfl) rfl (hb hby own_d3_1) (by decide) (W := 0) (by show 2 * 0 + _ ≤ _; exact Nat.le_of_eq rfl) (by decide)
  refine own_by (g' := (mkF m 4 #[rv r1, rv r2, iv (0 : Int32), iv (2 : Int32), .val .null, .unset] [])) st101 ?_
  refine own_by (g' := (mkF m 27 #[rv r1, rv r2, iv (0 : Int32), iv (2 : Int32), .val .null, .unset] [])) (fun t k => XS.iloadN X101.here hx rfl (hb hby own_d3_4) rfl (XS.ifYes X101.here hx rfl (pc0 := 5) (pc' := 27) rfl (hb hby own_d3_5) rfl ((if0 _ _).trans (feq (by decide : ¬ ((2 : Int32) = (0 : Int32)))).2) (by decide) (by decide) k)) ?_
  obtain ⟨T102, X102, e102, st102⟩ := getS2 X101 hx hZ hown (host := "") (Or.inl (hw _ (List.mem_of_getElem? (i := 61) rfl))) Via.refl e101 (S_cs.ext O0.2) (g := (mkF m 27 #[rv r1, rv r2, iv (0 : Int32), iv (2 : Int32), .val .null, .unset] [])) rfl (hb hby own_d3_27)
  refine own_by (g' := (mkF m 30 #[rv r1, rv r2, iv (0 : Int32), iv (2 : Int32), .val .null, .unset] [(.int zcs)])) st102 ?_
  refine own_by (g' := (mkF m 36 #[rv r1, rv r2, iv (0 : Int32), iv (2 : Int32), .val .null, .unset] [(.int (2 : Int32)), (.int (0 : Int32)), (.ref r2)])) (fun t k => XS.ifNo X102.here hx rfl (hb hby own_d3_30) rfl ((if0 _ _).trans (feq hcs).1) (XS.aloadN X102.here hx rfl (hb hby own_d3_33) rfl rfl (XS.iloadN X102.here hx rfl (hb hby own_d3_34) rfl (XS.iloadN X102.here hx rfl (hb hby own_d3_35) rfl k)))) ?_
  refine own_callS X102 hx hZ hown (hw _ (List.mem_of_getElem? (i := 78) rfl)) (hw _ (List.mem_of_getElem? (i := 79) rfl)) (hw _ (List.mem_of_getElem? (i := 80) rfl)) (hw _ (List.mem_of_getElem? (i := 81) rfl)) (by decide) (own_com3_2 l Z a0 hw [] (r2) (k1) (x0) (x1) h0 n0 Z0 O0 S_ad S_hi S_lo (by first | assumption | decide) (by first | assumption | decide) V1) 0 (by decide) (by decide) (by decide) (by decide) e102 (g := (mkF m 36 #[rv r1, rv r2, iv (0 : Int32), iv (2 : Int32), .val .null, .unset] [(.int (2 : Int32)), (.int (0 : Int32)), (.ref r2)])) rfl (by rw [hml]; rfl) (argsL := [(.ref r2), (.int (0 : Int32)), (.int (2 : Int32))]) (rest := []) (lenOf own_pd11 rfl) rfl (by show 2 * 0 + _ ≤ _; exact Nat.le_of_eq rfl) (hb hby own_d3_36) ?_
  intro v103 T103 L103 X103 q103
  obtain ⟨bo103, kb103, ln103, vs103, rfl, N103q, K103, f104, f105, f106, f107⟩ := q103
  have N103 := Fr.app N0 N103q
  show own_Goes p e below s _ _ _ T103 (mkF m 39 #[rv r1, rv r2, iv (0 : Int32), iv (2 : Int32), .val .null, .unset] [(.ref bo103)])
  rcases f107 with ⟨rfl, rfl, hq0, hq1⟩ | ⟨rfl, rfl⟩
  ·
    refine own_by (g' := (mkF m 45 #[rv r1, rv r2, iv (0 : Int32), iv (2 : Int32), .val .null, rv bo103] [(.int (2 : Int32)), (.ref bo103), (.ref r1)])) (fun t k => XS.astore X103.here hx rfl (hb hby own_d3_39) rfl rfl (l' := #[rv r1, rv r2, iv (0 : Int32), iv (2 : Int32), .val .null, rv bo103]) rfl (XS.aloadN X103.here hx rfl (hb hby own_d3_41) rfl rfl (XS.aload X103.here hx rfl (hb hby own_d3_42) rfl rfl (XS.iloadN X103.here hx rfl (hb hby own_d3_44) rfl k)))) ?_
    refine own_callS X103 hx hZ hown (hw _ (List.mem_of_getElem? (i := 85) rfl)) (hw _ (List.mem_of_getElem? (i := 86) rfl)) (hw _ (List.mem_of_getElem? (i := 80) rfl)) (hw _ (List.mem_of_getElem? (i := 87) rfl)) (by decide) (own_cfa2_0 l Z a0 hw [] (bo103) (kb103) ([(.int (x0).toInt8.toInt32), (.int (x1).toInt8.toInt32)]) T103.heap n0 (Nat.le_trans Z0 K103.1) f106) 1 (by decide) (by decide) (by decide) (by decide) rfl (g := (mkF m 45 #[rv r1, rv r2, iv (0 : Int32), iv (2 : Int32), .val .null, rv bo103] [(.int (2 : Int32)), (.ref bo103), (.ref r1)])) rfl (by rw [hml]; rfl) (argsL := [(.ref bo103), (.int (2 : Int32))]) (rest := [(.ref r1)]) (lenOf own_pd12 rfl) rfl (by show 2 * 0 + _ ≤ _; exact Nat.le_of_eq rfl) (hb hby own_d3_45) ?_
    intro v108 T108 L108 X108 q108
    obtain ⟨rfl, N108q, e108⟩ := q108
    have N108 := Fr.app N103 N108q
    show own_Goes p e below s _ _ _ T108 (mkF m 48 #[rv r1, rv r2, iv (0 : Int32), iv (2 : Int32), .val .null, rv bo103] [(.int (0 : Int32)), (.ref r1)])
    have f109 := (F2.keep K103 nin0)
    have f110 := (E1.keep K103)
    obtain ⟨T111, h111, X111, e111, W111, st111⟩ := putFN X108 hx hZ hown (hw _ (List.mem_of_getElem? (i := 29) rfl)) Via.refl e108 f109 f110 (Or.inr ⟨(hw _ (List.mem_of_getElem? (i := 25) rfl)), rfl, hnm⟩) (hw _ (List.mem_of_getElem? (i := 9) rfl)) (ty := .byte) (v' := (.int (0 : Int32))) (by decide) rfl (by decide) (g := (mkF m 48 #[rv r1, rv r2, iv (0 : Int32), iv (2 : Int32), .val .null, rv bo103] [(.int (0 : Int32)), (.ref r1)])) rfl rfl (hb hby own_d3_48)
    have f112 := f109.same W111
    have N111 := Fr.snoc X111 N108 g1
    refine own_by (g' := (mkF m 51 #[rv r1, rv r2, iv (0 : Int32), iv (2 : Int32), .val .null, rv bo103] [])) st111 ?_
    refine own_by (g' := (mkF m 54 #[rv r1, rv r2, iv (0 : Int32), iv (2 : Int32), .val .null, rv bo103] [(.ref bo103), (.ref r1)])) (fun t k => XS.aloadN X111.here hx rfl (hb hby own_d3_51) rfl rfl (XS.aload X111.here hx rfl (hb hby own_d3_52) rfl rfl k)) ?_
    have f113 := ((F1.keep K103 nin0).other W111 (Or.inr (slot_ne (Or.inr (hw _ (List.mem_of_getElem? (i := 24) rfl))) (Or.inr (hw _ (List.mem_of_getElem? (i := 25) rfl))) (by decide) (t := (.array .byte)) (t' := .byte) (by decide) (by decide))))
    have f114 := (f110.wr W111)
    obtain ⟨T115, h115, X115, e115, W115, st115⟩ := putF X111 hx hZ hown (host := "") (Or.inl (hw _ (List.mem_of_getElem? (i := 28) rfl))) Via.refl e111 f113 f114 (Or.inr ⟨(hw _ (List.mem_of_getElem? (i := 24) rfl)), rfl, hnm⟩) (hw _ (List.mem_of_getElem? (i := 9) rfl)) (ty := (.array .byte)) (by decide) rfl rfl (g := (mkF m 54 #[rv r1, rv r2, iv (0 : Int32), iv (2 : Int32), .val .null, rv bo103] [(.ref bo103), (.ref r1)])) rfl rfl (hb hby own_d3_54)
    have f116 := f113.same W115
    have N115 := Fr.snoc X115 N111 g1
    refine own_by (g' := (mkF m 57 #[rv r1, rv r2, iv (0 : Int32), iv (2 : Int32), .val .null, rv bo103] [])) st115 ?_
    have f117 := (f114.wr W115)
    have f118 := (f112.other W115 (Or.inr (slot_ne (Or.inr (hw _ (List.mem_of_getElem? (i := 25) rfl))) (Or.inr (hw _ (List.mem_of_getElem? (i := 24) rfl))) (by decide) (t := .byte) (t' := (.array .byte)) (by decide) (by decide))))
    have f119 := ((f106.other W111 (Ne.symm (Nat.ne_of_lt (Nat.lt_of_lt_of_le (Nat.lt_of_lt_of_le E1.lt (Nat.le_refl _)) f104)))).other W115 (Ne.symm (Nat.ne_of_lt (Nat.lt_of_lt_of_le (Nat.lt_of_lt_of_le E1.lt (Nat.le_refl _)) f104))))
    have f120 := ((f105.wr W111).wr W115)
    refine own_retV X115 hx hlk hret (hb hby own_d3_57) (by decide) (by decide) ?_
    rw [e115]
    exact ⟨bo103, kb103, (0 : Int32), (2 : Int32), [(.int (x0).toInt8.toInt32), (.int (x1).toInt8.toInt32)], rfl, N115, ((((Keep.refl h0 [r1]).trans K103 all0).wr W111 (Or.inl (List.mem_of_getElem? (i := 0) rfl))).wr W115 (Or.inl (List.mem_of_getElem? (i := 0) rfl))), (Nat.le_trans (Nat.le_refl _) f104), f117, f116, f118, f119, f120, (Or.inl ⟨rfl, rfl, rfl, hq0, hq1⟩)⟩
  ·
    refine own_by (g' := (mkF m 45 #[rv r1, rv r2, iv (0 : Int32), iv (2 : Int32), .val .null, rv bo103] [(.int (2 : Int32)), (.ref bo103), (.ref r1)])) (fun t k => XS.astore X103.here hx rfl (hb hby own_d3_39) rfl rfl (l' := #[rv r1, rv r2, iv (0 : Int32), iv (2 : Int32), .val .null, rv bo103]) rfl (XS.aloadN X103.here hx rfl (hb hby own_d3_41) rfl rfl (XS.aload X103.here hx rfl (hb hby own_d3_42) rfl rfl (XS.iloadN X103.here hx rfl (hb hby own_d3_44) rfl k)))) ?_
    refine own_callS X103 hx hZ hown (hw _ (List.mem_of_getElem? (i := 85) rfl)) (hw _ (List.mem_of_getElem? (i := 86) rfl)) (hw _ (List.mem_of_getElem? (i := 80) rfl)) (hw _ (List.mem_of_getElem? (i := 87) rfl)) (by decide) (own_cfa2_1 l Z a0 hw [] (bo103) (kb103) ([(.int ((x0 >>> ((0 : Int32) &&& 31))).toInt8.toInt32), (.int ((x0 >>> ((8 : Int32) &&& 31))).toInt8.toInt32), (.int ((x1 >>> ((0 : Int32) &&& 31))).toInt8.toInt32), (.int ((x1 >>> ((8 : Int32) &&& 31))).toInt8.toInt32)]) T103.heap n0 (Nat.le_trans Z0 K103.1) f106) 1 (by decide) (by decide) (by decide) (by decide) rfl (g := (mkF m 45 #[rv r1, rv r2, iv (0 : Int32), iv (2 : Int32), .val .null, rv bo103] [(.int (2 : Int32)), (.ref bo103), (.ref r1)])) rfl (by rw [hml]; rfl) (argsL := [(.ref bo103), (.int (2 : Int32))]) (rest := [(.ref r1)]) (lenOf own_pd12 rfl) rfl (by show 2 * 0 + _ ≤ _; exact Nat.le_of_eq rfl) (hb hby own_d3_45) ?_
    intro v121 T121 L121 X121 q121
    obtain ⟨rfl, N121q, e121⟩ := q121
    have N121 := Fr.app N103 N121q
    show own_Goes p e below s _ _ _ T121 (mkF m 48 #[rv r1, rv r2, iv (0 : Int32), iv (2 : Int32), .val .null, rv bo103] [(.int (1 : Int32)), (.ref r1)])
    have f122 := (F2.keep K103 nin0)
    have f123 := (E1.keep K103)
    obtain ⟨T124, h124, X124, e124, W124, st124⟩ := putFN X121 hx hZ hown (hw _ (List.mem_of_getElem? (i := 29) rfl)) Via.refl e121 f122 f123 (Or.inr ⟨(hw _ (List.mem_of_getElem? (i := 25) rfl)), rfl, hnm⟩) (hw _ (List.mem_of_getElem? (i := 9) rfl)) (ty := .byte) (v' := (.int (1 : Int32))) (by decide) rfl (by decide) (g := (mkF m 48 #[rv r1, rv r2, iv (0 : Int32), iv (2 : Int32), .val .null, rv bo103] [(.int (1 : Int32)), (.ref r1)])) rfl rfl (hb hby own_d3_48)
    have f125 := f122.same W124
    have N124 := Fr.snoc X124 N121 g1
    refine own_by (g' := (mkF m 51 #[rv r1, rv r2, iv (0 : Int32), iv (2 : Int32), .val .null, rv bo103] [])) st124 ?_
    refine own_by (g' := (mkF m 54 #[rv r1, rv r2, iv (0 : Int32), iv (2 : Int32), .val .null, rv bo103] [(.ref bo103), (.ref r1)])) (fun t k => XS.aloadN X124.here hx rfl (hb hby own_d3_51) rfl rfl (XS.aload X124.here hx rfl (hb hby own_d3_52) rfl rfl k)) ?_
    have f126 := ((F1.keep K103 nin0).other W124 (Or.inr (slot_ne (Or.inr (hw _ (List.mem_of_getElem? (i := 24) rfl))) (Or.inr (hw _ (List.mem_of_getElem? (i := 25) rfl))) (by decide) (t := (.array .byte)) (t' := .byte) (by decide) (by decide))))
    have f127 := (f123.wr W124)
    obtain ⟨T128, h128, X128, e128, W128, st128⟩ := putF X124 hx hZ hown (host := "") (Or.inl (hw _ (List.mem_of_getElem? (i := 28) rfl))) Via.refl e124 f126 f127 (Or.inr ⟨(hw _ (List.mem_of_getElem? (i := 24) rfl)), rfl, hnm⟩) (hw _ (List.mem_of_getElem? (i := 9) rfl)) (ty := (.array .byte)) (by decide) rfl rfl (g := (mkF m 54 #[rv r1, rv r2, iv (0 : Int32), iv (2 : Int32), .val .null, rv bo103] [(.ref bo103), (.ref r1)])) rfl rfl (hb hby own_d3_54)
    have f129 := f126.same W128
    have N128 := Fr.snoc X128 N124 g1
    refine own_by (g' := (mkF m 57 #[rv r1, rv r2, iv (0 : Int32), iv (2 : Int32), .val .null, rv bo103] [])) st128 ?_
    have f130 := (f127.wr W128)
    have f131 := (f125.other W128 (Or.inr (slot_ne (Or.inr (hw _ (List.mem_of_getElem? (i := 25) rfl))) (Or.inr (hw _ (List.mem_of_getElem? (i := 24) rfl))) (by decide) (t := .byte) (t' := (.array .byte)) (by decide) (by decide))))
    have f132 := ((f106.other W124 (Ne.symm (Nat.ne_of_lt (Nat.lt_of_lt_of_le (Nat.lt_of_lt_of_le E1.lt (Nat.le_refl _)) f104)))).other W128 (Ne.symm (Nat.ne_of_lt (Nat.lt_of_lt_of_le (Nat.lt_of_lt_of_le E1.lt (Nat.le_refl _)) f104))))
    have f133 := ((f105.wr W124).wr W128)
    refine own_retV X128 hx hlk hret (hb hby own_d3_57) (by decide) (by decide) ?_
    rw [e128]
    exact ⟨bo103, kb103, (1 : Int32), (4 : Int32), [(.int ((x0 >>> ((0 : Int32) &&& 31))).toInt8.toInt32), (.int ((x0 >>> ((8 : Int32) &&& 31))).toInt8.toInt32), (.int ((x1 >>> ((0 : Int32) &&& 31))).toInt8.toInt32), (.int ((x1 >>> ((8 : Int32) &&& 31))).toInt8.toInt32)], rfl, N128, ((((Keep.refl h0 [r1]).trans K103 all0).wr W124 (Or.inl (List.mem_of_getElem? (i := 0) rfl))).wr W128 (Or.inl (List.mem_of_getElem? (i := 0) rfl))), (Nat.le_trans (Nat.le_refl _) f104), f130, f129, f131, f132, f133, (Or.inr ⟨rfl, rfl, rfl⟩)⟩
def Q_own_ini1_2 (Z : State) (r1 : Addr) (r2 : Addr) (k1 : ClassId) (x0 : Int32) (x1 : Int32) (zcs : Int32) (h0 : Heap) (n0 : Nat) (v : Option Value) (h : Heap) (L : List Loc) : Prop := ∃ (ba : Addr), ∃ (kb : ClassId), ∃ (cd : Int32), ∃ (ln : Int32), ∃ (vs : List Value), v = none ∧ Fr n0 L ∧ Keep h0 h [r1] ∧ h0.size ≤ ba ∧ Exa Z h r1 "java/lang/String" ∧ Fld Z h r1 "java/lang/String" "value" "[B" (.ref ba) ∧ Fld Z h r1 "java/lang/String" "coder" "B" (.int cd) ∧ Arv Z h ba kb .byte ln vs (.int (0 : Int32)) ∧ Exa Z h ba "[B" ∧ own_s2 x0 x1 cd ln vs
theorem own_ef_own_ini1_2 (m : MethodId) (r1 : Addr) (r2 : Addr) : entryFrame m #[(.ref r1), (.ref r2)] 2 = mkF m 0 #[rv r1, rv r2] [] := by first | (simp [entryFrame, mkF, argsToLocals, Value.category]; done) | rfl
set_option maxRecDepth 65536 in
set_option maxHeartbeats 40000000 in
theorem own_ini1_2 (l : Launch) (Z : State) (a0 : Array Value) (hw : ∀ d ∈ tables_1, d.before a0 Z = true) (ws : List Jvm.Cond) (r1 : Addr) (r2 : Addr) (k1 : ClassId) (x0 : Int32) (x1 : Int32) (zcs : Int32) (h0 : Heap) (n0 : Nat) (Z0 : n0 ≤ h0.size) (O0 : Old Z n0 h0) (S_cs : Sta Z Z.heap "java/lang/String" "COMPACT_STRINGS" "Z" (.int zcs)) (hcs : ¬ zcs = (0 : Int32)) (S_ad : Sta Z Z.heap "java/lang/StringUTF16" "$assertionsDisabled" "Z" (.int (1 : Int32))) (S_hi : Sta Z Z.heap "java/lang/StringUTF16" "HI_BYTE_SHIFT" "I" (.int (0 : Int32))) (S_lo : Sta Z Z.heap "java/lang/StringUTF16" "LO_BYTE_SHIFT" "I" (.int (8 : Int32))) (hk0 : own_ch x0) (hk1 : own_ch x1) (E1 : Exa Z h0 r1 "java/lang/String") (F1 : Fld Z h0 r1 "java/lang/String" "value" "[B" .null) (F2 : Fld Z h0 r1 "java/lang/String" "coder" "B" (.int (0 : Int32))) (g1 : n0 ≤ r1) (V1 : Arv Z h0 r2 k1 .char (2 : Int32) [(.int x0), (.int x1)] (.int (0 : Int32))) :
    own_Ctr l Z (⟨"java/lang/String", "<init>", "([C)V"⟩ : MethodName) jdk_42_method_3_code 2 none ws ({ frames := 5, cells := 2, slots := 6, locals := 74 } : Room) (({ frames := 5, cells := 2, slots := 6, locals := 74 } : Room)).cells (({ frames := 5, cells := 2, slots := 6, locals := 74 } : Room)).slots #[(.ref r1), (.ref r2)] h0 (Q_own_ini1_2 Z r1 r2 k1 x0 x1 zcs h0 n0) := by
  refine own_enter (plainFor_of_name own_pn1) ?_
  intro p e s m below meth c s₁ X0 hx hZ hby hml hown hnm hlk hret e0
  have N0 := Fr.nil n0
  refine own_cast (own_ef_own_ini1_2 m r1 r2) ?_
  refine own_by (g' := (mkF m 4 #[rv r1, rv r2] [(.ref r2), (.int (0 : Int32)), (.ref r2), (.ref r1)])) (fun t k => XS.aloadN X0.here hx rfl (hb hby own_d2_0) rfl rfl (XS.aloadN X0.here hx rfl (hb hby own_d2_1) rfl rfl (XS.iconst X0.here hx rfl (hb hby own_d2_2) (XS.aloadN X0.here hx rfl (hb hby own_d2_3) rfl rfl k)))) ?_
  obtain ⟨c101, Ar101, -, S101, G101, -, -⟩ := id V1
  refine own_by (g' := (mkF m 5 #[rv r1, rv r2] [(.int (2 : Int32)), (.int (0 : Int32)), (.ref r2), (.ref r1)])) (fun t k => X0.arraylength hx (own_at_ e0 Ar101.1) (State.isArrayOf_alike hZ.alike Ar101.2.1) (g := (mkF m 4 #[rv r1, rv r2] [(.ref r2), (.int (0 : Int32)), (.ref r2), (.ref r1)])) rfl rfl (hb hby own_d2_4) t (by rw [len_of S101 G101]; exact k)) ?_
  refine own_by (g' := (mkF m 6 #[rv r1, rv r2] [.null, (.int (2 : Int32)), (.int (0 : Int32)), (.ref r2), (.ref r1)])) (fun t k => XS.aconstNull X0.here hx rfl (hb hby own_d2_5) k) ?_
  refine own_callI X0 hx hZ hown rfl (hw _ (List.mem_of_getElem? (i := 15) rfl)) (hw _ (List.mem_of_getElem? (i := 16) rfl)) (hw _ (List.mem_of_getElem? (i := 10) rfl)) (hw _ (List.mem_of_getElem? (i := 18) rfl)) (by decide) (a := r1) (own_ini4_2 l Z a0 hw [] (r1) (r2) (k1) (x0) (x1) (zcs) h0 n0 Z0 O0 S_cs (by first | assumption | decide) S_ad S_hi S_lo (by first | assumption | decide) (by first | assumption | decide) E1 F1 F2 g1 V1) 0 (by decide) (by decide) (by decide) (by decide) e0 (g := (mkF m 6 #[rv r1, rv r2] [.null, (.int (2 : Int32)), (.int (0 : Int32)), (.ref r2), (.ref r1)])) rfl (by rw [hml]; rfl) (argsL := [(.ref r2), (.int (0 : Int32)), (.int (2 : Int32)), .null]) (rest := []) (lenOf own_pd13 rfl) rfl (by show 2 * 0 + _ ≤ _; exact Nat.le_of_eq rfl) (hb hby own_d2_6) ?_
  intro v102 T102 L102 X102 q102
  obtain ⟨ba102, kb102, cd102, ln102, vs102, rfl, N102q, K102, f103, f104, f105, f106, f107, f108, f109⟩ := q102
  have N102 := Fr.app N0 N102q
  show own_Goes p e below s _ _ _ T102 (mkF m 9 #[rv r1, rv r2] [])
  refine own_retV X102 hx hlk hret (hb hby own_d2_9) (by decide) (by decide) ?_
  exact ⟨ba102, kb102, cd102, ln102, vs102, rfl, N102, ((Keep.refl h0 [r1]).trans K102 (allS (Or.inl (List.mem_of_getElem? (i := 0) rfl)) all0)), (Nat.le_trans (Nat.le_refl _) f103), f104, f105, f106, f107, f108, f109⟩
def own_l3 (k : Int32) : Prop := k = (0 : Int32) ∨ k = (1 : Int32) ∨ k = (2 : Int32)
def own_str (a b k cd ln : Int32) (vs : List Value) : Prop := (k = (0 : Int32) ∧ own_len (0 : Int32) (0 : Int32) cd ln) ∨ (k = (1 : Int32) ∧ own_len (1 : Int32) (2 : Int32) cd ln ∧ own_cA0 a cd ln vs) ∨ (k = (2 : Int32) ∧ own_len (2 : Int32) (4 : Int32) cd ln ∧ own_cA0 a cd ln vs ∧ own_cA1 b cd ln vs)
/-- the constant "" of String: not loaded since the start, or loaded and read -/
def own_V (Z : State) (u : Vm) (h : Heap) : Prop := IB Z u [] ∨ ∃ (a b : Addr) (k : ClassId), Lit (Z.setVm u) "java/lang/String" 7 a ∧ Exa Z h a "java/lang/String" ∧ Fld Z h a "java/lang/String" "coder" "B" (.int (0 : Int32)) ∧ Fld Z h a "java/lang/String" "value" "[B" (.ref b) ∧ Arv Z h b k .byte (0 : Int32) [] (.int (0 : Int32))
section
variable {Z s : State} {u : Vm} {h h' : Heap} {a0 : Array Value}
theorem own_V.ext (V : own_V Z u h) (E : Ext h h') : own_V Z u h' := by
  rcases V with I | ⟨a, b, k, L, e, f1, f2, v⟩
  · exact Or.inl I
  · exact Or.inr ⟨a, b, k, L, e.ext E, f1.ext E, f2.ext E, v.ext E⟩
theorem own_V.keep0 (V : own_V Z u h) (K : Keep h h' []) : own_V Z u h' := by
  rcases V with I | ⟨a, b, k, L, e, f1, f2, v⟩
  · exact Or.inl I
  · exact Or.inr ⟨a, b, k, L, e.keep K, f1.keep K nin0, f2.keep K nin0, v.keep K nin0⟩
theorem own_V.keep1 {x : Addr} {C : String} {n : Nat} (V : own_V Z u h) (K : Keep h h' [x]) (E : Exa Z h x C) (hC : C ≠ "java/lang/String") (w : (Cond.instantiable C n).before a0 Z = true) : own_V Z u h' := by
  rcases V with I | ⟨a, b, k, L, e, f1, f2, v⟩
  · exact Or.inl I
  · have q1 : a ≠ x := Ne.symm (ne_exa E e hC)
    have q2 : b ≠ x := Ne.symm (Exa.neArv E v w)
    exact Or.inr ⟨a, b, k, L, e.keep K, f1.keep K (ninS q1 nin0), f2.keep K (ninS q1 nin0), v.keep K (ninS q2 nin0)⟩
theorem own_V.warm (V : own_V Z s.vm h) (hu : s.WarmedH u) : own_V Z u h := by
  rcases V with I | ⟨a, b, k, L, r⟩
  · exact Or.inl (own_ibW I hu)
  · exact Or.inr ⟨a, b, k, own_litW L hu, r⟩
end
def own_sg (k : Int32) : Int32 := if k < (55296 : Int32) then (0 : Int32) else if k < (57344 : Int32) then (1 : Int32) else (0 : Int32)
def own_wt (k : Int32) : Int32 := if own_sg k = (0 : Int32) then k else k + (65536 : Int32)
def own_cmp (a0 a1 la b0 b1 lb : Int32) : Int32 := if la = 0 ∨ lb = 0 then la - lb else if a0 = b0 then (if la = 1 ∨ lb = 1 then la - lb else if a1 = b1 then (0 : Int32) else own_wt a1 - own_wt b1) else own_wt a0 - own_wt b0
def own_key (k : Int32) : Int32 := if k < (57344 : Int32) then (if k < (55296 : Int32) then k else k + (8192 : Int32)) else k - (2048 : Int32)
def own_at (i a b k : Int32) : Int32 := if i < k then (if i = (0 : Int32) then own_key a else own_key b) else (-1 : Int32)
def own_ord (i j : Int32) : Int32 := if i < j then (-1 : Int32) else if j < i then (1 : Int32) else (0 : Int32)
def own_rf (a0 a1 la b0 b1 lb : Int32) : Int32 := if own_ord (own_at (0 : Int32) a0 a1 la) (own_at (0 : Int32) b0 b1 lb) = (0 : Int32) then own_ord (own_at (1 : Int32) a0 a1 la) (own_at (1 : Int32) b0 b1 lb) else own_ord (own_at (0 : Int32) a0 a1 la) (own_at (0 : Int32) b0 b1 lb)
def own_sgn (v : Int32) : Int32 := if v < (0 : Int32) then (-1 : Int32) else if (0 : Int32) < v then (1 : Int32) else (0 : Int32)
theorem own_chr {x : Int32} (h : own_ch x) : 0 ≤ x.toInt ∧ x.toInt < 65536 := by
  have q1 := congrArg Int32.toBitVec h
  rw [own_c16b] at q1
  have q0 : x.toBitVec.toNat < 65536 := by rw [← q1]; simp; omega
  have q2 : x.toInt = x.toBitVec.toNat := by
    show x.toBitVec.toInt = _
    rw [BitVec.toInt_eq_toNat_of_lt]; omega
  omega
theorem own_addI (x y : Int32) (h1 : -2147483648 ≤ x.toInt + y.toInt) (h2 : x.toInt + y.toInt < 2147483648) : (x + y).toInt = x.toInt + y.toInt := by
  rw [Int32.toInt_add]; apply Int.bmod_eq_of_le <;> omega
theorem own_subI (x y : Int32) (h1 : -2147483648 ≤ x.toInt - y.toInt) (h2 : x.toInt - y.toInt < 2147483648) : (x - y).toInt = x.toInt - y.toInt := by
  rw [Int32.toInt_sub]; apply Int.bmod_eq_of_le <;> omega
theorem own_wtI {a : Int32} (h : own_ch a) : (own_wt a).toInt = if 55296 ≤ a.toInt ∧ a.toInt < 57344 then a.toInt + 65536 else a.toInt := by
  obtain ⟨h0, h1⟩ := own_chr h
  have e1 : (55296 : Int32).toInt = 55296 := by decide
  have e2 : (57344 : Int32).toInt = 57344 := by decide
  have e3 : (65536 : Int32).toInt = 65536 := by decide
  unfold own_wt own_sg
  by_cases c1 : a < 55296
  · simp only [c1, if_true]; rw [Int32.lt_iff_toInt_lt] at c1; rw [if_neg (by omega)]
  · by_cases c2 : a < 57344
    · rw [if_neg c1, if_pos c2, if_neg (by decide)]; rw [Int32.lt_iff_toInt_lt] at c1 c2; rw [if_pos (by omega), own_addI _ _ (by omega) (by omega), e3]
    · rw [if_neg c1, if_neg c2, if_pos rfl]; rw [Int32.lt_iff_toInt_lt] at c1 c2; rw [if_neg (by omega)]
theorem own_keyI {a : Int32} (h : own_ch a) : (own_key a).toInt = if a.toInt < 55296 then a.toInt else if a.toInt < 57344 then a.toInt + 8192 else a.toInt - 2048 := by
  obtain ⟨h0, h1⟩ := own_chr h
  have e1 : (55296 : Int32).toInt = 55296 := by decide
  have e2 : (57344 : Int32).toInt = 57344 := by decide
  have e3 : (8192 : Int32).toInt = 8192 := by decide
  have e4 : (2048 : Int32).toInt = 2048 := by decide
  unfold own_key
  by_cases c1 : a < 55296
  · rw [if_pos (by rw [Int32.lt_iff_toInt_lt] at c1 ⊢; omega), if_pos c1]; rw [Int32.lt_iff_toInt_lt] at c1; rw [if_pos (by omega)]
  · by_cases c2 : a < 57344
    · rw [if_pos c2, if_neg c1]; rw [Int32.lt_iff_toInt_lt] at c1 c2; rw [if_neg (by omega), if_pos (by omega), own_addI _ _ (by omega) (by omega), e3]
    · rw [if_neg c2]; rw [Int32.lt_iff_toInt_lt] at c1 c2; rw [if_neg (by omega), if_neg (by omega), own_subI _ _ (by omega) (by omega), e4]
theorem own_wk {a b : Int32} (ha : own_ch a) (hb : own_ch b) : own_sgn (own_wt a - own_wt b) = own_ord (own_key a) (own_key b) := by
  obtain ⟨a0, a1⟩ := own_chr ha
  obtain ⟨b0, b1⟩ := own_chr hb
  have wa := own_wtI ha
  have wb := own_wtI hb
  have ka := own_keyI ha
  have kb := own_keyI hb
  have hs : (own_wt a - own_wt b).toInt = (own_wt a).toInt - (own_wt b).toInt := by apply own_subI <;> (split at wa <;> split at wb <;> omega)
  have z : (0 : Int32).toInt = 0 := by decide
  unfold own_sgn own_ord
  simp only [Int32.lt_iff_toInt_lt, hs, z]
  by_cases c1 : (own_wt a).toInt - (own_wt b).toInt < 0
  · have : (own_key a).toInt < (own_key b).toInt := by
      split at wa <;> split at wb <;> split at ka <;> (try split at ka) <;> split at kb <;> (try split at kb) <;> omega
    rw [if_pos c1, if_pos this]
  · by_cases c2 : 0 < (own_wt a).toInt - (own_wt b).toInt
    · have : (own_key b).toInt < (own_key a).toInt := by
        split at wa <;> split at wb <;> split at ka <;> (try split at ka) <;> split at kb <;> (try split at kb) <;> omega
      rw [if_neg c1, if_pos c2, if_neg (by omega), if_pos this]
    · have : (own_key b).toInt = (own_key a).toInt := by
        split at wa <;> split at wb <;> split at ka <;> (try split at ka) <;> split at kb <;> (try split at kb) <;> omega
      rw [if_neg c1, if_neg c2, if_neg (by omega), if_neg (by omega)]
theorem own_ord0 {a b : Int32} (ha : own_ch a) (hb : own_ch b) (q : own_ord (own_key a) (own_key b) = 0) : a = b := by
  obtain ⟨a0, a1⟩ := own_chr ha
  obtain ⟨b0, b1⟩ := own_chr hb
  have ka := own_keyI ha
  have kb := own_keyI hb
  unfold own_ord at q
  simp only [Int32.lt_iff_toInt_lt] at q
  split at q
  · exact absurd q (by decide)
  · split at q
    · exact absurd q (by decide)
    · apply Int32.toInt_inj.mp
      split at ka <;> (try split at ka) <;> split at kb <;> (try split at kb) <;> omega
theorem own_ordR (k : Int32) : own_ord k k = 0 := by simp [own_ord, Int32.lt_iff_toInt_lt]
theorem own_keyP {a : Int32} (h : own_ch a) : 0 ≤ (own_key a).toInt := by
  obtain ⟨h0, h1⟩ := own_chr h
  have k := own_keyI h
  split at k <;> (try split at k) <;> omega
theorem own_ordL {a : Int32} (h : own_ch a) : own_ord (-1) (own_key a) = -1 := by
  have := own_keyP h
  unfold own_ord; rw [if_pos]; rw [Int32.lt_iff_toInt_lt]; have : (-1 : Int32).toInt = -1 := by decide
  omega
theorem own_ordG {a : Int32} (h : own_ch a) : own_ord (own_key a) (-1) = 1 := by
  have := own_keyP h
  have e : (-1 : Int32).toInt = -1 := by decide
  unfold own_ord; rw [if_neg, if_pos] <;> rw [Int32.lt_iff_toInt_lt] <;> omega
theorem own_kk {a0 a1 la b0 b1 lb : Int32} (h1 : own_l3 la) (h2 : own_l3 lb) (ka0 : own_ch a0) (ka1 : own_ch a1) (kb0 : own_ch b0) (kb1 : own_ch b1) : own_sgn (own_cmp a0 a1 la b0 b1 lb) = own_rf a0 a1 la b0 b1 lb := by
  have m : own_ord (-1) (-1) = 0 := by decide
  have n0 : ¬ ((-1 : Int32) = 0) := by decide
  have n1 : ¬ ((1 : Int32) = 0) := by decide
  have n2 : ¬ ((2 : Int32) = 0) := by decide
  have n3 : ¬ ((2 : Int32) = 1) := by decide
  have A : ∀ a b, own_at 0 a b 0 = -1 ∧ own_at 1 a b 0 = -1 ∧ own_at 0 a b 1 = own_key a ∧ own_at 1 a b 1 = -1 ∧ own_at 0 a b 2 = own_key a ∧ own_at 1 a b 2 = own_key b := fun a b =>
    ⟨by unfold own_at; rw [if_neg (by decide)], by unfold own_at; rw [if_neg (by decide)], by unfold own_at; rw [if_pos (by decide), if_pos rfl], by unfold own_at; rw [if_neg (by decide)], by unfold own_at; rw [if_pos (by decide), if_pos rfl], by unfold own_at; rw [if_pos (by decide), if_neg (by decide)]⟩
  obtain ⟨A1, A2, A3, A4, A5, A6⟩ := A a0 a1
  obtain ⟨B1, B2, B3, B4, B5, B6⟩ := A b0 b1
  have s0 : own_sgn 0 = 0 := by decide
  have s1 : own_sgn (0 - 1) = -1 := by decide
  have s2 : own_sgn (0 - 2) = -1 := by decide
  have s3 : own_sgn (1 - 0) = 1 := by decide
  have s4 : own_sgn (2 - 0) = 1 := by decide
  have s5 : own_sgn (1 - 2) = -1 := by decide
  have s6 : own_sgn (2 - 1) = 1 := by decide
  have s7 : own_sgn (1 - 1) = 0 := by decide
  have s8 : own_sgn (0 - 0) = 0 := by decide
  have E1 : own_ord (own_key a0) (own_key b0) = 0 → a0 = b0 := own_ord0 ka0 kb0
  have E2 : own_ord (own_key a1) (own_key b1) = 0 → a1 = b1 := own_ord0 ka1 kb1
  unfold own_rf own_cmp
  rcases h1 with rfl | rfl | rfl <;> rcases h2 with rfl | rfl | rfl
  · rw [A1, A2, B1, B2, m, if_pos rfl, if_pos (Or.inl rfl), s8]
  · rw [A1, B3, own_ordL kb0, if_neg n0, if_pos (Or.inl rfl), s1]
  · rw [A1, B5, own_ordL kb0, if_neg n0, if_pos (Or.inl rfl), s2]
  · rw [A3, B1, own_ordG ka0, if_neg n1, if_pos (Or.inr rfl), s3]
  · rw [A3, B3, A4, B4, m, if_neg (by simp [n1])]
    by_cases q : a0 = b0
    · subst q; rw [own_ordR, if_pos rfl, if_pos rfl, if_pos (Or.inl rfl), s7]
    · rw [if_neg q, if_neg (fun z => q (E1 z)), own_wk ka0 kb0]
  · rw [A3, B5, A4, B6, own_ordL kb1, if_neg (by simp [n1, n2])]
    by_cases q : a0 = b0
    · subst q; rw [own_ordR, if_pos rfl, if_pos rfl, if_pos (Or.inl rfl), s5]
    · rw [if_neg q, if_neg (fun z => q (E1 z)), own_wk ka0 kb0]
  · rw [A5, B1, own_ordG ka0, if_neg n1, if_pos (Or.inr rfl), s4]
  · rw [A5, B3, A6, B4, own_ordG ka1, if_neg (by simp [n1, n2])]
    by_cases q : a0 = b0
    · subst q; rw [own_ordR, if_pos rfl, if_pos rfl, if_pos (Or.inr rfl), s6]
    · rw [if_neg q, if_neg (fun z => q (E1 z)), own_wk ka0 kb0]
  · rw [A5, B5, A6, B6, if_neg (by simp [n2])]
    by_cases q : a0 = b0
    · subst q; rw [own_ordR, if_pos rfl, if_pos rfl, if_neg (by simp [n3])]
      by_cases r : a1 = b1
      · subst r; rw [own_ordR, if_pos rfl, s0]
      · rw [if_neg r, own_wk ka1 kb1]
    · rw [if_neg q, if_neg (fun z => q (E1 z)), own_wk ka0 kb0]
theorem own_sgn0 {v : Int32} (q : own_sgn v = 0) : v = 0 := by
  unfold own_sgn at q
  have z : (0 : Int32).toInt = 0 := by decide
  simp only [Int32.lt_iff_toInt_lt, z] at q
  split at q
  · exact absurd q (by decide)
  · split at q
    · exact absurd q (by decide)
    · apply Int32.toInt_inj.mp; omega
theorem own_fin0 {xa0 xa1 xla xb0 xb1 xlb xc0 xc1 xlc xd0 xd1 xld : Int32} (hla : own_l3 xla) (hlb : own_l3 xlb) (hlc : own_l3 xlc) (hld : own_l3 xld) (k1 : own_ch xa0) (k2 : own_ch xa1) (k3 : own_ch xb0) (k4 : own_ch xb1) (k5 : own_ch xc0) (k6 : own_ch xc1) (k7 : own_ch xd0) (k8 : own_ch xd1) (q : own_rf xa0 xa1 xla xb0 xb1 xlb = (0 : Int32)) :
    own_sgn (if own_cmp xa0 xa1 xla xb0 xb1 xlb = (0 : Int32) then own_cmp xc0 xc1 xlc xd0 xd1 xld else own_cmp xa0 xa1 xla xb0 xb1 xlb) = own_rf xc0 xc1 xlc xd0 xd1 xld := by
  have e := own_kk hla hlb k1 k2 k3 k4
  rw [if_pos (own_sgn0 (e.trans q))]; exact own_kk hlc hld k5 k6 k7 k8
theorem own_fin1 {xa0 xa1 xla xb0 xb1 xlb xc0 xc1 xlc xd0 xd1 xld : Int32} (hla : own_l3 xla) (hlb : own_l3 xlb) (hlc : own_l3 xlc) (hld : own_l3 xld) (k1 : own_ch xa0) (k2 : own_ch xa1) (k3 : own_ch xb0) (k4 : own_ch xb1) (k5 : own_ch xc0) (k6 : own_ch xc1) (k7 : own_ch xd0) (k8 : own_ch xd1) (q : ¬ own_rf xa0 xa1 xla xb0 xb1 xlb = (0 : Int32)) :
    own_sgn (if own_cmp xa0 xa1 xla xb0 xb1 xlb = (0 : Int32) then own_cmp xc0 xc1 xlc xd0 xd1 xld else own_cmp xa0 xa1 xla xb0 xb1 xlb) = own_rf xa0 xa1 xla xb0 xb1 xlb := by
  have e := own_kk hla hlb k1 k2 k3 k4
  rw [if_neg (fun z => q (by rw [← e, z]; decide))]; exact e

theorem own_pn4 : plainName "java/lang/Character" = true := by first | (simp [plainName, overriddenIn]; done) | decide +kernel
theorem own_d34_0 : decode jdk_89_method_16_code 0 = .ok (.iload_n 0, 1) := by decide +kernel
theorem own_d34_1 : decode jdk_89_method_16_code 1 = .ok (.ldc 75, 2) := by decide +kernel
theorem own_d34_3 : decode jdk_89_method_16_code 3 = .ok (.if_icmp .lt 13, 3) := by decide +kernel
theorem own_d34_16 : decode jdk_89_method_16_code 16 = .ok (.iconst 0, 1) := by decide +kernel
theorem own_d34_17 : decode jdk_89_method_16_code 17 = .ok (.ireturn, 1) := by decide +kernel
theorem own_d34_6 : decode jdk_89_method_16_code 6 = .ok (.iload_n 0, 1) := by decide +kernel
theorem own_d34_7 : decode jdk_89_method_16_code 7 = .ok (.ldc 77, 2) := by decide +kernel
theorem own_d34_9 : decode jdk_89_method_16_code 9 = .ok (.if_icmp .ge 7, 3) := by decide +kernel
theorem own_d34_12 : decode jdk_89_method_16_code 12 = .ok (.iconst 1, 1) := by decide +kernel
theorem own_d34_13 : decode jdk_89_method_16_code 13 = .ok (.goto 4, 3) := by decide +kernel
def Q_own_isg (Z : State) (xc : Int32) (h0 : Heap) (n0 : Nat) (v : Option Value) (h : Heap) (L : List Loc) : Prop := v = some (.int (own_sg xc)) ∧ Fr n0 L ∧ h = h0
theorem own_ef_own_isg (m : MethodId) (xc : Int32) : entryFrame m #[(.int xc)] 1 = mkF m 0 #[iv xc] [] := by first | (simp [entryFrame, mkF, argsToLocals, Value.category]; done) | rfl
set_option maxRecDepth 65536 in
set_option maxHeartbeats 40000000 in
theorem own_isg (l : Launch) (Z : State) (a0 : Array Value) (hw : ∀ d ∈ tables_1, d.before a0 Z = true) (ws : List Jvm.Cond) (xc : Int32) (h0 : Heap) (n0 : Nat) (Z0 : n0 ≤ h0.size)  :
    own_Ctr l Z (⟨"java/lang/Character", "isSurrogate", "(C)Z"⟩ : MethodName) jdk_89_method_16_code 1 (some .boolean) ws ({ frames := 0, cells := 0, slots := 0, locals := 0 } : Room) (({ frames := 0, cells := 0, slots := 0, locals := 0 } : Room)).cells (({ frames := 0, cells := 0, slots := 0, locals := 0 } : Room)).slots #[(.int xc)] h0 (Q_own_isg Z xc h0 n0) := by
  refine own_enter (plainFor_of_name own_pn4) ?_
  intro p e s m below meth c s₁ X0 hx hZ hby hml hown hnm hlk hret e0
  have N0 := Fr.nil n0
  refine own_cast (own_ef_own_isg m xc) ?_
  refine own_by (g' := (mkF m 3 #[iv xc] [(.int (55296 : Int32)), (.int xc)])) (fun t k => XS.iloadN X0.here hx rfl (hb hby own_d34_0) rfl (X0.ldcInt hx hown (mvT hZ (hw _ (List.mem_of_getElem? (i := 151) rfl))) (g := (mkF m 1 #[iv xc] [(.int xc)])) rfl (hb hby own_d34_1) t k)) ?_
  by_cases hc101 : xc < (55296 : Int32)
  ·
    refine own_by (g' := (mkF m 17 #[iv xc] [(.int (0 : Int32))])) (fun t k => XS.icmpYes X0.here hx rfl (pc0 := 3) (pc' := 16) rfl (hb hby own_d34_3) rfl (tlt hc101).1 (by decide) (by decide) (XS.iconst X0.here hx rfl (hb hby own_d34_16) k)) ?_
    refine own_retN X0 hx hlk hret (t := .boolean) (by simp) (hb hby own_d34_17) (by decide) (by decide) ?_
    exact ⟨(by unfold own_sg; simp [hc101]; try decide), N0, e0⟩
  ·
    refine own_by (g' := (mkF m 9 #[iv xc] [(.int (57344 : Int32)), (.int xc)])) (fun t k => XS.icmpNo X0.here hx rfl (hb hby own_d34_3) rfl (flt hc101).1 (XS.iloadN X0.here hx rfl (hb hby own_d34_6) rfl (X0.ldcInt hx hown (mvT hZ (hw _ (List.mem_of_getElem? (i := 152) rfl))) (g := (mkF m 7 #[iv xc] [(.int xc)])) rfl (hb hby own_d34_7) t k))) ?_
    by_cases hc102 : xc < (57344 : Int32)
    ·
      refine own_by (g' := (mkF m 17 #[iv xc] [(.int (1 : Int32))])) (fun t k => XS.icmpNo X0.here hx rfl (hb hby own_d34_9) rfl (tlt hc102).2.1 (XS.iconst X0.here hx rfl (hb hby own_d34_12) (XS.goto X0.here hx rfl (pc0 := 13) (pc' := 17) rfl (hb hby own_d34_13) (by decide) (by decide) k))) ?_
      refine own_retN X0 hx hlk hret (t := .boolean) (by simp) (hb hby own_d34_17) (by decide) (by decide) ?_
      exact ⟨(by unfold own_sg; simp [hc101, hc102]; try decide), N0, e0⟩
    ·
      refine own_by (g' := (mkF m 17 #[iv xc] [(.int (0 : Int32))])) (fun t k => XS.icmpYes X0.here hx rfl (pc0 := 9) (pc' := 16) rfl (hb hby own_d34_9) rfl (flt hc102).2.1 (by decide) (by decide) (XS.iconst X0.here hx rfl (hb hby own_d34_16) k)) ?_
      refine own_retN X0 hx hlk hret (t := .boolean) (by simp) (hb hby own_d34_17) (by decide) (by decide) ?_
      exact ⟨(by unfold own_sg; simp [hc101, hc102]; try decide), N0, e0⟩
theorem own_pn5 : plainName "com/example/abakus/abakus/conversation/MailboxThread" = true := by first | (simp [plainName, overriddenIn]; done) | decide +kernel
theorem own_d33_0 : decode prog_4_method_4_code 0 = .ok (.iload_n 0, 1) := by decide +kernel
theorem own_d33_1 : decode prog_4_method_4_code 1 = .ok (.invokestatic 40, 3) := by decide +kernel
theorem own_pd14 : parseMethodDescriptor "(C)Z" = some ⟨[.char], some .boolean⟩ := by decide +kernel
theorem own_d33_4 : decode prog_4_method_4_code 4 = .ok (.ifCond .eq 10, 3) := by decide +kernel
theorem own_d33_14 : decode prog_4_method_4_code 14 = .ok (.iload_n 0, 1) := by decide +kernel
theorem own_d33_15 : decode prog_4_method_4_code 15 = .ok (.ireturn, 1) := by decide +kernel
theorem own_d33_7 : decode prog_4_method_4_code 7 = .ok (.iload_n 0, 1) := by decide +kernel
theorem own_d33_8 : decode prog_4_method_4_code 8 = .ok (.ldc 46, 2) := by decide +kernel
theorem own_d33_10 : decode prog_4_method_4_code 10 = .ok (.iadd, 1) := by decide +kernel
theorem own_d33_11 : decode prog_4_method_4_code 11 = .ok (.goto 4, 3) := by decide +kernel
def Q_own_wgt (Z : State) (xc : Int32) (h0 : Heap) (n0 : Nat) (v : Option Value) (h : Heap) (L : List Loc) : Prop := v = some (.int (own_wt xc)) ∧ Fr n0 L ∧ h = h0
theorem own_ef_own_wgt (m : MethodId) (xc : Int32) : entryFrame m #[(.int xc)] 1 = mkF m 0 #[iv xc] [] := by first | (simp [entryFrame, mkF, argsToLocals, Value.category]; done) | rfl
set_option maxRecDepth 65536 in
set_option maxHeartbeats 40000000 in
theorem own_wgt (l : Launch) (Z : State) (a0 : Array Value) (hw : ∀ d ∈ tables_1, d.before a0 Z = true) (ws : List Jvm.Cond) (xc : Int32) (h0 : Heap) (n0 : Nat) (Z0 : n0 ≤ h0.size)  :
    own_Ctr l Z (⟨"com/example/abakus/abakus/conversation/MailboxThread", "weight", "(C)I"⟩ : MethodName) prog_4_method_4_code 1 (some .int) ws ({ frames := 1, cells := 0, slots := 0, locals := 12 } : Room) (({ frames := 1, cells := 0, slots := 0, locals := 12 } : Room)).cells (({ frames := 1, cells := 0, slots := 0, locals := 12 } : Room)).slots #[(.int xc)] h0 (Q_own_wgt Z xc h0 n0) := by
  refine own_enter (plainFor_of_name own_pn5) ?_
  intro p e s m below meth c s₁ X0 hx hZ hby hml hown hnm hlk hret e0
  have N0 := Fr.nil n0
  refine own_cast (own_ef_own_wgt m xc) ?_
  refine own_by (g' := (mkF m 1 #[iv xc] [(.int xc)])) (fun t k => XS.iloadN X0.here hx rfl (hb hby own_d33_0) rfl k) ?_
  refine own_callS X0 hx hZ hown (hw _ (List.mem_of_getElem? (i := 147) rfl)) (hw _ (List.mem_of_getElem? (i := 148) rfl)) (hw _ (List.mem_of_getElem? (i := 149) rfl)) (hw _ (List.mem_of_getElem? (i := 150) rfl)) (by decide) (own_isg l Z a0 hw [] (xc) h0 n0 Z0 ) 0 (by decide) (by decide) (by decide) (by decide) e0 (g := (mkF m 1 #[iv xc] [(.int xc)])) rfl (by rw [hml]; rfl) (argsL := [(.int xc)]) (rest := []) (lenOf own_pd14 rfl) rfl (by show 2 * 0 + _ ≤ _; exact Nat.le_of_eq rfl) (hb hby own_d33_1) ?_
  intro v101 T101 L101 X101 q101
  obtain ⟨rfl, N101q, e101⟩ := q101
  have N101 := Fr.app N0 N101q
  show own_Goes p e below s _ _ _ T101 (mkF m 4 #[iv xc] [(.int (own_sg xc))])
  by_cases hc102 : (own_sg xc) = (0 : Int32)
  ·
    refine own_by (g' := (mkF m 15 #[iv xc] [(.int xc)])) (fun t k => XS.ifYes X101.here hx rfl (pc0 := 4) (pc' := 14) rfl (hb hby own_d33_4) rfl ((if0 _ _).trans (teq hc102).1) (by decide) (by decide) (XS.iloadN X101.here hx rfl (hb hby own_d33_14) rfl k)) ?_
    refine own_retI X101 hx hlk hret (hb hby own_d33_15) (by decide) (by decide) ?_
    exact ⟨(by simp [own_wt, hc102]), N101, e101⟩
  ·
    refine own_by (g' := (mkF m 15 #[iv xc] [(.int (xc + (65536 : Int32)))])) (fun t k => XS.ifNo X101.here hx rfl (hb hby own_d33_4) rfl ((if0 _ _).trans (feq hc102).1) (XS.iloadN X101.here hx rfl (hb hby own_d33_7) rfl (X101.ldcInt hx hown (mvT hZ (hw _ (List.mem_of_getElem? (i := 153) rfl))) (g := (mkF m 8 #[iv xc] [(.int xc)])) rfl (hb hby own_d33_8) t (XS.iadd X101.here hx rfl (hb hby own_d33_10) rfl (XS.goto X101.here hx rfl (pc0 := 11) (pc' := 15) rfl (hb hby own_d33_11) (by decide) (by decide) k))))) ?_
    refine own_retI X101 hx hlk hret (hb hby own_d33_15) (by decide) (by decide) ?_
    exact ⟨(by simp [own_wt, hc102]), N101, e101⟩
theorem own_pn6 : plainName "com/example/abakus/abakus/conversation/MailboxThreadCompareToPinLaw" = true := by first | (simp [plainName, overriddenIn]; done) | decide +kernel
theorem own_d19_0 : decode method_4_code 0 = .ok (.iload_n 0, 1) := by decide +kernel
theorem own_d19_1 : decode method_4_code 1 = .ok (.ldc 36, 2) := by decide +kernel
theorem own_d19_3 : decode method_4_code 3 = .ok (.if_icmp .lt 9, 3) := by decide +kernel
theorem own_d19_12 : decode method_4_code 12 = .ok (.iload_n 0, 1) := by decide +kernel
theorem own_d19_13 : decode method_4_code 13 = .ok (.ldc 37, 2) := by decide +kernel
theorem own_d19_15 : decode method_4_code 15 = .ok (.if_icmp .lt 9, 3) := by decide +kernel
theorem own_d19_24 : decode method_4_code 24 = .ok (.iload_n 0, 1) := by decide +kernel
theorem own_d19_25 : decode method_4_code 25 = .ok (.ireturn, 1) := by decide +kernel
theorem own_d19_18 : decode method_4_code 18 = .ok (.iload_n 0, 1) := by decide +kernel
theorem own_d19_19 : decode method_4_code 19 = .ok (.sipush 8192, 3) := by decide +kernel
theorem own_d19_22 : decode method_4_code 22 = .ok (.iadd, 1) := by decide +kernel
theorem own_d19_23 : decode method_4_code 23 = .ok (.ireturn, 1) := by decide +kernel
theorem own_d19_6 : decode method_4_code 6 = .ok (.iload_n 0, 1) := by decide +kernel
theorem own_d19_7 : decode method_4_code 7 = .ok (.sipush 2048, 3) := by decide +kernel
theorem own_d19_10 : decode method_4_code 10 = .ok (.isub, 1) := by decide +kernel
theorem own_d19_11 : decode method_4_code 11 = .ok (.ireturn, 1) := by decide +kernel
def Q_own_keyc (Z : State) (xc : Int32) (h0 : Heap) (n0 : Nat) (v : Option Value) (h : Heap) (L : List Loc) : Prop := v = some (.int (own_key xc)) ∧ Fr n0 L ∧ h = h0
theorem own_ef_own_keyc (m : MethodId) (xc : Int32) : entryFrame m #[(.int xc)] 1 = mkF m 0 #[iv xc] [] := by first | (simp [entryFrame, mkF, argsToLocals, Value.category]; done) | rfl
set_option maxRecDepth 65536 in
set_option maxHeartbeats 40000000 in
theorem own_keyc (l : Launch) (Z : State) (a0 : Array Value) (hw : ∀ d ∈ tables_1, d.before a0 Z = true) (ws : List Jvm.Cond) (xc : Int32) (h0 : Heap) (n0 : Nat) (Z0 : n0 ≤ h0.size)  :
    own_Ctr l Z (⟨"com/example/abakus/abakus/conversation/MailboxThreadCompareToPinLaw", "key", "(C)I"⟩ : MethodName) method_4_code 1 (some .int) ws ({ frames := 0, cells := 0, slots := 0, locals := 0 } : Room) (({ frames := 0, cells := 0, slots := 0, locals := 0 } : Room)).cells (({ frames := 0, cells := 0, slots := 0, locals := 0 } : Room)).slots #[(.int xc)] h0 (Q_own_keyc Z xc h0 n0) := by
  refine own_enter (plainFor_of_name own_pn6) ?_
  intro p e s m below meth c s₁ X0 hx hZ hby hml hown hnm hlk hret e0
  have N0 := Fr.nil n0
  refine own_cast (own_ef_own_keyc m xc) ?_
  refine own_by (g' := (mkF m 3 #[iv xc] [(.int (57344 : Int32)), (.int xc)])) (fun t k => XS.iloadN X0.here hx rfl (hb hby own_d19_0) rfl (X0.ldcInt hx hown (mvT hZ (hw _ (List.mem_of_getElem? (i := 91) rfl))) (g := (mkF m 1 #[iv xc] [(.int xc)])) rfl (hb hby own_d19_1) t k)) ?_
  by_cases hc101 : xc < (57344 : Int32)
  ·
    refine own_by (g' := (mkF m 15 #[iv xc] [(.int (55296 : Int32)), (.int xc)])) (fun t k => XS.icmpYes X0.here hx rfl (pc0 := 3) (pc' := 12) rfl (hb hby own_d19_3) rfl (tlt hc101).1 (by decide) (by decide) (XS.iloadN X0.here hx rfl (hb hby own_d19_12) rfl (X0.ldcInt hx hown (mvT hZ (hw _ (List.mem_of_getElem? (i := 92) rfl))) (g := (mkF m 13 #[iv xc] [(.int xc)])) rfl (hb hby own_d19_13) t k))) ?_
    by_cases hc102 : xc < (55296 : Int32)
    ·
      refine own_by (g' := (mkF m 25 #[iv xc] [(.int xc)])) (fun t k => XS.icmpYes X0.here hx rfl (pc0 := 15) (pc' := 24) rfl (hb hby own_d19_15) rfl (tlt hc102).1 (by decide) (by decide) (XS.iloadN X0.here hx rfl (hb hby own_d19_24) rfl k)) ?_
      refine own_retI X0 hx hlk hret (hb hby own_d19_25) (by decide) (by decide) ?_
      exact ⟨(by simp [own_key, hc101, hc102]), N0, e0⟩
    ·
      refine own_by (g' := (mkF m 23 #[iv xc] [(.int (xc + (8192 : Int32)))])) (fun t k => XS.icmpNo X0.here hx rfl (hb hby own_d19_15) rfl (flt hc102).1 (XS.iloadN X0.here hx rfl (hb hby own_d19_18) rfl (XS.sipush X0.here hx rfl (hb hby own_d19_19) (XS.iadd X0.here hx rfl (hb hby own_d19_22) rfl k)))) ?_
      refine own_retI X0 hx hlk hret (hb hby own_d19_23) (by decide) (by decide) ?_
      exact ⟨(by simp [own_key, hc101, hc102]), N0, e0⟩
  ·
    refine own_by (g' := (mkF m 11 #[iv xc] [(.int (xc - (2048 : Int32)))])) (fun t k => XS.icmpNo X0.here hx rfl (hb hby own_d19_3) rfl (flt hc101).1 (XS.iloadN X0.here hx rfl (hb hby own_d19_6) rfl (XS.sipush X0.here hx rfl (hb hby own_d19_7) (XS.isub X0.here hx rfl (hb hby own_d19_10) rfl k)))) ?_
    refine own_retI X0 hx hlk hret (hb hby own_d19_11) (by decide) (by decide) ?_
    exact ⟨(by simp [own_key, hc101]), N0, e0⟩
theorem own_d13_0 : decode method_5_code 0 = .ok (.iload_n 3, 1) := by decide +kernel
theorem own_d13_1 : decode method_5_code 1 = .ok (.iload_n 2, 1) := by decide +kernel
theorem own_d13_2 : decode method_5_code 2 = .ok (.if_icmp .lt 5, 3) := by decide +kernel
theorem own_d13_7 : decode method_5_code 7 = .ok (.iload_n 3, 1) := by decide +kernel
theorem own_d13_8 : decode method_5_code 8 = .ok (.ifCond .ne 10, 3) := by decide +kernel
theorem own_d13_11 : decode method_5_code 11 = .ok (.iload_n 0, 1) := by decide +kernel
theorem own_d13_12 : decode method_5_code 12 = .ok (.invokestatic 38, 3) := by decide +kernel
theorem own_pd15 : parseMethodDescriptor "(C)I" = some ⟨[.char], some .int⟩ := by decide +kernel
theorem own_d13_15 : decode method_5_code 15 = .ok (.goto 7, 3) := by decide +kernel
theorem own_d13_22 : decode method_5_code 22 = .ok (.ireturn, 1) := by decide +kernel
theorem own_d13_5 : decode method_5_code 5 = .ok (.iconst (-1), 1) := by decide +kernel
theorem own_d13_6 : decode method_5_code 6 = .ok (.ireturn, 1) := by decide +kernel
def Q_own_at0 (Z : State) (xa : Int32) (xb : Int32) (lk : Int32) (h0 : Heap) (n0 : Nat) (v : Option Value) (h : Heap) (L : List Loc) : Prop := v = some (.int (own_at (0 : Int32) xa xb lk)) ∧ Fr n0 L ∧ h = h0
theorem own_ef_own_at0 (m : MethodId) (xa : Int32) (xb : Int32) (lk : Int32) : entryFrame m #[(.int xa), (.int xb), (.int lk), (.int (0 : Int32))] 4 = mkF m 0 #[iv xa, iv xb, iv lk, iv (0 : Int32)] [] := by first | (simp [entryFrame, mkF, argsToLocals, Value.category]; done) | rfl
set_option maxRecDepth 65536 in
set_option maxHeartbeats 40000000 in
theorem own_at0 (l : Launch) (Z : State) (a0 : Array Value) (hw : ∀ d ∈ tables_1, d.before a0 Z = true) (ws : List Jvm.Cond) (xa : Int32) (xb : Int32) (lk : Int32) (h0 : Heap) (n0 : Nat) (Z0 : n0 ≤ h0.size)  :
    own_Ctr l Z (⟨"com/example/abakus/abakus/conversation/MailboxThreadCompareToPinLaw", "at", "(CCII)I"⟩ : MethodName) method_5_code 4 (some .int) ws ({ frames := 1, cells := 0, slots := 0, locals := 12 } : Room) (({ frames := 1, cells := 0, slots := 0, locals := 12 } : Room)).cells (({ frames := 1, cells := 0, slots := 0, locals := 12 } : Room)).slots #[(.int xa), (.int xb), (.int lk), (.int (0 : Int32))] h0 (Q_own_at0 Z xa xb lk h0 n0) := by
  refine own_enter (plainFor_of_name own_pn6) ?_
  intro p e s m below meth c s₁ X0 hx hZ hby hml hown hnm hlk hret e0
  have N0 := Fr.nil n0
  refine own_cast (own_ef_own_at0 m xa xb lk) ?_
  refine own_by (g' := (mkF m 2 #[iv xa, iv xb, iv lk, iv (0 : Int32)] [(.int lk), (.int (0 : Int32))])) (fun t k => XS.iloadN X0.here hx rfl (hb hby own_d13_0) rfl (XS.iloadN X0.here hx rfl (hb hby own_d13_1) rfl k)) ?_
  by_cases hc101 : (0 : Int32) < lk
  ·
    refine own_by (g' := (mkF m 12 #[iv xa, iv xb, iv lk, iv (0 : Int32)] [(.int xa)])) (fun t k => XS.icmpYes X0.here hx rfl (pc0 := 2) (pc' := 7) rfl (hb hby own_d13_2) rfl (tlt hc101).1 (by decide) (by decide) (XS.iloadN X0.here hx rfl (hb hby own_d13_7) rfl (XS.ifNo X0.here hx rfl (hb hby own_d13_8) rfl ((if0 _ _).trans (teq (by decide : (0 : Int32) = (0 : Int32))).2) (XS.iloadN X0.here hx rfl (hb hby own_d13_11) rfl k)))) ?_
    refine own_callS X0 hx hZ hown (hw _ (List.mem_of_getElem? (i := 88) rfl)) (hw _ (List.mem_of_getElem? (i := 89) rfl)) (hw _ (List.mem_of_getElem? (i := 6) rfl)) (hw _ (List.mem_of_getElem? (i := 90) rfl)) (by decide) (own_keyc l Z a0 hw [] (xa) h0 n0 Z0 ) 0 (by decide) (by decide) (by decide) (by decide) e0 (g := (mkF m 12 #[iv xa, iv xb, iv lk, iv (0 : Int32)] [(.int xa)])) rfl (by rw [hml]; rfl) (argsL := [(.int xa)]) (rest := []) (lenOf own_pd15 rfl) rfl (by show 2 * 0 + _ ≤ _; exact Nat.le_of_eq rfl) (hb hby own_d13_12) ?_
    intro v102 T102 L102 X102 q102
    obtain ⟨rfl, N102q, e102⟩ := q102
    have N102 := Fr.app N0 N102q
    show own_Goes p e below s _ _ _ T102 (mkF m 15 #[iv xa, iv xb, iv lk, iv (0 : Int32)] [(.int (own_key xa))])
    refine own_by (g' := (mkF m 22 #[iv xa, iv xb, iv lk, iv (0 : Int32)] [(.int (own_key xa))])) (fun t k => XS.goto X102.here hx rfl (pc0 := 15) (pc' := 22) rfl (hb hby own_d13_15) (by decide) (by decide) k) ?_
    refine own_retI X102 hx hlk hret (hb hby own_d13_22) (by decide) (by decide) ?_
    exact ⟨(by simp [own_at, hc101]), N102, e102⟩
  ·
    refine own_by (g' := (mkF m 6 #[iv xa, iv xb, iv lk, iv (0 : Int32)] [(.int (-1 : Int32))])) (fun t k => XS.icmpNo X0.here hx rfl (hb hby own_d13_2) rfl (flt hc101).1 (XS.iconst X0.here hx rfl (hb hby own_d13_5) k)) ?_
    refine own_retI X0 hx hlk hret (hb hby own_d13_6) (by decide) (by decide) ?_
    exact ⟨(by simp [own_at, hc101]), N0, e0⟩
theorem own_d13_18 : decode method_5_code 18 = .ok (.iload_n 1, 1) := by decide +kernel
theorem own_d13_19 : decode method_5_code 19 = .ok (.invokestatic 38, 3) := by decide +kernel
def Q_own_at1 (Z : State) (xa : Int32) (xb : Int32) (lk : Int32) (h0 : Heap) (n0 : Nat) (v : Option Value) (h : Heap) (L : List Loc) : Prop := v = some (.int (own_at (1 : Int32) xa xb lk)) ∧ Fr n0 L ∧ h = h0
theorem own_ef_own_at1 (m : MethodId) (xa : Int32) (xb : Int32) (lk : Int32) : entryFrame m #[(.int xa), (.int xb), (.int lk), (.int (1 : Int32))] 4 = mkF m 0 #[iv xa, iv xb, iv lk, iv (1 : Int32)] [] := by first | (simp [entryFrame, mkF, argsToLocals, Value.category]; done) | rfl
set_option maxRecDepth 65536 in
set_option maxHeartbeats 40000000 in
theorem own_at1 (l : Launch) (Z : State) (a0 : Array Value) (hw : ∀ d ∈ tables_1, d.before a0 Z = true) (ws : List Jvm.Cond) (xa : Int32) (xb : Int32) (lk : Int32) (h0 : Heap) (n0 : Nat) (Z0 : n0 ≤ h0.size)  :
    own_Ctr l Z (⟨"com/example/abakus/abakus/conversation/MailboxThreadCompareToPinLaw", "at", "(CCII)I"⟩ : MethodName) method_5_code 4 (some .int) ws ({ frames := 1, cells := 0, slots := 0, locals := 12 } : Room) (({ frames := 1, cells := 0, slots := 0, locals := 12 } : Room)).cells (({ frames := 1, cells := 0, slots := 0, locals := 12 } : Room)).slots #[(.int xa), (.int xb), (.int lk), (.int (1 : Int32))] h0 (Q_own_at1 Z xa xb lk h0 n0) := by
  refine own_enter (plainFor_of_name own_pn6) ?_
  intro p e s m below meth c s₁ X0 hx hZ hby hml hown hnm hlk hret e0
  have N0 := Fr.nil n0
  refine own_cast (own_ef_own_at1 m xa xb lk) ?_
  refine own_by (g' := (mkF m 2 #[iv xa, iv xb, iv lk, iv (1 : Int32)] [(.int lk), (.int (1 : Int32))])) (fun t k => XS.iloadN X0.here hx rfl (hb hby own_d13_0) rfl (XS.iloadN X0.here hx rfl (hb hby own_d13_1) rfl k)) ?_
  by_cases hc101 : (1 : Int32) < lk
  ·
    refine own_by (g' := (mkF m 19 #[iv xa, iv xb, iv lk, iv (1 : Int32)] [(.int xb)])) (fun t k => XS.icmpYes X0.here hx rfl (pc0 := 2) (pc' := 7) rfl (hb hby own_d13_2) rfl (tlt hc101).1 (by decide) (by decide) (XS.iloadN X0.here hx rfl (hb hby own_d13_7) rfl (XS.ifYes X0.here hx rfl (pc0 := 8) (pc' := 18) rfl (hb hby own_d13_8) rfl ((if0 _ _).trans (feq (by decide : ¬ ((1 : Int32) = (0 : Int32)))).2) (by decide) (by decide) (XS.iloadN X0.here hx rfl (hb hby own_d13_18) rfl k)))) ?_
    refine own_callS X0 hx hZ hown (hw _ (List.mem_of_getElem? (i := 88) rfl)) (hw _ (List.mem_of_getElem? (i := 89) rfl)) (hw _ (List.mem_of_getElem? (i := 6) rfl)) (hw _ (List.mem_of_getElem? (i := 90) rfl)) (by decide) (own_keyc l Z a0 hw [] (xb) h0 n0 Z0 ) 0 (by decide) (by decide) (by decide) (by decide) e0 (g := (mkF m 19 #[iv xa, iv xb, iv lk, iv (1 : Int32)] [(.int xb)])) rfl (by rw [hml]; rfl) (argsL := [(.int xb)]) (rest := []) (lenOf own_pd15 rfl) rfl (by show 2 * 0 + _ ≤ _; exact Nat.le_of_eq rfl) (hb hby own_d13_19) ?_
    intro v102 T102 L102 X102 q102
    obtain ⟨rfl, N102q, e102⟩ := q102
    have N102 := Fr.app N0 N102q
    show own_Goes p e below s _ _ _ T102 (mkF m 22 #[iv xa, iv xb, iv lk, iv (1 : Int32)] [(.int (own_key xb))])
    refine own_retI X102 hx hlk hret (hb hby own_d13_22) (by decide) (by decide) ?_
    exact ⟨(by simp [own_at, hc101]), N102, e102⟩
  ·
    refine own_by (g' := (mkF m 6 #[iv xa, iv xb, iv lk, iv (1 : Int32)] [(.int (-1 : Int32))])) (fun t k => XS.icmpNo X0.here hx rfl (hb hby own_d13_2) rfl (flt hc101).1 (XS.iconst X0.here hx rfl (hb hby own_d13_5) k)) ?_
    refine own_retI X0 hx hlk hret (hb hby own_d13_6) (by decide) (by decide) ?_
    exact ⟨(by simp [own_at, hc101]), N0, e0⟩
theorem own_d14_0 : decode method_6_code 0 = .ok (.iload_n 0, 1) := by decide +kernel
theorem own_d14_1 : decode method_6_code 1 = .ok (.iload_n 1, 1) := by decide +kernel
theorem own_d14_2 : decode method_6_code 2 = .ok (.if_icmp .ge 7, 3) := by decide +kernel
theorem own_d14_5 : decode method_6_code 5 = .ok (.iconst (-1), 1) := by decide +kernel
theorem own_d14_6 : decode method_6_code 6 = .ok (.goto 13, 3) := by decide +kernel
theorem own_d14_19 : decode method_6_code 19 = .ok (.ireturn, 1) := by decide +kernel
theorem own_d14_9 : decode method_6_code 9 = .ok (.iload_n 0, 1) := by decide +kernel
theorem own_d14_10 : decode method_6_code 10 = .ok (.iload_n 1, 1) := by decide +kernel
theorem own_d14_11 : decode method_6_code 11 = .ok (.if_icmp .le 7, 3) := by decide +kernel
theorem own_d14_14 : decode method_6_code 14 = .ok (.iconst 1, 1) := by decide +kernel
theorem own_d14_15 : decode method_6_code 15 = .ok (.goto 4, 3) := by decide +kernel
theorem own_d14_18 : decode method_6_code 18 = .ok (.iconst 0, 1) := by decide +kernel
def Q_own_ordc (Z : State) (xa : Int32) (xb : Int32) (h0 : Heap) (n0 : Nat) (v : Option Value) (h : Heap) (L : List Loc) : Prop := v = some (.int (own_ord xa xb)) ∧ Fr n0 L ∧ h = h0
theorem own_ef_own_ordc (m : MethodId) (xa : Int32) (xb : Int32) : entryFrame m #[(.int xa), (.int xb)] 2 = mkF m 0 #[iv xa, iv xb] [] := by first | (simp [entryFrame, mkF, argsToLocals, Value.category]; done) | rfl
set_option maxRecDepth 65536 in
set_option maxHeartbeats 40000000 in
theorem own_ordc (l : Launch) (Z : State) (a0 : Array Value) (hw : ∀ d ∈ tables_1, d.before a0 Z = true) (ws : List Jvm.Cond) (xa : Int32) (xb : Int32) (h0 : Heap) (n0 : Nat) (Z0 : n0 ≤ h0.size)  :
    own_Ctr l Z (⟨"com/example/abakus/abakus/conversation/MailboxThreadCompareToPinLaw", "order", "(II)I"⟩ : MethodName) method_6_code 2 (some .int) ws ({ frames := 0, cells := 0, slots := 0, locals := 0 } : Room) (({ frames := 0, cells := 0, slots := 0, locals := 0 } : Room)).cells (({ frames := 0, cells := 0, slots := 0, locals := 0 } : Room)).slots #[(.int xa), (.int xb)] h0 (Q_own_ordc Z xa xb h0 n0) := by
  refine own_enter (plainFor_of_name own_pn6) ?_
  intro p e s m below meth c s₁ X0 hx hZ hby hml hown hnm hlk hret e0
  have N0 := Fr.nil n0
  refine own_cast (own_ef_own_ordc m xa xb) ?_
  refine own_by (g' := (mkF m 2 #[iv xa, iv xb] [(.int xb), (.int xa)])) (fun t k => XS.iloadN X0.here hx rfl (hb hby own_d14_0) rfl (XS.iloadN X0.here hx rfl (hb hby own_d14_1) rfl k)) ?_
  by_cases hc101 : xa < xb
  ·
    refine own_by (g' := (mkF m 19 #[iv xa, iv xb] [(.int (-1 : Int32))])) (fun t k => XS.icmpNo X0.here hx rfl (hb hby own_d14_2) rfl (tlt hc101).2.1 (XS.iconst X0.here hx rfl (hb hby own_d14_5) (XS.goto X0.here hx rfl (pc0 := 6) (pc' := 19) rfl (hb hby own_d14_6) (by decide) (by decide) k))) ?_
    refine own_retI X0 hx hlk hret (hb hby own_d14_19) (by decide) (by decide) ?_
    exact ⟨(by simp [own_ord, hc101]), N0, e0⟩
  ·
    refine own_by (g' := (mkF m 11 #[iv xa, iv xb] [(.int xb), (.int xa)])) (fun t k => XS.icmpYes X0.here hx rfl (pc0 := 2) (pc' := 9) rfl (hb hby own_d14_2) rfl (flt hc101).2.1 (by decide) (by decide) (XS.iloadN X0.here hx rfl (hb hby own_d14_9) rfl (XS.iloadN X0.here hx rfl (hb hby own_d14_10) rfl k))) ?_
    by_cases hc102 : xb < xa
    ·
      refine own_by (g' := (mkF m 19 #[iv xa, iv xb] [(.int (1 : Int32))])) (fun t k => XS.icmpNo X0.here hx rfl (hb hby own_d14_11) rfl (tlt hc102).2.2.2 (XS.iconst X0.here hx rfl (hb hby own_d14_14) (XS.goto X0.here hx rfl (pc0 := 15) (pc' := 19) rfl (hb hby own_d14_15) (by decide) (by decide) k))) ?_
      refine own_retI X0 hx hlk hret (hb hby own_d14_19) (by decide) (by decide) ?_
      exact ⟨(by simp [own_ord, hc101, hc102]), N0, e0⟩
    ·
      refine own_by (g' := (mkF m 19 #[iv xa, iv xb] [(.int (0 : Int32))])) (fun t k => XS.icmpYes X0.here hx rfl (pc0 := 11) (pc' := 18) rfl (hb hby own_d14_11) rfl (flt hc102).2.2.2 (by decide) (by decide) (XS.iconst X0.here hx rfl (hb hby own_d14_18) k)) ?_
      refine own_retI X0 hx hlk hret (hb hby own_d14_19) (by decide) (by decide) ?_
      exact ⟨(by simp [own_ord, hc101, hc102]), N0, e0⟩
theorem own_d12_0 : decode method_7_code 0 = .ok (.iload_n 0, 1) := by decide +kernel
theorem own_d12_1 : decode method_7_code 1 = .ok (.iload_n 1, 1) := by decide +kernel
theorem own_d12_2 : decode method_7_code 2 = .ok (.iload_n 2, 1) := by decide +kernel
theorem own_d12_3 : decode method_7_code 3 = .ok (.iconst 0, 1) := by decide +kernel
theorem own_d12_4 : decode method_7_code 4 = .ok (.invokestatic 42, 3) := by decide +kernel
theorem own_pd16 : parseMethodDescriptor "(CCII)I" = some ⟨[.char, .char, .int, .int], some .int⟩ := by decide +kernel
theorem own_d12_7 : decode method_7_code 7 = .ok (.iload_n 3, 1) := by decide +kernel
theorem own_d12_8 : decode method_7_code 8 = .ok (.iload 4, 2) := by decide +kernel
theorem own_d12_10 : decode method_7_code 10 = .ok (.iload 5, 2) := by decide +kernel
theorem own_d12_12 : decode method_7_code 12 = .ok (.iconst 0, 1) := by decide +kernel
theorem own_d12_13 : decode method_7_code 13 = .ok (.invokestatic 42, 3) := by decide +kernel
theorem own_d12_16 : decode method_7_code 16 = .ok (.invokestatic 46, 3) := by decide +kernel
theorem own_pd17 : parseMethodDescriptor "(II)I" = some ⟨[.int, .int], some .int⟩ := by decide +kernel
theorem own_d12_19 : decode method_7_code 19 = .ok (.istore 6, 2) := by decide +kernel
theorem own_d12_21 : decode method_7_code 21 = .ok (.iload 6, 2) := by decide +kernel
theorem own_d12_23 : decode method_7_code 23 = .ok (.ifCond .eq 6, 3) := by decide +kernel
theorem own_d12_29 : decode method_7_code 29 = .ok (.iload_n 0, 1) := by decide +kernel
theorem own_d12_30 : decode method_7_code 30 = .ok (.iload_n 1, 1) := by decide +kernel
theorem own_d12_31 : decode method_7_code 31 = .ok (.iload_n 2, 1) := by decide +kernel
theorem own_d12_32 : decode method_7_code 32 = .ok (.iconst 1, 1) := by decide +kernel
theorem own_d12_33 : decode method_7_code 33 = .ok (.invokestatic 42, 3) := by decide +kernel
theorem own_d12_36 : decode method_7_code 36 = .ok (.iload_n 3, 1) := by decide +kernel
theorem own_d12_37 : decode method_7_code 37 = .ok (.iload 4, 2) := by decide +kernel
theorem own_d12_39 : decode method_7_code 39 = .ok (.iload 5, 2) := by decide +kernel
theorem own_d12_41 : decode method_7_code 41 = .ok (.iconst 1, 1) := by decide +kernel
theorem own_d12_42 : decode method_7_code 42 = .ok (.invokestatic 42, 3) := by decide +kernel
theorem own_d12_45 : decode method_7_code 45 = .ok (.invokestatic 46, 3) := by decide +kernel
theorem own_d12_48 : decode method_7_code 48 = .ok (.ireturn, 1) := by decide +kernel
theorem own_d12_26 : decode method_7_code 26 = .ok (.iload 6, 2) := by decide +kernel
theorem own_d12_28 : decode method_7_code 28 = .ok (.ireturn, 1) := by decide +kernel
def Q_own_refc (Z : State) (xa0 : Int32) (xa1 : Int32) (xla : Int32) (xb0 : Int32) (xb1 : Int32) (xlb : Int32) (h0 : Heap) (n0 : Nat) (v : Option Value) (h : Heap) (L : List Loc) : Prop := v = some (.int (own_rf xa0 xa1 xla xb0 xb1 xlb)) ∧ Fr n0 L ∧ h = h0
theorem own_ef_own_refc (m : MethodId) (xa0 : Int32) (xa1 : Int32) (xla : Int32) (xb0 : Int32) (xb1 : Int32) (xlb : Int32) : entryFrame m #[(.int xa0), (.int xa1), (.int xla), (.int xb0), (.int xb1), (.int xlb)] 7 = mkF m 0 #[iv xa0, iv xa1, iv xla, iv xb0, iv xb1, iv xlb, .unset] [] := by first | (simp [entryFrame, mkF, argsToLocals, Value.category]; done) | rfl
set_option maxRecDepth 65536 in
set_option maxHeartbeats 40000000 in
theorem own_refc (l : Launch) (Z : State) (a0 : Array Value) (hw : ∀ d ∈ tables_1, d.before a0 Z = true) (ws : List Jvm.Cond) (xa0 : Int32) (xa1 : Int32) (xla : Int32) (xb0 : Int32) (xb1 : Int32) (xlb : Int32) (h0 : Heap) (n0 : Nat) (Z0 : n0 ≤ h0.size)  :
    own_Ctr l Z (⟨"com/example/abakus/abakus/conversation/MailboxThreadCompareToPinLaw", "ref", "(CCICCI)I"⟩ : MethodName) method_7_code 7 (some .int) ws ({ frames := 2, cells := 0, slots := 0, locals := 28 } : Room) (({ frames := 2, cells := 0, slots := 0, locals := 28 } : Room)).cells (({ frames := 2, cells := 0, slots := 0, locals := 28 } : Room)).slots #[(.int xa0), (.int xa1), (.int xla), (.int xb0), (.int xb1), (.int xlb)] h0 (Q_own_refc Z xa0 xa1 xla xb0 xb1 xlb h0 n0) := by
  refine own_enter (plainFor_of_name own_pn6) ?_
  intro p e s m below meth c s₁ X0 hx hZ hby hml hown hnm hlk hret e0
  have N0 := Fr.nil n0
  refine own_cast (own_ef_own_refc m xa0 xa1 xla xb0 xb1 xlb) ?_
  refine own_by (g' := (mkF m 4 #[iv xa0, iv xa1, iv xla, iv xb0, iv xb1, iv xlb, .unset] [(.int (0 : Int32)), (.int xla), (.int xa1), (.int xa0)])) (fun t k => XS.iloadN X0.here hx rfl (hb hby own_d12_0) rfl (XS.iloadN X0.here hx rfl (hb hby own_d12_1) rfl (XS.iloadN X0.here hx rfl (hb hby own_d12_2) rfl (XS.iconst X0.here hx rfl (hb hby own_d12_3) k)))) ?_
  refine own_callS X0 hx hZ hown (hw _ (List.mem_of_getElem? (i := 69) rfl)) (hw _ (List.mem_of_getElem? (i := 70) rfl)) (hw _ (List.mem_of_getElem? (i := 6) rfl)) (hw _ (List.mem_of_getElem? (i := 71) rfl)) (by decide) (own_at0 l Z a0 hw [] (xa0) (xa1) (xla) h0 n0 Z0 ) 0 (by decide) (by decide) (by decide) (by decide) e0 (g := (mkF m 4 #[iv xa0, iv xa1, iv xla, iv xb0, iv xb1, iv xlb, .unset] [(.int (0 : Int32)), (.int xla), (.int xa1), (.int xa0)])) rfl (by rw [hml]; rfl) (argsL := [(.int xa0), (.int xa1), (.int xla), (.int (0 : Int32))]) (rest := []) (lenOf own_pd16 rfl) rfl (by show 2 * 0 + _ ≤ _; exact Nat.le_of_eq rfl) (hb hby own_d12_4) ?_
  intro v101 T101 L101 X101 q101
  obtain ⟨rfl, N101q, e101⟩ := q101
  have N101 := Fr.app N0 N101q
  show own_Goes p e below s _ _ _ T101 (mkF m 7 #[iv xa0, iv xa1, iv xla, iv xb0, iv xb1, iv xlb, .unset] [(.int (own_at (0 : Int32) xa0 xa1 xla))])
  refine own_by (g' := (mkF m 13 #[iv xa0, iv xa1, iv xla, iv xb0, iv xb1, iv xlb, .unset] [(.int (0 : Int32)), (.int xlb), (.int xb1), (.int xb0), (.int (own_at (0 : Int32) xa0 xa1 xla))])) (fun t k => XS.iloadN X101.here hx rfl (hb hby own_d12_7) rfl (XS.iload X101.here hx rfl (hb hby own_d12_8) rfl (XS.iload X101.here hx rfl (hb hby own_d12_10) rfl (XS.iconst X101.here hx rfl (hb hby own_d12_12) k)))) ?_
  refine own_callS X101 hx hZ hown (hw _ (List.mem_of_getElem? (i := 69) rfl)) (hw _ (List.mem_of_getElem? (i := 70) rfl)) (hw _ (List.mem_of_getElem? (i := 6) rfl)) (hw _ (List.mem_of_getElem? (i := 71) rfl)) (by decide) (own_at0 l Z a0 hw [] (xb0) (xb1) (xlb) h0 n0 Z0 ) 1 (by decide) (by decide) (by decide) (by decide) e101 (g := (mkF m 13 #[iv xa0, iv xa1, iv xla, iv xb0, iv xb1, iv xlb, .unset] [(.int (0 : Int32)), (.int xlb), (.int xb1), (.int xb0), (.int (own_at (0 : Int32) xa0 xa1 xla))])) rfl (by rw [hml]; rfl) (argsL := [(.int xb0), (.int xb1), (.int xlb), (.int (0 : Int32))]) (rest := [(.int (own_at (0 : Int32) xa0 xa1 xla))]) (lenOf own_pd16 rfl) rfl (by show 2 * 0 + _ ≤ _; exact Nat.le_of_eq rfl) (hb hby own_d12_13) ?_
  intro v102 T102 L102 X102 q102
  obtain ⟨rfl, N102q, e102⟩ := q102
  have N102 := Fr.app N101 N102q
  show own_Goes p e below s _ _ _ T102 (mkF m 16 #[iv xa0, iv xa1, iv xla, iv xb0, iv xb1, iv xlb, .unset] [(.int (own_at (0 : Int32) xb0 xb1 xlb)), (.int (own_at (0 : Int32) xa0 xa1 xla))])
  refine own_callS X102 hx hZ hown (hw _ (List.mem_of_getElem? (i := 72) rfl)) (hw _ (List.mem_of_getElem? (i := 73) rfl)) (hw _ (List.mem_of_getElem? (i := 6) rfl)) (hw _ (List.mem_of_getElem? (i := 74) rfl)) (by decide) (own_ordc l Z a0 hw [] ((own_at (0 : Int32) xa0 xa1 xla)) ((own_at (0 : Int32) xb0 xb1 xlb)) h0 n0 Z0 ) 0 (by decide) (by decide) (by decide) (by decide) e102 (g := (mkF m 16 #[iv xa0, iv xa1, iv xla, iv xb0, iv xb1, iv xlb, .unset] [(.int (own_at (0 : Int32) xb0 xb1 xlb)), (.int (own_at (0 : Int32) xa0 xa1 xla))])) rfl (by rw [hml]; rfl) (argsL := [(.int (own_at (0 : Int32) xa0 xa1 xla)), (.int (own_at (0 : Int32) xb0 xb1 xlb))]) (rest := []) (lenOf own_pd17 rfl) rfl (by show 2 * 0 + _ ≤ _; exact Nat.le_of_eq rfl) (hb hby own_d12_16) ?_
  intro v103 T103 L103 X103 q103
  obtain ⟨rfl, N103q, e103⟩ := q103
  have N103 := Fr.app N102 N103q
  show own_Goes p e below s _ _ _ T103 (mkF m 19 #[iv xa0, iv xa1, iv xla, iv xb0, iv xb1, iv xlb, .unset] [(.int (own_ord (own_at (0 : Int32) xa0 xa1 xla) (own_at (0 : Int32) xb0 xb1 xlb)))])
  refine own_by (g' := (mkF m 23 #[iv xa0, iv xa1, iv xla, iv xb0, iv xb1, iv xlb, iv (own_ord (own_at (0 : Int32) xa0 xa1 xla) (own_at (0 : Int32) xb0 xb1 xlb))] [(.int (own_ord (own_at (0 : Int32) xa0 xa1 xla) (own_at (0 : Int32) xb0 xb1 xlb)))])) (fun t k => XS.istore X103.here hx rfl (hb hby own_d12_19) rfl (l' := #[iv xa0, iv xa1, iv xla, iv xb0, iv xb1, iv xlb, iv (own_ord (own_at (0 : Int32) xa0 xa1 xla) (own_at (0 : Int32) xb0 xb1 xlb))]) rfl (XS.iload X103.here hx rfl (hb hby own_d12_21) rfl k)) ?_
  by_cases hc104 : (own_ord (own_at (0 : Int32) xa0 xa1 xla) (own_at (0 : Int32) xb0 xb1 xlb)) = (0 : Int32)
  ·
    refine own_by (g' := (mkF m 33 #[iv xa0, iv xa1, iv xla, iv xb0, iv xb1, iv xlb, iv (own_ord (own_at (0 : Int32) xa0 xa1 xla) (own_at (0 : Int32) xb0 xb1 xlb))] [(.int (1 : Int32)), (.int xla), (.int xa1), (.int xa0)])) (fun t k => XS.ifYes X103.here hx rfl (pc0 := 23) (pc' := 29) rfl (hb hby own_d12_23) rfl ((if0 _ _).trans (teq hc104).1) (by decide) (by decide) (XS.iloadN X103.here hx rfl (hb hby own_d12_29) rfl (XS.iloadN X103.here hx rfl (hb hby own_d12_30) rfl (XS.iloadN X103.here hx rfl (hb hby own_d12_31) rfl (XS.iconst X103.here hx rfl (hb hby own_d12_32) k))))) ?_
    refine own_callS X103 hx hZ hown (hw _ (List.mem_of_getElem? (i := 69) rfl)) (hw _ (List.mem_of_getElem? (i := 70) rfl)) (hw _ (List.mem_of_getElem? (i := 6) rfl)) (hw _ (List.mem_of_getElem? (i := 71) rfl)) (by decide) (own_at1 l Z a0 hw [] (xa0) (xa1) (xla) h0 n0 Z0 ) 0 (by decide) (by decide) (by decide) (by decide) e103 (g := (mkF m 33 #[iv xa0, iv xa1, iv xla, iv xb0, iv xb1, iv xlb, iv (own_ord (own_at (0 : Int32) xa0 xa1 xla) (own_at (0 : Int32) xb0 xb1 xlb))] [(.int (1 : Int32)), (.int xla), (.int xa1), (.int xa0)])) rfl (by rw [hml]; rfl) (argsL := [(.int xa0), (.int xa1), (.int xla), (.int (1 : Int32))]) (rest := []) (lenOf own_pd16 rfl) rfl (by show 2 * 0 + _ ≤ _; exact Nat.le_of_eq rfl) (hb hby own_d12_33) ?_
    intro v105 T105 L105 X105 q105
    obtain ⟨rfl, N105q, e105⟩ := q105
    have N105 := Fr.app N103 N105q
    show own_Goes p e below s _ _ _ T105 (mkF m 36 #[iv xa0, iv xa1, iv xla, iv xb0, iv xb1, iv xlb, iv (own_ord (own_at (0 : Int32) xa0 xa1 xla) (own_at (0 : Int32) xb0 xb1 xlb))] [(.int (own_at (1 : Int32) xa0 xa1 xla))])
    refine own_by (g' := (mkF m 42 #[iv xa0, iv xa1, iv xla, iv xb0, iv xb1, iv xlb, iv (own_ord (own_at (0 : Int32) xa0 xa1 xla) (own_at (0 : Int32) xb0 xb1 xlb))] [(.int (1 : Int32)), (.int xlb), (.int xb1), (.int xb0), (.int (own_at (1 : Int32) xa0 xa1 xla))])) (fun t k => XS.iloadN X105.here hx rfl (hb hby own_d12_36) rfl (XS.iload X105.here hx rfl (hb hby own_d12_37) rfl (XS.iload X105.here hx rfl (hb hby own_d12_39) rfl (XS.iconst X105.here hx rfl (hb hby own_d12_41) k)))) ?_
    refine own_callS X105 hx hZ hown (hw _ (List.mem_of_getElem? (i := 69) rfl)) (hw _ (List.mem_of_getElem? (i := 70) rfl)) (hw _ (List.mem_of_getElem? (i := 6) rfl)) (hw _ (List.mem_of_getElem? (i := 71) rfl)) (by decide) (own_at1 l Z a0 hw [] (xb0) (xb1) (xlb) h0 n0 Z0 ) 1 (by decide) (by decide) (by decide) (by decide) e105 (g := (mkF m 42 #[iv xa0, iv xa1, iv xla, iv xb0, iv xb1, iv xlb, iv (own_ord (own_at (0 : Int32) xa0 xa1 xla) (own_at (0 : Int32) xb0 xb1 xlb))] [(.int (1 : Int32)), (.int xlb), (.int xb1), (.int xb0), (.int (own_at (1 : Int32) xa0 xa1 xla))])) rfl (by rw [hml]; rfl) (argsL := [(.int xb0), (.int xb1), (.int xlb), (.int (1 : Int32))]) (rest := [(.int (own_at (1 : Int32) xa0 xa1 xla))]) (lenOf own_pd16 rfl) rfl (by show 2 * 0 + _ ≤ _; exact Nat.le_of_eq rfl) (hb hby own_d12_42) ?_
    intro v106 T106 L106 X106 q106
    obtain ⟨rfl, N106q, e106⟩ := q106
    have N106 := Fr.app N105 N106q
    show own_Goes p e below s _ _ _ T106 (mkF m 45 #[iv xa0, iv xa1, iv xla, iv xb0, iv xb1, iv xlb, iv (own_ord (own_at (0 : Int32) xa0 xa1 xla) (own_at (0 : Int32) xb0 xb1 xlb))] [(.int (own_at (1 : Int32) xb0 xb1 xlb)), (.int (own_at (1 : Int32) xa0 xa1 xla))])
    refine own_callS X106 hx hZ hown (hw _ (List.mem_of_getElem? (i := 72) rfl)) (hw _ (List.mem_of_getElem? (i := 73) rfl)) (hw _ (List.mem_of_getElem? (i := 6) rfl)) (hw _ (List.mem_of_getElem? (i := 74) rfl)) (by decide) (own_ordc l Z a0 hw [] ((own_at (1 : Int32) xa0 xa1 xla)) ((own_at (1 : Int32) xb0 xb1 xlb)) h0 n0 Z0 ) 0 (by decide) (by decide) (by decide) (by decide) e106 (g := (mkF m 45 #[iv xa0, iv xa1, iv xla, iv xb0, iv xb1, iv xlb, iv (own_ord (own_at (0 : Int32) xa0 xa1 xla) (own_at (0 : Int32) xb0 xb1 xlb))] [(.int (own_at (1 : Int32) xb0 xb1 xlb)), (.int (own_at (1 : Int32) xa0 xa1 xla))])) rfl (by rw [hml]; rfl) (argsL := [(.int (own_at (1 : Int32) xa0 xa1 xla)), (.int (own_at (1 : Int32) xb0 xb1 xlb))]) (rest := []) (lenOf own_pd17 rfl) rfl (by show 2 * 0 + _ ≤ _; exact Nat.le_of_eq rfl) (hb hby own_d12_45) ?_
    intro v107 T107 L107 X107 q107
    obtain ⟨rfl, N107q, e107⟩ := q107
    have N107 := Fr.app N106 N107q
    show own_Goes p e below s _ _ _ T107 (mkF m 48 #[iv xa0, iv xa1, iv xla, iv xb0, iv xb1, iv xlb, iv (own_ord (own_at (0 : Int32) xa0 xa1 xla) (own_at (0 : Int32) xb0 xb1 xlb))] [(.int (own_ord (own_at (1 : Int32) xa0 xa1 xla) (own_at (1 : Int32) xb0 xb1 xlb)))])
    refine own_retI X107 hx hlk hret (hb hby own_d12_48) (by decide) (by decide) ?_
    exact ⟨(by simp [own_rf, hc104]), N107, e107⟩
  ·
    refine own_by (g' := (mkF m 28 #[iv xa0, iv xa1, iv xla, iv xb0, iv xb1, iv xlb, iv (own_ord (own_at (0 : Int32) xa0 xa1 xla) (own_at (0 : Int32) xb0 xb1 xlb))] [(.int (own_ord (own_at (0 : Int32) xa0 xa1 xla) (own_at (0 : Int32) xb0 xb1 xlb)))])) (fun t k => XS.ifNo X103.here hx rfl (hb hby own_d12_23) rfl ((if0 _ _).trans (feq hc104).1) (XS.iload X103.here hx rfl (hb hby own_d12_26) rfl k)) ?_
    refine own_retI X103 hx hlk hret (hb hby own_d12_28) (by decide) (by decide) ?_
    exact ⟨(by simp [own_rf, hc104]), N103, e103⟩
theorem own_d15_0 : decode method_8_code 0 = .ok (.iload_n 0, 1) := by decide +kernel
theorem own_d15_1 : decode method_8_code 1 = .ok (.ifCond .ge 7, 3) := by decide +kernel
theorem own_d15_4 : decode method_8_code 4 = .ok (.iconst (-1), 1) := by decide +kernel
theorem own_d15_5 : decode method_8_code 5 = .ok (.goto 12, 3) := by decide +kernel
theorem own_d15_17 : decode method_8_code 17 = .ok (.ireturn, 1) := by decide +kernel
theorem own_d15_8 : decode method_8_code 8 = .ok (.iload_n 0, 1) := by decide +kernel
theorem own_d15_9 : decode method_8_code 9 = .ok (.ifCond .le 7, 3) := by decide +kernel
theorem own_d15_12 : decode method_8_code 12 = .ok (.iconst 1, 1) := by decide +kernel
theorem own_d15_13 : decode method_8_code 13 = .ok (.goto 4, 3) := by decide +kernel
theorem own_d15_16 : decode method_8_code 16 = .ok (.iconst 0, 1) := by decide +kernel
def Q_own_sgnc (Z : State) (xv : Int32) (h0 : Heap) (n0 : Nat) (v : Option Value) (h : Heap) (L : List Loc) : Prop := v = some (.int (own_sgn xv)) ∧ Fr n0 L ∧ h = h0
theorem own_ef_own_sgnc (m : MethodId) (xv : Int32) : entryFrame m #[(.int xv)] 1 = mkF m 0 #[iv xv] [] := by first | (simp [entryFrame, mkF, argsToLocals, Value.category]; done) | rfl
set_option maxRecDepth 65536 in
set_option maxHeartbeats 40000000 in
theorem own_sgnc (l : Launch) (Z : State) (a0 : Array Value) (hw : ∀ d ∈ tables_1, d.before a0 Z = true) (ws : List Jvm.Cond) (xv : Int32) (h0 : Heap) (n0 : Nat) (Z0 : n0 ≤ h0.size)  :
    own_Ctr l Z (⟨"com/example/abakus/abakus/conversation/MailboxThreadCompareToPinLaw", "sgn", "(I)I"⟩ : MethodName) method_8_code 1 (some .int) ws ({ frames := 0, cells := 0, slots := 0, locals := 0 } : Room) (({ frames := 0, cells := 0, slots := 0, locals := 0 } : Room)).cells (({ frames := 0, cells := 0, slots := 0, locals := 0 } : Room)).slots #[(.int xv)] h0 (Q_own_sgnc Z xv h0 n0) := by
  refine own_enter (plainFor_of_name own_pn6) ?_
  intro p e s m below meth c s₁ X0 hx hZ hby hml hown hnm hlk hret e0
  have N0 := Fr.nil n0
  refine own_cast (own_ef_own_sgnc m xv) ?_
  refine own_by (g' := (mkF m 1 #[iv xv] [(.int xv)])) (fun t k => XS.iloadN X0.here hx rfl (hb hby own_d15_0) rfl k) ?_
  by_cases hc101 : xv < (0 : Int32)
  ·
    refine own_by (g' := (mkF m 17 #[iv xv] [(.int (-1 : Int32))])) (fun t k => XS.ifNo X0.here hx rfl (hb hby own_d15_1) rfl ((if0 _ _).trans (tlt hc101).2.1) (XS.iconst X0.here hx rfl (hb hby own_d15_4) (XS.goto X0.here hx rfl (pc0 := 5) (pc' := 17) rfl (hb hby own_d15_5) (by decide) (by decide) k))) ?_
    refine own_retI X0 hx hlk hret (hb hby own_d15_17) (by decide) (by decide) ?_
    exact ⟨(by simp [own_sgn, hc101]), N0, e0⟩
  ·
    refine own_by (g' := (mkF m 9 #[iv xv] [(.int xv)])) (fun t k => XS.ifYes X0.here hx rfl (pc0 := 1) (pc' := 8) rfl (hb hby own_d15_1) rfl ((if0 _ _).trans (flt hc101).2.1) (by decide) (by decide) (XS.iloadN X0.here hx rfl (hb hby own_d15_8) rfl k)) ?_
    by_cases hc102 : (0 : Int32) < xv
    ·
      refine own_by (g' := (mkF m 17 #[iv xv] [(.int (1 : Int32))])) (fun t k => XS.ifNo X0.here hx rfl (hb hby own_d15_9) rfl ((if0 _ _).trans (tlt hc102).2.2.2) (XS.iconst X0.here hx rfl (hb hby own_d15_12) (XS.goto X0.here hx rfl (pc0 := 13) (pc' := 17) rfl (hb hby own_d15_13) (by decide) (by decide) k))) ?_
      refine own_retI X0 hx hlk hret (hb hby own_d15_17) (by decide) (by decide) ?_
      exact ⟨(by simp [own_sgn, hc101, hc102]), N0, e0⟩
    ·
      refine own_by (g' := (mkF m 17 #[iv xv] [(.int (0 : Int32))])) (fun t k => XS.ifYes X0.here hx rfl (pc0 := 9) (pc' := 16) rfl (hb hby own_d15_9) rfl ((if0 _ _).trans (flt hc102).2.2.2) (by decide) (by decide) (XS.iconst X0.here hx rfl (hb hby own_d15_16) k)) ?_
      refine own_retI X0 hx hlk hret (hb hby own_d15_17) (by decide) (by decide) ?_
      exact ⟨(by simp [own_sgn, hc101, hc102]), N0, e0⟩
theorem own_d11_0 : decode jdk_29_method_69_code 0 = .ok (.iload_n 0, 1) := by decide +kernel
theorem own_d11_1 : decode jdk_29_method_69_code 1 = .ok (.iload_n 1, 1) := by decide +kernel
theorem own_d11_2 : decode jdk_29_method_69_code 2 = .ok (.if_icmp .gt 7, 3) := by decide +kernel
theorem own_d11_5 : decode jdk_29_method_69_code 5 = .ok (.iload_n 0, 1) := by decide +kernel
theorem own_d11_6 : decode jdk_29_method_69_code 6 = .ok (.goto 4, 3) := by decide +kernel
theorem own_d11_10 : decode jdk_29_method_69_code 10 = .ok (.ireturn, 1) := by decide +kernel
def Q_own_min00 (Z : State)  (h0 : Heap) (n0 : Nat) (v : Option Value) (h : Heap) (L : List Loc) : Prop := v = some (.int (0 : Int32)) ∧ Fr n0 L ∧ h = h0
theorem own_ef_own_min00 (m : MethodId)  : entryFrame m #[(.int (0 : Int32)), (.int (0 : Int32))] 2 = mkF m 0 #[iv (0 : Int32), iv (0 : Int32)] [] := by first | (simp [entryFrame, mkF, argsToLocals, Value.category]; done) | rfl
set_option maxRecDepth 65536 in
set_option maxHeartbeats 40000000 in
theorem own_min00 (l : Launch) (Z : State) (a0 : Array Value) (hw : ∀ d ∈ tables_1, d.before a0 Z = true) (ws : List Jvm.Cond)  (h0 : Heap) (n0 : Nat) (Z0 : n0 ≤ h0.size)  :
    own_Ctr l Z (⟨"java/lang/Math", "min", "(II)I"⟩ : MethodName) jdk_29_method_69_code 2 (some .int) ws ({ frames := 0, cells := 0, slots := 0, locals := 0 } : Room) (({ frames := 0, cells := 0, slots := 0, locals := 0 } : Room)).cells (({ frames := 0, cells := 0, slots := 0, locals := 0 } : Room)).slots #[(.int (0 : Int32)), (.int (0 : Int32))] h0 (Q_own_min00 Z  h0 n0) := by
  refine own_enter (Jvm.Free.JP.mathPlain rfl (by decide +kernel)) ?_
  intro p e s m below meth c s₁ X0 hx hZ hby hml hown hnm hlk hret e0
  have N0 := Fr.nil n0
  refine own_cast (own_ef_own_min00 m ) ?_
  refine own_by (g' := (mkF m 10 #[iv (0 : Int32), iv (0 : Int32)] [(.int (0 : Int32))])) (fun t k => XS.iloadN X0.here hx rfl (hb hby own_d11_0) rfl (XS.iloadN X0.here hx rfl (hb hby own_d11_1) rfl (XS.icmpNo X0.here hx rfl (hb hby own_d11_2) rfl (flt (by decide : ¬ ((0 : Int32) < (0 : Int32)))).2.2.1 (XS.iloadN X0.here hx rfl (hb hby own_d11_5) rfl (XS.goto X0.here hx rfl (pc0 := 6) (pc' := 10) rfl (hb hby own_d11_6) (by decide) (by decide) k))))) ?_
  refine own_retI X0 hx hlk hret (hb hby own_d11_10) (by decide) (by decide) ?_
  exact ⟨rfl, N0, e0⟩
def Q_own_min01 (Z : State)  (h0 : Heap) (n0 : Nat) (v : Option Value) (h : Heap) (L : List Loc) : Prop := v = some (.int (0 : Int32)) ∧ Fr n0 L ∧ h = h0
theorem own_ef_own_min01 (m : MethodId)  : entryFrame m #[(.int (0 : Int32)), (.int (1 : Int32))] 2 = mkF m 0 #[iv (0 : Int32), iv (1 : Int32)] [] := by first | (simp [entryFrame, mkF, argsToLocals, Value.category]; done) | rfl
set_option maxRecDepth 65536 in
set_option maxHeartbeats 40000000 in
theorem own_min01 (l : Launch) (Z : State) (a0 : Array Value) (hw : ∀ d ∈ tables_1, d.before a0 Z = true) (ws : List Jvm.Cond)  (h0 : Heap) (n0 : Nat) (Z0 : n0 ≤ h0.size)  :
    own_Ctr l Z (⟨"java/lang/Math", "min", "(II)I"⟩ : MethodName) jdk_29_method_69_code 2 (some .int) ws ({ frames := 0, cells := 0, slots := 0, locals := 0 } : Room) (({ frames := 0, cells := 0, slots := 0, locals := 0 } : Room)).cells (({ frames := 0, cells := 0, slots := 0, locals := 0 } : Room)).slots #[(.int (0 : Int32)), (.int (1 : Int32))] h0 (Q_own_min01 Z  h0 n0) := by
  refine own_enter (Jvm.Free.JP.mathPlain rfl (by decide +kernel)) ?_
  intro p e s m below meth c s₁ X0 hx hZ hby hml hown hnm hlk hret e0
  have N0 := Fr.nil n0
  refine own_cast (own_ef_own_min01 m ) ?_
  refine own_by (g' := (mkF m 10 #[iv (0 : Int32), iv (1 : Int32)] [(.int (0 : Int32))])) (fun t k => XS.iloadN X0.here hx rfl (hb hby own_d11_0) rfl (XS.iloadN X0.here hx rfl (hb hby own_d11_1) rfl (XS.icmpNo X0.here hx rfl (hb hby own_d11_2) rfl (flt (by decide : ¬ ((1 : Int32) < (0 : Int32)))).2.2.1 (XS.iloadN X0.here hx rfl (hb hby own_d11_5) rfl (XS.goto X0.here hx rfl (pc0 := 6) (pc' := 10) rfl (hb hby own_d11_6) (by decide) (by decide) k))))) ?_
  refine own_retI X0 hx hlk hret (hb hby own_d11_10) (by decide) (by decide) ?_
  exact ⟨rfl, N0, e0⟩
def Q_own_min02 (Z : State)  (h0 : Heap) (n0 : Nat) (v : Option Value) (h : Heap) (L : List Loc) : Prop := v = some (.int (0 : Int32)) ∧ Fr n0 L ∧ h = h0
theorem own_ef_own_min02 (m : MethodId)  : entryFrame m #[(.int (0 : Int32)), (.int (2 : Int32))] 2 = mkF m 0 #[iv (0 : Int32), iv (2 : Int32)] [] := by first | (simp [entryFrame, mkF, argsToLocals, Value.category]; done) | rfl
set_option maxRecDepth 65536 in
set_option maxHeartbeats 40000000 in
theorem own_min02 (l : Launch) (Z : State) (a0 : Array Value) (hw : ∀ d ∈ tables_1, d.before a0 Z = true) (ws : List Jvm.Cond)  (h0 : Heap) (n0 : Nat) (Z0 : n0 ≤ h0.size)  :
    own_Ctr l Z (⟨"java/lang/Math", "min", "(II)I"⟩ : MethodName) jdk_29_method_69_code 2 (some .int) ws ({ frames := 0, cells := 0, slots := 0, locals := 0 } : Room) (({ frames := 0, cells := 0, slots := 0, locals := 0 } : Room)).cells (({ frames := 0, cells := 0, slots := 0, locals := 0 } : Room)).slots #[(.int (0 : Int32)), (.int (2 : Int32))] h0 (Q_own_min02 Z  h0 n0) := by
  refine own_enter (Jvm.Free.JP.mathPlain rfl (by decide +kernel)) ?_
  intro p e s m below meth c s₁ X0 hx hZ hby hml hown hnm hlk hret e0
  have N0 := Fr.nil n0
  refine own_cast (own_ef_own_min02 m ) ?_
  refine own_by (g' := (mkF m 10 #[iv (0 : Int32), iv (2 : Int32)] [(.int (0 : Int32))])) (fun t k => XS.iloadN X0.here hx rfl (hb hby own_d11_0) rfl (XS.iloadN X0.here hx rfl (hb hby own_d11_1) rfl (XS.icmpNo X0.here hx rfl (hb hby own_d11_2) rfl (flt (by decide : ¬ ((2 : Int32) < (0 : Int32)))).2.2.1 (XS.iloadN X0.here hx rfl (hb hby own_d11_5) rfl (XS.goto X0.here hx rfl (pc0 := 6) (pc' := 10) rfl (hb hby own_d11_6) (by decide) (by decide) k))))) ?_
  refine own_retI X0 hx hlk hret (hb hby own_d11_10) (by decide) (by decide) ?_
  exact ⟨rfl, N0, e0⟩
theorem own_d11_9 : decode jdk_29_method_69_code 9 = .ok (.iload_n 1, 1) := by decide +kernel
def Q_own_min10 (Z : State)  (h0 : Heap) (n0 : Nat) (v : Option Value) (h : Heap) (L : List Loc) : Prop := v = some (.int (0 : Int32)) ∧ Fr n0 L ∧ h = h0
theorem own_ef_own_min10 (m : MethodId)  : entryFrame m #[(.int (1 : Int32)), (.int (0 : Int32))] 2 = mkF m 0 #[iv (1 : Int32), iv (0 : Int32)] [] := by first | (simp [entryFrame, mkF, argsToLocals, Value.category]; done) | rfl
set_option maxRecDepth 65536 in
set_option maxHeartbeats 40000000 in
theorem own_min10 (l : Launch) (Z : State) (a0 : Array Value) (hw : ∀ d ∈ tables_1, d.before a0 Z = true) (ws : List Jvm.Cond)  (h0 : Heap) (n0 : Nat) (Z0 : n0 ≤ h0.size)  :
    own_Ctr l Z (⟨"java/lang/Math", "min", "(II)I"⟩ : MethodName) jdk_29_method_69_code 2 (some .int) ws ({ frames := 0, cells := 0, slots := 0, locals := 0 } : Room) (({ frames := 0, cells := 0, slots := 0, locals := 0 } : Room)).cells (({ frames := 0, cells := 0, slots := 0, locals := 0 } : Room)).slots #[(.int (1 : Int32)), (.int (0 : Int32))] h0 (Q_own_min10 Z  h0 n0) := by
  refine own_enter (Jvm.Free.JP.mathPlain rfl (by decide +kernel)) ?_
  intro p e s m below meth c s₁ X0 hx hZ hby hml hown hnm hlk hret e0
  have N0 := Fr.nil n0
  refine own_cast (own_ef_own_min10 m ) ?_
  refine own_by (g' := (mkF m 10 #[iv (1 : Int32), iv (0 : Int32)] [(.int (0 : Int32))])) (fun t k => XS.iloadN X0.here hx rfl (hb hby own_d11_0) rfl (XS.iloadN X0.here hx rfl (hb hby own_d11_1) rfl (XS.icmpYes X0.here hx rfl (pc0 := 2) (pc' := 9) rfl (hb hby own_d11_2) rfl (tlt (by decide : (0 : Int32) < (1 : Int32))).2.2.1 (by decide) (by decide) (XS.iloadN X0.here hx rfl (hb hby own_d11_9) rfl k)))) ?_
  refine own_retI X0 hx hlk hret (hb hby own_d11_10) (by decide) (by decide) ?_
  exact ⟨rfl, N0, e0⟩
def Q_own_min11 (Z : State)  (h0 : Heap) (n0 : Nat) (v : Option Value) (h : Heap) (L : List Loc) : Prop := v = some (.int (1 : Int32)) ∧ Fr n0 L ∧ h = h0
theorem own_ef_own_min11 (m : MethodId)  : entryFrame m #[(.int (1 : Int32)), (.int (1 : Int32))] 2 = mkF m 0 #[iv (1 : Int32), iv (1 : Int32)] [] := by first | (simp [entryFrame, mkF, argsToLocals, Value.category]; done) | rfl
set_option maxRecDepth 65536 in
set_option maxHeartbeats 40000000 in
theorem own_min11 (l : Launch) (Z : State) (a0 : Array Value) (hw : ∀ d ∈ tables_1, d.before a0 Z = true) (ws : List Jvm.Cond)  (h0 : Heap) (n0 : Nat) (Z0 : n0 ≤ h0.size)  :
    own_Ctr l Z (⟨"java/lang/Math", "min", "(II)I"⟩ : MethodName) jdk_29_method_69_code 2 (some .int) ws ({ frames := 0, cells := 0, slots := 0, locals := 0 } : Room) (({ frames := 0, cells := 0, slots := 0, locals := 0 } : Room)).cells (({ frames := 0, cells := 0, slots := 0, locals := 0 } : Room)).slots #[(.int (1 : Int32)), (.int (1 : Int32))] h0 (Q_own_min11 Z  h0 n0) := by
  refine own_enter (Jvm.Free.JP.mathPlain rfl (by decide +kernel)) ?_
  intro p e s m below meth c s₁ X0 hx hZ hby hml hown hnm hlk hret e0
  have N0 := Fr.nil n0
  refine own_cast (own_ef_own_min11 m ) ?_
  refine own_by (g' := (mkF m 10 #[iv (1 : Int32), iv (1 : Int32)] [(.int (1 : Int32))])) (fun t k => XS.iloadN X0.here hx rfl (hb hby own_d11_0) rfl (XS.iloadN X0.here hx rfl (hb hby own_d11_1) rfl (XS.icmpNo X0.here hx rfl (hb hby own_d11_2) rfl (flt (by decide : ¬ ((1 : Int32) < (1 : Int32)))).2.2.1 (XS.iloadN X0.here hx rfl (hb hby own_d11_5) rfl (XS.goto X0.here hx rfl (pc0 := 6) (pc' := 10) rfl (hb hby own_d11_6) (by decide) (by decide) k))))) ?_
  refine own_retI X0 hx hlk hret (hb hby own_d11_10) (by decide) (by decide) ?_
  exact ⟨rfl, N0, e0⟩
def Q_own_min12 (Z : State)  (h0 : Heap) (n0 : Nat) (v : Option Value) (h : Heap) (L : List Loc) : Prop := v = some (.int (1 : Int32)) ∧ Fr n0 L ∧ h = h0
theorem own_ef_own_min12 (m : MethodId)  : entryFrame m #[(.int (1 : Int32)), (.int (2 : Int32))] 2 = mkF m 0 #[iv (1 : Int32), iv (2 : Int32)] [] := by first | (simp [entryFrame, mkF, argsToLocals, Value.category]; done) | rfl
set_option maxRecDepth 65536 in
set_option maxHeartbeats 40000000 in
theorem own_min12 (l : Launch) (Z : State) (a0 : Array Value) (hw : ∀ d ∈ tables_1, d.before a0 Z = true) (ws : List Jvm.Cond)  (h0 : Heap) (n0 : Nat) (Z0 : n0 ≤ h0.size)  :
    own_Ctr l Z (⟨"java/lang/Math", "min", "(II)I"⟩ : MethodName) jdk_29_method_69_code 2 (some .int) ws ({ frames := 0, cells := 0, slots := 0, locals := 0 } : Room) (({ frames := 0, cells := 0, slots := 0, locals := 0 } : Room)).cells (({ frames := 0, cells := 0, slots := 0, locals := 0 } : Room)).slots #[(.int (1 : Int32)), (.int (2 : Int32))] h0 (Q_own_min12 Z  h0 n0) := by
  refine own_enter (Jvm.Free.JP.mathPlain rfl (by decide +kernel)) ?_
  intro p e s m below meth c s₁ X0 hx hZ hby hml hown hnm hlk hret e0
  have N0 := Fr.nil n0
  refine own_cast (own_ef_own_min12 m ) ?_
  refine own_by (g' := (mkF m 10 #[iv (1 : Int32), iv (2 : Int32)] [(.int (1 : Int32))])) (fun t k => XS.iloadN X0.here hx rfl (hb hby own_d11_0) rfl (XS.iloadN X0.here hx rfl (hb hby own_d11_1) rfl (XS.icmpNo X0.here hx rfl (hb hby own_d11_2) rfl (flt (by decide : ¬ ((2 : Int32) < (1 : Int32)))).2.2.1 (XS.iloadN X0.here hx rfl (hb hby own_d11_5) rfl (XS.goto X0.here hx rfl (pc0 := 6) (pc' := 10) rfl (hb hby own_d11_6) (by decide) (by decide) k))))) ?_
  refine own_retI X0 hx hlk hret (hb hby own_d11_10) (by decide) (by decide) ?_
  exact ⟨rfl, N0, e0⟩
def Q_own_min20 (Z : State)  (h0 : Heap) (n0 : Nat) (v : Option Value) (h : Heap) (L : List Loc) : Prop := v = some (.int (0 : Int32)) ∧ Fr n0 L ∧ h = h0
theorem own_ef_own_min20 (m : MethodId)  : entryFrame m #[(.int (2 : Int32)), (.int (0 : Int32))] 2 = mkF m 0 #[iv (2 : Int32), iv (0 : Int32)] [] := by first | (simp [entryFrame, mkF, argsToLocals, Value.category]; done) | rfl
set_option maxRecDepth 65536 in
set_option maxHeartbeats 40000000 in
theorem own_min20 (l : Launch) (Z : State) (a0 : Array Value) (hw : ∀ d ∈ tables_1, d.before a0 Z = true) (ws : List Jvm.Cond)  (h0 : Heap) (n0 : Nat) (Z0 : n0 ≤ h0.size)  :
    own_Ctr l Z (⟨"java/lang/Math", "min", "(II)I"⟩ : MethodName) jdk_29_method_69_code 2 (some .int) ws ({ frames := 0, cells := 0, slots := 0, locals := 0 } : Room) (({ frames := 0, cells := 0, slots := 0, locals := 0 } : Room)).cells (({ frames := 0, cells := 0, slots := 0, locals := 0 } : Room)).slots #[(.int (2 : Int32)), (.int (0 : Int32))] h0 (Q_own_min20 Z  h0 n0) := by
  refine own_enter (Jvm.Free.JP.mathPlain rfl (by decide +kernel)) ?_
  intro p e s m below meth c s₁ X0 hx hZ hby hml hown hnm hlk hret e0
  have N0 := Fr.nil n0
  refine own_cast (own_ef_own_min20 m ) ?_
  refine own_by (g' := (mkF m 10 #[iv (2 : Int32), iv (0 : Int32)] [(.int (0 : Int32))])) (fun t k => XS.iloadN X0.here hx rfl (hb hby own_d11_0) rfl (XS.iloadN X0.here hx rfl (hb hby own_d11_1) rfl (XS.icmpYes X0.here hx rfl (pc0 := 2) (pc' := 9) rfl (hb hby own_d11_2) rfl (tlt (by decide : (0 : Int32) < (2 : Int32))).2.2.1 (by decide) (by decide) (XS.iloadN X0.here hx rfl (hb hby own_d11_9) rfl k)))) ?_
  refine own_retI X0 hx hlk hret (hb hby own_d11_10) (by decide) (by decide) ?_
  exact ⟨rfl, N0, e0⟩
def Q_own_min21 (Z : State)  (h0 : Heap) (n0 : Nat) (v : Option Value) (h : Heap) (L : List Loc) : Prop := v = some (.int (1 : Int32)) ∧ Fr n0 L ∧ h = h0
theorem own_ef_own_min21 (m : MethodId)  : entryFrame m #[(.int (2 : Int32)), (.int (1 : Int32))] 2 = mkF m 0 #[iv (2 : Int32), iv (1 : Int32)] [] := by first | (simp [entryFrame, mkF, argsToLocals, Value.category]; done) | rfl
set_option maxRecDepth 65536 in
set_option maxHeartbeats 40000000 in
theorem own_min21 (l : Launch) (Z : State) (a0 : Array Value) (hw : ∀ d ∈ tables_1, d.before a0 Z = true) (ws : List Jvm.Cond)  (h0 : Heap) (n0 : Nat) (Z0 : n0 ≤ h0.size)  :
    own_Ctr l Z (⟨"java/lang/Math", "min", "(II)I"⟩ : MethodName) jdk_29_method_69_code 2 (some .int) ws ({ frames := 0, cells := 0, slots := 0, locals := 0 } : Room) (({ frames := 0, cells := 0, slots := 0, locals := 0 } : Room)).cells (({ frames := 0, cells := 0, slots := 0, locals := 0 } : Room)).slots #[(.int (2 : Int32)), (.int (1 : Int32))] h0 (Q_own_min21 Z  h0 n0) := by
  refine own_enter (Jvm.Free.JP.mathPlain rfl (by decide +kernel)) ?_
  intro p e s m below meth c s₁ X0 hx hZ hby hml hown hnm hlk hret e0
  have N0 := Fr.nil n0
  refine own_cast (own_ef_own_min21 m ) ?_
  refine own_by (g' := (mkF m 10 #[iv (2 : Int32), iv (1 : Int32)] [(.int (1 : Int32))])) (fun t k => XS.iloadN X0.here hx rfl (hb hby own_d11_0) rfl (XS.iloadN X0.here hx rfl (hb hby own_d11_1) rfl (XS.icmpYes X0.here hx rfl (pc0 := 2) (pc' := 9) rfl (hb hby own_d11_2) rfl (tlt (by decide : (1 : Int32) < (2 : Int32))).2.2.1 (by decide) (by decide) (XS.iloadN X0.here hx rfl (hb hby own_d11_9) rfl k)))) ?_
  refine own_retI X0 hx hlk hret (hb hby own_d11_10) (by decide) (by decide) ?_
  exact ⟨rfl, N0, e0⟩
def Q_own_min22 (Z : State)  (h0 : Heap) (n0 : Nat) (v : Option Value) (h : Heap) (L : List Loc) : Prop := v = some (.int (2 : Int32)) ∧ Fr n0 L ∧ h = h0
theorem own_ef_own_min22 (m : MethodId)  : entryFrame m #[(.int (2 : Int32)), (.int (2 : Int32))] 2 = mkF m 0 #[iv (2 : Int32), iv (2 : Int32)] [] := by first | (simp [entryFrame, mkF, argsToLocals, Value.category]; done) | rfl
set_option maxRecDepth 65536 in
set_option maxHeartbeats 40000000 in
theorem own_min22 (l : Launch) (Z : State) (a0 : Array Value) (hw : ∀ d ∈ tables_1, d.before a0 Z = true) (ws : List Jvm.Cond)  (h0 : Heap) (n0 : Nat) (Z0 : n0 ≤ h0.size)  :
    own_Ctr l Z (⟨"java/lang/Math", "min", "(II)I"⟩ : MethodName) jdk_29_method_69_code 2 (some .int) ws ({ frames := 0, cells := 0, slots := 0, locals := 0 } : Room) (({ frames := 0, cells := 0, slots := 0, locals := 0 } : Room)).cells (({ frames := 0, cells := 0, slots := 0, locals := 0 } : Room)).slots #[(.int (2 : Int32)), (.int (2 : Int32))] h0 (Q_own_min22 Z  h0 n0) := by
  refine own_enter (Jvm.Free.JP.mathPlain rfl (by decide +kernel)) ?_
  intro p e s m below meth c s₁ X0 hx hZ hby hml hown hnm hlk hret e0
  have N0 := Fr.nil n0
  refine own_cast (own_ef_own_min22 m ) ?_
  refine own_by (g' := (mkF m 10 #[iv (2 : Int32), iv (2 : Int32)] [(.int (2 : Int32))])) (fun t k => XS.iloadN X0.here hx rfl (hb hby own_d11_0) rfl (XS.iloadN X0.here hx rfl (hb hby own_d11_1) rfl (XS.icmpNo X0.here hx rfl (hb hby own_d11_2) rfl (flt (by decide : ¬ ((2 : Int32) < (2 : Int32)))).2.2.1 (XS.iloadN X0.here hx rfl (hb hby own_d11_5) rfl (XS.goto X0.here hx rfl (pc0 := 6) (pc' := 10) rfl (hb hby own_d11_6) (by decide) (by decide) k))))) ?_
  refine own_retI X0 hx hlk hret (hb hby own_d11_10) (by decide) (by decide) ?_
  exact ⟨rfl, N0, e0⟩
theorem own_d8_0 : decode prog_4_method_3_code 0 = .ok (.aload_n 0, 1) := by decide +kernel
theorem own_d8_1 : decode prog_4_method_3_code 1 = .ok (.invokevirtual 20, 3) := by decide +kernel
theorem own_pd18 : parseMethodDescriptor "()I" = some ⟨[], some .int⟩ := by decide +kernel
theorem own_d8_4 : decode prog_4_method_3_code 4 = .ok (.aload_n 1, 1) := by decide +kernel
theorem own_d8_5 : decode prog_4_method_3_code 5 = .ok (.invokevirtual 20, 3) := by decide +kernel
theorem own_d8_8 : decode prog_4_method_3_code 8 = .ok (.invokestatic 26, 3) := by decide +kernel
theorem own_d8_11 : decode prog_4_method_3_code 11 = .ok (.istore_n 2, 1) := by decide +kernel
theorem own_d8_12 : decode prog_4_method_3_code 12 = .ok (.iconst 0, 1) := by decide +kernel
theorem own_d8_13 : decode prog_4_method_3_code 13 = .ok (.istore_n 3, 1) := by decide +kernel
theorem own_d8_14 : decode prog_4_method_3_code 14 = .ok (.iload_n 3, 1) := by decide +kernel
theorem own_d8_15 : decode prog_4_method_3_code 15 = .ok (.iload_n 2, 1) := by decide +kernel
theorem own_d8_16 : decode prog_4_method_3_code 16 = .ok (.if_icmp .ge 42, 3) := by decide +kernel
theorem own_d8_58 : decode prog_4_method_3_code 58 = .ok (.aload_n 0, 1) := by decide +kernel
theorem own_d8_59 : decode prog_4_method_3_code 59 = .ok (.invokevirtual 20, 3) := by decide +kernel
theorem own_d8_62 : decode prog_4_method_3_code 62 = .ok (.aload_n 1, 1) := by decide +kernel
theorem own_d8_63 : decode prog_4_method_3_code 63 = .ok (.invokevirtual 20, 3) := by decide +kernel
theorem own_d8_66 : decode prog_4_method_3_code 66 = .ok (.isub, 1) := by decide +kernel
theorem own_d8_67 : decode prog_4_method_3_code 67 = .ok (.ireturn, 1) := by decide +kernel
theorem own_d8_19 : decode prog_4_method_3_code 19 = .ok (.aload_n 0, 1) := by decide +kernel
theorem own_d8_20 : decode prog_4_method_3_code 20 = .ok (.iload_n 3, 1) := by decide +kernel
theorem own_d8_21 : decode prog_4_method_3_code 21 = .ok (.invokevirtual 32, 3) := by decide +kernel
theorem own_pd19 : parseMethodDescriptor "(I)C" = some ⟨[.int], some .char⟩ := by decide +kernel
theorem own_d8_24 : decode prog_4_method_3_code 24 = .ok (.istore 4, 2) := by decide +kernel
theorem own_d8_26 : decode prog_4_method_3_code 26 = .ok (.aload_n 1, 1) := by decide +kernel
theorem own_d8_27 : decode prog_4_method_3_code 27 = .ok (.iload_n 3, 1) := by decide +kernel
theorem own_d8_28 : decode prog_4_method_3_code 28 = .ok (.invokevirtual 32, 3) := by decide +kernel
theorem own_d8_31 : decode prog_4_method_3_code 31 = .ok (.istore 5, 2) := by decide +kernel
theorem own_d8_33 : decode prog_4_method_3_code 33 = .ok (.iload 4, 2) := by decide +kernel
theorem own_d8_35 : decode prog_4_method_3_code 35 = .ok (.iload 5, 2) := by decide +kernel
theorem own_d8_37 : decode prog_4_method_3_code 37 = .ok (.if_icmp .eq 15, 3) := by decide +kernel
theorem own_d8_52 : decode prog_4_method_3_code 52 = .ok (.iinc 3 1, 3) := by decide +kernel
theorem own_d8_55 : decode prog_4_method_3_code 55 = .ok (.goto (-41), 3) := by decide +kernel
theorem own_d8_40 : decode prog_4_method_3_code 40 = .ok (.iload 4, 2) := by decide +kernel
theorem own_d8_42 : decode prog_4_method_3_code 42 = .ok (.invokestatic 36, 3) := by decide +kernel
theorem own_d8_45 : decode prog_4_method_3_code 45 = .ok (.iload 5, 2) := by decide +kernel
theorem own_d8_47 : decode prog_4_method_3_code 47 = .ok (.invokestatic 36, 3) := by decide +kernel
theorem own_d8_50 : decode prog_4_method_3_code 50 = .ok (.isub, 1) := by decide +kernel
theorem own_d8_51 : decode prog_4_method_3_code 51 = .ok (.ireturn, 1) := by decide +kernel
def Q_own_cu8 (Z : State) (ra : Addr) (baa : Addr) (kba : ClassId) (cda : Int32) (lna : Int32) (vsa : List Value) (rb : Addr) (bab : Addr) (kbb : ClassId) (cdb : Int32) (lnb : Int32) (vsb : List Value) (xa0 : Int32) (xa1 : Int32) (xla : Int32) (xb0 : Int32) (xb1 : Int32) (xlb : Int32) (zcs : Int32) (vsf : Value) (h0 : Heap) (n0 : Nat) (v : Option Value) (h : Heap) (L : List Loc) : Prop := v = some (.int (own_cmp xa0 xa1 xla xb0 xb1 xlb)) ∧ Fr n0 L ∧ h = h0
theorem own_ef_own_cu8 (m : MethodId) (ra : Addr) (rb : Addr) : entryFrame m #[(.ref ra), (.ref rb)] 6 = mkF m 0 #[rv ra, rv rb, .unset, .unset, .unset, .unset] [] := by first | (simp [entryFrame, mkF, argsToLocals, Value.category]; done) | rfl
set_option maxRecDepth 65536 in
set_option maxHeartbeats 40000000 in
theorem own_cu8 (l : Launch) (Z : State) (a0 : Array Value) (hw : ∀ d ∈ tables_1, d.before a0 Z = true) (ws : List Jvm.Cond) (ra : Addr) (baa : Addr) (kba : ClassId) (cda : Int32) (lna : Int32) (vsa : List Value) (rb : Addr) (bab : Addr) (kbb : ClassId) (cdb : Int32) (lnb : Int32) (vsb : List Value) (xa0 : Int32) (xa1 : Int32) (xla : Int32) (xb0 : Int32) (xb1 : Int32) (xlb : Int32) (zcs : Int32) (vsf : Value) (h0 : Heap) (n0 : Nat) (Z0 : n0 ≤ h0.size) (O0 : Old Z n0 h0) (S_cs : Sta Z Z.heap "java/lang/String" "COMPACT_STRINGS" "Z" (.int zcs)) (hcs : ¬ zcs = (0 : Int32)) (S_ad : Sta Z Z.heap "java/lang/StringUTF16" "$assertionsDisabled" "Z" (.int (1 : Int32))) (S_hi : Sta Z Z.heap "java/lang/StringUTF16" "HI_BYTE_SHIFT" "I" (.int (0 : Int32))) (S_lo : Sta Z Z.heap "java/lang/StringUTF16" "LO_BYTE_SHIFT" "I" (.int (8 : Int32))) (S_sf : Sta Z Z.heap "jdk/internal/util/Preconditions" "SIOOBE_FORMATTER" "Ljava/util/function/BiFunction;" vsf) (r_sf : (vsf).isRef = true) (E1a : Exa Z h0 ra "java/lang/String") (F1a : Fld Z h0 ra "java/lang/String" "value" "[B" (.ref baa)) (F2a : Fld Z h0 ra "java/lang/String" "coder" "B" (.int cda)) (V1a : Arv Z h0 baa kba .byte lna vsa (.int (0 : Int32))) (E1b : Exa Z h0 rb "java/lang/String") (F1b : Fld Z h0 rb "java/lang/String" "value" "[B" (.ref bab)) (F2b : Fld Z h0 rb "java/lang/String" "coder" "B" (.int cdb)) (V1b : Arv Z h0 bab kbb .byte lnb vsb (.int (0 : Int32))) (hka0 : own_ch xa0) (hka1 : own_ch xa1) (hkb0 : own_ch xb0) (hkb1 : own_ch xb1) (hsa : own_str xa0 xa1 xla cda lna vsa) (hsb : own_str xb0 xb1 xlb cdb lnb vsb) :
    own_Ctr l Z (⟨"com/example/abakus/abakus/conversation/MailboxThread", "compareUtf8", "(Ljava/lang/String;Ljava/lang/String;)I"⟩ : MethodName) prog_4_method_3_code 6 (some .int) ws ({ frames := 5, cells := 0, slots := 0, locals := 66 } : Room) (({ frames := 5, cells := 0, slots := 0, locals := 66 } : Room)).cells (({ frames := 5, cells := 0, slots := 0, locals := 66 } : Room)).slots #[(.ref ra), (.ref rb)] h0 (Q_own_cu8 Z ra baa kba cda lna vsa rb bab kbb cdb lnb vsb xa0 xa1 xla xb0 xb1 xlb zcs vsf h0 n0) := by
  refine own_enter (plainFor_of_name own_pn5) ?_
  intro p e s m below meth c s₁ X0 hx hZ hby hml hown hnm hlk hret e0
  have N0 := Fr.nil n0
  refine own_cast (own_ef_own_cu8 m ra rb) ?_
  rcases hsa with ⟨rfl, qla⟩ | ⟨rfl, qla, qaA⟩ | ⟨rfl, qla, qaA, qaB⟩
  ·
    rcases hsb with ⟨rfl, qlb⟩ | ⟨rfl, qlb, qbA⟩ | ⟨rfl, qlb, qbA, qbB⟩
    ·
      refine own_by (g' := (mkF m 1 #[rv ra, rv rb, .unset, .unset, .unset, .unset] [(.ref ra)])) (fun t k => XS.aloadN X0.here hx rfl (hb hby own_d8_0) rfl rfl k) ?_
      refine own_callV X0 hx hZ hown (hw _ (List.mem_of_getElem? (i := 51) rfl)) (hw _ (List.mem_of_getElem? (i := 52) rfl)) (notFace_of_selects (args := #[]) (mvT hZ (hw _ (List.mem_of_getElem? (i := 54) rfl)))) (hw _ (List.mem_of_getElem? (i := 54) rfl)) (hw _ (List.mem_of_getElem? (i := 53) rfl)) (hw _ (List.mem_of_getElem? (i := 55) rfl)) (hw _ (List.mem_of_getElem? (i := 10) rfl)) (by decide) (a := ra) E1a (own_slen0 l Z a0 hw [] (ra) (baa) (kba) (cda) (lna) (vsa) (zcs) h0 n0 Z0 O0 S_cs (by first | assumption | decide) E1a F1a F2a V1a (by first | assumption | decide)) 0 (by decide) (by decide) (by decide) (by decide) e0 (g := (mkF m 1 #[rv ra, rv rb, .unset, .unset, .unset, .unset] [(.ref ra)])) rfl (by rw [hml]; rfl) (argsL := []) (rest := []) (lenOf own_pd18 rfl) rfl (by show 2 * 0 + _ ≤ _; exact Nat.le_of_eq rfl) (hb hby own_d8_1) ?_
      intro v101 T101 L101 X101 q101
      obtain ⟨rfl, N101q, e101⟩ := q101
      have N101 := Fr.app N0 N101q
      show own_Goes p e below s _ _ _ T101 (mkF m 4 #[rv ra, rv rb, .unset, .unset, .unset, .unset] [(.int (0 : Int32))])
      refine own_by (g' := (mkF m 5 #[rv ra, rv rb, .unset, .unset, .unset, .unset] [(.ref rb), (.int (0 : Int32))])) (fun t k => XS.aloadN X101.here hx rfl (hb hby own_d8_4) rfl rfl k) ?_
      refine own_callV X101 hx hZ hown (hw _ (List.mem_of_getElem? (i := 51) rfl)) (hw _ (List.mem_of_getElem? (i := 52) rfl)) (notFace_of_selects (args := #[]) (mvT hZ (hw _ (List.mem_of_getElem? (i := 54) rfl)))) (hw _ (List.mem_of_getElem? (i := 54) rfl)) (hw _ (List.mem_of_getElem? (i := 53) rfl)) (hw _ (List.mem_of_getElem? (i := 55) rfl)) (hw _ (List.mem_of_getElem? (i := 10) rfl)) (by decide) (a := rb) E1b (own_slen0 l Z a0 hw [] (rb) (bab) (kbb) (cdb) (lnb) (vsb) (zcs) h0 n0 Z0 O0 S_cs (by first | assumption | decide) E1b F1b F2b V1b (by first | assumption | decide)) 1 (by decide) (by decide) (by decide) (by decide) e101 (g := (mkF m 5 #[rv ra, rv rb, .unset, .unset, .unset, .unset] [(.ref rb), (.int (0 : Int32))])) rfl (by rw [hml]; rfl) (argsL := []) (rest := [(.int (0 : Int32))]) (lenOf own_pd18 rfl) rfl (by show 2 * 0 + _ ≤ _; exact Nat.le_of_eq rfl) (hb hby own_d8_5) ?_
      intro v102 T102 L102 X102 q102
      obtain ⟨rfl, N102q, e102⟩ := q102
      have N102 := Fr.app N101 N102q
      show own_Goes p e below s _ _ _ T102 (mkF m 8 #[rv ra, rv rb, .unset, .unset, .unset, .unset] [(.int (0 : Int32)), (.int (0 : Int32))])
      refine own_callS X102 hx hZ hown (hw _ (List.mem_of_getElem? (i := 62) rfl)) (hw _ (List.mem_of_getElem? (i := 63) rfl)) (hw _ (List.mem_of_getElem? (i := 64) rfl)) (hw _ (List.mem_of_getElem? (i := 65) rfl)) (by decide) (own_min00 l Z a0 hw []  h0 n0 Z0 ) 0 (by decide) (by decide) (by decide) (by decide) e102 (g := (mkF m 8 #[rv ra, rv rb, .unset, .unset, .unset, .unset] [(.int (0 : Int32)), (.int (0 : Int32))])) rfl (by rw [hml]; rfl) (argsL := [(.int (0 : Int32)), (.int (0 : Int32))]) (rest := []) (lenOf own_pd17 rfl) rfl (by show 2 * 0 + _ ≤ _; exact Nat.le_of_eq rfl) (hb hby own_d8_8) ?_
      intro v103 T103 L103 X103 q103
      obtain ⟨rfl, N103q, e103⟩ := q103
      have N103 := Fr.app N102 N103q
      show own_Goes p e below s _ _ _ T103 (mkF m 11 #[rv ra, rv rb, .unset, .unset, .unset, .unset] [(.int (0 : Int32))])
      refine own_by (g' := (mkF m 59 #[rv ra, rv rb, iv (0 : Int32), iv (0 : Int32), .unset, .unset] [(.ref ra)])) (fun t k => XS.istoreN X103.here hx rfl (hb hby own_d8_11) rfl (l' := #[rv ra, rv rb, iv (0 : Int32), .unset, .unset, .unset]) rfl (XS.iconst X103.here hx rfl (hb hby own_d8_12) (XS.istoreN X103.here hx rfl (hb hby own_d8_13) rfl (l' := #[rv ra, rv rb, iv (0 : Int32), iv (0 : Int32), .unset, .unset]) rfl (XS.iloadN X103.here hx rfl (hb hby own_d8_14) rfl (XS.iloadN X103.here hx rfl (hb hby own_d8_15) rfl (XS.icmpYes X103.here hx rfl (pc0 := 16) (pc' := 58) rfl (hb hby own_d8_16) rfl (flt (by decide : ¬ ((0 : Int32) < (0 : Int32)))).2.1 (by decide) (by decide) (XS.aloadN X103.here hx rfl (hb hby own_d8_58) rfl rfl k))))))) ?_
      refine own_callV X103 hx hZ hown (hw _ (List.mem_of_getElem? (i := 51) rfl)) (hw _ (List.mem_of_getElem? (i := 52) rfl)) (notFace_of_selects (args := #[]) (mvT hZ (hw _ (List.mem_of_getElem? (i := 54) rfl)))) (hw _ (List.mem_of_getElem? (i := 54) rfl)) (hw _ (List.mem_of_getElem? (i := 53) rfl)) (hw _ (List.mem_of_getElem? (i := 55) rfl)) (hw _ (List.mem_of_getElem? (i := 10) rfl)) (by decide) (a := ra) E1a (own_slen0 l Z a0 hw [] (ra) (baa) (kba) (cda) (lna) (vsa) (zcs) h0 n0 Z0 O0 S_cs (by first | assumption | decide) E1a F1a F2a V1a (by first | assumption | decide)) 0 (by decide) (by decide) (by decide) (by decide) e103 (g := (mkF m 59 #[rv ra, rv rb, iv (0 : Int32), iv (0 : Int32), .unset, .unset] [(.ref ra)])) rfl (by rw [hml]; rfl) (argsL := []) (rest := []) (lenOf own_pd18 rfl) rfl (by show 2 * 0 + _ ≤ _; exact Nat.le_of_eq rfl) (hb hby own_d8_59) ?_
      intro v104 T104 L104 X104 q104
      obtain ⟨rfl, N104q, e104⟩ := q104
      have N104 := Fr.app N103 N104q
      show own_Goes p e below s _ _ _ T104 (mkF m 62 #[rv ra, rv rb, iv (0 : Int32), iv (0 : Int32), .unset, .unset] [(.int (0 : Int32))])
      refine own_by (g' := (mkF m 63 #[rv ra, rv rb, iv (0 : Int32), iv (0 : Int32), .unset, .unset] [(.ref rb), (.int (0 : Int32))])) (fun t k => XS.aloadN X104.here hx rfl (hb hby own_d8_62) rfl rfl k) ?_
      refine own_callV X104 hx hZ hown (hw _ (List.mem_of_getElem? (i := 51) rfl)) (hw _ (List.mem_of_getElem? (i := 52) rfl)) (notFace_of_selects (args := #[]) (mvT hZ (hw _ (List.mem_of_getElem? (i := 54) rfl)))) (hw _ (List.mem_of_getElem? (i := 54) rfl)) (hw _ (List.mem_of_getElem? (i := 53) rfl)) (hw _ (List.mem_of_getElem? (i := 55) rfl)) (hw _ (List.mem_of_getElem? (i := 10) rfl)) (by decide) (a := rb) E1b (own_slen0 l Z a0 hw [] (rb) (bab) (kbb) (cdb) (lnb) (vsb) (zcs) h0 n0 Z0 O0 S_cs (by first | assumption | decide) E1b F1b F2b V1b (by first | assumption | decide)) 1 (by decide) (by decide) (by decide) (by decide) e104 (g := (mkF m 63 #[rv ra, rv rb, iv (0 : Int32), iv (0 : Int32), .unset, .unset] [(.ref rb), (.int (0 : Int32))])) rfl (by rw [hml]; rfl) (argsL := []) (rest := [(.int (0 : Int32))]) (lenOf own_pd18 rfl) rfl (by show 2 * 0 + _ ≤ _; exact Nat.le_of_eq rfl) (hb hby own_d8_63) ?_
      intro v105 T105 L105 X105 q105
      obtain ⟨rfl, N105q, e105⟩ := q105
      have N105 := Fr.app N104 N105q
      show own_Goes p e below s _ _ _ T105 (mkF m 66 #[rv ra, rv rb, iv (0 : Int32), iv (0 : Int32), .unset, .unset] [(.int (0 : Int32)), (.int (0 : Int32))])
      refine own_by (g' := (mkF m 67 #[rv ra, rv rb, iv (0 : Int32), iv (0 : Int32), .unset, .unset] [(.int (0 : Int32))])) (fun t k => XS.isub X105.here hx rfl (hb hby own_d8_66) rfl k) ?_
      refine own_retI X105 hx hlk hret (hb hby own_d8_67) (by decide) (by decide) ?_
      exact ⟨(by simp [own_cmp]; try decide), N105, e105⟩
    ·
      refine own_by (g' := (mkF m 1 #[rv ra, rv rb, .unset, .unset, .unset, .unset] [(.ref ra)])) (fun t k => XS.aloadN X0.here hx rfl (hb hby own_d8_0) rfl rfl k) ?_
      refine own_callV X0 hx hZ hown (hw _ (List.mem_of_getElem? (i := 51) rfl)) (hw _ (List.mem_of_getElem? (i := 52) rfl)) (notFace_of_selects (args := #[]) (mvT hZ (hw _ (List.mem_of_getElem? (i := 54) rfl)))) (hw _ (List.mem_of_getElem? (i := 54) rfl)) (hw _ (List.mem_of_getElem? (i := 53) rfl)) (hw _ (List.mem_of_getElem? (i := 55) rfl)) (hw _ (List.mem_of_getElem? (i := 10) rfl)) (by decide) (a := ra) E1a (own_slen0 l Z a0 hw [] (ra) (baa) (kba) (cda) (lna) (vsa) (zcs) h0 n0 Z0 O0 S_cs (by first | assumption | decide) E1a F1a F2a V1a (by first | assumption | decide)) 0 (by decide) (by decide) (by decide) (by decide) e0 (g := (mkF m 1 #[rv ra, rv rb, .unset, .unset, .unset, .unset] [(.ref ra)])) rfl (by rw [hml]; rfl) (argsL := []) (rest := []) (lenOf own_pd18 rfl) rfl (by show 2 * 0 + _ ≤ _; exact Nat.le_of_eq rfl) (hb hby own_d8_1) ?_
      intro v106 T106 L106 X106 q106
      obtain ⟨rfl, N106q, e106⟩ := q106
      have N106 := Fr.app N0 N106q
      show own_Goes p e below s _ _ _ T106 (mkF m 4 #[rv ra, rv rb, .unset, .unset, .unset, .unset] [(.int (0 : Int32))])
      refine own_by (g' := (mkF m 5 #[rv ra, rv rb, .unset, .unset, .unset, .unset] [(.ref rb), (.int (0 : Int32))])) (fun t k => XS.aloadN X106.here hx rfl (hb hby own_d8_4) rfl rfl k) ?_
      refine own_callV X106 hx hZ hown (hw _ (List.mem_of_getElem? (i := 51) rfl)) (hw _ (List.mem_of_getElem? (i := 52) rfl)) (notFace_of_selects (args := #[]) (mvT hZ (hw _ (List.mem_of_getElem? (i := 54) rfl)))) (hw _ (List.mem_of_getElem? (i := 54) rfl)) (hw _ (List.mem_of_getElem? (i := 53) rfl)) (hw _ (List.mem_of_getElem? (i := 55) rfl)) (hw _ (List.mem_of_getElem? (i := 10) rfl)) (by decide) (a := rb) E1b (own_slen1 l Z a0 hw [] (rb) (bab) (kbb) (cdb) (lnb) (vsb) (zcs) h0 n0 Z0 O0 S_cs (by first | assumption | decide) E1b F1b F2b V1b (by first | assumption | decide)) 1 (by decide) (by decide) (by decide) (by decide) e106 (g := (mkF m 5 #[rv ra, rv rb, .unset, .unset, .unset, .unset] [(.ref rb), (.int (0 : Int32))])) rfl (by rw [hml]; rfl) (argsL := []) (rest := [(.int (0 : Int32))]) (lenOf own_pd18 rfl) rfl (by show 2 * 0 + _ ≤ _; exact Nat.le_of_eq rfl) (hb hby own_d8_5) ?_
      intro v107 T107 L107 X107 q107
      obtain ⟨rfl, N107q, e107⟩ := q107
      have N107 := Fr.app N106 N107q
      show own_Goes p e below s _ _ _ T107 (mkF m 8 #[rv ra, rv rb, .unset, .unset, .unset, .unset] [(.int (1 : Int32)), (.int (0 : Int32))])
      refine own_callS X107 hx hZ hown (hw _ (List.mem_of_getElem? (i := 62) rfl)) (hw _ (List.mem_of_getElem? (i := 63) rfl)) (hw _ (List.mem_of_getElem? (i := 64) rfl)) (hw _ (List.mem_of_getElem? (i := 65) rfl)) (by decide) (own_min01 l Z a0 hw []  h0 n0 Z0 ) 0 (by decide) (by decide) (by decide) (by decide) e107 (g := (mkF m 8 #[rv ra, rv rb, .unset, .unset, .unset, .unset] [(.int (1 : Int32)), (.int (0 : Int32))])) rfl (by rw [hml]; rfl) (argsL := [(.int (0 : Int32)), (.int (1 : Int32))]) (rest := []) (lenOf own_pd17 rfl) rfl (by show 2 * 0 + _ ≤ _; exact Nat.le_of_eq rfl) (hb hby own_d8_8) ?_
      intro v108 T108 L108 X108 q108
      obtain ⟨rfl, N108q, e108⟩ := q108
      have N108 := Fr.app N107 N108q
      show own_Goes p e below s _ _ _ T108 (mkF m 11 #[rv ra, rv rb, .unset, .unset, .unset, .unset] [(.int (0 : Int32))])
      refine own_by (g' := (mkF m 59 #[rv ra, rv rb, iv (0 : Int32), iv (0 : Int32), .unset, .unset] [(.ref ra)])) (fun t k => XS.istoreN X108.here hx rfl (hb hby own_d8_11) rfl (l' := #[rv ra, rv rb, iv (0 : Int32), .unset, .unset, .unset]) rfl (XS.iconst X108.here hx rfl (hb hby own_d8_12) (XS.istoreN X108.here hx rfl (hb hby own_d8_13) rfl (l' := #[rv ra, rv rb, iv (0 : Int32), iv (0 : Int32), .unset, .unset]) rfl (XS.iloadN X108.here hx rfl (hb hby own_d8_14) rfl (XS.iloadN X108.here hx rfl (hb hby own_d8_15) rfl (XS.icmpYes X108.here hx rfl (pc0 := 16) (pc' := 58) rfl (hb hby own_d8_16) rfl (flt (by decide : ¬ ((0 : Int32) < (0 : Int32)))).2.1 (by decide) (by decide) (XS.aloadN X108.here hx rfl (hb hby own_d8_58) rfl rfl k))))))) ?_
      refine own_callV X108 hx hZ hown (hw _ (List.mem_of_getElem? (i := 51) rfl)) (hw _ (List.mem_of_getElem? (i := 52) rfl)) (notFace_of_selects (args := #[]) (mvT hZ (hw _ (List.mem_of_getElem? (i := 54) rfl)))) (hw _ (List.mem_of_getElem? (i := 54) rfl)) (hw _ (List.mem_of_getElem? (i := 53) rfl)) (hw _ (List.mem_of_getElem? (i := 55) rfl)) (hw _ (List.mem_of_getElem? (i := 10) rfl)) (by decide) (a := ra) E1a (own_slen0 l Z a0 hw [] (ra) (baa) (kba) (cda) (lna) (vsa) (zcs) h0 n0 Z0 O0 S_cs (by first | assumption | decide) E1a F1a F2a V1a (by first | assumption | decide)) 0 (by decide) (by decide) (by decide) (by decide) e108 (g := (mkF m 59 #[rv ra, rv rb, iv (0 : Int32), iv (0 : Int32), .unset, .unset] [(.ref ra)])) rfl (by rw [hml]; rfl) (argsL := []) (rest := []) (lenOf own_pd18 rfl) rfl (by show 2 * 0 + _ ≤ _; exact Nat.le_of_eq rfl) (hb hby own_d8_59) ?_
      intro v109 T109 L109 X109 q109
      obtain ⟨rfl, N109q, e109⟩ := q109
      have N109 := Fr.app N108 N109q
      show own_Goes p e below s _ _ _ T109 (mkF m 62 #[rv ra, rv rb, iv (0 : Int32), iv (0 : Int32), .unset, .unset] [(.int (0 : Int32))])
      refine own_by (g' := (mkF m 63 #[rv ra, rv rb, iv (0 : Int32), iv (0 : Int32), .unset, .unset] [(.ref rb), (.int (0 : Int32))])) (fun t k => XS.aloadN X109.here hx rfl (hb hby own_d8_62) rfl rfl k) ?_
      refine own_callV X109 hx hZ hown (hw _ (List.mem_of_getElem? (i := 51) rfl)) (hw _ (List.mem_of_getElem? (i := 52) rfl)) (notFace_of_selects (args := #[]) (mvT hZ (hw _ (List.mem_of_getElem? (i := 54) rfl)))) (hw _ (List.mem_of_getElem? (i := 54) rfl)) (hw _ (List.mem_of_getElem? (i := 53) rfl)) (hw _ (List.mem_of_getElem? (i := 55) rfl)) (hw _ (List.mem_of_getElem? (i := 10) rfl)) (by decide) (a := rb) E1b (own_slen1 l Z a0 hw [] (rb) (bab) (kbb) (cdb) (lnb) (vsb) (zcs) h0 n0 Z0 O0 S_cs (by first | assumption | decide) E1b F1b F2b V1b (by first | assumption | decide)) 1 (by decide) (by decide) (by decide) (by decide) e109 (g := (mkF m 63 #[rv ra, rv rb, iv (0 : Int32), iv (0 : Int32), .unset, .unset] [(.ref rb), (.int (0 : Int32))])) rfl (by rw [hml]; rfl) (argsL := []) (rest := [(.int (0 : Int32))]) (lenOf own_pd18 rfl) rfl (by show 2 * 0 + _ ≤ _; exact Nat.le_of_eq rfl) (hb hby own_d8_63) ?_
      intro v110 T110 L110 X110 q110
      obtain ⟨rfl, N110q, e110⟩ := q110
      have N110 := Fr.app N109 N110q
      show own_Goes p e below s _ _ _ T110 (mkF m 66 #[rv ra, rv rb, iv (0 : Int32), iv (0 : Int32), .unset, .unset] [(.int (1 : Int32)), (.int (0 : Int32))])
      refine own_by (g' := (mkF m 67 #[rv ra, rv rb, iv (0 : Int32), iv (0 : Int32), .unset, .unset] [(.int (-1 : Int32))])) (fun t k => XS.isub X110.here hx rfl (hb hby own_d8_66) rfl k) ?_
      refine own_retI X110 hx hlk hret (hb hby own_d8_67) (by decide) (by decide) ?_
      exact ⟨(by simp [own_cmp]; try decide), N110, e110⟩
    ·
      refine own_by (g' := (mkF m 1 #[rv ra, rv rb, .unset, .unset, .unset, .unset] [(.ref ra)])) (fun t k => XS.aloadN X0.here hx rfl (hb hby own_d8_0) rfl rfl k) ?_
      refine own_callV X0 hx hZ hown (hw _ (List.mem_of_getElem? (i := 51) rfl)) (hw _ (List.mem_of_getElem? (i := 52) rfl)) (notFace_of_selects (args := #[]) (mvT hZ (hw _ (List.mem_of_getElem? (i := 54) rfl)))) (hw _ (List.mem_of_getElem? (i := 54) rfl)) (hw _ (List.mem_of_getElem? (i := 53) rfl)) (hw _ (List.mem_of_getElem? (i := 55) rfl)) (hw _ (List.mem_of_getElem? (i := 10) rfl)) (by decide) (a := ra) E1a (own_slen0 l Z a0 hw [] (ra) (baa) (kba) (cda) (lna) (vsa) (zcs) h0 n0 Z0 O0 S_cs (by first | assumption | decide) E1a F1a F2a V1a (by first | assumption | decide)) 0 (by decide) (by decide) (by decide) (by decide) e0 (g := (mkF m 1 #[rv ra, rv rb, .unset, .unset, .unset, .unset] [(.ref ra)])) rfl (by rw [hml]; rfl) (argsL := []) (rest := []) (lenOf own_pd18 rfl) rfl (by show 2 * 0 + _ ≤ _; exact Nat.le_of_eq rfl) (hb hby own_d8_1) ?_
      intro v111 T111 L111 X111 q111
      obtain ⟨rfl, N111q, e111⟩ := q111
      have N111 := Fr.app N0 N111q
      show own_Goes p e below s _ _ _ T111 (mkF m 4 #[rv ra, rv rb, .unset, .unset, .unset, .unset] [(.int (0 : Int32))])
      refine own_by (g' := (mkF m 5 #[rv ra, rv rb, .unset, .unset, .unset, .unset] [(.ref rb), (.int (0 : Int32))])) (fun t k => XS.aloadN X111.here hx rfl (hb hby own_d8_4) rfl rfl k) ?_
      refine own_callV X111 hx hZ hown (hw _ (List.mem_of_getElem? (i := 51) rfl)) (hw _ (List.mem_of_getElem? (i := 52) rfl)) (notFace_of_selects (args := #[]) (mvT hZ (hw _ (List.mem_of_getElem? (i := 54) rfl)))) (hw _ (List.mem_of_getElem? (i := 54) rfl)) (hw _ (List.mem_of_getElem? (i := 53) rfl)) (hw _ (List.mem_of_getElem? (i := 55) rfl)) (hw _ (List.mem_of_getElem? (i := 10) rfl)) (by decide) (a := rb) E1b (own_slen2 l Z a0 hw [] (rb) (bab) (kbb) (cdb) (lnb) (vsb) (zcs) h0 n0 Z0 O0 S_cs (by first | assumption | decide) E1b F1b F2b V1b (by first | assumption | decide)) 1 (by decide) (by decide) (by decide) (by decide) e111 (g := (mkF m 5 #[rv ra, rv rb, .unset, .unset, .unset, .unset] [(.ref rb), (.int (0 : Int32))])) rfl (by rw [hml]; rfl) (argsL := []) (rest := [(.int (0 : Int32))]) (lenOf own_pd18 rfl) rfl (by show 2 * 0 + _ ≤ _; exact Nat.le_of_eq rfl) (hb hby own_d8_5) ?_
      intro v112 T112 L112 X112 q112
      obtain ⟨rfl, N112q, e112⟩ := q112
      have N112 := Fr.app N111 N112q
      show own_Goes p e below s _ _ _ T112 (mkF m 8 #[rv ra, rv rb, .unset, .unset, .unset, .unset] [(.int (2 : Int32)), (.int (0 : Int32))])
      refine own_callS X112 hx hZ hown (hw _ (List.mem_of_getElem? (i := 62) rfl)) (hw _ (List.mem_of_getElem? (i := 63) rfl)) (hw _ (List.mem_of_getElem? (i := 64) rfl)) (hw _ (List.mem_of_getElem? (i := 65) rfl)) (by decide) (own_min02 l Z a0 hw []  h0 n0 Z0 ) 0 (by decide) (by decide) (by decide) (by decide) e112 (g := (mkF m 8 #[rv ra, rv rb, .unset, .unset, .unset, .unset] [(.int (2 : Int32)), (.int (0 : Int32))])) rfl (by rw [hml]; rfl) (argsL := [(.int (0 : Int32)), (.int (2 : Int32))]) (rest := []) (lenOf own_pd17 rfl) rfl (by show 2 * 0 + _ ≤ _; exact Nat.le_of_eq rfl) (hb hby own_d8_8) ?_
      intro v113 T113 L113 X113 q113
      obtain ⟨rfl, N113q, e113⟩ := q113
      have N113 := Fr.app N112 N113q
      show own_Goes p e below s _ _ _ T113 (mkF m 11 #[rv ra, rv rb, .unset, .unset, .unset, .unset] [(.int (0 : Int32))])
      refine own_by (g' := (mkF m 59 #[rv ra, rv rb, iv (0 : Int32), iv (0 : Int32), .unset, .unset] [(.ref ra)])) (fun t k => XS.istoreN X113.here hx rfl (hb hby own_d8_11) rfl (l' := #[rv ra, rv rb, iv (0 : Int32), .unset, .unset, .unset]) rfl (XS.iconst X113.here hx rfl (hb hby own_d8_12) (XS.istoreN X113.here hx rfl (hb hby own_d8_13) rfl (l' := #[rv ra, rv rb, iv (0 : Int32), iv (0 : Int32), .unset, .unset]) rfl (XS.iloadN X113.here hx rfl (hb hby own_d8_14) rfl (XS.iloadN X113.here hx rfl (hb hby own_d8_15) rfl (XS.icmpYes X113.here hx rfl (pc0 := 16) (pc' := 58) rfl (hb hby own_d8_16) rfl (flt (by decide : ¬ ((0 : Int32) < (0 : Int32)))).2.1 (by decide) (by decide) (XS.aloadN X113.here hx rfl (hb hby own_d8_58) rfl rfl k))))))) ?_
      refine own_callV X113 hx hZ hown (hw _ (List.mem_of_getElem? (i := 51) rfl)) (hw _ (List.mem_of_getElem? (i := 52) rfl)) (notFace_of_selects (args := #[]) (mvT hZ (hw _ (List.mem_of_getElem? (i := 54) rfl)))) (hw _ (List.mem_of_getElem? (i := 54) rfl)) (hw _ (List.mem_of_getElem? (i := 53) rfl)) (hw _ (List.mem_of_getElem? (i := 55) rfl)) (hw _ (List.mem_of_getElem? (i := 10) rfl)) (by decide) (a := ra) E1a (own_slen0 l Z a0 hw [] (ra) (baa) (kba) (cda) (lna) (vsa) (zcs) h0 n0 Z0 O0 S_cs (by first | assumption | decide) E1a F1a F2a V1a (by first | assumption | decide)) 0 (by decide) (by decide) (by decide) (by decide) e113 (g := (mkF m 59 #[rv ra, rv rb, iv (0 : Int32), iv (0 : Int32), .unset, .unset] [(.ref ra)])) rfl (by rw [hml]; rfl) (argsL := []) (rest := []) (lenOf own_pd18 rfl) rfl (by show 2 * 0 + _ ≤ _; exact Nat.le_of_eq rfl) (hb hby own_d8_59) ?_
      intro v114 T114 L114 X114 q114
      obtain ⟨rfl, N114q, e114⟩ := q114
      have N114 := Fr.app N113 N114q
      show own_Goes p e below s _ _ _ T114 (mkF m 62 #[rv ra, rv rb, iv (0 : Int32), iv (0 : Int32), .unset, .unset] [(.int (0 : Int32))])
      refine own_by (g' := (mkF m 63 #[rv ra, rv rb, iv (0 : Int32), iv (0 : Int32), .unset, .unset] [(.ref rb), (.int (0 : Int32))])) (fun t k => XS.aloadN X114.here hx rfl (hb hby own_d8_62) rfl rfl k) ?_
      refine own_callV X114 hx hZ hown (hw _ (List.mem_of_getElem? (i := 51) rfl)) (hw _ (List.mem_of_getElem? (i := 52) rfl)) (notFace_of_selects (args := #[]) (mvT hZ (hw _ (List.mem_of_getElem? (i := 54) rfl)))) (hw _ (List.mem_of_getElem? (i := 54) rfl)) (hw _ (List.mem_of_getElem? (i := 53) rfl)) (hw _ (List.mem_of_getElem? (i := 55) rfl)) (hw _ (List.mem_of_getElem? (i := 10) rfl)) (by decide) (a := rb) E1b (own_slen2 l Z a0 hw [] (rb) (bab) (kbb) (cdb) (lnb) (vsb) (zcs) h0 n0 Z0 O0 S_cs (by first | assumption | decide) E1b F1b F2b V1b (by first | assumption | decide)) 1 (by decide) (by decide) (by decide) (by decide) e114 (g := (mkF m 63 #[rv ra, rv rb, iv (0 : Int32), iv (0 : Int32), .unset, .unset] [(.ref rb), (.int (0 : Int32))])) rfl (by rw [hml]; rfl) (argsL := []) (rest := [(.int (0 : Int32))]) (lenOf own_pd18 rfl) rfl (by show 2 * 0 + _ ≤ _; exact Nat.le_of_eq rfl) (hb hby own_d8_63) ?_
      intro v115 T115 L115 X115 q115
      obtain ⟨rfl, N115q, e115⟩ := q115
      have N115 := Fr.app N114 N115q
      show own_Goes p e below s _ _ _ T115 (mkF m 66 #[rv ra, rv rb, iv (0 : Int32), iv (0 : Int32), .unset, .unset] [(.int (2 : Int32)), (.int (0 : Int32))])
      refine own_by (g' := (mkF m 67 #[rv ra, rv rb, iv (0 : Int32), iv (0 : Int32), .unset, .unset] [(.int (-2 : Int32))])) (fun t k => XS.isub X115.here hx rfl (hb hby own_d8_66) rfl k) ?_
      refine own_retI X115 hx hlk hret (hb hby own_d8_67) (by decide) (by decide) ?_
      exact ⟨(by simp [own_cmp]; try decide), N115, e115⟩
  ·
    rcases hsb with ⟨rfl, qlb⟩ | ⟨rfl, qlb, qbA⟩ | ⟨rfl, qlb, qbA, qbB⟩
    ·
      refine own_by (g' := (mkF m 1 #[rv ra, rv rb, .unset, .unset, .unset, .unset] [(.ref ra)])) (fun t k => XS.aloadN X0.here hx rfl (hb hby own_d8_0) rfl rfl k) ?_
      refine own_callV X0 hx hZ hown (hw _ (List.mem_of_getElem? (i := 51) rfl)) (hw _ (List.mem_of_getElem? (i := 52) rfl)) (notFace_of_selects (args := #[]) (mvT hZ (hw _ (List.mem_of_getElem? (i := 54) rfl)))) (hw _ (List.mem_of_getElem? (i := 54) rfl)) (hw _ (List.mem_of_getElem? (i := 53) rfl)) (hw _ (List.mem_of_getElem? (i := 55) rfl)) (hw _ (List.mem_of_getElem? (i := 10) rfl)) (by decide) (a := ra) E1a (own_slen1 l Z a0 hw [] (ra) (baa) (kba) (cda) (lna) (vsa) (zcs) h0 n0 Z0 O0 S_cs (by first | assumption | decide) E1a F1a F2a V1a (by first | assumption | decide)) 0 (by decide) (by decide) (by decide) (by decide) e0 (g := (mkF m 1 #[rv ra, rv rb, .unset, .unset, .unset, .unset] [(.ref ra)])) rfl (by rw [hml]; rfl) (argsL := []) (rest := []) (lenOf own_pd18 rfl) rfl (by show 2 * 0 + _ ≤ _; exact Nat.le_of_eq rfl) (hb hby own_d8_1) ?_
      intro v116 T116 L116 X116 q116
      obtain ⟨rfl, N116q, e116⟩ := q116
      have N116 := Fr.app N0 N116q
      show own_Goes p e below s _ _ _ T116 (mkF m 4 #[rv ra, rv rb, .unset, .unset, .unset, .unset] [(.int (1 : Int32))])
      refine own_by (g' := (mkF m 5 #[rv ra, rv rb, .unset, .unset, .unset, .unset] [(.ref rb), (.int (1 : Int32))])) (fun t k => XS.aloadN X116.here hx rfl (hb hby own_d8_4) rfl rfl k) ?_
      refine own_callV X116 hx hZ hown (hw _ (List.mem_of_getElem? (i := 51) rfl)) (hw _ (List.mem_of_getElem? (i := 52) rfl)) (notFace_of_selects (args := #[]) (mvT hZ (hw _ (List.mem_of_getElem? (i := 54) rfl)))) (hw _ (List.mem_of_getElem? (i := 54) rfl)) (hw _ (List.mem_of_getElem? (i := 53) rfl)) (hw _ (List.mem_of_getElem? (i := 55) rfl)) (hw _ (List.mem_of_getElem? (i := 10) rfl)) (by decide) (a := rb) E1b (own_slen0 l Z a0 hw [] (rb) (bab) (kbb) (cdb) (lnb) (vsb) (zcs) h0 n0 Z0 O0 S_cs (by first | assumption | decide) E1b F1b F2b V1b (by first | assumption | decide)) 1 (by decide) (by decide) (by decide) (by decide) e116 (g := (mkF m 5 #[rv ra, rv rb, .unset, .unset, .unset, .unset] [(.ref rb), (.int (1 : Int32))])) rfl (by rw [hml]; rfl) (argsL := []) (rest := [(.int (1 : Int32))]) (lenOf own_pd18 rfl) rfl (by show 2 * 0 + _ ≤ _; exact Nat.le_of_eq rfl) (hb hby own_d8_5) ?_
      intro v117 T117 L117 X117 q117
      obtain ⟨rfl, N117q, e117⟩ := q117
      have N117 := Fr.app N116 N117q
      show own_Goes p e below s _ _ _ T117 (mkF m 8 #[rv ra, rv rb, .unset, .unset, .unset, .unset] [(.int (0 : Int32)), (.int (1 : Int32))])
      refine own_callS X117 hx hZ hown (hw _ (List.mem_of_getElem? (i := 62) rfl)) (hw _ (List.mem_of_getElem? (i := 63) rfl)) (hw _ (List.mem_of_getElem? (i := 64) rfl)) (hw _ (List.mem_of_getElem? (i := 65) rfl)) (by decide) (own_min10 l Z a0 hw []  h0 n0 Z0 ) 0 (by decide) (by decide) (by decide) (by decide) e117 (g := (mkF m 8 #[rv ra, rv rb, .unset, .unset, .unset, .unset] [(.int (0 : Int32)), (.int (1 : Int32))])) rfl (by rw [hml]; rfl) (argsL := [(.int (1 : Int32)), (.int (0 : Int32))]) (rest := []) (lenOf own_pd17 rfl) rfl (by show 2 * 0 + _ ≤ _; exact Nat.le_of_eq rfl) (hb hby own_d8_8) ?_
      intro v118 T118 L118 X118 q118
      obtain ⟨rfl, N118q, e118⟩ := q118
      have N118 := Fr.app N117 N118q
      show own_Goes p e below s _ _ _ T118 (mkF m 11 #[rv ra, rv rb, .unset, .unset, .unset, .unset] [(.int (0 : Int32))])
      refine own_by (g' := (mkF m 59 #[rv ra, rv rb, iv (0 : Int32), iv (0 : Int32), .unset, .unset] [(.ref ra)])) (fun t k => XS.istoreN X118.here hx rfl (hb hby own_d8_11) rfl (l' := #[rv ra, rv rb, iv (0 : Int32), .unset, .unset, .unset]) rfl (XS.iconst X118.here hx rfl (hb hby own_d8_12) (XS.istoreN X118.here hx rfl (hb hby own_d8_13) rfl (l' := #[rv ra, rv rb, iv (0 : Int32), iv (0 : Int32), .unset, .unset]) rfl (XS.iloadN X118.here hx rfl (hb hby own_d8_14) rfl (XS.iloadN X118.here hx rfl (hb hby own_d8_15) rfl (XS.icmpYes X118.here hx rfl (pc0 := 16) (pc' := 58) rfl (hb hby own_d8_16) rfl (flt (by decide : ¬ ((0 : Int32) < (0 : Int32)))).2.1 (by decide) (by decide) (XS.aloadN X118.here hx rfl (hb hby own_d8_58) rfl rfl k))))))) ?_
      refine own_callV X118 hx hZ hown (hw _ (List.mem_of_getElem? (i := 51) rfl)) (hw _ (List.mem_of_getElem? (i := 52) rfl)) (notFace_of_selects (args := #[]) (mvT hZ (hw _ (List.mem_of_getElem? (i := 54) rfl)))) (hw _ (List.mem_of_getElem? (i := 54) rfl)) (hw _ (List.mem_of_getElem? (i := 53) rfl)) (hw _ (List.mem_of_getElem? (i := 55) rfl)) (hw _ (List.mem_of_getElem? (i := 10) rfl)) (by decide) (a := ra) E1a (own_slen1 l Z a0 hw [] (ra) (baa) (kba) (cda) (lna) (vsa) (zcs) h0 n0 Z0 O0 S_cs (by first | assumption | decide) E1a F1a F2a V1a (by first | assumption | decide)) 0 (by decide) (by decide) (by decide) (by decide) e118 (g := (mkF m 59 #[rv ra, rv rb, iv (0 : Int32), iv (0 : Int32), .unset, .unset] [(.ref ra)])) rfl (by rw [hml]; rfl) (argsL := []) (rest := []) (lenOf own_pd18 rfl) rfl (by show 2 * 0 + _ ≤ _; exact Nat.le_of_eq rfl) (hb hby own_d8_59) ?_
      intro v119 T119 L119 X119 q119
      obtain ⟨rfl, N119q, e119⟩ := q119
      have N119 := Fr.app N118 N119q
      show own_Goes p e below s _ _ _ T119 (mkF m 62 #[rv ra, rv rb, iv (0 : Int32), iv (0 : Int32), .unset, .unset] [(.int (1 : Int32))])
      refine own_by (g' := (mkF m 63 #[rv ra, rv rb, iv (0 : Int32), iv (0 : Int32), .unset, .unset] [(.ref rb), (.int (1 : Int32))])) (fun t k => XS.aloadN X119.here hx rfl (hb hby own_d8_62) rfl rfl k) ?_
      refine own_callV X119 hx hZ hown (hw _ (List.mem_of_getElem? (i := 51) rfl)) (hw _ (List.mem_of_getElem? (i := 52) rfl)) (notFace_of_selects (args := #[]) (mvT hZ (hw _ (List.mem_of_getElem? (i := 54) rfl)))) (hw _ (List.mem_of_getElem? (i := 54) rfl)) (hw _ (List.mem_of_getElem? (i := 53) rfl)) (hw _ (List.mem_of_getElem? (i := 55) rfl)) (hw _ (List.mem_of_getElem? (i := 10) rfl)) (by decide) (a := rb) E1b (own_slen0 l Z a0 hw [] (rb) (bab) (kbb) (cdb) (lnb) (vsb) (zcs) h0 n0 Z0 O0 S_cs (by first | assumption | decide) E1b F1b F2b V1b (by first | assumption | decide)) 1 (by decide) (by decide) (by decide) (by decide) e119 (g := (mkF m 63 #[rv ra, rv rb, iv (0 : Int32), iv (0 : Int32), .unset, .unset] [(.ref rb), (.int (1 : Int32))])) rfl (by rw [hml]; rfl) (argsL := []) (rest := [(.int (1 : Int32))]) (lenOf own_pd18 rfl) rfl (by show 2 * 0 + _ ≤ _; exact Nat.le_of_eq rfl) (hb hby own_d8_63) ?_
      intro v120 T120 L120 X120 q120
      obtain ⟨rfl, N120q, e120⟩ := q120
      have N120 := Fr.app N119 N120q
      show own_Goes p e below s _ _ _ T120 (mkF m 66 #[rv ra, rv rb, iv (0 : Int32), iv (0 : Int32), .unset, .unset] [(.int (0 : Int32)), (.int (1 : Int32))])
      refine own_by (g' := (mkF m 67 #[rv ra, rv rb, iv (0 : Int32), iv (0 : Int32), .unset, .unset] [(.int (1 : Int32))])) (fun t k => XS.isub X120.here hx rfl (hb hby own_d8_66) rfl k) ?_
      refine own_retI X120 hx hlk hret (hb hby own_d8_67) (by decide) (by decide) ?_
      exact ⟨(by simp [own_cmp]; try decide), N120, e120⟩
    ·
      refine own_by (g' := (mkF m 1 #[rv ra, rv rb, .unset, .unset, .unset, .unset] [(.ref ra)])) (fun t k => XS.aloadN X0.here hx rfl (hb hby own_d8_0) rfl rfl k) ?_
      refine own_callV X0 hx hZ hown (hw _ (List.mem_of_getElem? (i := 51) rfl)) (hw _ (List.mem_of_getElem? (i := 52) rfl)) (notFace_of_selects (args := #[]) (mvT hZ (hw _ (List.mem_of_getElem? (i := 54) rfl)))) (hw _ (List.mem_of_getElem? (i := 54) rfl)) (hw _ (List.mem_of_getElem? (i := 53) rfl)) (hw _ (List.mem_of_getElem? (i := 55) rfl)) (hw _ (List.mem_of_getElem? (i := 10) rfl)) (by decide) (a := ra) E1a (own_slen1 l Z a0 hw [] (ra) (baa) (kba) (cda) (lna) (vsa) (zcs) h0 n0 Z0 O0 S_cs (by first | assumption | decide) E1a F1a F2a V1a (by first | assumption | decide)) 0 (by decide) (by decide) (by decide) (by decide) e0 (g := (mkF m 1 #[rv ra, rv rb, .unset, .unset, .unset, .unset] [(.ref ra)])) rfl (by rw [hml]; rfl) (argsL := []) (rest := []) (lenOf own_pd18 rfl) rfl (by show 2 * 0 + _ ≤ _; exact Nat.le_of_eq rfl) (hb hby own_d8_1) ?_
      intro v121 T121 L121 X121 q121
      obtain ⟨rfl, N121q, e121⟩ := q121
      have N121 := Fr.app N0 N121q
      show own_Goes p e below s _ _ _ T121 (mkF m 4 #[rv ra, rv rb, .unset, .unset, .unset, .unset] [(.int (1 : Int32))])
      refine own_by (g' := (mkF m 5 #[rv ra, rv rb, .unset, .unset, .unset, .unset] [(.ref rb), (.int (1 : Int32))])) (fun t k => XS.aloadN X121.here hx rfl (hb hby own_d8_4) rfl rfl k) ?_
      refine own_callV X121 hx hZ hown (hw _ (List.mem_of_getElem? (i := 51) rfl)) (hw _ (List.mem_of_getElem? (i := 52) rfl)) (notFace_of_selects (args := #[]) (mvT hZ (hw _ (List.mem_of_getElem? (i := 54) rfl)))) (hw _ (List.mem_of_getElem? (i := 54) rfl)) (hw _ (List.mem_of_getElem? (i := 53) rfl)) (hw _ (List.mem_of_getElem? (i := 55) rfl)) (hw _ (List.mem_of_getElem? (i := 10) rfl)) (by decide) (a := rb) E1b (own_slen1 l Z a0 hw [] (rb) (bab) (kbb) (cdb) (lnb) (vsb) (zcs) h0 n0 Z0 O0 S_cs (by first | assumption | decide) E1b F1b F2b V1b (by first | assumption | decide)) 1 (by decide) (by decide) (by decide) (by decide) e121 (g := (mkF m 5 #[rv ra, rv rb, .unset, .unset, .unset, .unset] [(.ref rb), (.int (1 : Int32))])) rfl (by rw [hml]; rfl) (argsL := []) (rest := [(.int (1 : Int32))]) (lenOf own_pd18 rfl) rfl (by show 2 * 0 + _ ≤ _; exact Nat.le_of_eq rfl) (hb hby own_d8_5) ?_
      intro v122 T122 L122 X122 q122
      obtain ⟨rfl, N122q, e122⟩ := q122
      have N122 := Fr.app N121 N122q
      show own_Goes p e below s _ _ _ T122 (mkF m 8 #[rv ra, rv rb, .unset, .unset, .unset, .unset] [(.int (1 : Int32)), (.int (1 : Int32))])
      refine own_callS X122 hx hZ hown (hw _ (List.mem_of_getElem? (i := 62) rfl)) (hw _ (List.mem_of_getElem? (i := 63) rfl)) (hw _ (List.mem_of_getElem? (i := 64) rfl)) (hw _ (List.mem_of_getElem? (i := 65) rfl)) (by decide) (own_min11 l Z a0 hw []  h0 n0 Z0 ) 0 (by decide) (by decide) (by decide) (by decide) e122 (g := (mkF m 8 #[rv ra, rv rb, .unset, .unset, .unset, .unset] [(.int (1 : Int32)), (.int (1 : Int32))])) rfl (by rw [hml]; rfl) (argsL := [(.int (1 : Int32)), (.int (1 : Int32))]) (rest := []) (lenOf own_pd17 rfl) rfl (by show 2 * 0 + _ ≤ _; exact Nat.le_of_eq rfl) (hb hby own_d8_8) ?_
      intro v123 T123 L123 X123 q123
      obtain ⟨rfl, N123q, e123⟩ := q123
      have N123 := Fr.app N122 N123q
      show own_Goes p e below s _ _ _ T123 (mkF m 11 #[rv ra, rv rb, .unset, .unset, .unset, .unset] [(.int (1 : Int32))])
      refine own_by (g' := (mkF m 21 #[rv ra, rv rb, iv (1 : Int32), iv (0 : Int32), .unset, .unset] [(.int (0 : Int32)), (.ref ra)])) (fun t k => XS.istoreN X123.here hx rfl (hb hby own_d8_11) rfl (l' := #[rv ra, rv rb, iv (1 : Int32), .unset, .unset, .unset]) rfl (XS.iconst X123.here hx rfl (hb hby own_d8_12) (XS.istoreN X123.here hx rfl (hb hby own_d8_13) rfl (l' := #[rv ra, rv rb, iv (1 : Int32), iv (0 : Int32), .unset, .unset]) rfl (XS.iloadN X123.here hx rfl (hb hby own_d8_14) rfl (XS.iloadN X123.here hx rfl (hb hby own_d8_15) rfl (XS.icmpNo X123.here hx rfl (hb hby own_d8_16) rfl (tlt (by decide : (0 : Int32) < (1 : Int32))).2.1 (XS.aloadN X123.here hx rfl (hb hby own_d8_19) rfl rfl (XS.iloadN X123.here hx rfl (hb hby own_d8_20) rfl k)))))))) ?_
      refine own_callV X123 hx hZ hown (hw _ (List.mem_of_getElem? (i := 93) rfl)) (hw _ (List.mem_of_getElem? (i := 94) rfl)) (notFace_of_selects (args := #[]) (mvT hZ (hw _ (List.mem_of_getElem? (i := 96) rfl)))) (hw _ (List.mem_of_getElem? (i := 96) rfl)) (hw _ (List.mem_of_getElem? (i := 95) rfl)) (hw _ (List.mem_of_getElem? (i := 97) rfl)) (hw _ (List.mem_of_getElem? (i := 10) rfl)) (by decide) (a := ra) E1a (own_schar0 l Z a0 hw [] (ra) (baa) (kba) (cda) (lna) (vsa) (xa0) (zcs) (vsf) h0 n0 Z0 O0 S_cs (by first | assumption | decide) S_ad S_hi S_lo S_sf r_sf E1a F1a F2a V1a (by first | assumption | decide) (by first | assumption | decide)) 0 (by decide) (by decide) (by decide) (by decide) e123 (g := (mkF m 21 #[rv ra, rv rb, iv (1 : Int32), iv (0 : Int32), .unset, .unset] [(.int (0 : Int32)), (.ref ra)])) rfl (by rw [hml]; rfl) (argsL := [(.int (0 : Int32))]) (rest := []) (lenOf own_pd19 rfl) rfl (by show 2 * 0 + _ ≤ _; exact Nat.le_of_eq rfl) (hb hby own_d8_21) ?_
      intro v124 T124 L124 X124 q124
      obtain ⟨rfl, N124q, e124⟩ := q124
      have N124 := Fr.app N123 N124q
      show own_Goes p e below s _ _ _ T124 (mkF m 24 #[rv ra, rv rb, iv (1 : Int32), iv (0 : Int32), .unset, .unset] [(.int xa0)])
      refine own_by (g' := (mkF m 28 #[rv ra, rv rb, iv (1 : Int32), iv (0 : Int32), iv xa0, .unset] [(.int (0 : Int32)), (.ref rb)])) (fun t k => XS.istore X124.here hx rfl (hb hby own_d8_24) rfl (l' := #[rv ra, rv rb, iv (1 : Int32), iv (0 : Int32), iv xa0, .unset]) rfl (XS.aloadN X124.here hx rfl (hb hby own_d8_26) rfl rfl (XS.iloadN X124.here hx rfl (hb hby own_d8_27) rfl k))) ?_
      refine own_callV X124 hx hZ hown (hw _ (List.mem_of_getElem? (i := 93) rfl)) (hw _ (List.mem_of_getElem? (i := 94) rfl)) (notFace_of_selects (args := #[]) (mvT hZ (hw _ (List.mem_of_getElem? (i := 96) rfl)))) (hw _ (List.mem_of_getElem? (i := 96) rfl)) (hw _ (List.mem_of_getElem? (i := 95) rfl)) (hw _ (List.mem_of_getElem? (i := 97) rfl)) (hw _ (List.mem_of_getElem? (i := 10) rfl)) (by decide) (a := rb) E1b (own_schar0 l Z a0 hw [] (rb) (bab) (kbb) (cdb) (lnb) (vsb) (xb0) (zcs) (vsf) h0 n0 Z0 O0 S_cs (by first | assumption | decide) S_ad S_hi S_lo S_sf r_sf E1b F1b F2b V1b (by first | assumption | decide) (by first | assumption | decide)) 0 (by decide) (by decide) (by decide) (by decide) e124 (g := (mkF m 28 #[rv ra, rv rb, iv (1 : Int32), iv (0 : Int32), iv xa0, .unset] [(.int (0 : Int32)), (.ref rb)])) rfl (by rw [hml]; rfl) (argsL := [(.int (0 : Int32))]) (rest := []) (lenOf own_pd19 rfl) rfl (by show 2 * 0 + _ ≤ _; exact Nat.le_of_eq rfl) (hb hby own_d8_28) ?_
      intro v125 T125 L125 X125 q125
      obtain ⟨rfl, N125q, e125⟩ := q125
      have N125 := Fr.app N124 N125q
      show own_Goes p e below s _ _ _ T125 (mkF m 31 #[rv ra, rv rb, iv (1 : Int32), iv (0 : Int32), iv xa0, .unset] [(.int xb0)])
      refine own_by (g' := (mkF m 37 #[rv ra, rv rb, iv (1 : Int32), iv (0 : Int32), iv xa0, iv xb0] [(.int xb0), (.int xa0)])) (fun t k => XS.istore X125.here hx rfl (hb hby own_d8_31) rfl (l' := #[rv ra, rv rb, iv (1 : Int32), iv (0 : Int32), iv xa0, iv xb0]) rfl (XS.iload X125.here hx rfl (hb hby own_d8_33) rfl (XS.iload X125.here hx rfl (hb hby own_d8_35) rfl k))) ?_
      by_cases hc126 : xa0 = xb0
      ·
        refine own_by (g' := (mkF m 59 #[rv ra, rv rb, iv (1 : Int32), iv (1 : Int32), iv xa0, iv xb0] [(.ref ra)])) (fun t k => XS.icmpYes X125.here hx rfl (pc0 := 37) (pc' := 52) rfl (hb hby own_d8_37) rfl (teq hc126).1 (by decide) (by decide) (XS.iinc X125.here hx rfl (hb hby own_d8_52) rfl (l' := #[rv ra, rv rb, iv (1 : Int32), iv (1 : Int32), iv xa0, iv xb0]) rfl (XS.goto X125.here hx rfl (pc0 := 55) (pc' := 14) rfl (hb hby own_d8_55) (by decide) (by decide) (XS.iloadN X125.here hx rfl (hb hby own_d8_14) rfl (XS.iloadN X125.here hx rfl (hb hby own_d8_15) rfl (XS.icmpYes X125.here hx rfl (pc0 := 16) (pc' := 58) rfl (hb hby own_d8_16) rfl (flt (by decide : ¬ ((1 : Int32) < (1 : Int32)))).2.1 (by decide) (by decide) (XS.aloadN X125.here hx rfl (hb hby own_d8_58) rfl rfl k))))))) ?_
        refine own_callV X125 hx hZ hown (hw _ (List.mem_of_getElem? (i := 51) rfl)) (hw _ (List.mem_of_getElem? (i := 52) rfl)) (notFace_of_selects (args := #[]) (mvT hZ (hw _ (List.mem_of_getElem? (i := 54) rfl)))) (hw _ (List.mem_of_getElem? (i := 54) rfl)) (hw _ (List.mem_of_getElem? (i := 53) rfl)) (hw _ (List.mem_of_getElem? (i := 55) rfl)) (hw _ (List.mem_of_getElem? (i := 10) rfl)) (by decide) (a := ra) E1a (own_slen1 l Z a0 hw [] (ra) (baa) (kba) (cda) (lna) (vsa) (zcs) h0 n0 Z0 O0 S_cs (by first | assumption | decide) E1a F1a F2a V1a (by first | assumption | decide)) 0 (by decide) (by decide) (by decide) (by decide) e125 (g := (mkF m 59 #[rv ra, rv rb, iv (1 : Int32), iv (1 : Int32), iv xa0, iv xb0] [(.ref ra)])) rfl (by rw [hml]; rfl) (argsL := []) (rest := []) (lenOf own_pd18 rfl) rfl (by show 2 * 0 + _ ≤ _; exact Nat.le_of_eq rfl) (hb hby own_d8_59) ?_
        intro v127 T127 L127 X127 q127
        obtain ⟨rfl, N127q, e127⟩ := q127
        have N127 := Fr.app N125 N127q
        show own_Goes p e below s _ _ _ T127 (mkF m 62 #[rv ra, rv rb, iv (1 : Int32), iv (1 : Int32), iv xa0, iv xb0] [(.int (1 : Int32))])
        refine own_by (g' := (mkF m 63 #[rv ra, rv rb, iv (1 : Int32), iv (1 : Int32), iv xa0, iv xb0] [(.ref rb), (.int (1 : Int32))])) (fun t k => XS.aloadN X127.here hx rfl (hb hby own_d8_62) rfl rfl k) ?_
        refine own_callV X127 hx hZ hown (hw _ (List.mem_of_getElem? (i := 51) rfl)) (hw _ (List.mem_of_getElem? (i := 52) rfl)) (notFace_of_selects (args := #[]) (mvT hZ (hw _ (List.mem_of_getElem? (i := 54) rfl)))) (hw _ (List.mem_of_getElem? (i := 54) rfl)) (hw _ (List.mem_of_getElem? (i := 53) rfl)) (hw _ (List.mem_of_getElem? (i := 55) rfl)) (hw _ (List.mem_of_getElem? (i := 10) rfl)) (by decide) (a := rb) E1b (own_slen1 l Z a0 hw [] (rb) (bab) (kbb) (cdb) (lnb) (vsb) (zcs) h0 n0 Z0 O0 S_cs (by first | assumption | decide) E1b F1b F2b V1b (by first | assumption | decide)) 1 (by decide) (by decide) (by decide) (by decide) e127 (g := (mkF m 63 #[rv ra, rv rb, iv (1 : Int32), iv (1 : Int32), iv xa0, iv xb0] [(.ref rb), (.int (1 : Int32))])) rfl (by rw [hml]; rfl) (argsL := []) (rest := [(.int (1 : Int32))]) (lenOf own_pd18 rfl) rfl (by show 2 * 0 + _ ≤ _; exact Nat.le_of_eq rfl) (hb hby own_d8_63) ?_
        intro v128 T128 L128 X128 q128
        obtain ⟨rfl, N128q, e128⟩ := q128
        have N128 := Fr.app N127 N128q
        show own_Goes p e below s _ _ _ T128 (mkF m 66 #[rv ra, rv rb, iv (1 : Int32), iv (1 : Int32), iv xa0, iv xb0] [(.int (1 : Int32)), (.int (1 : Int32))])
        refine own_by (g' := (mkF m 67 #[rv ra, rv rb, iv (1 : Int32), iv (1 : Int32), iv xa0, iv xb0] [(.int (0 : Int32))])) (fun t k => XS.isub X128.here hx rfl (hb hby own_d8_66) rfl k) ?_
        refine own_retI X128 hx hlk hret (hb hby own_d8_67) (by decide) (by decide) ?_
        exact ⟨(by simp [own_cmp, hc126]; try decide), N128, e128⟩
      ·
        refine own_by (g' := (mkF m 42 #[rv ra, rv rb, iv (1 : Int32), iv (0 : Int32), iv xa0, iv xb0] [(.int xa0)])) (fun t k => XS.icmpNo X125.here hx rfl (hb hby own_d8_37) rfl (feq hc126).1 (XS.iload X125.here hx rfl (hb hby own_d8_40) rfl k)) ?_
        refine own_callS X125 hx hZ hown (hw _ (List.mem_of_getElem? (i := 144) rfl)) (hw _ (List.mem_of_getElem? (i := 145) rfl)) (hw _ (List.mem_of_getElem? (i := 3) rfl)) (hw _ (List.mem_of_getElem? (i := 146) rfl)) (by decide) (own_wgt l Z a0 hw [] (xa0) h0 n0 Z0 ) 0 (by decide) (by decide) (by decide) (by decide) e125 (g := (mkF m 42 #[rv ra, rv rb, iv (1 : Int32), iv (0 : Int32), iv xa0, iv xb0] [(.int xa0)])) rfl (by rw [hml]; rfl) (argsL := [(.int xa0)]) (rest := []) (lenOf own_pd15 rfl) rfl (by show 2 * 0 + _ ≤ _; exact Nat.le_of_eq rfl) (hb hby own_d8_42) ?_
        intro v129 T129 L129 X129 q129
        obtain ⟨rfl, N129q, e129⟩ := q129
        have N129 := Fr.app N125 N129q
        show own_Goes p e below s _ _ _ T129 (mkF m 45 #[rv ra, rv rb, iv (1 : Int32), iv (0 : Int32), iv xa0, iv xb0] [(.int (own_wt xa0))])
        refine own_by (g' := (mkF m 47 #[rv ra, rv rb, iv (1 : Int32), iv (0 : Int32), iv xa0, iv xb0] [(.int xb0), (.int (own_wt xa0))])) (fun t k => XS.iload X129.here hx rfl (hb hby own_d8_45) rfl k) ?_
        refine own_callS X129 hx hZ hown (hw _ (List.mem_of_getElem? (i := 144) rfl)) (hw _ (List.mem_of_getElem? (i := 145) rfl)) (hw _ (List.mem_of_getElem? (i := 3) rfl)) (hw _ (List.mem_of_getElem? (i := 146) rfl)) (by decide) (own_wgt l Z a0 hw [] (xb0) h0 n0 Z0 ) 1 (by decide) (by decide) (by decide) (by decide) e129 (g := (mkF m 47 #[rv ra, rv rb, iv (1 : Int32), iv (0 : Int32), iv xa0, iv xb0] [(.int xb0), (.int (own_wt xa0))])) rfl (by rw [hml]; rfl) (argsL := [(.int xb0)]) (rest := [(.int (own_wt xa0))]) (lenOf own_pd15 rfl) rfl (by show 2 * 0 + _ ≤ _; exact Nat.le_of_eq rfl) (hb hby own_d8_47) ?_
        intro v130 T130 L130 X130 q130
        obtain ⟨rfl, N130q, e130⟩ := q130
        have N130 := Fr.app N129 N130q
        show own_Goes p e below s _ _ _ T130 (mkF m 50 #[rv ra, rv rb, iv (1 : Int32), iv (0 : Int32), iv xa0, iv xb0] [(.int (own_wt xb0)), (.int (own_wt xa0))])
        refine own_by (g' := (mkF m 51 #[rv ra, rv rb, iv (1 : Int32), iv (0 : Int32), iv xa0, iv xb0] [(.int ((own_wt xa0) - (own_wt xb0)))])) (fun t k => XS.isub X130.here hx rfl (hb hby own_d8_50) rfl k) ?_
        refine own_retI X130 hx hlk hret (hb hby own_d8_51) (by decide) (by decide) ?_
        exact ⟨(by simp [own_cmp, hc126]; try decide), N130, e130⟩
    ·
      refine own_by (g' := (mkF m 1 #[rv ra, rv rb, .unset, .unset, .unset, .unset] [(.ref ra)])) (fun t k => XS.aloadN X0.here hx rfl (hb hby own_d8_0) rfl rfl k) ?_
      refine own_callV X0 hx hZ hown (hw _ (List.mem_of_getElem? (i := 51) rfl)) (hw _ (List.mem_of_getElem? (i := 52) rfl)) (notFace_of_selects (args := #[]) (mvT hZ (hw _ (List.mem_of_getElem? (i := 54) rfl)))) (hw _ (List.mem_of_getElem? (i := 54) rfl)) (hw _ (List.mem_of_getElem? (i := 53) rfl)) (hw _ (List.mem_of_getElem? (i := 55) rfl)) (hw _ (List.mem_of_getElem? (i := 10) rfl)) (by decide) (a := ra) E1a (own_slen1 l Z a0 hw [] (ra) (baa) (kba) (cda) (lna) (vsa) (zcs) h0 n0 Z0 O0 S_cs (by first | assumption | decide) E1a F1a F2a V1a (by first | assumption | decide)) 0 (by decide) (by decide) (by decide) (by decide) e0 (g := (mkF m 1 #[rv ra, rv rb, .unset, .unset, .unset, .unset] [(.ref ra)])) rfl (by rw [hml]; rfl) (argsL := []) (rest := []) (lenOf own_pd18 rfl) rfl (by show 2 * 0 + _ ≤ _; exact Nat.le_of_eq rfl) (hb hby own_d8_1) ?_
      intro v131 T131 L131 X131 q131
      obtain ⟨rfl, N131q, e131⟩ := q131
      have N131 := Fr.app N0 N131q
      show own_Goes p e below s _ _ _ T131 (mkF m 4 #[rv ra, rv rb, .unset, .unset, .unset, .unset] [(.int (1 : Int32))])
      refine own_by (g' := (mkF m 5 #[rv ra, rv rb, .unset, .unset, .unset, .unset] [(.ref rb), (.int (1 : Int32))])) (fun t k => XS.aloadN X131.here hx rfl (hb hby own_d8_4) rfl rfl k) ?_
      refine own_callV X131 hx hZ hown (hw _ (List.mem_of_getElem? (i := 51) rfl)) (hw _ (List.mem_of_getElem? (i := 52) rfl)) (notFace_of_selects (args := #[]) (mvT hZ (hw _ (List.mem_of_getElem? (i := 54) rfl)))) (hw _ (List.mem_of_getElem? (i := 54) rfl)) (hw _ (List.mem_of_getElem? (i := 53) rfl)) (hw _ (List.mem_of_getElem? (i := 55) rfl)) (hw _ (List.mem_of_getElem? (i := 10) rfl)) (by decide) (a := rb) E1b (own_slen2 l Z a0 hw [] (rb) (bab) (kbb) (cdb) (lnb) (vsb) (zcs) h0 n0 Z0 O0 S_cs (by first | assumption | decide) E1b F1b F2b V1b (by first | assumption | decide)) 1 (by decide) (by decide) (by decide) (by decide) e131 (g := (mkF m 5 #[rv ra, rv rb, .unset, .unset, .unset, .unset] [(.ref rb), (.int (1 : Int32))])) rfl (by rw [hml]; rfl) (argsL := []) (rest := [(.int (1 : Int32))]) (lenOf own_pd18 rfl) rfl (by show 2 * 0 + _ ≤ _; exact Nat.le_of_eq rfl) (hb hby own_d8_5) ?_
      intro v132 T132 L132 X132 q132
      obtain ⟨rfl, N132q, e132⟩ := q132
      have N132 := Fr.app N131 N132q
      show own_Goes p e below s _ _ _ T132 (mkF m 8 #[rv ra, rv rb, .unset, .unset, .unset, .unset] [(.int (2 : Int32)), (.int (1 : Int32))])
      refine own_callS X132 hx hZ hown (hw _ (List.mem_of_getElem? (i := 62) rfl)) (hw _ (List.mem_of_getElem? (i := 63) rfl)) (hw _ (List.mem_of_getElem? (i := 64) rfl)) (hw _ (List.mem_of_getElem? (i := 65) rfl)) (by decide) (own_min12 l Z a0 hw []  h0 n0 Z0 ) 0 (by decide) (by decide) (by decide) (by decide) e132 (g := (mkF m 8 #[rv ra, rv rb, .unset, .unset, .unset, .unset] [(.int (2 : Int32)), (.int (1 : Int32))])) rfl (by rw [hml]; rfl) (argsL := [(.int (1 : Int32)), (.int (2 : Int32))]) (rest := []) (lenOf own_pd17 rfl) rfl (by show 2 * 0 + _ ≤ _; exact Nat.le_of_eq rfl) (hb hby own_d8_8) ?_
      intro v133 T133 L133 X133 q133
      obtain ⟨rfl, N133q, e133⟩ := q133
      have N133 := Fr.app N132 N133q
      show own_Goes p e below s _ _ _ T133 (mkF m 11 #[rv ra, rv rb, .unset, .unset, .unset, .unset] [(.int (1 : Int32))])
      refine own_by (g' := (mkF m 21 #[rv ra, rv rb, iv (1 : Int32), iv (0 : Int32), .unset, .unset] [(.int (0 : Int32)), (.ref ra)])) (fun t k => XS.istoreN X133.here hx rfl (hb hby own_d8_11) rfl (l' := #[rv ra, rv rb, iv (1 : Int32), .unset, .unset, .unset]) rfl (XS.iconst X133.here hx rfl (hb hby own_d8_12) (XS.istoreN X133.here hx rfl (hb hby own_d8_13) rfl (l' := #[rv ra, rv rb, iv (1 : Int32), iv (0 : Int32), .unset, .unset]) rfl (XS.iloadN X133.here hx rfl (hb hby own_d8_14) rfl (XS.iloadN X133.here hx rfl (hb hby own_d8_15) rfl (XS.icmpNo X133.here hx rfl (hb hby own_d8_16) rfl (tlt (by decide : (0 : Int32) < (1 : Int32))).2.1 (XS.aloadN X133.here hx rfl (hb hby own_d8_19) rfl rfl (XS.iloadN X133.here hx rfl (hb hby own_d8_20) rfl k)))))))) ?_
      refine own_callV X133 hx hZ hown (hw _ (List.mem_of_getElem? (i := 93) rfl)) (hw _ (List.mem_of_getElem? (i := 94) rfl)) (notFace_of_selects (args := #[]) (mvT hZ (hw _ (List.mem_of_getElem? (i := 96) rfl)))) (hw _ (List.mem_of_getElem? (i := 96) rfl)) (hw _ (List.mem_of_getElem? (i := 95) rfl)) (hw _ (List.mem_of_getElem? (i := 97) rfl)) (hw _ (List.mem_of_getElem? (i := 10) rfl)) (by decide) (a := ra) E1a (own_schar0 l Z a0 hw [] (ra) (baa) (kba) (cda) (lna) (vsa) (xa0) (zcs) (vsf) h0 n0 Z0 O0 S_cs (by first | assumption | decide) S_ad S_hi S_lo S_sf r_sf E1a F1a F2a V1a (by first | assumption | decide) (by first | assumption | decide)) 0 (by decide) (by decide) (by decide) (by decide) e133 (g := (mkF m 21 #[rv ra, rv rb, iv (1 : Int32), iv (0 : Int32), .unset, .unset] [(.int (0 : Int32)), (.ref ra)])) rfl (by rw [hml]; rfl) (argsL := [(.int (0 : Int32))]) (rest := []) (lenOf own_pd19 rfl) rfl (by show 2 * 0 + _ ≤ _; exact Nat.le_of_eq rfl) (hb hby own_d8_21) ?_
      intro v134 T134 L134 X134 q134
      obtain ⟨rfl, N134q, e134⟩ := q134
      have N134 := Fr.app N133 N134q
      show own_Goes p e below s _ _ _ T134 (mkF m 24 #[rv ra, rv rb, iv (1 : Int32), iv (0 : Int32), .unset, .unset] [(.int xa0)])
      refine own_by (g' := (mkF m 28 #[rv ra, rv rb, iv (1 : Int32), iv (0 : Int32), iv xa0, .unset] [(.int (0 : Int32)), (.ref rb)])) (fun t k => XS.istore X134.here hx rfl (hb hby own_d8_24) rfl (l' := #[rv ra, rv rb, iv (1 : Int32), iv (0 : Int32), iv xa0, .unset]) rfl (XS.aloadN X134.here hx rfl (hb hby own_d8_26) rfl rfl (XS.iloadN X134.here hx rfl (hb hby own_d8_27) rfl k))) ?_
      refine own_callV X134 hx hZ hown (hw _ (List.mem_of_getElem? (i := 93) rfl)) (hw _ (List.mem_of_getElem? (i := 94) rfl)) (notFace_of_selects (args := #[]) (mvT hZ (hw _ (List.mem_of_getElem? (i := 96) rfl)))) (hw _ (List.mem_of_getElem? (i := 96) rfl)) (hw _ (List.mem_of_getElem? (i := 95) rfl)) (hw _ (List.mem_of_getElem? (i := 97) rfl)) (hw _ (List.mem_of_getElem? (i := 10) rfl)) (by decide) (a := rb) E1b (own_schar0 l Z a0 hw [] (rb) (bab) (kbb) (cdb) (lnb) (vsb) (xb0) (zcs) (vsf) h0 n0 Z0 O0 S_cs (by first | assumption | decide) S_ad S_hi S_lo S_sf r_sf E1b F1b F2b V1b (by first | assumption | decide) (by first | assumption | decide)) 0 (by decide) (by decide) (by decide) (by decide) e134 (g := (mkF m 28 #[rv ra, rv rb, iv (1 : Int32), iv (0 : Int32), iv xa0, .unset] [(.int (0 : Int32)), (.ref rb)])) rfl (by rw [hml]; rfl) (argsL := [(.int (0 : Int32))]) (rest := []) (lenOf own_pd19 rfl) rfl (by show 2 * 0 + _ ≤ _; exact Nat.le_of_eq rfl) (hb hby own_d8_28) ?_
      intro v135 T135 L135 X135 q135
      obtain ⟨rfl, N135q, e135⟩ := q135
      have N135 := Fr.app N134 N135q
      show own_Goes p e below s _ _ _ T135 (mkF m 31 #[rv ra, rv rb, iv (1 : Int32), iv (0 : Int32), iv xa0, .unset] [(.int xb0)])
      refine own_by (g' := (mkF m 37 #[rv ra, rv rb, iv (1 : Int32), iv (0 : Int32), iv xa0, iv xb0] [(.int xb0), (.int xa0)])) (fun t k => XS.istore X135.here hx rfl (hb hby own_d8_31) rfl (l' := #[rv ra, rv rb, iv (1 : Int32), iv (0 : Int32), iv xa0, iv xb0]) rfl (XS.iload X135.here hx rfl (hb hby own_d8_33) rfl (XS.iload X135.here hx rfl (hb hby own_d8_35) rfl k))) ?_
      by_cases hc136 : xa0 = xb0
      ·
        refine own_by (g' := (mkF m 59 #[rv ra, rv rb, iv (1 : Int32), iv (1 : Int32), iv xa0, iv xb0] [(.ref ra)])) (fun t k => XS.icmpYes X135.here hx rfl (pc0 := 37) (pc' := 52) rfl (hb hby own_d8_37) rfl (teq hc136).1 (by decide) (by decide) (XS.iinc X135.here hx rfl (hb hby own_d8_52) rfl (l' := #[rv ra, rv rb, iv (1 : Int32), iv (1 : Int32), iv xa0, iv xb0]) rfl (XS.goto X135.here hx rfl (pc0 := 55) (pc' := 14) rfl (hb hby own_d8_55) (by decide) (by decide) (XS.iloadN X135.here hx rfl (hb hby own_d8_14) rfl (XS.iloadN X135.here hx rfl (hb hby own_d8_15) rfl (XS.icmpYes X135.here hx rfl (pc0 := 16) (pc' := 58) rfl (hb hby own_d8_16) rfl (flt (by decide : ¬ ((1 : Int32) < (1 : Int32)))).2.1 (by decide) (by decide) (XS.aloadN X135.here hx rfl (hb hby own_d8_58) rfl rfl k))))))) ?_
        refine own_callV X135 hx hZ hown (hw _ (List.mem_of_getElem? (i := 51) rfl)) (hw _ (List.mem_of_getElem? (i := 52) rfl)) (notFace_of_selects (args := #[]) (mvT hZ (hw _ (List.mem_of_getElem? (i := 54) rfl)))) (hw _ (List.mem_of_getElem? (i := 54) rfl)) (hw _ (List.mem_of_getElem? (i := 53) rfl)) (hw _ (List.mem_of_getElem? (i := 55) rfl)) (hw _ (List.mem_of_getElem? (i := 10) rfl)) (by decide) (a := ra) E1a (own_slen1 l Z a0 hw [] (ra) (baa) (kba) (cda) (lna) (vsa) (zcs) h0 n0 Z0 O0 S_cs (by first | assumption | decide) E1a F1a F2a V1a (by first | assumption | decide)) 0 (by decide) (by decide) (by decide) (by decide) e135 (g := (mkF m 59 #[rv ra, rv rb, iv (1 : Int32), iv (1 : Int32), iv xa0, iv xb0] [(.ref ra)])) rfl (by rw [hml]; rfl) (argsL := []) (rest := []) (lenOf own_pd18 rfl) rfl (by show 2 * 0 + _ ≤ _; exact Nat.le_of_eq rfl) (hb hby own_d8_59) ?_
        intro v137 T137 L137 X137 q137
        obtain ⟨rfl, N137q, e137⟩ := q137
        have N137 := Fr.app N135 N137q
        show own_Goes p e below s _ _ _ T137 (mkF m 62 #[rv ra, rv rb, iv (1 : Int32), iv (1 : Int32), iv xa0, iv xb0] [(.int (1 : Int32))])
        refine own_by (g' := (mkF m 63 #[rv ra, rv rb, iv (1 : Int32), iv (1 : Int32), iv xa0, iv xb0] [(.ref rb), (.int (1 : Int32))])) (fun t k => XS.aloadN X137.here hx rfl (hb hby own_d8_62) rfl rfl k) ?_
        refine own_callV X137 hx hZ hown (hw _ (List.mem_of_getElem? (i := 51) rfl)) (hw _ (List.mem_of_getElem? (i := 52) rfl)) (notFace_of_selects (args := #[]) (mvT hZ (hw _ (List.mem_of_getElem? (i := 54) rfl)))) (hw _ (List.mem_of_getElem? (i := 54) rfl)) (hw _ (List.mem_of_getElem? (i := 53) rfl)) (hw _ (List.mem_of_getElem? (i := 55) rfl)) (hw _ (List.mem_of_getElem? (i := 10) rfl)) (by decide) (a := rb) E1b (own_slen2 l Z a0 hw [] (rb) (bab) (kbb) (cdb) (lnb) (vsb) (zcs) h0 n0 Z0 O0 S_cs (by first | assumption | decide) E1b F1b F2b V1b (by first | assumption | decide)) 1 (by decide) (by decide) (by decide) (by decide) e137 (g := (mkF m 63 #[rv ra, rv rb, iv (1 : Int32), iv (1 : Int32), iv xa0, iv xb0] [(.ref rb), (.int (1 : Int32))])) rfl (by rw [hml]; rfl) (argsL := []) (rest := [(.int (1 : Int32))]) (lenOf own_pd18 rfl) rfl (by show 2 * 0 + _ ≤ _; exact Nat.le_of_eq rfl) (hb hby own_d8_63) ?_
        intro v138 T138 L138 X138 q138
        obtain ⟨rfl, N138q, e138⟩ := q138
        have N138 := Fr.app N137 N138q
        show own_Goes p e below s _ _ _ T138 (mkF m 66 #[rv ra, rv rb, iv (1 : Int32), iv (1 : Int32), iv xa0, iv xb0] [(.int (2 : Int32)), (.int (1 : Int32))])
        refine own_by (g' := (mkF m 67 #[rv ra, rv rb, iv (1 : Int32), iv (1 : Int32), iv xa0, iv xb0] [(.int (-1 : Int32))])) (fun t k => XS.isub X138.here hx rfl (hb hby own_d8_66) rfl k) ?_
        refine own_retI X138 hx hlk hret (hb hby own_d8_67) (by decide) (by decide) ?_
        exact ⟨(by simp [own_cmp, hc136]; try decide), N138, e138⟩
      ·
        refine own_by (g' := (mkF m 42 #[rv ra, rv rb, iv (1 : Int32), iv (0 : Int32), iv xa0, iv xb0] [(.int xa0)])) (fun t k => XS.icmpNo X135.here hx rfl (hb hby own_d8_37) rfl (feq hc136).1 (XS.iload X135.here hx rfl (hb hby own_d8_40) rfl k)) ?_
        refine own_callS X135 hx hZ hown (hw _ (List.mem_of_getElem? (i := 144) rfl)) (hw _ (List.mem_of_getElem? (i := 145) rfl)) (hw _ (List.mem_of_getElem? (i := 3) rfl)) (hw _ (List.mem_of_getElem? (i := 146) rfl)) (by decide) (own_wgt l Z a0 hw [] (xa0) h0 n0 Z0 ) 0 (by decide) (by decide) (by decide) (by decide) e135 (g := (mkF m 42 #[rv ra, rv rb, iv (1 : Int32), iv (0 : Int32), iv xa0, iv xb0] [(.int xa0)])) rfl (by rw [hml]; rfl) (argsL := [(.int xa0)]) (rest := []) (lenOf own_pd15 rfl) rfl (by show 2 * 0 + _ ≤ _; exact Nat.le_of_eq rfl) (hb hby own_d8_42) ?_
        intro v139 T139 L139 X139 q139
        obtain ⟨rfl, N139q, e139⟩ := q139
        have N139 := Fr.app N135 N139q
        show own_Goes p e below s _ _ _ T139 (mkF m 45 #[rv ra, rv rb, iv (1 : Int32), iv (0 : Int32), iv xa0, iv xb0] [(.int (own_wt xa0))])
        refine own_by (g' := (mkF m 47 #[rv ra, rv rb, iv (1 : Int32), iv (0 : Int32), iv xa0, iv xb0] [(.int xb0), (.int (own_wt xa0))])) (fun t k => XS.iload X139.here hx rfl (hb hby own_d8_45) rfl k) ?_
        refine own_callS X139 hx hZ hown (hw _ (List.mem_of_getElem? (i := 144) rfl)) (hw _ (List.mem_of_getElem? (i := 145) rfl)) (hw _ (List.mem_of_getElem? (i := 3) rfl)) (hw _ (List.mem_of_getElem? (i := 146) rfl)) (by decide) (own_wgt l Z a0 hw [] (xb0) h0 n0 Z0 ) 1 (by decide) (by decide) (by decide) (by decide) e139 (g := (mkF m 47 #[rv ra, rv rb, iv (1 : Int32), iv (0 : Int32), iv xa0, iv xb0] [(.int xb0), (.int (own_wt xa0))])) rfl (by rw [hml]; rfl) (argsL := [(.int xb0)]) (rest := [(.int (own_wt xa0))]) (lenOf own_pd15 rfl) rfl (by show 2 * 0 + _ ≤ _; exact Nat.le_of_eq rfl) (hb hby own_d8_47) ?_
        intro v140 T140 L140 X140 q140
        obtain ⟨rfl, N140q, e140⟩ := q140
        have N140 := Fr.app N139 N140q
        show own_Goes p e below s _ _ _ T140 (mkF m 50 #[rv ra, rv rb, iv (1 : Int32), iv (0 : Int32), iv xa0, iv xb0] [(.int (own_wt xb0)), (.int (own_wt xa0))])
        refine own_by (g' := (mkF m 51 #[rv ra, rv rb, iv (1 : Int32), iv (0 : Int32), iv xa0, iv xb0] [(.int ((own_wt xa0) - (own_wt xb0)))])) (fun t k => XS.isub X140.here hx rfl (hb hby own_d8_50) rfl k) ?_
        refine own_retI X140 hx hlk hret (hb hby own_d8_51) (by decide) (by decide) ?_
        exact ⟨(by simp [own_cmp, hc136]; try decide), N140, e140⟩
  ·
    rcases hsb with ⟨rfl, qlb⟩ | ⟨rfl, qlb, qbA⟩ | ⟨rfl, qlb, qbA, qbB⟩
    ·
      refine own_by (g' := (mkF m 1 #[rv ra, rv rb, .unset, .unset, .unset, .unset] [(.ref ra)])) (fun t k => XS.aloadN X0.here hx rfl (hb hby own_d8_0) rfl rfl k) ?_
      refine own_callV X0 hx hZ hown (hw _ (List.mem_of_getElem? (i := 51) rfl)) (hw _ (List.mem_of_getElem? (i := 52) rfl)) (notFace_of_selects (args := #[]) (mvT hZ (hw _ (List.mem_of_getElem? (i := 54) rfl)))) (hw _ (List.mem_of_getElem? (i := 54) rfl)) (hw _ (List.mem_of_getElem? (i := 53) rfl)) (hw _ (List.mem_of_getElem? (i := 55) rfl)) (hw _ (List.mem_of_getElem? (i := 10) rfl)) (by decide) (a := ra) E1a (own_slen2 l Z a0 hw [] (ra) (baa) (kba) (cda) (lna) (vsa) (zcs) h0 n0 Z0 O0 S_cs (by first | assumption | decide) E1a F1a F2a V1a (by first | assumption | decide)) 0 (by decide) (by decide) (by decide) (by decide) e0 (g := (mkF m 1 #[rv ra, rv rb, .unset, .unset, .unset, .unset] [(.ref ra)])) rfl (by rw [hml]; rfl) (argsL := []) (rest := []) (lenOf own_pd18 rfl) rfl (by show 2 * 0 + _ ≤ _; exact Nat.le_of_eq rfl) (hb hby own_d8_1) ?_
      intro v141 T141 L141 X141 q141
      obtain ⟨rfl, N141q, e141⟩ := q141
      have N141 := Fr.app N0 N141q
      show own_Goes p e below s _ _ _ T141 (mkF m 4 #[rv ra, rv rb, .unset, .unset, .unset, .unset] [(.int (2 : Int32))])
      refine own_by (g' := (mkF m 5 #[rv ra, rv rb, .unset, .unset, .unset, .unset] [(.ref rb), (.int (2 : Int32))])) (fun t k => XS.aloadN X141.here hx rfl (hb hby own_d8_4) rfl rfl k) ?_
      refine own_callV X141 hx hZ hown (hw _ (List.mem_of_getElem? (i := 51) rfl)) (hw _ (List.mem_of_getElem? (i := 52) rfl)) (notFace_of_selects (args := #[]) (mvT hZ (hw _ (List.mem_of_getElem? (i := 54) rfl)))) (hw _ (List.mem_of_getElem? (i := 54) rfl)) (hw _ (List.mem_of_getElem? (i := 53) rfl)) (hw _ (List.mem_of_getElem? (i := 55) rfl)) (hw _ (List.mem_of_getElem? (i := 10) rfl)) (by decide) (a := rb) E1b (own_slen0 l Z a0 hw [] (rb) (bab) (kbb) (cdb) (lnb) (vsb) (zcs) h0 n0 Z0 O0 S_cs (by first | assumption | decide) E1b F1b F2b V1b (by first | assumption | decide)) 1 (by decide) (by decide) (by decide) (by decide) e141 (g := (mkF m 5 #[rv ra, rv rb, .unset, .unset, .unset, .unset] [(.ref rb), (.int (2 : Int32))])) rfl (by rw [hml]; rfl) (argsL := []) (rest := [(.int (2 : Int32))]) (lenOf own_pd18 rfl) rfl (by show 2 * 0 + _ ≤ _; exact Nat.le_of_eq rfl) (hb hby own_d8_5) ?_
      intro v142 T142 L142 X142 q142
      obtain ⟨rfl, N142q, e142⟩ := q142
      have N142 := Fr.app N141 N142q
      show own_Goes p e below s _ _ _ T142 (mkF m 8 #[rv ra, rv rb, .unset, .unset, .unset, .unset] [(.int (0 : Int32)), (.int (2 : Int32))])
      refine own_callS X142 hx hZ hown (hw _ (List.mem_of_getElem? (i := 62) rfl)) (hw _ (List.mem_of_getElem? (i := 63) rfl)) (hw _ (List.mem_of_getElem? (i := 64) rfl)) (hw _ (List.mem_of_getElem? (i := 65) rfl)) (by decide) (own_min20 l Z a0 hw []  h0 n0 Z0 ) 0 (by decide) (by decide) (by decide) (by decide) e142 (g := (mkF m 8 #[rv ra, rv rb, .unset, .unset, .unset, .unset] [(.int (0 : Int32)), (.int (2 : Int32))])) rfl (by rw [hml]; rfl) (argsL := [(.int (2 : Int32)), (.int (0 : Int32))]) (rest := []) (lenOf own_pd17 rfl) rfl (by show 2 * 0 + _ ≤ _; exact Nat.le_of_eq rfl) (hb hby own_d8_8) ?_
      intro v143 T143 L143 X143 q143
      obtain ⟨rfl, N143q, e143⟩ := q143
      have N143 := Fr.app N142 N143q
      show own_Goes p e below s _ _ _ T143 (mkF m 11 #[rv ra, rv rb, .unset, .unset, .unset, .unset] [(.int (0 : Int32))])
      refine own_by (g' := (mkF m 59 #[rv ra, rv rb, iv (0 : Int32), iv (0 : Int32), .unset, .unset] [(.ref ra)])) (fun t k => XS.istoreN X143.here hx rfl (hb hby own_d8_11) rfl (l' := #[rv ra, rv rb, iv (0 : Int32), .unset, .unset, .unset]) rfl (XS.iconst X143.here hx rfl (hb hby own_d8_12) (XS.istoreN X143.here hx rfl (hb hby own_d8_13) rfl (l' := #[rv ra, rv rb, iv (0 : Int32), iv (0 : Int32), .unset, .unset]) rfl (XS.iloadN X143.here hx rfl (hb hby own_d8_14) rfl (XS.iloadN X143.here hx rfl (hb hby own_d8_15) rfl (XS.icmpYes X143.here hx rfl (pc0 := 16) (pc' := 58) rfl (hb hby own_d8_16) rfl (flt (by decide : ¬ ((0 : Int32) < (0 : Int32)))).2.1 (by decide) (by decide) (XS.aloadN X143.here hx rfl (hb hby own_d8_58) rfl rfl k))))))) ?_
      refine own_callV X143 hx hZ hown (hw _ (List.mem_of_getElem? (i := 51) rfl)) (hw _ (List.mem_of_getElem? (i := 52) rfl)) (notFace_of_selects (args := #[]) (mvT hZ (hw _ (List.mem_of_getElem? (i := 54) rfl)))) (hw _ (List.mem_of_getElem? (i := 54) rfl)) (hw _ (List.mem_of_getElem? (i := 53) rfl)) (hw _ (List.mem_of_getElem? (i := 55) rfl)) (hw _ (List.mem_of_getElem? (i := 10) rfl)) (by decide) (a := ra) E1a (own_slen2 l Z a0 hw [] (ra) (baa) (kba) (cda) (lna) (vsa) (zcs) h0 n0 Z0 O0 S_cs (by first | assumption | decide) E1a F1a F2a V1a (by first | assumption | decide)) 0 (by decide) (by decide) (by decide) (by decide) e143 (g := (mkF m 59 #[rv ra, rv rb, iv (0 : Int32), iv (0 : Int32), .unset, .unset] [(.ref ra)])) rfl (by rw [hml]; rfl) (argsL := []) (rest := []) (lenOf own_pd18 rfl) rfl (by show 2 * 0 + _ ≤ _; exact Nat.le_of_eq rfl) (hb hby own_d8_59) ?_
      intro v144 T144 L144 X144 q144
      obtain ⟨rfl, N144q, e144⟩ := q144
      have N144 := Fr.app N143 N144q
      show own_Goes p e below s _ _ _ T144 (mkF m 62 #[rv ra, rv rb, iv (0 : Int32), iv (0 : Int32), .unset, .unset] [(.int (2 : Int32))])
      refine own_by (g' := (mkF m 63 #[rv ra, rv rb, iv (0 : Int32), iv (0 : Int32), .unset, .unset] [(.ref rb), (.int (2 : Int32))])) (fun t k => XS.aloadN X144.here hx rfl (hb hby own_d8_62) rfl rfl k) ?_
      refine own_callV X144 hx hZ hown (hw _ (List.mem_of_getElem? (i := 51) rfl)) (hw _ (List.mem_of_getElem? (i := 52) rfl)) (notFace_of_selects (args := #[]) (mvT hZ (hw _ (List.mem_of_getElem? (i := 54) rfl)))) (hw _ (List.mem_of_getElem? (i := 54) rfl)) (hw _ (List.mem_of_getElem? (i := 53) rfl)) (hw _ (List.mem_of_getElem? (i := 55) rfl)) (hw _ (List.mem_of_getElem? (i := 10) rfl)) (by decide) (a := rb) E1b (own_slen0 l Z a0 hw [] (rb) (bab) (kbb) (cdb) (lnb) (vsb) (zcs) h0 n0 Z0 O0 S_cs (by first | assumption | decide) E1b F1b F2b V1b (by first | assumption | decide)) 1 (by decide) (by decide) (by decide) (by decide) e144 (g := (mkF m 63 #[rv ra, rv rb, iv (0 : Int32), iv (0 : Int32), .unset, .unset] [(.ref rb), (.int (2 : Int32))])) rfl (by rw [hml]; rfl) (argsL := []) (rest := [(.int (2 : Int32))]) (lenOf own_pd18 rfl) rfl (by show 2 * 0 + _ ≤ _; exact Nat.le_of_eq rfl) (hb hby own_d8_63) ?_
      intro v145 T145 L145 X145 q145
      obtain ⟨rfl, N145q, e145⟩ := q145
      have N145 := Fr.app N144 N145q
      show own_Goes p e below s _ _ _ T145 (mkF m 66 #[rv ra, rv rb, iv (0 : Int32), iv (0 : Int32), .unset, .unset] [(.int (0 : Int32)), (.int (2 : Int32))])
      refine own_by (g' := (mkF m 67 #[rv ra, rv rb, iv (0 : Int32), iv (0 : Int32), .unset, .unset] [(.int (2 : Int32))])) (fun t k => XS.isub X145.here hx rfl (hb hby own_d8_66) rfl k) ?_
      refine own_retI X145 hx hlk hret (hb hby own_d8_67) (by decide) (by decide) ?_
      exact ⟨(by simp [own_cmp]; try decide), N145, e145⟩
    ·
      refine own_by (g' := (mkF m 1 #[rv ra, rv rb, .unset, .unset, .unset, .unset] [(.ref ra)])) (fun t k => XS.aloadN X0.here hx rfl (hb hby own_d8_0) rfl rfl k) ?_
      refine own_callV X0 hx hZ hown (hw _ (List.mem_of_getElem? (i := 51) rfl)) (hw _ (List.mem_of_getElem? (i := 52) rfl)) (notFace_of_selects (args := #[]) (mvT hZ (hw _ (List.mem_of_getElem? (i := 54) rfl)))) (hw _ (List.mem_of_getElem? (i := 54) rfl)) (hw _ (List.mem_of_getElem? (i := 53) rfl)) (hw _ (List.mem_of_getElem? (i := 55) rfl)) (hw _ (List.mem_of_getElem? (i := 10) rfl)) (by decide) (a := ra) E1a (own_slen2 l Z a0 hw [] (ra) (baa) (kba) (cda) (lna) (vsa) (zcs) h0 n0 Z0 O0 S_cs (by first | assumption | decide) E1a F1a F2a V1a (by first | assumption | decide)) 0 (by decide) (by decide) (by decide) (by decide) e0 (g := (mkF m 1 #[rv ra, rv rb, .unset, .unset, .unset, .unset] [(.ref ra)])) rfl (by rw [hml]; rfl) (argsL := []) (rest := []) (lenOf own_pd18 rfl) rfl (by show 2 * 0 + _ ≤ _; exact Nat.le_of_eq rfl) (hb hby own_d8_1) ?_
      intro v146 T146 L146 X146 q146
      obtain ⟨rfl, N146q, e146⟩ := q146
      have N146 := Fr.app N0 N146q
      show own_Goes p e below s _ _ _ T146 (mkF m 4 #[rv ra, rv rb, .unset, .unset, .unset, .unset] [(.int (2 : Int32))])
      refine own_by (g' := (mkF m 5 #[rv ra, rv rb, .unset, .unset, .unset, .unset] [(.ref rb), (.int (2 : Int32))])) (fun t k => XS.aloadN X146.here hx rfl (hb hby own_d8_4) rfl rfl k) ?_
      refine own_callV X146 hx hZ hown (hw _ (List.mem_of_getElem? (i := 51) rfl)) (hw _ (List.mem_of_getElem? (i := 52) rfl)) (notFace_of_selects (args := #[]) (mvT hZ (hw _ (List.mem_of_getElem? (i := 54) rfl)))) (hw _ (List.mem_of_getElem? (i := 54) rfl)) (hw _ (List.mem_of_getElem? (i := 53) rfl)) (hw _ (List.mem_of_getElem? (i := 55) rfl)) (hw _ (List.mem_of_getElem? (i := 10) rfl)) (by decide) (a := rb) E1b (own_slen1 l Z a0 hw [] (rb) (bab) (kbb) (cdb) (lnb) (vsb) (zcs) h0 n0 Z0 O0 S_cs (by first | assumption | decide) E1b F1b F2b V1b (by first | assumption | decide)) 1 (by decide) (by decide) (by decide) (by decide) e146 (g := (mkF m 5 #[rv ra, rv rb, .unset, .unset, .unset, .unset] [(.ref rb), (.int (2 : Int32))])) rfl (by rw [hml]; rfl) (argsL := []) (rest := [(.int (2 : Int32))]) (lenOf own_pd18 rfl) rfl (by show 2 * 0 + _ ≤ _; exact Nat.le_of_eq rfl) (hb hby own_d8_5) ?_
      intro v147 T147 L147 X147 q147
      obtain ⟨rfl, N147q, e147⟩ := q147
      have N147 := Fr.app N146 N147q
      show own_Goes p e below s _ _ _ T147 (mkF m 8 #[rv ra, rv rb, .unset, .unset, .unset, .unset] [(.int (1 : Int32)), (.int (2 : Int32))])
      refine own_callS X147 hx hZ hown (hw _ (List.mem_of_getElem? (i := 62) rfl)) (hw _ (List.mem_of_getElem? (i := 63) rfl)) (hw _ (List.mem_of_getElem? (i := 64) rfl)) (hw _ (List.mem_of_getElem? (i := 65) rfl)) (by decide) (own_min21 l Z a0 hw []  h0 n0 Z0 ) 0 (by decide) (by decide) (by decide) (by decide) e147 (g := (mkF m 8 #[rv ra, rv rb, .unset, .unset, .unset, .unset] [(.int (1 : Int32)), (.int (2 : Int32))])) rfl (by rw [hml]; rfl) (argsL := [(.int (2 : Int32)), (.int (1 : Int32))]) (rest := []) (lenOf own_pd17 rfl) rfl (by show 2 * 0 + _ ≤ _; exact Nat.le_of_eq rfl) (hb hby own_d8_8) ?_
      intro v148 T148 L148 X148 q148
      obtain ⟨rfl, N148q, e148⟩ := q148
      have N148 := Fr.app N147 N148q
      show own_Goes p e below s _ _ _ T148 (mkF m 11 #[rv ra, rv rb, .unset, .unset, .unset, .unset] [(.int (1 : Int32))])
      refine own_by (g' := (mkF m 21 #[rv ra, rv rb, iv (1 : Int32), iv (0 : Int32), .unset, .unset] [(.int (0 : Int32)), (.ref ra)])) (fun t k => XS.istoreN X148.here hx rfl (hb hby own_d8_11) rfl (l' := #[rv ra, rv rb, iv (1 : Int32), .unset, .unset, .unset]) rfl (XS.iconst X148.here hx rfl (hb hby own_d8_12) (XS.istoreN X148.here hx rfl (hb hby own_d8_13) rfl (l' := #[rv ra, rv rb, iv (1 : Int32), iv (0 : Int32), .unset, .unset]) rfl (XS.iloadN X148.here hx rfl (hb hby own_d8_14) rfl (XS.iloadN X148.here hx rfl (hb hby own_d8_15) rfl (XS.icmpNo X148.here hx rfl (hb hby own_d8_16) rfl (tlt (by decide : (0 : Int32) < (1 : Int32))).2.1 (XS.aloadN X148.here hx rfl (hb hby own_d8_19) rfl rfl (XS.iloadN X148.here hx rfl (hb hby own_d8_20) rfl k)))))))) ?_
      refine own_callV X148 hx hZ hown (hw _ (List.mem_of_getElem? (i := 93) rfl)) (hw _ (List.mem_of_getElem? (i := 94) rfl)) (notFace_of_selects (args := #[]) (mvT hZ (hw _ (List.mem_of_getElem? (i := 96) rfl)))) (hw _ (List.mem_of_getElem? (i := 96) rfl)) (hw _ (List.mem_of_getElem? (i := 95) rfl)) (hw _ (List.mem_of_getElem? (i := 97) rfl)) (hw _ (List.mem_of_getElem? (i := 10) rfl)) (by decide) (a := ra) E1a (own_schar0 l Z a0 hw [] (ra) (baa) (kba) (cda) (lna) (vsa) (xa0) (zcs) (vsf) h0 n0 Z0 O0 S_cs (by first | assumption | decide) S_ad S_hi S_lo S_sf r_sf E1a F1a F2a V1a (by first | assumption | decide) (by first | assumption | decide)) 0 (by decide) (by decide) (by decide) (by decide) e148 (g := (mkF m 21 #[rv ra, rv rb, iv (1 : Int32), iv (0 : Int32), .unset, .unset] [(.int (0 : Int32)), (.ref ra)])) rfl (by rw [hml]; rfl) (argsL := [(.int (0 : Int32))]) (rest := []) (lenOf own_pd19 rfl) rfl (by show 2 * 0 + _ ≤ _; exact Nat.le_of_eq rfl) (hb hby own_d8_21) ?_
      intro v149 T149 L149 X149 q149
      obtain ⟨rfl, N149q, e149⟩ := q149
      have N149 := Fr.app N148 N149q
      show own_Goes p e below s _ _ _ T149 (mkF m 24 #[rv ra, rv rb, iv (1 : Int32), iv (0 : Int32), .unset, .unset] [(.int xa0)])
      refine own_by (g' := (mkF m 28 #[rv ra, rv rb, iv (1 : Int32), iv (0 : Int32), iv xa0, .unset] [(.int (0 : Int32)), (.ref rb)])) (fun t k => XS.istore X149.here hx rfl (hb hby own_d8_24) rfl (l' := #[rv ra, rv rb, iv (1 : Int32), iv (0 : Int32), iv xa0, .unset]) rfl (XS.aloadN X149.here hx rfl (hb hby own_d8_26) rfl rfl (XS.iloadN X149.here hx rfl (hb hby own_d8_27) rfl k))) ?_
      refine own_callV X149 hx hZ hown (hw _ (List.mem_of_getElem? (i := 93) rfl)) (hw _ (List.mem_of_getElem? (i := 94) rfl)) (notFace_of_selects (args := #[]) (mvT hZ (hw _ (List.mem_of_getElem? (i := 96) rfl)))) (hw _ (List.mem_of_getElem? (i := 96) rfl)) (hw _ (List.mem_of_getElem? (i := 95) rfl)) (hw _ (List.mem_of_getElem? (i := 97) rfl)) (hw _ (List.mem_of_getElem? (i := 10) rfl)) (by decide) (a := rb) E1b (own_schar0 l Z a0 hw [] (rb) (bab) (kbb) (cdb) (lnb) (vsb) (xb0) (zcs) (vsf) h0 n0 Z0 O0 S_cs (by first | assumption | decide) S_ad S_hi S_lo S_sf r_sf E1b F1b F2b V1b (by first | assumption | decide) (by first | assumption | decide)) 0 (by decide) (by decide) (by decide) (by decide) e149 (g := (mkF m 28 #[rv ra, rv rb, iv (1 : Int32), iv (0 : Int32), iv xa0, .unset] [(.int (0 : Int32)), (.ref rb)])) rfl (by rw [hml]; rfl) (argsL := [(.int (0 : Int32))]) (rest := []) (lenOf own_pd19 rfl) rfl (by show 2 * 0 + _ ≤ _; exact Nat.le_of_eq rfl) (hb hby own_d8_28) ?_
      intro v150 T150 L150 X150 q150
      obtain ⟨rfl, N150q, e150⟩ := q150
      have N150 := Fr.app N149 N150q
      show own_Goes p e below s _ _ _ T150 (mkF m 31 #[rv ra, rv rb, iv (1 : Int32), iv (0 : Int32), iv xa0, .unset] [(.int xb0)])
      refine own_by (g' := (mkF m 37 #[rv ra, rv rb, iv (1 : Int32), iv (0 : Int32), iv xa0, iv xb0] [(.int xb0), (.int xa0)])) (fun t k => XS.istore X150.here hx rfl (hb hby own_d8_31) rfl (l' := #[rv ra, rv rb, iv (1 : Int32), iv (0 : Int32), iv xa0, iv xb0]) rfl (XS.iload X150.here hx rfl (hb hby own_d8_33) rfl (XS.iload X150.here hx rfl (hb hby own_d8_35) rfl k))) ?_
      by_cases hc151 : xa0 = xb0
      ·
        refine own_by (g' := (mkF m 59 #[rv ra, rv rb, iv (1 : Int32), iv (1 : Int32), iv xa0, iv xb0] [(.ref ra)])) (fun t k => XS.icmpYes X150.here hx rfl (pc0 := 37) (pc' := 52) rfl (hb hby own_d8_37) rfl (teq hc151).1 (by decide) (by decide) (XS.iinc X150.here hx rfl (hb hby own_d8_52) rfl (l' := #[rv ra, rv rb, iv (1 : Int32), iv (1 : Int32), iv xa0, iv xb0]) rfl (XS.goto X150.here hx rfl (pc0 := 55) (pc' := 14) rfl (hb hby own_d8_55) (by decide) (by decide) (XS.iloadN X150.here hx rfl (hb hby own_d8_14) rfl (XS.iloadN X150.here hx rfl (hb hby own_d8_15) rfl (XS.icmpYes X150.here hx rfl (pc0 := 16) (pc' := 58) rfl (hb hby own_d8_16) rfl (flt (by decide : ¬ ((1 : Int32) < (1 : Int32)))).2.1 (by decide) (by decide) (XS.aloadN X150.here hx rfl (hb hby own_d8_58) rfl rfl k))))))) ?_
        refine own_callV X150 hx hZ hown (hw _ (List.mem_of_getElem? (i := 51) rfl)) (hw _ (List.mem_of_getElem? (i := 52) rfl)) (notFace_of_selects (args := #[]) (mvT hZ (hw _ (List.mem_of_getElem? (i := 54) rfl)))) (hw _ (List.mem_of_getElem? (i := 54) rfl)) (hw _ (List.mem_of_getElem? (i := 53) rfl)) (hw _ (List.mem_of_getElem? (i := 55) rfl)) (hw _ (List.mem_of_getElem? (i := 10) rfl)) (by decide) (a := ra) E1a (own_slen2 l Z a0 hw [] (ra) (baa) (kba) (cda) (lna) (vsa) (zcs) h0 n0 Z0 O0 S_cs (by first | assumption | decide) E1a F1a F2a V1a (by first | assumption | decide)) 0 (by decide) (by decide) (by decide) (by decide) e150 (g := (mkF m 59 #[rv ra, rv rb, iv (1 : Int32), iv (1 : Int32), iv xa0, iv xb0] [(.ref ra)])) rfl (by rw [hml]; rfl) (argsL := []) (rest := []) (lenOf own_pd18 rfl) rfl (by show 2 * 0 + _ ≤ _; exact Nat.le_of_eq rfl) (hb hby own_d8_59) ?_
        intro v152 T152 L152 X152 q152
        obtain ⟨rfl, N152q, e152⟩ := q152
        have N152 := Fr.app N150 N152q
        show own_Goes p e below s _ _ _ T152 (mkF m 62 #[rv ra, rv rb, iv (1 : Int32), iv (1 : Int32), iv xa0, iv xb0] [(.int (2 : Int32))])
        refine own_by (g' := (mkF m 63 #[rv ra, rv rb, iv (1 : Int32), iv (1 : Int32), iv xa0, iv xb0] [(.ref rb), (.int (2 : Int32))])) (fun t k => XS.aloadN X152.here hx rfl (hb hby own_d8_62) rfl rfl k) ?_
        refine own_callV X152 hx hZ hown (hw _ (List.mem_of_getElem? (i := 51) rfl)) (hw _ (List.mem_of_getElem? (i := 52) rfl)) (notFace_of_selects (args := #[]) (mvT hZ (hw _ (List.mem_of_getElem? (i := 54) rfl)))) (hw _ (List.mem_of_getElem? (i := 54) rfl)) (hw _ (List.mem_of_getElem? (i := 53) rfl)) (hw _ (List.mem_of_getElem? (i := 55) rfl)) (hw _ (List.mem_of_getElem? (i := 10) rfl)) (by decide) (a := rb) E1b (own_slen1 l Z a0 hw [] (rb) (bab) (kbb) (cdb) (lnb) (vsb) (zcs) h0 n0 Z0 O0 S_cs (by first | assumption | decide) E1b F1b F2b V1b (by first | assumption | decide)) 1 (by decide) (by decide) (by decide) (by decide) e152 (g := (mkF m 63 #[rv ra, rv rb, iv (1 : Int32), iv (1 : Int32), iv xa0, iv xb0] [(.ref rb), (.int (2 : Int32))])) rfl (by rw [hml]; rfl) (argsL := []) (rest := [(.int (2 : Int32))]) (lenOf own_pd18 rfl) rfl (by show 2 * 0 + _ ≤ _; exact Nat.le_of_eq rfl) (hb hby own_d8_63) ?_
        intro v153 T153 L153 X153 q153
        obtain ⟨rfl, N153q, e153⟩ := q153
        have N153 := Fr.app N152 N153q
        show own_Goes p e below s _ _ _ T153 (mkF m 66 #[rv ra, rv rb, iv (1 : Int32), iv (1 : Int32), iv xa0, iv xb0] [(.int (1 : Int32)), (.int (2 : Int32))])
        refine own_by (g' := (mkF m 67 #[rv ra, rv rb, iv (1 : Int32), iv (1 : Int32), iv xa0, iv xb0] [(.int (1 : Int32))])) (fun t k => XS.isub X153.here hx rfl (hb hby own_d8_66) rfl k) ?_
        refine own_retI X153 hx hlk hret (hb hby own_d8_67) (by decide) (by decide) ?_
        exact ⟨(by simp [own_cmp, hc151]; try decide), N153, e153⟩
      ·
        refine own_by (g' := (mkF m 42 #[rv ra, rv rb, iv (1 : Int32), iv (0 : Int32), iv xa0, iv xb0] [(.int xa0)])) (fun t k => XS.icmpNo X150.here hx rfl (hb hby own_d8_37) rfl (feq hc151).1 (XS.iload X150.here hx rfl (hb hby own_d8_40) rfl k)) ?_
        refine own_callS X150 hx hZ hown (hw _ (List.mem_of_getElem? (i := 144) rfl)) (hw _ (List.mem_of_getElem? (i := 145) rfl)) (hw _ (List.mem_of_getElem? (i := 3) rfl)) (hw _ (List.mem_of_getElem? (i := 146) rfl)) (by decide) (own_wgt l Z a0 hw [] (xa0) h0 n0 Z0 ) 0 (by decide) (by decide) (by decide) (by decide) e150 (g := (mkF m 42 #[rv ra, rv rb, iv (1 : Int32), iv (0 : Int32), iv xa0, iv xb0] [(.int xa0)])) rfl (by rw [hml]; rfl) (argsL := [(.int xa0)]) (rest := []) (lenOf own_pd15 rfl) rfl (by show 2 * 0 + _ ≤ _; exact Nat.le_of_eq rfl) (hb hby own_d8_42) ?_
        intro v154 T154 L154 X154 q154
        obtain ⟨rfl, N154q, e154⟩ := q154
        have N154 := Fr.app N150 N154q
        show own_Goes p e below s _ _ _ T154 (mkF m 45 #[rv ra, rv rb, iv (1 : Int32), iv (0 : Int32), iv xa0, iv xb0] [(.int (own_wt xa0))])
        refine own_by (g' := (mkF m 47 #[rv ra, rv rb, iv (1 : Int32), iv (0 : Int32), iv xa0, iv xb0] [(.int xb0), (.int (own_wt xa0))])) (fun t k => XS.iload X154.here hx rfl (hb hby own_d8_45) rfl k) ?_
        refine own_callS X154 hx hZ hown (hw _ (List.mem_of_getElem? (i := 144) rfl)) (hw _ (List.mem_of_getElem? (i := 145) rfl)) (hw _ (List.mem_of_getElem? (i := 3) rfl)) (hw _ (List.mem_of_getElem? (i := 146) rfl)) (by decide) (own_wgt l Z a0 hw [] (xb0) h0 n0 Z0 ) 1 (by decide) (by decide) (by decide) (by decide) e154 (g := (mkF m 47 #[rv ra, rv rb, iv (1 : Int32), iv (0 : Int32), iv xa0, iv xb0] [(.int xb0), (.int (own_wt xa0))])) rfl (by rw [hml]; rfl) (argsL := [(.int xb0)]) (rest := [(.int (own_wt xa0))]) (lenOf own_pd15 rfl) rfl (by show 2 * 0 + _ ≤ _; exact Nat.le_of_eq rfl) (hb hby own_d8_47) ?_
        intro v155 T155 L155 X155 q155
        obtain ⟨rfl, N155q, e155⟩ := q155
        have N155 := Fr.app N154 N155q
        show own_Goes p e below s _ _ _ T155 (mkF m 50 #[rv ra, rv rb, iv (1 : Int32), iv (0 : Int32), iv xa0, iv xb0] [(.int (own_wt xb0)), (.int (own_wt xa0))])
        refine own_by (g' := (mkF m 51 #[rv ra, rv rb, iv (1 : Int32), iv (0 : Int32), iv xa0, iv xb0] [(.int ((own_wt xa0) - (own_wt xb0)))])) (fun t k => XS.isub X155.here hx rfl (hb hby own_d8_50) rfl k) ?_
        refine own_retI X155 hx hlk hret (hb hby own_d8_51) (by decide) (by decide) ?_
        exact ⟨(by simp [own_cmp, hc151]; try decide), N155, e155⟩
    ·
      refine own_by (g' := (mkF m 1 #[rv ra, rv rb, .unset, .unset, .unset, .unset] [(.ref ra)])) (fun t k => XS.aloadN X0.here hx rfl (hb hby own_d8_0) rfl rfl k) ?_
      refine own_callV X0 hx hZ hown (hw _ (List.mem_of_getElem? (i := 51) rfl)) (hw _ (List.mem_of_getElem? (i := 52) rfl)) (notFace_of_selects (args := #[]) (mvT hZ (hw _ (List.mem_of_getElem? (i := 54) rfl)))) (hw _ (List.mem_of_getElem? (i := 54) rfl)) (hw _ (List.mem_of_getElem? (i := 53) rfl)) (hw _ (List.mem_of_getElem? (i := 55) rfl)) (hw _ (List.mem_of_getElem? (i := 10) rfl)) (by decide) (a := ra) E1a (own_slen2 l Z a0 hw [] (ra) (baa) (kba) (cda) (lna) (vsa) (zcs) h0 n0 Z0 O0 S_cs (by first | assumption | decide) E1a F1a F2a V1a (by first | assumption | decide)) 0 (by decide) (by decide) (by decide) (by decide) e0 (g := (mkF m 1 #[rv ra, rv rb, .unset, .unset, .unset, .unset] [(.ref ra)])) rfl (by rw [hml]; rfl) (argsL := []) (rest := []) (lenOf own_pd18 rfl) rfl (by show 2 * 0 + _ ≤ _; exact Nat.le_of_eq rfl) (hb hby own_d8_1) ?_
      intro v156 T156 L156 X156 q156
      obtain ⟨rfl, N156q, e156⟩ := q156
      have N156 := Fr.app N0 N156q
      show own_Goes p e below s _ _ _ T156 (mkF m 4 #[rv ra, rv rb, .unset, .unset, .unset, .unset] [(.int (2 : Int32))])
      refine own_by (g' := (mkF m 5 #[rv ra, rv rb, .unset, .unset, .unset, .unset] [(.ref rb), (.int (2 : Int32))])) (fun t k => XS.aloadN X156.here hx rfl (hb hby own_d8_4) rfl rfl k) ?_
      refine own_callV X156 hx hZ hown (hw _ (List.mem_of_getElem? (i := 51) rfl)) (hw _ (List.mem_of_getElem? (i := 52) rfl)) (notFace_of_selects (args := #[]) (mvT hZ (hw _ (List.mem_of_getElem? (i := 54) rfl)))) (hw _ (List.mem_of_getElem? (i := 54) rfl)) (hw _ (List.mem_of_getElem? (i := 53) rfl)) (hw _ (List.mem_of_getElem? (i := 55) rfl)) (hw _ (List.mem_of_getElem? (i := 10) rfl)) (by decide) (a := rb) E1b (own_slen2 l Z a0 hw [] (rb) (bab) (kbb) (cdb) (lnb) (vsb) (zcs) h0 n0 Z0 O0 S_cs (by first | assumption | decide) E1b F1b F2b V1b (by first | assumption | decide)) 1 (by decide) (by decide) (by decide) (by decide) e156 (g := (mkF m 5 #[rv ra, rv rb, .unset, .unset, .unset, .unset] [(.ref rb), (.int (2 : Int32))])) rfl (by rw [hml]; rfl) (argsL := []) (rest := [(.int (2 : Int32))]) (lenOf own_pd18 rfl) rfl (by show 2 * 0 + _ ≤ _; exact Nat.le_of_eq rfl) (hb hby own_d8_5) ?_
      intro v157 T157 L157 X157 q157
      obtain ⟨rfl, N157q, e157⟩ := q157
      have N157 := Fr.app N156 N157q
      show own_Goes p e below s _ _ _ T157 (mkF m 8 #[rv ra, rv rb, .unset, .unset, .unset, .unset] [(.int (2 : Int32)), (.int (2 : Int32))])
      refine own_callS X157 hx hZ hown (hw _ (List.mem_of_getElem? (i := 62) rfl)) (hw _ (List.mem_of_getElem? (i := 63) rfl)) (hw _ (List.mem_of_getElem? (i := 64) rfl)) (hw _ (List.mem_of_getElem? (i := 65) rfl)) (by decide) (own_min22 l Z a0 hw []  h0 n0 Z0 ) 0 (by decide) (by decide) (by decide) (by decide) e157 (g := (mkF m 8 #[rv ra, rv rb, .unset, .unset, .unset, .unset] [(.int (2 : Int32)), (.int (2 : Int32))])) rfl (by rw [hml]; rfl) (argsL := [(.int (2 : Int32)), (.int (2 : Int32))]) (rest := []) (lenOf own_pd17 rfl) rfl (by show 2 * 0 + _ ≤ _; exact Nat.le_of_eq rfl) (hb hby own_d8_8) ?_
      intro v158 T158 L158 X158 q158
      obtain ⟨rfl, N158q, e158⟩ := q158
      have N158 := Fr.app N157 N158q
      show own_Goes p e below s _ _ _ T158 (mkF m 11 #[rv ra, rv rb, .unset, .unset, .unset, .unset] [(.int (2 : Int32))])
      refine own_by (g' := (mkF m 21 #[rv ra, rv rb, iv (2 : Int32), iv (0 : Int32), .unset, .unset] [(.int (0 : Int32)), (.ref ra)])) (fun t k => XS.istoreN X158.here hx rfl (hb hby own_d8_11) rfl (l' := #[rv ra, rv rb, iv (2 : Int32), .unset, .unset, .unset]) rfl (XS.iconst X158.here hx rfl (hb hby own_d8_12) (XS.istoreN X158.here hx rfl (hb hby own_d8_13) rfl (l' := #[rv ra, rv rb, iv (2 : Int32), iv (0 : Int32), .unset, .unset]) rfl (XS.iloadN X158.here hx rfl (hb hby own_d8_14) rfl (XS.iloadN X158.here hx rfl (hb hby own_d8_15) rfl (XS.icmpNo X158.here hx rfl (hb hby own_d8_16) rfl (tlt (by decide : (0 : Int32) < (2 : Int32))).2.1 (XS.aloadN X158.here hx rfl (hb hby own_d8_19) rfl rfl (XS.iloadN X158.here hx rfl (hb hby own_d8_20) rfl k)))))))) ?_
      refine own_callV X158 hx hZ hown (hw _ (List.mem_of_getElem? (i := 93) rfl)) (hw _ (List.mem_of_getElem? (i := 94) rfl)) (notFace_of_selects (args := #[]) (mvT hZ (hw _ (List.mem_of_getElem? (i := 96) rfl)))) (hw _ (List.mem_of_getElem? (i := 96) rfl)) (hw _ (List.mem_of_getElem? (i := 95) rfl)) (hw _ (List.mem_of_getElem? (i := 97) rfl)) (hw _ (List.mem_of_getElem? (i := 10) rfl)) (by decide) (a := ra) E1a (own_schar0 l Z a0 hw [] (ra) (baa) (kba) (cda) (lna) (vsa) (xa0) (zcs) (vsf) h0 n0 Z0 O0 S_cs (by first | assumption | decide) S_ad S_hi S_lo S_sf r_sf E1a F1a F2a V1a (by first | assumption | decide) (by first | assumption | decide)) 0 (by decide) (by decide) (by decide) (by decide) e158 (g := (mkF m 21 #[rv ra, rv rb, iv (2 : Int32), iv (0 : Int32), .unset, .unset] [(.int (0 : Int32)), (.ref ra)])) rfl (by rw [hml]; rfl) (argsL := [(.int (0 : Int32))]) (rest := []) (lenOf own_pd19 rfl) rfl (by show 2 * 0 + _ ≤ _; exact Nat.le_of_eq rfl) (hb hby own_d8_21) ?_
      intro v159 T159 L159 X159 q159
      obtain ⟨rfl, N159q, e159⟩ := q159
      have N159 := Fr.app N158 N159q
      show own_Goes p e below s _ _ _ T159 (mkF m 24 #[rv ra, rv rb, iv (2 : Int32), iv (0 : Int32), .unset, .unset] [(.int xa0)])
      refine own_by (g' := (mkF m 28 #[rv ra, rv rb, iv (2 : Int32), iv (0 : Int32), iv xa0, .unset] [(.int (0 : Int32)), (.ref rb)])) (fun t k => XS.istore X159.here hx rfl (hb hby own_d8_24) rfl (l' := #[rv ra, rv rb, iv (2 : Int32), iv (0 : Int32), iv xa0, .unset]) rfl (XS.aloadN X159.here hx rfl (hb hby own_d8_26) rfl rfl (XS.iloadN X159.here hx rfl (hb hby own_d8_27) rfl k))) ?_
      refine own_callV X159 hx hZ hown (hw _ (List.mem_of_getElem? (i := 93) rfl)) (hw _ (List.mem_of_getElem? (i := 94) rfl)) (notFace_of_selects (args := #[]) (mvT hZ (hw _ (List.mem_of_getElem? (i := 96) rfl)))) (hw _ (List.mem_of_getElem? (i := 96) rfl)) (hw _ (List.mem_of_getElem? (i := 95) rfl)) (hw _ (List.mem_of_getElem? (i := 97) rfl)) (hw _ (List.mem_of_getElem? (i := 10) rfl)) (by decide) (a := rb) E1b (own_schar0 l Z a0 hw [] (rb) (bab) (kbb) (cdb) (lnb) (vsb) (xb0) (zcs) (vsf) h0 n0 Z0 O0 S_cs (by first | assumption | decide) S_ad S_hi S_lo S_sf r_sf E1b F1b F2b V1b (by first | assumption | decide) (by first | assumption | decide)) 0 (by decide) (by decide) (by decide) (by decide) e159 (g := (mkF m 28 #[rv ra, rv rb, iv (2 : Int32), iv (0 : Int32), iv xa0, .unset] [(.int (0 : Int32)), (.ref rb)])) rfl (by rw [hml]; rfl) (argsL := [(.int (0 : Int32))]) (rest := []) (lenOf own_pd19 rfl) rfl (by show 2 * 0 + _ ≤ _; exact Nat.le_of_eq rfl) (hb hby own_d8_28) ?_
      intro v160 T160 L160 X160 q160
      obtain ⟨rfl, N160q, e160⟩ := q160
      have N160 := Fr.app N159 N160q
      show own_Goes p e below s _ _ _ T160 (mkF m 31 #[rv ra, rv rb, iv (2 : Int32), iv (0 : Int32), iv xa0, .unset] [(.int xb0)])
      refine own_by (g' := (mkF m 37 #[rv ra, rv rb, iv (2 : Int32), iv (0 : Int32), iv xa0, iv xb0] [(.int xb0), (.int xa0)])) (fun t k => XS.istore X160.here hx rfl (hb hby own_d8_31) rfl (l' := #[rv ra, rv rb, iv (2 : Int32), iv (0 : Int32), iv xa0, iv xb0]) rfl (XS.iload X160.here hx rfl (hb hby own_d8_33) rfl (XS.iload X160.here hx rfl (hb hby own_d8_35) rfl k))) ?_
      by_cases hc161 : xa0 = xb0
      ·
        refine own_by (g' := (mkF m 21 #[rv ra, rv rb, iv (2 : Int32), iv (1 : Int32), iv xa0, iv xb0] [(.int (1 : Int32)), (.ref ra)])) (fun t k => XS.icmpYes X160.here hx rfl (pc0 := 37) (pc' := 52) rfl (hb hby own_d8_37) rfl (teq hc161).1 (by decide) (by decide) (XS.iinc X160.here hx rfl (hb hby own_d8_52) rfl (l' := #[rv ra, rv rb, iv (2 : Int32), iv (1 : Int32), iv xa0, iv xb0]) rfl (XS.goto X160.here hx rfl (pc0 := 55) (pc' := 14) rfl (hb hby own_d8_55) (by decide) (by decide) (XS.iloadN X160.here hx rfl (hb hby own_d8_14) rfl (XS.iloadN X160.here hx rfl (hb hby own_d8_15) rfl (XS.icmpNo X160.here hx rfl (hb hby own_d8_16) rfl (tlt (by decide : (1 : Int32) < (2 : Int32))).2.1 (XS.aloadN X160.here hx rfl (hb hby own_d8_19) rfl rfl (XS.iloadN X160.here hx rfl (hb hby own_d8_20) rfl k)))))))) ?_
        refine own_callV X160 hx hZ hown (hw _ (List.mem_of_getElem? (i := 93) rfl)) (hw _ (List.mem_of_getElem? (i := 94) rfl)) (notFace_of_selects (args := #[]) (mvT hZ (hw _ (List.mem_of_getElem? (i := 96) rfl)))) (hw _ (List.mem_of_getElem? (i := 96) rfl)) (hw _ (List.mem_of_getElem? (i := 95) rfl)) (hw _ (List.mem_of_getElem? (i := 97) rfl)) (hw _ (List.mem_of_getElem? (i := 10) rfl)) (by decide) (a := ra) E1a (own_schar1 l Z a0 hw [] (ra) (baa) (kba) (cda) (lna) (vsa) (xa1) (zcs) (vsf) h0 n0 Z0 O0 S_cs (by first | assumption | decide) S_ad S_hi S_lo S_sf r_sf E1a F1a F2a V1a (by first | assumption | decide) (by first | assumption | decide)) 0 (by decide) (by decide) (by decide) (by decide) e160 (g := (mkF m 21 #[rv ra, rv rb, iv (2 : Int32), iv (1 : Int32), iv xa0, iv xb0] [(.int (1 : Int32)), (.ref ra)])) rfl (by rw [hml]; rfl) (argsL := [(.int (1 : Int32))]) (rest := []) (lenOf own_pd19 rfl) rfl (by show 2 * 0 + _ ≤ _; exact Nat.le_of_eq rfl) (hb hby own_d8_21) ?_
        intro v162 T162 L162 X162 q162
        obtain ⟨rfl, N162q, e162⟩ := q162
        have N162 := Fr.app N160 N162q
        show own_Goes p e below s _ _ _ T162 (mkF m 24 #[rv ra, rv rb, iv (2 : Int32), iv (1 : Int32), iv xa0, iv xb0] [(.int xa1)])
        refine own_by (g' := (mkF m 28 #[rv ra, rv rb, iv (2 : Int32), iv (1 : Int32), iv xa1, iv xb0] [(.int (1 : Int32)), (.ref rb)])) (fun t k => XS.istore X162.here hx rfl (hb hby own_d8_24) rfl (l' := #[rv ra, rv rb, iv (2 : Int32), iv (1 : Int32), iv xa1, iv xb0]) rfl (XS.aloadN X162.here hx rfl (hb hby own_d8_26) rfl rfl (XS.iloadN X162.here hx rfl (hb hby own_d8_27) rfl k))) ?_
        refine own_callV X162 hx hZ hown (hw _ (List.mem_of_getElem? (i := 93) rfl)) (hw _ (List.mem_of_getElem? (i := 94) rfl)) (notFace_of_selects (args := #[]) (mvT hZ (hw _ (List.mem_of_getElem? (i := 96) rfl)))) (hw _ (List.mem_of_getElem? (i := 96) rfl)) (hw _ (List.mem_of_getElem? (i := 95) rfl)) (hw _ (List.mem_of_getElem? (i := 97) rfl)) (hw _ (List.mem_of_getElem? (i := 10) rfl)) (by decide) (a := rb) E1b (own_schar1 l Z a0 hw [] (rb) (bab) (kbb) (cdb) (lnb) (vsb) (xb1) (zcs) (vsf) h0 n0 Z0 O0 S_cs (by first | assumption | decide) S_ad S_hi S_lo S_sf r_sf E1b F1b F2b V1b (by first | assumption | decide) (by first | assumption | decide)) 0 (by decide) (by decide) (by decide) (by decide) e162 (g := (mkF m 28 #[rv ra, rv rb, iv (2 : Int32), iv (1 : Int32), iv xa1, iv xb0] [(.int (1 : Int32)), (.ref rb)])) rfl (by rw [hml]; rfl) (argsL := [(.int (1 : Int32))]) (rest := []) (lenOf own_pd19 rfl) rfl (by show 2 * 0 + _ ≤ _; exact Nat.le_of_eq rfl) (hb hby own_d8_28) ?_
        intro v163 T163 L163 X163 q163
        obtain ⟨rfl, N163q, e163⟩ := q163
        have N163 := Fr.app N162 N163q
        show own_Goes p e below s _ _ _ T163 (mkF m 31 #[rv ra, rv rb, iv (2 : Int32), iv (1 : Int32), iv xa1, iv xb0] [(.int xb1)])
        refine own_by (g' := (mkF m 37 #[rv ra, rv rb, iv (2 : Int32), iv (1 : Int32), iv xa1, iv xb1] [(.int xb1), (.int xa1)])) (fun t k => XS.istore X163.here hx rfl (hb hby own_d8_31) rfl (l' := #[rv ra, rv rb, iv (2 : Int32), iv (1 : Int32), iv xa1, iv xb1]) rfl (XS.iload X163.here hx rfl (hb hby own_d8_33) rfl (XS.iload X163.here hx rfl (hb hby own_d8_35) rfl k))) ?_
        by_cases hc164 : xa1 = xb1
        ·
          refine own_by (g' := (mkF m 59 #[rv ra, rv rb, iv (2 : Int32), iv (2 : Int32), iv xa1, iv xb1] [(.ref ra)])) (fun t k => XS.icmpYes X163.here hx rfl (pc0 := 37) (pc' := 52) rfl (hb hby own_d8_37) rfl (teq hc164).1 (by decide) (by decide) (XS.iinc X163.here hx rfl (hb hby own_d8_52) rfl (l' := #[rv ra, rv rb, iv (2 : Int32), iv (2 : Int32), iv xa1, iv xb1]) rfl (XS.goto X163.here hx rfl (pc0 := 55) (pc' := 14) rfl (hb hby own_d8_55) (by decide) (by decide) (XS.iloadN X163.here hx rfl (hb hby own_d8_14) rfl (XS.iloadN X163.here hx rfl (hb hby own_d8_15) rfl (XS.icmpYes X163.here hx rfl (pc0 := 16) (pc' := 58) rfl (hb hby own_d8_16) rfl (flt (by decide : ¬ ((2 : Int32) < (2 : Int32)))).2.1 (by decide) (by decide) (XS.aloadN X163.here hx rfl (hb hby own_d8_58) rfl rfl k))))))) ?_
          refine own_callV X163 hx hZ hown (hw _ (List.mem_of_getElem? (i := 51) rfl)) (hw _ (List.mem_of_getElem? (i := 52) rfl)) (notFace_of_selects (args := #[]) (mvT hZ (hw _ (List.mem_of_getElem? (i := 54) rfl)))) (hw _ (List.mem_of_getElem? (i := 54) rfl)) (hw _ (List.mem_of_getElem? (i := 53) rfl)) (hw _ (List.mem_of_getElem? (i := 55) rfl)) (hw _ (List.mem_of_getElem? (i := 10) rfl)) (by decide) (a := ra) E1a (own_slen2 l Z a0 hw [] (ra) (baa) (kba) (cda) (lna) (vsa) (zcs) h0 n0 Z0 O0 S_cs (by first | assumption | decide) E1a F1a F2a V1a (by first | assumption | decide)) 0 (by decide) (by decide) (by decide) (by decide) e163 (g := (mkF m 59 #[rv ra, rv rb, iv (2 : Int32), iv (2 : Int32), iv xa1, iv xb1] [(.ref ra)])) rfl (by rw [hml]; rfl) (argsL := []) (rest := []) (lenOf own_pd18 rfl) rfl (by show 2 * 0 + _ ≤ _; exact Nat.le_of_eq rfl) (hb hby own_d8_59) ?_
          intro v165 T165 L165 X165 q165
          obtain ⟨rfl, N165q, e165⟩ := q165
          have N165 := Fr.app N163 N165q
          show own_Goes p e below s _ _ _ T165 (mkF m 62 #[rv ra, rv rb, iv (2 : Int32), iv (2 : Int32), iv xa1, iv xb1] [(.int (2 : Int32))])
          refine own_by (g' := (mkF m 63 #[rv ra, rv rb, iv (2 : Int32), iv (2 : Int32), iv xa1, iv xb1] [(.ref rb), (.int (2 : Int32))])) (fun t k => XS.aloadN X165.here hx rfl (hb hby own_d8_62) rfl rfl k) ?_
          refine own_callV X165 hx hZ hown (hw _ (List.mem_of_getElem? (i := 51) rfl)) (hw _ (List.mem_of_getElem? (i := 52) rfl)) (notFace_of_selects (args := #[]) (mvT hZ (hw _ (List.mem_of_getElem? (i := 54) rfl)))) (hw _ (List.mem_of_getElem? (i := 54) rfl)) (hw _ (List.mem_of_getElem? (i := 53) rfl)) (hw _ (List.mem_of_getElem? (i := 55) rfl)) (hw _ (List.mem_of_getElem? (i := 10) rfl)) (by decide) (a := rb) E1b (own_slen2 l Z a0 hw [] (rb) (bab) (kbb) (cdb) (lnb) (vsb) (zcs) h0 n0 Z0 O0 S_cs (by first | assumption | decide) E1b F1b F2b V1b (by first | assumption | decide)) 1 (by decide) (by decide) (by decide) (by decide) e165 (g := (mkF m 63 #[rv ra, rv rb, iv (2 : Int32), iv (2 : Int32), iv xa1, iv xb1] [(.ref rb), (.int (2 : Int32))])) rfl (by rw [hml]; rfl) (argsL := []) (rest := [(.int (2 : Int32))]) (lenOf own_pd18 rfl) rfl (by show 2 * 0 + _ ≤ _; exact Nat.le_of_eq rfl) (hb hby own_d8_63) ?_
          intro v166 T166 L166 X166 q166
          obtain ⟨rfl, N166q, e166⟩ := q166
          have N166 := Fr.app N165 N166q
          show own_Goes p e below s _ _ _ T166 (mkF m 66 #[rv ra, rv rb, iv (2 : Int32), iv (2 : Int32), iv xa1, iv xb1] [(.int (2 : Int32)), (.int (2 : Int32))])
          refine own_by (g' := (mkF m 67 #[rv ra, rv rb, iv (2 : Int32), iv (2 : Int32), iv xa1, iv xb1] [(.int (0 : Int32))])) (fun t k => XS.isub X166.here hx rfl (hb hby own_d8_66) rfl k) ?_
          refine own_retI X166 hx hlk hret (hb hby own_d8_67) (by decide) (by decide) ?_
          exact ⟨(by simp [own_cmp, hc161, hc164]; try decide), N166, e166⟩
        ·
          refine own_by (g' := (mkF m 42 #[rv ra, rv rb, iv (2 : Int32), iv (1 : Int32), iv xa1, iv xb1] [(.int xa1)])) (fun t k => XS.icmpNo X163.here hx rfl (hb hby own_d8_37) rfl (feq hc164).1 (XS.iload X163.here hx rfl (hb hby own_d8_40) rfl k)) ?_
          refine own_callS X163 hx hZ hown (hw _ (List.mem_of_getElem? (i := 144) rfl)) (hw _ (List.mem_of_getElem? (i := 145) rfl)) (hw _ (List.mem_of_getElem? (i := 3) rfl)) (hw _ (List.mem_of_getElem? (i := 146) rfl)) (by decide) (own_wgt l Z a0 hw [] (xa1) h0 n0 Z0 ) 0 (by decide) (by decide) (by decide) (by decide) e163 (g := (mkF m 42 #[rv ra, rv rb, iv (2 : Int32), iv (1 : Int32), iv xa1, iv xb1] [(.int xa1)])) rfl (by rw [hml]; rfl) (argsL := [(.int xa1)]) (rest := []) (lenOf own_pd15 rfl) rfl (by show 2 * 0 + _ ≤ _; exact Nat.le_of_eq rfl) (hb hby own_d8_42) ?_
          intro v167 T167 L167 X167 q167
          obtain ⟨rfl, N167q, e167⟩ := q167
          have N167 := Fr.app N163 N167q
          show own_Goes p e below s _ _ _ T167 (mkF m 45 #[rv ra, rv rb, iv (2 : Int32), iv (1 : Int32), iv xa1, iv xb1] [(.int (own_wt xa1))])
          refine own_by (g' := (mkF m 47 #[rv ra, rv rb, iv (2 : Int32), iv (1 : Int32), iv xa1, iv xb1] [(.int xb1), (.int (own_wt xa1))])) (fun t k => XS.iload X167.here hx rfl (hb hby own_d8_45) rfl k) ?_
          refine own_callS X167 hx hZ hown (hw _ (List.mem_of_getElem? (i := 144) rfl)) (hw _ (List.mem_of_getElem? (i := 145) rfl)) (hw _ (List.mem_of_getElem? (i := 3) rfl)) (hw _ (List.mem_of_getElem? (i := 146) rfl)) (by decide) (own_wgt l Z a0 hw [] (xb1) h0 n0 Z0 ) 1 (by decide) (by decide) (by decide) (by decide) e167 (g := (mkF m 47 #[rv ra, rv rb, iv (2 : Int32), iv (1 : Int32), iv xa1, iv xb1] [(.int xb1), (.int (own_wt xa1))])) rfl (by rw [hml]; rfl) (argsL := [(.int xb1)]) (rest := [(.int (own_wt xa1))]) (lenOf own_pd15 rfl) rfl (by show 2 * 0 + _ ≤ _; exact Nat.le_of_eq rfl) (hb hby own_d8_47) ?_
          intro v168 T168 L168 X168 q168
          obtain ⟨rfl, N168q, e168⟩ := q168
          have N168 := Fr.app N167 N168q
          show own_Goes p e below s _ _ _ T168 (mkF m 50 #[rv ra, rv rb, iv (2 : Int32), iv (1 : Int32), iv xa1, iv xb1] [(.int (own_wt xb1)), (.int (own_wt xa1))])
          refine own_by (g' := (mkF m 51 #[rv ra, rv rb, iv (2 : Int32), iv (1 : Int32), iv xa1, iv xb1] [(.int ((own_wt xa1) - (own_wt xb1)))])) (fun t k => XS.isub X168.here hx rfl (hb hby own_d8_50) rfl k) ?_
          refine own_retI X168 hx hlk hret (hb hby own_d8_51) (by decide) (by decide) ?_
          exact ⟨(by simp [own_cmp, hc161, hc164]; try decide), N168, e168⟩
      ·
        refine own_by (g' := (mkF m 42 #[rv ra, rv rb, iv (2 : Int32), iv (0 : Int32), iv xa0, iv xb0] [(.int xa0)])) (fun t k => XS.icmpNo X160.here hx rfl (hb hby own_d8_37) rfl (feq hc161).1 (XS.iload X160.here hx rfl (hb hby own_d8_40) rfl k)) ?_
        refine own_callS X160 hx hZ hown (hw _ (List.mem_of_getElem? (i := 144) rfl)) (hw _ (List.mem_of_getElem? (i := 145) rfl)) (hw _ (List.mem_of_getElem? (i := 3) rfl)) (hw _ (List.mem_of_getElem? (i := 146) rfl)) (by decide) (own_wgt l Z a0 hw [] (xa0) h0 n0 Z0 ) 0 (by decide) (by decide) (by decide) (by decide) e160 (g := (mkF m 42 #[rv ra, rv rb, iv (2 : Int32), iv (0 : Int32), iv xa0, iv xb0] [(.int xa0)])) rfl (by rw [hml]; rfl) (argsL := [(.int xa0)]) (rest := []) (lenOf own_pd15 rfl) rfl (by show 2 * 0 + _ ≤ _; exact Nat.le_of_eq rfl) (hb hby own_d8_42) ?_
        intro v169 T169 L169 X169 q169
        obtain ⟨rfl, N169q, e169⟩ := q169
        have N169 := Fr.app N160 N169q
        show own_Goes p e below s _ _ _ T169 (mkF m 45 #[rv ra, rv rb, iv (2 : Int32), iv (0 : Int32), iv xa0, iv xb0] [(.int (own_wt xa0))])
        refine own_by (g' := (mkF m 47 #[rv ra, rv rb, iv (2 : Int32), iv (0 : Int32), iv xa0, iv xb0] [(.int xb0), (.int (own_wt xa0))])) (fun t k => XS.iload X169.here hx rfl (hb hby own_d8_45) rfl k) ?_
        refine own_callS X169 hx hZ hown (hw _ (List.mem_of_getElem? (i := 144) rfl)) (hw _ (List.mem_of_getElem? (i := 145) rfl)) (hw _ (List.mem_of_getElem? (i := 3) rfl)) (hw _ (List.mem_of_getElem? (i := 146) rfl)) (by decide) (own_wgt l Z a0 hw [] (xb0) h0 n0 Z0 ) 1 (by decide) (by decide) (by decide) (by decide) e169 (g := (mkF m 47 #[rv ra, rv rb, iv (2 : Int32), iv (0 : Int32), iv xa0, iv xb0] [(.int xb0), (.int (own_wt xa0))])) rfl (by rw [hml]; rfl) (argsL := [(.int xb0)]) (rest := [(.int (own_wt xa0))]) (lenOf own_pd15 rfl) rfl (by show 2 * 0 + _ ≤ _; exact Nat.le_of_eq rfl) (hb hby own_d8_47) ?_
        intro v170 T170 L170 X170 q170
        obtain ⟨rfl, N170q, e170⟩ := q170
        have N170 := Fr.app N169 N170q
        show own_Goes p e below s _ _ _ T170 (mkF m 50 #[rv ra, rv rb, iv (2 : Int32), iv (0 : Int32), iv xa0, iv xb0] [(.int (own_wt xb0)), (.int (own_wt xa0))])
        refine own_by (g' := (mkF m 51 #[rv ra, rv rb, iv (2 : Int32), iv (0 : Int32), iv xa0, iv xb0] [(.int ((own_wt xa0) - (own_wt xb0)))])) (fun t k => XS.isub X170.here hx rfl (hb hby own_d8_50) rfl k) ?_
        refine own_retI X170 hx hlk hret (hb hby own_d8_51) (by decide) (by decide) ?_
        exact ⟨(by simp [own_cmp, hc161]; try decide), N170, e170⟩
theorem own_pn7 : plainName "java/lang/Record" = true := by first | (simp [plainName, overriddenIn]; done) | decide +kernel
theorem own_d6_0 : decode jdk_30_method_1_code 0 = .ok (.aload_n 0, 1) := by decide +kernel
theorem own_d6_1 : decode jdk_30_method_1_code 1 = .ok (.invokespecial 1, 3) := by decide +kernel
theorem own_d6_4 : decode jdk_30_method_1_code 4 = .ok (.return_, 1) := by decide +kernel
def Q_own_rec (Z : State) (r1 : Addr) (h0 : Heap) (n0 : Nat) (v : Option Value) (h : Heap) (L : List Loc) : Prop := v = none ∧ Fr n0 L ∧ h = h0
theorem own_ef_own_rec (m : MethodId) (r1 : Addr) : entryFrame m #[(.ref r1)] 1 = mkF m 0 #[rv r1] [] := by first | (simp [entryFrame, mkF, argsToLocals, Value.category]; done) | rfl
set_option maxRecDepth 65536 in
set_option maxHeartbeats 40000000 in
theorem own_rec (l : Launch) (Z : State) (a0 : Array Value) (hw : ∀ d ∈ tables_1, d.before a0 Z = true) (ws : List Jvm.Cond) (r1 : Addr) (h0 : Heap) (n0 : Nat) (Z0 : n0 ≤ h0.size)  :
    own_Ctr l Z (⟨"java/lang/Record", "<init>", "()V"⟩ : MethodName) jdk_30_method_1_code 1 none ws ({ frames := 1, cells := 0, slots := 0, locals := 12 } : Room) (({ frames := 1, cells := 0, slots := 0, locals := 12 } : Room)).cells (({ frames := 1, cells := 0, slots := 0, locals := 12 } : Room)).slots #[(.ref r1)] h0 (Q_own_rec Z r1 h0 n0) := by
  refine own_enter (plainFor_of_name own_pn7) ?_
  intro p e s m below meth c s₁ X0 hx hZ hby hml hown hnm hlk hret e0
  have N0 := Fr.nil n0
  refine own_cast (own_ef_own_rec m r1) ?_
  refine own_by (g' := (mkF m 1 #[rv r1] [(.ref r1)])) (fun t k => XS.aloadN X0.here hx rfl (hb hby own_d6_0) rfl rfl k) ?_
  obtain ⟨T101, X101, e101, st101⟩ := initO X0 hx hZ hown (hw _ (List.mem_of_getElem? (i := 38) rfl)) (hw _ (List.mem_of_getElem? (i := 20) rfl)) (hw _ (List.mem_of_getElem? (i := 21) rfl)) e0 (g := (mkF m 1 #[rv r1] [(.ref r1)])) rfl (by rw [hml]; rfl) rfl (hb hby own_d6_1) (by decide) (W := 0) (by show 2 * 0 + _ ≤ _; exact Nat.le_of_eq rfl) (by decide)
  refine own_by (g' := (mkF m 4 #[rv r1] [])) st101 ?_
  refine own_retV X101 hx hlk hret (hb hby own_d6_4) (by decide) (by decide) ?_
  exact ⟨rfl, N0, e101⟩
theorem own_d5_0 : decode prog_4_method_1_code 0 = .ok (.aload_n 0, 1) := by decide +kernel
theorem own_d5_1 : decode prog_4_method_1_code 1 = .ok (.invokespecial 1, 3) := by decide +kernel
theorem own_pd20 : parseMethodDescriptor "()V" = some ⟨[], none⟩ := by decide +kernel
theorem own_d5_4 : decode prog_4_method_1_code 4 = .ok (.aload_n 0, 1) := by decide +kernel
theorem own_d5_5 : decode prog_4_method_1_code 5 = .ok (.aload_n 1, 1) := by decide +kernel
theorem own_d5_6 : decode prog_4_method_1_code 6 = .ok (.putfield 7, 3) := by decide +kernel
theorem own_d5_9 : decode prog_4_method_1_code 9 = .ok (.aload_n 0, 1) := by decide +kernel
theorem own_d5_10 : decode prog_4_method_1_code 10 = .ok (.aload_n 2, 1) := by decide +kernel
theorem own_d5_11 : decode prog_4_method_1_code 11 = .ok (.putfield 13, 3) := by decide +kernel
theorem own_d5_14 : decode prog_4_method_1_code 14 = .ok (.return_, 1) := by decide +kernel
def Q_own_mti (Z : State) (r1 : Addr) (t1 : Addr) (t2 : Addr) (h0 : Heap) (n0 : Nat) (v : Option Value) (h : Heap) (L : List Loc) : Prop := v = none ∧ Fr n0 L ∧ Keep h0 h [r1] ∧ Exa Z h r1 "com/example/abakus/abakus/conversation/MailboxThread" ∧ Fld Z h r1 "com/example/abakus/abakus/conversation/MailboxThread" "mailbox" "Ljava/lang/String;" (.ref t1) ∧ Fld Z h r1 "com/example/abakus/abakus/conversation/MailboxThread" "thread" "Ljava/lang/String;" (.ref t2)
theorem own_ef_own_mti (m : MethodId) (r1 : Addr) (t1 : Addr) (t2 : Addr) : entryFrame m #[(.ref r1), (.ref t1), (.ref t2)] 3 = mkF m 0 #[rv r1, rv t1, rv t2] [] := by first | (simp [entryFrame, mkF, argsToLocals, Value.category]; done) | rfl
set_option maxRecDepth 65536 in
set_option maxHeartbeats 40000000 in
theorem own_mti (l : Launch) (Z : State) (a0 : Array Value) (hw : ∀ d ∈ tables_1, d.before a0 Z = true) (ws : List Jvm.Cond) (r1 : Addr) (t1 : Addr) (t2 : Addr) (h0 : Heap) (n0 : Nat) (Z0 : n0 ≤ h0.size) (E1 : Exa Z h0 r1 "com/example/abakus/abakus/conversation/MailboxThread") (F1 : Fld Z h0 r1 "com/example/abakus/abakus/conversation/MailboxThread" "mailbox" "Ljava/lang/String;" .null) (F2 : Fld Z h0 r1 "com/example/abakus/abakus/conversation/MailboxThread" "thread" "Ljava/lang/String;" .null) (g1 : n0 ≤ r1) :
    own_Ctr l Z (⟨"com/example/abakus/abakus/conversation/MailboxThread", "<init>", "(Ljava/lang/String;Ljava/lang/String;)V"⟩ : MethodName) prog_4_method_1_code 3 none ws ({ frames := 2, cells := 0, slots := 0, locals := 24 } : Room) (({ frames := 2, cells := 0, slots := 0, locals := 24 } : Room)).cells (({ frames := 2, cells := 0, slots := 0, locals := 24 } : Room)).slots #[(.ref r1), (.ref t1), (.ref t2)] h0 (Q_own_mti Z r1 t1 t2 h0 n0) := by
  refine own_enter (plainFor_of_name own_pn5) ?_
  intro p e s m below meth c s₁ X0 hx hZ hby hml hown hnm hlk hret e0
  have N0 := Fr.nil n0
  refine own_cast (own_ef_own_mti m r1 t1 t2) ?_
  refine own_by (g' := (mkF m 1 #[rv r1, rv t1, rv t2] [(.ref r1)])) (fun t k => XS.aloadN X0.here hx rfl (hb hby own_d5_0) rfl rfl k) ?_
  refine own_callI X0 hx hZ hown rfl (hw _ (List.mem_of_getElem? (i := 33) rfl)) (hw _ (List.mem_of_getElem? (i := 34) rfl)) (hw _ (List.mem_of_getElem? (i := 36) rfl)) (hw _ (List.mem_of_getElem? (i := 37) rfl)) (by decide) (a := r1) (own_rec l Z a0 hw [] (r1) h0 n0 Z0 ) 0 (by decide) (by decide) (by decide) (by decide) e0 (g := (mkF m 1 #[rv r1, rv t1, rv t2] [(.ref r1)])) rfl (by rw [hml]; rfl) (argsL := []) (rest := []) (lenOf own_pd20 rfl) rfl (by show 2 * 0 + _ ≤ _; exact Nat.le_of_eq rfl) (hb hby own_d5_1) ?_
  intro v101 T101 L101 X101 q101
  obtain ⟨rfl, N101q, e101⟩ := q101
  have N101 := Fr.app N0 N101q
  show own_Goes p e below s _ _ _ T101 (mkF m 4 #[rv r1, rv t1, rv t2] [])
  refine own_by (g' := (mkF m 6 #[rv r1, rv t1, rv t2] [(.ref t1), (.ref r1)])) (fun t k => XS.aloadN X101.here hx rfl (hb hby own_d5_4) rfl rfl (XS.aloadN X101.here hx rfl (hb hby own_d5_5) rfl rfl k)) ?_
  obtain ⟨T102, h102, X102, e102, W102, st102⟩ := putF X101 hx hZ hown (host := "") (Or.inl (hw _ (List.mem_of_getElem? (i := 39) rfl))) Via.refl e101 F1 E1 (Or.inr ⟨(hw _ (List.mem_of_getElem? (i := 40) rfl)), rfl, hnm⟩) (hw _ (List.mem_of_getElem? (i := 2) rfl)) (ty := (.object "java/lang/String")) (by decide) rfl rfl (g := (mkF m 6 #[rv r1, rv t1, rv t2] [(.ref t1), (.ref r1)])) rfl rfl (hb hby own_d5_6)
  have f103 := F1.same W102
  have N102 := Fr.snoc X102 N101 g1
  refine own_by (g' := (mkF m 9 #[rv r1, rv t1, rv t2] [])) st102 ?_
  refine own_by (g' := (mkF m 11 #[rv r1, rv t1, rv t2] [(.ref t2), (.ref r1)])) (fun t k => XS.aloadN X102.here hx rfl (hb hby own_d5_9) rfl rfl (XS.aloadN X102.here hx rfl (hb hby own_d5_10) rfl rfl k)) ?_
  have f104 := (F2.other W102 (Or.inr (slot_ne (Or.inr (hw _ (List.mem_of_getElem? (i := 42) rfl))) (Or.inr (hw _ (List.mem_of_getElem? (i := 40) rfl))) (by decide) (t := (.object "java/lang/String")) (t' := (.object "java/lang/String")) (by decide) (by decide))))
  have f105 := (E1.wr W102)
  obtain ⟨T106, h106, X106, e106, W106, st106⟩ := putF X102 hx hZ hown (host := "") (Or.inl (hw _ (List.mem_of_getElem? (i := 41) rfl))) Via.refl e102 f104 f105 (Or.inr ⟨(hw _ (List.mem_of_getElem? (i := 42) rfl)), rfl, hnm⟩) (hw _ (List.mem_of_getElem? (i := 2) rfl)) (ty := (.object "java/lang/String")) (by decide) rfl rfl (g := (mkF m 11 #[rv r1, rv t1, rv t2] [(.ref t2), (.ref r1)])) rfl rfl (hb hby own_d5_11)
  have f107 := f104.same W106
  have N106 := Fr.snoc X106 N102 g1
  refine own_by (g' := (mkF m 14 #[rv r1, rv t1, rv t2] [])) st106 ?_
  have f108 := (f105.wr W106)
  have f109 := (f103.other W106 (Or.inr (slot_ne (Or.inr (hw _ (List.mem_of_getElem? (i := 40) rfl))) (Or.inr (hw _ (List.mem_of_getElem? (i := 42) rfl))) (by decide) (t := (.object "java/lang/String")) (t' := (.object "java/lang/String")) (by decide) (by decide))))
  refine own_retV X106 hx hlk hret (hb hby own_d5_14) (by decide) (by decide) ?_
  rw [e106]
  exact ⟨rfl, N106, (((Keep.refl h0 [r1]).wr W102 (Or.inl (List.mem_of_getElem? (i := 0) rfl))).wr W106 (Or.inl (List.mem_of_getElem? (i := 0) rfl))), f108, f109, f107⟩
theorem own_d7_0 : decode prog_4_method_2_code 0 = .ok (.aload_n 0, 1) := by decide +kernel
theorem own_d7_1 : decode prog_4_method_2_code 1 = .ok (.getfield 7, 3) := by decide +kernel
theorem own_d7_4 : decode prog_4_method_2_code 4 = .ok (.aload_n 1, 1) := by decide +kernel
theorem own_d7_5 : decode prog_4_method_2_code 5 = .ok (.getfield 7, 3) := by decide +kernel
theorem own_d7_8 : decode prog_4_method_2_code 8 = .ok (.invokestatic 16, 3) := by decide +kernel
theorem own_pd21 : parseMethodDescriptor "(Ljava/lang/String;Ljava/lang/String;)I" = some ⟨[(.object "java/lang/String"), (.object "java/lang/String")], some .int⟩ := by decide +kernel
theorem own_d7_11 : decode prog_4_method_2_code 11 = .ok (.istore_n 2, 1) := by decide +kernel
theorem own_d7_12 : decode prog_4_method_2_code 12 = .ok (.iload_n 2, 1) := by decide +kernel
theorem own_d7_13 : decode prog_4_method_2_code 13 = .ok (.ifCond .eq 7, 3) := by decide +kernel
theorem own_d7_20 : decode prog_4_method_2_code 20 = .ok (.aload_n 0, 1) := by decide +kernel
theorem own_d7_21 : decode prog_4_method_2_code 21 = .ok (.getfield 13, 3) := by decide +kernel
theorem own_d7_24 : decode prog_4_method_2_code 24 = .ok (.aload_n 1, 1) := by decide +kernel
theorem own_d7_25 : decode prog_4_method_2_code 25 = .ok (.getfield 13, 3) := by decide +kernel
theorem own_d7_28 : decode prog_4_method_2_code 28 = .ok (.invokestatic 16, 3) := by decide +kernel
theorem own_d7_31 : decode prog_4_method_2_code 31 = .ok (.ireturn, 1) := by decide +kernel
theorem own_d7_16 : decode prog_4_method_2_code 16 = .ok (.iload_n 2, 1) := by decide +kernel
theorem own_d7_17 : decode prog_4_method_2_code 17 = .ok (.goto 14, 3) := by decide +kernel
def Q_own_cto (Z : State) (r1 : Addr) (r2 : Addr) (ra : Addr) (baa : Addr) (kba : ClassId) (cda : Int32) (lna : Int32) (vsa : List Value) (rb : Addr) (bab : Addr) (kbb : ClassId) (cdb : Int32) (lnb : Int32) (vsb : List Value) (rc : Addr) (bac : Addr) (kbc : ClassId) (cdc : Int32) (lnc : Int32) (vsc : List Value) (rd : Addr) (bad : Addr) (kbd : ClassId) (cdd : Int32) (lnd : Int32) (vsd : List Value) (xa0 : Int32) (xa1 : Int32) (xla : Int32) (xb0 : Int32) (xb1 : Int32) (xlb : Int32) (xc0 : Int32) (xc1 : Int32) (xlc : Int32) (xd0 : Int32) (xd1 : Int32) (xld : Int32) (zcs : Int32) (vsf : Value) (h0 : Heap) (n0 : Nat) (v : Option Value) (h : Heap) (L : List Loc) : Prop := v = some (.int (if own_cmp xa0 xa1 xla xb0 xb1 xlb = (0 : Int32) then own_cmp xc0 xc1 xlc xd0 xd1 xld else own_cmp xa0 xa1 xla xb0 xb1 xlb)) ∧ Fr n0 L ∧ h = h0
theorem own_ef_own_cto (m : MethodId) (r1 : Addr) (r2 : Addr) : entryFrame m #[(.ref r1), (.ref r2)] 3 = mkF m 0 #[rv r1, rv r2, .unset] [] := by first | (simp [entryFrame, mkF, argsToLocals, Value.category]; done) | rfl
set_option maxRecDepth 65536 in
set_option maxHeartbeats 40000000 in
theorem own_cto (l : Launch) (Z : State) (a0 : Array Value) (hw : ∀ d ∈ tables_1, d.before a0 Z = true) (ws : List Jvm.Cond) (r1 : Addr) (r2 : Addr) (ra : Addr) (baa : Addr) (kba : ClassId) (cda : Int32) (lna : Int32) (vsa : List Value) (rb : Addr) (bab : Addr) (kbb : ClassId) (cdb : Int32) (lnb : Int32) (vsb : List Value) (rc : Addr) (bac : Addr) (kbc : ClassId) (cdc : Int32) (lnc : Int32) (vsc : List Value) (rd : Addr) (bad : Addr) (kbd : ClassId) (cdd : Int32) (lnd : Int32) (vsd : List Value) (xa0 : Int32) (xa1 : Int32) (xla : Int32) (xb0 : Int32) (xb1 : Int32) (xlb : Int32) (xc0 : Int32) (xc1 : Int32) (xlc : Int32) (xd0 : Int32) (xd1 : Int32) (xld : Int32) (zcs : Int32) (vsf : Value) (h0 : Heap) (n0 : Nat) (Z0 : n0 ≤ h0.size) (O0 : Old Z n0 h0) (S_cs : Sta Z Z.heap "java/lang/String" "COMPACT_STRINGS" "Z" (.int zcs)) (hcs : ¬ zcs = (0 : Int32)) (S_ad : Sta Z Z.heap "java/lang/StringUTF16" "$assertionsDisabled" "Z" (.int (1 : Int32))) (S_hi : Sta Z Z.heap "java/lang/StringUTF16" "HI_BYTE_SHIFT" "I" (.int (0 : Int32))) (S_lo : Sta Z Z.heap "java/lang/StringUTF16" "LO_BYTE_SHIFT" "I" (.int (8 : Int32))) (S_sf : Sta Z Z.heap "jdk/internal/util/Preconditions" "SIOOBE_FORMATTER" "Ljava/util/function/BiFunction;" vsf) (r_sf : (vsf).isRef = true) (E1 : Exa Z h0 r1 "com/example/abakus/abakus/conversation/MailboxThread") (E2 : Exa Z h0 r2 "com/example/abakus/abakus/conversation/MailboxThread") (F1 : Fld Z h0 r1 "com/example/abakus/abakus/conversation/MailboxThread" "mailbox" "Ljava/lang/String;" (.ref ra)) (F2 : Fld Z h0 r1 "com/example/abakus/abakus/conversation/MailboxThread" "thread" "Ljava/lang/String;" (.ref rc)) (F3 : Fld Z h0 r2 "com/example/abakus/abakus/conversation/MailboxThread" "mailbox" "Ljava/lang/String;" (.ref rb)) (F4 : Fld Z h0 r2 "com/example/abakus/abakus/conversation/MailboxThread" "thread" "Ljava/lang/String;" (.ref rd)) (E1a : Exa Z h0 ra "java/lang/String") (F1a : Fld Z h0 ra "java/lang/String" "value" "[B" (.ref baa)) (F2a : Fld Z h0 ra "java/lang/String" "coder" "B" (.int cda)) (V1a : Arv Z h0 baa kba .byte lna vsa (.int (0 : Int32))) (hka0 : own_ch xa0) (hka1 : own_ch xa1) (hsa : own_str xa0 xa1 xla cda lna vsa) (E1b : Exa Z h0 rb "java/lang/String") (F1b : Fld Z h0 rb "java/lang/String" "value" "[B" (.ref bab)) (F2b : Fld Z h0 rb "java/lang/String" "coder" "B" (.int cdb)) (V1b : Arv Z h0 bab kbb .byte lnb vsb (.int (0 : Int32))) (hkb0 : own_ch xb0) (hkb1 : own_ch xb1) (hsb : own_str xb0 xb1 xlb cdb lnb vsb) (E1c : Exa Z h0 rc "java/lang/String") (F1c : Fld Z h0 rc "java/lang/String" "value" "[B" (.ref bac)) (F2c : Fld Z h0 rc "java/lang/String" "coder" "B" (.int cdc)) (V1c : Arv Z h0 bac kbc .byte lnc vsc (.int (0 : Int32))) (hkc0 : own_ch xc0) (hkc1 : own_ch xc1) (hsc : own_str xc0 xc1 xlc cdc lnc vsc) (E1d : Exa Z h0 rd "java/lang/String") (F1d : Fld Z h0 rd "java/lang/String" "value" "[B" (.ref bad)) (F2d : Fld Z h0 rd "java/lang/String" "coder" "B" (.int cdd)) (V1d : Arv Z h0 bad kbd .byte lnd vsd (.int (0 : Int32))) (hkd0 : own_ch xd0) (hkd1 : own_ch xd1) (hsd : own_str xd0 xd1 xld cdd lnd vsd) :
    own_Ctr l Z (⟨"com/example/abakus/abakus/conversation/MailboxThread", "compareTo", "(Lcom/example/abakus/abakus/conversation/MailboxThread;)I"⟩ : MethodName) prog_4_method_2_code 3 (some .int) ws ({ frames := 6, cells := 0, slots := 0, locals := 83 } : Room) (({ frames := 6, cells := 0, slots := 0, locals := 83 } : Room)).cells (({ frames := 6, cells := 0, slots := 0, locals := 83 } : Room)).slots #[(.ref r1), (.ref r2)] h0 (Q_own_cto Z r1 r2 ra baa kba cda lna vsa rb bab kbb cdb lnb vsb rc bac kbc cdc lnc vsc rd bad kbd cdd lnd vsd xa0 xa1 xla xb0 xb1 xlb xc0 xc1 xlc xd0 xd1 xld zcs vsf h0 n0) := by
  refine own_enter (plainFor_of_name own_pn5) ?_
  intro p e s m below meth c s₁ X0 hx hZ hby hml hown hnm hlk hret e0
  have N0 := Fr.nil n0
  refine own_cast (own_ef_own_cto m r1 r2) ?_
  refine own_by (g' := (mkF m 1 #[rv r1, rv r2, .unset] [(.ref r1)])) (fun t k => XS.aloadN X0.here hx rfl (hb hby own_d7_0) rfl rfl k) ?_
  obtain ⟨T101, X101, e101, st101⟩ := getF X0 hx hZ hown (host := "") (Or.inl (hw _ (List.mem_of_getElem? (i := 39) rfl))) Via.refl e0 F1 (g := (mkF m 1 #[rv r1, rv r2, .unset] [(.ref r1)])) rfl rfl (hb hby own_d7_1)
  refine own_by (g' := (mkF m 4 #[rv r1, rv r2, .unset] [(.ref ra)])) st101 ?_
  refine own_by (g' := (mkF m 5 #[rv r1, rv r2, .unset] [(.ref r2), (.ref ra)])) (fun t k => XS.aloadN X101.here hx rfl (hb hby own_d7_4) rfl rfl k) ?_
  obtain ⟨T102, X102, e102, st102⟩ := getF X101 hx hZ hown (host := "") (Or.inl (hw _ (List.mem_of_getElem? (i := 39) rfl))) Via.refl e101 F3 (g := (mkF m 5 #[rv r1, rv r2, .unset] [(.ref r2), (.ref ra)])) rfl rfl (hb hby own_d7_5)
  refine own_by (g' := (mkF m 8 #[rv r1, rv r2, .unset] [(.ref rb), (.ref ra)])) st102 ?_
  refine own_callS X102 hx hZ hown (hw _ (List.mem_of_getElem? (i := 48) rfl)) (hw _ (List.mem_of_getElem? (i := 49) rfl)) (hw _ (List.mem_of_getElem? (i := 3) rfl)) (hw _ (List.mem_of_getElem? (i := 50) rfl)) (by decide) (own_cu8 l Z a0 hw [] (ra) (baa) (kba) (cda) (lna) (vsa) (rb) (bab) (kbb) (cdb) (lnb) (vsb) (xa0) (xa1) (xla) (xb0) (xb1) (xlb) (zcs) (vsf) h0 n0 Z0 O0 S_cs (by first | assumption | decide) S_ad S_hi S_lo S_sf r_sf E1a F1a F2a V1a E1b F1b F2b V1b (by first | assumption | decide) (by first | assumption | decide) (by first | assumption | decide) (by first | assumption | decide) (by first | assumption | decide) (by first | assumption | decide)) 0 (by decide) (by decide) (by decide) (by decide) e102 (g := (mkF m 8 #[rv r1, rv r2, .unset] [(.ref rb), (.ref ra)])) rfl (by rw [hml]; rfl) (argsL := [(.ref ra), (.ref rb)]) (rest := []) (lenOf own_pd21 rfl) rfl (by show 2 * 0 + _ ≤ _; exact Nat.le_of_eq rfl) (hb hby own_d7_8) ?_
  intro v103 T103 L103 X103 q103
  obtain ⟨rfl, N103q, e103⟩ := q103
  have N103 := Fr.app N0 N103q
  show own_Goes p e below s _ _ _ T103 (mkF m 11 #[rv r1, rv r2, .unset] [(.int (own_cmp xa0 xa1 xla xb0 xb1 xlb))])
  refine own_by (g' := (mkF m 13 #[rv r1, rv r2, iv (own_cmp xa0 xa1 xla xb0 xb1 xlb)] [(.int (own_cmp xa0 xa1 xla xb0 xb1 xlb))])) (fun t k => XS.istoreN X103.here hx rfl (hb hby own_d7_11) rfl (l' := #[rv r1, rv r2, iv (own_cmp xa0 xa1 xla xb0 xb1 xlb)]) rfl (XS.iloadN X103.here hx rfl (hb hby own_d7_12) rfl k)) ?_
  by_cases hc104 : (own_cmp xa0 xa1 xla xb0 xb1 xlb) = (0 : Int32)
  ·
    refine own_by (g' := (mkF m 21 #[rv r1, rv r2, iv (own_cmp xa0 xa1 xla xb0 xb1 xlb)] [(.ref r1)])) (fun t k => XS.ifYes X103.here hx rfl (pc0 := 13) (pc' := 20) rfl (hb hby own_d7_13) rfl ((if0 _ _).trans (teq hc104).1) (by decide) (by decide) (XS.aloadN X103.here hx rfl (hb hby own_d7_20) rfl rfl k)) ?_
    obtain ⟨T105, X105, e105, st105⟩ := getF X103 hx hZ hown (host := "") (Or.inl (hw _ (List.mem_of_getElem? (i := 41) rfl))) Via.refl e103 F2 (g := (mkF m 21 #[rv r1, rv r2, iv (own_cmp xa0 xa1 xla xb0 xb1 xlb)] [(.ref r1)])) rfl rfl (hb hby own_d7_21)
    refine own_by (g' := (mkF m 24 #[rv r1, rv r2, iv (own_cmp xa0 xa1 xla xb0 xb1 xlb)] [(.ref rc)])) st105 ?_
    refine own_by (g' := (mkF m 25 #[rv r1, rv r2, iv (own_cmp xa0 xa1 xla xb0 xb1 xlb)] [(.ref r2), (.ref rc)])) (fun t k => XS.aloadN X105.here hx rfl (hb hby own_d7_24) rfl rfl k) ?_
    obtain ⟨T106, X106, e106, st106⟩ := getF X105 hx hZ hown (host := "") (Or.inl (hw _ (List.mem_of_getElem? (i := 41) rfl))) Via.refl e105 F4 (g := (mkF m 25 #[rv r1, rv r2, iv (own_cmp xa0 xa1 xla xb0 xb1 xlb)] [(.ref r2), (.ref rc)])) rfl rfl (hb hby own_d7_25)
    refine own_by (g' := (mkF m 28 #[rv r1, rv r2, iv (own_cmp xa0 xa1 xla xb0 xb1 xlb)] [(.ref rd), (.ref rc)])) st106 ?_
    refine own_callS X106 hx hZ hown (hw _ (List.mem_of_getElem? (i := 48) rfl)) (hw _ (List.mem_of_getElem? (i := 49) rfl)) (hw _ (List.mem_of_getElem? (i := 3) rfl)) (hw _ (List.mem_of_getElem? (i := 50) rfl)) (by decide) (own_cu8 l Z a0 hw [] (rc) (bac) (kbc) (cdc) (lnc) (vsc) (rd) (bad) (kbd) (cdd) (lnd) (vsd) (xc0) (xc1) (xlc) (xd0) (xd1) (xld) (zcs) (vsf) h0 n0 Z0 O0 S_cs (by first | assumption | decide) S_ad S_hi S_lo S_sf r_sf E1c F1c F2c V1c E1d F1d F2d V1d (by first | assumption | decide) (by first | assumption | decide) (by first | assumption | decide) (by first | assumption | decide) (by first | assumption | decide) (by first | assumption | decide)) 0 (by decide) (by decide) (by decide) (by decide) e106 (g := (mkF m 28 #[rv r1, rv r2, iv (own_cmp xa0 xa1 xla xb0 xb1 xlb)] [(.ref rd), (.ref rc)])) rfl (by rw [hml]; rfl) (argsL := [(.ref rc), (.ref rd)]) (rest := []) (lenOf own_pd21 rfl) rfl (by show 2 * 0 + _ ≤ _; exact Nat.le_of_eq rfl) (hb hby own_d7_28) ?_
    intro v107 T107 L107 X107 q107
    obtain ⟨rfl, N107q, e107⟩ := q107
    have N107 := Fr.app N103 N107q
    show own_Goes p e below s _ _ _ T107 (mkF m 31 #[rv r1, rv r2, iv (own_cmp xa0 xa1 xla xb0 xb1 xlb)] [(.int (own_cmp xc0 xc1 xlc xd0 xd1 xld))])
    refine own_retI X107 hx hlk hret (hb hby own_d7_31) (by decide) (by decide) ?_
    exact ⟨(by simp [hc104]), N107, e107⟩
  ·
    refine own_by (g' := (mkF m 31 #[rv r1, rv r2, iv (own_cmp xa0 xa1 xla xb0 xb1 xlb)] [(.int (own_cmp xa0 xa1 xla xb0 xb1 xlb))])) (fun t k => XS.ifNo X103.here hx rfl (hb hby own_d7_13) rfl ((if0 _ _).trans (feq hc104).1) (XS.iloadN X103.here hx rfl (hb hby own_d7_16) rfl (XS.goto X103.here hx rfl (pc0 := 17) (pc' := 31) rfl (hb hby own_d7_17) (by decide) (by decide) k))) ?_
    refine own_retI X103 hx hlk hret (hb hby own_d7_31) (by decide) (by decide) ?_
    exact ⟨(by simp [hc104]), N103, e103⟩
theorem own_d3_8 : decode jdk_42_method_149_code 8 = .ok (.aload_n 0, 1) := by decide +kernel
theorem own_d3_9 : decode jdk_42_method_149_code 9 = .ok (.ldc 7, 2) := by decide +kernel
theorem own_atoms {Z : State} {a0 : Array Value} (hw : ∀ d ∈ tables_1, d.before a0 Z = true) : ∀ a ∈ Bundle.stringAtoms, a.before a0 Z = true := by
  intro a ha
  simp only [Bundle.stringAtoms, Bundle.sN, List.mem_cons, List.not_mem_nil, or_false] at ha
  rcases ha with rfl | rfl | rfl | rfl | rfl | rfl | rfl
  · exact (hw _ (List.mem_of_getElem? (i := 10) rfl))
  · exact (hw _ (List.mem_of_getElem? (i := 9) rfl))
  · exact (hw _ (List.mem_of_getElem? (i := 23) rfl))
  · exact (hw _ (List.mem_of_getElem? (i := 24) rfl))
  · exact (hw _ (List.mem_of_getElem? (i := 25) rfl))
  · exact (hw _ (List.mem_of_getElem? (i := 26) rfl))
  · exact (hw _ (List.mem_of_getElem? (i := 27) rfl))
theorem own_frS {k0 k1 : Nat} {L : List Loc} (N : Fr k0 L) (q : k1 ≤ k0) : Fr k1 L := fun y hy => Nat.le_trans q (N y hy)
theorem own_d3_11 : decode jdk_42_method_149_code 11 = .ok (.getfield 9, 3) := by decide +kernel
theorem own_d3_14 : decode jdk_42_method_149_code 14 = .ok (.putfield 9, 3) := by decide +kernel
theorem own_d3_17 : decode jdk_42_method_149_code 17 = .ok (.aload_n 0, 1) := by decide +kernel
theorem own_d3_18 : decode jdk_42_method_149_code 18 = .ok (.ldc 7, 2) := by decide +kernel
theorem own_d3_20 : decode jdk_42_method_149_code 20 = .ok (.getfield 15, 3) := by decide +kernel
theorem own_d3_23 : decode jdk_42_method_149_code 23 = .ok (.putfield 15, 3) := by decide +kernel
theorem own_d3_26 : decode jdk_42_method_149_code 26 = .ok (.return_, 1) := by decide +kernel
theorem own_either {Z : State} {h h' : Heap} {a x : Addr} {sl : Nat} {w v : Value} {C f d : String} (F : Fld Z h a C f d v) (W : Wr h h' x sl w) (G : Fld Z h' x C f d v) : Fld Z h' a C f d v := by
  by_cases q : a = x
  · subst q; exact G
  · exact F.other W (Or.inl q)
def Q_own_ini4_00 (Z : State) (r1 : Addr) (r2 : Addr) (k1 : ClassId) (h0 : Heap) (n0 : Nat) (v : Option Value) (u : Vm) (h : Heap) (L : List Loc) : Prop := ∃ (al : Addr), ∃ (bl : Addr), ∃ (kl : ClassId), v = none ∧ Fr n0 L ∧ Keep h0 h [r1] ∧ Exa Z h r1 "java/lang/String" ∧ Fld Z h r1 "java/lang/String" "value" "[B" (.ref bl) ∧ Fld Z h r1 "java/lang/String" "coder" "B" (.int (0 : Int32)) ∧ Exa Z h al "java/lang/String" ∧ Fld Z h al "java/lang/String" "coder" "B" (.int (0 : Int32)) ∧ Fld Z h al "java/lang/String" "value" "[B" (.ref bl) ∧ Arv Z h bl kl .byte (0 : Int32) [] (.int (0 : Int32)) ∧ Lit (Z.setVm u) "java/lang/String" 7 al
theorem own_ef_own_ini4_00 (m : MethodId) (r1 : Addr) (r2 : Addr) : entryFrame m #[(.ref r1), (.ref r2), (.int (0 : Int32)), (.int (0 : Int32)), .null] 6 = mkF m 0 #[rv r1, rv r2, iv (0 : Int32), iv (0 : Int32), .val .null, .unset] [] := by first | (simp [entryFrame, mkF, argsToLocals, Value.category]; done) | rfl
set_option maxRecDepth 65536 in
set_option maxHeartbeats 40000000 in
theorem own_ini4_00 (l : Launch) (Z : State) (a0 : Array Value) (hw : ∀ d ∈ tables_1, d.before a0 Z = true) (ws : List Jvm.Cond) (r1 : Addr) (r2 : Addr) (k1 : ClassId) (h0 : Heap) (n0 : Nat) (Z0 : n0 ≤ h0.size) (O0 : Old Z n0 h0) (hcw : Jvm.Lit.compactW.before a0 Z = true) (hch : Jvm.Lit.constHeld Z "java/lang/String" 7) (E1 : Exa Z h0 r1 "java/lang/String") (F1 : Fld Z h0 r1 "java/lang/String" "value" "[B" .null) (F2 : Fld Z h0 r1 "java/lang/String" "coder" "B" (.int (0 : Int32))) (g1 : n0 ≤ r1) (V1 : Arv Z h0 r2 k1 .char (0 : Int32) [] (.int (0 : Int32))) :
    ownW_Ctr l Z (⟨"java/lang/String", "<init>", "([CIILjava/lang/Void;)V"⟩ : MethodName) jdk_42_method_149_code 6 none ws ({ frames := 1, cells := 2, slots := 4, locals := 12 } : Room) (({ frames := 1, cells := 2, slots := 4, locals := 12 } : Room)).cells (({ frames := 1, cells := 2, slots := 4, locals := 12 } : Room)).slots #[(.ref r1), (.ref r2), (.int (0 : Int32)), (.int (0 : Int32)), .null] h0 (fun u => IB Z u []) (Q_own_ini4_00 Z r1 r2 k1 h0 n0) := by
  refine ownW_enter (plainFor_of_name own_pn1) ?_
  intro p e s0 s m below meth c s₁ hsv hsh S0 X0 hx hZ hby hml hown hnm hlk hret e0 hJ
  have hib := hJ
  have N0 := Fr.nil n0
  refine ownW_cast (own_ef_own_ini4_00 m r1 r2) ?_
  refine ownW_by (g' := (mkF m 1 #[rv r1, rv r2, iv (0 : Int32), iv (0 : Int32), .val .null, .unset] [(.ref r1)])) (fun t k => XS.aloadN X0.here hx rfl (hb hby own_d3_0) rfl rfl k) ?_
  obtain ⟨T101, X101, e101, st101⟩ := initO X0 hx hZ hown (hw _ (List.mem_of_getElem? (i := 19) rfl)) (hw _ (List.mem_of_getElem? (i := 20) rfl)) (hw _ (List.mem_of_getElem? (i := 21) rfl)) e0 (g := (mkF m 1 #[rv r1, rv r2, iv (0 : Int32), iv (0 : Int32), .val .null, .unset] [(.ref r1)])) rfl (by rw [hml]; rfl) rfl (hb hby own_d3_1) (by decide) (W := 0) (by show 2 * 0 + _ ≤ _; exact Nat.le_of_eq rfl) (by decide)
  refine ownW_by (g' := (mkF m 4 #[rv r1, rv r2, iv (0 : Int32), iv (0 : Int32), .val .null, .unset] [])) st101 ?_
  refine ownW_by (g' := (mkF m 9 #[rv r1, rv r2, iv (0 : Int32), iv (0 : Int32), .val .null, .unset] [(.ref r1)])) (fun t k => XS.iloadN X101.here hx rfl (hb hby own_d3_4) rfl (XS.ifNo X101.here hx rfl (hb hby own_d3_5) rfl ((if0 _ _).trans (teq (by decide : (0 : Int32) = (0 : Int32))).2) (XS.aloadN X101.here hx rfl (hb hby own_d3_8) rfl rfl k))) ?_
  refine ownW_ldc X101 hx hZ hsv hsh S0 (Nat.zero_le _) hown (hw _ (List.mem_of_getElem? (i := 22) rfl)) (own_atoms hw) e101 O0 (Fr.nil _) hib (by decide) hch hcw (vs := []) (zl := (0 : Int32)) ⟨by decide, rfl⟩ (by decide) (by decide) (g := (mkF m 9 #[rv r1, rv r2, iv (0 : Int32), iv (0 : Int32), .val .null, .unset] [(.ref r1)])) rfl (hb hby own_d3_9) (k0 := 0) (by decide) (by decide) (by decide) (by decide) ?_
  intro s T102 h102 a102 b102 k102 X102 hsv hsh S102 hZ hown e102 E102 ex102 fc102 fv102 av102 ib102 li102
  show ownW_Goes p e below s0 _ _ _ T102 (mkF m 11 #[rv r1, rv r2, iv (0 : Int32), iv (0 : Int32), .val .null, .unset] [(.ref a102), (.ref r1)])
  obtain ⟨T103, X103, e103, st103⟩ := getF X102 hx hZ hown (host := "") (Or.inl (hw _ (List.mem_of_getElem? (i := 28) rfl))) Via.refl e102 fv102 (g := (mkF m 11 #[rv r1, rv r2, iv (0 : Int32), iv (0 : Int32), .val .null, .unset] [(.ref a102), (.ref r1)])) rfl rfl (hb hby own_d3_11)
  refine ownW_by (g' := (mkF m 14 #[rv r1, rv r2, iv (0 : Int32), iv (0 : Int32), .val .null, .unset] [(.ref b102), (.ref r1)])) st103 ?_
  have f104 := (F1.ext E102)
  have f105 := (E1.ext E102)
  obtain ⟨T106, h106, X106, e106, W106, st106⟩ := putF X103 hx hZ hown (host := "") (Or.inl (hw _ (List.mem_of_getElem? (i := 28) rfl))) Via.refl e103 f104 f105 (Or.inr ⟨(hw _ (List.mem_of_getElem? (i := 24) rfl)), rfl, hnm⟩) (hw _ (List.mem_of_getElem? (i := 9) rfl)) (ty := (.array .byte)) (by decide) rfl rfl (g := (mkF m 14 #[rv r1, rv r2, iv (0 : Int32), iv (0 : Int32), .val .null, .unset] [(.ref b102), (.ref r1)])) rfl rfl (hb hby own_d3_14)
  have f107 := f104.same W106
  have N106 := Fr.snoc X106 N0 g1
  refine ownW_by (g' := (mkF m 17 #[rv r1, rv r2, iv (0 : Int32), iv (0 : Int32), .val .null, .unset] [])) st106 ?_
  refine ownW_by (g' := (mkF m 20 #[rv r1, rv r2, iv (0 : Int32), iv (0 : Int32), .val .null, .unset] [(.ref a102), (.ref r1)])) (fun t k => XS.aloadN X106.here hx rfl (hb hby own_d3_17) rfl rfl (own_again X106 hx hZ hown (hw _ (List.mem_of_getElem? (i := 22) rfl)) li102 (g := (mkF m 18 #[rv r1, rv r2, iv (0 : Int32), iv (0 : Int32), .val .null, .unset] [(.ref r1)])) rfl (hb hby own_d3_18) t k)) ?_
  have f108 := (fc102.other W106 (Or.inr (slot_ne (Or.inr (hw _ (List.mem_of_getElem? (i := 25) rfl))) (Or.inr (hw _ (List.mem_of_getElem? (i := 24) rfl))) (by decide) (t := .byte) (t' := (.array .byte)) (by decide) (by decide))))
  obtain ⟨T109, X109, e109, st109⟩ := getF X106 hx hZ hown (host := "") (Or.inl (hw _ (List.mem_of_getElem? (i := 29) rfl))) Via.refl e106 f108 (g := (mkF m 20 #[rv r1, rv r2, iv (0 : Int32), iv (0 : Int32), .val .null, .unset] [(.ref a102), (.ref r1)])) rfl rfl (hb hby own_d3_20)
  refine ownW_by (g' := (mkF m 23 #[rv r1, rv r2, iv (0 : Int32), iv (0 : Int32), .val .null, .unset] [(.int (0 : Int32)), (.ref r1)])) st109 ?_
  have f110 := ((F2.ext E102).other W106 (Or.inr (slot_ne (Or.inr (hw _ (List.mem_of_getElem? (i := 25) rfl))) (Or.inr (hw _ (List.mem_of_getElem? (i := 24) rfl))) (by decide) (t := .byte) (t' := (.array .byte)) (by decide) (by decide))))
  have f111 := (f105.wr W106)
  obtain ⟨T112, h112, X112, e112, W112, st112⟩ := putFN X109 hx hZ hown (hw _ (List.mem_of_getElem? (i := 29) rfl)) Via.refl e109 f110 f111 (Or.inr ⟨(hw _ (List.mem_of_getElem? (i := 25) rfl)), rfl, hnm⟩) (hw _ (List.mem_of_getElem? (i := 9) rfl)) (ty := .byte) (v' := (.int (0 : Int32))) (by decide) rfl (by decide) (g := (mkF m 23 #[rv r1, rv r2, iv (0 : Int32), iv (0 : Int32), .val .null, .unset] [(.int (0 : Int32)), (.ref r1)])) rfl rfl (hb hby own_d3_23)
  have f113 := f110.same W112
  have N112 := Fr.snoc X112 N106 g1
  refine ownW_by (g' := (mkF m 26 #[rv r1, rv r2, iv (0 : Int32), iv (0 : Int32), .val .null, .unset] [])) st112 ?_
  have f114 := (f111.wr W112)
  have f115 := (f107.other W112 (Or.inr (slot_ne (Or.inr (hw _ (List.mem_of_getElem? (i := 24) rfl))) (Or.inr (hw _ (List.mem_of_getElem? (i := 25) rfl))) (by decide) (t := (.array .byte)) (t' := .byte) (by decide) (by decide))))
  have f116 := ((ex102.wr W106).wr W112)
  have f117 := (own_either f108 W112 f113)
  have f118 := ((own_either fv102 W106 f107).other W112 (Or.inr (slot_ne (Or.inr (hw _ (List.mem_of_getElem? (i := 24) rfl))) (Or.inr (hw _ (List.mem_of_getElem? (i := 25) rfl))) (by decide) (t := (.array .byte)) (t' := .byte) (by decide) (by decide))))
  have f119 := ((av102.other W106 (Ne.symm (Exa.neArv f105 av102 (hw _ (List.mem_of_getElem? (i := 9) rfl))))).other W112 (Ne.symm (Exa.neArv f105 av102 (hw _ (List.mem_of_getElem? (i := 9) rfl)))))
  refine ownW_retV X112 hsv S102 (Nat.le_trans (Nat.le_trans (Nat.le_of_eq W106.size.symm) (Nat.le_of_eq W112.size.symm)) (Nat.le_of_eq (congrArg Array.size e112).symm)) hx hlk hret (hb hby own_d3_26) (by decide) (by decide) ?_
  intro u hu
  rw [e112]
  exact ⟨a102, b102, k102, rfl, N112, ((((Keep.refl h0 [r1]).ext E102).wr W106 (Or.inl (List.mem_of_getElem? (i := 0) rfl))).wr W112 (Or.inl (List.mem_of_getElem? (i := 0) rfl))), f114, f115, f113, f116, f117, f118, f119, (own_litW li102 hu)⟩
def Q_own_ini1_00 (Z : State) (r1 : Addr) (r2 : Addr) (k1 : ClassId) (h0 : Heap) (n0 : Nat) (v : Option Value) (u : Vm) (h : Heap) (L : List Loc) : Prop := ∃ (al : Addr), ∃ (bl : Addr), ∃ (kl : ClassId), v = none ∧ Fr n0 L ∧ Keep h0 h [r1] ∧ Exa Z h r1 "java/lang/String" ∧ Fld Z h r1 "java/lang/String" "value" "[B" (.ref bl) ∧ Fld Z h r1 "java/lang/String" "coder" "B" (.int (0 : Int32)) ∧ Exa Z h al "java/lang/String" ∧ Fld Z h al "java/lang/String" "coder" "B" (.int (0 : Int32)) ∧ Fld Z h al "java/lang/String" "value" "[B" (.ref bl) ∧ Arv Z h bl kl .byte (0 : Int32) [] (.int (0 : Int32)) ∧ Lit (Z.setVm u) "java/lang/String" 7 al
theorem own_ef_own_ini1_00 (m : MethodId) (r1 : Addr) (r2 : Addr) : entryFrame m #[(.ref r1), (.ref r2)] 2 = mkF m 0 #[rv r1, rv r2] [] := by first | (simp [entryFrame, mkF, argsToLocals, Value.category]; done) | rfl
set_option maxRecDepth 65536 in
set_option maxHeartbeats 40000000 in
theorem own_ini1_00 (l : Launch) (Z : State) (a0 : Array Value) (hw : ∀ d ∈ tables_1, d.before a0 Z = true) (ws : List Jvm.Cond) (r1 : Addr) (r2 : Addr) (k1 : ClassId) (h0 : Heap) (n0 : Nat) (Z0 : n0 ≤ h0.size) (O0 : Old Z n0 h0) (hcw : Jvm.Lit.compactW.before a0 Z = true) (hch : Jvm.Lit.constHeld Z "java/lang/String" 7) (E1 : Exa Z h0 r1 "java/lang/String") (F1 : Fld Z h0 r1 "java/lang/String" "value" "[B" .null) (F2 : Fld Z h0 r1 "java/lang/String" "coder" "B" (.int (0 : Int32))) (g1 : n0 ≤ r1) (V1 : Arv Z h0 r2 k1 .char (0 : Int32) [] (.int (0 : Int32))) :
    ownW_Ctr l Z (⟨"java/lang/String", "<init>", "([C)V"⟩ : MethodName) jdk_42_method_3_code 2 none ws ({ frames := 2, cells := 2, slots := 4, locals := 29 } : Room) (({ frames := 2, cells := 2, slots := 4, locals := 29 } : Room)).cells (({ frames := 2, cells := 2, slots := 4, locals := 29 } : Room)).slots #[(.ref r1), (.ref r2)] h0 (fun u => IB Z u []) (Q_own_ini1_00 Z r1 r2 k1 h0 n0) := by
  refine ownW_enter (plainFor_of_name own_pn1) ?_
  intro p e s0 s m below meth c s₁ hsv hsh S0 X0 hx hZ hby hml hown hnm hlk hret e0 hJ
  have hib := hJ
  have N0 := Fr.nil n0
  refine ownW_cast (own_ef_own_ini1_00 m r1 r2) ?_
  refine ownW_by (g' := (mkF m 4 #[rv r1, rv r2] [(.ref r2), (.int (0 : Int32)), (.ref r2), (.ref r1)])) (fun t k => XS.aloadN X0.here hx rfl (hb hby own_d2_0) rfl rfl (XS.aloadN X0.here hx rfl (hb hby own_d2_1) rfl rfl (XS.iconst X0.here hx rfl (hb hby own_d2_2) (XS.aloadN X0.here hx rfl (hb hby own_d2_3) rfl rfl k)))) ?_
  obtain ⟨c101, Ar101, -, S101, G101, -, -⟩ := id V1
  refine ownW_by (g' := (mkF m 5 #[rv r1, rv r2] [(.int (0 : Int32)), (.int (0 : Int32)), (.ref r2), (.ref r1)])) (fun t k => X0.arraylength hx (own_at_ e0 Ar101.1) (State.isArrayOf_alike hZ.alike Ar101.2.1) (g := (mkF m 4 #[rv r1, rv r2] [(.ref r2), (.int (0 : Int32)), (.ref r2), (.ref r1)])) rfl rfl (hb hby own_d2_4) t (by rw [len_of S101 G101]; exact k)) ?_
  refine ownW_by (g' := (mkF m 6 #[rv r1, rv r2] [.null, (.int (0 : Int32)), (.int (0 : Int32)), (.ref r2), (.ref r1)])) (fun t k => XS.aconstNull X0.here hx rfl (hb hby own_d2_5) k) ?_
  refine ownW_callIW X0 hx hZ hsv hsh S0 (Nat.zero_le _) hown rfl (hw _ (List.mem_of_getElem? (i := 15) rfl)) (hw _ (List.mem_of_getElem? (i := 16) rfl)) (hw _ (List.mem_of_getElem? (i := 10) rfl)) (hw _ (List.mem_of_getElem? (i := 18) rfl)) (by decide) (a := r1) (own_ini4_00 l Z a0 hw [] (r1) (r2) (k1) h0 n0 Z0 O0 (by first | assumption | decide) (by first | assumption | decide) E1 F1 F2 g1 V1) (fun u hu => own_ibW hib hu) 0 (by decide) (by decide) (by decide) (by decide) e0 (g := (mkF m 6 #[rv r1, rv r2] [.null, (.int (0 : Int32)), (.int (0 : Int32)), (.ref r2), (.ref r1)])) rfl (by rw [hml]; rfl) (argsL := [(.ref r2), (.int (0 : Int32)), (.int (0 : Int32)), .null]) (rest := []) (lenOf own_pd13 rfl) rfl (by show 2 * 0 + _ ≤ _; exact Nat.le_of_eq rfl) (hb hby own_d2_6) ?_
  intro s v102 T102 L102 X102 hsv hsh S102 hZ hown q102
  obtain ⟨al102, bl102, kl102, rfl, N102q, K102, f103, f104, f105, f106, f107, f108, f109, u110⟩ := q102
  have N102 := Fr.app N0 N102q
  show ownW_Goes p e below s0 _ _ _ T102 (mkF m 9 #[rv r1, rv r2] [])
  refine ownW_retV X102 hsv S102 (Nat.le_refl _) hx hlk hret (hb hby own_d2_9) (by decide) (by decide) ?_
  intro u hu
  exact ⟨al102, bl102, kl102, rfl, N102, ((Keep.refl h0 [r1]).trans K102 (allS (Or.inl (List.mem_of_getElem? (i := 0) rfl)) all0)), f103, f104, f105, f106, f107, f108, f109, (own_litW u110 hu)⟩
def Q_own_ini4_01 (Z : State) (r1 : Addr) (r2 : Addr) (k1 : ClassId) (al : Addr) (bl : Addr) (kl : ClassId) (h0 : Heap) (n0 : Nat) (v : Option Value) (u : Vm) (h : Heap) (L : List Loc) : Prop := v = none ∧ Fr n0 L ∧ Keep h0 h [r1] ∧ Exa Z h r1 "java/lang/String" ∧ Fld Z h r1 "java/lang/String" "value" "[B" (.ref bl) ∧ Fld Z h r1 "java/lang/String" "coder" "B" (.int (0 : Int32)) ∧ Exa Z h al "java/lang/String" ∧ Fld Z h al "java/lang/String" "coder" "B" (.int (0 : Int32)) ∧ Fld Z h al "java/lang/String" "value" "[B" (.ref bl) ∧ Arv Z h bl kl .byte (0 : Int32) [] (.int (0 : Int32)) ∧ Lit (Z.setVm u) "java/lang/String" 7 al
theorem own_ef_own_ini4_01 (m : MethodId) (r1 : Addr) (r2 : Addr) : entryFrame m #[(.ref r1), (.ref r2), (.int (0 : Int32)), (.int (0 : Int32)), .null] 6 = mkF m 0 #[rv r1, rv r2, iv (0 : Int32), iv (0 : Int32), .val .null, .unset] [] := by first | (simp [entryFrame, mkF, argsToLocals, Value.category]; done) | rfl
set_option maxRecDepth 65536 in
set_option maxHeartbeats 40000000 in
theorem own_ini4_01 (l : Launch) (Z : State) (a0 : Array Value) (hw : ∀ d ∈ tables_1, d.before a0 Z = true) (ws : List Jvm.Cond) (r1 : Addr) (r2 : Addr) (k1 : ClassId) (al : Addr) (bl : Addr) (kl : ClassId) (h0 : Heap) (n0 : Nat) (Z0 : n0 ≤ h0.size) (E5 : Exa Z h0 al "java/lang/String") (F7 : Fld Z h0 al "java/lang/String" "coder" "B" (.int (0 : Int32))) (F8 : Fld Z h0 al "java/lang/String" "value" "[B" (.ref bl)) (V5 : Arv Z h0 bl kl .byte (0 : Int32) [] (.int (0 : Int32))) (E1 : Exa Z h0 r1 "java/lang/String") (F1 : Fld Z h0 r1 "java/lang/String" "value" "[B" .null) (F2 : Fld Z h0 r1 "java/lang/String" "coder" "B" (.int (0 : Int32))) (g1 : n0 ≤ r1) (V1 : Arv Z h0 r2 k1 .char (0 : Int32) [] (.int (0 : Int32))) :
    ownW_Ctr l Z (⟨"java/lang/String", "<init>", "([CIILjava/lang/Void;)V"⟩ : MethodName) jdk_42_method_149_code 6 none ws ({ frames := 1, cells := 0, slots := 0, locals := 12 } : Room) (({ frames := 1, cells := 0, slots := 0, locals := 12 } : Room)).cells (({ frames := 1, cells := 0, slots := 0, locals := 12 } : Room)).slots #[(.ref r1), (.ref r2), (.int (0 : Int32)), (.int (0 : Int32)), .null] h0 (fun u => Lit (Z.setVm u) "java/lang/String" 7 al) (Q_own_ini4_01 Z r1 r2 k1 al bl kl h0 n0) := by
  refine ownW_enter (plainFor_of_name own_pn1) ?_
  intro p e s0 s m below meth c s₁ hsv hsh S0 X0 hx hZ hby hml hown hnm hlk hret e0 hJ
  have Lt := hJ
  have N0 := Fr.nil n0
  refine ownW_cast (own_ef_own_ini4_01 m r1 r2) ?_
  refine ownW_by (g' := (mkF m 1 #[rv r1, rv r2, iv (0 : Int32), iv (0 : Int32), .val .null, .unset] [(.ref r1)])) (fun t k => XS.aloadN X0.here hx rfl (hb hby own_d3_0) rfl rfl k) ?_
  obtain ⟨T101, X101, e101, st101⟩ := initO X0 hx hZ hown (hw _ (List.mem_of_getElem? (i := 19) rfl)) (hw _ (List.mem_of_getElem? (i := 20) rfl)) (hw _ (List.mem_of_getElem? (i := 21) rfl)) e0 (g := (mkF m 1 #[rv r1, rv r2, iv (0 : Int32), iv (0 : Int32), .val .null, .unset] [(.ref r1)])) rfl (by rw [hml]; rfl) rfl (hb hby own_d3_1) (by decide) (W := 0) (by show 2 * 0 + _ ≤ _; exact Nat.le_of_eq rfl) (by decide)
  refine ownW_by (g' := (mkF m 4 #[rv r1, rv r2, iv (0 : Int32), iv (0 : Int32), .val .null, .unset] [])) st101 ?_
  refine ownW_by (g' := (mkF m 11 #[rv r1, rv r2, iv (0 : Int32), iv (0 : Int32), .val .null, .unset] [(.ref al), (.ref r1)])) (fun t k => XS.iloadN X101.here hx rfl (hb hby own_d3_4) rfl (XS.ifNo X101.here hx rfl (hb hby own_d3_5) rfl ((if0 _ _).trans (teq (by decide : (0 : Int32) = (0 : Int32))).2) (XS.aloadN X101.here hx rfl (hb hby own_d3_8) rfl rfl (own_again X101 hx hZ hown (hw _ (List.mem_of_getElem? (i := 22) rfl)) Lt (g := (mkF m 9 #[rv r1, rv r2, iv (0 : Int32), iv (0 : Int32), .val .null, .unset] [(.ref r1)])) rfl (hb hby own_d3_9) t k)))) ?_
  obtain ⟨T102, X102, e102, st102⟩ := getF X101 hx hZ hown (host := "") (Or.inl (hw _ (List.mem_of_getElem? (i := 28) rfl))) Via.refl e101 F8 (g := (mkF m 11 #[rv r1, rv r2, iv (0 : Int32), iv (0 : Int32), .val .null, .unset] [(.ref al), (.ref r1)])) rfl rfl (hb hby own_d3_11)
  refine ownW_by (g' := (mkF m 14 #[rv r1, rv r2, iv (0 : Int32), iv (0 : Int32), .val .null, .unset] [(.ref bl), (.ref r1)])) st102 ?_
  obtain ⟨T103, h103, X103, e103, W103, st103⟩ := putF X102 hx hZ hown (host := "") (Or.inl (hw _ (List.mem_of_getElem? (i := 28) rfl))) Via.refl e102 F1 E1 (Or.inr ⟨(hw _ (List.mem_of_getElem? (i := 24) rfl)), rfl, hnm⟩) (hw _ (List.mem_of_getElem? (i := 9) rfl)) (ty := (.array .byte)) (by decide) rfl rfl (g := (mkF m 14 #[rv r1, rv r2, iv (0 : Int32), iv (0 : Int32), .val .null, .unset] [(.ref bl), (.ref r1)])) rfl rfl (hb hby own_d3_14)
  have f104 := F1.same W103
  have N103 := Fr.snoc X103 N0 g1
  refine ownW_by (g' := (mkF m 17 #[rv r1, rv r2, iv (0 : Int32), iv (0 : Int32), .val .null, .unset] [])) st103 ?_
  refine ownW_by (g' := (mkF m 20 #[rv r1, rv r2, iv (0 : Int32), iv (0 : Int32), .val .null, .unset] [(.ref al), (.ref r1)])) (fun t k => XS.aloadN X103.here hx rfl (hb hby own_d3_17) rfl rfl (own_again X103 hx hZ hown (hw _ (List.mem_of_getElem? (i := 22) rfl)) Lt (g := (mkF m 18 #[rv r1, rv r2, iv (0 : Int32), iv (0 : Int32), .val .null, .unset] [(.ref r1)])) rfl (hb hby own_d3_18) t k)) ?_
  have f105 := (F7.other W103 (Or.inr (slot_ne (Or.inr (hw _ (List.mem_of_getElem? (i := 25) rfl))) (Or.inr (hw _ (List.mem_of_getElem? (i := 24) rfl))) (by decide) (t := .byte) (t' := (.array .byte)) (by decide) (by decide))))
  obtain ⟨T106, X106, e106, st106⟩ := getF X103 hx hZ hown (host := "") (Or.inl (hw _ (List.mem_of_getElem? (i := 29) rfl))) Via.refl e103 f105 (g := (mkF m 20 #[rv r1, rv r2, iv (0 : Int32), iv (0 : Int32), .val .null, .unset] [(.ref al), (.ref r1)])) rfl rfl (hb hby own_d3_20)
  refine ownW_by (g' := (mkF m 23 #[rv r1, rv r2, iv (0 : Int32), iv (0 : Int32), .val .null, .unset] [(.int (0 : Int32)), (.ref r1)])) st106 ?_
  have f107 := (F2.other W103 (Or.inr (slot_ne (Or.inr (hw _ (List.mem_of_getElem? (i := 25) rfl))) (Or.inr (hw _ (List.mem_of_getElem? (i := 24) rfl))) (by decide) (t := .byte) (t' := (.array .byte)) (by decide) (by decide))))
  have f108 := (E1.wr W103)
  obtain ⟨T109, h109, X109, e109, W109, st109⟩ := putFN X106 hx hZ hown (hw _ (List.mem_of_getElem? (i := 29) rfl)) Via.refl e106 f107 f108 (Or.inr ⟨(hw _ (List.mem_of_getElem? (i := 25) rfl)), rfl, hnm⟩) (hw _ (List.mem_of_getElem? (i := 9) rfl)) (ty := .byte) (v' := (.int (0 : Int32))) (by decide) rfl (by decide) (g := (mkF m 23 #[rv r1, rv r2, iv (0 : Int32), iv (0 : Int32), .val .null, .unset] [(.int (0 : Int32)), (.ref r1)])) rfl rfl (hb hby own_d3_23)
  have f110 := f107.same W109
  have N109 := Fr.snoc X109 N103 g1
  refine ownW_by (g' := (mkF m 26 #[rv r1, rv r2, iv (0 : Int32), iv (0 : Int32), .val .null, .unset] [])) st109 ?_
  have f111 := (f108.wr W109)
  have f112 := (f104.other W109 (Or.inr (slot_ne (Or.inr (hw _ (List.mem_of_getElem? (i := 24) rfl))) (Or.inr (hw _ (List.mem_of_getElem? (i := 25) rfl))) (by decide) (t := (.array .byte)) (t' := .byte) (by decide) (by decide))))
  have f113 := ((E5.wr W103).wr W109)
  have f114 := (own_either f105 W109 f110)
  have f115 := ((own_either F8 W103 f104).other W109 (Or.inr (slot_ne (Or.inr (hw _ (List.mem_of_getElem? (i := 24) rfl))) (Or.inr (hw _ (List.mem_of_getElem? (i := 25) rfl))) (by decide) (t := (.array .byte)) (t' := .byte) (by decide) (by decide))))
  have f116 := ((V5.other W103 (Ne.symm (Exa.neArv E1 V5 (hw _ (List.mem_of_getElem? (i := 9) rfl))))).other W109 (Ne.symm (Exa.neArv E1 V5 (hw _ (List.mem_of_getElem? (i := 9) rfl)))))
  refine ownW_retV X109 hsv S0 (Nat.zero_le _) hx hlk hret (hb hby own_d3_26) (by decide) (by decide) ?_
  intro u hu
  rw [e109]
  exact ⟨rfl, N109, (((Keep.refl h0 [r1]).wr W103 (Or.inl (List.mem_of_getElem? (i := 0) rfl))).wr W109 (Or.inl (List.mem_of_getElem? (i := 0) rfl))), f111, f112, f110, f113, f114, f115, f116, (own_litW Lt hu)⟩
def Q_own_ini1_01 (Z : State) (r1 : Addr) (r2 : Addr) (k1 : ClassId) (al : Addr) (bl : Addr) (kl : ClassId) (h0 : Heap) (n0 : Nat) (v : Option Value) (u : Vm) (h : Heap) (L : List Loc) : Prop := v = none ∧ Fr n0 L ∧ Keep h0 h [r1] ∧ Exa Z h r1 "java/lang/String" ∧ Fld Z h r1 "java/lang/String" "value" "[B" (.ref bl) ∧ Fld Z h r1 "java/lang/String" "coder" "B" (.int (0 : Int32)) ∧ Exa Z h al "java/lang/String" ∧ Fld Z h al "java/lang/String" "coder" "B" (.int (0 : Int32)) ∧ Fld Z h al "java/lang/String" "value" "[B" (.ref bl) ∧ Arv Z h bl kl .byte (0 : Int32) [] (.int (0 : Int32)) ∧ Lit (Z.setVm u) "java/lang/String" 7 al
theorem own_ef_own_ini1_01 (m : MethodId) (r1 : Addr) (r2 : Addr) : entryFrame m #[(.ref r1), (.ref r2)] 2 = mkF m 0 #[rv r1, rv r2] [] := by first | (simp [entryFrame, mkF, argsToLocals, Value.category]; done) | rfl
set_option maxRecDepth 65536 in
set_option maxHeartbeats 40000000 in
theorem own_ini1_01 (l : Launch) (Z : State) (a0 : Array Value) (hw : ∀ d ∈ tables_1, d.before a0 Z = true) (ws : List Jvm.Cond) (r1 : Addr) (r2 : Addr) (k1 : ClassId) (al : Addr) (bl : Addr) (kl : ClassId) (h0 : Heap) (n0 : Nat) (Z0 : n0 ≤ h0.size) (E5 : Exa Z h0 al "java/lang/String") (F7 : Fld Z h0 al "java/lang/String" "coder" "B" (.int (0 : Int32))) (F8 : Fld Z h0 al "java/lang/String" "value" "[B" (.ref bl)) (V5 : Arv Z h0 bl kl .byte (0 : Int32) [] (.int (0 : Int32))) (E1 : Exa Z h0 r1 "java/lang/String") (F1 : Fld Z h0 r1 "java/lang/String" "value" "[B" .null) (F2 : Fld Z h0 r1 "java/lang/String" "coder" "B" (.int (0 : Int32))) (g1 : n0 ≤ r1) (V1 : Arv Z h0 r2 k1 .char (0 : Int32) [] (.int (0 : Int32))) :
    ownW_Ctr l Z (⟨"java/lang/String", "<init>", "([C)V"⟩ : MethodName) jdk_42_method_3_code 2 none ws ({ frames := 2, cells := 0, slots := 0, locals := 29 } : Room) (({ frames := 2, cells := 0, slots := 0, locals := 29 } : Room)).cells (({ frames := 2, cells := 0, slots := 0, locals := 29 } : Room)).slots #[(.ref r1), (.ref r2)] h0 (fun u => Lit (Z.setVm u) "java/lang/String" 7 al) (Q_own_ini1_01 Z r1 r2 k1 al bl kl h0 n0) := by
  refine ownW_enter (plainFor_of_name own_pn1) ?_
  intro p e s0 s m below meth c s₁ hsv hsh S0 X0 hx hZ hby hml hown hnm hlk hret e0 hJ
  have Lt := hJ
  have N0 := Fr.nil n0
  refine ownW_cast (own_ef_own_ini1_01 m r1 r2) ?_
  refine ownW_by (g' := (mkF m 4 #[rv r1, rv r2] [(.ref r2), (.int (0 : Int32)), (.ref r2), (.ref r1)])) (fun t k => XS.aloadN X0.here hx rfl (hb hby own_d2_0) rfl rfl (XS.aloadN X0.here hx rfl (hb hby own_d2_1) rfl rfl (XS.iconst X0.here hx rfl (hb hby own_d2_2) (XS.aloadN X0.here hx rfl (hb hby own_d2_3) rfl rfl k)))) ?_
  obtain ⟨c101, Ar101, -, S101, G101, -, -⟩ := id V1
  refine ownW_by (g' := (mkF m 5 #[rv r1, rv r2] [(.int (0 : Int32)), (.int (0 : Int32)), (.ref r2), (.ref r1)])) (fun t k => X0.arraylength hx (own_at_ e0 Ar101.1) (State.isArrayOf_alike hZ.alike Ar101.2.1) (g := (mkF m 4 #[rv r1, rv r2] [(.ref r2), (.int (0 : Int32)), (.ref r2), (.ref r1)])) rfl rfl (hb hby own_d2_4) t (by rw [len_of S101 G101]; exact k)) ?_
  refine ownW_by (g' := (mkF m 6 #[rv r1, rv r2] [.null, (.int (0 : Int32)), (.int (0 : Int32)), (.ref r2), (.ref r1)])) (fun t k => XS.aconstNull X0.here hx rfl (hb hby own_d2_5) k) ?_
  refine ownW_callIW X0 hx hZ hsv hsh S0 (Nat.zero_le _) hown rfl (hw _ (List.mem_of_getElem? (i := 15) rfl)) (hw _ (List.mem_of_getElem? (i := 16) rfl)) (hw _ (List.mem_of_getElem? (i := 10) rfl)) (hw _ (List.mem_of_getElem? (i := 18) rfl)) (by decide) (a := r1) (own_ini4_01 l Z a0 hw [] (r1) (r2) (k1) (al) (bl) (kl) h0 n0 Z0 E5 F7 F8 V5 E1 F1 F2 g1 V1) (fun u hu => own_litW Lt hu) 0 (by decide) (by decide) (by decide) (by decide) e0 (g := (mkF m 6 #[rv r1, rv r2] [.null, (.int (0 : Int32)), (.int (0 : Int32)), (.ref r2), (.ref r1)])) rfl (by rw [hml]; rfl) (argsL := [(.ref r2), (.int (0 : Int32)), (.int (0 : Int32)), .null]) (rest := []) (lenOf own_pd13 rfl) rfl (by show 2 * 0 + _ ≤ _; exact Nat.le_of_eq rfl) (hb hby own_d2_6) ?_
  intro s v102 T102 L102 X102 hsv hsh S102 hZ hown q102
  obtain ⟨rfl, N102q, K102, f103, f104, f105, f106, f107, f108, f109, u110⟩ := q102
  have N102 := Fr.app N0 N102q
  show ownW_Goes p e below s0 _ _ _ T102 (mkF m 9 #[rv r1, rv r2] [])
  refine ownW_retV X102 hsv S102 (Nat.le_refl _) hx hlk hret (hb hby own_d2_9) (by decide) (by decide) ?_
  intro u hu
  exact ⟨rfl, N102, ((Keep.refl h0 [r1]).trans K102 (allS (Or.inl (List.mem_of_getElem? (i := 0) rfl)) all0)), f103, f104, f105, f106, f107, f108, f109, (own_litW u110 hu)⟩
theorem own_d1_0 : decode method_3_code 0 = .ok (.iload_n 2, 1) := by decide +kernel
theorem own_d1_1 : decode method_3_code 1 = .ok (.ifCond .ne 14, 3) := by decide +kernel
theorem own_d1_4 : decode method_3_code 4 = .ok (.new 31, 3) := by decide +kernel
theorem own_d1_7 : decode method_3_code 7 = .ok (.dup, 1) := by decide +kernel
theorem own_d1_8 : decode method_3_code 8 = .ok (.iconst 0, 1) := by decide +kernel
theorem own_d1_9 : decode method_3_code 9 = .ok (.newarray .char, 2) := by decide +kernel
theorem own_ad_char : "[" ++ (newarray.typeOf .char).toString = "[C" := by decide +kernel
theorem own_d1_11 : decode method_3_code 11 = .ok (.invokespecial 33, 3) := by decide +kernel
theorem own_pd22 : parseMethodDescriptor "([C)V" = some ⟨[(.array .char)], none⟩ := by decide +kernel
theorem own_d1_14 : decode method_3_code 14 = .ok (.areturn, 1) := by decide +kernel
theorem own_d1_15 : decode method_3_code 15 = .ok (.iload_n 2, 1) := by decide +kernel
theorem own_d1_16 : decode method_3_code 16 = .ok (.iconst 1, 1) := by decide +kernel
theorem own_d1_17 : decode method_3_code 17 = .ok (.if_icmp .ne 18, 3) := by decide +kernel
theorem own_d1_20 : decode method_3_code 20 = .ok (.new 31, 3) := by decide +kernel
theorem own_d1_23 : decode method_3_code 23 = .ok (.dup, 1) := by decide +kernel
theorem own_d1_24 : decode method_3_code 24 = .ok (.iconst 1, 1) := by decide +kernel
theorem own_d1_25 : decode method_3_code 25 = .ok (.newarray .char, 2) := by decide +kernel
theorem own_d1_27 : decode method_3_code 27 = .ok (.dup, 1) := by decide +kernel
theorem own_d1_28 : decode method_3_code 28 = .ok (.iconst 0, 1) := by decide +kernel
theorem own_d1_29 : decode method_3_code 29 = .ok (.iload_n 0, 1) := by decide +kernel
theorem own_d1_30 : decode method_3_code 30 = .ok (.castore, 1) := by decide +kernel
theorem own_d1_31 : decode method_3_code 31 = .ok (.invokespecial 33, 3) := by decide +kernel
theorem own_d1_34 : decode method_3_code 34 = .ok (.areturn, 1) := by decide +kernel
theorem own_d1_35 : decode method_3_code 35 = .ok (.new 31, 3) := by decide +kernel
theorem own_d1_38 : decode method_3_code 38 = .ok (.dup, 1) := by decide +kernel
theorem own_d1_39 : decode method_3_code 39 = .ok (.iconst 2, 1) := by decide +kernel
theorem own_d1_40 : decode method_3_code 40 = .ok (.newarray .char, 2) := by decide +kernel
theorem own_d1_42 : decode method_3_code 42 = .ok (.dup, 1) := by decide +kernel
theorem own_d1_43 : decode method_3_code 43 = .ok (.iconst 0, 1) := by decide +kernel
theorem own_d1_44 : decode method_3_code 44 = .ok (.iload_n 0, 1) := by decide +kernel
theorem own_d1_45 : decode method_3_code 45 = .ok (.castore, 1) := by decide +kernel
theorem own_d1_46 : decode method_3_code 46 = .ok (.dup, 1) := by decide +kernel
theorem own_d1_47 : decode method_3_code 47 = .ok (.iconst 1, 1) := by decide +kernel
theorem own_d1_48 : decode method_3_code 48 = .ok (.iload_n 1, 1) := by decide +kernel
theorem own_d1_49 : decode method_3_code 49 = .ok (.castore, 1) := by decide +kernel
theorem own_d1_50 : decode method_3_code 50 = .ok (.invokespecial 33, 3) := by decide +kernel
theorem own_d1_53 : decode method_3_code 53 = .ok (.areturn, 1) := by decide +kernel
def Q_own_strc (Z : State) (x0 : Int32) (x1 : Int32) (xl : Int32) (zcs : Int32) (h0 : Heap) (n0 : Nat) (v : Option Value) (u : Vm) (h : Heap) (L : List Loc) : Prop := ∃ (ro : Addr), ∃ (ba : Addr), ∃ (kb : ClassId), ∃ (cd : Int32), ∃ (ln : Int32), ∃ (vs : List Value), v = some (.ref ro) ∧ Fr n0 L ∧ Keep h0 h [] ∧ h0.size ≤ ro ∧ Exa Z h ro "java/lang/String" ∧ Fld Z h ro "java/lang/String" "value" "[B" (.ref ba) ∧ Fld Z h ro "java/lang/String" "coder" "B" (.int cd) ∧ Arv Z h ba kb .byte ln vs (.int (0 : Int32)) ∧ own_str x0 x1 xl cd ln vs ∧ own_V Z u h
theorem own_ef_own_strc (m : MethodId) (x0 : Int32) (x1 : Int32) (xl : Int32) : entryFrame m #[(.int x0), (.int x1), (.int xl)] 3 = mkF m 0 #[iv x0, iv x1, iv xl] [] := by first | (simp [entryFrame, mkF, argsToLocals, Value.category]; done) | rfl
set_option maxRecDepth 65536 in
set_option maxHeartbeats 40000000 in
theorem own_strc (l : Launch) (Z : State) (a0 : Array Value) (hw : ∀ d ∈ tables_1, d.before a0 Z = true) (ws : List Jvm.Cond) (x0 : Int32) (x1 : Int32) (xl : Int32) (zcs : Int32) (h0 : Heap) (n0 : Nat) (Z0 : n0 ≤ h0.size) (O0 : Old Z n0 h0) (S_cs : Sta Z Z.heap "java/lang/String" "COMPACT_STRINGS" "Z" (.int zcs)) (hcs : ¬ zcs = (0 : Int32)) (S_ad : Sta Z Z.heap "java/lang/StringUTF16" "$assertionsDisabled" "Z" (.int (1 : Int32))) (S_hi : Sta Z Z.heap "java/lang/StringUTF16" "HI_BYTE_SHIFT" "I" (.int (0 : Int32))) (S_lo : Sta Z Z.heap "java/lang/StringUTF16" "LO_BYTE_SHIFT" "I" (.int (8 : Int32))) (hcw : Jvm.Lit.compactW.before a0 Z = true) (hch : Jvm.Lit.constHeld Z "java/lang/String" 7) (hk0 : own_ch x0) (hk1 : own_ch x1) (hl3 : own_l3 xl) :
    ownW_Ctr l Z (⟨"com/example/abakus/abakus/conversation/MailboxThreadCompareToPinLaw", "str", "(CCI)Ljava/lang/String;"⟩ : MethodName) method_3_code 3 (some (.object "java/lang/String")) ws ({ frames := 6, cells := 4, slots := 12, locals := 88 } : Room) (({ frames := 6, cells := 4, slots := 12, locals := 88 } : Room)).cells (({ frames := 6, cells := 4, slots := 12, locals := 88 } : Room)).slots #[(.int x0), (.int x1), (.int xl)] h0 (fun u => own_V Z u h0) (Q_own_strc Z x0 x1 xl zcs h0 n0) := by
  refine ownW_enter (plainFor_of_name own_pn6) ?_
  intro p e s0 s m below meth c s₁ hsv hsh S0 X0 hx hZ hby hml hown hnm hlk hret e0 hJ
  have hV := hJ
  have N0 := Fr.nil n0
  refine ownW_cast (own_ef_own_strc m x0 x1 xl) ?_
  rcases hl3 with rfl | rfl | rfl
  ·
    refine ownW_by (g' := (mkF m 4 #[iv x0, iv x1, iv (0 : Int32)] [])) (fun t k => XS.iloadN X0.here hx rfl (hb hby own_d1_0) rfl (XS.ifNo X0.here hx rfl (hb hby own_d1_1) rfl ((if0 _ _).trans (teq (by decide : (0 : Int32) = (0 : Int32))).2) k)) ?_
    obtain ⟨T101, h101, X101, e101, E101, A101, D101, U101, st101⟩ := newO X0 hx hZ hown (hw _ (List.mem_of_getElem? (i := 8) rfl)) (hw _ (List.mem_of_getElem? (i := 9) rfl)) (hw _ (List.mem_of_getElem? (i := 10) rfl)) e0 (g := (mkF m 4 #[iv x0, iv x1, iv (0 : Int32)] [])) rfl (hb hby own_d1_4) (by decide) (by decide)
    obtain ⟨b101, g101⟩ : ∃ z, z = h0.size := ⟨_, rfl⟩
    rw [← g101] at A101 D101 U101 st101
    have sz_b101 : h0.size ≤ b101 := Nat.le_trans (Nat.le_refl _) (Nat.le_of_eq g101.symm)
    have g_b101 : n0 ≤ b101 := Nat.le_trans Z0 sz_b101
    have f102 : Fld Z h101 b101 "java/lang/String" "value" "[B" .null := D101 (Or.inr (hw _ (List.mem_of_getElem? (i := 24) rfl))) (ty := (.array .byte)) (by decide)
    have f103 : Fld Z h101 b101 "java/lang/String" "coder" "B" (.int (0 : Int32)) := D101 (Or.inr (hw _ (List.mem_of_getElem? (i := 25) rfl))) (ty := .byte) (by decide)
    refine ownW_by (g' := (mkF m 7 #[iv x0, iv x1, iv (0 : Int32)] [(.ref b101)])) st101 ?_
    refine ownW_by (g' := (mkF m 9 #[iv x0, iv x1, iv (0 : Int32)] [(.int (0 : Int32)), (.ref b101), (.ref b101)])) (fun t k => XS.dup X101.here hx rfl (hb hby own_d1_7) rfl rfl (XS.iconst X101.here hx rfl (hb hby own_d1_8) k)) ?_
    obtain ⟨T104, h104, k104, X104, e104, E104, A104, Y104, st104⟩ := newPE X101 hx hZ (hw _ (List.mem_of_getElem? (i := 11) rfl)) e101 (g := (mkF m 9 #[iv x0, iv x1, iv (0 : Int32)] [(.int (0 : Int32)), (.ref b101), (.ref b101)])) rfl (hb hby own_d1_9) rfl (by decide) (cap := 0) (by decide) (by decide) (by decide) (by decide) (ad := "[C") own_ad_char
    obtain ⟨b104, g104⟩ : ∃ z, z = h101.size := ⟨_, rfl⟩
    rw [← g104] at A104 Y104 st104
    have sz_b104 : h0.size ≤ b104 := Nat.le_trans E101.1 (Nat.le_of_eq g104.symm)
    have g_b104 : n0 ≤ b104 := Nat.le_trans Z0 sz_b104
    have V104 : Arv Z h104 b104 k104 .char (0 : Int32) [] (.int (0 : Int32)) := (Arv.new A104 (by decide)).pad (pad_rep [] (.int (0 : Int32)) 0)
    refine ownW_by (g' := (mkF m 11 #[iv x0, iv x1, iv (0 : Int32)] [(.ref b104), (.ref b101), (.ref b101)])) st104 ?_
    rcases hV with hib | ⟨al, bl, kl, hLt, hE5, hF7, hF8, hV5⟩
    ·
      have f105 := ((O0.ext E101).ext E104)
      have f106 := (A101.ext E104)
      have f107 := (f102.ext E104)
      have f108 := (f103.ext E104)
      refine ownW_callIW X104 hx hZ hsv hsh S0 (Nat.zero_le _) hown rfl (hw _ (List.mem_of_getElem? (i := 12) rfl)) (hw _ (List.mem_of_getElem? (i := 13) rfl)) (hw _ (List.mem_of_getElem? (i := 10) rfl)) (hw _ (List.mem_of_getElem? (i := 14) rfl)) (by decide) (a := b101) (own_ini1_00 l Z a0 hw [] (b101) (b104) (k104) h104 n0 (Nat.le_trans Z0 (Nat.le_trans E101.1 E104.1)) f105 (by first | assumption | decide) (by first | assumption | decide) f106 f107 f108 g_b101 V104) (fun u hu => own_ibW hib hu) 1 (by decide) (by decide) (by decide) (by decide) e104 (g := (mkF m 11 #[iv x0, iv x1, iv (0 : Int32)] [(.ref b104), (.ref b101), (.ref b101)])) rfl (by rw [hml]; rfl) (argsL := [(.ref b104)]) (rest := [(.ref b101)]) (lenOf own_pd22 rfl) rfl (by show 2 * 0 + _ ≤ _; exact Nat.le_of_eq rfl) (hb hby own_d1_11) ?_
      intro s v109 T109 L109 X109 hsv hsh S109 hZ hown q109
      obtain ⟨al109, bl109, kl109, rfl, N109q, K109, f110, f111, f112, f113, f114, f115, f116, u117⟩ := q109
      have N109 := Fr.app N0 N109q
      show ownW_Goes p e below s0 _ _ _ T109 (mkF m 14 #[iv x0, iv x1, iv (0 : Int32)] [(.ref b101)])
      refine ownW_retA X109 hsv S109 (Nat.le_refl _) hx hlk hret rfl rfl (hb hby own_d1_14) (by decide) (by decide) ?_
      intro u hu
      exact ⟨b101, bl109, kl109, (0 : Int32), (0 : Int32), [], rfl, N109, ((((Keep.refl h0 []).ext E101).ext E104).trans K109 (allS (Or.inr sz_b101) all0)), sz_b101, f110, f111, f112, f116, (Or.inl ⟨rfl, Or.inl ⟨rfl, rfl⟩⟩), (own_V.warm (Or.inr ⟨al109, bl109, kl109, u117, f113, f114, f115, f116⟩) hu)⟩
    ·
      have f118 := ((hE5.ext E101).ext E104)
      have f119 := ((hF7.ext E101).ext E104)
      have f120 := ((hF8.ext E101).ext E104)
      have f121 := ((hV5.ext E101).ext E104)
      have f122 := (A101.ext E104)
      have f123 := (f102.ext E104)
      have f124 := (f103.ext E104)
      refine ownW_callIW X104 hx hZ hsv hsh S0 (Nat.zero_le _) hown rfl (hw _ (List.mem_of_getElem? (i := 12) rfl)) (hw _ (List.mem_of_getElem? (i := 13) rfl)) (hw _ (List.mem_of_getElem? (i := 10) rfl)) (hw _ (List.mem_of_getElem? (i := 14) rfl)) (by decide) (a := b101) (own_ini1_01 l Z a0 hw [] (b101) (b104) (k104) (al) (bl) (kl) h104 n0 (Nat.le_trans Z0 (Nat.le_trans E101.1 E104.1)) f118 f119 f120 f121 f122 f123 f124 g_b101 V104) (fun u hu => own_litW hLt hu) 1 (by decide) (by decide) (by decide) (by decide) e104 (g := (mkF m 11 #[iv x0, iv x1, iv (0 : Int32)] [(.ref b104), (.ref b101), (.ref b101)])) rfl (by rw [hml]; rfl) (argsL := [(.ref b104)]) (rest := [(.ref b101)]) (lenOf own_pd22 rfl) rfl (by show 2 * 0 + _ ≤ _; exact Nat.le_of_eq rfl) (hb hby own_d1_11) ?_
      intro s v125 T125 L125 X125 hsv hsh S125 hZ hown q125
      obtain ⟨rfl, N125q, K125, f126, f127, f128, f129, f130, f131, f132, u133⟩ := q125
      have N125 := Fr.app N0 N125q
      show ownW_Goes p e below s0 _ _ _ T125 (mkF m 14 #[iv x0, iv x1, iv (0 : Int32)] [(.ref b101)])
      refine ownW_retA X125 hsv S125 (Nat.le_refl _) hx hlk hret rfl rfl (hb hby own_d1_14) (by decide) (by decide) ?_
      intro u hu
      exact ⟨b101, bl, kl, (0 : Int32), (0 : Int32), [], rfl, N125, ((((Keep.refl h0 []).ext E101).ext E104).trans K125 (allS (Or.inr sz_b101) all0)), sz_b101, f126, f127, f128, f132, (Or.inl ⟨rfl, Or.inl ⟨rfl, rfl⟩⟩), (own_V.warm (Or.inr ⟨al, bl, kl, u133, f129, f130, f131, f132⟩) hu)⟩
  ·
    refine ownW_by (g' := (mkF m 20 #[iv x0, iv x1, iv (1 : Int32)] [])) (fun t k => XS.iloadN X0.here hx rfl (hb hby own_d1_0) rfl (XS.ifYes X0.here hx rfl (pc0 := 1) (pc' := 15) rfl (hb hby own_d1_1) rfl ((if0 _ _).trans (feq (by decide : ¬ ((1 : Int32) = (0 : Int32)))).2) (by decide) (by decide) (XS.iloadN X0.here hx rfl (hb hby own_d1_15) rfl (XS.iconst X0.here hx rfl (hb hby own_d1_16) (XS.icmpNo X0.here hx rfl (hb hby own_d1_17) rfl (teq (by decide : (1 : Int32) = (1 : Int32))).2 k))))) ?_
    obtain ⟨T134, h134, X134, e134, E134, A134, D134, U134, st134⟩ := newO X0 hx hZ hown (hw _ (List.mem_of_getElem? (i := 8) rfl)) (hw _ (List.mem_of_getElem? (i := 9) rfl)) (hw _ (List.mem_of_getElem? (i := 10) rfl)) e0 (g := (mkF m 20 #[iv x0, iv x1, iv (1 : Int32)] [])) rfl (hb hby own_d1_20) (by decide) (by decide)
    obtain ⟨b134, g134⟩ : ∃ z, z = h0.size := ⟨_, rfl⟩
    rw [← g134] at A134 D134 U134 st134
    have sz_b134 : h0.size ≤ b134 := Nat.le_trans (Nat.le_refl _) (Nat.le_of_eq g134.symm)
    have g_b134 : n0 ≤ b134 := Nat.le_trans Z0 sz_b134
    have f135 : Fld Z h134 b134 "java/lang/String" "value" "[B" .null := D134 (Or.inr (hw _ (List.mem_of_getElem? (i := 24) rfl))) (ty := (.array .byte)) (by decide)
    have f136 : Fld Z h134 b134 "java/lang/String" "coder" "B" (.int (0 : Int32)) := D134 (Or.inr (hw _ (List.mem_of_getElem? (i := 25) rfl))) (ty := .byte) (by decide)
    refine ownW_by (g' := (mkF m 23 #[iv x0, iv x1, iv (1 : Int32)] [(.ref b134)])) st134 ?_
    refine ownW_by (g' := (mkF m 25 #[iv x0, iv x1, iv (1 : Int32)] [(.int (1 : Int32)), (.ref b134), (.ref b134)])) (fun t k => XS.dup X134.here hx rfl (hb hby own_d1_23) rfl rfl (XS.iconst X134.here hx rfl (hb hby own_d1_24) k)) ?_
    obtain ⟨T137, h137, k137, X137, e137, E137, A137, Y137, st137⟩ := newPE X134 hx hZ (hw _ (List.mem_of_getElem? (i := 11) rfl)) e134 (g := (mkF m 25 #[iv x0, iv x1, iv (1 : Int32)] [(.int (1 : Int32)), (.ref b134), (.ref b134)])) rfl (hb hby own_d1_25) rfl (by decide) (cap := 1) (by decide) (by decide) (by decide) (by decide) (ad := "[C") own_ad_char
    obtain ⟨b137, g137⟩ : ∃ z, z = h134.size := ⟨_, rfl⟩
    rw [← g137] at A137 Y137 st137
    have sz_b137 : h0.size ≤ b137 := Nat.le_trans E134.1 (Nat.le_of_eq g137.symm)
    have g_b137 : n0 ≤ b137 := Nat.le_trans Z0 sz_b137
    have V137 : Arv Z h137 b137 k137 .char (1 : Int32) [(.int (0 : Int32))] (.int (0 : Int32)) := (Arv.new A137 (by decide)).pad (pad_rep [] (.int (0 : Int32)) 1)
    refine ownW_by (g' := (mkF m 27 #[iv x0, iv x1, iv (1 : Int32)] [(.ref b137), (.ref b134), (.ref b134)])) st137 ?_
    refine ownW_by (g' := (mkF m 30 #[iv x0, iv x1, iv (1 : Int32)] [(.int x0), (.int (0 : Int32)), (.ref b137), (.ref b137), (.ref b134), (.ref b134)])) (fun t k => XS.dup X137.here hx rfl (hb hby own_d1_27) rfl rfl (XS.iconst X137.here hx rfl (hb hby own_d1_28) (XS.iloadN X137.here hx rfl (hb hby own_d1_29) rfl k))) ?_
    obtain ⟨c138, Ar138, q138, S138, G138, H138, F138⟩ := id V137
    have hin138 : ¬ ((0 : Int32) < 0 ∨ c138.slots.size ≤ ((0 : Int32)).toNatClampNeg) := inb_of S138 ⟨by decide, by decide⟩
    obtain ⟨T138, h138, X138, e138, W138, st138⟩ := stC X137 hx hZ e137 Ar138 (j := (0 : Int32)) hin138 (g := (mkF m 30 #[iv x0, iv x1, iv (1 : Int32)] [(.int x0), (.int (0 : Int32)), (.ref b137), (.ref b137), (.ref b134), (.ref b134)])) rfl rfl (hb hby own_d1_30)
    have V139 : Arv Z h138 b137 k137 .char (1 : Int32) [(.int x0)] (.int (0 : Int32)) := Arv.set Ar138 q138 S138 G138 H138 F138 (by have q := fits_nar_char x0; rw [show nar .char x0 = x0 from hk0] at q; exact q) (own_wr W138 (congrArg Value.int hk0)) 0 rfl (Nat.le_of_ble_eq_true rfl)
    have N138 := Fr.snoc X138 N0 g_b137
    refine ownW_by (g' := (mkF m 31 #[iv x0, iv x1, iv (1 : Int32)] [(.ref b137), (.ref b134), (.ref b134)])) st138 ?_
    have f140 := (((O0.ext E134).ext E137).wr W138 g_b137)
    have f141 := ((A134.ext E137).wr W138)
    have f142 := ((f135.ext E137).other W138 (Or.inl (Nat.ne_of_lt (Nat.lt_of_lt_of_le (Nat.lt_of_lt_of_le A134.lt (Nat.le_refl _)) (Nat.le_of_eq g137.symm)))))
    have f143 := ((f136.ext E137).other W138 (Or.inl (Nat.ne_of_lt (Nat.lt_of_lt_of_le (Nat.lt_of_lt_of_le A134.lt (Nat.le_refl _)) (Nat.le_of_eq g137.symm)))))
    refine ownW_callI X138 hx hZ hown rfl (hw _ (List.mem_of_getElem? (i := 12) rfl)) (hw _ (List.mem_of_getElem? (i := 13) rfl)) (hw _ (List.mem_of_getElem? (i := 10) rfl)) (hw _ (List.mem_of_getElem? (i := 14) rfl)) (by decide) (a := b134) (own_ini1_1 l Z a0 hw [] (b134) (b137) (k137) (x0) (zcs) h138 n0 (Nat.le_trans Z0 (Nat.le_trans (Nat.le_trans E134.1 E137.1) (Nat.le_of_eq W138.size.symm))) f140 S_cs (by first | assumption | decide) S_ad S_hi S_lo (by first | assumption | decide) f141 f142 f143 g_b134 V139) 1 (by decide) (by decide) (by decide) (by decide) e138 (g := (mkF m 31 #[iv x0, iv x1, iv (1 : Int32)] [(.ref b137), (.ref b134), (.ref b134)])) rfl (by rw [hml]; rfl) (argsL := [(.ref b137)]) (rest := [(.ref b134)]) (lenOf own_pd22 rfl) rfl (by show 2 * 0 + _ ≤ _; exact Nat.le_of_eq rfl) (hb hby own_d1_31) ?_
    intro v144 T144 L144 X144 q144
    obtain ⟨ba144, kb144, cd144, ln144, vs144, rfl, N144q, K144, f145, f146, f147, f148, f149, f150, f151⟩ := q144
    have N144 := Fr.app N138 N144q
    show ownW_Goes p e below s0 _ _ _ T144 (mkF m 34 #[iv x0, iv x1, iv (1 : Int32)] [(.ref b134)])
    refine ownW_retA X144 hsv S0 (Nat.zero_le _) hx hlk hret rfl rfl (hb hby own_d1_34) (by decide) (by decide) ?_
    intro u hu
    exact ⟨b134, ba144, kb144, cd144, ln144, vs144, rfl, N144, (((((Keep.refl h0 []).ext E134).ext E137).wr W138 (Or.inr sz_b137)).trans K144 (allS (Or.inr sz_b134) all0)), sz_b134, f146, f147, f148, f149, (Or.inr (Or.inl ⟨rfl, own_sl1 f151, own_sc1_0 hk0 f151⟩)), (own_V.warm (own_V.keep0 hV (((((Keep.refl h0 []).ext E134).ext E137).wr W138 (Or.inr sz_b137)).trans K144 (allS (Or.inr sz_b134) all0))) hu)⟩
  ·
    refine ownW_by (g' := (mkF m 35 #[iv x0, iv x1, iv (2 : Int32)] [])) (fun t k => XS.iloadN X0.here hx rfl (hb hby own_d1_0) rfl (XS.ifYes X0.here hx rfl (pc0 := 1) (pc' := 15) rfl (hb hby own_d1_1) rfl ((if0 _ _).trans (feq (by decide : ¬ ((2 : Int32) = (0 : Int32)))).2) (by decide) (by decide) (XS.iloadN X0.here hx rfl (hb hby own_d1_15) rfl (XS.iconst X0.here hx rfl (hb hby own_d1_16) (XS.icmpYes X0.here hx rfl (pc0 := 17) (pc' := 35) rfl (hb hby own_d1_17) rfl (feq (by decide : ¬ ((2 : Int32) = (1 : Int32)))).2 (by decide) (by decide) k))))) ?_
    obtain ⟨T152, h152, X152, e152, E152, A152, D152, U152, st152⟩ := newO X0 hx hZ hown (hw _ (List.mem_of_getElem? (i := 8) rfl)) (hw _ (List.mem_of_getElem? (i := 9) rfl)) (hw _ (List.mem_of_getElem? (i := 10) rfl)) e0 (g := (mkF m 35 #[iv x0, iv x1, iv (2 : Int32)] [])) rfl (hb hby own_d1_35) (by decide) (by decide)
    obtain ⟨b152, g152⟩ : ∃ z, z = h0.size := ⟨_, rfl⟩
    rw [← g152] at A152 D152 U152 st152
    have sz_b152 : h0.size ≤ b152 := Nat.le_trans (Nat.le_refl _) (Nat.le_of_eq g152.symm)
    have g_b152 : n0 ≤ b152 := Nat.le_trans Z0 sz_b152
    have f153 : Fld Z h152 b152 "java/lang/String" "value" "[B" .null := D152 (Or.inr (hw _ (List.mem_of_getElem? (i := 24) rfl))) (ty := (.array .byte)) (by decide)
    have f154 : Fld Z h152 b152 "java/lang/String" "coder" "B" (.int (0 : Int32)) := D152 (Or.inr (hw _ (List.mem_of_getElem? (i := 25) rfl))) (ty := .byte) (by decide)
    refine ownW_by (g' := (mkF m 38 #[iv x0, iv x1, iv (2 : Int32)] [(.ref b152)])) st152 ?_
    refine ownW_by (g' := (mkF m 40 #[iv x0, iv x1, iv (2 : Int32)] [(.int (2 : Int32)), (.ref b152), (.ref b152)])) (fun t k => XS.dup X152.here hx rfl (hb hby own_d1_38) rfl rfl (XS.iconst X152.here hx rfl (hb hby own_d1_39) k)) ?_
    obtain ⟨T155, h155, k155, X155, e155, E155, A155, Y155, st155⟩ := newPE X152 hx hZ (hw _ (List.mem_of_getElem? (i := 11) rfl)) e152 (g := (mkF m 40 #[iv x0, iv x1, iv (2 : Int32)] [(.int (2 : Int32)), (.ref b152), (.ref b152)])) rfl (hb hby own_d1_40) rfl (by decide) (cap := 2) (by decide) (by decide) (by decide) (by decide) (ad := "[C") own_ad_char
    obtain ⟨b155, g155⟩ : ∃ z, z = h152.size := ⟨_, rfl⟩
    rw [← g155] at A155 Y155 st155
    have sz_b155 : h0.size ≤ b155 := Nat.le_trans E152.1 (Nat.le_of_eq g155.symm)
    have g_b155 : n0 ≤ b155 := Nat.le_trans Z0 sz_b155
    have V155 : Arv Z h155 b155 k155 .char (2 : Int32) [(.int (0 : Int32)), (.int (0 : Int32))] (.int (0 : Int32)) := (Arv.new A155 (by decide)).pad (pad_rep [] (.int (0 : Int32)) 2)
    refine ownW_by (g' := (mkF m 42 #[iv x0, iv x1, iv (2 : Int32)] [(.ref b155), (.ref b152), (.ref b152)])) st155 ?_
    refine ownW_by (g' := (mkF m 45 #[iv x0, iv x1, iv (2 : Int32)] [(.int x0), (.int (0 : Int32)), (.ref b155), (.ref b155), (.ref b152), (.ref b152)])) (fun t k => XS.dup X155.here hx rfl (hb hby own_d1_42) rfl rfl (XS.iconst X155.here hx rfl (hb hby own_d1_43) (XS.iloadN X155.here hx rfl (hb hby own_d1_44) rfl k))) ?_
    obtain ⟨c156, Ar156, q156, S156, G156, H156, F156⟩ := id V155
    have hin156 : ¬ ((0 : Int32) < 0 ∨ c156.slots.size ≤ ((0 : Int32)).toNatClampNeg) := inb_of S156 ⟨by decide, by decide⟩
    obtain ⟨T156, h156, X156, e156, W156, st156⟩ := stC X155 hx hZ e155 Ar156 (j := (0 : Int32)) hin156 (g := (mkF m 45 #[iv x0, iv x1, iv (2 : Int32)] [(.int x0), (.int (0 : Int32)), (.ref b155), (.ref b155), (.ref b152), (.ref b152)])) rfl rfl (hb hby own_d1_45)
    have V157 : Arv Z h156 b155 k155 .char (2 : Int32) [(.int x0), (.int (0 : Int32))] (.int (0 : Int32)) := Arv.set Ar156 q156 S156 G156 H156 F156 (by have q := fits_nar_char x0; rw [show nar .char x0 = x0 from hk0] at q; exact q) (own_wr W156 (congrArg Value.int hk0)) 0 rfl (Nat.le_of_ble_eq_true rfl)
    have N156 := Fr.snoc X156 N0 g_b155
    refine ownW_by (g' := (mkF m 46 #[iv x0, iv x1, iv (2 : Int32)] [(.ref b155), (.ref b152), (.ref b152)])) st156 ?_
    refine ownW_by (g' := (mkF m 49 #[iv x0, iv x1, iv (2 : Int32)] [(.int x1), (.int (1 : Int32)), (.ref b155), (.ref b155), (.ref b152), (.ref b152)])) (fun t k => XS.dup X156.here hx rfl (hb hby own_d1_46) rfl rfl (XS.iconst X156.here hx rfl (hb hby own_d1_47) (XS.iloadN X156.here hx rfl (hb hby own_d1_48) rfl k))) ?_
    obtain ⟨c158, Ar158, q158, S158, G158, H158, F158⟩ := id V157
    have hin158 : ¬ ((1 : Int32) < 0 ∨ c158.slots.size ≤ ((1 : Int32)).toNatClampNeg) := inb_of S158 ⟨by decide, by decide⟩
    obtain ⟨T158, h158, X158, e158, W158, st158⟩ := stC X156 hx hZ e156 Ar158 (j := (1 : Int32)) hin158 (g := (mkF m 49 #[iv x0, iv x1, iv (2 : Int32)] [(.int x1), (.int (1 : Int32)), (.ref b155), (.ref b155), (.ref b152), (.ref b152)])) rfl rfl (hb hby own_d1_49)
    have V159 : Arv Z h158 b155 k155 .char (2 : Int32) [(.int x0), (.int x1)] (.int (0 : Int32)) := Arv.set Ar158 q158 S158 G158 H158 F158 (by have q := fits_nar_char x1; rw [show nar .char x1 = x1 from hk1] at q; exact q) (own_wr W158 (congrArg Value.int hk1)) 1 rfl (Nat.le_of_ble_eq_true rfl)
    have N158 := Fr.snoc X158 N156 g_b155
    refine ownW_by (g' := (mkF m 50 #[iv x0, iv x1, iv (2 : Int32)] [(.ref b155), (.ref b152), (.ref b152)])) st158 ?_
    have f160 := ((((O0.ext E152).ext E155).wr W156 g_b155).wr W158 g_b155)
    have f161 := (((A152.ext E155).wr W156).wr W158)
    have f162 := (((f153.ext E155).other W156 (Or.inl (Nat.ne_of_lt (Nat.lt_of_lt_of_le (Nat.lt_of_lt_of_le A152.lt (Nat.le_refl _)) (Nat.le_of_eq g155.symm))))).other W158 (Or.inl (Nat.ne_of_lt (Nat.lt_of_lt_of_le (Nat.lt_of_lt_of_le A152.lt (Nat.le_refl _)) (Nat.le_of_eq g155.symm)))))
    have f163 := (((f154.ext E155).other W156 (Or.inl (Nat.ne_of_lt (Nat.lt_of_lt_of_le (Nat.lt_of_lt_of_le A152.lt (Nat.le_refl _)) (Nat.le_of_eq g155.symm))))).other W158 (Or.inl (Nat.ne_of_lt (Nat.lt_of_lt_of_le (Nat.lt_of_lt_of_le A152.lt (Nat.le_refl _)) (Nat.le_of_eq g155.symm)))))
    refine ownW_callI X158 hx hZ hown rfl (hw _ (List.mem_of_getElem? (i := 12) rfl)) (hw _ (List.mem_of_getElem? (i := 13) rfl)) (hw _ (List.mem_of_getElem? (i := 10) rfl)) (hw _ (List.mem_of_getElem? (i := 14) rfl)) (by decide) (a := b152) (own_ini1_2 l Z a0 hw [] (b152) (b155) (k155) (x0) (x1) (zcs) h158 n0 (Nat.le_trans Z0 (Nat.le_trans (Nat.le_trans (Nat.le_trans E152.1 E155.1) (Nat.le_of_eq W156.size.symm)) (Nat.le_of_eq W158.size.symm))) f160 S_cs (by first | assumption | decide) S_ad S_hi S_lo (by first | assumption | decide) (by first | assumption | decide) f161 f162 f163 g_b152 V159) 1 (by decide) (by decide) (by decide) (by decide) e158 (g := (mkF m 50 #[iv x0, iv x1, iv (2 : Int32)] [(.ref b155), (.ref b152), (.ref b152)])) rfl (by rw [hml]; rfl) (argsL := [(.ref b155)]) (rest := [(.ref b152)]) (lenOf own_pd22 rfl) rfl (by show 2 * 0 + _ ≤ _; exact Nat.le_of_eq rfl) (hb hby own_d1_50) ?_
    intro v164 T164 L164 X164 q164
    obtain ⟨ba164, kb164, cd164, ln164, vs164, rfl, N164q, K164, f165, f166, f167, f168, f169, f170, f171⟩ := q164
    have N164 := Fr.app N158 N164q
    show ownW_Goes p e below s0 _ _ _ T164 (mkF m 53 #[iv x0, iv x1, iv (2 : Int32)] [(.ref b152)])
    refine ownW_retA X164 hsv S0 (Nat.zero_le _) hx hlk hret rfl rfl (hb hby own_d1_53) (by decide) (by decide) ?_
    intro u hu
    exact ⟨b152, ba164, kb164, cd164, ln164, vs164, rfl, N164, ((((((Keep.refl h0 []).ext E152).ext E155).wr W156 (Or.inr sz_b155)).wr W158 (Or.inr sz_b155)).trans K164 (allS (Or.inr sz_b152) all0)), sz_b152, f166, f167, f168, f169, (Or.inr (Or.inr ⟨rfl, own_sl2 f171, own_sc2_0 hk0 f171, own_sc2_1 hk1 f171⟩)), (own_V.warm (own_V.keep0 hV ((((((Keep.refl h0 []).ext E152).ext E155).wr W156 (Or.inr sz_b155)).wr W158 (Or.inr sz_b155)).trans K164 (allS (Or.inr sz_b152) all0))) hu)⟩
def Q_own_law (Z : State) (u1 : Int32) (u2 : Int32) (u3 : Int32) (u4 : Int32) (u5 : Int32) (u6 : Int32) (zcs : Int32) (vsf : Value) (h0 : Heap) (n0 : Nat) (v : Option Value) (u : Vm) (h : Heap) (L : List Loc) : Prop := v = some (.int (1 : Int32)) ∧ Fr n0 L ∧ Keep h0 h []
theorem own_pd23 : parseMethodDescriptor "(CCI)Ljava/lang/String;" = some ⟨[.char, .char, .int], some (.object "java/lang/String")⟩ := by decide +kernel
theorem own_pd24 : parseMethodDescriptor "(Ljava/lang/String;Ljava/lang/String;)V" = some ⟨[(.object "java/lang/String"), (.object "java/lang/String")], none⟩ := by decide +kernel
theorem own_pd25 : parseMethodDescriptor "(Lcom/example/abakus/abakus/conversation/MailboxThread;)I" = some ⟨[(.object "com/example/abakus/abakus/conversation/MailboxThread")], some .int⟩ := by decide +kernel
theorem own_pd26 : parseMethodDescriptor "(CCICCI)I" = some ⟨[.char, .char, .int, .char, .char, .int], some .int⟩ := by decide +kernel
set_option maxRecDepth 65536 in
set_option maxHeartbeats 40000000 in
theorem own_rest {p : Program} {l : Launch} {e : Env} {s0 s : State} {m : MethodId} {args : Array Value} {below : List Frame} {meth : Method} {c : Code} {T0 : State} {locs : List Loc} {Z : State} {a0 : Array Value} {h0 h1 : Heap} {n0 : Nat} (u1 : Int32) (u2 : Int32) (u3 : Int32) (u4 : Int32) (u5 : Int32) (u6 : Int32) (zcs : Int32) (vsf : Value) (xla : Int32) (xlb : Int32) (xlc : Int32) (xld : Int32) (xa0 : Int32) (xa1 : Int32) (xb0 : Int32) (xb1 : Int32) (xc0 : Int32) (xc1 : Int32) (xd0 : Int32) (xd1 : Int32)
    (X0 : Stand p l e room_1 s m args below meth c T0 locs 0 0) (hx : p.tables.exec = Jvm.exec) (hZ : Z.Warmed39 s.vm) (hw : ∀ d ∈ tables_1, d.before a0 Z = true) (hby : c.code = code) (hml : c.maxLocals = maxLocals) (hown : s.vm.findClass "com/example/abakus/abakus/conversation/MailboxThreadCompareToPinLaw" = some m.cls) (hnm : meth.name = "law") (hlk : meth.locks = false) (hret : meth.sig.returnType = ret) (Z0 : n0 ≤ h0.size) (e0 : T0.heap = h1) (N0 : Fr n0 locs) (K0 : Keep h0 h1 []) (hsv : s = s0.setVm s.vm) (hsh : s.heap = h0) (S0 : s0.Since s.vm 0) (hV : own_V Z s.vm h0) (O0 : Old Z n0 h1) (S_cs : Sta Z Z.heap "java/lang/String" "COMPACT_STRINGS" "Z" (.int zcs)) (hcs : ¬ zcs = (0 : Int32)) (S_ad : Sta Z Z.heap "java/lang/StringUTF16" "$assertionsDisabled" "Z" (.int (1 : Int32))) (S_hi : Sta Z Z.heap "java/lang/StringUTF16" "HI_BYTE_SHIFT" "I" (.int (0 : Int32))) (S_lo : Sta Z Z.heap "java/lang/StringUTF16" "LO_BYTE_SHIFT" "I" (.int (8 : Int32))) (S_sf : Sta Z Z.heap "jdk/internal/util/Preconditions" "SIOOBE_FORMATTER" "Ljava/util/function/BiFunction;" vsf) (r_sf : (vsf).isRef = true) (hcw : Jvm.Lit.compactW.before a0 Z = true) (hch : Jvm.Lit.constHeld Z "java/lang/String" 7) (hla : own_l3 xla) (hlb : own_l3 xlb) (hlc : own_l3 xlc) (hld : own_l3 xld) (hka0 : own_ch xa0) (hka1 : own_ch xa1) (hkb0 : own_ch xb0) (hkb1 : own_ch xb1) (hkc0 : own_ch xc0) (hkc1 : own_ch xc1) (hkd0 : own_ch xd0) (hkd1 : own_ch xd1) :
    ownW_Goes p e below s0 48 1216 (Q_own_law Z u1 u2 u3 u4 u5 u6 zcs vsf h0 n0) T0 (mkF m 156 #[iv u1, iv u2, iv u3, iv u4, iv u5, iv u6, iv xla, iv xlb, iv xlc, iv xld, iv xa0, iv xa1, iv xb0, iv xb1, iv xc0, iv xc1, iv xd0, iv xd1, .unset, .unset, .unset, .unset, .unset, .unset] []) := by
  obtain ⟨T101, h101, X101, e101, E101, A101, D101, U101, st101⟩ := newO X0 hx hZ hown (hw _ (List.mem_of_getElem? (i := 1) rfl)) (hw _ (List.mem_of_getElem? (i := 2) rfl)) (hw _ (List.mem_of_getElem? (i := 3) rfl)) e0 (g := (mkF m 156 #[iv u1, iv u2, iv u3, iv u4, iv u5, iv u6, iv xla, iv xlb, iv xlc, iv xld, iv xa0, iv xa1, iv xb0, iv xb1, iv xc0, iv xc1, iv xd0, iv xd1, .unset, .unset, .unset, .unset, .unset, .unset] [])) rfl (hb hby at_156) (by decide) (by decide)
  obtain ⟨b101, g101⟩ : ∃ z, z = h1.size := ⟨_, rfl⟩
  rw [← g101] at A101 D101 U101 st101
  have sz_b101 : h0.size ≤ b101 := Nat.le_trans K0.1 (Nat.le_of_eq g101.symm)
  have g_b101 : n0 ≤ b101 := Nat.le_trans Z0 sz_b101
  have f102 : Fld Z h101 b101 "com/example/abakus/abakus/conversation/MailboxThread" "mailbox" "Ljava/lang/String;" .null := D101 (Or.inr (hw _ (List.mem_of_getElem? (i := 40) rfl))) (ty := (.object "java/lang/String")) (by decide)
  have f103 : Fld Z h101 b101 "com/example/abakus/abakus/conversation/MailboxThread" "thread" "Ljava/lang/String;" .null := D101 (Or.inr (hw _ (List.mem_of_getElem? (i := 42) rfl))) (ty := (.object "java/lang/String")) (by decide)
  refine ownW_by (g' := (mkF m 159 #[iv u1, iv u2, iv u3, iv u4, iv u5, iv u6, iv xla, iv xlb, iv xlc, iv xld, iv xa0, iv xa1, iv xb0, iv xb1, iv xc0, iv xc1, iv xd0, iv xd1, .unset, .unset, .unset, .unset, .unset, .unset] [(.ref b101)])) st101 ?_
  refine ownW_by (g' := (mkF m 166 #[iv u1, iv u2, iv u3, iv u4, iv u5, iv u6, iv xla, iv xlb, iv xlc, iv xld, iv xa0, iv xa1, iv xb0, iv xb1, iv xc0, iv xc1, iv xd0, iv xd1, .unset, .unset, .unset, .unset, .unset, .unset] [(.int xla), (.int xa1), (.int xa0), (.ref b101), (.ref b101)])) (fun t k => XS.dup X101.here hx rfl (hb hby at_159) rfl rfl (XS.iload X101.here hx rfl (hb hby at_160) rfl (XS.iload X101.here hx rfl (hb hby at_162) rfl (XS.iload X101.here hx rfl (hb hby at_164) rfl k)))) ?_
  have f104 := (O0.ext E101)
  refine ownW_callSW X101 hx hZ hsv hsh S0 (Nat.zero_le _) hown (hw _ (List.mem_of_getElem? (i := 4) rfl)) (hw _ (List.mem_of_getElem? (i := 5) rfl)) (hw _ (List.mem_of_getElem? (i := 6) rfl)) (hw _ (List.mem_of_getElem? (i := 7) rfl)) (by decide) (own_strc l Z a0 hw [] (xa0) (xa1) (xla) (zcs) h101 n0 (Nat.le_trans Z0 (Nat.le_trans K0.1 E101.1)) f104 S_cs (by first | assumption | decide) S_ad S_hi S_lo (by first | assumption | decide) (by first | assumption | decide) (by first | assumption | decide) (by first | assumption | decide) (by first | assumption | decide)) (fun u hu => own_V.warm ((hV.keep0 K0).ext E101) hu) 2 (by decide) (by decide) (by decide) (by decide) e101 (g := (mkF m 166 #[iv u1, iv u2, iv u3, iv u4, iv u5, iv u6, iv xla, iv xlb, iv xlc, iv xld, iv xa0, iv xa1, iv xb0, iv xb1, iv xc0, iv xc1, iv xd0, iv xd1, .unset, .unset, .unset, .unset, .unset, .unset] [(.int xla), (.int xa1), (.int xa0), (.ref b101), (.ref b101)])) rfl (by rw [hml]; rfl) (argsL := [(.int xa0), (.int xa1), (.int xla)]) (rest := [(.ref b101), (.ref b101)]) (lenOf own_pd23 rfl) rfl (by show 2 * 0 + _ ≤ _; exact Nat.le_of_eq rfl) (hb hby at_166) ?_
  intro s v105 T105 L105 X105 hsv hsh S105 hZ hown q105
  obtain ⟨ro105, ba105, kb105, cd105, ln105, vs105, rfl, N105q, K105, f106, f107, f108, f109, f110, f111, u112⟩ := q105
  have N105 := Fr.app N0 N105q
  show ownW_Goes p e below s0 _ _ _ T105 (mkF m 169 #[iv u1, iv u2, iv u3, iv u4, iv u5, iv u6, iv xla, iv xlb, iv xlc, iv xld, iv xa0, iv xa1, iv xb0, iv xb1, iv xc0, iv xc1, iv xd0, iv xd1, .unset, .unset, .unset, .unset, .unset, .unset] [(.ref ro105), (.ref b101), (.ref b101)])
  refine ownW_by (g' := (mkF m 175 #[iv u1, iv u2, iv u3, iv u4, iv u5, iv u6, iv xla, iv xlb, iv xlc, iv xld, iv xa0, iv xa1, iv xb0, iv xb1, iv xc0, iv xc1, iv xd0, iv xd1, .unset, .unset, .unset, .unset, .unset, .unset] [(.int xlc), (.int xc1), (.int xc0), (.ref ro105), (.ref b101), (.ref b101)])) (fun t k => XS.iload X105.here hx rfl (hb hby at_169) rfl (XS.iload X105.here hx rfl (hb hby at_171) rfl (XS.iload X105.here hx rfl (hb hby at_173) rfl k))) ?_
  have f113 := (f104.keep K105 all0)
  refine ownW_callSW X105 hx hZ hsv hsh S105 (Nat.le_refl _) hown (hw _ (List.mem_of_getElem? (i := 4) rfl)) (hw _ (List.mem_of_getElem? (i := 5) rfl)) (hw _ (List.mem_of_getElem? (i := 6) rfl)) (hw _ (List.mem_of_getElem? (i := 7) rfl)) (by decide) (own_strc l Z a0 hw [] (xc0) (xc1) (xlc) (zcs) T105.heap n0 (Nat.le_trans Z0 (Nat.le_trans (Nat.le_trans K0.1 E101.1) K105.1)) f113 S_cs (by first | assumption | decide) S_ad S_hi S_lo (by first | assumption | decide) (by first | assumption | decide) (by first | assumption | decide) (by first | assumption | decide) (by first | assumption | decide)) (fun u hu => own_V.warm u112 hu) 3 (by decide) (by decide) (by decide) (by decide) rfl (g := (mkF m 175 #[iv u1, iv u2, iv u3, iv u4, iv u5, iv u6, iv xla, iv xlb, iv xlc, iv xld, iv xa0, iv xa1, iv xb0, iv xb1, iv xc0, iv xc1, iv xd0, iv xd1, .unset, .unset, .unset, .unset, .unset, .unset] [(.int xlc), (.int xc1), (.int xc0), (.ref ro105), (.ref b101), (.ref b101)])) rfl (by rw [hml]; rfl) (argsL := [(.int xc0), (.int xc1), (.int xlc)]) (rest := [(.ref ro105), (.ref b101), (.ref b101)]) (lenOf own_pd23 rfl) rfl (by show 2 * 0 + _ ≤ _; exact Nat.le_of_eq rfl) (hb hby at_175) ?_
  intro s v114 T114 L114 X114 hsv hsh S114 hZ hown q114
  obtain ⟨ro114, ba114, kb114, cd114, ln114, vs114, rfl, N114q, K114, f115, f116, f117, f118, f119, f120, u121⟩ := q114
  have N114 := Fr.app N105 N114q
  show ownW_Goes p e below s0 _ _ _ T114 (mkF m 178 #[iv u1, iv u2, iv u3, iv u4, iv u5, iv u6, iv xla, iv xlb, iv xlc, iv xld, iv xa0, iv xa1, iv xb0, iv xb1, iv xc0, iv xc1, iv xd0, iv xd1, .unset, .unset, .unset, .unset, .unset, .unset] [(.ref ro114), (.ref ro105), (.ref b101), (.ref b101)])
  have f122 := ((A101.keep K105).keep K114)
  have f123 := ((f102.keep K105 nin0).keep K114 nin0)
  have f124 := ((f103.keep K105 nin0).keep K114 nin0)
  refine ownW_callI X114 hx hZ hown rfl (hw _ (List.mem_of_getElem? (i := 30) rfl)) (hw _ (List.mem_of_getElem? (i := 31) rfl)) (hw _ (List.mem_of_getElem? (i := 3) rfl)) (hw _ (List.mem_of_getElem? (i := 32) rfl)) (by decide) (a := b101) (own_mti l Z a0 hw [] (b101) (ro105) (ro114) T114.heap n0 (Nat.le_trans Z0 (Nat.le_trans (Nat.le_trans (Nat.le_trans K0.1 E101.1) K105.1) K114.1)) f122 f123 f124 g_b101) 1 (by decide) (by decide) (by decide) (by decide) rfl (g := (mkF m 178 #[iv u1, iv u2, iv u3, iv u4, iv u5, iv u6, iv xla, iv xlb, iv xlc, iv xld, iv xa0, iv xa1, iv xb0, iv xb1, iv xc0, iv xc1, iv xd0, iv xd1, .unset, .unset, .unset, .unset, .unset, .unset] [(.ref ro114), (.ref ro105), (.ref b101), (.ref b101)])) rfl (by rw [hml]; rfl) (argsL := [(.ref ro105), (.ref ro114)]) (rest := [(.ref b101)]) (lenOf own_pd24 rfl) rfl (by show 2 * 0 + _ ≤ _; exact Nat.le_of_eq rfl) (hb hby at_178) ?_
  intro v125 T125 L125 X125 q125
  obtain ⟨rfl, N125q, K125, f126, f127, f128⟩ := q125
  have N125 := Fr.app N114 N125q
  show ownW_Goes p e below s0 _ _ _ T125 (mkF m 181 #[iv u1, iv u2, iv u3, iv u4, iv u5, iv u6, iv xla, iv xlb, iv xlc, iv xld, iv xa0, iv xa1, iv xb0, iv xb1, iv xc0, iv xc1, iv xd0, iv xd1, .unset, .unset, .unset, .unset, .unset, .unset] [(.ref b101)])
  refine ownW_by (g' := (mkF m 183 #[iv u1, iv u2, iv u3, iv u4, iv u5, iv u6, iv xla, iv xlb, iv xlc, iv xld, iv xa0, iv xa1, iv xb0, iv xb1, iv xc0, iv xc1, iv xd0, iv xd1, rv b101, .unset, .unset, .unset, .unset, .unset] [])) (fun t k => XS.astore X125.here hx rfl (hb hby at_181) rfl rfl (l' := #[iv u1, iv u2, iv u3, iv u4, iv u5, iv u6, iv xla, iv xlb, iv xlc, iv xld, iv xa0, iv xa1, iv xb0, iv xb1, iv xc0, iv xc1, iv xd0, iv xd1, rv b101, .unset, .unset, .unset, .unset, .unset]) rfl k) ?_
  obtain ⟨T129, h129, X129, e129, E129, A129, D129, U129, st129⟩ := newO X125 hx hZ hown (hw _ (List.mem_of_getElem? (i := 1) rfl)) (hw _ (List.mem_of_getElem? (i := 2) rfl)) (hw _ (List.mem_of_getElem? (i := 3) rfl)) rfl (g := (mkF m 183 #[iv u1, iv u2, iv u3, iv u4, iv u5, iv u6, iv xla, iv xlb, iv xlc, iv xld, iv xa0, iv xa1, iv xb0, iv xb1, iv xc0, iv xc1, iv xd0, iv xd1, rv b101, .unset, .unset, .unset, .unset, .unset] [])) rfl (hb hby at_183) (by decide) (by decide)
  obtain ⟨b129, g129⟩ : ∃ z, z = T125.heap.size := ⟨_, rfl⟩
  rw [← g129] at A129 D129 U129 st129
  have sz_b129 : h0.size ≤ b129 := Nat.le_trans (Nat.le_trans (Nat.le_trans (Nat.le_trans (Nat.le_trans K0.1 E101.1) K105.1) K114.1) K125.1) (Nat.le_of_eq g129.symm)
  have g_b129 : n0 ≤ b129 := Nat.le_trans Z0 sz_b129
  have f130 : Fld Z h129 b129 "com/example/abakus/abakus/conversation/MailboxThread" "mailbox" "Ljava/lang/String;" .null := D129 (Or.inr (hw _ (List.mem_of_getElem? (i := 40) rfl))) (ty := (.object "java/lang/String")) (by decide)
  have f131 : Fld Z h129 b129 "com/example/abakus/abakus/conversation/MailboxThread" "thread" "Ljava/lang/String;" .null := D129 (Or.inr (hw _ (List.mem_of_getElem? (i := 42) rfl))) (ty := (.object "java/lang/String")) (by decide)
  refine ownW_by (g' := (mkF m 186 #[iv u1, iv u2, iv u3, iv u4, iv u5, iv u6, iv xla, iv xlb, iv xlc, iv xld, iv xa0, iv xa1, iv xb0, iv xb1, iv xc0, iv xc1, iv xd0, iv xd1, rv b101, .unset, .unset, .unset, .unset, .unset] [(.ref b129)])) st129 ?_
  refine ownW_by (g' := (mkF m 193 #[iv u1, iv u2, iv u3, iv u4, iv u5, iv u6, iv xla, iv xlb, iv xlc, iv xld, iv xa0, iv xa1, iv xb0, iv xb1, iv xc0, iv xc1, iv xd0, iv xd1, rv b101, .unset, .unset, .unset, .unset, .unset] [(.int xlb), (.int xb1), (.int xb0), (.ref b129), (.ref b129)])) (fun t k => XS.dup X129.here hx rfl (hb hby at_186) rfl rfl (XS.iload X129.here hx rfl (hb hby at_187) rfl (XS.iload X129.here hx rfl (hb hby at_189) rfl (XS.iload X129.here hx rfl (hb hby at_191) rfl k)))) ?_
  have f132 := (((f113.keep K114 all0).keep K125 (allS g_b101 all0)).ext E129)
  refine ownW_callSW X129 hx hZ hsv hsh S114 (Nat.le_trans K125.1 E129.1) hown (hw _ (List.mem_of_getElem? (i := 4) rfl)) (hw _ (List.mem_of_getElem? (i := 5) rfl)) (hw _ (List.mem_of_getElem? (i := 6) rfl)) (hw _ (List.mem_of_getElem? (i := 7) rfl)) (by decide) (own_strc l Z a0 hw [] (xb0) (xb1) (xlb) (zcs) h129 n0 (Nat.le_trans Z0 (Nat.le_trans (Nat.le_trans (Nat.le_trans (Nat.le_trans (Nat.le_trans K0.1 E101.1) K105.1) K114.1) K125.1) E129.1)) f132 S_cs (by first | assumption | decide) S_ad S_hi S_lo (by first | assumption | decide) (by first | assumption | decide) (by first | assumption | decide) (by first | assumption | decide) (by first | assumption | decide)) (fun u hu => own_V.warm ((own_V.keep1 u121 K125 f122 (by decide) (hw _ (List.mem_of_getElem? (i := 2) rfl))).ext E129) hu) 2 (by decide) (by decide) (by decide) (by decide) e129 (g := (mkF m 193 #[iv u1, iv u2, iv u3, iv u4, iv u5, iv u6, iv xla, iv xlb, iv xlc, iv xld, iv xa0, iv xa1, iv xb0, iv xb1, iv xc0, iv xc1, iv xd0, iv xd1, rv b101, .unset, .unset, .unset, .unset, .unset] [(.int xlb), (.int xb1), (.int xb0), (.ref b129), (.ref b129)])) rfl (by rw [hml]; rfl) (argsL := [(.int xb0), (.int xb1), (.int xlb)]) (rest := [(.ref b129), (.ref b129)]) (lenOf own_pd23 rfl) rfl (by show 2 * 0 + _ ≤ _; exact Nat.le_of_eq rfl) (hb hby at_193) ?_
  intro s v133 T133 L133 X133 hsv hsh S133 hZ hown q133
  obtain ⟨ro133, ba133, kb133, cd133, ln133, vs133, rfl, N133q, K133, f134, f135, f136, f137, f138, f139, u140⟩ := q133
  have N133 := Fr.app N125 N133q
  show ownW_Goes p e below s0 _ _ _ T133 (mkF m 196 #[iv u1, iv u2, iv u3, iv u4, iv u5, iv u6, iv xla, iv xlb, iv xlc, iv xld, iv xa0, iv xa1, iv xb0, iv xb1, iv xc0, iv xc1, iv xd0, iv xd1, rv b101, .unset, .unset, .unset, .unset, .unset] [(.ref ro133), (.ref b129), (.ref b129)])
  refine ownW_by (g' := (mkF m 202 #[iv u1, iv u2, iv u3, iv u4, iv u5, iv u6, iv xla, iv xlb, iv xlc, iv xld, iv xa0, iv xa1, iv xb0, iv xb1, iv xc0, iv xc1, iv xd0, iv xd1, rv b101, .unset, .unset, .unset, .unset, .unset] [(.int xld), (.int xd1), (.int xd0), (.ref ro133), (.ref b129), (.ref b129)])) (fun t k => XS.iload X133.here hx rfl (hb hby at_196) rfl (XS.iload X133.here hx rfl (hb hby at_198) rfl (XS.iload X133.here hx rfl (hb hby at_200) rfl k))) ?_
  have f141 := (f132.keep K133 all0)
  refine ownW_callSW X133 hx hZ hsv hsh S133 (Nat.le_refl _) hown (hw _ (List.mem_of_getElem? (i := 4) rfl)) (hw _ (List.mem_of_getElem? (i := 5) rfl)) (hw _ (List.mem_of_getElem? (i := 6) rfl)) (hw _ (List.mem_of_getElem? (i := 7) rfl)) (by decide) (own_strc l Z a0 hw [] (xd0) (xd1) (xld) (zcs) T133.heap n0 (Nat.le_trans Z0 (Nat.le_trans (Nat.le_trans (Nat.le_trans (Nat.le_trans (Nat.le_trans (Nat.le_trans K0.1 E101.1) K105.1) K114.1) K125.1) E129.1) K133.1)) f141 S_cs (by first | assumption | decide) S_ad S_hi S_lo (by first | assumption | decide) (by first | assumption | decide) (by first | assumption | decide) (by first | assumption | decide) (by first | assumption | decide)) (fun u hu => own_V.warm u140 hu) 3 (by decide) (by decide) (by decide) (by decide) rfl (g := (mkF m 202 #[iv u1, iv u2, iv u3, iv u4, iv u5, iv u6, iv xla, iv xlb, iv xlc, iv xld, iv xa0, iv xa1, iv xb0, iv xb1, iv xc0, iv xc1, iv xd0, iv xd1, rv b101, .unset, .unset, .unset, .unset, .unset] [(.int xld), (.int xd1), (.int xd0), (.ref ro133), (.ref b129), (.ref b129)])) rfl (by rw [hml]; rfl) (argsL := [(.int xd0), (.int xd1), (.int xld)]) (rest := [(.ref ro133), (.ref b129), (.ref b129)]) (lenOf own_pd23 rfl) rfl (by show 2 * 0 + _ ≤ _; exact Nat.le_of_eq rfl) (hb hby at_202) ?_
  intro s v142 T142 L142 X142 hsv hsh S142 hZ hown q142
  obtain ⟨ro142, ba142, kb142, cd142, ln142, vs142, rfl, N142q, K142, f143, f144, f145, f146, f147, f148, u149⟩ := q142
  have N142 := Fr.app N133 N142q
  show ownW_Goes p e below s0 _ _ _ T142 (mkF m 205 #[iv u1, iv u2, iv u3, iv u4, iv u5, iv u6, iv xla, iv xlb, iv xlc, iv xld, iv xa0, iv xa1, iv xb0, iv xb1, iv xc0, iv xc1, iv xd0, iv xd1, rv b101, .unset, .unset, .unset, .unset, .unset] [(.ref ro142), (.ref ro133), (.ref b129), (.ref b129)])
  have f150 := ((A129.keep K133).keep K142)
  have f151 := ((f130.keep K133 nin0).keep K142 nin0)
  have f152 := ((f131.keep K133 nin0).keep K142 nin0)
  refine ownW_callI X142 hx hZ hown rfl (hw _ (List.mem_of_getElem? (i := 30) rfl)) (hw _ (List.mem_of_getElem? (i := 31) rfl)) (hw _ (List.mem_of_getElem? (i := 3) rfl)) (hw _ (List.mem_of_getElem? (i := 32) rfl)) (by decide) (a := b129) (own_mti l Z a0 hw [] (b129) (ro133) (ro142) T142.heap n0 (Nat.le_trans Z0 (Nat.le_trans (Nat.le_trans (Nat.le_trans (Nat.le_trans (Nat.le_trans (Nat.le_trans (Nat.le_trans K0.1 E101.1) K105.1) K114.1) K125.1) E129.1) K133.1) K142.1)) f150 f151 f152 g_b129) 1 (by decide) (by decide) (by decide) (by decide) rfl (g := (mkF m 205 #[iv u1, iv u2, iv u3, iv u4, iv u5, iv u6, iv xla, iv xlb, iv xlc, iv xld, iv xa0, iv xa1, iv xb0, iv xb1, iv xc0, iv xc1, iv xd0, iv xd1, rv b101, .unset, .unset, .unset, .unset, .unset] [(.ref ro142), (.ref ro133), (.ref b129), (.ref b129)])) rfl (by rw [hml]; rfl) (argsL := [(.ref ro133), (.ref ro142)]) (rest := [(.ref b129)]) (lenOf own_pd24 rfl) rfl (by show 2 * 0 + _ ≤ _; exact Nat.le_of_eq rfl) (hb hby at_205) ?_
  intro v153 T153 L153 X153 q153
  obtain ⟨rfl, N153q, K153, f154, f155, f156⟩ := q153
  have N153 := Fr.app N142 N153q
  show ownW_Goes p e below s0 _ _ _ T153 (mkF m 208 #[iv u1, iv u2, iv u3, iv u4, iv u5, iv u6, iv xla, iv xlb, iv xlc, iv xld, iv xa0, iv xa1, iv xb0, iv xb1, iv xc0, iv xc1, iv xd0, iv xd1, rv b101, .unset, .unset, .unset, .unset, .unset] [(.ref b129)])
  refine ownW_by (g' := (mkF m 214 #[iv u1, iv u2, iv u3, iv u4, iv u5, iv u6, iv xla, iv xlb, iv xlc, iv xld, iv xa0, iv xa1, iv xb0, iv xb1, iv xc0, iv xc1, iv xd0, iv xd1, rv b101, rv b129, .unset, .unset, .unset, .unset] [(.ref b129), (.ref b101)])) (fun t k => XS.astore X153.here hx rfl (hb hby at_208) rfl rfl (l' := #[iv u1, iv u2, iv u3, iv u4, iv u5, iv u6, iv xla, iv xlb, iv xlc, iv xld, iv xa0, iv xa1, iv xb0, iv xb1, iv xc0, iv xc1, iv xd0, iv xd1, rv b101, rv b129, .unset, .unset, .unset, .unset]) rfl (XS.aload X153.here hx rfl (hb hby at_210) rfl rfl (XS.aload X153.here hx rfl (hb hby at_212) rfl rfl k))) ?_
  have f157 := ((f141.keep K142 all0).keep K153 (allS g_b129 all0))
  have f158 := ((((f126.ext E129).keep K133).keep K142).keep K153)
  have f159 := ((((f127.ext E129).keep K133 nin0).keep K142 nin0).keep K153 (ninS (Nat.ne_of_lt (Nat.lt_of_lt_of_le (Nat.lt_of_lt_of_le f126.lt (Nat.le_refl _)) (Nat.le_of_eq g129.symm))) nin0))
  have f160 := ((((f128.ext E129).keep K133 nin0).keep K142 nin0).keep K153 (ninS (Nat.ne_of_lt (Nat.lt_of_lt_of_le (Nat.lt_of_lt_of_le f126.lt (Nat.le_refl _)) (Nat.le_of_eq g129.symm))) nin0))
  have f161 := ((((((f107.keep K114).keep K125).ext E129).keep K133).keep K142).keep K153)
  have f162 := ((((((f108.keep K114 nin0).keep K125 (ninS (Ne.symm (Nat.ne_of_lt (Nat.lt_of_lt_of_le (Nat.lt_of_lt_of_le A101.lt (Nat.le_refl _)) f106))) nin0)).ext E129).keep K133 nin0).keep K142 nin0).keep K153 (ninS (Nat.ne_of_lt (Nat.lt_of_lt_of_le (Nat.lt_of_lt_of_le f107.lt (Nat.le_trans K114.1 K125.1)) (Nat.le_of_eq g129.symm))) nin0))
  have f163 := ((((((f109.keep K114 nin0).keep K125 (ninS (Ne.symm (Nat.ne_of_lt (Nat.lt_of_lt_of_le (Nat.lt_of_lt_of_le A101.lt (Nat.le_refl _)) f106))) nin0)).ext E129).keep K133 nin0).keep K142 nin0).keep K153 (ninS (Nat.ne_of_lt (Nat.lt_of_lt_of_le (Nat.lt_of_lt_of_le f107.lt (Nat.le_trans K114.1 K125.1)) (Nat.le_of_eq g129.symm))) nin0))
  have f164 := ((((((f110.keep K114 nin0).keep K125 (ninS (Ne.symm (Exa.neArv (A101.keep K105) f110 (hw _ (List.mem_of_getElem? (i := 2) rfl)))) nin0)).ext E129).keep K133 nin0).keep K142 nin0).keep K153 (ninS (Nat.ne_of_lt (Nat.lt_of_lt_of_le (Nat.lt_of_lt_of_le f110.lt (Nat.le_trans K114.1 K125.1)) (Nat.le_of_eq g129.symm))) nin0))
  have f165 := ((f135.keep K142).keep K153)
  have f166 := ((f136.keep K142 nin0).keep K153 (ninS (Ne.symm (Nat.ne_of_lt (Nat.lt_of_lt_of_le (Nat.lt_of_lt_of_le A129.lt (Nat.le_refl _)) f134))) nin0))
  have f167 := ((f137.keep K142 nin0).keep K153 (ninS (Ne.symm (Nat.ne_of_lt (Nat.lt_of_lt_of_le (Nat.lt_of_lt_of_le A129.lt (Nat.le_refl _)) f134))) nin0))
  have f168 := ((f138.keep K142 nin0).keep K153 (ninS (Ne.symm (Exa.neArv (A129.keep K133) f138 (hw _ (List.mem_of_getElem? (i := 2) rfl)))) nin0))
  have f169 := (((((f116.keep K125).ext E129).keep K133).keep K142).keep K153)
  have f170 := (((((f117.keep K125 (ninS (Ne.symm (Nat.ne_of_lt (Nat.lt_of_lt_of_le (Nat.lt_of_lt_of_le A101.lt K105.1) f115))) nin0)).ext E129).keep K133 nin0).keep K142 nin0).keep K153 (ninS (Nat.ne_of_lt (Nat.lt_of_lt_of_le (Nat.lt_of_lt_of_le f116.lt K125.1) (Nat.le_of_eq g129.symm))) nin0))
  have f171 := (((((f118.keep K125 (ninS (Ne.symm (Nat.ne_of_lt (Nat.lt_of_lt_of_le (Nat.lt_of_lt_of_le A101.lt K105.1) f115))) nin0)).ext E129).keep K133 nin0).keep K142 nin0).keep K153 (ninS (Nat.ne_of_lt (Nat.lt_of_lt_of_le (Nat.lt_of_lt_of_le f116.lt K125.1) (Nat.le_of_eq g129.symm))) nin0))
  have f172 := (((((f119.keep K125 (ninS (Ne.symm (Exa.neArv f122 f119 (hw _ (List.mem_of_getElem? (i := 2) rfl)))) nin0)).ext E129).keep K133 nin0).keep K142 nin0).keep K153 (ninS (Nat.ne_of_lt (Nat.lt_of_lt_of_le (Nat.lt_of_lt_of_le f119.lt K125.1) (Nat.le_of_eq g129.symm))) nin0))
  have f173 := (f144.keep K153)
  have f174 := (f145.keep K153 (ninS (Ne.symm (Nat.ne_of_lt (Nat.lt_of_lt_of_le (Nat.lt_of_lt_of_le A129.lt K133.1) f143))) nin0))
  have f175 := (f146.keep K153 (ninS (Ne.symm (Nat.ne_of_lt (Nat.lt_of_lt_of_le (Nat.lt_of_lt_of_le A129.lt K133.1) f143))) nin0))
  have f176 := (f147.keep K153 (ninS (Ne.symm (Exa.neArv f150 f147 (hw _ (List.mem_of_getElem? (i := 2) rfl)))) nin0))
  refine ownW_callV X153 hx hZ hown (hw _ (List.mem_of_getElem? (i := 43) rfl)) (hw _ (List.mem_of_getElem? (i := 44) rfl)) (notFace_of_selects (args := #[]) (mvT hZ (hw _ (List.mem_of_getElem? (i := 46) rfl)))) (hw _ (List.mem_of_getElem? (i := 46) rfl)) (hw _ (List.mem_of_getElem? (i := 45) rfl)) (hw _ (List.mem_of_getElem? (i := 47) rfl)) (hw _ (List.mem_of_getElem? (i := 3) rfl)) (by decide) (a := b101) f158 (own_cto l Z a0 hw [] (b101) (b129) (ro105) (ba105) (kb105) (cd105) (ln105) (vs105) (ro133) (ba133) (kb133) (cd133) (ln133) (vs133) (ro114) (ba114) (kb114) (cd114) (ln114) (vs114) (ro142) (ba142) (kb142) (cd142) (ln142) (vs142) (xa0) (xa1) (xla) (xb0) (xb1) (xlb) (xc0) (xc1) (xlc) (xd0) (xd1) (xld) (zcs) (vsf) T153.heap n0 (Nat.le_trans Z0 (Nat.le_trans (Nat.le_trans (Nat.le_trans (Nat.le_trans (Nat.le_trans (Nat.le_trans (Nat.le_trans (Nat.le_trans K0.1 E101.1) K105.1) K114.1) K125.1) E129.1) K133.1) K142.1) K153.1)) f157 S_cs (by first | assumption | decide) S_ad S_hi S_lo S_sf r_sf f158 f154 f159 f160 f155 f156 f161 f162 f163 f164 (by first | assumption | decide) (by first | assumption | decide) (by first | assumption | decide) f165 f166 f167 f168 (by first | assumption | decide) (by first | assumption | decide) (by first | assumption | decide) f169 f170 f171 f172 (by first | assumption | decide) (by first | assumption | decide) (by first | assumption | decide) f173 f174 f175 f176 (by first | assumption | decide) (by first | assumption | decide) (by first | assumption | decide)) 0 (by decide) (by decide) (by decide) (by decide) rfl (g := (mkF m 214 #[iv u1, iv u2, iv u3, iv u4, iv u5, iv u6, iv xla, iv xlb, iv xlc, iv xld, iv xa0, iv xa1, iv xb0, iv xb1, iv xc0, iv xc1, iv xd0, iv xd1, rv b101, rv b129, .unset, .unset, .unset, .unset] [(.ref b129), (.ref b101)])) rfl (by rw [hml]; rfl) (argsL := [(.ref b129)]) (rest := []) (lenOf own_pd25 rfl) rfl (by show 2 * 0 + _ ≤ _; exact Nat.le_of_eq rfl) (hb hby at_214) ?_
  intro v177 T177 L177 X177 q177
  obtain ⟨rfl, N177q, e177⟩ := q177
  have N177 := Fr.app N153 N177q
  show ownW_Goes p e below s0 _ _ _ T177 (mkF m 217 #[iv u1, iv u2, iv u3, iv u4, iv u5, iv u6, iv xla, iv xlb, iv xlc, iv xld, iv xa0, iv xa1, iv xb0, iv xb1, iv xc0, iv xc1, iv xd0, iv xd1, rv b101, rv b129, .unset, .unset, .unset, .unset] [(.int (if own_cmp xa0 xa1 xla xb0 xb1 xlb = (0 : Int32) then own_cmp xc0 xc1 xlc xd0 xd1 xld else own_cmp xa0 xa1 xla xb0 xb1 xlb))])
  refine ownW_by (g' := (mkF m 231 #[iv u1, iv u2, iv u3, iv u4, iv u5, iv u6, iv xla, iv xlb, iv xlc, iv xld, iv xa0, iv xa1, iv xb0, iv xb1, iv xc0, iv xc1, iv xd0, iv xd1, rv b101, rv b129, iv (if own_cmp xa0 xa1 xla xb0 xb1 xlb = (0 : Int32) then own_cmp xc0 xc1 xlc xd0 xd1 xld else own_cmp xa0 xa1 xla xb0 xb1 xlb), .unset, .unset, .unset] [(.int xlb), (.int xb1), (.int xb0), (.int xla), (.int xa1), (.int xa0)])) (fun t k => XS.istore X177.here hx rfl (hb hby at_217) rfl (l' := #[iv u1, iv u2, iv u3, iv u4, iv u5, iv u6, iv xla, iv xlb, iv xlc, iv xld, iv xa0, iv xa1, iv xb0, iv xb1, iv xc0, iv xc1, iv xd0, iv xd1, rv b101, rv b129, iv (if own_cmp xa0 xa1 xla xb0 xb1 xlb = (0 : Int32) then own_cmp xc0 xc1 xlc xd0 xd1 xld else own_cmp xa0 xa1 xla xb0 xb1 xlb), .unset, .unset, .unset]) rfl (XS.iload X177.here hx rfl (hb hby at_219) rfl (XS.iload X177.here hx rfl (hb hby at_221) rfl (XS.iload X177.here hx rfl (hb hby at_223) rfl (XS.iload X177.here hx rfl (hb hby at_225) rfl (XS.iload X177.here hx rfl (hb hby at_227) rfl (XS.iload X177.here hx rfl (hb hby at_229) rfl k))))))) ?_
  refine ownW_callS X177 hx hZ hown (hw _ (List.mem_of_getElem? (i := 66) rfl)) (hw _ (List.mem_of_getElem? (i := 67) rfl)) (hw _ (List.mem_of_getElem? (i := 6) rfl)) (hw _ (List.mem_of_getElem? (i := 68) rfl)) (by decide) (own_refc l Z a0 hw [] (xa0) (xa1) (xla) (xb0) (xb1) (xlb) T153.heap n0 (Nat.le_trans Z0 (Nat.le_trans (Nat.le_trans (Nat.le_trans (Nat.le_trans (Nat.le_trans (Nat.le_trans (Nat.le_trans (Nat.le_trans K0.1 E101.1) K105.1) K114.1) K125.1) E129.1) K133.1) K142.1) K153.1)) ) 0 (by decide) (by decide) (by decide) (by decide) e177 (g := (mkF m 231 #[iv u1, iv u2, iv u3, iv u4, iv u5, iv u6, iv xla, iv xlb, iv xlc, iv xld, iv xa0, iv xa1, iv xb0, iv xb1, iv xc0, iv xc1, iv xd0, iv xd1, rv b101, rv b129, iv (if own_cmp xa0 xa1 xla xb0 xb1 xlb = (0 : Int32) then own_cmp xc0 xc1 xlc xd0 xd1 xld else own_cmp xa0 xa1 xla xb0 xb1 xlb), .unset, .unset, .unset] [(.int xlb), (.int xb1), (.int xb0), (.int xla), (.int xa1), (.int xa0)])) rfl (by rw [hml]; rfl) (argsL := [(.int xa0), (.int xa1), (.int xla), (.int xb0), (.int xb1), (.int xlb)]) (rest := []) (lenOf own_pd26 rfl) rfl (by show 2 * 0 + _ ≤ _; exact Nat.le_of_eq rfl) (hb hby at_231) ?_
  intro v178 T178 L178 X178 q178
  obtain ⟨rfl, N178q, e178⟩ := q178
  have N178 := Fr.app N177 N178q
  show ownW_Goes p e below s0 _ _ _ T178 (mkF m 234 #[iv u1, iv u2, iv u3, iv u4, iv u5, iv u6, iv xla, iv xlb, iv xlc, iv xld, iv xa0, iv xa1, iv xb0, iv xb1, iv xc0, iv xc1, iv xd0, iv xd1, rv b101, rv b129, iv (if own_cmp xa0 xa1 xla xb0 xb1 xlb = (0 : Int32) then own_cmp xc0 xc1 xlc xd0 xd1 xld else own_cmp xa0 xa1 xla xb0 xb1 xlb), .unset, .unset, .unset] [(.int (own_rf xa0 xa1 xla xb0 xb1 xlb))])
  refine ownW_by (g' := (mkF m 248 #[iv u1, iv u2, iv u3, iv u4, iv u5, iv u6, iv xla, iv xlb, iv xlc, iv xld, iv xa0, iv xa1, iv xb0, iv xb1, iv xc0, iv xc1, iv xd0, iv xd1, rv b101, rv b129, iv (if own_cmp xa0 xa1 xla xb0 xb1 xlb = (0 : Int32) then own_cmp xc0 xc1 xlc xd0 xd1 xld else own_cmp xa0 xa1 xla xb0 xb1 xlb), iv (own_rf xa0 xa1 xla xb0 xb1 xlb), .unset, .unset] [(.int xld), (.int xd1), (.int xd0), (.int xlc), (.int xc1), (.int xc0)])) (fun t k => XS.istore X178.here hx rfl (hb hby at_234) rfl (l' := #[iv u1, iv u2, iv u3, iv u4, iv u5, iv u6, iv xla, iv xlb, iv xlc, iv xld, iv xa0, iv xa1, iv xb0, iv xb1, iv xc0, iv xc1, iv xd0, iv xd1, rv b101, rv b129, iv (if own_cmp xa0 xa1 xla xb0 xb1 xlb = (0 : Int32) then own_cmp xc0 xc1 xlc xd0 xd1 xld else own_cmp xa0 xa1 xla xb0 xb1 xlb), iv (own_rf xa0 xa1 xla xb0 xb1 xlb), .unset, .unset]) rfl (XS.iload X178.here hx rfl (hb hby at_236) rfl (XS.iload X178.here hx rfl (hb hby at_238) rfl (XS.iload X178.here hx rfl (hb hby at_240) rfl (XS.iload X178.here hx rfl (hb hby at_242) rfl (XS.iload X178.here hx rfl (hb hby at_244) rfl (XS.iload X178.here hx rfl (hb hby at_246) rfl k))))))) ?_
  refine ownW_callS X178 hx hZ hown (hw _ (List.mem_of_getElem? (i := 66) rfl)) (hw _ (List.mem_of_getElem? (i := 67) rfl)) (hw _ (List.mem_of_getElem? (i := 6) rfl)) (hw _ (List.mem_of_getElem? (i := 68) rfl)) (by decide) (own_refc l Z a0 hw [] (xc0) (xc1) (xlc) (xd0) (xd1) (xld) T153.heap n0 (Nat.le_trans Z0 (Nat.le_trans (Nat.le_trans (Nat.le_trans (Nat.le_trans (Nat.le_trans (Nat.le_trans (Nat.le_trans (Nat.le_trans K0.1 E101.1) K105.1) K114.1) K125.1) E129.1) K133.1) K142.1) K153.1)) ) 0 (by decide) (by decide) (by decide) (by decide) e178 (g := (mkF m 248 #[iv u1, iv u2, iv u3, iv u4, iv u5, iv u6, iv xla, iv xlb, iv xlc, iv xld, iv xa0, iv xa1, iv xb0, iv xb1, iv xc0, iv xc1, iv xd0, iv xd1, rv b101, rv b129, iv (if own_cmp xa0 xa1 xla xb0 xb1 xlb = (0 : Int32) then own_cmp xc0 xc1 xlc xd0 xd1 xld else own_cmp xa0 xa1 xla xb0 xb1 xlb), iv (own_rf xa0 xa1 xla xb0 xb1 xlb), .unset, .unset] [(.int xld), (.int xd1), (.int xd0), (.int xlc), (.int xc1), (.int xc0)])) rfl (by rw [hml]; rfl) (argsL := [(.int xc0), (.int xc1), (.int xlc), (.int xd0), (.int xd1), (.int xld)]) (rest := []) (lenOf own_pd26 rfl) rfl (by show 2 * 0 + _ ≤ _; exact Nat.le_of_eq rfl) (hb hby at_248) ?_
  intro v179 T179 L179 X179 q179
  obtain ⟨rfl, N179q, e179⟩ := q179
  have N179 := Fr.app N178 N179q
  show ownW_Goes p e below s0 _ _ _ T179 (mkF m 251 #[iv u1, iv u2, iv u3, iv u4, iv u5, iv u6, iv xla, iv xlb, iv xlc, iv xld, iv xa0, iv xa1, iv xb0, iv xb1, iv xc0, iv xc1, iv xd0, iv xd1, rv b101, rv b129, iv (if own_cmp xa0 xa1 xla xb0 xb1 xlb = (0 : Int32) then own_cmp xc0 xc1 xlc xd0 xd1 xld else own_cmp xa0 xa1 xla xb0 xb1 xlb), iv (own_rf xa0 xa1 xla xb0 xb1 xlb), .unset, .unset] [(.int (own_rf xc0 xc1 xlc xd0 xd1 xld))])
  refine ownW_by (g' := (mkF m 255 #[iv u1, iv u2, iv u3, iv u4, iv u5, iv u6, iv xla, iv xlb, iv xlc, iv xld, iv xa0, iv xa1, iv xb0, iv xb1, iv xc0, iv xc1, iv xd0, iv xd1, rv b101, rv b129, iv (if own_cmp xa0 xa1 xla xb0 xb1 xlb = (0 : Int32) then own_cmp xc0 xc1 xlc xd0 xd1 xld else own_cmp xa0 xa1 xla xb0 xb1 xlb), iv (own_rf xa0 xa1 xla xb0 xb1 xlb), iv (own_rf xc0 xc1 xlc xd0 xd1 xld), .unset] [(.int (own_rf xa0 xa1 xla xb0 xb1 xlb))])) (fun t k => XS.istore X179.here hx rfl (hb hby at_251) rfl (l' := #[iv u1, iv u2, iv u3, iv u4, iv u5, iv u6, iv xla, iv xlb, iv xlc, iv xld, iv xa0, iv xa1, iv xb0, iv xb1, iv xc0, iv xc1, iv xd0, iv xd1, rv b101, rv b129, iv (if own_cmp xa0 xa1 xla xb0 xb1 xlb = (0 : Int32) then own_cmp xc0 xc1 xlc xd0 xd1 xld else own_cmp xa0 xa1 xla xb0 xb1 xlb), iv (own_rf xa0 xa1 xla xb0 xb1 xlb), iv (own_rf xc0 xc1 xlc xd0 xd1 xld), .unset]) rfl (XS.iload X179.here hx rfl (hb hby at_253) rfl k)) ?_
  by_cases hc180 : (own_rf xa0 xa1 xla xb0 xb1 xlb) = (0 : Int32)
  ·
    refine ownW_by (g' := (mkF m 269 #[iv u1, iv u2, iv u3, iv u4, iv u5, iv u6, iv xla, iv xlb, iv xlc, iv xld, iv xa0, iv xa1, iv xb0, iv xb1, iv xc0, iv xc1, iv xd0, iv xd1, rv b101, rv b129, iv (if own_cmp xa0 xa1 xla xb0 xb1 xlb = (0 : Int32) then own_cmp xc0 xc1 xlc xd0 xd1 xld else own_cmp xa0 xa1 xla xb0 xb1 xlb), iv (own_rf xa0 xa1 xla xb0 xb1 xlb), iv (own_rf xc0 xc1 xlc xd0 xd1 xld), iv (own_rf xc0 xc1 xlc xd0 xd1 xld)] [(.int (if own_cmp xa0 xa1 xla xb0 xb1 xlb = (0 : Int32) then own_cmp xc0 xc1 xlc xd0 xd1 xld else own_cmp xa0 xa1 xla xb0 xb1 xlb))])) (fun t k => XS.ifYes X179.here hx rfl (pc0 := 255) (pc' := 263) rfl (hb hby at_255) rfl ((if0 _ _).trans (teq hc180).1) (by decide) (by decide) (XS.iload X179.here hx rfl (hb hby at_263) rfl (XS.istore X179.here hx rfl (hb hby at_265) rfl (l' := #[iv u1, iv u2, iv u3, iv u4, iv u5, iv u6, iv xla, iv xlb, iv xlc, iv xld, iv xa0, iv xa1, iv xb0, iv xb1, iv xc0, iv xc1, iv xd0, iv xd1, rv b101, rv b129, iv (if own_cmp xa0 xa1 xla xb0 xb1 xlb = (0 : Int32) then own_cmp xc0 xc1 xlc xd0 xd1 xld else own_cmp xa0 xa1 xla xb0 xb1 xlb), iv (own_rf xa0 xa1 xla xb0 xb1 xlb), iv (own_rf xc0 xc1 xlc xd0 xd1 xld), iv (own_rf xc0 xc1 xlc xd0 xd1 xld)]) rfl (XS.iload X179.here hx rfl (hb hby at_267) rfl k)))) ?_
    refine ownW_callS X179 hx hZ hown (hw _ (List.mem_of_getElem? (i := 75) rfl)) (hw _ (List.mem_of_getElem? (i := 76) rfl)) (hw _ (List.mem_of_getElem? (i := 6) rfl)) (hw _ (List.mem_of_getElem? (i := 77) rfl)) (by decide) (own_sgnc l Z a0 hw [] ((if own_cmp xa0 xa1 xla xb0 xb1 xlb = (0 : Int32) then own_cmp xc0 xc1 xlc xd0 xd1 xld else own_cmp xa0 xa1 xla xb0 xb1 xlb)) T153.heap n0 (Nat.le_trans Z0 (Nat.le_trans (Nat.le_trans (Nat.le_trans (Nat.le_trans (Nat.le_trans (Nat.le_trans (Nat.le_trans (Nat.le_trans K0.1 E101.1) K105.1) K114.1) K125.1) E129.1) K133.1) K142.1) K153.1)) ) 0 (by decide) (by decide) (by decide) (by decide) e179 (g := (mkF m 269 #[iv u1, iv u2, iv u3, iv u4, iv u5, iv u6, iv xla, iv xlb, iv xlc, iv xld, iv xa0, iv xa1, iv xb0, iv xb1, iv xc0, iv xc1, iv xd0, iv xd1, rv b101, rv b129, iv (if own_cmp xa0 xa1 xla xb0 xb1 xlb = (0 : Int32) then own_cmp xc0 xc1 xlc xd0 xd1 xld else own_cmp xa0 xa1 xla xb0 xb1 xlb), iv (own_rf xa0 xa1 xla xb0 xb1 xlb), iv (own_rf xc0 xc1 xlc xd0 xd1 xld), iv (own_rf xc0 xc1 xlc xd0 xd1 xld)] [(.int (if own_cmp xa0 xa1 xla xb0 xb1 xlb = (0 : Int32) then own_cmp xc0 xc1 xlc xd0 xd1 xld else own_cmp xa0 xa1 xla xb0 xb1 xlb))])) rfl (by rw [hml]; rfl) (argsL := [(.int (if own_cmp xa0 xa1 xla xb0 xb1 xlb = (0 : Int32) then own_cmp xc0 xc1 xlc xd0 xd1 xld else own_cmp xa0 xa1 xla xb0 xb1 xlb))]) (rest := []) (lenOf own_pd7 rfl) rfl (by show 2 * 0 + _ ≤ _; exact Nat.le_of_eq rfl) (hb hby at_269) ?_
    intro v181 T181 L181 X181 q181
    obtain ⟨rfl, N181q, e181⟩ := q181
    have N181 := Fr.app N179 N181q
    show ownW_Goes p e below s0 _ _ _ T181 (mkF m 272 #[iv u1, iv u2, iv u3, iv u4, iv u5, iv u6, iv xla, iv xlb, iv xlc, iv xld, iv xa0, iv xa1, iv xb0, iv xb1, iv xc0, iv xc1, iv xd0, iv xd1, rv b101, rv b129, iv (if own_cmp xa0 xa1 xla xb0 xb1 xlb = (0 : Int32) then own_cmp xc0 xc1 xlc xd0 xd1 xld else own_cmp xa0 xa1 xla xb0 xb1 xlb), iv (own_rf xa0 xa1 xla xb0 xb1 xlb), iv (own_rf xc0 xc1 xlc xd0 xd1 xld), iv (own_rf xc0 xc1 xlc xd0 xd1 xld)] [(.int (own_sgn (if own_cmp xa0 xa1 xla xb0 xb1 xlb = (0 : Int32) then own_cmp xc0 xc1 xlc xd0 xd1 xld else own_cmp xa0 xa1 xla xb0 xb1 xlb)))])
    refine ownW_by (g' := (mkF m 282 #[iv u1, iv u2, iv u3, iv u4, iv u5, iv u6, iv xla, iv xlb, iv xlc, iv xld, iv xa0, iv xa1, iv xb0, iv xb1, iv xc0, iv xc1, iv xd0, iv xd1, rv b101, rv b129, iv (if own_cmp xa0 xa1 xla xb0 xb1 xlb = (0 : Int32) then own_cmp xc0 xc1 xlc xd0 xd1 xld else own_cmp xa0 xa1 xla xb0 xb1 xlb), iv (own_rf xa0 xa1 xla xb0 xb1 xlb), iv (own_rf xc0 xc1 xlc xd0 xd1 xld), iv (own_rf xc0 xc1 xlc xd0 xd1 xld)] [(.int (1 : Int32))])) (fun t k => XS.iload X181.here hx rfl (hb hby at_272) rfl (XS.icmpNo X181.here hx rfl (hb hby at_274) rfl (teq (own_fin0 hla hlb hlc hld hka0 hka1 hkb0 hkb1 hkc0 hkc1 hkd0 hkd1 hc180)).2 (XS.iconst X181.here hx rfl (hb hby at_277) (XS.goto X181.here hx rfl (pc0 := 278) (pc' := 282) rfl (hb hby at_278) (by decide) (by decide) k)))) ?_
    refine ownW_retN X181 hsv S142 (Nat.le_trans K153.1 (Nat.le_of_eq (congrArg Array.size e181).symm)) hx hlk hret (t := .boolean) (by simp) (hb hby at_282) (by decide) (by decide) ?_
    intro u hu
    rw [e181]
    exact ⟨rfl, N181, ((((((((((Keep.refl h0 []).trans K0 all0).ext E101).trans K105 all0).trans K114 all0).trans K125 (allS (Or.inr sz_b101) all0)).ext E129).trans K133 all0).trans K142 all0).trans K153 (allS (Or.inr sz_b129) all0))⟩
  ·
    refine ownW_by (g' := (mkF m 269 #[iv u1, iv u2, iv u3, iv u4, iv u5, iv u6, iv xla, iv xlb, iv xlc, iv xld, iv xa0, iv xa1, iv xb0, iv xb1, iv xc0, iv xc1, iv xd0, iv xd1, rv b101, rv b129, iv (if own_cmp xa0 xa1 xla xb0 xb1 xlb = (0 : Int32) then own_cmp xc0 xc1 xlc xd0 xd1 xld else own_cmp xa0 xa1 xla xb0 xb1 xlb), iv (own_rf xa0 xa1 xla xb0 xb1 xlb), iv (own_rf xc0 xc1 xlc xd0 xd1 xld), iv (own_rf xa0 xa1 xla xb0 xb1 xlb)] [(.int (if own_cmp xa0 xa1 xla xb0 xb1 xlb = (0 : Int32) then own_cmp xc0 xc1 xlc xd0 xd1 xld else own_cmp xa0 xa1 xla xb0 xb1 xlb))])) (fun t k => XS.ifNo X179.here hx rfl (hb hby at_255) rfl ((if0 _ _).trans (feq hc180).1) (XS.iload X179.here hx rfl (hb hby at_258) rfl (XS.goto X179.here hx rfl (pc0 := 260) (pc' := 265) rfl (hb hby at_260) (by decide) (by decide) (XS.istore X179.here hx rfl (hb hby at_265) rfl (l' := #[iv u1, iv u2, iv u3, iv u4, iv u5, iv u6, iv xla, iv xlb, iv xlc, iv xld, iv xa0, iv xa1, iv xb0, iv xb1, iv xc0, iv xc1, iv xd0, iv xd1, rv b101, rv b129, iv (if own_cmp xa0 xa1 xla xb0 xb1 xlb = (0 : Int32) then own_cmp xc0 xc1 xlc xd0 xd1 xld else own_cmp xa0 xa1 xla xb0 xb1 xlb), iv (own_rf xa0 xa1 xla xb0 xb1 xlb), iv (own_rf xc0 xc1 xlc xd0 xd1 xld), iv (own_rf xa0 xa1 xla xb0 xb1 xlb)]) rfl (XS.iload X179.here hx rfl (hb hby at_267) rfl k))))) ?_
    refine ownW_callS X179 hx hZ hown (hw _ (List.mem_of_getElem? (i := 75) rfl)) (hw _ (List.mem_of_getElem? (i := 76) rfl)) (hw _ (List.mem_of_getElem? (i := 6) rfl)) (hw _ (List.mem_of_getElem? (i := 77) rfl)) (by decide) (own_sgnc l Z a0 hw [] ((if own_cmp xa0 xa1 xla xb0 xb1 xlb = (0 : Int32) then own_cmp xc0 xc1 xlc xd0 xd1 xld else own_cmp xa0 xa1 xla xb0 xb1 xlb)) T153.heap n0 (Nat.le_trans Z0 (Nat.le_trans (Nat.le_trans (Nat.le_trans (Nat.le_trans (Nat.le_trans (Nat.le_trans (Nat.le_trans (Nat.le_trans K0.1 E101.1) K105.1) K114.1) K125.1) E129.1) K133.1) K142.1) K153.1)) ) 0 (by decide) (by decide) (by decide) (by decide) e179 (g := (mkF m 269 #[iv u1, iv u2, iv u3, iv u4, iv u5, iv u6, iv xla, iv xlb, iv xlc, iv xld, iv xa0, iv xa1, iv xb0, iv xb1, iv xc0, iv xc1, iv xd0, iv xd1, rv b101, rv b129, iv (if own_cmp xa0 xa1 xla xb0 xb1 xlb = (0 : Int32) then own_cmp xc0 xc1 xlc xd0 xd1 xld else own_cmp xa0 xa1 xla xb0 xb1 xlb), iv (own_rf xa0 xa1 xla xb0 xb1 xlb), iv (own_rf xc0 xc1 xlc xd0 xd1 xld), iv (own_rf xa0 xa1 xla xb0 xb1 xlb)] [(.int (if own_cmp xa0 xa1 xla xb0 xb1 xlb = (0 : Int32) then own_cmp xc0 xc1 xlc xd0 xd1 xld else own_cmp xa0 xa1 xla xb0 xb1 xlb))])) rfl (by rw [hml]; rfl) (argsL := [(.int (if own_cmp xa0 xa1 xla xb0 xb1 xlb = (0 : Int32) then own_cmp xc0 xc1 xlc xd0 xd1 xld else own_cmp xa0 xa1 xla xb0 xb1 xlb))]) (rest := []) (lenOf own_pd7 rfl) rfl (by show 2 * 0 + _ ≤ _; exact Nat.le_of_eq rfl) (hb hby at_269) ?_
    intro v182 T182 L182 X182 q182
    obtain ⟨rfl, N182q, e182⟩ := q182
    have N182 := Fr.app N179 N182q
    show ownW_Goes p e below s0 _ _ _ T182 (mkF m 272 #[iv u1, iv u2, iv u3, iv u4, iv u5, iv u6, iv xla, iv xlb, iv xlc, iv xld, iv xa0, iv xa1, iv xb0, iv xb1, iv xc0, iv xc1, iv xd0, iv xd1, rv b101, rv b129, iv (if own_cmp xa0 xa1 xla xb0 xb1 xlb = (0 : Int32) then own_cmp xc0 xc1 xlc xd0 xd1 xld else own_cmp xa0 xa1 xla xb0 xb1 xlb), iv (own_rf xa0 xa1 xla xb0 xb1 xlb), iv (own_rf xc0 xc1 xlc xd0 xd1 xld), iv (own_rf xa0 xa1 xla xb0 xb1 xlb)] [(.int (own_sgn (if own_cmp xa0 xa1 xla xb0 xb1 xlb = (0 : Int32) then own_cmp xc0 xc1 xlc xd0 xd1 xld else own_cmp xa0 xa1 xla xb0 xb1 xlb)))])
    refine ownW_by (g' := (mkF m 282 #[iv u1, iv u2, iv u3, iv u4, iv u5, iv u6, iv xla, iv xlb, iv xlc, iv xld, iv xa0, iv xa1, iv xb0, iv xb1, iv xc0, iv xc1, iv xd0, iv xd1, rv b101, rv b129, iv (if own_cmp xa0 xa1 xla xb0 xb1 xlb = (0 : Int32) then own_cmp xc0 xc1 xlc xd0 xd1 xld else own_cmp xa0 xa1 xla xb0 xb1 xlb), iv (own_rf xa0 xa1 xla xb0 xb1 xlb), iv (own_rf xc0 xc1 xlc xd0 xd1 xld), iv (own_rf xa0 xa1 xla xb0 xb1 xlb)] [(.int (1 : Int32))])) (fun t k => XS.iload X182.here hx rfl (hb hby at_272) rfl (XS.icmpNo X182.here hx rfl (hb hby at_274) rfl (teq (own_fin1 hla hlb hlc hld hka0 hka1 hkb0 hkb1 hkc0 hkc1 hkd0 hkd1 hc180)).2 (XS.iconst X182.here hx rfl (hb hby at_277) (XS.goto X182.here hx rfl (pc0 := 278) (pc' := 282) rfl (hb hby at_278) (by decide) (by decide) k)))) ?_
    refine ownW_retN X182 hsv S142 (Nat.le_trans K153.1 (Nat.le_of_eq (congrArg Array.size e182).symm)) hx hlk hret (t := .boolean) (by simp) (hb hby at_282) (by decide) (by decide) ?_
    intro u hu
    rw [e182]
    exact ⟨rfl, N182, ((((((((((Keep.refl h0 []).trans K0 all0).ext E101).trans K105 all0).trans K114 all0).trans K125 (allS (Or.inr sz_b101) all0)).ext E129).trans K133 all0).trans K142 all0).trans K153 (allS (Or.inr sz_b129) all0))⟩
theorem own_r3 (a : Int32) : own_l3 ((a &&& (3 : Int32)) % (3 : Int32)) := by
  have m := c_mask a 3 2 (by decide) (by decide)
  have r := (c_irem (a &&& 3) 3 3 (by decide)).1 (by omega)
  have : ((a &&& 3) % 3).toInt = 0 ∨ ((a &&& 3) % 3).toInt = 1 ∨ ((a &&& 3) % 3).toInt = 2 := by omega
  rcases this with h | h | h
  · exact Or.inl (Int32.toInt_inj.mp h)
  · exact Or.inr (Or.inl (Int32.toInt_inj.mp h))
  · exact Or.inr (Or.inr (Int32.toInt_inj.mp h))
theorem own_r3_of {a y : Int32} (q : ((a &&& (3 : Int32)) % (3 : Int32)) = y) : own_l3 y := q ▸ own_r3 a
theorem own_ch_of {x y : Int32} (q : (x).toUInt32.toUInt16.toUInt32.toInt32 = y) : own_ch y := by rw [← q]; exact own_c16 x
theorem own_ef_own_law (m : MethodId) (u1 : Int32) (u2 : Int32) (u3 : Int32) (u4 : Int32) (u5 : Int32) (u6 : Int32) : entryFrame m #[(.int u1), (.int u2), (.int u3), (.int u4), (.int u5), (.int u6)] maxLocals = mkF m 0 #[iv u1, iv u2, iv u3, iv u4, iv u5, iv u6, .unset, .unset, .unset, .unset, .unset, .unset, .unset, .unset, .unset, .unset, .unset, .unset, .unset, .unset, .unset, .unset, .unset, .unset] [] := by first | (simp [entryFrame, mkF, argsToLocals, Value.category, maxLocals]; done) | rfl
set_option maxRecDepth 65536 in
set_option maxHeartbeats 40000000 in
theorem own_law (l : Launch) (Z : State) (a0 : Array Value) (hw : ∀ d ∈ tables_1, d.before a0 Z = true) (ws : List Jvm.Cond) (u1 : Int32) (u2 : Int32) (u3 : Int32) (u4 : Int32) (u5 : Int32) (u6 : Int32) (zcs : Int32) (vsf : Value) (h0 : Heap) (n0 : Nat) (Z0 : n0 ≤ h0.size) (O0 : Old Z n0 h0) (S_cs : Sta Z Z.heap "java/lang/String" "COMPACT_STRINGS" "Z" (.int zcs)) (hcs : ¬ zcs = (0 : Int32)) (S_ad : Sta Z Z.heap "java/lang/StringUTF16" "$assertionsDisabled" "Z" (.int (1 : Int32))) (S_hi : Sta Z Z.heap "java/lang/StringUTF16" "HI_BYTE_SHIFT" "I" (.int (0 : Int32))) (S_lo : Sta Z Z.heap "java/lang/StringUTF16" "LO_BYTE_SHIFT" "I" (.int (8 : Int32))) (S_sf : Sta Z Z.heap "jdk/internal/util/Preconditions" "SIOOBE_FORMATTER" "Ljava/util/function/BiFunction;" vsf) (r_sf : (vsf).isRef = true) (hcw : Jvm.Lit.compactW.before a0 Z = true) (hch : Jvm.Lit.constHeld Z "java/lang/String" 7) :
    ownW_Ctr l Z x code maxLocals ret ws room_1 48 1216 #[(.int u1), (.int u2), (.int u3), (.int u4), (.int u5), (.int u6)] h0 (fun u => own_V Z u h0) (Q_own_law Z u1 u2 u3 u4 u5 u6 zcs vsf h0 n0) := by
  refine ownW_enter (plainFor_of_name own_pn6) ?_
  intro p e s0 s m below meth c s₁ hsv hsh S0 X0 hx hZ hby hml hown hnm hlk hret e0 hJ
  have hV := hJ
  have N0 := Fr.nil n0
  refine ownW_cast (own_ef_own_law m u1 u2 u3 u4 u5 u6) ?_
  refine ownW_by (g' := (mkF m 6 #[iv u1, iv u2, iv u3, iv u4, iv u5, iv u6, .unset, .unset, .unset, .unset, .unset, .unset, .unset, .unset, .unset, .unset, .unset, .unset, .unset, .unset, .unset, .unset, .unset, .unset] [(.int ((u5 &&& (3 : Int32)) % (3 : Int32)))])) (fun t k => XS.iload X0.here hx rfl (hb hby at_0) rfl (XS.iconst X0.here hx rfl (hb hby at_2) (XS.iand X0.here hx rfl (hb hby at_3) rfl (XS.iconst X0.here hx rfl (hb hby at_4) (iremM X0 hx rfl (hb hby at_5) rfl (by decide) k))))) ?_
  generalize hv101 : ((u5 &&& (3 : Int32)) % (3 : Int32)) = v101
  refine ownW_by (g' := (mkF m 16 #[iv u1, iv u2, iv u3, iv u4, iv u5, iv u6, iv v101, .unset, .unset, .unset, .unset, .unset, .unset, .unset, .unset, .unset, .unset, .unset, .unset, .unset, .unset, .unset, .unset, .unset] [(.int ((((u5).toUInt32 >>> ((2 : Int32) &&& 31).toUInt32).toInt32 &&& (3 : Int32)) % (3 : Int32)))])) (fun t k => XS.istore X0.here hx rfl (hb hby at_6) rfl (l' := #[iv u1, iv u2, iv u3, iv u4, iv u5, iv u6, iv v101, .unset, .unset, .unset, .unset, .unset, .unset, .unset, .unset, .unset, .unset, .unset, .unset, .unset, .unset, .unset, .unset, .unset]) rfl (XS.iload X0.here hx rfl (hb hby at_8) rfl (XS.iconst X0.here hx rfl (hb hby at_10) (XS.iushr X0.here hx rfl (hb hby at_11) rfl (XS.iconst X0.here hx rfl (hb hby at_12) (XS.iand X0.here hx rfl (hb hby at_13) rfl (XS.iconst X0.here hx rfl (hb hby at_14) (iremM X0 hx rfl (hb hby at_15) rfl (by decide) k)))))))) ?_
  generalize hv102 : ((((u5).toUInt32 >>> ((2 : Int32) &&& 31).toUInt32).toInt32 &&& (3 : Int32)) % (3 : Int32)) = v102
  refine ownW_by (g' := (mkF m 26 #[iv u1, iv u2, iv u3, iv u4, iv u5, iv u6, iv v101, iv v102, .unset, .unset, .unset, .unset, .unset, .unset, .unset, .unset, .unset, .unset, .unset, .unset, .unset, .unset, .unset, .unset] [(.int ((((u5).toUInt32 >>> ((4 : Int32) &&& 31).toUInt32).toInt32 &&& (3 : Int32)) % (3 : Int32)))])) (fun t k => XS.istore X0.here hx rfl (hb hby at_16) rfl (l' := #[iv u1, iv u2, iv u3, iv u4, iv u5, iv u6, iv v101, iv v102, .unset, .unset, .unset, .unset, .unset, .unset, .unset, .unset, .unset, .unset, .unset, .unset, .unset, .unset, .unset, .unset]) rfl (XS.iload X0.here hx rfl (hb hby at_18) rfl (XS.iconst X0.here hx rfl (hb hby at_20) (XS.iushr X0.here hx rfl (hb hby at_21) rfl (XS.iconst X0.here hx rfl (hb hby at_22) (XS.iand X0.here hx rfl (hb hby at_23) rfl (XS.iconst X0.here hx rfl (hb hby at_24) (iremM X0 hx rfl (hb hby at_25) rfl (by decide) k)))))))) ?_
  generalize hv103 : ((((u5).toUInt32 >>> ((4 : Int32) &&& 31).toUInt32).toInt32 &&& (3 : Int32)) % (3 : Int32)) = v103
  refine ownW_by (g' := (mkF m 37 #[iv u1, iv u2, iv u3, iv u4, iv u5, iv u6, iv v101, iv v102, iv v103, .unset, .unset, .unset, .unset, .unset, .unset, .unset, .unset, .unset, .unset, .unset, .unset, .unset, .unset, .unset] [(.int ((((u5).toUInt32 >>> ((6 : Int32) &&& 31).toUInt32).toInt32 &&& (3 : Int32)) % (3 : Int32)))])) (fun t k => XS.istore X0.here hx rfl (hb hby at_26) rfl (l' := #[iv u1, iv u2, iv u3, iv u4, iv u5, iv u6, iv v101, iv v102, iv v103, .unset, .unset, .unset, .unset, .unset, .unset, .unset, .unset, .unset, .unset, .unset, .unset, .unset, .unset, .unset]) rfl (XS.iload X0.here hx rfl (hb hby at_28) rfl (XS.bipush X0.here hx rfl (hb hby at_30) (XS.iushr X0.here hx rfl (hb hby at_32) rfl (XS.iconst X0.here hx rfl (hb hby at_33) (XS.iand X0.here hx rfl (hb hby at_34) rfl (XS.iconst X0.here hx rfl (hb hby at_35) (iremM X0 hx rfl (hb hby at_36) rfl (by decide) k)))))))) ?_
  generalize hv104 : ((((u5).toUInt32 >>> ((6 : Int32) &&& 31).toUInt32).toInt32 &&& (3 : Int32)) % (3 : Int32)) = v104
  refine ownW_by (g' := (mkF m 44 #[iv u1, iv u2, iv u3, iv u4, iv u5, iv u6, iv v101, iv v102, iv v103, iv v104, .unset, .unset, .unset, .unset, .unset, .unset, .unset, .unset, .unset, .unset, .unset, .unset, .unset, .unset] [(.int ((u1 &&& (65535 : Int32))).toUInt32.toUInt16.toUInt32.toInt32)])) (fun t k => XS.istore X0.here hx rfl (hb hby at_37) rfl (l' := #[iv u1, iv u2, iv u3, iv u4, iv u5, iv u6, iv v101, iv v102, iv v103, iv v104, .unset, .unset, .unset, .unset, .unset, .unset, .unset, .unset, .unset, .unset, .unset, .unset, .unset, .unset]) rfl (XS.iloadN X0.here hx rfl (hb hby at_39) rfl (X0.ldcInt hx hown (mvT hZ (hw _ (List.mem_of_getElem? (i := 0) rfl))) (g := (mkF m 40 #[iv u1, iv u2, iv u3, iv u4, iv u5, iv u6, iv v101, iv v102, iv v103, iv v104, .unset, .unset, .unset, .unset, .unset, .unset, .unset, .unset, .unset, .unset, .unset, .unset, .unset, .unset] [(.int u1)])) rfl (hb hby at_40) t (XS.iand X0.here hx rfl (hb hby at_42) rfl (XS.i2c X0.here hx rfl (hb hby at_43) rfl k))))) ?_
  generalize hv105 : ((u1 &&& (65535 : Int32))).toUInt32.toUInt16.toUInt32.toInt32 = v105
  refine ownW_by (g' := (mkF m 51 #[iv u1, iv u2, iv u3, iv u4, iv u5, iv u6, iv v101, iv v102, iv v103, iv v104, iv v105, .unset, .unset, .unset, .unset, .unset, .unset, .unset, .unset, .unset, .unset, .unset, .unset, .unset] [(.int (((u1).toUInt32 >>> ((16 : Int32) &&& 31).toUInt32).toInt32).toUInt32.toUInt16.toUInt32.toInt32)])) (fun t k => XS.istore X0.here hx rfl (hb hby at_44) rfl (l' := #[iv u1, iv u2, iv u3, iv u4, iv u5, iv u6, iv v101, iv v102, iv v103, iv v104, iv v105, .unset, .unset, .unset, .unset, .unset, .unset, .unset, .unset, .unset, .unset, .unset, .unset, .unset]) rfl (XS.iloadN X0.here hx rfl (hb hby at_46) rfl (XS.bipush X0.here hx rfl (hb hby at_47) (XS.iushr X0.here hx rfl (hb hby at_49) rfl (XS.i2c X0.here hx rfl (hb hby at_50) rfl k))))) ?_
  generalize hv106 : (((u1).toUInt32 >>> ((16 : Int32) &&& 31).toUInt32).toInt32).toUInt32.toUInt16.toUInt32.toInt32 = v106
  refine ownW_by (g' := (mkF m 58 #[iv u1, iv u2, iv u3, iv u4, iv u5, iv u6, iv v101, iv v102, iv v103, iv v104, iv v105, iv v106, .unset, .unset, .unset, .unset, .unset, .unset, .unset, .unset, .unset, .unset, .unset, .unset] [(.int ((u2 &&& (65535 : Int32))).toUInt32.toUInt16.toUInt32.toInt32)])) (fun t k => XS.istore X0.here hx rfl (hb hby at_51) rfl (l' := #[iv u1, iv u2, iv u3, iv u4, iv u5, iv u6, iv v101, iv v102, iv v103, iv v104, iv v105, iv v106, .unset, .unset, .unset, .unset, .unset, .unset, .unset, .unset, .unset, .unset, .unset, .unset]) rfl (XS.iloadN X0.here hx rfl (hb hby at_53) rfl (X0.ldcInt hx hown (mvT hZ (hw _ (List.mem_of_getElem? (i := 0) rfl))) (g := (mkF m 54 #[iv u1, iv u2, iv u3, iv u4, iv u5, iv u6, iv v101, iv v102, iv v103, iv v104, iv v105, iv v106, .unset, .unset, .unset, .unset, .unset, .unset, .unset, .unset, .unset, .unset, .unset, .unset] [(.int u2)])) rfl (hb hby at_54) t (XS.iand X0.here hx rfl (hb hby at_56) rfl (XS.i2c X0.here hx rfl (hb hby at_57) rfl k))))) ?_
  generalize hv107 : ((u2 &&& (65535 : Int32))).toUInt32.toUInt16.toUInt32.toInt32 = v107
  refine ownW_by (g' := (mkF m 65 #[iv u1, iv u2, iv u3, iv u4, iv u5, iv u6, iv v101, iv v102, iv v103, iv v104, iv v105, iv v106, iv v107, .unset, .unset, .unset, .unset, .unset, .unset, .unset, .unset, .unset, .unset, .unset] [(.int (((u2).toUInt32 >>> ((16 : Int32) &&& 31).toUInt32).toInt32).toUInt32.toUInt16.toUInt32.toInt32)])) (fun t k => XS.istore X0.here hx rfl (hb hby at_58) rfl (l' := #[iv u1, iv u2, iv u3, iv u4, iv u5, iv u6, iv v101, iv v102, iv v103, iv v104, iv v105, iv v106, iv v107, .unset, .unset, .unset, .unset, .unset, .unset, .unset, .unset, .unset, .unset, .unset]) rfl (XS.iloadN X0.here hx rfl (hb hby at_60) rfl (XS.bipush X0.here hx rfl (hb hby at_61) (XS.iushr X0.here hx rfl (hb hby at_63) rfl (XS.i2c X0.here hx rfl (hb hby at_64) rfl k))))) ?_
  generalize hv108 : (((u2).toUInt32 >>> ((16 : Int32) &&& 31).toUInt32).toInt32).toUInt32.toUInt16.toUInt32.toInt32 = v108
  refine ownW_by (g' := (mkF m 72 #[iv u1, iv u2, iv u3, iv u4, iv u5, iv u6, iv v101, iv v102, iv v103, iv v104, iv v105, iv v106, iv v107, iv v108, .unset, .unset, .unset, .unset, .unset, .unset, .unset, .unset, .unset, .unset] [(.int ((u3 &&& (65535 : Int32))).toUInt32.toUInt16.toUInt32.toInt32)])) (fun t k => XS.istore X0.here hx rfl (hb hby at_65) rfl (l' := #[iv u1, iv u2, iv u3, iv u4, iv u5, iv u6, iv v101, iv v102, iv v103, iv v104, iv v105, iv v106, iv v107, iv v108, .unset, .unset, .unset, .unset, .unset, .unset, .unset, .unset, .unset, .unset]) rfl (XS.iloadN X0.here hx rfl (hb hby at_67) rfl (X0.ldcInt hx hown (mvT hZ (hw _ (List.mem_of_getElem? (i := 0) rfl))) (g := (mkF m 68 #[iv u1, iv u2, iv u3, iv u4, iv u5, iv u6, iv v101, iv v102, iv v103, iv v104, iv v105, iv v106, iv v107, iv v108, .unset, .unset, .unset, .unset, .unset, .unset, .unset, .unset, .unset, .unset] [(.int u3)])) rfl (hb hby at_68) t (XS.iand X0.here hx rfl (hb hby at_70) rfl (XS.i2c X0.here hx rfl (hb hby at_71) rfl k))))) ?_
  generalize hv109 : ((u3 &&& (65535 : Int32))).toUInt32.toUInt16.toUInt32.toInt32 = v109
  refine ownW_by (g' := (mkF m 79 #[iv u1, iv u2, iv u3, iv u4, iv u5, iv u6, iv v101, iv v102, iv v103, iv v104, iv v105, iv v106, iv v107, iv v108, iv v109, .unset, .unset, .unset, .unset, .unset, .unset, .unset, .unset, .unset] [(.int (((u3).toUInt32 >>> ((16 : Int32) &&& 31).toUInt32).toInt32).toUInt32.toUInt16.toUInt32.toInt32)])) (fun t k => XS.istore X0.here hx rfl (hb hby at_72) rfl (l' := #[iv u1, iv u2, iv u3, iv u4, iv u5, iv u6, iv v101, iv v102, iv v103, iv v104, iv v105, iv v106, iv v107, iv v108, iv v109, .unset, .unset, .unset, .unset, .unset, .unset, .unset, .unset, .unset]) rfl (XS.iloadN X0.here hx rfl (hb hby at_74) rfl (XS.bipush X0.here hx rfl (hb hby at_75) (XS.iushr X0.here hx rfl (hb hby at_77) rfl (XS.i2c X0.here hx rfl (hb hby at_78) rfl k))))) ?_
  generalize hv110 : (((u3).toUInt32 >>> ((16 : Int32) &&& 31).toUInt32).toInt32).toUInt32.toUInt16.toUInt32.toInt32 = v110
  refine ownW_by (g' := (mkF m 86 #[iv u1, iv u2, iv u3, iv u4, iv u5, iv u6, iv v101, iv v102, iv v103, iv v104, iv v105, iv v106, iv v107, iv v108, iv v109, iv v110, .unset, .unset, .unset, .unset, .unset, .unset, .unset, .unset] [(.int ((u4 &&& (65535 : Int32))).toUInt32.toUInt16.toUInt32.toInt32)])) (fun t k => XS.istore X0.here hx rfl (hb hby at_79) rfl (l' := #[iv u1, iv u2, iv u3, iv u4, iv u5, iv u6, iv v101, iv v102, iv v103, iv v104, iv v105, iv v106, iv v107, iv v108, iv v109, iv v110, .unset, .unset, .unset, .unset, .unset, .unset, .unset, .unset]) rfl (XS.iloadN X0.here hx rfl (hb hby at_81) rfl (X0.ldcInt hx hown (mvT hZ (hw _ (List.mem_of_getElem? (i := 0) rfl))) (g := (mkF m 82 #[iv u1, iv u2, iv u3, iv u4, iv u5, iv u6, iv v101, iv v102, iv v103, iv v104, iv v105, iv v106, iv v107, iv v108, iv v109, iv v110, .unset, .unset, .unset, .unset, .unset, .unset, .unset, .unset] [(.int u4)])) rfl (hb hby at_82) t (XS.iand X0.here hx rfl (hb hby at_84) rfl (XS.i2c X0.here hx rfl (hb hby at_85) rfl k))))) ?_
  generalize hv111 : ((u4 &&& (65535 : Int32))).toUInt32.toUInt16.toUInt32.toInt32 = v111
  refine ownW_by (g' := (mkF m 93 #[iv u1, iv u2, iv u3, iv u4, iv u5, iv u6, iv v101, iv v102, iv v103, iv v104, iv v105, iv v106, iv v107, iv v108, iv v109, iv v110, iv v111, .unset, .unset, .unset, .unset, .unset, .unset, .unset] [(.int (((u4).toUInt32 >>> ((16 : Int32) &&& 31).toUInt32).toInt32).toUInt32.toUInt16.toUInt32.toInt32)])) (fun t k => XS.istore X0.here hx rfl (hb hby at_86) rfl (l' := #[iv u1, iv u2, iv u3, iv u4, iv u5, iv u6, iv v101, iv v102, iv v103, iv v104, iv v105, iv v106, iv v107, iv v108, iv v109, iv v110, iv v111, .unset, .unset, .unset, .unset, .unset, .unset, .unset]) rfl (XS.iloadN X0.here hx rfl (hb hby at_88) rfl (XS.bipush X0.here hx rfl (hb hby at_89) (XS.iushr X0.here hx rfl (hb hby at_91) rfl (XS.i2c X0.here hx rfl (hb hby at_92) rfl k))))) ?_
  generalize hv112 : (((u4).toUInt32 >>> ((16 : Int32) &&& 31).toUInt32).toInt32).toUInt32.toUInt16.toUInt32.toInt32 = v112
  refine ownW_by (g' := (mkF m 99 #[iv u1, iv u2, iv u3, iv u4, iv u5, iv u6, iv v101, iv v102, iv v103, iv v104, iv v105, iv v106, iv v107, iv v108, iv v109, iv v110, iv v111, iv v112, .unset, .unset, .unset, .unset, .unset, .unset] [(.int (u6 &&& (1 : Int32)))])) (fun t k => XS.istore X0.here hx rfl (hb hby at_93) rfl (l' := #[iv u1, iv u2, iv u3, iv u4, iv u5, iv u6, iv v101, iv v102, iv v103, iv v104, iv v105, iv v106, iv v107, iv v108, iv v109, iv v110, iv v111, iv v112, .unset, .unset, .unset, .unset, .unset, .unset]) rfl (XS.iload X0.here hx rfl (hb hby at_95) rfl (XS.iconst X0.here hx rfl (hb hby at_97) (XS.iand X0.here hx rfl (hb hby at_98) rfl k)))) ?_
  by_cases hc113 : (u6 &&& (1 : Int32)) = (0 : Int32)
  ·
    refine ownW_by (g' := (mkF m 118 #[iv u1, iv u2, iv u3, iv u4, iv u5, iv u6, iv v101, iv v102, iv v103, iv v104, iv v105, iv v106, iv v107, iv v108, iv v109, iv v110, iv v111, iv v112, .unset, .unset, .unset, .unset, .unset, .unset] [(.int (u6 &&& (2 : Int32)))])) (fun t k => XS.ifYes X0.here hx rfl (pc0 := 99) (pc' := 114) rfl (hb hby at_99) rfl ((if0 _ _).trans (teq hc113).1) (by decide) (by decide) (XS.iload X0.here hx rfl (hb hby at_114) rfl (XS.iconst X0.here hx rfl (hb hby at_116) (XS.iand X0.here hx rfl (hb hby at_117) rfl k)))) ?_
    by_cases hc114 : (u6 &&& (2 : Int32)) = (0 : Int32)
    ·
      refine ownW_by (g' := (mkF m 129 #[iv u1, iv u2, iv u3, iv u4, iv u5, iv u6, iv v101, iv v102, iv v103, iv v104, iv v105, iv v106, iv v107, iv v108, iv v109, iv v110, iv v111, iv v112, .unset, .unset, .unset, .unset, .unset, .unset] [(.int (u6 &&& (4 : Int32)))])) (fun t k => XS.ifYes X0.here hx rfl (pc0 := 118) (pc' := 125) rfl (hb hby at_118) rfl ((if0 _ _).trans (teq hc114).1) (by decide) (by decide) (XS.iload X0.here hx rfl (hb hby at_125) rfl (XS.iconst X0.here hx rfl (hb hby at_127) (XS.iand X0.here hx rfl (hb hby at_128) rfl k)))) ?_
      by_cases hc115 : (u6 &&& (4 : Int32)) = (0 : Int32)
      ·
        refine ownW_by (g' := (mkF m 141 #[iv u1, iv u2, iv u3, iv u4, iv u5, iv u6, iv v101, iv v102, iv v103, iv v104, iv v105, iv v106, iv v107, iv v108, iv v109, iv v110, iv v111, iv v112, .unset, .unset, .unset, .unset, .unset, .unset] [(.int (u6 &&& (8 : Int32)))])) (fun t k => XS.ifYes X0.here hx rfl (pc0 := 129) (pc' := 136) rfl (hb hby at_129) rfl ((if0 _ _).trans (teq hc115).1) (by decide) (by decide) (XS.iload X0.here hx rfl (hb hby at_136) rfl (XS.bipush X0.here hx rfl (hb hby at_138) (XS.iand X0.here hx rfl (hb hby at_140) rfl k)))) ?_
        by_cases hc116 : (u6 &&& (8 : Int32)) = (0 : Int32)
        ·
          refine ownW_by (g' := (mkF m 156 #[iv u1, iv u2, iv u3, iv u4, iv u5, iv u6, iv v101, iv v102, iv v103, iv v104, iv v105, iv v106, iv v107, iv v108, iv v109, iv v110, iv v111, iv v112, .unset, .unset, .unset, .unset, .unset, .unset] [])) (fun t k => XS.ifYes X0.here hx rfl (pc0 := 141) (pc' := 156) rfl (hb hby at_141) rfl ((if0 _ _).trans (teq hc116).1) (by decide) (by decide) k) ?_
          exact own_rest u1 u2 u3 u4 u5 u6 zcs vsf (v101) (v102) (v103) (v104) (v105) (v106) (v107) (v108) (v109) (v110) (v111) (v112) X0 hx hZ hw hby hml hown hnm hlk hret Z0 e0 N0 (Keep.refl h0 []) hsv hsh S0 hV O0 S_cs (by first | assumption | decide) S_ad S_hi S_lo S_sf r_sf (by first | assumption | decide) (by first | assumption | decide) (own_r3_of hv101) (own_r3_of hv102) (own_r3_of hv103) (own_r3_of hv104) (own_ch_of hv105) (own_ch_of hv106) (own_ch_of hv107) (own_ch_of hv108) (own_ch_of hv109) (own_ch_of hv110) (own_ch_of hv111) (own_ch_of hv112)
        ·
          refine ownW_by (g' := (mkF m 156 #[iv u1, iv u2, iv u3, iv u4, iv u5, iv u6, iv v101, iv v102, iv v103, iv v103, iv v105, iv v106, iv v107, iv v108, iv v109, iv v110, iv v109, iv v110, .unset, .unset, .unset, .unset, .unset, .unset] [])) (fun t k => XS.ifNo X0.here hx rfl (hb hby at_141) rfl ((if0 _ _).trans (feq hc116).1) (XS.iload X0.here hx rfl (hb hby at_144) rfl (XS.istore X0.here hx rfl (hb hby at_146) rfl (l' := #[iv u1, iv u2, iv u3, iv u4, iv u5, iv u6, iv v101, iv v102, iv v103, iv v104, iv v105, iv v106, iv v107, iv v108, iv v109, iv v110, iv v109, iv v112, .unset, .unset, .unset, .unset, .unset, .unset]) rfl (XS.iload X0.here hx rfl (hb hby at_148) rfl (XS.istore X0.here hx rfl (hb hby at_150) rfl (l' := #[iv u1, iv u2, iv u3, iv u4, iv u5, iv u6, iv v101, iv v102, iv v103, iv v104, iv v105, iv v106, iv v107, iv v108, iv v109, iv v110, iv v109, iv v110, .unset, .unset, .unset, .unset, .unset, .unset]) rfl (XS.iload X0.here hx rfl (hb hby at_152) rfl (XS.istore X0.here hx rfl (hb hby at_154) rfl (l' := #[iv u1, iv u2, iv u3, iv u4, iv u5, iv u6, iv v101, iv v102, iv v103, iv v103, iv v105, iv v106, iv v107, iv v108, iv v109, iv v110, iv v109, iv v110, .unset, .unset, .unset, .unset, .unset, .unset]) rfl k))))))) ?_
          exact own_rest u1 u2 u3 u4 u5 u6 zcs vsf (v101) (v102) (v103) (v103) (v105) (v106) (v107) (v108) (v109) (v110) (v109) (v110) X0 hx hZ hw hby hml hown hnm hlk hret Z0 e0 N0 (Keep.refl h0 []) hsv hsh S0 hV O0 S_cs (by first | assumption | decide) S_ad S_hi S_lo S_sf r_sf (by first | assumption | decide) (by first | assumption | decide) (own_r3_of hv101) (own_r3_of hv102) (own_r3_of hv103) (own_r3_of hv103) (own_ch_of hv105) (own_ch_of hv106) (own_ch_of hv107) (own_ch_of hv108) (own_ch_of hv109) (own_ch_of hv110) (own_ch_of hv109) (own_ch_of hv110)
      ·
        refine ownW_by (g' := (mkF m 141 #[iv u1, iv u2, iv u3, iv u4, iv u5, iv u6, iv v101, iv v102, iv v103, iv v104, iv v105, iv v106, iv v107, iv v108, iv v109, iv v110, iv v109, iv v112, .unset, .unset, .unset, .unset, .unset, .unset] [(.int (u6 &&& (8 : Int32)))])) (fun t k => XS.ifNo X0.here hx rfl (hb hby at_129) rfl ((if0 _ _).trans (feq hc115).1) (XS.iload X0.here hx rfl (hb hby at_132) rfl (XS.istore X0.here hx rfl (hb hby at_134) rfl (l' := #[iv u1, iv u2, iv u3, iv u4, iv u5, iv u6, iv v101, iv v102, iv v103, iv v104, iv v105, iv v106, iv v107, iv v108, iv v109, iv v110, iv v109, iv v112, .unset, .unset, .unset, .unset, .unset, .unset]) rfl (XS.iload X0.here hx rfl (hb hby at_136) rfl (XS.bipush X0.here hx rfl (hb hby at_138) (XS.iand X0.here hx rfl (hb hby at_140) rfl k)))))) ?_
        by_cases hc117 : (u6 &&& (8 : Int32)) = (0 : Int32)
        ·
          refine ownW_by (g' := (mkF m 156 #[iv u1, iv u2, iv u3, iv u4, iv u5, iv u6, iv v101, iv v102, iv v103, iv v104, iv v105, iv v106, iv v107, iv v108, iv v109, iv v110, iv v109, iv v112, .unset, .unset, .unset, .unset, .unset, .unset] [])) (fun t k => XS.ifYes X0.here hx rfl (pc0 := 141) (pc' := 156) rfl (hb hby at_141) rfl ((if0 _ _).trans (teq hc117).1) (by decide) (by decide) k) ?_
          exact own_rest u1 u2 u3 u4 u5 u6 zcs vsf (v101) (v102) (v103) (v104) (v105) (v106) (v107) (v108) (v109) (v110) (v109) (v112) X0 hx hZ hw hby hml hown hnm hlk hret Z0 e0 N0 (Keep.refl h0 []) hsv hsh S0 hV O0 S_cs (by first | assumption | decide) S_ad S_hi S_lo S_sf r_sf (by first | assumption | decide) (by first | assumption | decide) (own_r3_of hv101) (own_r3_of hv102) (own_r3_of hv103) (own_r3_of hv104) (own_ch_of hv105) (own_ch_of hv106) (own_ch_of hv107) (own_ch_of hv108) (own_ch_of hv109) (own_ch_of hv110) (own_ch_of hv109) (own_ch_of hv112)
        ·
          refine ownW_by (g' := (mkF m 156 #[iv u1, iv u2, iv u3, iv u4, iv u5, iv u6, iv v101, iv v102, iv v103, iv v103, iv v105, iv v106, iv v107, iv v108, iv v109, iv v110, iv v109, iv v110, .unset, .unset, .unset, .unset, .unset, .unset] [])) (fun t k => XS.ifNo X0.here hx rfl (hb hby at_141) rfl ((if0 _ _).trans (feq hc117).1) (XS.iload X0.here hx rfl (hb hby at_144) rfl (XS.istore X0.here hx rfl (hb hby at_146) rfl (l' := #[iv u1, iv u2, iv u3, iv u4, iv u5, iv u6, iv v101, iv v102, iv v103, iv v104, iv v105, iv v106, iv v107, iv v108, iv v109, iv v110, iv v109, iv v112, .unset, .unset, .unset, .unset, .unset, .unset]) rfl (XS.iload X0.here hx rfl (hb hby at_148) rfl (XS.istore X0.here hx rfl (hb hby at_150) rfl (l' := #[iv u1, iv u2, iv u3, iv u4, iv u5, iv u6, iv v101, iv v102, iv v103, iv v104, iv v105, iv v106, iv v107, iv v108, iv v109, iv v110, iv v109, iv v110, .unset, .unset, .unset, .unset, .unset, .unset]) rfl (XS.iload X0.here hx rfl (hb hby at_152) rfl (XS.istore X0.here hx rfl (hb hby at_154) rfl (l' := #[iv u1, iv u2, iv u3, iv u4, iv u5, iv u6, iv v101, iv v102, iv v103, iv v103, iv v105, iv v106, iv v107, iv v108, iv v109, iv v110, iv v109, iv v110, .unset, .unset, .unset, .unset, .unset, .unset]) rfl k))))))) ?_
          exact own_rest u1 u2 u3 u4 u5 u6 zcs vsf (v101) (v102) (v103) (v103) (v105) (v106) (v107) (v108) (v109) (v110) (v109) (v110) X0 hx hZ hw hby hml hown hnm hlk hret Z0 e0 N0 (Keep.refl h0 []) hsv hsh S0 hV O0 S_cs (by first | assumption | decide) S_ad S_hi S_lo S_sf r_sf (by first | assumption | decide) (by first | assumption | decide) (own_r3_of hv101) (own_r3_of hv102) (own_r3_of hv103) (own_r3_of hv103) (own_ch_of hv105) (own_ch_of hv106) (own_ch_of hv107) (own_ch_of hv108) (own_ch_of hv109) (own_ch_of hv110) (own_ch_of hv109) (own_ch_of hv110)
    ·
      refine ownW_by (g' := (mkF m 129 #[iv u1, iv u2, iv u3, iv u4, iv u5, iv u6, iv v101, iv v102, iv v103, iv v104, iv v105, iv v106, iv v105, iv v108, iv v109, iv v110, iv v111, iv v112, .unset, .unset, .unset, .unset, .unset, .unset] [(.int (u6 &&& (4 : Int32)))])) (fun t k => XS.ifNo X0.here hx rfl (hb hby at_118) rfl ((if0 _ _).trans (feq hc114).1) (XS.iload X0.here hx rfl (hb hby at_121) rfl (XS.istore X0.here hx rfl (hb hby at_123) rfl (l' := #[iv u1, iv u2, iv u3, iv u4, iv u5, iv u6, iv v101, iv v102, iv v103, iv v104, iv v105, iv v106, iv v105, iv v108, iv v109, iv v110, iv v111, iv v112, .unset, .unset, .unset, .unset, .unset, .unset]) rfl (XS.iload X0.here hx rfl (hb hby at_125) rfl (XS.iconst X0.here hx rfl (hb hby at_127) (XS.iand X0.here hx rfl (hb hby at_128) rfl k)))))) ?_
      by_cases hc118 : (u6 &&& (4 : Int32)) = (0 : Int32)
      ·
        refine ownW_by (g' := (mkF m 141 #[iv u1, iv u2, iv u3, iv u4, iv u5, iv u6, iv v101, iv v102, iv v103, iv v104, iv v105, iv v106, iv v105, iv v108, iv v109, iv v110, iv v111, iv v112, .unset, .unset, .unset, .unset, .unset, .unset] [(.int (u6 &&& (8 : Int32)))])) (fun t k => XS.ifYes X0.here hx rfl (pc0 := 129) (pc' := 136) rfl (hb hby at_129) rfl ((if0 _ _).trans (teq hc118).1) (by decide) (by decide) (XS.iload X0.here hx rfl (hb hby at_136) rfl (XS.bipush X0.here hx rfl (hb hby at_138) (XS.iand X0.here hx rfl (hb hby at_140) rfl k)))) ?_
        by_cases hc119 : (u6 &&& (8 : Int32)) = (0 : Int32)
        ·
          refine ownW_by (g' := (mkF m 156 #[iv u1, iv u2, iv u3, iv u4, iv u5, iv u6, iv v101, iv v102, iv v103, iv v104, iv v105, iv v106, iv v105, iv v108, iv v109, iv v110, iv v111, iv v112, .unset, .unset, .unset, .unset, .unset, .unset] [])) (fun t k => XS.ifYes X0.here hx rfl (pc0 := 141) (pc' := 156) rfl (hb hby at_141) rfl ((if0 _ _).trans (teq hc119).1) (by decide) (by decide) k) ?_
          exact own_rest u1 u2 u3 u4 u5 u6 zcs vsf (v101) (v102) (v103) (v104) (v105) (v106) (v105) (v108) (v109) (v110) (v111) (v112) X0 hx hZ hw hby hml hown hnm hlk hret Z0 e0 N0 (Keep.refl h0 []) hsv hsh S0 hV O0 S_cs (by first | assumption | decide) S_ad S_hi S_lo S_sf r_sf (by first | assumption | decide) (by first | assumption | decide) (own_r3_of hv101) (own_r3_of hv102) (own_r3_of hv103) (own_r3_of hv104) (own_ch_of hv105) (own_ch_of hv106) (own_ch_of hv105) (own_ch_of hv108) (own_ch_of hv109) (own_ch_of hv110) (own_ch_of hv111) (own_ch_of hv112)
        ·
          refine ownW_by (g' := (mkF m 156 #[iv u1, iv u2, iv u3, iv u4, iv u5, iv u6, iv v101, iv v102, iv v103, iv v103, iv v105, iv v106, iv v105, iv v108, iv v109, iv v110, iv v109, iv v110, .unset, .unset, .unset, .unset, .unset, .unset] [])) (fun t k => XS.ifNo X0.here hx rfl (hb hby at_141) rfl ((if0 _ _).trans (feq hc119).1) (XS.iload X0.here hx rfl (hb hby at_144) rfl (XS.istore X0.here hx rfl (hb hby at_146) rfl (l' := #[iv u1, iv u2, iv u3, iv u4, iv u5, iv u6, iv v101, iv v102, iv v103, iv v104, iv v105, iv v106, iv v105, iv v108, iv v109, iv v110, iv v109, iv v112, .unset, .unset, .unset, .unset, .unset, .unset]) rfl (XS.iload X0.here hx rfl (hb hby at_148) rfl (XS.istore X0.here hx rfl (hb hby at_150) rfl (l' := #[iv u1, iv u2, iv u3, iv u4, iv u5, iv u6, iv v101, iv v102, iv v103, iv v104, iv v105, iv v106, iv v105, iv v108, iv v109, iv v110, iv v109, iv v110, .unset, .unset, .unset, .unset, .unset, .unset]) rfl (XS.iload X0.here hx rfl (hb hby at_152) rfl (XS.istore X0.here hx rfl (hb hby at_154) rfl (l' := #[iv u1, iv u2, iv u3, iv u4, iv u5, iv u6, iv v101, iv v102, iv v103, iv v103, iv v105, iv v106, iv v105, iv v108, iv v109, iv v110, iv v109, iv v110, .unset, .unset, .unset, .unset, .unset, .unset]) rfl k))))))) ?_
          exact own_rest u1 u2 u3 u4 u5 u6 zcs vsf (v101) (v102) (v103) (v103) (v105) (v106) (v105) (v108) (v109) (v110) (v109) (v110) X0 hx hZ hw hby hml hown hnm hlk hret Z0 e0 N0 (Keep.refl h0 []) hsv hsh S0 hV O0 S_cs (by first | assumption | decide) S_ad S_hi S_lo S_sf r_sf (by first | assumption | decide) (by first | assumption | decide) (own_r3_of hv101) (own_r3_of hv102) (own_r3_of hv103) (own_r3_of hv103) (own_ch_of hv105) (own_ch_of hv106) (own_ch_of hv105) (own_ch_of hv108) (own_ch_of hv109) (own_ch_of hv110) (own_ch_of hv109) (own_ch_of hv110)
      ·
        refine ownW_by (g' := (mkF m 141 #[iv u1, iv u2, iv u3, iv u4, iv u5, iv u6, iv v101, iv v102, iv v103, iv v104, iv v105, iv v106, iv v105, iv v108, iv v109, iv v110, iv v109, iv v112, .unset, .unset, .unset, .unset, .unset, .unset] [(.int (u6 &&& (8 : Int32)))])) (fun t k => XS.ifNo X0.here hx rfl (hb hby at_129) rfl ((if0 _ _).trans (feq hc118).1) (XS.iload X0.here hx rfl (hb hby at_132) rfl (XS.istore X0.here hx rfl (hb hby at_134) rfl (l' := #[iv u1, iv u2, iv u3, iv u4, iv u5, iv u6, iv v101, iv v102, iv v103, iv v104, iv v105, iv v106, iv v105, iv v108, iv v109, iv v110, iv v109, iv v112, .unset, .unset, .unset, .unset, .unset, .unset]) rfl (XS.iload X0.here hx rfl (hb hby at_136) rfl (XS.bipush X0.here hx rfl (hb hby at_138) (XS.iand X0.here hx rfl (hb hby at_140) rfl k)))))) ?_
        by_cases hc120 : (u6 &&& (8 : Int32)) = (0 : Int32)
        ·
          refine ownW_by (g' := (mkF m 156 #[iv u1, iv u2, iv u3, iv u4, iv u5, iv u6, iv v101, iv v102, iv v103, iv v104, iv v105, iv v106, iv v105, iv v108, iv v109, iv v110, iv v109, iv v112, .unset, .unset, .unset, .unset, .unset, .unset] [])) (fun t k => XS.ifYes X0.here hx rfl (pc0 := 141) (pc' := 156) rfl (hb hby at_141) rfl ((if0 _ _).trans (teq hc120).1) (by decide) (by decide) k) ?_
          exact own_rest u1 u2 u3 u4 u5 u6 zcs vsf (v101) (v102) (v103) (v104) (v105) (v106) (v105) (v108) (v109) (v110) (v109) (v112) X0 hx hZ hw hby hml hown hnm hlk hret Z0 e0 N0 (Keep.refl h0 []) hsv hsh S0 hV O0 S_cs (by first | assumption | decide) S_ad S_hi S_lo S_sf r_sf (by first | assumption | decide) (by first | assumption | decide) (own_r3_of hv101) (own_r3_of hv102) (own_r3_of hv103) (own_r3_of hv104) (own_ch_of hv105) (own_ch_of hv106) (own_ch_of hv105) (own_ch_of hv108) (own_ch_of hv109) (own_ch_of hv110) (own_ch_of hv109) (own_ch_of hv112)
        ·
          refine ownW_by (g' := (mkF m 156 #[iv u1, iv u2, iv u3, iv u4, iv u5, iv u6, iv v101, iv v102, iv v103, iv v103, iv v105, iv v106, iv v105, iv v108, iv v109, iv v110, iv v109, iv v110, .unset, .unset, .unset, .unset, .unset, .unset] [])) (fun t k => XS.ifNo X0.here hx rfl (hb hby at_141) rfl ((if0 _ _).trans (feq hc120).1) (XS.iload X0.here hx rfl (hb hby at_144) rfl (XS.istore X0.here hx rfl (hb hby at_146) rfl (l' := #[iv u1, iv u2, iv u3, iv u4, iv u5, iv u6, iv v101, iv v102, iv v103, iv v104, iv v105, iv v106, iv v105, iv v108, iv v109, iv v110, iv v109, iv v112, .unset, .unset, .unset, .unset, .unset, .unset]) rfl (XS.iload X0.here hx rfl (hb hby at_148) rfl (XS.istore X0.here hx rfl (hb hby at_150) rfl (l' := #[iv u1, iv u2, iv u3, iv u4, iv u5, iv u6, iv v101, iv v102, iv v103, iv v104, iv v105, iv v106, iv v105, iv v108, iv v109, iv v110, iv v109, iv v110, .unset, .unset, .unset, .unset, .unset, .unset]) rfl (XS.iload X0.here hx rfl (hb hby at_152) rfl (XS.istore X0.here hx rfl (hb hby at_154) rfl (l' := #[iv u1, iv u2, iv u3, iv u4, iv u5, iv u6, iv v101, iv v102, iv v103, iv v103, iv v105, iv v106, iv v105, iv v108, iv v109, iv v110, iv v109, iv v110, .unset, .unset, .unset, .unset, .unset, .unset]) rfl k))))))) ?_
          exact own_rest u1 u2 u3 u4 u5 u6 zcs vsf (v101) (v102) (v103) (v103) (v105) (v106) (v105) (v108) (v109) (v110) (v109) (v110) X0 hx hZ hw hby hml hown hnm hlk hret Z0 e0 N0 (Keep.refl h0 []) hsv hsh S0 hV O0 S_cs (by first | assumption | decide) S_ad S_hi S_lo S_sf r_sf (by first | assumption | decide) (by first | assumption | decide) (own_r3_of hv101) (own_r3_of hv102) (own_r3_of hv103) (own_r3_of hv103) (own_ch_of hv105) (own_ch_of hv106) (own_ch_of hv105) (own_ch_of hv108) (own_ch_of hv109) (own_ch_of hv110) (own_ch_of hv109) (own_ch_of hv110)
  ·
    refine ownW_by (g' := (mkF m 116 #[iv u1, iv u2, iv u3, iv u4, iv u5, iv u6, iv v101, iv v101, iv v103, iv v104, iv v105, iv v106, iv v105, iv v106, iv v109, iv v110, iv v111, iv v112, .unset, .unset, .unset, .unset, .unset, .unset] [(.int u6)])) (fun t k => XS.ifNo X0.here hx rfl (hb hby at_99) rfl ((if0 _ _).trans (feq hc113).1) (XS.iload X0.here hx rfl (hb hby at_102) rfl (XS.istore X0.here hx rfl (hb hby at_104) rfl (l' := #[iv u1, iv u2, iv u3, iv u4, iv u5, iv u6, iv v101, iv v102, iv v103, iv v104, iv v105, iv v106, iv v105, iv v108, iv v109, iv v110, iv v111, iv v112, .unset, .unset, .unset, .unset, .unset, .unset]) rfl (XS.iload X0.here hx rfl (hb hby at_106) rfl (XS.istore X0.here hx rfl (hb hby at_108) rfl (l' := #[iv u1, iv u2, iv u3, iv u4, iv u5, iv u6, iv v101, iv v102, iv v103, iv v104, iv v105, iv v106, iv v105, iv v106, iv v109, iv v110, iv v111, iv v112, .unset, .unset, .unset, .unset, .unset, .unset]) rfl (XS.iload X0.here hx rfl (hb hby at_110) rfl (XS.istore X0.here hx rfl (hb hby at_112) rfl (l' := #[iv u1, iv u2, iv u3, iv u4, iv u5, iv u6, iv v101, iv v101, iv v103, iv v104, iv v105, iv v106, iv v105, iv v106, iv v109, iv v110, iv v111, iv v112, .unset, .unset, .unset, .unset, .unset, .unset]) rfl (XS.iload X0.here hx rfl (hb hby at_114) rfl k)))))))) ?_
    refine ownW_by (g' := (mkF m 118 #[iv u1, iv u2, iv u3, iv u4, iv u5, iv u6, iv v101, iv v101, iv v103, iv v104, iv v105, iv v106, iv v105, iv v106, iv v109, iv v110, iv v111, iv v112, .unset, .unset, .unset, .unset, .unset, .unset] [(.int (u6 &&& (2 : Int32)))])) (fun t k => XS.iconst X0.here hx rfl (hb hby at_116) (XS.iand X0.here hx rfl (hb hby at_117) rfl k)) ?_
    by_cases hc121 : (u6 &&& (2 : Int32)) = (0 : Int32)
    ·
      refine ownW_by (g' := (mkF m 129 #[iv u1, iv u2, iv u3, iv u4, iv u5, iv u6, iv v101, iv v101, iv v103, iv v104, iv v105, iv v106, iv v105, iv v106, iv v109, iv v110, iv v111, iv v112, .unset, .unset, .unset, .unset, .unset, .unset] [(.int (u6 &&& (4 : Int32)))])) (fun t k => XS.ifYes X0.here hx rfl (pc0 := 118) (pc' := 125) rfl (hb hby at_118) rfl ((if0 _ _).trans (teq hc121).1) (by decide) (by decide) (XS.iload X0.here hx rfl (hb hby at_125) rfl (XS.iconst X0.here hx rfl (hb hby at_127) (XS.iand X0.here hx rfl (hb hby at_128) rfl k)))) ?_
      by_cases hc122 : (u6 &&& (4 : Int32)) = (0 : Int32)
      ·
        refine ownW_by (g' := (mkF m 141 #[iv u1, iv u2, iv u3, iv u4, iv u5, iv u6, iv v101, iv v101, iv v103, iv v104, iv v105, iv v106, iv v105, iv v106, iv v109, iv v110, iv v111, iv v112, .unset, .unset, .unset, .unset, .unset, .unset] [(.int (u6 &&& (8 : Int32)))])) (fun t k => XS.ifYes X0.here hx rfl (pc0 := 129) (pc' := 136) rfl (hb hby at_129) rfl ((if0 _ _).trans (teq hc122).1) (by decide) (by decide) (XS.iload X0.here hx rfl (hb hby at_136) rfl (XS.bipush X0.here hx rfl (hb hby at_138) (XS.iand X0.here hx rfl (hb hby at_140) rfl k)))) ?_
        by_cases hc123 : (u6 &&& (8 : Int32)) = (0 : Int32)
        ·
          refine ownW_by (g' := (mkF m 156 #[iv u1, iv u2, iv u3, iv u4, iv u5, iv u6, iv v101, iv v101, iv v103, iv v104, iv v105, iv v106, iv v105, iv v106, iv v109, iv v110, iv v111, iv v112, .unset, .unset, .unset, .unset, .unset, .unset] [])) (fun t k => XS.ifYes X0.here hx rfl (pc0 := 141) (pc' := 156) rfl (hb hby at_141) rfl ((if0 _ _).trans (teq hc123).1) (by decide) (by decide) k) ?_
          exact own_rest u1 u2 u3 u4 u5 u6 zcs vsf (v101) (v101) (v103) (v104) (v105) (v106) (v105) (v106) (v109) (v110) (v111) (v112) X0 hx hZ hw hby hml hown hnm hlk hret Z0 e0 N0 (Keep.refl h0 []) hsv hsh S0 hV O0 S_cs (by first | assumption | decide) S_ad S_hi S_lo S_sf r_sf (by first | assumption | decide) (by first | assumption | decide) (own_r3_of hv101) (own_r3_of hv101) (own_r3_of hv103) (own_r3_of hv104) (own_ch_of hv105) (own_ch_of hv106) (own_ch_of hv105) (own_ch_of hv106) (own_ch_of hv109) (own_ch_of hv110) (own_ch_of hv111) (own_ch_of hv112)
        ·
          refine ownW_by (g' := (mkF m 156 #[iv u1, iv u2, iv u3, iv u4, iv u5, iv u6, iv v101, iv v101, iv v103, iv v103, iv v105, iv v106, iv v105, iv v106, iv v109, iv v110, iv v109, iv v110, .unset, .unset, .unset, .unset, .unset, .unset] [])) (fun t k => XS.ifNo X0.here hx rfl (hb hby at_141) rfl ((if0 _ _).trans (feq hc123).1) (XS.iload X0.here hx rfl (hb hby at_144) rfl (XS.istore X0.here hx rfl (hb hby at_146) rfl (l' := #[iv u1, iv u2, iv u3, iv u4, iv u5, iv u6, iv v101, iv v101, iv v103, iv v104, iv v105, iv v106, iv v105, iv v106, iv v109, iv v110, iv v109, iv v112, .unset, .unset, .unset, .unset, .unset, .unset]) rfl (XS.iload X0.here hx rfl (hb hby at_148) rfl (XS.istore X0.here hx rfl (hb hby at_150) rfl (l' := #[iv u1, iv u2, iv u3, iv u4, iv u5, iv u6, iv v101, iv v101, iv v103, iv v104, iv v105, iv v106, iv v105, iv v106, iv v109, iv v110, iv v109, iv v110, .unset, .unset, .unset, .unset, .unset, .unset]) rfl (XS.iload X0.here hx rfl (hb hby at_152) rfl (XS.istore X0.here hx rfl (hb hby at_154) rfl (l' := #[iv u1, iv u2, iv u3, iv u4, iv u5, iv u6, iv v101, iv v101, iv v103, iv v103, iv v105, iv v106, iv v105, iv v106, iv v109, iv v110, iv v109, iv v110, .unset, .unset, .unset, .unset, .unset, .unset]) rfl k))))))) ?_
          exact own_rest u1 u2 u3 u4 u5 u6 zcs vsf (v101) (v101) (v103) (v103) (v105) (v106) (v105) (v106) (v109) (v110) (v109) (v110) X0 hx hZ hw hby hml hown hnm hlk hret Z0 e0 N0 (Keep.refl h0 []) hsv hsh S0 hV O0 S_cs (by first | assumption | decide) S_ad S_hi S_lo S_sf r_sf (by first | assumption | decide) (by first | assumption | decide) (own_r3_of hv101) (own_r3_of hv101) (own_r3_of hv103) (own_r3_of hv103) (own_ch_of hv105) (own_ch_of hv106) (own_ch_of hv105) (own_ch_of hv106) (own_ch_of hv109) (own_ch_of hv110) (own_ch_of hv109) (own_ch_of hv110)
      ·
        refine ownW_by (g' := (mkF m 141 #[iv u1, iv u2, iv u3, iv u4, iv u5, iv u6, iv v101, iv v101, iv v103, iv v104, iv v105, iv v106, iv v105, iv v106, iv v109, iv v110, iv v109, iv v112, .unset, .unset, .unset, .unset, .unset, .unset] [(.int (u6 &&& (8 : Int32)))])) (fun t k => XS.ifNo X0.here hx rfl (hb hby at_129) rfl ((if0 _ _).trans (feq hc122).1) (XS.iload X0.here hx rfl (hb hby at_132) rfl (XS.istore X0.here hx rfl (hb hby at_134) rfl (l' := #[iv u1, iv u2, iv u3, iv u4, iv u5, iv u6, iv v101, iv v101, iv v103, iv v104, iv v105, iv v106, iv v105, iv v106, iv v109, iv v110, iv v109, iv v112, .unset, .unset, .unset, .unset, .unset, .unset]) rfl (XS.iload X0.here hx rfl (hb hby at_136) rfl (XS.bipush X0.here hx rfl (hb hby at_138) (XS.iand X0.here hx rfl (hb hby at_140) rfl k)))))) ?_
        by_cases hc124 : (u6 &&& (8 : Int32)) = (0 : Int32)
        ·
          refine ownW_by (g' := (mkF m 156 #[iv u1, iv u2, iv u3, iv u4, iv u5, iv u6, iv v101, iv v101, iv v103, iv v104, iv v105, iv v106, iv v105, iv v106, iv v109, iv v110, iv v109, iv v112, .unset, .unset, .unset, .unset, .unset, .unset] [])) (fun t k => XS.ifYes X0.here hx rfl (pc0 := 141) (pc' := 156) rfl (hb hby at_141) rfl ((if0 _ _).trans (teq hc124).1) (by decide) (by decide) k) ?_
          exact own_rest u1 u2 u3 u4 u5 u6 zcs vsf (v101) (v101) (v103) (v104) (v105) (v106) (v105) (v106) (v109) (v110) (v109) (v112) X0 hx hZ hw hby hml hown hnm hlk hret Z0 e0 N0 (Keep.refl h0 []) hsv hsh S0 hV O0 S_cs (by first | assumption | decide) S_ad S_hi S_lo S_sf r_sf (by first | assumption | decide) (by first | assumption | decide) (own_r3_of hv101) (own_r3_of hv101) (own_r3_of hv103) (own_r3_of hv104) (own_ch_of hv105) (own_ch_of hv106) (own_ch_of hv105) (own_ch_of hv106) (own_ch_of hv109) (own_ch_of hv110) (own_ch_of hv109) (own_ch_of hv112)
        ·
          refine ownW_by (g' := (mkF m 156 #[iv u1, iv u2, iv u3, iv u4, iv u5, iv u6, iv v101, iv v101, iv v103, iv v103, iv v105, iv v106, iv v105, iv v106, iv v109, iv v110, iv v109, iv v110, .unset, .unset, .unset, .unset, .unset, .unset] [])) (fun t k => XS.ifNo X0.here hx rfl (hb hby at_141) rfl ((if0 _ _).trans (feq hc124).1) (XS.iload X0.here hx rfl (hb hby at_144) rfl (XS.istore X0.here hx rfl (hb hby at_146) rfl (l' := #[iv u1, iv u2, iv u3, iv u4, iv u5, iv u6, iv v101, iv v101, iv v103, iv v104, iv v105, iv v106, iv v105, iv v106, iv v109, iv v110, iv v109, iv v112, .unset, .unset, .unset, .unset, .unset, .unset]) rfl (XS.iload X0.here hx rfl (hb hby at_148) rfl (XS.istore X0.here hx rfl (hb hby at_150) rfl (l' := #[iv u1, iv u2, iv u3, iv u4, iv u5, iv u6, iv v101, iv v101, iv v103, iv v104, iv v105, iv v106, iv v105, iv v106, iv v109, iv v110, iv v109, iv v110, .unset, .unset, .unset, .unset, .unset, .unset]) rfl (XS.iload X0.here hx rfl (hb hby at_152) rfl (XS.istore X0.here hx rfl (hb hby at_154) rfl (l' := #[iv u1, iv u2, iv u3, iv u4, iv u5, iv u6, iv v101, iv v101, iv v103, iv v103, iv v105, iv v106, iv v105, iv v106, iv v109, iv v110, iv v109, iv v110, .unset, .unset, .unset, .unset, .unset, .unset]) rfl k))))))) ?_
          exact own_rest u1 u2 u3 u4 u5 u6 zcs vsf (v101) (v101) (v103) (v103) (v105) (v106) (v105) (v106) (v109) (v110) (v109) (v110) X0 hx hZ hw hby hml hown hnm hlk hret Z0 e0 N0 (Keep.refl h0 []) hsv hsh S0 hV O0 S_cs (by first | assumption | decide) S_ad S_hi S_lo S_sf r_sf (by first | assumption | decide) (by first | assumption | decide) (own_r3_of hv101) (own_r3_of hv101) (own_r3_of hv103) (own_r3_of hv103) (own_ch_of hv105) (own_ch_of hv106) (own_ch_of hv105) (own_ch_of hv106) (own_ch_of hv109) (own_ch_of hv110) (own_ch_of hv109) (own_ch_of hv110)
    ·
      refine ownW_by (g' := (mkF m 129 #[iv u1, iv u2, iv u3, iv u4, iv u5, iv u6, iv v101, iv v101, iv v103, iv v104, iv v105, iv v106, iv v105, iv v106, iv v109, iv v110, iv v111, iv v112, .unset, .unset, .unset, .unset, .unset, .unset] [(.int (u6 &&& (4 : Int32)))])) (fun t k => XS.ifNo X0.here hx rfl (hb hby at_118) rfl ((if0 _ _).trans (feq hc121).1) (XS.iload X0.here hx rfl (hb hby at_121) rfl (XS.istore X0.here hx rfl (hb hby at_123) rfl (l' := #[iv u1, iv u2, iv u3, iv u4, iv u5, iv u6, iv v101, iv v101, iv v103, iv v104, iv v105, iv v106, iv v105, iv v106, iv v109, iv v110, iv v111, iv v112, .unset, .unset, .unset, .unset, .unset, .unset]) rfl (XS.iload X0.here hx rfl (hb hby at_125) rfl (XS.iconst X0.here hx rfl (hb hby at_127) (XS.iand X0.here hx rfl (hb hby at_128) rfl k)))))) ?_
      by_cases hc125 : (u6 &&& (4 : Int32)) = (0 : Int32)
      ·
        refine ownW_by (g' := (mkF m 141 #[iv u1, iv u2, iv u3, iv u4, iv u5, iv u6, iv v101, iv v101, iv v103, iv v104, iv v105, iv v106, iv v105, iv v106, iv v109, iv v110, iv v111, iv v112, .unset, .unset, .unset, .unset, .unset, .unset] [(.int (u6 &&& (8 : Int32)))])) (fun t k => XS.ifYes X0.here hx rfl (pc0 := 129) (pc' := 136) rfl (hb hby at_129) rfl ((if0 _ _).trans (teq hc125).1) (by decide) (by decide) (XS.iload X0.here hx rfl (hb hby at_136) rfl (XS.bipush X0.here hx rfl (hb hby at_138) (XS.iand X0.here hx rfl (hb hby at_140) rfl k)))) ?_
        by_cases hc126 : (u6 &&& (8 : Int32)) = (0 : Int32)
        ·
          refine ownW_by (g' := (mkF m 156 #[iv u1, iv u2, iv u3, iv u4, iv u5, iv u6, iv v101, iv v101, iv v103, iv v104, iv v105, iv v106, iv v105, iv v106, iv v109, iv v110, iv v111, iv v112, .unset, .unset, .unset, .unset, .unset, .unset] [])) (fun t k => XS.ifYes X0.here hx rfl (pc0 := 141) (pc' := 156) rfl (hb hby at_141) rfl ((if0 _ _).trans (teq hc126).1) (by decide) (by decide) k) ?_
          exact own_rest u1 u2 u3 u4 u5 u6 zcs vsf (v101) (v101) (v103) (v104) (v105) (v106) (v105) (v106) (v109) (v110) (v111) (v112) X0 hx hZ hw hby hml hown hnm hlk hret Z0 e0 N0 (Keep.refl h0 []) hsv hsh S0 hV O0 S_cs (by first | assumption | decide) S_ad S_hi S_lo S_sf r_sf (by first | assumption | decide) (by first | assumption | decide) (own_r3_of hv101) (own_r3_of hv101) (own_r3_of hv103) (own_r3_of hv104) (own_ch_of hv105) (own_ch_of hv106) (own_ch_of hv105) (own_ch_of hv106) (own_ch_of hv109) (own_ch_of hv110) (own_ch_of hv111) (own_ch_of hv112)
        ·
          refine ownW_by (g' := (mkF m 156 #[iv u1, iv u2, iv u3, iv u4, iv u5, iv u6, iv v101, iv v101, iv v103, iv v103, iv v105, iv v106, iv v105, iv v106, iv v109, iv v110, iv v109, iv v110, .unset, .unset, .unset, .unset, .unset, .unset] [])) (fun t k => XS.ifNo X0.here hx rfl (hb hby at_141) rfl ((if0 _ _).trans (feq hc126).1) (XS.iload X0.here hx rfl (hb hby at_144) rfl (XS.istore X0.here hx rfl (hb hby at_146) rfl (l' := #[iv u1, iv u2, iv u3, iv u4, iv u5, iv u6, iv v101, iv v101, iv v103, iv v104, iv v105, iv v106, iv v105, iv v106, iv v109, iv v110, iv v109, iv v112, .unset, .unset, .unset, .unset, .unset, .unset]) rfl (XS.iload X0.here hx rfl (hb hby at_148) rfl (XS.istore X0.here hx rfl (hb hby at_150) rfl (l' := #[iv u1, iv u2, iv u3, iv u4, iv u5, iv u6, iv v101, iv v101, iv v103, iv v104, iv v105, iv v106, iv v105, iv v106, iv v109, iv v110, iv v109, iv v110, .unset, .unset, .unset, .unset, .unset, .unset]) rfl (XS.iload X0.here hx rfl (hb hby at_152) rfl (XS.istore X0.here hx rfl (hb hby at_154) rfl (l' := #[iv u1, iv u2, iv u3, iv u4, iv u5, iv u6, iv v101, iv v101, iv v103, iv v103, iv v105, iv v106, iv v105, iv v106, iv v109, iv v110, iv v109, iv v110, .unset, .unset, .unset, .unset, .unset, .unset]) rfl k))))))) ?_
          exact own_rest u1 u2 u3 u4 u5 u6 zcs vsf (v101) (v101) (v103) (v103) (v105) (v106) (v105) (v106) (v109) (v110) (v109) (v110) X0 hx hZ hw hby hml hown hnm hlk hret Z0 e0 N0 (Keep.refl h0 []) hsv hsh S0 hV O0 S_cs (by first | assumption | decide) S_ad S_hi S_lo S_sf r_sf (by first | assumption | decide) (by first | assumption | decide) (own_r3_of hv101) (own_r3_of hv101) (own_r3_of hv103) (own_r3_of hv103) (own_ch_of hv105) (own_ch_of hv106) (own_ch_of hv105) (own_ch_of hv106) (own_ch_of hv109) (own_ch_of hv110) (own_ch_of hv109) (own_ch_of hv110)
      ·
        refine ownW_by (g' := (mkF m 141 #[iv u1, iv u2, iv u3, iv u4, iv u5, iv u6, iv v101, iv v101, iv v103, iv v104, iv v105, iv v106, iv v105, iv v106, iv v109, iv v110, iv v109, iv v112, .unset, .unset, .unset, .unset, .unset, .unset] [(.int (u6 &&& (8 : Int32)))])) (fun t k => XS.ifNo X0.here hx rfl (hb hby at_129) rfl ((if0 _ _).trans (feq hc125).1) (XS.iload X0.here hx rfl (hb hby at_132) rfl (XS.istore X0.here hx rfl (hb hby at_134) rfl (l' := #[iv u1, iv u2, iv u3, iv u4, iv u5, iv u6, iv v101, iv v101, iv v103, iv v104, iv v105, iv v106, iv v105, iv v106, iv v109, iv v110, iv v109, iv v112, .unset, .unset, .unset, .unset, .unset, .unset]) rfl (XS.iload X0.here hx rfl (hb hby at_136) rfl (XS.bipush X0.here hx rfl (hb hby at_138) (XS.iand X0.here hx rfl (hb hby at_140) rfl k)))))) ?_
        by_cases hc127 : (u6 &&& (8 : Int32)) = (0 : Int32)
        ·
          refine ownW_by (g' := (mkF m 156 #[iv u1, iv u2, iv u3, iv u4, iv u5, iv u6, iv v101, iv v101, iv v103, iv v104, iv v105, iv v106, iv v105, iv v106, iv v109, iv v110, iv v109, iv v112, .unset, .unset, .unset, .unset, .unset, .unset] [])) (fun t k => XS.ifYes X0.here hx rfl (pc0 := 141) (pc' := 156) rfl (hb hby at_141) rfl ((if0 _ _).trans (teq hc127).1) (by decide) (by decide) k) ?_
          exact own_rest u1 u2 u3 u4 u5 u6 zcs vsf (v101) (v101) (v103) (v104) (v105) (v106) (v105) (v106) (v109) (v110) (v109) (v112) X0 hx hZ hw hby hml hown hnm hlk hret Z0 e0 N0 (Keep.refl h0 []) hsv hsh S0 hV O0 S_cs (by first | assumption | decide) S_ad S_hi S_lo S_sf r_sf (by first | assumption | decide) (by first | assumption | decide) (own_r3_of hv101) (own_r3_of hv101) (own_r3_of hv103) (own_r3_of hv104) (own_ch_of hv105) (own_ch_of hv106) (own_ch_of hv105) (own_ch_of hv106) (own_ch_of hv109) (own_ch_of hv110) (own_ch_of hv109) (own_ch_of hv112)
        ·
          refine ownW_by (g' := (mkF m 156 #[iv u1, iv u2, iv u3, iv u4, iv u5, iv u6, iv v101, iv v101, iv v103, iv v103, iv v105, iv v106, iv v105, iv v106, iv v109, iv v110, iv v109, iv v110, .unset, .unset, .unset, .unset, .unset, .unset] [])) (fun t k => XS.ifNo X0.here hx rfl (hb hby at_141) rfl ((if0 _ _).trans (feq hc127).1) (XS.iload X0.here hx rfl (hb hby at_144) rfl (XS.istore X0.here hx rfl (hb hby at_146) rfl (l' := #[iv u1, iv u2, iv u3, iv u4, iv u5, iv u6, iv v101, iv v101, iv v103, iv v104, iv v105, iv v106, iv v105, iv v106, iv v109, iv v110, iv v109, iv v112, .unset, .unset, .unset, .unset, .unset, .unset]) rfl (XS.iload X0.here hx rfl (hb hby at_148) rfl (XS.istore X0.here hx rfl (hb hby at_150) rfl (l' := #[iv u1, iv u2, iv u3, iv u4, iv u5, iv u6, iv v101, iv v101, iv v103, iv v104, iv v105, iv v106, iv v105, iv v106, iv v109, iv v110, iv v109, iv v110, .unset, .unset, .unset, .unset, .unset, .unset]) rfl (XS.iload X0.here hx rfl (hb hby at_152) rfl (XS.istore X0.here hx rfl (hb hby at_154) rfl (l' := #[iv u1, iv u2, iv u3, iv u4, iv u5, iv u6, iv v101, iv v101, iv v103, iv v103, iv v105, iv v106, iv v105, iv v106, iv v109, iv v110, iv v109, iv v110, .unset, .unset, .unset, .unset, .unset, .unset]) rfl k))))))) ?_
          exact own_rest u1 u2 u3 u4 u5 u6 zcs vsf (v101) (v101) (v103) (v103) (v105) (v106) (v105) (v106) (v109) (v110) (v109) (v110) X0 hx hZ hw hby hml hown hnm hlk hret Z0 e0 N0 (Keep.refl h0 []) hsv hsh S0 hV O0 S_cs (by first | assumption | decide) S_ad S_hi S_lo S_sf r_sf (by first | assumption | decide) (by first | assumption | decide) (own_r3_of hv101) (own_r3_of hv101) (own_r3_of hv103) (own_r3_of hv103) (own_ch_of hv105) (own_ch_of hv106) (own_ch_of hv105) (own_ch_of hv106) (own_ch_of hv109) (own_ch_of hv110) (own_ch_of hv109) (own_ch_of hv110)
theorem own_cst {args : Array Value} {s : State} {C n d : String} (h1 : (Cond.initializedFor C n d).before args s = true) (h2 : (Cond.isInt (Term.static C n d)).before args s = true) (h3 : (Cond.not (Cond.eq (Term.static C n d) (Term.int (0 : Int32)))).before args s = true) : ∃ z : Int32, Sta s s.heap C n d (.int z) ∧ ¬ z = (0 : Int32) := by
  obtain ⟨z, ev⟩ := is_v (Cond.before_iff.mp h2)
  refine ⟨z, Sta.start ev (Or.inl h1), fun q => ?_⟩
  have h4 := own_eqI (b := Term.int (0 : Int32)) (y := 0) ev rfl
  exact gotF h4 (not_v (Cond.before_iff.mp h3)) q
theorem own_staI {args : Array Value} {s : State} {C n d : String} {z : Int32} (h1 : (Cond.initializedFor C n d).before args s = true) (h2 : (Cond.eq (Term.static C n d) (Term.int z)).before args s = true) : Sta s s.heap C n d (.int z) :=
  Sta.start (Cond.eq_int h2 rfl) (Or.inl h1)
theorem own_staR {args : Array Value} {s : State} {C n d : String} (h1 : (Cond.initializedFor C n d).before args s = true) (h2 : (Cond.isRef (Term.static C n d)).before args s = true) : ∃ v : Value, Sta s s.heap C n d v ∧ v.isRef = true := by
  obtain ⟨v, ev, hr⟩ := Cond.isRef_spec h2
  exact ⟨v, Sta.start ev (Or.inl h1), hr⟩
set_option maxRecDepth 65536 in
set_option maxHeartbeats 40000000 in
theorem comes_1 {Post : Tables → Env → Array Value → State → Outcome → State → Prop} (hpost : ∀ tb e args s v u, (limb_1_1.after args s (.returned v) u = true ∧ limb_1_2.after args s (.returned v) u = true ∧ True) → ReturnedEndW s (.returned v) u (Jvm.fieldLocs frame_1_writes args s ++ Jvm.arrayLocs frame_1_arrays args s ++ Jvm.staticLocs frame_1_statics s) 48 1216 → Post tb e args s (.returned v) u) :
    ArmFor flags0 classFile x code maxLocals ret World_1 tables_1 room_1 Calls_1 rest_1 Pre_1 Post := by
  intro l hfl _ _ p e ha hc hk s m args below hf hA hF happ hP
  obtain ⟨hcalls, hrest, hpre⟩ := hP
  obtain ⟨-, -, -, hnamed, -, -, -, hat⟩ := (Spec.applies_iff hf).mp happ
  obtain ⟨hg, hn⟩ := and_e (Cond.before_iff.mp (show (Jvm.Cond.and given_1 narrow_1).before args s = true from hpre))
  obtain ⟨ga1, gb1⟩ := and_e hg
  obtain ⟨ga2, gb2⟩ := and_e gb1
  obtain ⟨ga3, gb3⟩ := and_e gb2
  obtain ⟨ga4, gb4⟩ := and_e gb3
  obtain ⟨ga5, gb5⟩ := and_e gb4
  obtain ⟨ga6, gb6⟩ := and_e gb5
  obtain ⟨w0, w1, w2, w3, w4, w5, rfl⟩ : ∃ w0 w1 w2 w3 w4 w5 : Value, args = #[w0, w1, w2, w3, w4, w5] := by
    have hs : args.size = 6 := by simpa [Cond.value, given_1] using ga1
    obtain ⟨L⟩ := args
    match L, hs with
    | [w0, w1, w2, w3, w4, w5], _ => exact ⟨w0, w1, w2, w3, w4, w5, rfl⟩
  have hw := fun d (hd : d ∈ tables_1) => atoms_spec (ws := Jvm.Cond.code x code maxLocals ret :: tables_1) hat d (List.mem_cons_of_mem _ hd)
  have hfit : Fit s := fun {y c} hc i hi => by
    obtain ⟨ha, rfl⟩ := Array.getElem?_eq_some_iff.mp hc
    have q := List.all_eq_true.mp ((Array.all_eq_true_iff_forall_mem.mp hF) _ (Array.getElem_mem ha)) i (List.mem_range.mpr hi)
    simpa [Array.getElem?_eq_getElem hi] using q
  obtain ⟨hsets, hown0⟩ := atoms_of _ (rest_1_c_eq ▸ (show rest_1_c.before _ s = true from hrest))
  have hr0 := Cond.before_iff.mp hown0
  obtain ⟨i0, ei0⟩ := is_v ga2
  obtain rfl : w0 = (.int i0) := Option.some.inj ei0
  obtain ⟨i1, ei1⟩ := is_v ga3
  obtain rfl : w1 = (.int i1) := Option.some.inj ei1
  obtain ⟨i2, ei2⟩ := is_v ga4
  obtain rfl : w2 = (.int i2) := Option.some.inj ei2
  obtain ⟨i3, ei3⟩ := is_v ga5
  obtain rfl : w3 = (.int i3) := Option.some.inj ei3
  obtain ⟨i4, ei4⟩ := is_v ga6
  obtain rfl : w4 = (.int i4) := Option.some.inj ei4
  obtain ⟨i5, ei5⟩ := is_v gb6
  obtain rfl : w5 = (.int i5) := Option.some.inj ei5
  obtain ⟨zcs, Scs, hcs0⟩ := own_cst (hsets _ (List.mem_of_getElem? (i := 0) rfl)) (hsets _ (List.mem_of_getElem? (i := 1) rfl)) (hsets _ (List.mem_of_getElem? (i := 2) rfl))
  obtain ⟨vsf, Ssf, rsf⟩ := own_staR (hsets _ (List.mem_of_getElem? (i := 7) rfl)) (hsets _ (List.mem_of_getElem? (i := 8) rfl))
  obtain ⟨n, o, h1, h2, h3, _, L, rfl, ⟨rfl, N, -⟩, hq⟩ := own_law l s _ hw tables_1 i0 i1 i2 i3 i4 i5 (zcs) (vsf) s.heap s.heap.size (Nat.le_refl _) (Old.start s) Scs hcs0 (own_staI (hsets _ (List.mem_of_getElem? (i := 11) rfl)) (hsets _ (List.mem_of_getElem? (i := 12) rfl))) (own_staI (hsets _ (List.mem_of_getElem? (i := 14) rfl)) (hsets _ (List.mem_of_getElem? (i := 15) rfl))) (own_staI (hsets _ (List.mem_of_getElem? (i := 17) rfl)) (hsets _ (List.mem_of_getElem? (i := 18) rfl))) Ssf rsf (hsets _ (List.mem_of_getElem? (i := 2) rfl)) (hcalls.1 ("java/lang/String", 7) (by simp [consts_1])) p e ha hc hk s m _ below hf ((Spec.applies_iff_loose hf).mp happ).1 ⟨rfl, State.Warmed39.refl s, rfl, (Or.inl IB.start)⟩ trivial
  exact ⟨n, _, h1, h2, h3, hpost _ _ _ _ _ _ ⟨Cond.after_iff.mpr rfl, Cond.after_iff.mpr (eq_i res_at (Term.int_eval (1)) rfl), trivial⟩ ⟨hq.1, hq.2.1, hq.2.2.1, (hq.2.2.2.sift fun y hy => Or.inr (N y hy)).mono (by decide) (by decide)⟩⟩
theorem main_1_1 : Claimed_1_1 := comes_1 fun _ _ _ _ _ _ h hF => ⟨h.1, hF⟩
theorem main_1_2 : Claimed_1_2 := comes_1 fun _ _ _ _ _ _ h hF => ⟨h.2.1, hF⟩
end Jvm.Pilot.@@N@@
namespace Jvm.Pilot.@@N@@
open Jvm Jvm.ClassFile Sem Op Lib Jvm.Free Jvm.Stand Jvm.Pilot.@@N@@.Jvm.D
/-! MADE BY PROGRAM (witnessworld.py) out of the Statement's table words and the real class files: 23 classes; the members and pool entries that the words name. The judged class is class 1, her method 1. -/
namespace start1
open Jvm.ClassFile
def u (s : String) : CpInfo := .utf8 (stringToUtf16 s)
/-- a pool by its gaps: so many unusable entries, then the entry; so many at the end -/
def gap : Nat → List CpInfo → List CpInfo
  | 0, r => r
  | n + 1, r => .unusable :: gap n r
def poolList (es : List (Nat × CpInfo)) (last : Nat) : List CpInfo := es.foldr (fun e r => gap e.1 (e.2 :: r)) (gap last [])
def pool (es : List (Nat × CpInfo)) (last : Nat) : Array CpInfo := ⟨poolList es last⟩
def fileOf (pool : Array CpInfo) (this : Nat) (attrs : Array Attribute := #[]) (ms : Array MethodInfo := #[]) (fl : Nat := 33) (sup : Nat := 0) (ifs : Array Nat := #[]) (fds : Array FieldInfo := #[]) : ClassFile where
  minorVersion := 0
  majorVersion := 65
  constantPool := pool
  accessFlags := fl
  thisClass := this
  superClass := sup
  interfaces := ifs
  fields := fds
  methods := ms
  attributes := attrs
def plain (name : String) (sup : Option ClassId) : Class where
  name := name
  kind := .ordinary
  loader := none
  accessFlags := 33
  super := sup
  interfaces := #[]
  cf := none
  fields := #[]
  methods := #[]
  instanceTypes := #[]
  staticTypes := #[]
  resolved := #[]
  callSites := []
  init := .initialized
  statics := none
  mirror := none

def pool0 : Array CpInfo := pool [(5, u "<init>"), (0, u "()V"), (1, .class_ 10), (1, u "java/lang/Object")] 113

def k0c0 : Code := { maxStack := 0, maxLocals := 1, code := object_method_1_code, exceptionTable := #[], attributes := #[] }
def k0m0 : Method := { name := "<init>", desc := "()V", sig := { parameters := [], returnType := none }, accessFlags := 1, code := some k0c0 }
/-- java/lang/Object -/
def k0 : Class := { plain "java/lang/Object" none with
  accessFlags := 33
  interfaces := #[]
  cf := some (fileOf pool0 8 #[] #[{ accessFlags := 1, nameIndex := 5, descriptorIndex := 6, attributes := #[] }] 33 0 #[] #[])
  fields := #[]
  methods := #[k0m0]
  instanceTypes := #[]
  staticTypes := #[]
  resolved := Array.replicate 124 none
  statics := none }

def pool1 : Array CpInfo := pool [(2, .class_ 4), (1, u "java/lang/Object"), (0, u "<init>"), (0, u "()V"), (0, .integer 65535), (0, .class_ 9), (0, u "com/example/abakus/abakus/conversation/MailboxThread"), (0, .methodref 11 12), (0, .class_ 13), (0, .nameAndType 14 15), (0, u "com/example/abakus/abakus/conversation/MailboxThreadCompareToPinLaw"), (0, u "str"), (0, u "(CCI)Ljava/lang/String;"), (0, .methodref 8 17), (0, .nameAndType 5 18), (0, u "(Ljava/lang/String;Ljava/lang/String;)V"), (0, .methodref 8 20), (0, .nameAndType 21 22), (0, u "compareTo"), (0, u "(Lcom/example/abakus/abakus/conversation/MailboxThread;)I"), (0, .methodref 11 24), (0, .nameAndType 25 26), (0, u "ref"), (0, u "(CCICCI)I"), (0, .methodref 11 28), (0, .nameAndType 29 30), (0, u "sgn"), (0, u "(I)I"), (0, .class_ 32), (0, u "java/lang/String"), (0, .methodref 31 34), (0, .nameAndType 5 35), (0, u "([C)V"), (0, .integer 57344), (0, .integer 55296), (0, .methodref 11 39), (0, .nameAndType 40 41), (0, u "key"), (0, u "(C)I"), (0, .methodref 11 43), (0, .nameAndType 44 45), (0, u "at"), (0, u "(CCII)I"), (0, .methodref 11 47), (0, .nameAndType 48 49), (0, u "order"), (0, u "(II)I"), (2, u "law"), (0, u "(IIIIII)Z")] 3

def k1m0 : Method := { name := "<init>", desc := "()V", sig := { parameters := [], returnType := none }, accessFlags := 1, code := none }
def k1c1 : Code := { maxStack := 6, maxLocals := 24, code := code, exceptionTable := #[], attributes := #[] }
def k1m1 : Method := { name := "law", desc := "(IIIIII)Z", sig := { parameters := [.int, .int, .int, .int, .int, .int], returnType := some .boolean }, accessFlags := 9, code := some k1c1 }
def k1c2 : Code := { maxStack := 6, maxLocals := 3, code := method_3_code, exceptionTable := #[], attributes := #[] }
def k1m2 : Method := { name := "str", desc := "(CCI)Ljava/lang/String;", sig := { parameters := [.char, .char, .int], returnType := some (.object "java/lang/String") }, accessFlags := 10, code := some k1c2 }
def k1c3 : Code := { maxStack := 2, maxLocals := 1, code := method_4_code, exceptionTable := #[], attributes := #[] }
def k1m3 : Method := { name := "key", desc := "(C)I", sig := { parameters := [.char], returnType := some .int }, accessFlags := 10, code := some k1c3 }
def k1c4 : Code := { maxStack := 2, maxLocals := 4, code := method_5_code, exceptionTable := #[], attributes := #[] }
def k1m4 : Method := { name := "at", desc := "(CCII)I", sig := { parameters := [.char, .char, .int, .int], returnType := some .int }, accessFlags := 10, code := some k1c4 }
def k1c5 : Code := { maxStack := 2, maxLocals := 2, code := method_6_code, exceptionTable := #[], attributes := #[] }
def k1m5 : Method := { name := "order", desc := "(II)I", sig := { parameters := [.int, .int], returnType := some .int }, accessFlags := 10, code := some k1c5 }
def k1c6 : Code := { maxStack := 5, maxLocals := 7, code := method_7_code, exceptionTable := #[], attributes := #[] }
def k1m6 : Method := { name := "ref", desc := "(CCICCI)I", sig := { parameters := [.char, .char, .int, .char, .char, .int], returnType := some .int }, accessFlags := 10, code := some k1c6 }
def k1c7 : Code := { maxStack := 1, maxLocals := 1, code := method_8_code, exceptionTable := #[], attributes := #[] }
def k1m7 : Method := { name := "sgn", desc := "(I)I", sig := { parameters := [.int], returnType := some .int }, accessFlags := 10, code := some k1c7 }
/-- com/example/abakus/abakus/conversation/MailboxThreadCompareToPinLaw -/
def k1 : Class := { plain "com/example/abakus/abakus/conversation/MailboxThreadCompareToPinLaw" (some 0) with
  accessFlags := 49
  interfaces := #[]
  cf := some (fileOf pool1 11 #[] #[{ accessFlags := 1, nameIndex := 5, descriptorIndex := 6, attributes := #[] }, { accessFlags := 9, nameIndex := 52, descriptorIndex := 53, attributes := #[] }, { accessFlags := 10, nameIndex := 14, descriptorIndex := 15, attributes := #[] }, { accessFlags := 10, nameIndex := 40, descriptorIndex := 41, attributes := #[] }, { accessFlags := 10, nameIndex := 44, descriptorIndex := 45, attributes := #[] }, { accessFlags := 10, nameIndex := 48, descriptorIndex := 49, attributes := #[] }, { accessFlags := 10, nameIndex := 25, descriptorIndex := 26, attributes := #[] }, { accessFlags := 10, nameIndex := 29, descriptorIndex := 30, attributes := #[] }] 49 2 #[] #[])
  fields := #[]
  methods := #[k1m0, k1m1, k1m2, k1m3, k1m4, k1m5, k1m6, k1m7]
  instanceTypes := #[]
  staticTypes := #[]
  resolved := Array.replicate 57 none
  statics := none }

def pool2 : Array CpInfo := pool [(1, .methodref 2 3), (0, .class_ 4), (0, .nameAndType 5 6), (0, u "java/lang/Object"), (0, u "<init>"), (0, u "()V"), (0, .class_ 8), (0, u "java/lang/Record")] 13

def k2c0 : Code := { maxStack := 1, maxLocals := 1, code := jdk_30_method_1_code, exceptionTable := #[], attributes := #[] }
def k2m0 : Method := { name := "<init>", desc := "()V", sig := { parameters := [], returnType := none }, accessFlags := 4, code := some k2c0 }
/-- java/lang/Record -/
def k2 : Class := { plain "java/lang/Record" (some 0) with
  accessFlags := 1057
  interfaces := #[]
  cf := some (fileOf pool2 7 #[] #[{ accessFlags := 4, nameIndex := 5, descriptorIndex := 6, attributes := #[] }] 1057 2 #[] #[])
  fields := #[]
  methods := #[k2m0]
  instanceTypes := #[]
  staticTypes := #[]
  resolved := Array.replicate 22 none
  statics := none }

def pool3 : Array CpInfo := pool [(1, .class_ 2), (0, u "java/lang/Comparable"), (0, .class_ 4), (0, u "java/lang/Object")] 7

/-- java/lang/Comparable -/
def k3 : Class := { plain "java/lang/Comparable" (some 0) with
  accessFlags := 1537
  interfaces := #[]
  cf := some (fileOf pool3 1 #[] #[] 1537 3 #[] #[])
  fields := #[]
  methods := #[]
  instanceTypes := #[]
  staticTypes := #[]
  resolved := Array.replicate 12 none
  statics := none }

def pool4 : Array CpInfo := pool [(1, .methodref 2 3), (0, .class_ 4), (0, .nameAndType 5 6), (0, u "java/lang/Record"), (0, u "<init>"), (0, u "()V"), (0, .fieldref 8 9), (0, .class_ 10), (0, .nameAndType 11 12), (0, u "com/example/abakus/abakus/conversation/MailboxThread"), (0, u "mailbox"), (0, u "Ljava/lang/String;"), (0, .fieldref 8 14), (0, .nameAndType 15 12), (0, u "thread"), (0, .methodref 8 17), (0, .nameAndType 18 19), (0, u "compareUtf8"), (0, u "(Ljava/lang/String;Ljava/lang/String;)I"), (0, .methodref 21 22), (0, .class_ 23), (0, .nameAndType 24 25), (0, u "java/lang/String"), (0, u "length"), (0, u "()I"), (0, .methodref 27 28), (0, .class_ 29), (0, .nameAndType 30 31), (0, u "java/lang/Math"), (0, u "min"), (0, u "(II)I"), (0, .methodref 21 33), (0, .nameAndType 34 35), (0, u "charAt"), (0, u "(I)C"), (0, .methodref 8 37), (0, .nameAndType 38 39), (0, u "weight"), (0, u "(C)I"), (0, .methodref 41 42), (0, .class_ 43), (0, .nameAndType 44 45), (0, u "java/lang/Character"), (0, u "isSurrogate"), (0, u "(C)Z"), (0, .integer 65536), (2, u "compareTo"), (0, u "(Lcom/example/abakus/abakus/conversation/MailboxThread;)I"), (11, .class_ 63), (0, u "java/lang/Comparable"), (0, u "(Ljava/lang/String;Ljava/lang/String;)V")] 30

def k4c0 : Code := { maxStack := 2, maxLocals := 3, code := prog_4_method_1_code, exceptionTable := #[], attributes := #[] }
def k4m0 : Method := { name := "<init>", desc := "(Ljava/lang/String;Ljava/lang/String;)V", sig := { parameters := [(.object "java/lang/String"), (.object "java/lang/String")], returnType := none }, accessFlags := 1, code := some k4c0 }
def k4c1 : Code := { maxStack := 2, maxLocals := 3, code := prog_4_method_2_code, exceptionTable := #[], attributes := #[] }
def k4m1 : Method := { name := "compareTo", desc := "(Lcom/example/abakus/abakus/conversation/MailboxThread;)I", sig := { parameters := [(.object "com/example/abakus/abakus/conversation/MailboxThread")], returnType := some .int }, accessFlags := 1, code := some k4c1 }
def k4c2 : Code := { maxStack := 2, maxLocals := 6, code := prog_4_method_3_code, exceptionTable := #[], attributes := #[] }
def k4m2 : Method := { name := "compareUtf8", desc := "(Ljava/lang/String;Ljava/lang/String;)I", sig := { parameters := [(.object "java/lang/String"), (.object "java/lang/String")], returnType := some .int }, accessFlags := 10, code := some k4c2 }
def k4c3 : Code := { maxStack := 2, maxLocals := 1, code := prog_4_method_4_code, exceptionTable := #[], attributes := #[] }
def k4m3 : Method := { name := "weight", desc := "(C)I", sig := { parameters := [.char], returnType := some .int }, accessFlags := 10, code := some k4c3 }
/-- com/example/abakus/abakus/conversation/MailboxThread -/
def k4 : Class := { plain "com/example/abakus/abakus/conversation/MailboxThread" (some 2) with
  accessFlags := 49
  interfaces := #[3]
  cf := some (fileOf pool4 8 #[] #[{ accessFlags := 1, nameIndex := 5, descriptorIndex := 64, attributes := #[] }, { accessFlags := 1, nameIndex := 49, descriptorIndex := 50, attributes := #[] }, { accessFlags := 10, nameIndex := 18, descriptorIndex := 19, attributes := #[] }, { accessFlags := 10, nameIndex := 38, descriptorIndex := 39, attributes := #[] }] 49 2 #[62] #[{ accessFlags := 18, nameIndex := 11, descriptorIndex := 12, attributes := #[] }, { accessFlags := 18, nameIndex := 15, descriptorIndex := 12, attributes := #[] }])
  fields := #[{ name := "mailbox", type := (.object "java/lang/String"), accessFlags := 18, slot := 0, constantValue := 0 }, { name := "thread", type := (.object "java/lang/String"), accessFlags := 18, slot := 1, constantValue := 0 }]
  methods := #[k4m0, k4m1, k4m2, k4m3]
  instanceTypes := #[(.object "java/lang/String"), (.object "java/lang/String")]
  staticTypes := #[]
  resolved := Array.replicate 95 none
  statics := none }

def pool5 : Array CpInfo := pool [(1, .class_ 2), (0, u "java/io/Serializable"), (0, .class_ 4), (0, u "java/lang/Object")] 2

/-- java/io/Serializable -/
def k5 : Class := { plain "java/io/Serializable" (some 0) with
  accessFlags := 1537
  interfaces := #[]
  cf := some (fileOf pool5 1 #[] #[] 1537 3 #[] #[])
  fields := #[]
  methods := #[]
  instanceTypes := #[]
  staticTypes := #[]
  resolved := Array.replicate 7 none
  statics := none }

def pool6 : Array CpInfo := pool [(2, .class_ 4), (1, u "java/lang/CharSequence"), (42, .class_ 48), (0, u "java/lang/CharSequence$1CodePointIterator"), (10, .class_ 60), (0, u "java/lang/CharSequence$1CharIterator"), (5, .class_ 67), (0, u "java/lang/Object")] 63

/-- java/lang/CharSequence -/
def k6 : Class := { plain "java/lang/CharSequence" (some 0) with
  accessFlags := 1537
  interfaces := #[]
  cf := some (fileOf pool6 2 #[.nestMembers #[47, 59]] #[] 1537 66 #[] #[])
  fields := #[]
  methods := #[]
  instanceTypes := #[]
  staticTypes := #[]
  resolved := Array.replicate 131 none
  statics := none }

def pool7 : Array CpInfo := pool [(1, .class_ 2), (0, u "java/lang/constant/Constable"), (0, .class_ 4), (0, u "java/lang/Object")] 6

/-- java/lang/constant/Constable -/
def k7 : Class := { plain "java/lang/constant/Constable" (some 0) with
  accessFlags := 1537
  interfaces := #[]
  cf := some (fileOf pool7 1 #[] #[] 1537 3 #[] #[])
  fields := #[]
  methods := #[]
  instanceTypes := #[]
  staticTypes := #[]
  resolved := Array.replicate 11 none
  statics := none }

def pool8 : Array CpInfo := pool [(1, .class_ 2), (0, u "java/lang/constant/ConstantDesc"), (0, .class_ 4), (0, u "java/lang/Object")] 32

/-- java/lang/constant/ConstantDesc -/
def k8 : Class := { plain "java/lang/constant/ConstantDesc" (some 0) with
  accessFlags := 1537
  interfaces := #[]
  cf := some (fileOf pool8 1 #[] #[] 1537 3 #[] #[])
  fields := #[]
  methods := #[]
  instanceTypes := #[]
  staticTypes := #[]
  resolved := Array.replicate 37 none
  statics := none }

def pool9 : Array CpInfo := pool [(1, .methodref 2 3), (0, .class_ 4), (0, .nameAndType 5 6), (0, u "java/lang/Object"), (0, u "<init>"), (0, u "()V"), (0, .string 8), (0, u ""), (0, .fieldref 10 11), (0, .class_ 12), (0, .nameAndType 13 14), (0, u "java/lang/String"), (0, u "value"), (0, u "[B"), (0, .fieldref 10 16), (0, .nameAndType 17 18), (0, u "coder"), (0, u "B"), (2, u "hash"), (0, u "I"), (2, u "hashIsZero"), (0, u "Z"), (0, .methodref 10 28), (0, .nameAndType 5 29), (0, u "([CIILjava/lang/Void;)V"), (8, .fieldref 10 39), (0, .nameAndType 40 26), (0, u "COMPACT_STRINGS"), (1, .class_ 44), (1, u "java/lang/StringUTF16"), (0, u "compress"), (1, .methodref 42 48), (0, .nameAndType 49 50), (0, u "coderFromArrayLen"), (0, u "([BI)B"), (56, .class_ 109), (1, u "java/lang/StringLatin1"), (32, u "()Z"), (34, .methodref 42 178), (0, .nameAndType 45 179), (0, u "([CII)[B"), (154, u "()I"), (0, .methodref 10 336), (0, .nameAndType 17 337), (0, u "()B"), (25, u "([BI)C"), (27, u "(II)V"), (35, u "(I)C"), (64, .methodref 10 493), (0, .nameAndType 494 142), (0, u "isLatin1"), (0, .methodref 107 496), (0, .nameAndType 497 363), (0, u "charAt"), (0, .methodref 42 496), (2, u "checkIndex"), (5, u "length"), (67, .class_ 576), (0, u "java/lang/CharSequence"), (22, u "CASE_INSENSITIVE_ORDER"), (0, u "Ljava/util/Comparator;"), (409, u "([C)V"), (42, .fieldref 1054 1055), (0, .class_ 1056), (0, .nameAndType 1057 1058), (0, u "jdk/internal/util/Preconditions"), (0, u "SIOOBE_FORMATTER"), (0, u "Ljava/util/function/BiFunction;"), (0, .methodref 1054 1060), (0, .nameAndType 501 1061), (0, u "(IILjava/util/function/BiFunction;)I"), (39, u "serialPersistentFields"), (0, u "[Ljava/io/ObjectStreamField;"), (0, .class_ 1104), (0, u "java/lang/String$CaseInsensitiveComparator"), (1, .class_ 1107), (0, u "java/io/Serializable"), (0, .class_ 1109), (0, u "java/lang/Comparable"), (0, .class_ 1111), (0, u "java/lang/constant/Constable"), (0, .class_ 1113), (0, u "java/lang/constant/ConstantDesc"), (2, u "serialVersionUID"), (0, u "J"), (3, u "REPL"), (0, u "C"), (2, u "LATIN1"), (1, u "UTF16")] 323

def k9m0 : Method := { name := "<init>", desc := "()V", sig := { parameters := [], returnType := none }, accessFlags := 1, code := none }
def k9c1 : Code := { maxStack := 5, maxLocals := 2, code := jdk_42_method_3_code, exceptionTable := #[], attributes := #[] }
def k9m1 : Method := { name := "<init>", desc := "([C)V", sig := { parameters := [(.array .char)], returnType := none }, accessFlags := 1, code := some k9c1 }
def k9c2 : Code := { maxStack := 2, maxLocals := 1, code := jdk_42_method_54_code, exceptionTable := #[], attributes := #[] }
def k9m2 : Method := { name := "length", desc := "()I", sig := { parameters := [], returnType := some .int }, accessFlags := 1, code := some k9c2 }
def k9c3 : Code := { maxStack := 2, maxLocals := 2, code := jdk_42_method_56_code, exceptionTable := #[], attributes := #[] }
def k9m3 : Method := { name := "charAt", desc := "(I)C", sig := { parameters := [.int], returnType := some .char }, accessFlags := 1, code := some k9c3 }
def k9c4 : Code := { maxStack := 4, maxLocals := 6, code := jdk_42_method_149_code, exceptionTable := #[], attributes := #[] }
def k9m4 : Method := { name := "<init>", desc := "([CIILjava/lang/Void;)V", sig := { parameters := [(.array .char), .int, .int, (.object "java/lang/Void")], returnType := none }, accessFlags := 2, code := some k9c4 }
def k9c5 : Code := { maxStack := 1, maxLocals := 1, code := jdk_42_method_152_code, exceptionTable := #[], attributes := #[] }
def k9m5 : Method := { name := "coder", desc := "()B", sig := { parameters := [], returnType := some .byte }, accessFlags := 0, code := some k9c5 }
def k9c6 : Code := { maxStack := 1, maxLocals := 1, code := jdk_42_method_154_code, exceptionTable := #[], attributes := #[] }
def k9m6 : Method := { name := "isLatin1", desc := "()Z", sig := { parameters := [], returnType := some .boolean }, accessFlags := 0, code := some k9c6 }
def k9c7 : Code := { maxStack := 3, maxLocals := 2, code := jdk_42_method_155_code, exceptionTable := #[], attributes := #[] }
def k9m7 : Method := { name := "checkIndex", desc := "(II)V", sig := { parameters := [.int, .int], returnType := none }, accessFlags := 8, code := some k9c7 }
/-- java/lang/String -/
def k9 : Class := { plain "java/lang/String" (some 0) with
  accessFlags := 49
  interfaces := #[5, 3, 6, 7, 8]
  cf := some (fileOf pool9 10 #[.nestMembers #[1103]] #[{ accessFlags := 1, nameIndex := 5, descriptorIndex := 6, attributes := #[] }, { accessFlags := 1, nameIndex := 5, descriptorIndex := 1010, attributes := #[] }, { accessFlags := 1, nameIndex := 507, descriptorIndex := 334, attributes := #[] }, { accessFlags := 1, nameIndex := 497, descriptorIndex := 427, attributes := #[] }, { accessFlags := 2, nameIndex := 5, descriptorIndex := 29, attributes := #[] }, { accessFlags := 0, nameIndex := 17, descriptorIndex := 337, attributes := #[] }, { accessFlags := 0, nameIndex := 494, descriptorIndex := 142, attributes := #[] }, { accessFlags := 8, nameIndex := 501, descriptorIndex := 391, attributes := #[] }] 49 2 #[1106, 1108, 575, 1110, 1112] #[{ accessFlags := 18, nameIndex := 13, descriptorIndex := 14, attributes := #[] }, { accessFlags := 18, nameIndex := 17, descriptorIndex := 18, attributes := #[] }, { accessFlags := 2, nameIndex := 21, descriptorIndex := 22, attributes := #[] }, { accessFlags := 2, nameIndex := 25, descriptorIndex := 26, attributes := #[] }, { accessFlags := 26, nameIndex := 1116, descriptorIndex := 1117, attributes := #[] }, { accessFlags := 24, nameIndex := 40, descriptorIndex := 26, attributes := #[] }, { accessFlags := 26, nameIndex := 1101, descriptorIndex := 1102, attributes := #[] }, { accessFlags := 26, nameIndex := 1121, descriptorIndex := 1122, attributes := #[] }, { accessFlags := 25, nameIndex := 599, descriptorIndex := 600, attributes := #[] }, { accessFlags := 24, nameIndex := 1125, descriptorIndex := 18, attributes := #[] }, { accessFlags := 24, nameIndex := 1127, descriptorIndex := 18, attributes := #[] }])
  fields := #[{ name := "value", type := (.array .byte), accessFlags := 18, slot := 0, constantValue := 0 }, { name := "coder", type := .byte, accessFlags := 18, slot := 1, constantValue := 0 }, { name := "hash", type := .int, accessFlags := 2, slot := 2, constantValue := 0 }, { name := "hashIsZero", type := .boolean, accessFlags := 2, slot := 3, constantValue := 0 }, { name := "serialVersionUID", type := .long, accessFlags := 26, slot := 0, constantValue := 0 }, { name := "COMPACT_STRINGS", type := .boolean, accessFlags := 24, slot := 1, constantValue := 0 }, { name := "serialPersistentFields", type := (.array (.object "java/io/ObjectStreamField")), accessFlags := 26, slot := 2, constantValue := 0 }, { name := "REPL", type := .char, accessFlags := 26, slot := 3, constantValue := 0 }, { name := "CASE_INSENSITIVE_ORDER", type := (.object "java/util/Comparator"), accessFlags := 25, slot := 4, constantValue := 0 }, { name := "LATIN1", type := .byte, accessFlags := 24, slot := 5, constantValue := 0 }, { name := "UTF16", type := .byte, accessFlags := 24, slot := 6, constantValue := 0 }]
  methods := #[k9m0, k9m1, k9m2, k9m3, k9m4, k9m5, k9m6, k9m7]
  instanceTypes := #[(.array .byte), .byte, .int, .boolean]
  staticTypes := #[.long, .boolean, (.array (.object "java/io/ObjectStreamField")), .char, (.object "java/util/Comparator"), .byte, .byte]
  resolved := Array.replicate 1451 none
  statics := some 0 }

def pool10 : Array CpInfo := pool [(1, .class_ 2), (0, u "java/lang/Math"), (1, .class_ 6), (1, u "java/lang/Object"), (0, u "<init>"), (0, u "()V"), (89, .class_ 100), (1, u "java/lang/Math$RandomNumberGeneratorHolder"), (71, u "negativeZeroFloatBits"), (0, u "J"), (2, u "negativeZeroDoubleBits"), (24, u "min"), (43, u "$assertionsDisabled"), (0, u "Z"), (88, u "(II)I"), (2, u "twoToTheDoubleScaleDown"), (0, u "D"), (4, u "twoToTheDoubleScaleUp"), (9, u "E"), (3, u "PI"), (2, u "TAU"), (2, u "DEGREES_TO_RADIANS"), (0, u "RADIANS_TO_DEGREES")] 94

def k10m0 : Method := { name := "<init>", desc := "()V", sig := { parameters := [], returnType := none }, accessFlags := 2, code := none }
def k10c1 : Code := { maxStack := 2, maxLocals := 2, code := jdk_29_method_69_code, exceptionTable := #[], attributes := #[] }
def k10m1 : Method := { name := "min", desc := "(II)I", sig := { parameters := [.int, .int], returnType := some .int }, accessFlags := 9, code := some k10c1 }
/-- java/lang/Math -/
def k10 : Class := { plain "java/lang/Math" (some 0) with
  accessFlags := 49
  interfaces := #[]
  cf := some (fileOf pool10 1 #[.nestMembers #[98]] #[{ accessFlags := 2, nameIndex := 7, descriptorIndex := 8, attributes := #[] }, { accessFlags := 9, nameIndex := 201, descriptorIndex := 335, attributes := #[] }] 49 4 #[] #[{ accessFlags := 25, nameIndex := 354, descriptorIndex := 339, attributes := #[] }, { accessFlags := 25, nameIndex := 358, descriptorIndex := 339, attributes := #[] }, { accessFlags := 25, nameIndex := 361, descriptorIndex := 339, attributes := #[] }, { accessFlags := 26, nameIndex := 364, descriptorIndex := 339, attributes := #[] }, { accessFlags := 26, nameIndex := 365, descriptorIndex := 339, attributes := #[] }, { accessFlags := 26, nameIndex := 172, descriptorIndex := 173, attributes := #[] }, { accessFlags := 26, nameIndex := 176, descriptorIndex := 173, attributes := #[] }, { accessFlags := 8, nameIndex := 344, descriptorIndex := 339, attributes := #[] }, { accessFlags := 8, nameIndex := 338, descriptorIndex := 339, attributes := #[] }, { accessFlags := 4120, nameIndex := 245, descriptorIndex := 246, attributes := #[] }])
  fields := #[{ name := "E", type := .double, accessFlags := 25, slot := 0, constantValue := 0 }, { name := "PI", type := .double, accessFlags := 25, slot := 1, constantValue := 0 }, { name := "TAU", type := .double, accessFlags := 25, slot := 2, constantValue := 0 }, { name := "DEGREES_TO_RADIANS", type := .double, accessFlags := 26, slot := 3, constantValue := 0 }, { name := "RADIANS_TO_DEGREES", type := .double, accessFlags := 26, slot := 4, constantValue := 0 }, { name := "negativeZeroFloatBits", type := .long, accessFlags := 26, slot := 5, constantValue := 0 }, { name := "negativeZeroDoubleBits", type := .long, accessFlags := 26, slot := 6, constantValue := 0 }, { name := "twoToTheDoubleScaleUp", type := .double, accessFlags := 8, slot := 7, constantValue := 0 }, { name := "twoToTheDoubleScaleDown", type := .double, accessFlags := 8, slot := 8, constantValue := 0 }, { name := "$assertionsDisabled", type := .boolean, accessFlags := 4120, slot := 9, constantValue := 0 }]
  methods := #[k10m0, k10m1]
  instanceTypes := #[]
  staticTypes := #[.double, .double, .double, .double, .double, .long, .long, .double, .double, .boolean]
  resolved := Array.replicate 460 none
  statics := none }

def pool11 : Array CpInfo := pool [(3, .class_ 4), (0, u "java/lang/String"), (1, .class_ 8), (1, u "java/lang/Object"), (0, u "<init>"), (0, u "()V"), (0, .methodref 12 13), (0, .class_ 14), (0, .nameAndType 15 16), (0, u "java/lang/StringUTF16"), (0, u "newBytesLength"), (0, u "(I)I"), (3, .integer 1073741823), (23, .fieldref 12 45), (0, .nameAndType 46 47), (0, u "$assertionsDisabled"), (0, u "Z"), (0, .methodref 12 49), (0, .nameAndType 50 51), (0, u "length"), (0, u "([B)I"), (7, .fieldref 12 60), (0, .nameAndType 61 62), (0, u "HI_BYTE_SHIFT"), (0, u "I"), (0, .fieldref 12 64), (0, .nameAndType 65 62), (0, u "LO_BYTE_SHIFT"), (1, .methodref 12 68), (0, .nameAndType 69 70), (0, u "checkIndex"), (0, u "(I[B)V"), (0, .methodref 12 72), (0, .nameAndType 73 74), (0, u "getChar"), (0, u "([BI)C"), (32, .methodref 12 108), (0, .nameAndType 109 110), (0, u "newBytesFor"), (0, u "(I)[B"), (0, .methodref 12 112), (0, .nameAndType 113 114), (0, u "putChar"), (0, u "([BII)V"), (0, .methodref 12 116), (0, .nameAndType 117 118), (0, u "compress"), (0, u "([CI[BII)I"), (0, .methodref 12 120), (0, .nameAndType 121 122), (0, u "toBytes"), (0, u "([CII)[B"), (138, u "coderFromArrayLen"), (0, u "([BI)B"), (106, .class_ 371), (1, u "java/lang/StringUTF16$LinesSpliterator"), (20, u "charAt"), (21, .methodref 3 415), (0, .nameAndType 69 416), (0, u "(II)V"), (13, u "MAX_LENGTH"), (196, .class_ 628), (0, u "java/lang/StringUTF16$CodePointsSpliterator"), (0, .class_ 630), (0, u "java/lang/StringUTF16$CharsSpliterator")] 4

def k11m0 : Method := { name := "<init>", desc := "()V", sig := { parameters := [], returnType := none }, accessFlags := 0, code := none }
def k11c1 : Code := { maxStack := 1, maxLocals := 1, code := jdk_52_method_2_code, exceptionTable := #[], attributes := #[] }
def k11m1 : Method := { name := "newBytesFor", desc := "(I)[B", sig := { parameters := [.int], returnType := some (.array .byte) }, accessFlags := 9, code := some k11c1 }
def k11c2 : Code := { maxStack := 4, maxLocals := 1, code := jdk_52_method_3_code, exceptionTable := #[], attributes := #[] }
def k11m2 : Method := { name := "newBytesLength", desc := "(I)I", sig := { parameters := [.int], returnType := some .int }, accessFlags := 9, code := some k11c2 }
def k11c3 : Code := { maxStack := 4, maxLocals := 3, code := jdk_52_method_4_code, exceptionTable := #[], attributes := #[] }
def k11m3 : Method := { name := "putChar", desc := "([BII)V", sig := { parameters := [(.array .byte), .int, .int], returnType := none }, accessFlags := 8, code := some k11c3 }
def k11c4 : Code := { maxStack := 3, maxLocals := 2, code := jdk_52_method_5_code, exceptionTable := #[], attributes := #[] }
def k11m4 : Method := { name := "getChar", desc := "([BI)C", sig := { parameters := [(.array .byte), .int], returnType := some .char }, accessFlags := 8, code := some k11c4 }
def k11c5 : Code := { maxStack := 2, maxLocals := 1, code := jdk_52_method_6_code, exceptionTable := #[], attributes := #[] }
def k11m5 : Method := { name := "length", desc := "([B)I", sig := { parameters := [(.array .byte)], returnType := some .int }, accessFlags := 9, code := some k11c5 }
def k11c6 : Code := { maxStack := 4, maxLocals := 5, code := jdk_52_method_14_code, exceptionTable := #[], attributes := #[] }
def k11m6 : Method := { name := "toBytes", desc := "([CII)[B", sig := { parameters := [(.array .char), .int, .int], returnType := some (.array .byte) }, accessFlags := 9, code := some k11c6 }
def k11c7 : Code := { maxStack := 2, maxLocals := 2, code := jdk_52_method_15_code, exceptionTable := #[], attributes := #[] }
def k11m7 : Method := { name := "coderFromArrayLen", desc := "([BI)B", sig := { parameters := [(.array .byte), .int], returnType := some .byte }, accessFlags := 8, code := some k11c7 }
def k11c8 : Code := { maxStack := 5, maxLocals := 6, code := jdk_52_method_16_code, exceptionTable := #[], attributes := #[] }
def k11m8 : Method := { name := "compress", desc := "([CII)[B", sig := { parameters := [(.array .char), .int, .int], returnType := some (.array .byte) }, accessFlags := 9, code := some k11c8 }
def k11c9 : Code := { maxStack := 3, maxLocals := 7, code := jdk_52_method_21_code, exceptionTable := #[], attributes := #[] }
def k11m9 : Method := { name := "compress", desc := "([CI[BII)I", sig := { parameters := [(.array .char), .int, (.array .byte), .int, .int], returnType := some .int }, accessFlags := 9, code := some k11c9 }
def k11c10 : Code := { maxStack := 2, maxLocals := 2, code := jdk_52_method_83_code, exceptionTable := #[], attributes := #[] }
def k11m10 : Method := { name := "charAt", desc := "([BI)C", sig := { parameters := [(.array .byte), .int], returnType := some .char }, accessFlags := 9, code := some k11c10 }
def k11c11 : Code := { maxStack := 2, maxLocals := 2, code := jdk_52_method_91_code, exceptionTable := #[], attributes := #[] }
def k11m11 : Method := { name := "checkIndex", desc := "(I[B)V", sig := { parameters := [.int, (.array .byte)], returnType := none }, accessFlags := 9, code := some k11c11 }
/-- java/lang/StringUTF16 -/
def k11 : Class := { plain "java/lang/StringUTF16" (some 0) with
  accessFlags := 48
  interfaces := #[]
  cf := some (fileOf pool11 12 #[.nestMembers #[627, 629, 369]] #[{ accessFlags := 0, nameIndex := 9, descriptorIndex := 10, attributes := #[] }, { accessFlags := 9, nameIndex := 109, descriptorIndex := 110, attributes := #[] }, { accessFlags := 9, nameIndex := 15, descriptorIndex := 16, attributes := #[] }, { accessFlags := 8, nameIndex := 113, descriptorIndex := 114, attributes := #[] }, { accessFlags := 8, nameIndex := 73, descriptorIndex := 74, attributes := #[] }, { accessFlags := 9, nameIndex := 50, descriptorIndex := 51, attributes := #[] }, { accessFlags := 9, nameIndex := 121, descriptorIndex := 122, attributes := #[] }, { accessFlags := 8, nameIndex := 261, descriptorIndex := 262, attributes := #[] }, { accessFlags := 9, nameIndex := 117, descriptorIndex := 122, attributes := #[] }, { accessFlags := 9, nameIndex := 117, descriptorIndex := 118, attributes := #[] }, { accessFlags := 9, nameIndex := 392, descriptorIndex := 74, attributes := #[] }, { accessFlags := 9, nameIndex := 69, descriptorIndex := 70, attributes := #[] }] 48 6 #[] #[{ accessFlags := 26, nameIndex := 61, descriptorIndex := 62, attributes := #[] }, { accessFlags := 26, nameIndex := 65, descriptorIndex := 62, attributes := #[] }, { accessFlags := 24, nameIndex := 430, descriptorIndex := 62, attributes := #[] }, { accessFlags := 4120, nameIndex := 46, descriptorIndex := 47, attributes := #[] }])
  fields := #[{ name := "HI_BYTE_SHIFT", type := .int, accessFlags := 26, slot := 0, constantValue := 0 }, { name := "LO_BYTE_SHIFT", type := .int, accessFlags := 26, slot := 1, constantValue := 0 }, { name := "MAX_LENGTH", type := .int, accessFlags := 24, slot := 2, constantValue := 0 }, { name := "$assertionsDisabled", type := .boolean, accessFlags := 4120, slot := 3, constantValue := 0 }]
  methods := #[k11m0, k11m1, k11m2, k11m3, k11m4, k11m5, k11m6, k11m7, k11m8, k11m9, k11m10, k11m11]
  instanceTypes := #[]
  staticTypes := #[.int, .int, .int, .boolean]
  resolved := Array.replicate 635 none
  statics := some 1 }

def pool12 : Array CpInfo := pool [(1, .class_ 2), (0, u "java/lang/String"), (1, .class_ 6), (1, u "java/lang/Object"), (0, u "<init>"), (0, u "()V"), (0, .methodref 1 10), (0, .nameAndType 11 12), (0, u "checkIndex"), (0, u "(II)V"), (1, .class_ 16), (1, u "java/lang/StringLatin1"), (36, u "([BI)C"), (67, u "$assertionsDisabled"), (0, u "Z"), (98, .class_ 223), (1, u "java/lang/StringLatin1$LinesSpliterator"), (28, u "charAt"), (137, .class_ 391), (0, u "java/lang/StringLatin1$CharsSpliterator")] 3

def k12m0 : Method := { name := "<init>", desc := "()V", sig := { parameters := [], returnType := none }, accessFlags := 0, code := none }
def k12c1 : Code := { maxStack := 2, maxLocals := 2, code := jdk_43_method_2_code, exceptionTable := #[], attributes := #[] }
def k12m1 : Method := { name := "charAt", desc := "([BI)C", sig := { parameters := [(.array .byte), .int], returnType := some .char }, accessFlags := 9, code := some k12c1 }
/-- java/lang/StringLatin1 -/
def k12 : Class := { plain "java/lang/StringLatin1" (some 0) with
  accessFlags := 48
  interfaces := #[]
  cf := some (fileOf pool12 14 #[.nestMembers #[390, 221]] #[{ accessFlags := 0, nameIndex := 7, descriptorIndex := 8, attributes := #[] }, { accessFlags := 9, nameIndex := 252, descriptorIndex := 53, attributes := #[] }] 48 4 #[] #[{ accessFlags := 4120, nameIndex := 121, descriptorIndex := 122, attributes := #[] }])
  fields := #[{ name := "$assertionsDisabled", type := .boolean, accessFlags := 4120, slot := 0, constantValue := 0 }]
  methods := #[k12m0, k12m1]
  instanceTypes := #[]
  staticTypes := #[.boolean]
  resolved := Array.replicate 395 none
  statics := none }

def pool13 : Array CpInfo := pool [(2, .class_ 4), (1, u "java/lang/Object"), (0, u "<init>"), (0, u "()V"), (17, .class_ 26), (1, u "jdk/internal/util/Preconditions"), (6, u "checkIndex"), (21, .class_ 56), (0, u "jdk/internal/util/Preconditions$4"), (57, .class_ 115), (0, u "jdk/internal/util/Preconditions$1"), (7, u "SIOOBE_FORMATTER"), (0, u "Ljava/util/function/BiFunction;"), (0, .class_ 126), (0, u "jdk/internal/util/Preconditions$2"), (3, u "AIOOBE_FORMATTER"), (0, .class_ 132), (0, u "jdk/internal/util/Preconditions$3"), (3, u "IOOBE_FORMATTER"), (41, u "(IILjava/util/function/BiFunction;)I")] 15

def k13m0 : Method := { name := "<init>", desc := "()V", sig := { parameters := [], returnType := none }, accessFlags := 1, code := none }
def k13c1 : Code := { maxStack := 3, maxLocals := 3, code := jdk_41_method_11_code, exceptionTable := #[], attributes := #[] }
def k13m1 : Method := { name := "checkIndex", desc := "(IILjava/util/function/BiFunction;)I", sig := { parameters := [.int, .int, (.object "java/util/function/BiFunction")], returnType := some .int }, accessFlags := 9, code := some k13c1 }
/-- jdk/internal/util/Preconditions -/
def k13 : Class := { plain "jdk/internal/util/Preconditions" (some 0) with
  accessFlags := 33
  interfaces := #[]
  cf := some (fileOf pool13 24 #[.nestMembers #[55, 131, 125, 114]] #[{ accessFlags := 1, nameIndex := 5, descriptorIndex := 6, attributes := #[] }, { accessFlags := 9, nameIndex := 33, descriptorIndex := 178, attributes := #[] }] 33 2 #[] #[{ accessFlags := 25, nameIndex := 123, descriptorIndex := 124, attributes := #[] }, { accessFlags := 25, nameIndex := 130, descriptorIndex := 124, attributes := #[] }, { accessFlags := 25, nameIndex := 136, descriptorIndex := 124, attributes := #[] }])
  fields := #[{ name := "SIOOBE_FORMATTER", type := (.object "java/util/function/BiFunction"), accessFlags := 25, slot := 0, constantValue := 0 }, { name := "AIOOBE_FORMATTER", type := (.object "java/util/function/BiFunction"), accessFlags := 25, slot := 1, constantValue := 0 }, { name := "IOOBE_FORMATTER", type := (.object "java/util/function/BiFunction"), accessFlags := 25, slot := 2, constantValue := 0 }]
  methods := #[k13m0, k13m1]
  instanceTypes := #[]
  staticTypes := #[(.object "java/util/function/BiFunction"), (.object "java/util/function/BiFunction"), (.object "java/util/function/BiFunction")]
  resolved := Array.replicate 194 none
  statics := some 2 }

def pool14 : Array CpInfo := pool [(1, .class_ 2), (0, u "java/lang/Character"), (18, u "value"), (0, u "C"), (19, .class_ 44), (1, u "java/lang/Object"), (3, .class_ 50), (1, u "java/lang/Character$CharacterCache"), (24, .integer 55296), (1, .integer 57344), (3, u "(C)Z"), (202, u "$assertionsDisabled"), (0, u "Z"), (21, .class_ 309), (1, u "java/lang/Character$UnicodeBlock"), (73, u "TYPE"), (0, u "Ljava/lang/Class;"), (0, .class_ 386), (0, u "java/io/Serializable"), (0, .class_ 388), (0, u "java/lang/Comparable"), (0, .class_ 390), (0, u "java/lang/constant/Constable"), (0, u "MIN_RADIX"), (0, u "I"), (2, u "MAX_RADIX"), (1, u "MIN_VALUE"), (1, u "MAX_VALUE"), (3, u "UNASSIGNED"), (0, u "B"), (0, u "UPPERCASE_LETTER"), (1, u "LOWERCASE_LETTER"), (0, u "TITLECASE_LETTER"), (1, u "MODIFIER_LETTER"), (1, u "OTHER_LETTER"), (1, u "NON_SPACING_MARK"), (1, u "ENCLOSING_MARK"), (1, u "COMBINING_SPACING_MARK"), (1, u "DECIMAL_DIGIT_NUMBER"), (1, u "LETTER_NUMBER"), (1, u "OTHER_NUMBER"), (1, u "SPACE_SEPARATOR"), (1, u "LINE_SEPARATOR"), (1, u "PARAGRAPH_SEPARATOR"), (1, u "CONTROL"), (1, u "FORMAT"), (1, u "PRIVATE_USE"), (1, u "SURROGATE"), (1, u "DASH_PUNCTUATION"), (1, u "START_PUNCTUATION"), (1, u "END_PUNCTUATION"), (1, u "CONNECTOR_PUNCTUATION"), (1, u "OTHER_PUNCTUATION"), (1, u "MATH_SYMBOL"), (1, u "CURRENCY_SYMBOL"), (1, u "MODIFIER_SYMBOL"), (1, u "OTHER_SYMBOL"), (1, u "INITIAL_QUOTE_PUNCTUATION"), (1, u "FINAL_QUOTE_PUNCTUATION"), (1, u "ERROR"), (1, u "DIRECTIONALITY_UNDEFINED"), (0, u "DIRECTIONALITY_LEFT_TO_RIGHT"), (0, u "DIRECTIONALITY_RIGHT_TO_LEFT"), (0, u "DIRECTIONALITY_RIGHT_TO_LEFT_ARABIC"), (0, u "DIRECTIONALITY_EUROPEAN_NUMBER"), (0, u "DIRECTIONALITY_EUROPEAN_NUMBER_SEPARATOR"), (0, u "DIRECTIONALITY_EUROPEAN_NUMBER_TERMINATOR"), (0, u "DIRECTIONALITY_ARABIC_NUMBER"), (0, u "DIRECTIONALITY_COMMON_NUMBER_SEPARATOR"), (0, u "DIRECTIONALITY_NONSPACING_MARK"), (0, u "DIRECTIONALITY_BOUNDARY_NEUTRAL"), (0, u "DIRECTIONALITY_PARAGRAPH_SEPARATOR"), (0, u "DIRECTIONALITY_SEGMENT_SEPARATOR"), (0, u "DIRECTIONALITY_WHITESPACE"), (0, u "DIRECTIONALITY_OTHER_NEUTRALS"), (0, u "DIRECTIONALITY_LEFT_TO_RIGHT_EMBEDDING"), (0, u "DIRECTIONALITY_LEFT_TO_RIGHT_OVERRIDE"), (0, u "DIRECTIONALITY_RIGHT_TO_LEFT_EMBEDDING"), (0, u "DIRECTIONALITY_RIGHT_TO_LEFT_OVERRIDE"), (1, u "DIRECTIONALITY_POP_DIRECTIONAL_FORMAT"), (0, u "DIRECTIONALITY_LEFT_TO_RIGHT_ISOLATE"), (0, u "DIRECTIONALITY_RIGHT_TO_LEFT_ISOLATE"), (0, u "DIRECTIONALITY_FIRST_STRONG_ISOLATE"), (0, u "DIRECTIONALITY_POP_DIRECTIONAL_ISOLATE"), (0, u "MIN_HIGH_SURROGATE"), (0, u "MAX_HIGH_SURROGATE"), (1, u "MIN_LOW_SURROGATE"), (0, u "MAX_LOW_SURROGATE"), (1, u "MIN_SURROGATE"), (0, u "MAX_SURROGATE"), (0, u "MIN_SUPPLEMENTARY_CODE_POINT"), (0, u "MIN_CODE_POINT"), (0, u "MAX_CODE_POINT"), (1, u "serialVersionUID"), (0, u "J"), (2, u "SIZE"), (0, u "BYTES"), (24, u "isSurrogate"), (63, .class_ 596), (0, u "java/lang/Character$UnicodeScript"), (0, .class_ 598), (0, u "java/lang/Character$Subset")] 5

def k14c0 : Code := { maxStack := 2, maxLocals := 1, code := jdk_89_method_16_code, exceptionTable := #[], attributes := #[] }
def k14m0 : Method := { name := "isSurrogate", desc := "(C)Z", sig := { parameters := [.char], returnType := some .boolean }, accessFlags := 9, code := some k14c0 }
/-- java/lang/Character -/
def k14 : Class := { plain "java/lang/Character" (some 0) with
  accessFlags := 49
  interfaces := #[5, 3, 7]
  cf := some (fileOf pool14 1 #[.nestMembers #[48, 595, 307, 597]] #[{ accessFlags := 9, nameIndex := 531, descriptorIndex := 81, attributes := #[] }] 49 42 #[385, 387, 389] #[{ accessFlags := 25, nameIndex := 391, descriptorIndex := 392, attributes := #[] }, { accessFlags := 25, nameIndex := 395, descriptorIndex := 392, attributes := #[] }, { accessFlags := 25, nameIndex := 397, descriptorIndex := 22, attributes := #[] }, { accessFlags := 25, nameIndex := 399, descriptorIndex := 22, attributes := #[] }, { accessFlags := 25, nameIndex := 383, descriptorIndex := 384, attributes := #[] }, { accessFlags := 25, nameIndex := 403, descriptorIndex := 404, attributes := #[] }, { accessFlags := 25, nameIndex := 405, descriptorIndex := 404, attributes := #[] }, { accessFlags := 25, nameIndex := 407, descriptorIndex := 404, attributes := #[] }, { accessFlags := 25, nameIndex := 408, descriptorIndex := 404, attributes := #[] }, { accessFlags := 25, nameIndex := 410, descriptorIndex := 404, attributes := #[] }, { accessFlags := 25, nameIndex := 412, descriptorIndex := 404, attributes := #[] }, { accessFlags := 25, nameIndex := 414, descriptorIndex := 404, attributes := #[] }, { accessFlags := 25, nameIndex := 416, descriptorIndex := 404, attributes := #[] }, { accessFlags := 25, nameIndex := 418, descriptorIndex := 404, attributes := #[] }, { accessFlags := 25, nameIndex := 420, descriptorIndex := 404, attributes := #[] }, { accessFlags := 25, nameIndex := 422, descriptorIndex := 404, attributes := #[] }, { accessFlags := 25, nameIndex := 424, descriptorIndex := 404, attributes := #[] }, { accessFlags := 25, nameIndex := 426, descriptorIndex := 404, attributes := #[] }, { accessFlags := 25, nameIndex := 428, descriptorIndex := 404, attributes := #[] }, { accessFlags := 25, nameIndex := 430, descriptorIndex := 404, attributes := #[] }, { accessFlags := 25, nameIndex := 432, descriptorIndex := 404, attributes := #[] }, { accessFlags := 25, nameIndex := 434, descriptorIndex := 404, attributes := #[] }, { accessFlags := 25, nameIndex := 436, descriptorIndex := 404, attributes := #[] }, { accessFlags := 25, nameIndex := 438, descriptorIndex := 404, attributes := #[] }, { accessFlags := 25, nameIndex := 440, descriptorIndex := 404, attributes := #[] }, { accessFlags := 25, nameIndex := 442, descriptorIndex := 404, attributes := #[] }, { accessFlags := 25, nameIndex := 444, descriptorIndex := 404, attributes := #[] }, { accessFlags := 25, nameIndex := 446, descriptorIndex := 404, attributes := #[] }, { accessFlags := 25, nameIndex := 448, descriptorIndex := 404, attributes := #[] }, { accessFlags := 25, nameIndex := 450, descriptorIndex := 404, attributes := #[] }, { accessFlags := 25, nameIndex := 452, descriptorIndex := 404, attributes := #[] }, { accessFlags := 25, nameIndex := 454, descriptorIndex := 404, attributes := #[] }, { accessFlags := 25, nameIndex := 456, descriptorIndex := 404, attributes := #[] }, { accessFlags := 25, nameIndex := 458, descriptorIndex := 404, attributes := #[] }, { accessFlags := 25, nameIndex := 460, descriptorIndex := 404, attributes := #[] }, { accessFlags := 24, nameIndex := 462, descriptorIndex := 392, attributes := #[] }, { accessFlags := 25, nameIndex := 464, descriptorIndex := 404, attributes := #[] }, { accessFlags := 25, nameIndex := 465, descriptorIndex := 404, attributes := #[] }, { accessFlags := 25, nameIndex := 466, descriptorIndex := 404, attributes := #[] }, { accessFlags := 25, nameIndex := 467, descriptorIndex := 404, attributes := #[] }, { accessFlags := 25, nameIndex := 468, descriptorIndex := 404, attributes := #[] }, { accessFlags := 25, nameIndex := 469, descriptorIndex := 404, attributes := #[] }, { accessFlags := 25, nameIndex := 470, descriptorIndex := 404, attributes := #[] }, { accessFlags := 25, nameIndex := 471, descriptorIndex := 404, attributes := #[] }, { accessFlags := 25, nameIndex := 472, descriptorIndex := 404, attributes := #[] }, { accessFlags := 25, nameIndex := 473, descriptorIndex := 404, attributes := #[] }, { accessFlags := 25, nameIndex := 474, descriptorIndex := 404, attributes := #[] }, { accessFlags := 25, nameIndex := 475, descriptorIndex := 404, attributes := #[] }, { accessFlags := 25, nameIndex := 476, descriptorIndex := 404, attributes := #[] }, { accessFlags := 25, nameIndex := 477, descriptorIndex := 404, attributes := #[] }, { accessFlags := 25, nameIndex := 478, descriptorIndex := 404, attributes := #[] }, { accessFlags := 25, nameIndex := 479, descriptorIndex := 404, attributes := #[] }, { accessFlags := 25, nameIndex := 480, descriptorIndex := 404, attributes := #[] }, { accessFlags := 25, nameIndex := 481, descriptorIndex := 404, attributes := #[] }, { accessFlags := 25, nameIndex := 482, descriptorIndex := 404, attributes := #[] }, { accessFlags := 25, nameIndex := 484, descriptorIndex := 404, attributes := #[] }, { accessFlags := 25, nameIndex := 485, descriptorIndex := 404, attributes := #[] }, { accessFlags := 25, nameIndex := 486, descriptorIndex := 404, attributes := #[] }, { accessFlags := 25, nameIndex := 487, descriptorIndex := 404, attributes := #[] }, { accessFlags := 25, nameIndex := 488, descriptorIndex := 404, attributes := #[] }, { accessFlags := 25, nameIndex := 489, descriptorIndex := 22, attributes := #[] }, { accessFlags := 25, nameIndex := 490, descriptorIndex := 22, attributes := #[] }, { accessFlags := 25, nameIndex := 492, descriptorIndex := 22, attributes := #[] }, { accessFlags := 25, nameIndex := 493, descriptorIndex := 22, attributes := #[] }, { accessFlags := 25, nameIndex := 495, descriptorIndex := 22, attributes := #[] }, { accessFlags := 25, nameIndex := 496, descriptorIndex := 22, attributes := #[] }, { accessFlags := 25, nameIndex := 497, descriptorIndex := 392, attributes := #[] }, { accessFlags := 25, nameIndex := 498, descriptorIndex := 392, attributes := #[] }, { accessFlags := 25, nameIndex := 499, descriptorIndex := 392, attributes := #[] }, { accessFlags := 18, nameIndex := 21, descriptorIndex := 22, attributes := #[] }, { accessFlags := 26, nameIndex := 501, descriptorIndex := 502, attributes := #[] }, { accessFlags := 25, nameIndex := 505, descriptorIndex := 392, attributes := #[] }, { accessFlags := 25, nameIndex := 506, descriptorIndex := 392, attributes := #[] }, { accessFlags := 4120, nameIndex := 284, descriptorIndex := 285, attributes := #[] }])
  fields := #[{ name := "MIN_RADIX", type := .int, accessFlags := 25, slot := 0, constantValue := 0 }, { name := "MAX_RADIX", type := .int, accessFlags := 25, slot := 1, constantValue := 0 }, { name := "MIN_VALUE", type := .char, accessFlags := 25, slot := 2, constantValue := 0 }, { name := "MAX_VALUE", type := .char, accessFlags := 25, slot := 3, constantValue := 0 }, { name := "TYPE", type := (.object "java/lang/Class"), accessFlags := 25, slot := 4, constantValue := 0 }, { name := "UNASSIGNED", type := .byte, accessFlags := 25, slot := 5, constantValue := 0 }, { name := "UPPERCASE_LETTER", type := .byte, accessFlags := 25, slot := 6, constantValue := 0 }, { name := "LOWERCASE_LETTER", type := .byte, accessFlags := 25, slot := 7, constantValue := 0 }, { name := "TITLECASE_LETTER", type := .byte, accessFlags := 25, slot := 8, constantValue := 0 }, { name := "MODIFIER_LETTER", type := .byte, accessFlags := 25, slot := 9, constantValue := 0 }, { name := "OTHER_LETTER", type := .byte, accessFlags := 25, slot := 10, constantValue := 0 }, { name := "NON_SPACING_MARK", type := .byte, accessFlags := 25, slot := 11, constantValue := 0 }, { name := "ENCLOSING_MARK", type := .byte, accessFlags := 25, slot := 12, constantValue := 0 }, { name := "COMBINING_SPACING_MARK", type := .byte, accessFlags := 25, slot := 13, constantValue := 0 }, { name := "DECIMAL_DIGIT_NUMBER", type := .byte, accessFlags := 25, slot := 14, constantValue := 0 }, { name := "LETTER_NUMBER", type := .byte, accessFlags := 25, slot := 15, constantValue := 0 }, { name := "OTHER_NUMBER", type := .byte, accessFlags := 25, slot := 16, constantValue := 0 }, { name := "SPACE_SEPARATOR", type := .byte, accessFlags := 25, slot := 17, constantValue := 0 }, { name := "LINE_SEPARATOR", type := .byte, accessFlags := 25, slot := 18, constantValue := 0 }, { name := "PARAGRAPH_SEPARATOR", type := .byte, accessFlags := 25, slot := 19, constantValue := 0 }, { name := "CONTROL", type := .byte, accessFlags := 25, slot := 20, constantValue := 0 }, { name := "FORMAT", type := .byte, accessFlags := 25, slot := 21, constantValue := 0 }, { name := "PRIVATE_USE", type := .byte, accessFlags := 25, slot := 22, constantValue := 0 }, { name := "SURROGATE", type := .byte, accessFlags := 25, slot := 23, constantValue := 0 }, { name := "DASH_PUNCTUATION", type := .byte, accessFlags := 25, slot := 24, constantValue := 0 }, { name := "START_PUNCTUATION", type := .byte, accessFlags := 25, slot := 25, constantValue := 0 }, { name := "END_PUNCTUATION", type := .byte, accessFlags := 25, slot := 26, constantValue := 0 }, { name := "CONNECTOR_PUNCTUATION", type := .byte, accessFlags := 25, slot := 27, constantValue := 0 }, { name := "OTHER_PUNCTUATION", type := .byte, accessFlags := 25, slot := 28, constantValue := 0 }, { name := "MATH_SYMBOL", type := .byte, accessFlags := 25, slot := 29, constantValue := 0 }, { name := "CURRENCY_SYMBOL", type := .byte, accessFlags := 25, slot := 30, constantValue := 0 }, { name := "MODIFIER_SYMBOL", type := .byte, accessFlags := 25, slot := 31, constantValue := 0 }, { name := "OTHER_SYMBOL", type := .byte, accessFlags := 25, slot := 32, constantValue := 0 }, { name := "INITIAL_QUOTE_PUNCTUATION", type := .byte, accessFlags := 25, slot := 33, constantValue := 0 }, { name := "FINAL_QUOTE_PUNCTUATION", type := .byte, accessFlags := 25, slot := 34, constantValue := 0 }, { name := "ERROR", type := .int, accessFlags := 24, slot := 35, constantValue := 0 }, { name := "DIRECTIONALITY_UNDEFINED", type := .byte, accessFlags := 25, slot := 36, constantValue := 0 }, { name := "DIRECTIONALITY_LEFT_TO_RIGHT", type := .byte, accessFlags := 25, slot := 37, constantValue := 0 }, { name := "DIRECTIONALITY_RIGHT_TO_LEFT", type := .byte, accessFlags := 25, slot := 38, constantValue := 0 }, { name := "DIRECTIONALITY_RIGHT_TO_LEFT_ARABIC", type := .byte, accessFlags := 25, slot := 39, constantValue := 0 }, { name := "DIRECTIONALITY_EUROPEAN_NUMBER", type := .byte, accessFlags := 25, slot := 40, constantValue := 0 }, { name := "DIRECTIONALITY_EUROPEAN_NUMBER_SEPARATOR", type := .byte, accessFlags := 25, slot := 41, constantValue := 0 }, { name := "DIRECTIONALITY_EUROPEAN_NUMBER_TERMINATOR", type := .byte, accessFlags := 25, slot := 42, constantValue := 0 }, { name := "DIRECTIONALITY_ARABIC_NUMBER", type := .byte, accessFlags := 25, slot := 43, constantValue := 0 }, { name := "DIRECTIONALITY_COMMON_NUMBER_SEPARATOR", type := .byte, accessFlags := 25, slot := 44, constantValue := 0 }, { name := "DIRECTIONALITY_NONSPACING_MARK", type := .byte, accessFlags := 25, slot := 45, constantValue := 0 }, { name := "DIRECTIONALITY_BOUNDARY_NEUTRAL", type := .byte, accessFlags := 25, slot := 46, constantValue := 0 }, { name := "DIRECTIONALITY_PARAGRAPH_SEPARATOR", type := .byte, accessFlags := 25, slot := 47, constantValue := 0 }, { name := "DIRECTIONALITY_SEGMENT_SEPARATOR", type := .byte, accessFlags := 25, slot := 48, constantValue := 0 }, { name := "DIRECTIONALITY_WHITESPACE", type := .byte, accessFlags := 25, slot := 49, constantValue := 0 }, { name := "DIRECTIONALITY_OTHER_NEUTRALS", type := .byte, accessFlags := 25, slot := 50, constantValue := 0 }, { name := "DIRECTIONALITY_LEFT_TO_RIGHT_EMBEDDING", type := .byte, accessFlags := 25, slot := 51, constantValue := 0 }, { name := "DIRECTIONALITY_LEFT_TO_RIGHT_OVERRIDE", type := .byte, accessFlags := 25, slot := 52, constantValue := 0 }, { name := "DIRECTIONALITY_RIGHT_TO_LEFT_EMBEDDING", type := .byte, accessFlags := 25, slot := 53, constantValue := 0 }, { name := "DIRECTIONALITY_RIGHT_TO_LEFT_OVERRIDE", type := .byte, accessFlags := 25, slot := 54, constantValue := 0 }, { name := "DIRECTIONALITY_POP_DIRECTIONAL_FORMAT", type := .byte, accessFlags := 25, slot := 55, constantValue := 0 }, { name := "DIRECTIONALITY_LEFT_TO_RIGHT_ISOLATE", type := .byte, accessFlags := 25, slot := 56, constantValue := 0 }, { name := "DIRECTIONALITY_RIGHT_TO_LEFT_ISOLATE", type := .byte, accessFlags := 25, slot := 57, constantValue := 0 }, { name := "DIRECTIONALITY_FIRST_STRONG_ISOLATE", type := .byte, accessFlags := 25, slot := 58, constantValue := 0 }, { name := "DIRECTIONALITY_POP_DIRECTIONAL_ISOLATE", type := .byte, accessFlags := 25, slot := 59, constantValue := 0 }, { name := "MIN_HIGH_SURROGATE", type := .char, accessFlags := 25, slot := 60, constantValue := 0 }, { name := "MAX_HIGH_SURROGATE", type := .char, accessFlags := 25, slot := 61, constantValue := 0 }, { name := "MIN_LOW_SURROGATE", type := .char, accessFlags := 25, slot := 62, constantValue := 0 }, { name := "MAX_LOW_SURROGATE", type := .char, accessFlags := 25, slot := 63, constantValue := 0 }, { name := "MIN_SURROGATE", type := .char, accessFlags := 25, slot := 64, constantValue := 0 }, { name := "MAX_SURROGATE", type := .char, accessFlags := 25, slot := 65, constantValue := 0 }, { name := "MIN_SUPPLEMENTARY_CODE_POINT", type := .int, accessFlags := 25, slot := 66, constantValue := 0 }, { name := "MIN_CODE_POINT", type := .int, accessFlags := 25, slot := 67, constantValue := 0 }, { name := "MAX_CODE_POINT", type := .int, accessFlags := 25, slot := 68, constantValue := 0 }, { name := "value", type := .char, accessFlags := 18, slot := 0, constantValue := 0 }, { name := "serialVersionUID", type := .long, accessFlags := 26, slot := 69, constantValue := 0 }, { name := "SIZE", type := .int, accessFlags := 25, slot := 70, constantValue := 0 }, { name := "BYTES", type := .int, accessFlags := 25, slot := 71, constantValue := 0 }, { name := "$assertionsDisabled", type := .boolean, accessFlags := 4120, slot := 72, constantValue := 0 }]
  methods := #[k14m0]
  instanceTypes := #[.char]
  staticTypes := #[.int, .int, .char, .char, (.object "java/lang/Class"), .byte, .byte, .byte, .byte, .byte, .byte, .byte, .byte, .byte, .byte, .byte, .byte, .byte, .byte, .byte, .byte, .byte, .byte, .byte, .byte, .byte, .byte, .byte, .byte, .byte, .byte, .byte, .byte, .byte, .byte, .int, .byte, .byte, .byte, .byte, .byte, .byte, .byte, .byte, .byte, .byte, .byte, .byte, .byte, .byte, .byte, .byte, .byte, .byte, .byte, .byte, .byte, .byte, .byte, .byte, .char, .char, .char, .char, .char, .char, .int, .int, .int, .long, .int, .int, .boolean]
  resolved := Array.replicate 604 none
  statics := none }

def pool15 : Array CpInfo := pool [(9, u "<init>"), (6, .class_ 18), (1, u "java/lang/Object"), (0, u "()V"), (1, .class_ 23), (1, u "jdk/internal/util/ArraysSupport"), (0, u "LOG2_ARRAY_LONG_INDEX_SCALE"), (0, u "I"), (2, u "U"), (0, u "Ljdk/internal/misc/Unsafe;"), (8, u "BIG_ENDIAN"), (0, u "Z"), (8, u "LOG2_BYTE_BIT_SIZE"), (4, u "LOG2_ARRAY_INT_INDEX_SCALE"), (54, u "JLA"), (0, u "Ljdk/internal/access/JavaLangAccess;"), (11, u "LOG2_ARRAY_BOOLEAN_INDEX_SCALE"), (9, u "LOG2_ARRAY_BYTE_INDEX_SCALE"), (5, u "LOG2_ARRAY_CHAR_INDEX_SCALE"), (5, u "LOG2_ARRAY_SHORT_INDEX_SCALE"), (18, u "LOG2_ARRAY_FLOAT_INDEX_SCALE"), (24, u "LOG2_ARRAY_DOUBLE_INDEX_SCALE"), (89, u "T_BOOLEAN"), (2, u "T_CHAR"), (1, u "T_FLOAT"), (1, u "T_DOUBLE"), (1, u "T_BYTE"), (1, u "T_SHORT"), (1, u "T_INT"), (1, u "T_LONG"), (1, u "SOFT_MAX_ARRAY_LENGTH")] 83

def k15m0 : Method := { name := "<init>", desc := "()V", sig := { parameters := [], returnType := none }, accessFlags := 2, code := none }
/-- jdk/internal/util/ArraysSupport -/
def k15 : Class := { plain "jdk/internal/util/ArraysSupport" (some 0) with
  accessFlags := 33
  interfaces := #[]
  cf := some (fileOf pool15 21 #[] #[{ accessFlags := 2, nameIndex := 9, descriptorIndex := 19, attributes := #[] }] 33 16 #[] #[{ accessFlags := 24, nameIndex := 28, descriptorIndex := 29, attributes := #[] }, { accessFlags := 26, nameIndex := 38, descriptorIndex := 39, attributes := #[] }, { accessFlags := 25, nameIndex := 121, descriptorIndex := 25, attributes := #[] }, { accessFlags := 25, nameIndex := 131, descriptorIndex := 25, attributes := #[] }, { accessFlags := 25, nameIndex := 137, descriptorIndex := 25, attributes := #[] }, { accessFlags := 25, nameIndex := 143, descriptorIndex := 25, attributes := #[] }, { accessFlags := 25, nameIndex := 53, descriptorIndex := 25, attributes := #[] }, { accessFlags := 25, nameIndex := 24, descriptorIndex := 25, attributes := #[] }, { accessFlags := 25, nameIndex := 162, descriptorIndex := 25, attributes := #[] }, { accessFlags := 25, nameIndex := 187, descriptorIndex := 25, attributes := #[] }, { accessFlags := 26, nameIndex := 48, descriptorIndex := 25, attributes := #[] }, { accessFlags := 25, nameIndex := 277, descriptorIndex := 25, attributes := #[] }, { accessFlags := 25, nameIndex := 280, descriptorIndex := 25, attributes := #[] }, { accessFlags := 25, nameIndex := 282, descriptorIndex := 25, attributes := #[] }, { accessFlags := 25, nameIndex := 284, descriptorIndex := 25, attributes := #[] }, { accessFlags := 25, nameIndex := 286, descriptorIndex := 25, attributes := #[] }, { accessFlags := 25, nameIndex := 288, descriptorIndex := 25, attributes := #[] }, { accessFlags := 25, nameIndex := 290, descriptorIndex := 25, attributes := #[] }, { accessFlags := 25, nameIndex := 292, descriptorIndex := 25, attributes := #[] }, { accessFlags := 26, nameIndex := 108, descriptorIndex := 109, attributes := #[] }, { accessFlags := 25, nameIndex := 294, descriptorIndex := 25, attributes := #[] }])
  fields := #[{ name := "U", type := (.object "jdk/internal/misc/Unsafe"), accessFlags := 24, slot := 0, constantValue := 0 }, { name := "BIG_ENDIAN", type := .boolean, accessFlags := 26, slot := 1, constantValue := 0 }, { name := "LOG2_ARRAY_BOOLEAN_INDEX_SCALE", type := .int, accessFlags := 25, slot := 2, constantValue := 0 }, { name := "LOG2_ARRAY_BYTE_INDEX_SCALE", type := .int, accessFlags := 25, slot := 3, constantValue := 0 }, { name := "LOG2_ARRAY_CHAR_INDEX_SCALE", type := .int, accessFlags := 25, slot := 4, constantValue := 0 }, { name := "LOG2_ARRAY_SHORT_INDEX_SCALE", type := .int, accessFlags := 25, slot := 5, constantValue := 0 }, { name := "LOG2_ARRAY_INT_INDEX_SCALE", type := .int, accessFlags := 25, slot := 6, constantValue := 0 }, { name := "LOG2_ARRAY_LONG_INDEX_SCALE", type := .int, accessFlags := 25, slot := 7, constantValue := 0 }, { name := "LOG2_ARRAY_FLOAT_INDEX_SCALE", type := .int, accessFlags := 25, slot := 8, constantValue := 0 }, { name := "LOG2_ARRAY_DOUBLE_INDEX_SCALE", type := .int, accessFlags := 25, slot := 9, constantValue := 0 }, { name := "LOG2_BYTE_BIT_SIZE", type := .int, accessFlags := 26, slot := 10, constantValue := 0 }, { name := "T_BOOLEAN", type := .int, accessFlags := 25, slot := 11, constantValue := 0 }, { name := "T_CHAR", type := .int, accessFlags := 25, slot := 12, constantValue := 0 }, { name := "T_FLOAT", type := .int, accessFlags := 25, slot := 13, constantValue := 0 }, { name := "T_DOUBLE", type := .int, accessFlags := 25, slot := 14, constantValue := 0 }, { name := "T_BYTE", type := .int, accessFlags := 25, slot := 15, constantValue := 0 }, { name := "T_SHORT", type := .int, accessFlags := 25, slot := 16, constantValue := 0 }, { name := "T_INT", type := .int, accessFlags := 25, slot := 17, constantValue := 0 }, { name := "T_LONG", type := .int, accessFlags := 25, slot := 18, constantValue := 0 }, { name := "JLA", type := (.object "jdk/internal/access/JavaLangAccess"), accessFlags := 26, slot := 19, constantValue := 0 }, { name := "SOFT_MAX_ARRAY_LENGTH", type := .int, accessFlags := 25, slot := 20, constantValue := 0 }]
  methods := #[k15m0]
  instanceTypes := #[]
  staticTypes := #[(.object "jdk/internal/misc/Unsafe"), .boolean, .int, .int, .int, .int, .int, .int, .int, .int, .int, .int, .int, .int, .int, .int, .int, .int, .int, (.object "jdk/internal/access/JavaLangAccess"), .int]
  resolved := Array.replicate 378 none
  statics := none }

def pool16 : Array CpInfo := pool [(1, u "java/lang/Cloneable"), (0, .class_ 1), (0, u "java/lang/Object"), (0, .class_ 3)] 3

/-- java/lang/Cloneable -/
def k16 : Class := { plain "java/lang/Cloneable" (some 0) with
  accessFlags := 1537
  interfaces := #[]
  cf := some (fileOf pool16 2 #[] #[] 1537 4 #[] #[])
  fields := #[]
  methods := #[]
  instanceTypes := #[]
  staticTypes := #[]
  resolved := Array.replicate 8 none
  statics := none }

/-- the primitive byte -/
def k17 : Class := { plain "byte" none with kind := .primitive 'B', accessFlags := 0x411 }
/-- [B -/
def k18 : Class := { plain "[B" (some 0) with kind := .array 17 .byte, interfaces := #[16, 5], accessFlags := 1041 }

/-- the primitive char -/
def k19 : Class := { plain "char" none with kind := .primitive 'C', accessFlags := 0x411 }
/-- [C -/
def k20 : Class := { plain "[C" (some 0) with kind := .array 19 .char, interfaces := #[16, 5], accessFlags := 1041 }

/-- the primitive int -/
def k21 : Class := { plain "int" none with kind := .primitive 'I', accessFlags := 0x411 }
/-- [I -/
def k22 : Class := { plain "[I" (some 0) with kind := .array 21 .int, interfaces := #[16, 5], accessFlags := 1041 }

def heap : Heap := #[{ cls := 9, slots := #[.long 0, .int 1, .null, .int 0, .null, .int 0, .int 0], vm := .statics 9 },
  { cls := 11, slots := #[.int 0, .int 8, .int 0, .int 1], vm := .statics 11 },
  { cls := 13, slots := #[.null, .null, .null], vm := .statics 13 }]
def classes : Array Class := #[k0, k1, k2, k3, k4, k5, k6, k7, k8, k9, k10, k11, k12, k13, k14, k15, k16, k17, k18, k19, k20, k21, k22]
def interned : List (Array UInt16 × Addr) := []
def slotsUsed : Nat := 14
def theMethod : MethodId := ⟨1, 1⟩
def args0 : Array Value := #[.int 5, .int 6, .int 7, .int 2, .int 0, .int 0]
def aboutOver (below : List Frame) : State where
  vm := { classes := classes, interned := interned.toArray }
  heap := heap
  slotsUsed := slotsUsed
  threads := #[{ frames := .invoking theMethod args0 :: below }]
def below0 : List Frame := [.native { method := ⟨0, 0⟩, args := #[] }]
def about1 : State := aboutOver below0
def p0 : Program := .bare "" "" ""
def e0 : Env := launch0.env 0 0 0
theorem w_frames : about1.frames = Frame.invoking theMethod args0 :: below0 := rfl
set_option maxRecDepth 65536 in
theorem w_args : argsFit about1.vm theMethod args0 = true := by decide +kernel
set_option maxRecDepth 65536 in
theorem w_heap : heapFits about1 = true := by decide +kernel
set_option maxRecDepth 65536 in
theorem w_runnable : about1.curStatus? = some .runnable := by decide +kernel
set_option maxRecDepth 65536 in
theorem w_alone : about1.alone = true := by decide +kernel
set_option maxRecDepth 65536 in
theorem w_named : about1.methodNamed? x = some theMethod := by decide +kernel
set_option maxRecDepth 65536 in
theorem w_hears : about1.hears theMethod below0 = true := by decide +kernel
set_option maxRecDepth 65536 in
theorem w_ripe : about1.ripe theMethod args0 below0 = true := by decide +kernel
theorem w_running : about1.status = .running := rfl
set_option maxRecDepth 65536 in
theorem w_room : about1.hasRoom e0.platform room_1 = true :=
  launch0.hasRoom_least _ room_1 (by decide +kernel) (by decide +kernel) (by decide +kernel) (by decide +kernel) (by decide +kernel) (by decide +kernel)
theorem allAtoms_all (ts : List Jvm.Cond) (a : Array Jvm.Value) (st : Jvm.State) : (allAtoms ts).before a st = ts.all (fun c => c.before a st) := by
  induction ts with
  | nil => rfl
  | cons c t ih =>
    show (Jvm.Cond.and c (allAtoms t)).before a st = _
    rw [Jvm.Cond.before_and, ih, List.all_cons]
def words1 : List Jvm.Cond := Jvm.Cond.code x code maxLocals ret :: tables_1
/-- a 'code' word, met by the world's own term for the bytes: nothing is compared byte by byte -/
theorem code_word {y : MethodName} {bytes : ByteArray} {mx : Nat} {rt : Option FieldType} {a : Array Value} {s : State} {m : MethodId} {meth : Method} {c : Code} (h1 : s.methodNamed? y = some m) (h2 : s.vm.method? m = some meth) (h3 : meth.code = some c) (h4 : c.code = bytes)
    (h5 : (c.maxLocals == mx && c.exceptionTable.isEmpty && decide (c.maxStack ≤ mostOperands) && decide (meth.sig.returnType = rt) && !meth.locks && decide (parseMethodDescriptor y.desc = some meth.sig)) = true) : (Jvm.Cond.code y bytes mx rt).before a s = true := by
  simp only [Bool.and_eq_true, beq_iff_eq, Bool.not_eq_true', decide_eq_true_eq] at h5
  obtain ⟨⟨⟨⟨⟨g1, g2⟩, g3⟩, g4⟩, g5⟩, g6⟩ := h5
  simp [Cond.before, Cond.holds, Cond.value, h1, h2, h3, h4, g1, g2, g3, g4, g5, g6]
def isCode : Jvm.Cond → Bool
  | .code _ _ _ _ => true
  | _ => false
theorem all_split {L : List Jvm.Cond} {P : Jvm.Cond → Bool} (h1 : L.all (fun c => isCode c || P c) = true) (h2 : ∀ c ∈ L.filter isCode, P c = true) : L.all P = true := by
  refine List.all_eq_true.mpr fun c hc => ?_
  have h := List.all_eq_true.mp h1 c hc
  rcases Bool.eq_false_or_eq_true (isCode c) with hi | hi
  · exact h2 c (List.mem_filter.mpr ⟨hc, hi⟩)
  · simpa [hi] using h
set_option maxRecDepth 65536 in
theorem w_c0 : (Jvm.Cond.code x code maxLocals ret).before args0 about1 = true := code_word (m := ⟨1, 1⟩) (meth := k1m1) (c := k1c1) (by decide +kernel) rfl rfl rfl (by decide +kernel)
set_option maxRecDepth 65536 in
theorem w_c1 : (Jvm.Cond.code ({ cls := "com/example/abakus/abakus/conversation/MailboxThreadCompareToPinLaw", name := "str", desc := "(CCI)Ljava/lang/String;" } : Jvm.MethodName) method_3_code (3 : Nat) (Option.some (Jvm.ClassFile.FieldType.object "java/lang/String"))).before args0 about1 = true := code_word (m := ⟨1, 2⟩) (meth := k1m2) (c := k1c2) (by decide +kernel) rfl rfl rfl (by decide +kernel)
set_option maxRecDepth 65536 in
theorem w_c2 : (Jvm.Cond.code ({ cls := "java/lang/String", name := "<init>", desc := "([C)V" } : Jvm.MethodName) jdk_42_method_3_code (2 : Nat) (Option.none : Option Jvm.ClassFile.FieldType)).before args0 about1 = true := code_word (m := ⟨9, 1⟩) (meth := k9m1) (c := k9c1) (by decide +kernel) rfl rfl rfl (by decide +kernel)
set_option maxRecDepth 65536 in
theorem w_c3 : (Jvm.Cond.code ({ cls := "java/lang/String", name := "<init>", desc := "([CIILjava/lang/Void;)V" } : Jvm.MethodName) jdk_42_method_149_code (6 : Nat) (Option.none : Option Jvm.ClassFile.FieldType)).before args0 about1 = true := code_word (m := ⟨9, 4⟩) (meth := k9m4) (c := k9c4) (by decide +kernel) rfl rfl rfl (by decide +kernel)
set_option maxRecDepth 65536 in
theorem w_c4 : (Jvm.Cond.code ({ cls := "java/lang/Object", name := "<init>", desc := "()V" } : Jvm.MethodName) object_method_1_code (1 : Nat) (Option.none : Option Jvm.ClassFile.FieldType)).before args0 about1 = true := code_word (m := ⟨0, 0⟩) (meth := k0m0) (c := k0c0) (by decide +kernel) rfl rfl rfl (by decide +kernel)
set_option maxRecDepth 65536 in
theorem w_c5 : (Jvm.Cond.code ({ cls := "com/example/abakus/abakus/conversation/MailboxThread", name := "<init>", desc := "(Ljava/lang/String;Ljava/lang/String;)V" } : Jvm.MethodName) prog_4_method_1_code (3 : Nat) (Option.none : Option Jvm.ClassFile.FieldType)).before args0 about1 = true := code_word (m := ⟨4, 0⟩) (meth := k4m0) (c := k4c0) (by decide +kernel) rfl rfl rfl (by decide +kernel)
set_option maxRecDepth 65536 in
theorem w_c6 : (Jvm.Cond.code ({ cls := "java/lang/Record", name := "<init>", desc := "()V" } : Jvm.MethodName) jdk_30_method_1_code (1 : Nat) (Option.none : Option Jvm.ClassFile.FieldType)).before args0 about1 = true := code_word (m := ⟨2, 0⟩) (meth := k2m0) (c := k2c0) (by decide +kernel) rfl rfl rfl (by decide +kernel)
set_option maxRecDepth 65536 in
theorem w_c7 : (Jvm.Cond.code ({ cls := "com/example/abakus/abakus/conversation/MailboxThread", name := "compareTo", desc := "(Lcom/example/abakus/abakus/conversation/MailboxThread;)I" } : Jvm.MethodName) prog_4_method_2_code (3 : Nat) (Option.some Jvm.ClassFile.FieldType.int)).before args0 about1 = true := code_word (m := ⟨4, 1⟩) (meth := k4m1) (c := k4c1) (by decide +kernel) rfl rfl rfl (by decide +kernel)
set_option maxRecDepth 65536 in
theorem w_c8 : (Jvm.Cond.code ({ cls := "com/example/abakus/abakus/conversation/MailboxThread", name := "compareUtf8", desc := "(Ljava/lang/String;Ljava/lang/String;)I" } : Jvm.MethodName) prog_4_method_3_code (6 : Nat) (Option.some Jvm.ClassFile.FieldType.int)).before args0 about1 = true := code_word (m := ⟨4, 2⟩) (meth := k4m2) (c := k4c2) (by decide +kernel) rfl rfl rfl (by decide +kernel)
set_option maxRecDepth 65536 in
theorem w_c9 : (Jvm.Cond.code ({ cls := "java/lang/String", name := "length", desc := "()I" } : Jvm.MethodName) jdk_42_method_54_code (1 : Nat) (Option.some Jvm.ClassFile.FieldType.int)).before args0 about1 = true := code_word (m := ⟨9, 2⟩) (meth := k9m2) (c := k9c2) (by decide +kernel) rfl rfl rfl (by decide +kernel)
set_option maxRecDepth 65536 in
theorem w_c10 : (Jvm.Cond.code ({ cls := "java/lang/String", name := "coder", desc := "()B" } : Jvm.MethodName) jdk_42_method_152_code (1 : Nat) (Option.some Jvm.ClassFile.FieldType.byte)).before args0 about1 = true := code_word (m := ⟨9, 5⟩) (meth := k9m5) (c := k9c5) (by decide +kernel) rfl rfl rfl (by decide +kernel)
set_option maxRecDepth 65536 in
theorem w_c11 : (Jvm.Cond.code ({ cls := "java/lang/Math", name := "min", desc := "(II)I" } : Jvm.MethodName) jdk_29_method_69_code (2 : Nat) (Option.some Jvm.ClassFile.FieldType.int)).before args0 about1 = true := code_word (m := ⟨10, 1⟩) (meth := k10m1) (c := k10c1) (by decide +kernel) rfl rfl rfl (by decide +kernel)
set_option maxRecDepth 65536 in
theorem w_c12 : (Jvm.Cond.code ({ cls := "com/example/abakus/abakus/conversation/MailboxThreadCompareToPinLaw", name := "ref", desc := "(CCICCI)I" } : Jvm.MethodName) method_7_code (7 : Nat) (Option.some Jvm.ClassFile.FieldType.int)).before args0 about1 = true := code_word (m := ⟨1, 6⟩) (meth := k1m6) (c := k1c6) (by decide +kernel) rfl rfl rfl (by decide +kernel)
set_option maxRecDepth 65536 in
theorem w_c13 : (Jvm.Cond.code ({ cls := "com/example/abakus/abakus/conversation/MailboxThreadCompareToPinLaw", name := "at", desc := "(CCII)I" } : Jvm.MethodName) method_5_code (4 : Nat) (Option.some Jvm.ClassFile.FieldType.int)).before args0 about1 = true := code_word (m := ⟨1, 4⟩) (meth := k1m4) (c := k1c4) (by decide +kernel) rfl rfl rfl (by decide +kernel)
set_option maxRecDepth 65536 in
theorem w_c14 : (Jvm.Cond.code ({ cls := "com/example/abakus/abakus/conversation/MailboxThreadCompareToPinLaw", name := "order", desc := "(II)I" } : Jvm.MethodName) method_6_code (2 : Nat) (Option.some Jvm.ClassFile.FieldType.int)).before args0 about1 = true := code_word (m := ⟨1, 5⟩) (meth := k1m5) (c := k1c5) (by decide +kernel) rfl rfl rfl (by decide +kernel)
set_option maxRecDepth 65536 in
theorem w_c15 : (Jvm.Cond.code ({ cls := "com/example/abakus/abakus/conversation/MailboxThreadCompareToPinLaw", name := "sgn", desc := "(I)I" } : Jvm.MethodName) method_8_code (1 : Nat) (Option.some Jvm.ClassFile.FieldType.int)).before args0 about1 = true := code_word (m := ⟨1, 7⟩) (meth := k1m7) (c := k1c7) (by decide +kernel) rfl rfl rfl (by decide +kernel)
set_option maxRecDepth 65536 in
theorem w_c16 : (Jvm.Cond.code ({ cls := "java/lang/StringUTF16", name := "compress", desc := "([CII)[B" } : Jvm.MethodName) jdk_52_method_16_code (6 : Nat) (Option.some (Jvm.ClassFile.FieldType.array Jvm.ClassFile.FieldType.byte))).before args0 about1 = true := code_word (m := ⟨11, 8⟩) (meth := k11m8) (c := k11c8) (by decide +kernel) rfl rfl rfl (by decide +kernel)
set_option maxRecDepth 65536 in
theorem w_c17 : (Jvm.Cond.code ({ cls := "java/lang/StringUTF16", name := "compress", desc := "([CI[BII)I" } : Jvm.MethodName) jdk_52_method_21_code (7 : Nat) (Option.some Jvm.ClassFile.FieldType.int)).before args0 about1 = true := code_word (m := ⟨11, 9⟩) (meth := k11m9) (c := k11c9) (by decide +kernel) rfl rfl rfl (by decide +kernel)
set_option maxRecDepth 65536 in
theorem w_c18 : (Jvm.Cond.code ({ cls := "java/lang/StringUTF16", name := "coderFromArrayLen", desc := "([BI)B" } : Jvm.MethodName) jdk_52_method_15_code (2 : Nat) (Option.some Jvm.ClassFile.FieldType.byte)).before args0 about1 = true := code_word (m := ⟨11, 7⟩) (meth := k11m7) (c := k11c7) (by decide +kernel) rfl rfl rfl (by decide +kernel)
set_option maxRecDepth 65536 in
theorem w_c19 : (Jvm.Cond.code ({ cls := "com/example/abakus/abakus/conversation/MailboxThreadCompareToPinLaw", name := "key", desc := "(C)I" } : Jvm.MethodName) method_4_code (1 : Nat) (Option.some Jvm.ClassFile.FieldType.int)).before args0 about1 = true := code_word (m := ⟨1, 3⟩) (meth := k1m3) (c := k1c3) (by decide +kernel) rfl rfl rfl (by decide +kernel)
set_option maxRecDepth 65536 in
theorem w_c20 : (Jvm.Cond.code ({ cls := "java/lang/String", name := "charAt", desc := "(I)C" } : Jvm.MethodName) jdk_42_method_56_code (2 : Nat) (Option.some Jvm.ClassFile.FieldType.char)).before args0 about1 = true := code_word (m := ⟨9, 3⟩) (meth := k9m3) (c := k9c3) (by decide +kernel) rfl rfl rfl (by decide +kernel)
set_option maxRecDepth 65536 in
theorem w_c21 : (Jvm.Cond.code ({ cls := "java/lang/String", name := "isLatin1", desc := "()Z" } : Jvm.MethodName) jdk_42_method_154_code (1 : Nat) (Option.some Jvm.ClassFile.FieldType.boolean)).before args0 about1 = true := code_word (m := ⟨9, 6⟩) (meth := k9m6) (c := k9c6) (by decide +kernel) rfl rfl rfl (by decide +kernel)
set_option maxRecDepth 65536 in
theorem w_c22 : (Jvm.Cond.code ({ cls := "java/lang/StringLatin1", name := "charAt", desc := "([BI)C" } : Jvm.MethodName) jdk_43_method_2_code (2 : Nat) (Option.some Jvm.ClassFile.FieldType.char)).before args0 about1 = true := code_word (m := ⟨12, 1⟩) (meth := k12m1) (c := k12c1) (by decide +kernel) rfl rfl rfl (by decide +kernel)
set_option maxRecDepth 65536 in
theorem w_c23 : (Jvm.Cond.code ({ cls := "java/lang/String", name := "checkIndex", desc := "(II)V" } : Jvm.MethodName) jdk_42_method_155_code (2 : Nat) (Option.none : Option Jvm.ClassFile.FieldType)).before args0 about1 = true := code_word (m := ⟨9, 7⟩) (meth := k9m7) (c := k9c7) (by decide +kernel) rfl rfl rfl (by decide +kernel)
set_option maxRecDepth 65536 in
theorem w_c24 : (Jvm.Cond.code ({ cls := "jdk/internal/util/Preconditions", name := "checkIndex", desc := "(IILjava/util/function/BiFunction;)I" } : Jvm.MethodName) jdk_41_method_11_code (3 : Nat) (Option.some Jvm.ClassFile.FieldType.int)).before args0 about1 = true := code_word (m := ⟨13, 1⟩) (meth := k13m1) (c := k13c1) (by decide +kernel) rfl rfl rfl (by decide +kernel)
set_option maxRecDepth 65536 in
theorem w_c25 : (Jvm.Cond.code ({ cls := "java/lang/StringUTF16", name := "toBytes", desc := "([CII)[B" } : Jvm.MethodName) jdk_52_method_14_code (5 : Nat) (Option.some (Jvm.ClassFile.FieldType.array Jvm.ClassFile.FieldType.byte))).before args0 about1 = true := code_word (m := ⟨11, 6⟩) (meth := k11m6) (c := k11c6) (by decide +kernel) rfl rfl rfl (by decide +kernel)
set_option maxRecDepth 65536 in
theorem w_c26 : (Jvm.Cond.code ({ cls := "java/lang/StringUTF16", name := "newBytesFor", desc := "(I)[B" } : Jvm.MethodName) jdk_52_method_2_code (1 : Nat) (Option.some (Jvm.ClassFile.FieldType.array Jvm.ClassFile.FieldType.byte))).before args0 about1 = true := code_word (m := ⟨11, 1⟩) (meth := k11m1) (c := k11c1) (by decide +kernel) rfl rfl rfl (by decide +kernel)
set_option maxRecDepth 65536 in
theorem w_c27 : (Jvm.Cond.code ({ cls := "java/lang/StringUTF16", name := "newBytesLength", desc := "(I)I" } : Jvm.MethodName) jdk_52_method_3_code (1 : Nat) (Option.some Jvm.ClassFile.FieldType.int)).before args0 about1 = true := code_word (m := ⟨11, 2⟩) (meth := k11m2) (c := k11c2) (by decide +kernel) rfl rfl rfl (by decide +kernel)
set_option maxRecDepth 65536 in
theorem w_c28 : (Jvm.Cond.code ({ cls := "java/lang/StringUTF16", name := "putChar", desc := "([BII)V" } : Jvm.MethodName) jdk_52_method_4_code (3 : Nat) (Option.none : Option Jvm.ClassFile.FieldType)).before args0 about1 = true := code_word (m := ⟨11, 3⟩) (meth := k11m3) (c := k11c3) (by decide +kernel) rfl rfl rfl (by decide +kernel)
set_option maxRecDepth 65536 in
theorem w_c29 : (Jvm.Cond.code ({ cls := "java/lang/StringUTF16", name := "getChar", desc := "([BI)C" } : Jvm.MethodName) jdk_52_method_5_code (2 : Nat) (Option.some Jvm.ClassFile.FieldType.char)).before args0 about1 = true := code_word (m := ⟨11, 4⟩) (meth := k11m4) (c := k11c4) (by decide +kernel) rfl rfl rfl (by decide +kernel)
set_option maxRecDepth 65536 in
theorem w_c30 : (Jvm.Cond.code ({ cls := "java/lang/StringUTF16", name := "charAt", desc := "([BI)C" } : Jvm.MethodName) jdk_52_method_83_code (2 : Nat) (Option.some Jvm.ClassFile.FieldType.char)).before args0 about1 = true := code_word (m := ⟨11, 10⟩) (meth := k11m10) (c := k11c10) (by decide +kernel) rfl rfl rfl (by decide +kernel)
set_option maxRecDepth 65536 in
theorem w_c31 : (Jvm.Cond.code ({ cls := "java/lang/StringUTF16", name := "checkIndex", desc := "(I[B)V" } : Jvm.MethodName) jdk_52_method_91_code (2 : Nat) (Option.none : Option Jvm.ClassFile.FieldType)).before args0 about1 = true := code_word (m := ⟨11, 11⟩) (meth := k11m11) (c := k11c11) (by decide +kernel) rfl rfl rfl (by decide +kernel)
set_option maxRecDepth 65536 in
theorem w_c32 : (Jvm.Cond.code ({ cls := "java/lang/StringUTF16", name := "length", desc := "([B)I" } : Jvm.MethodName) jdk_52_method_6_code (1 : Nat) (Option.some Jvm.ClassFile.FieldType.int)).before args0 about1 = true := code_word (m := ⟨11, 5⟩) (meth := k11m5) (c := k11c5) (by decide +kernel) rfl rfl rfl (by decide +kernel)
set_option maxRecDepth 65536 in
theorem w_c33 : (Jvm.Cond.code ({ cls := "com/example/abakus/abakus/conversation/MailboxThread", name := "weight", desc := "(C)I" } : Jvm.MethodName) prog_4_method_4_code (1 : Nat) (Option.some Jvm.ClassFile.FieldType.int)).before args0 about1 = true := code_word (m := ⟨4, 3⟩) (meth := k4m3) (c := k4c3) (by decide +kernel) rfl rfl rfl (by decide +kernel)
set_option maxRecDepth 65536 in
theorem w_c34 : (Jvm.Cond.code ({ cls := "java/lang/Character", name := "isSurrogate", desc := "(C)Z" } : Jvm.MethodName) jdk_89_method_16_code (1 : Nat) (Option.some Jvm.ClassFile.FieldType.boolean)).before args0 about1 = true := code_word (m := ⟨14, 0⟩) (meth := k14m0) (c := k14c0) (by decide +kernel) rfl rfl rfl (by decide +kernel)
def codes1 : List Jvm.Cond := [Jvm.Cond.code x code maxLocals ret, Jvm.Cond.code ({ cls := "com/example/abakus/abakus/conversation/MailboxThreadCompareToPinLaw", name := "str", desc := "(CCI)Ljava/lang/String;" } : Jvm.MethodName) method_3_code (3 : Nat) (Option.some (Jvm.ClassFile.FieldType.object "java/lang/String")), Jvm.Cond.code ({ cls := "java/lang/String", name := "<init>", desc := "([C)V" } : Jvm.MethodName) jdk_42_method_3_code (2 : Nat) (Option.none : Option Jvm.ClassFile.FieldType), Jvm.Cond.code ({ cls := "java/lang/String", name := "<init>", desc := "([CIILjava/lang/Void;)V" } : Jvm.MethodName) jdk_42_method_149_code (6 : Nat) (Option.none : Option Jvm.ClassFile.FieldType), Jvm.Cond.code ({ cls := "java/lang/Object", name := "<init>", desc := "()V" } : Jvm.MethodName) object_method_1_code (1 : Nat) (Option.none : Option Jvm.ClassFile.FieldType), Jvm.Cond.code ({ cls := "com/example/abakus/abakus/conversation/MailboxThread", name := "<init>", desc := "(Ljava/lang/String;Ljava/lang/String;)V" } : Jvm.MethodName) prog_4_method_1_code (3 : Nat) (Option.none : Option Jvm.ClassFile.FieldType), Jvm.Cond.code ({ cls := "java/lang/Record", name := "<init>", desc := "()V" } : Jvm.MethodName) jdk_30_method_1_code (1 : Nat) (Option.none : Option Jvm.ClassFile.FieldType), Jvm.Cond.code ({ cls := "com/example/abakus/abakus/conversation/MailboxThread", name := "compareTo", desc := "(Lcom/example/abakus/abakus/conversation/MailboxThread;)I" } : Jvm.MethodName) prog_4_method_2_code (3 : Nat) (Option.some Jvm.ClassFile.FieldType.int), Jvm.Cond.code ({ cls := "com/example/abakus/abakus/conversation/MailboxThread", name := "compareUtf8", desc := "(Ljava/lang/String;Ljava/lang/String;)I" } : Jvm.MethodName) prog_4_method_3_code (6 : Nat) (Option.some Jvm.ClassFile.FieldType.int), Jvm.Cond.code ({ cls := "java/lang/String", name := "length", desc := "()I" } : Jvm.MethodName) jdk_42_method_54_code (1 : Nat) (Option.some Jvm.ClassFile.FieldType.int), Jvm.Cond.code ({ cls := "java/lang/String", name := "coder", desc := "()B" } : Jvm.MethodName) jdk_42_method_152_code (1 : Nat) (Option.some Jvm.ClassFile.FieldType.byte), Jvm.Cond.code ({ cls := "java/lang/Math", name := "min", desc := "(II)I" } : Jvm.MethodName) jdk_29_method_69_code (2 : Nat) (Option.some Jvm.ClassFile.FieldType.int), Jvm.Cond.code ({ cls := "com/example/abakus/abakus/conversation/MailboxThreadCompareToPinLaw", name := "ref", desc := "(CCICCI)I" } : Jvm.MethodName) method_7_code (7 : Nat) (Option.some Jvm.ClassFile.FieldType.int), Jvm.Cond.code ({ cls := "com/example/abakus/abakus/conversation/MailboxThreadCompareToPinLaw", name := "at", desc := "(CCII)I" } : Jvm.MethodName) method_5_code (4 : Nat) (Option.some Jvm.ClassFile.FieldType.int), Jvm.Cond.code ({ cls := "com/example/abakus/abakus/conversation/MailboxThreadCompareToPinLaw", name := "order", desc := "(II)I" } : Jvm.MethodName) method_6_code (2 : Nat) (Option.some Jvm.ClassFile.FieldType.int), Jvm.Cond.code ({ cls := "com/example/abakus/abakus/conversation/MailboxThreadCompareToPinLaw", name := "sgn", desc := "(I)I" } : Jvm.MethodName) method_8_code (1 : Nat) (Option.some Jvm.ClassFile.FieldType.int), Jvm.Cond.code ({ cls := "java/lang/StringUTF16", name := "compress", desc := "([CII)[B" } : Jvm.MethodName) jdk_52_method_16_code (6 : Nat) (Option.some (Jvm.ClassFile.FieldType.array Jvm.ClassFile.FieldType.byte)), Jvm.Cond.code ({ cls := "java/lang/StringUTF16", name := "compress", desc := "([CI[BII)I" } : Jvm.MethodName) jdk_52_method_21_code (7 : Nat) (Option.some Jvm.ClassFile.FieldType.int), Jvm.Cond.code ({ cls := "java/lang/StringUTF16", name := "coderFromArrayLen", desc := "([BI)B" } : Jvm.MethodName) jdk_52_method_15_code (2 : Nat) (Option.some Jvm.ClassFile.FieldType.byte), Jvm.Cond.code ({ cls := "com/example/abakus/abakus/conversation/MailboxThreadCompareToPinLaw", name := "key", desc := "(C)I" } : Jvm.MethodName) method_4_code (1 : Nat) (Option.some Jvm.ClassFile.FieldType.int), Jvm.Cond.code ({ cls := "java/lang/String", name := "charAt", desc := "(I)C" } : Jvm.MethodName) jdk_42_method_56_code (2 : Nat) (Option.some Jvm.ClassFile.FieldType.char), Jvm.Cond.code ({ cls := "java/lang/String", name := "isLatin1", desc := "()Z" } : Jvm.MethodName) jdk_42_method_154_code (1 : Nat) (Option.some Jvm.ClassFile.FieldType.boolean), Jvm.Cond.code ({ cls := "java/lang/StringLatin1", name := "charAt", desc := "([BI)C" } : Jvm.MethodName) jdk_43_method_2_code (2 : Nat) (Option.some Jvm.ClassFile.FieldType.char), Jvm.Cond.code ({ cls := "java/lang/String", name := "checkIndex", desc := "(II)V" } : Jvm.MethodName) jdk_42_method_155_code (2 : Nat) (Option.none : Option Jvm.ClassFile.FieldType), Jvm.Cond.code ({ cls := "jdk/internal/util/Preconditions", name := "checkIndex", desc := "(IILjava/util/function/BiFunction;)I" } : Jvm.MethodName) jdk_41_method_11_code (3 : Nat) (Option.some Jvm.ClassFile.FieldType.int), Jvm.Cond.code ({ cls := "java/lang/StringUTF16", name := "toBytes", desc := "([CII)[B" } : Jvm.MethodName) jdk_52_method_14_code (5 : Nat) (Option.some (Jvm.ClassFile.FieldType.array Jvm.ClassFile.FieldType.byte)), Jvm.Cond.code ({ cls := "java/lang/StringUTF16", name := "newBytesFor", desc := "(I)[B" } : Jvm.MethodName) jdk_52_method_2_code (1 : Nat) (Option.some (Jvm.ClassFile.FieldType.array Jvm.ClassFile.FieldType.byte)), Jvm.Cond.code ({ cls := "java/lang/StringUTF16", name := "newBytesLength", desc := "(I)I" } : Jvm.MethodName) jdk_52_method_3_code (1 : Nat) (Option.some Jvm.ClassFile.FieldType.int), Jvm.Cond.code ({ cls := "java/lang/StringUTF16", name := "putChar", desc := "([BII)V" } : Jvm.MethodName) jdk_52_method_4_code (3 : Nat) (Option.none : Option Jvm.ClassFile.FieldType), Jvm.Cond.code ({ cls := "java/lang/StringUTF16", name := "getChar", desc := "([BI)C" } : Jvm.MethodName) jdk_52_method_5_code (2 : Nat) (Option.some Jvm.ClassFile.FieldType.char), Jvm.Cond.code ({ cls := "java/lang/StringUTF16", name := "charAt", desc := "([BI)C" } : Jvm.MethodName) jdk_52_method_83_code (2 : Nat) (Option.some Jvm.ClassFile.FieldType.char), Jvm.Cond.code ({ cls := "java/lang/StringUTF16", name := "checkIndex", desc := "(I[B)V" } : Jvm.MethodName) jdk_52_method_91_code (2 : Nat) (Option.none : Option Jvm.ClassFile.FieldType), Jvm.Cond.code ({ cls := "java/lang/StringUTF16", name := "length", desc := "([B)I" } : Jvm.MethodName) jdk_52_method_6_code (1 : Nat) (Option.some Jvm.ClassFile.FieldType.int), Jvm.Cond.code ({ cls := "com/example/abakus/abakus/conversation/MailboxThread", name := "weight", desc := "(C)I" } : Jvm.MethodName) prog_4_method_4_code (1 : Nat) (Option.some Jvm.ClassFile.FieldType.int), Jvm.Cond.code ({ cls := "java/lang/Character", name := "isSurrogate", desc := "(C)Z" } : Jvm.MethodName) jdk_89_method_16_code (1 : Nat) (Option.some Jvm.ClassFile.FieldType.boolean)]
set_option maxRecDepth 65536 in
theorem codes_eq : words1.filter isCode = codes1 := rfl
theorem w_codes : ∀ c ∈ words1.filter isCode, c.before args0 about1 = true := by
  rw [codes_eq]
  intro c hc
  simp only [codes1, List.mem_cons, List.not_mem_nil, or_false] at hc
  rcases hc with rfl | rfl | rfl | rfl | rfl | rfl | rfl | rfl | rfl | rfl | rfl | rfl | rfl | rfl | rfl | rfl | rfl | rfl | rfl | rfl | rfl | rfl | rfl | rfl | rfl | rfl | rfl | rfl | rfl | rfl | rfl | rfl | rfl | rfl | rfl
  · exact w_c0
  · exact w_c1
  · exact w_c2
  · exact w_c3
  · exact w_c4
  · exact w_c5
  · exact w_c6
  · exact w_c7
  · exact w_c8
  · exact w_c9
  · exact w_c10
  · exact w_c11
  · exact w_c12
  · exact w_c13
  · exact w_c14
  · exact w_c15
  · exact w_c16
  · exact w_c17
  · exact w_c18
  · exact w_c19
  · exact w_c20
  · exact w_c21
  · exact w_c22
  · exact w_c23
  · exact w_c24
  · exact w_c25
  · exact w_c26
  · exact w_c27
  · exact w_c28
  · exact w_c29
  · exact w_c30
  · exact w_c31
  · exact w_c32
  · exact w_c33
  · exact w_c34
set_option maxRecDepth 65536 in
theorem w_t1 : (words1.take 24).all (fun c => isCode c || c.before args0 about1) = true := by decide +kernel
set_option maxRecDepth 65536 in
theorem w_t2 : ((words1.drop 24).take 24).all (fun c => isCode c || c.before args0 about1) = true := by decide +kernel
set_option maxRecDepth 65536 in
theorem w_t3 : (((words1.drop 24).drop 24).take 24).all (fun c => isCode c || c.before args0 about1) = true := by decide +kernel
set_option maxRecDepth 65536 in
theorem w_t4 : ((((words1.drop 24).drop 24).drop 24).take 24).all (fun c => isCode c || c.before args0 about1) = true := by decide +kernel
set_option maxRecDepth 65536 in
theorem w_t5 : (((((words1.drop 24).drop 24).drop 24).drop 24).take 24).all (fun c => isCode c || c.before args0 about1) = true := by decide +kernel
set_option maxRecDepth 65536 in
theorem w_t6 : ((((((words1.drop 24).drop 24).drop 24).drop 24).drop 24).take 24).all (fun c => isCode c || c.before args0 about1) = true := by decide +kernel
set_option maxRecDepth 65536 in
theorem w_t7 : ((((((words1.drop 24).drop 24).drop 24).drop 24).drop 24).drop 24).all (fun c => isCode c || c.before args0 about1) = true := by decide +kernel
theorem w_tables : (allAtoms (Jvm.Cond.code x code maxLocals ret :: tables_1)).before args0 about1 = true := by
  rw [allAtoms_all]
  show words1.all (fun c => c.before args0 about1) = true
  refine all_split ?_ w_codes
  rw [← List.take_append_drop 24 words1, List.all_append, w_t1, ← List.take_append_drop 24 (words1.drop 24), List.all_append, w_t2, ← List.take_append_drop 24 ((words1.drop 24).drop 24), List.all_append, w_t3, ← List.take_append_drop 24 (((words1.drop 24).drop 24).drop 24), List.all_append, w_t4, ← List.take_append_drop 24 ((((words1.drop 24).drop 24).drop 24).drop 24), List.all_append, w_t5, ← List.take_append_drop 24 (((((words1.drop 24).drop 24).drop 24).drop 24).drop 24), List.all_append, w_t6, w_t7]
  rfl
set_option maxRecDepth 65536 in
theorem w_rest : rest_1_c.before args0 about1 = true := by decide +kernel
set_option maxRecDepth 65536 in
theorem w_case : (Jvm.Cond.and given_1 narrow_1).before args0 about1 = true := by decide +kernel
set_option maxRecDepth 65536 in
theorem w_consts : constsHeld consts_1 about1 := Jvm.Lit.constsHeldB_iff.mp (by decide +kernel)
theorem w_applies : (headSpec (Jvm.Cond.code x code maxLocals ret :: tables_1) room_1).applies x e0.platform about1 = true :=
  (Spec.applies_iff w_frames).mpr ⟨w_running, w_runnable, w_alone, w_named, w_hears, w_ripe, w_room, w_tables⟩
theorem atStart : AtStart classFile x code maxLocals ret World_1 tables_1 room_1 Calls_1 rest_1 Pre_1 launch0 p0 e0 about1 theMethod args0 below0 :=
  ⟨lists_1, trivial, launch0.admits_env _ _ _, launch0.least_env, fairChoices_fair.cas, fairChoices_fair.clock, w_frames, w_args, w_heap, w_applies, ⟨w_consts, trivial⟩, w_rest, w_case⟩
end start1
theorem witness_1 : WitnessClaimed_1 := ⟨start1.p0, start1.e0, start1.about1, start1.theMethod, start1.args0, start1.below0, start1.atStart⟩
end Jvm.Pilot.@@N@@
