import JvmDerived
import JvmDerived.Pilot.@@N@@Statement
import JvmDerived.Pilot.@@N@@Code
set_option linter.unusedVariables false
set_option linter.unusedSimpArgs false
namespace Jvm.Pilot.@@N@@
open Jvm Jvm.ClassFile Sem Op Lib Jvm.Free Jvm.Stand Jvm.LawKit Jvm.RoadKit Bundle Jvm.Pilot.@@N@@.Jvm.D
/-! OwnKit: one predicate for where a walk stands (Wk), one for what is still to be shown (Wp), and a lemma a step, in continuation form. -/
section OwnKit
variable {p : Program} {l : Launch} {e : Env} {R : Room} {s : State} {vm0 : Vm} {m : MethodId} {args : Array Value} {below : List Frame} {meth : Method} {c : Code} {Z : State} {own : String} {n0 : Nat} {B : ByteArray} {ML : Nat} {ret : Option FieldType} {T : State} {h : Heap} {locs : List Loc} {cells slots : Nat} {a0 : Array Value} {Post : Outcome → State → Prop} {pc : Nat} {L : Array Slot} {S : List Value}
/-- where a walk stands -/
def Wk (p : Program) (l : Launch) (e : Env) (R : Room) (s : State) (vm0 : Vm) (m : MethodId) (args : Array Value) (below : List Frame) (meth : Method) (c : Code) (Z : State) (own : String) (n0 : Nat) (B : ByteArray) (ML : Nat) (ret : Option FieldType) (T : State) (h : Heap) (locs : List Loc) (cells slots : Nat) : Prop :=
  Stand p l e R (s.setVm vm0) m args below meth c T locs cells slots ∧ s.Since vm0 h.size ∧ Z.Warmed39 vm0 ∧ vm0.findClass own = some m.cls ∧ T.heap = h ∧ Fr n0 locs ∧ p.tables.exec = Jvm.exec ∧ c.code = B ∧ c.maxLocals = ML ∧ meth.sig.returnType = ret ∧ meth.locks = false
/-- what is still to be shown -/
def Wp (p : Program) (e : Env) (below : List Frame) (Post : Outcome → State → Prop) (T : State) (g : JFrame) : Prop :=
  ∃ s₂ o, Steps p.tables e below (T.setTop g) s₂ ∧ s₂.status = .running ∧ Ended s₂ below o ∧ Post o s₂
theorem Wp.imp {T' : State} {g g' : JFrame} (w : Wp p e below Post T' g') (k : ∀ t, Steps p.tables e below (T'.setTop g') t → Steps p.tables e below (T.setTop g) t) : Wp p e below Post T g := by
  obtain ⟨s₂, o, h1, r⟩ := w
  exact ⟨s₂, o, k _ h1, r⟩
theorem Wk.st (W : Wk p l e R s vm0 m args below meth c Z own n0 B ML ret T h locs cells slots) : Stand p l e R (s.setVm vm0) m args below meth c T locs cells slots := W.1
theorem Wk.here (W : Wk p l e R s vm0 m args below meth c Z own n0 B ML ret T h locs cells slots) : At T m c below := W.1.here
theorem Wk.since (W : Wk p l e R s vm0 m args below meth c Z own n0 B ML ret T h locs cells slots) : s.Since vm0 h.size := W.2.1
theorem Wk.wZ (W : Wk p l e R s vm0 m args below meth c Z own n0 B ML ret T h locs cells slots) : Z.Warmed39 (s.setVm vm0).vm := W.2.2.1
theorem Wk.own' (W : Wk p l e R s vm0 m args below meth c Z own n0 B ML ret T h locs cells slots) : (s.setVm vm0).vm.findClass own = some m.cls := W.2.2.2.1
theorem Wk.heap (W : Wk p l e R s vm0 m args below meth c Z own n0 B ML ret T h locs cells slots) : T.heap = h := W.2.2.2.2.1
theorem Wk.fr (W : Wk p l e R s vm0 m args below meth c Z own n0 B ML ret T h locs cells slots) : Fr n0 locs := W.2.2.2.2.2.1
theorem Wk.exec (W : Wk p l e R s vm0 m args below meth c Z own n0 B ML ret T h locs cells slots) : p.tables.exec = Jvm.exec := W.2.2.2.2.2.2.1
theorem Wk.bytes (W : Wk p l e R s vm0 m args below meth c Z own n0 B ML ret T h locs cells slots) : c.code = B := W.2.2.2.2.2.2.2.1
theorem Wk.ml (W : Wk p l e R s vm0 m args below meth c Z own n0 B ML ret T h locs cells slots) : c.maxLocals = ML := W.2.2.2.2.2.2.2.2.1
theorem Wk.ret' (W : Wk p l e R s vm0 m args below meth c Z own n0 B ML ret T h locs cells slots) : meth.sig.returnType = ret := W.2.2.2.2.2.2.2.2.2.1
theorem Wk.lk (W : Wk p l e R s vm0 m args below meth c Z own n0 B ML ret T h locs cells slots) : meth.locks = false := W.2.2.2.2.2.2.2.2.2.2
/-- on to a later state, the tables' base as it was -/
theorem Wk.on {T' : State} {h' : Heap} {locs' : List Loc} {cells' slots' : Nat} (W : Wk p l e R s vm0 m args below meth c Z own n0 B ML ret T h locs cells slots) (X : Stand p l e R (s.setVm vm0) m args below meth c T' locs' cells' slots') (e' : T'.heap = h') (g : h.size ≤ h'.size) (N : Fr n0 locs') : Wk p l e R s vm0 m args below meth c Z own n0 B ML ret T' h' locs' cells' slots' :=
  ⟨X, ⟨W.since.1, W.since.2.mono g⟩, W.wZ, W.own', e', N, W.exec, W.bytes, W.ml, W.ret', W.lk⟩
/-- fewer cells and slots than are booked -/
theorem Wk.mono {cells' slots' : Nat} (W : Wk p l e R s vm0 m args below meth c Z own n0 B ML ret T h locs cells slots) (hc : cells ≤ cells') (hn : slots ≤ slots') : Wk p l e R s vm0 m args below meth c Z own n0 B ML ret T h locs cells' slots' := W.on (W.st.mono hc hn) W.heap (Nat.le_refl _) W.fr

theorem w_iload (W : Wk p l e R s vm0 m args below meth c Z own n0 B ML ret T h locs cells slots) {k : Nat} {v : Int32} (hd : decode B pc = .ok (.iload k, 2)) (hl : L[k]? = some (.val (.int v))) (hr : Wp p e below Post T (mkF m (pc + 2) L (.int v :: S))) : Wp p e below Post T (mkF m pc L S) :=
  hr.imp fun t q => XS.iload W.here W.exec rfl (hb W.bytes hd) hl q
theorem w_iloadN (W : Wk p l e R s vm0 m args below meth c Z own n0 B ML ret T h locs cells slots) {k : Fin 4} {v : Int32} (hd : decode B pc = .ok (.iload_n k, 1)) (hl : L[k.val]? = some (.val (.int v))) (hr : Wp p e below Post T (mkF m (pc + 1) L (.int v :: S))) : Wp p e below Post T (mkF m pc L S) :=
  hr.imp fun t q => XS.iloadN W.here W.exec rfl (hb W.bytes hd) hl q
theorem w_istore (W : Wk p l e R s vm0 m args below meth c Z own n0 B ML ret T h locs cells slots) {k : Nat} {v : Int32} {L' : Array Slot} (hd : decode B pc = .ok (.istore k, 2)) (hl : storeLocals L k (.int v) = some L') (hr : Wp p e below Post T (mkF m (pc + 2) L' S)) : Wp p e below Post T (mkF m pc L (.int v :: S)) :=
  hr.imp fun t q => XS.istore W.here W.exec rfl (hb W.bytes hd) rfl hl q
theorem w_istoreN (W : Wk p l e R s vm0 m args below meth c Z own n0 B ML ret T h locs cells slots) {k : Fin 4} {v : Int32} {L' : Array Slot} (hd : decode B pc = .ok (.istore_n k, 1)) (hl : storeLocals L k.val (.int v) = some L') (hr : Wp p e below Post T (mkF m (pc + 1) L' S)) : Wp p e below Post T (mkF m pc L (.int v :: S)) :=
  hr.imp fun t q => XS.istoreN W.here W.exec rfl (hb W.bytes hd) rfl hl q
theorem w_lload (W : Wk p l e R s vm0 m args below meth c Z own n0 B ML ret T h locs cells slots) {k : Nat} {v : Int64} (hd : decode B pc = .ok (.lload k, 2)) (hl : L[k]? = some (.val (.long v))) (hr : Wp p e below Post T (mkF m (pc + 2) L (.long v :: S))) : Wp p e below Post T (mkF m pc L S) :=
  hr.imp fun t q => XS.lload W.here W.exec rfl (hb W.bytes hd) hl q
theorem w_lloadN (W : Wk p l e R s vm0 m args below meth c Z own n0 B ML ret T h locs cells slots) {k : Fin 4} {v : Int64} (hd : decode B pc = .ok (.lload_n k, 1)) (hl : L[k.val]? = some (.val (.long v))) (hr : Wp p e below Post T (mkF m (pc + 1) L (.long v :: S))) : Wp p e below Post T (mkF m pc L S) :=
  hr.imp fun t q => XS.lloadN W.here W.exec rfl (hb W.bytes hd) hl q
theorem w_lstore (W : Wk p l e R s vm0 m args below meth c Z own n0 B ML ret T h locs cells slots) {k : Nat} {v : Int64} {L' : Array Slot} (hd : decode B pc = .ok (.lstore k, 2)) (hl : storeLocals L k (.long v) = some L') (hr : Wp p e below Post T (mkF m (pc + 2) L' S)) : Wp p e below Post T (mkF m pc L (.long v :: S)) :=
  hr.imp fun t q => XS.lstore W.here W.exec rfl (hb W.bytes hd) rfl hl q
theorem w_lstoreN (W : Wk p l e R s vm0 m args below meth c Z own n0 B ML ret T h locs cells slots) {k : Fin 4} {v : Int64} {L' : Array Slot} (hd : decode B pc = .ok (.lstore_n k, 1)) (hl : storeLocals L k.val (.long v) = some L') (hr : Wp p e below Post T (mkF m (pc + 1) L' S)) : Wp p e below Post T (mkF m pc L (.long v :: S)) :=
  hr.imp fun t q => XS.lstoreN W.here W.exec rfl (hb W.bytes hd) rfl hl q
theorem w_aload (W : Wk p l e R s vm0 m args below meth c Z own n0 B ML ret T h locs cells slots) {k : Nat} {v : Value} (hd : decode B pc = .ok (.aload k, 2)) (hl : L[k]? = some (.val v)) (hv : v.isRef = true) (hr : Wp p e below Post T (mkF m (pc + 2) L (v :: S))) : Wp p e below Post T (mkF m pc L S) :=
  hr.imp fun t q => XS.aload W.here W.exec rfl (hb W.bytes hd) hl hv q
theorem w_aloadN (W : Wk p l e R s vm0 m args below meth c Z own n0 B ML ret T h locs cells slots) {k : Fin 4} {v : Value} (hd : decode B pc = .ok (.aload_n k, 1)) (hl : L[k.val]? = some (.val v)) (hv : v.isRef = true) (hr : Wp p e below Post T (mkF m (pc + 1) L (v :: S))) : Wp p e below Post T (mkF m pc L S) :=
  hr.imp fun t q => XS.aloadN W.here W.exec rfl (hb W.bytes hd) hl hv q
theorem w_astore (W : Wk p l e R s vm0 m args below meth c Z own n0 B ML ret T h locs cells slots) {k : Nat} {v : Value} {L' : Array Slot} (hd : decode B pc = .ok (.astore k, 2)) (hv : v.isRef = true) (hl : storeLocals L k v = some L') (hr : Wp p e below Post T (mkF m (pc + 2) L' S)) : Wp p e below Post T (mkF m pc L (v :: S)) :=
  hr.imp fun t q => XS.astore W.here W.exec rfl (hb W.bytes hd) rfl hv hl q
theorem w_astoreN (W : Wk p l e R s vm0 m args below meth c Z own n0 B ML ret T h locs cells slots) {k : Fin 4} {v : Value} {L' : Array Slot} (hd : decode B pc = .ok (.astore_n k, 1)) (hv : v.isRef = true) (hl : storeLocals L k.val v = some L') (hr : Wp p e below Post T (mkF m (pc + 1) L' S)) : Wp p e below Post T (mkF m pc L (v :: S)) :=
  hr.imp fun t q => XS.astoreN W.here W.exec rfl (hb W.bytes hd) rfl hv hl q
theorem w_iconst (W : Wk p l e R s vm0 m args below meth c Z own n0 B ML ret T h locs cells slots) {i : Int} {z : Int32} (hd : decode B pc = .ok (.iconst i, 1)) (hz : Int32.ofInt i = z) (hr : Wp p e below Post T (mkF m (pc + 1) L (.int z :: S))) : Wp p e below Post T (mkF m pc L S) := by
  subst hz; exact hr.imp fun t q => XS.iconst W.here W.exec rfl (hb W.bytes hd)  q
theorem w_bipush (W : Wk p l e R s vm0 m args below meth c Z own n0 B ML ret T h locs cells slots) {i : Int} {z : Int32} (hd : decode B pc = .ok (.bipush i, 2)) (hz : (Int8.ofInt i).toInt32 = z) (hr : Wp p e below Post T (mkF m (pc + 2) L (.int z :: S))) : Wp p e below Post T (mkF m pc L S) := by
  subst hz; exact hr.imp fun t q => XS.bipush W.here W.exec rfl (hb W.bytes hd)  q
theorem w_sipush (W : Wk p l e R s vm0 m args below meth c Z own n0 B ML ret T h locs cells slots) {i : Int} {z : Int32} (hd : decode B pc = .ok (.sipush i, 3)) (hz : (Int16.ofInt i).toInt32 = z) (hr : Wp p e below Post T (mkF m (pc + 3) L (.int z :: S))) : Wp p e below Post T (mkF m pc L S) := by
  subst hz; exact hr.imp fun t q => XS.sipush W.here W.exec rfl (hb W.bytes hd)  q
theorem w_iadd (W : Wk p l e R s vm0 m args below meth c Z own n0 B ML ret T h locs cells slots) {x y : Int32} {z : Int32} (hd : decode B pc = .ok (.iadd, 1)) (hz : x + y = z) (hr : Wp p e below Post T (mkF m (pc + 1) L (.int z :: S))) : Wp p e below Post T (mkF m pc L (.int y :: .int x :: S)) := by
  subst hz; exact hr.imp fun t q => XS.iadd W.here W.exec rfl (hb W.bytes hd) rfl q
theorem w_isub (W : Wk p l e R s vm0 m args below meth c Z own n0 B ML ret T h locs cells slots) {x y : Int32} {z : Int32} (hd : decode B pc = .ok (.isub, 1)) (hz : x - y = z) (hr : Wp p e below Post T (mkF m (pc + 1) L (.int z :: S))) : Wp p e below Post T (mkF m pc L (.int y :: .int x :: S)) := by
  subst hz; exact hr.imp fun t q => XS.isub W.here W.exec rfl (hb W.bytes hd) rfl q
theorem w_imul (W : Wk p l e R s vm0 m args below meth c Z own n0 B ML ret T h locs cells slots) {x y : Int32} {z : Int32} (hd : decode B pc = .ok (.imul, 1)) (hz : x * y = z) (hr : Wp p e below Post T (mkF m (pc + 1) L (.int z :: S))) : Wp p e below Post T (mkF m pc L (.int y :: .int x :: S)) := by
  subst hz; exact hr.imp fun t q => XS.imul W.here W.exec rfl (hb W.bytes hd) rfl q
theorem w_iand (W : Wk p l e R s vm0 m args below meth c Z own n0 B ML ret T h locs cells slots) {x y : Int32} {z : Int32} (hd : decode B pc = .ok (.iand, 1)) (hz : x &&& y = z) (hr : Wp p e below Post T (mkF m (pc + 1) L (.int z :: S))) : Wp p e below Post T (mkF m pc L (.int y :: .int x :: S)) := by
  subst hz; exact hr.imp fun t q => XS.iand W.here W.exec rfl (hb W.bytes hd) rfl q
theorem w_ior (W : Wk p l e R s vm0 m args below meth c Z own n0 B ML ret T h locs cells slots) {x y : Int32} {z : Int32} (hd : decode B pc = .ok (.ior, 1)) (hz : x ||| y = z) (hr : Wp p e below Post T (mkF m (pc + 1) L (.int z :: S))) : Wp p e below Post T (mkF m pc L (.int y :: .int x :: S)) := by
  subst hz; exact hr.imp fun t q => XS.ior W.here W.exec rfl (hb W.bytes hd) rfl q
theorem w_ixor (W : Wk p l e R s vm0 m args below meth c Z own n0 B ML ret T h locs cells slots) {x y : Int32} {z : Int32} (hd : decode B pc = .ok (.ixor, 1)) (hz : x ^^^ y = z) (hr : Wp p e below Post T (mkF m (pc + 1) L (.int z :: S))) : Wp p e below Post T (mkF m pc L (.int y :: .int x :: S)) := by
  subst hz; exact hr.imp fun t q => XS.ixor W.here W.exec rfl (hb W.bytes hd) rfl q
theorem w_ladd (W : Wk p l e R s vm0 m args below meth c Z own n0 B ML ret T h locs cells slots) {x y : Int64} {z : Int64} (hd : decode B pc = .ok (.ladd, 1)) (hz : x + y = z) (hr : Wp p e below Post T (mkF m (pc + 1) L (.long z :: S))) : Wp p e below Post T (mkF m pc L (.long y :: .long x :: S)) := by
  subst hz; exact hr.imp fun t q => XS.ladd W.here W.exec rfl (hb W.bytes hd) rfl q
theorem w_lsub (W : Wk p l e R s vm0 m args below meth c Z own n0 B ML ret T h locs cells slots) {x y : Int64} {z : Int64} (hd : decode B pc = .ok (.lsub, 1)) (hz : x - y = z) (hr : Wp p e below Post T (mkF m (pc + 1) L (.long z :: S))) : Wp p e below Post T (mkF m pc L (.long y :: .long x :: S)) := by
  subst hz; exact hr.imp fun t q => XS.lsub W.here W.exec rfl (hb W.bytes hd) rfl q
theorem w_lmul (W : Wk p l e R s vm0 m args below meth c Z own n0 B ML ret T h locs cells slots) {x y : Int64} {z : Int64} (hd : decode B pc = .ok (.lmul, 1)) (hz : x * y = z) (hr : Wp p e below Post T (mkF m (pc + 1) L (.long z :: S))) : Wp p e below Post T (mkF m pc L (.long y :: .long x :: S)) := by
  subst hz; exact hr.imp fun t q => XS.lmul W.here W.exec rfl (hb W.bytes hd) rfl q
theorem w_land (W : Wk p l e R s vm0 m args below meth c Z own n0 B ML ret T h locs cells slots) {x y : Int64} {z : Int64} (hd : decode B pc = .ok (.land, 1)) (hz : x &&& y = z) (hr : Wp p e below Post T (mkF m (pc + 1) L (.long z :: S))) : Wp p e below Post T (mkF m pc L (.long y :: .long x :: S)) := by
  subst hz; exact hr.imp fun t q => XS.land W.here W.exec rfl (hb W.bytes hd) rfl q
theorem w_lor (W : Wk p l e R s vm0 m args below meth c Z own n0 B ML ret T h locs cells slots) {x y : Int64} {z : Int64} (hd : decode B pc = .ok (.lor, 1)) (hz : x ||| y = z) (hr : Wp p e below Post T (mkF m (pc + 1) L (.long z :: S))) : Wp p e below Post T (mkF m pc L (.long y :: .long x :: S)) := by
  subst hz; exact hr.imp fun t q => XS.lor W.here W.exec rfl (hb W.bytes hd) rfl q
theorem w_lxor (W : Wk p l e R s vm0 m args below meth c Z own n0 B ML ret T h locs cells slots) {x y : Int64} {z : Int64} (hd : decode B pc = .ok (.lxor, 1)) (hz : x ^^^ y = z) (hr : Wp p e below Post T (mkF m (pc + 1) L (.long z :: S))) : Wp p e below Post T (mkF m pc L (.long y :: .long x :: S)) := by
  subst hz; exact hr.imp fun t q => XS.lxor W.here W.exec rfl (hb W.bytes hd) rfl q
theorem w_ishl (W : Wk p l e R s vm0 m args below meth c Z own n0 B ML ret T h locs cells slots) {x y : Int32} {z : Int32} (hd : decode B pc = .ok (.ishl, 1)) (hz : x <<< (y &&& 31) = z) (hr : Wp p e below Post T (mkF m (pc + 1) L (.int z :: S))) : Wp p e below Post T (mkF m pc L (.int y :: .int x :: S)) := by
  subst hz; exact hr.imp fun t q => XS.ishl W.here W.exec rfl (hb W.bytes hd) rfl q
theorem w_ishr (W : Wk p l e R s vm0 m args below meth c Z own n0 B ML ret T h locs cells slots) {x y : Int32} {z : Int32} (hd : decode B pc = .ok (.ishr, 1)) (hz : x >>> (y &&& 31) = z) (hr : Wp p e below Post T (mkF m (pc + 1) L (.int z :: S))) : Wp p e below Post T (mkF m pc L (.int y :: .int x :: S)) := by
  subst hz; exact hr.imp fun t q => XS.ishr W.here W.exec rfl (hb W.bytes hd) rfl q
theorem w_iushr (W : Wk p l e R s vm0 m args below meth c Z own n0 B ML ret T h locs cells slots) {x y : Int32} {z : Int32} (hd : decode B pc = .ok (.iushr, 1)) (hz : (x.toUInt32 >>> (y &&& 31).toUInt32).toInt32 = z) (hr : Wp p e below Post T (mkF m (pc + 1) L (.int z :: S))) : Wp p e below Post T (mkF m pc L (.int y :: .int x :: S)) := by
  subst hz; exact hr.imp fun t q => XS.iushr W.here W.exec rfl (hb W.bytes hd) rfl q
theorem w_lshl (W : Wk p l e R s vm0 m args below meth c Z own n0 B ML ret T h locs cells slots) {x : Int64} {y : Int32} {z : Int64} (hd : decode B pc = .ok (.lshl, 1)) (hz : x <<< (y &&& 0x3f).toInt64 = z) (hr : Wp p e below Post T (mkF m (pc + 1) L (.long z :: S))) : Wp p e below Post T (mkF m pc L (.int y :: .long x :: S)) := by
  subst hz; exact hr.imp fun t q => XS.lshl W.here W.exec rfl (hb W.bytes hd) rfl q
theorem w_lshr (W : Wk p l e R s vm0 m args below meth c Z own n0 B ML ret T h locs cells slots) {x : Int64} {y : Int32} {z : Int64} (hd : decode B pc = .ok (.lshr, 1)) (hz : x >>> (y &&& 0x3f).toInt64 = z) (hr : Wp p e below Post T (mkF m (pc + 1) L (.long z :: S))) : Wp p e below Post T (mkF m pc L (.int y :: .long x :: S)) := by
  subst hz; exact hr.imp fun t q => XS.lshr W.here W.exec rfl (hb W.bytes hd) rfl q
theorem w_lushr (W : Wk p l e R s vm0 m args below meth c Z own n0 B ML ret T h locs cells slots) {x : Int64} {y : Int32} {z : Int64} (hd : decode B pc = .ok (.lushr, 1)) (hz : (x.toUInt64 >>> (y &&& 0x3f).toInt64.toUInt64).toInt64 = z) (hr : Wp p e below Post T (mkF m (pc + 1) L (.long z :: S))) : Wp p e below Post T (mkF m pc L (.int y :: .long x :: S)) := by
  subst hz; exact hr.imp fun t q => XS.lushr W.here W.exec rfl (hb W.bytes hd) rfl q
theorem w_ineg (W : Wk p l e R s vm0 m args below meth c Z own n0 B ML ret T h locs cells slots) {x : Int32} {z : Int32} (hd : decode B pc = .ok (.ineg, 1)) (hz : -x = z) (hr : Wp p e below Post T (mkF m (pc + 1) L (.int z :: S))) : Wp p e below Post T (mkF m pc L (.int x :: S)) := by
  subst hz; exact hr.imp fun t q => XS.ineg W.here W.exec rfl (hb W.bytes hd) rfl q
theorem w_lneg (W : Wk p l e R s vm0 m args below meth c Z own n0 B ML ret T h locs cells slots) {x : Int64} {z : Int64} (hd : decode B pc = .ok (.lneg, 1)) (hz : -x = z) (hr : Wp p e below Post T (mkF m (pc + 1) L (.long z :: S))) : Wp p e below Post T (mkF m pc L (.long x :: S)) := by
  subst hz; exact hr.imp fun t q => XS.lneg W.here W.exec rfl (hb W.bytes hd) rfl q
theorem w_i2l (W : Wk p l e R s vm0 m args below meth c Z own n0 B ML ret T h locs cells slots) {x : Int32} {z : Int64} (hd : decode B pc = .ok (.i2l, 1)) (hz : x.toInt64 = z) (hr : Wp p e below Post T (mkF m (pc + 1) L (.long z :: S))) : Wp p e below Post T (mkF m pc L (.int x :: S)) := by
  subst hz; exact hr.imp fun t q => XS.i2l W.here W.exec rfl (hb W.bytes hd) rfl q
theorem w_l2i (W : Wk p l e R s vm0 m args below meth c Z own n0 B ML ret T h locs cells slots) {x : Int64} {z : Int32} (hd : decode B pc = .ok (.l2i, 1)) (hz : x.toInt32 = z) (hr : Wp p e below Post T (mkF m (pc + 1) L (.int z :: S))) : Wp p e below Post T (mkF m pc L (.long x :: S)) := by
  subst hz; exact hr.imp fun t q => XS.l2i W.here W.exec rfl (hb W.bytes hd) rfl q
theorem w_i2b (W : Wk p l e R s vm0 m args below meth c Z own n0 B ML ret T h locs cells slots) {x : Int32} {z : Int32} (hd : decode B pc = .ok (.i2b, 1)) (hz : x.toInt8.toInt32 = z) (hr : Wp p e below Post T (mkF m (pc + 1) L (.int z :: S))) : Wp p e below Post T (mkF m pc L (.int x :: S)) := by
  subst hz; exact hr.imp fun t q => XS.i2b W.here W.exec rfl (hb W.bytes hd) rfl q
theorem w_i2c (W : Wk p l e R s vm0 m args below meth c Z own n0 B ML ret T h locs cells slots) {x : Int32} {z : Int32} (hd : decode B pc = .ok (.i2c, 1)) (hz : x.toUInt32.toUInt16.toUInt32.toInt32 = z) (hr : Wp p e below Post T (mkF m (pc + 1) L (.int z :: S))) : Wp p e below Post T (mkF m pc L (.int x :: S)) := by
  subst hz; exact hr.imp fun t q => XS.i2c W.here W.exec rfl (hb W.bytes hd) rfl q
theorem w_i2s (W : Wk p l e R s vm0 m args below meth c Z own n0 B ML ret T h locs cells slots) {x : Int32} {z : Int32} (hd : decode B pc = .ok (.i2s, 1)) (hz : x.toInt16.toInt32 = z) (hr : Wp p e below Post T (mkF m (pc + 1) L (.int z :: S))) : Wp p e below Post T (mkF m pc L (.int x :: S)) := by
  subst hz; exact hr.imp fun t q => XS.i2s W.here W.exec rfl (hb W.bytes hd) rfl q
theorem w_lcmp (W : Wk p l e R s vm0 m args below meth c Z own n0 B ML ret T h locs cells slots) {x y : Int64} {z : Int32} (hd : decode B pc = .ok (.lcmp, 1)) (hz : lcmpW x y = z) (hr : Wp p e below Post T (mkF m (pc + 1) L (.int z :: S))) : Wp p e below Post T (mkF m pc L (.long y :: .long x :: S)) := by
  subst hz; exact hr.imp fun t q => XS.lcmp W.here W.exec rfl (hb W.bytes hd) rfl q
theorem w_idiv (W : Wk p l e R s vm0 m args below meth c Z own n0 B ML ret T h locs cells slots) {x y : Int32} {z : Int32} (hd : decode B pc = .ok (.idiv, 1)) (hy : y ≠ 0) (hz : x / y = z) (hr : Wp p e below Post T (mkF m (pc + 1) L (.int z :: S))) : Wp p e below Post T (mkF m pc L (.int y :: .int x :: S)) := by
  subst hz; exact hr.imp fun t q => XS.idiv W.here W.exec rfl (hb W.bytes hd) rfl hy q
theorem w_irem (W : Wk p l e R s vm0 m args below meth c Z own n0 B ML ret T h locs cells slots) {x y z : Int32} (hd : decode B pc = .ok (.irem, 1)) (hy : y ≠ 0) (hz : x % y = z) (hr : Wp p e below Post T (mkF m (pc + 1) L (.int z :: S))) : Wp p e below Post T (mkF m pc L (.int y :: .int x :: S)) := by
  subst hz; exact hr.imp fun t q => iremM W.st W.exec rfl (hb W.bytes hd) rfl hy q
theorem w_lconst (W : Wk p l e R s vm0 m args below meth c Z own n0 B ML ret T h locs cells slots) {k : Fin 2} {z : Int64} (hd : decode B pc = .ok (.lconst k, 1)) (hz : (Int64.ofNat k.val) = z) (hr : Wp p e below Post T (mkF m (pc + 1) L (.long z :: S))) : Wp p e below Post T (mkF m pc L S) := by
  subst hz; exact hr.imp fun t q => XS.lconst W.here W.exec rfl (hb W.bytes hd) q
theorem w_aconstNull (W : Wk p l e R s vm0 m args below meth c Z own n0 B ML ret T h locs cells slots)  (hd : decode B pc = .ok (.aconst_null, 1)) (hr : Wp p e below Post T (mkF m (pc + 1) L (.null :: S))) : Wp p e below Post T (mkF m pc L S) :=
  hr.imp fun t q => XS.aconstNull W.here W.exec rfl (hb W.bytes hd)  q
theorem w_dup (W : Wk p l e R s vm0 m args below meth c Z own n0 B ML ret T h locs cells slots) {v : Value} (hd : decode B pc = .ok (.dup, 1)) (hc : v.category = 1) (hr : Wp p e below Post T (mkF m (pc + 1) L (v :: v :: S))) : Wp p e below Post T (mkF m pc L (v :: S)) :=
  hr.imp fun t q => XS.dup W.here W.exec rfl (hb W.bytes hd) rfl hc q
theorem w_pop (W : Wk p l e R s vm0 m args below meth c Z own n0 B ML ret T h locs cells slots) {v : Value} (hd : decode B pc = .ok (.pop, 1)) (hc : v.category = 1) (hr : Wp p e below Post T (mkF m (pc + 1) L S)) : Wp p e below Post T (mkF m pc L (v :: S)) :=
  hr.imp fun t q => XS.pop W.here W.exec rfl (hb W.bytes hd) rfl hc q
theorem w_dupX1 (W : Wk p l e R s vm0 m args below meth c Z own n0 B ML ret T h locs cells slots) {v w : Value} (hd : decode B pc = .ok (.dup_x1, 1)) (hc : v.category = 1) (hc' : w.category = 1) (hr : Wp p e below Post T (mkF m (pc + 1) L (v :: w :: v :: S))) : Wp p e below Post T (mkF m pc L (v :: w :: S)) :=
  hr.imp fun t q => XS.dupX1 W.here W.exec rfl (hb W.bytes hd) rfl hc hc' q
theorem w_dup2 (W : Wk p l e R s vm0 m args below meth c Z own n0 B ML ret T h locs cells slots) {v w : Value} (hd : decode B pc = .ok (.dup2, 1)) (hc : v.category = 1) (hc' : w.category = 1) (hr : Wp p e below Post T (mkF m (pc + 1) L (v :: w :: v :: w :: S))) : Wp p e below Post T (mkF m pc L (v :: w :: S)) :=
  hr.imp fun t q => XT.dup2 W.here W.exec rfl (hb W.bytes hd) rfl hc hc' q
theorem w_iinc (W : Wk p l e R s vm0 m args below meth c Z own n0 B ML ret T h locs cells slots) {k : Nat} {cst : Int} {x z : Int32} {L' : Array Slot} (hd : decode B pc = .ok (.iinc k cst, 3)) (hl : L[k]? = some (.val (.int x))) (hz : x + Int32.ofInt cst = z) (hl' : storeLocals L k (.int z) = some L') (hr : Wp p e below Post T (mkF m (pc + 3) L' S)) : Wp p e below Post T (mkF m pc L S) := by
  subst hz; exact hr.imp fun t q => XS.iinc W.here W.exec rfl (hb W.bytes hd) hl hl' q
theorem w_goto (W : Wk p l e R s vm0 m args below meth c Z own n0 B ML ret T h locs cells slots) {o : Int} {pc' : Nat} (hd : decode B pc = .ok (.goto o, 3)) (hp : (pc : Int) + o = (pc' : Int)) (hr : Wp p e below Post T (mkF m pc' L S)) : Wp p e below Post T (mkF m pc L S) :=
  hr.imp fun t q => XS.goto W.here W.exec rfl (pc0 := pc) rfl (hb W.bytes hd) (by omega) (by omega) q
theorem w_icmpeq (W : Wk p l e R s vm0 m args below meth c Z own n0 B ML ret T h locs cells slots) {x y : Int32} {o : Int} {pc' : Nat} (hd : decode B pc = .ok (.if_icmp .eq o, 3)) (hp : (pc : Int) + o = (pc' : Int)) (k1 : x = y → Wp p e below Post T (mkF m pc' L S)) (k2 : ¬ (x = y) → Wp p e below Post T (mkF m (pc + 3) L S)) : Wp p e below Post T (mkF m pc L (.int y :: .int x :: S)) := by
  by_cases hq : x = y
  · exact (k1 hq).imp fun t q => XS.icmpYes W.here W.exec rfl (pc0 := pc) rfl (hb W.bytes hd) rfl (teq hq).1 (by omega) (by omega) q
  · exact (k2 hq).imp fun t q => XS.icmpNo W.here W.exec rfl (hb W.bytes hd) rfl (feq hq).1 q
theorem w_ifeq (W : Wk p l e R s vm0 m args below meth c Z own n0 B ML ret T h locs cells slots) {x : Int32} {o : Int} {pc' : Nat} (hd : decode B pc = .ok (.ifCond .eq o, 3)) (hp : (pc : Int) + o = (pc' : Int)) (k1 : x = 0 → Wp p e below Post T (mkF m pc' L S)) (k2 : ¬ (x = 0) → Wp p e below Post T (mkF m (pc + 3) L S)) : Wp p e below Post T (mkF m pc L (.int x :: S)) := by
  by_cases hq : x = 0
  · exact (k1 hq).imp fun t q => XS.ifYes W.here W.exec rfl (pc0 := pc) rfl (hb W.bytes hd) rfl ((if0 _ _).trans (teq hq).1) (by omega) (by omega) q
  · exact (k2 hq).imp fun t q => XS.ifNo W.here W.exec rfl (hb W.bytes hd) rfl ((if0 _ _).trans (feq hq).1) q
theorem w_icmpne (W : Wk p l e R s vm0 m args below meth c Z own n0 B ML ret T h locs cells slots) {x y : Int32} {o : Int} {pc' : Nat} (hd : decode B pc = .ok (.if_icmp .ne o, 3)) (hp : (pc : Int) + o = (pc' : Int)) (k1 : ¬ (x = y) → Wp p e below Post T (mkF m pc' L S)) (k2 : x = y → Wp p e below Post T (mkF m (pc + 3) L S)) : Wp p e below Post T (mkF m pc L (.int y :: .int x :: S)) := by
  by_cases hq : x = y
  · exact (k2 hq).imp fun t q => XS.icmpNo W.here W.exec rfl (hb W.bytes hd) rfl (teq hq).2 q
  · exact (k1 hq).imp fun t q => XS.icmpYes W.here W.exec rfl (pc0 := pc) rfl (hb W.bytes hd) rfl (feq hq).2 (by omega) (by omega) q
theorem w_ifne (W : Wk p l e R s vm0 m args below meth c Z own n0 B ML ret T h locs cells slots) {x : Int32} {o : Int} {pc' : Nat} (hd : decode B pc = .ok (.ifCond .ne o, 3)) (hp : (pc : Int) + o = (pc' : Int)) (k1 : ¬ (x = 0) → Wp p e below Post T (mkF m pc' L S)) (k2 : x = 0 → Wp p e below Post T (mkF m (pc + 3) L S)) : Wp p e below Post T (mkF m pc L (.int x :: S)) := by
  by_cases hq : x = 0
  · exact (k2 hq).imp fun t q => XS.ifNo W.here W.exec rfl (hb W.bytes hd) rfl ((if0 _ _).trans (teq hq).2) q
  · exact (k1 hq).imp fun t q => XS.ifYes W.here W.exec rfl (pc0 := pc) rfl (hb W.bytes hd) rfl ((if0 _ _).trans (feq hq).2) (by omega) (by omega) q
theorem w_icmplt (W : Wk p l e R s vm0 m args below meth c Z own n0 B ML ret T h locs cells slots) {x y : Int32} {o : Int} {pc' : Nat} (hd : decode B pc = .ok (.if_icmp .lt o, 3)) (hp : (pc : Int) + o = (pc' : Int)) (k1 : x < y → Wp p e below Post T (mkF m pc' L S)) (k2 : ¬ (x < y) → Wp p e below Post T (mkF m (pc + 3) L S)) : Wp p e below Post T (mkF m pc L (.int y :: .int x :: S)) := by
  by_cases hq : x < y
  · exact (k1 hq).imp fun t q => XS.icmpYes W.here W.exec rfl (pc0 := pc) rfl (hb W.bytes hd) rfl (tlt hq).1 (by omega) (by omega) q
  · exact (k2 hq).imp fun t q => XS.icmpNo W.here W.exec rfl (hb W.bytes hd) rfl (flt hq).1 q
theorem w_iflt (W : Wk p l e R s vm0 m args below meth c Z own n0 B ML ret T h locs cells slots) {x : Int32} {o : Int} {pc' : Nat} (hd : decode B pc = .ok (.ifCond .lt o, 3)) (hp : (pc : Int) + o = (pc' : Int)) (k1 : x < 0 → Wp p e below Post T (mkF m pc' L S)) (k2 : ¬ (x < 0) → Wp p e below Post T (mkF m (pc + 3) L S)) : Wp p e below Post T (mkF m pc L (.int x :: S)) := by
  by_cases hq : x < 0
  · exact (k1 hq).imp fun t q => XS.ifYes W.here W.exec rfl (pc0 := pc) rfl (hb W.bytes hd) rfl ((if0 _ _).trans (tlt hq).1) (by omega) (by omega) q
  · exact (k2 hq).imp fun t q => XS.ifNo W.here W.exec rfl (hb W.bytes hd) rfl ((if0 _ _).trans (flt hq).1) q
theorem w_icmpge (W : Wk p l e R s vm0 m args below meth c Z own n0 B ML ret T h locs cells slots) {x y : Int32} {o : Int} {pc' : Nat} (hd : decode B pc = .ok (.if_icmp .ge o, 3)) (hp : (pc : Int) + o = (pc' : Int)) (k1 : ¬ (x < y) → Wp p e below Post T (mkF m pc' L S)) (k2 : x < y → Wp p e below Post T (mkF m (pc + 3) L S)) : Wp p e below Post T (mkF m pc L (.int y :: .int x :: S)) := by
  by_cases hq : x < y
  · exact (k2 hq).imp fun t q => XS.icmpNo W.here W.exec rfl (hb W.bytes hd) rfl (tlt hq).2.1 q
  · exact (k1 hq).imp fun t q => XS.icmpYes W.here W.exec rfl (pc0 := pc) rfl (hb W.bytes hd) rfl (flt hq).2.1 (by omega) (by omega) q
theorem w_ifge (W : Wk p l e R s vm0 m args below meth c Z own n0 B ML ret T h locs cells slots) {x : Int32} {o : Int} {pc' : Nat} (hd : decode B pc = .ok (.ifCond .ge o, 3)) (hp : (pc : Int) + o = (pc' : Int)) (k1 : ¬ (x < 0) → Wp p e below Post T (mkF m pc' L S)) (k2 : x < 0 → Wp p e below Post T (mkF m (pc + 3) L S)) : Wp p e below Post T (mkF m pc L (.int x :: S)) := by
  by_cases hq : x < 0
  · exact (k2 hq).imp fun t q => XS.ifNo W.here W.exec rfl (hb W.bytes hd) rfl ((if0 _ _).trans (tlt hq).2.1) q
  · exact (k1 hq).imp fun t q => XS.ifYes W.here W.exec rfl (pc0 := pc) rfl (hb W.bytes hd) rfl ((if0 _ _).trans (flt hq).2.1) (by omega) (by omega) q
theorem w_icmpgt (W : Wk p l e R s vm0 m args below meth c Z own n0 B ML ret T h locs cells slots) {x y : Int32} {o : Int} {pc' : Nat} (hd : decode B pc = .ok (.if_icmp .gt o, 3)) (hp : (pc : Int) + o = (pc' : Int)) (k1 : y < x → Wp p e below Post T (mkF m pc' L S)) (k2 : ¬ (y < x) → Wp p e below Post T (mkF m (pc + 3) L S)) : Wp p e below Post T (mkF m pc L (.int y :: .int x :: S)) := by
  by_cases hq : y < x
  · exact (k1 hq).imp fun t q => XS.icmpYes W.here W.exec rfl (pc0 := pc) rfl (hb W.bytes hd) rfl (tlt hq).2.2.1 (by omega) (by omega) q
  · exact (k2 hq).imp fun t q => XS.icmpNo W.here W.exec rfl (hb W.bytes hd) rfl (flt hq).2.2.1 q
theorem w_ifgt (W : Wk p l e R s vm0 m args below meth c Z own n0 B ML ret T h locs cells slots) {x : Int32} {o : Int} {pc' : Nat} (hd : decode B pc = .ok (.ifCond .gt o, 3)) (hp : (pc : Int) + o = (pc' : Int)) (k1 : 0 < x → Wp p e below Post T (mkF m pc' L S)) (k2 : ¬ (0 < x) → Wp p e below Post T (mkF m (pc + 3) L S)) : Wp p e below Post T (mkF m pc L (.int x :: S)) := by
  by_cases hq : 0 < x
  · exact (k1 hq).imp fun t q => XS.ifYes W.here W.exec rfl (pc0 := pc) rfl (hb W.bytes hd) rfl ((if0 _ _).trans (tlt hq).2.2.1) (by omega) (by omega) q
  · exact (k2 hq).imp fun t q => XS.ifNo W.here W.exec rfl (hb W.bytes hd) rfl ((if0 _ _).trans (flt hq).2.2.1) q
theorem w_icmple (W : Wk p l e R s vm0 m args below meth c Z own n0 B ML ret T h locs cells slots) {x y : Int32} {o : Int} {pc' : Nat} (hd : decode B pc = .ok (.if_icmp .le o, 3)) (hp : (pc : Int) + o = (pc' : Int)) (k1 : ¬ (y < x) → Wp p e below Post T (mkF m pc' L S)) (k2 : y < x → Wp p e below Post T (mkF m (pc + 3) L S)) : Wp p e below Post T (mkF m pc L (.int y :: .int x :: S)) := by
  by_cases hq : y < x
  · exact (k2 hq).imp fun t q => XS.icmpNo W.here W.exec rfl (hb W.bytes hd) rfl (tlt hq).2.2.2 q
  · exact (k1 hq).imp fun t q => XS.icmpYes W.here W.exec rfl (pc0 := pc) rfl (hb W.bytes hd) rfl (flt hq).2.2.2 (by omega) (by omega) q
theorem w_ifle (W : Wk p l e R s vm0 m args below meth c Z own n0 B ML ret T h locs cells slots) {x : Int32} {o : Int} {pc' : Nat} (hd : decode B pc = .ok (.ifCond .le o, 3)) (hp : (pc : Int) + o = (pc' : Int)) (k1 : ¬ (0 < x) → Wp p e below Post T (mkF m pc' L S)) (k2 : 0 < x → Wp p e below Post T (mkF m (pc + 3) L S)) : Wp p e below Post T (mkF m pc L (.int x :: S)) := by
  by_cases hq : 0 < x
  · exact (k2 hq).imp fun t q => XS.ifNo W.here W.exec rfl (hb W.bytes hd) rfl ((if0 _ _).trans (tlt hq).2.2.2) q
  · exact (k1 hq).imp fun t q => XS.ifYes W.here W.exec rfl (pc0 := pc) rfl (hb W.bytes hd) rfl ((if0 _ _).trans (flt hq).2.2.2) (by omega) (by omega) q
theorem w_ifnullY (W : Wk p l e R s vm0 m args below meth c Z own n0 B ML ret T h locs cells slots) {b : Addr} {o : Int} {pc' : Nat} (hd : decode B pc = .ok (.ifnull o, 3)) (hp : (pc : Int) + o = (pc' : Int)) (hr : Wp p e below Post T (mkF m pc' L S)) : Wp p e below Post T (mkF m pc L (.null :: S)) :=
  hr.imp fun t q => XS.ifnullYes W.here W.exec rfl (pc0 := pc) rfl (hb W.bytes hd) rfl (by omega) (by omega) q
theorem w_ifnullN (W : Wk p l e R s vm0 m args below meth c Z own n0 B ML ret T h locs cells slots) {b : Addr} {o : Int} (hd : decode B pc = .ok (.ifnull o, 3)) (hr : Wp p e below Post T (mkF m (pc + 3) L S)) : Wp p e below Post T (mkF m pc L (.ref b :: S)) :=
  hr.imp fun t q => XS.ifnullNo W.here W.exec rfl (hb W.bytes hd) rfl q
theorem w_ifnonnullY (W : Wk p l e R s vm0 m args below meth c Z own n0 B ML ret T h locs cells slots) {b : Addr} {o : Int} {pc' : Nat} (hd : decode B pc = .ok (.ifnonnull o, 3)) (hp : (pc : Int) + o = (pc' : Int)) (hr : Wp p e below Post T (mkF m pc' L S)) : Wp p e below Post T (mkF m pc L (.ref b :: S)) :=
  hr.imp fun t q => XS.ifnonnullYes W.here W.exec rfl (pc0 := pc) rfl (hb W.bytes hd) rfl (by omega) (by omega) q
theorem w_ifnonnullN (W : Wk p l e R s vm0 m args below meth c Z own n0 B ML ret T h locs cells slots) {b : Addr} {o : Int} (hd : decode B pc = .ok (.ifnonnull o, 3)) (hr : Wp p e below Post T (mkF m (pc + 3) L S)) : Wp p e below Post T (mkF m pc L (.null :: S)) :=
  hr.imp fun t q => XS.ifnonnullNo W.here W.exec rfl (hb W.bytes hd) rfl q
theorem w_acmp (W : Wk p l e R s vm0 m args below meth c Z own n0 B ML ret T h locs cells slots) {cd : ACond} {x y : Value} {o : Int} {pc' : Nat} (same : Bool) (h1 : x.isRef = true) (h2 : y.isRef = true) (hd : decode B pc = .ok (.if_acmp cd o, 3)) (hq : decide (x = y) = same) (ho : 0 ≤ (pc : Int) + o) (hp : pc' = if acV cd same = true then ((pc : Int) + o).toNat else pc + 3) (hr : Wp p e below Post T (mkF m pc' L S)) : Wp p e below Post T (mkF m pc L (y :: x :: S)) :=
  hr.imp fun t q => Jvm.RoadKit.acmp (g := mkF m pc L (y :: x :: S)) W.st W.exec rfl h1 h2 (pc0 := pc) rfl (hb W.bytes hd) rfl hq ho hp q
theorem w_ldcI (W : Wk p l e R s vm0 m args below meth c Z own n0 B ML ret T h locs cells slots) {index : Nat} {v : Int32} (w : (Jvm.Cond.constant own index v).before a0 Z = true) (hd : decode B pc = .ok (.ldc index, 2)) (hr : Wp p e below Post T (mkF m (pc + 2) L (.int v :: S))) : Wp p e below Post T (mkF m pc L S) :=
  hr.imp fun t q => W.st.ldcInt W.exec W.own' (mvT W.wZ w) (g := mkF m pc L S) rfl (hb W.bytes hd) t q
theorem w_ldc2L (W : Wk p l e R s vm0 m args below meth c Z own n0 B ML ret T h locs cells slots) {index : Nat} {v : Int64} (w : (Jvm.Cond.constantLong own index v).before a0 Z = true) (hd : decode B pc = .ok (.ldc2_w index, 3)) (hr : Wp p e below Post T (mkF m (pc + 3) L (.long v :: S))) : Wp p e below Post T (mkF m pc L S) :=
  hr.imp fun t q => W.st.ldc2Long W.exec W.own' (mvT W.wZ w) (g := mkF m pc L S) rfl (hb W.bytes hd) t q
/-! the ends -/
/-- what a body that interns nothing leaves -/
def PoN (n0 : Nat) (s : State) (kc ks : Nat) (Q : Option Value → Heap → Prop) (o : Outcome) (t : State) : Prop := ∃ v Ls, o = .returned v ∧ (Q v t.heap ∧ Fr n0 Ls) ∧ FrameEnd s o t Ls kc ks
theorem endN {kc ks : Nat} {Q : Option Value → Heap → Prop} (W : Wk p l e R s s.vm m args below meth c Z own n0 B ML ret T h locs cells slots) {v : Option Value} {g : JFrame} (hv : ret = none → v = none) (hc : cells ≤ kc) (hk : slots ≤ ks) (hq : Q v h)
    (k : ∀ fs, (∀ (f : JFrame) (acts : List Action), f.method = m → f.locked = none → f.entered = [] → (doReturn e (T.setTop f) acts v).1 = T.setFrames fs) → Steps p.tables e below (T.setTop g) (T.setFrames fs)) : Wp p e below (PoN n0 s kc ks Q) T g := by
  have hlk := W.lk
  obtain ⟨fs, hr, hrun, hended, hW, hsame⟩ := W.st.leave (v := v) (fun q => hv (W.ret'.symm.trans q))
  have hh : (T.setFrames fs).heap = h := W.heap
  exact ⟨_, _, k fs hr, hrun, hended, v, locs, rfl, ⟨by rw [hh]; exact hq, W.fr⟩, ⟨_, rfl⟩, hW, hsame.mono hc hk⟩
theorem rV (W : Wk p l e R s vm0 m args below meth c Z own n0 B ML ret T h locs cells slots) (hret : ret = none) (hd : decode B pc = .ok (.return_, 1)) {fs : List Frame} (hr : ∀ (f : JFrame) (acts : List Action), f.method = m → f.locked = none → f.entered = [] → (doReturn e (T.setTop f) acts none).1 = T.setFrames fs) : Steps p.tables e below (T.setTop (mkF m pc L [])) (T.setFrames fs) :=
  W.st.returnOut W.exec (W.ret'.trans hret) (hb W.bytes hd) hr
theorem rI {z : Int32} (W : Wk p l e R s vm0 m args below meth c Z own n0 B ML ret T h locs cells slots) (hret : ret = some .int) (hd : decode B pc = .ok (.ireturn, 1)) {fs : List Frame} (hr : ∀ (f : JFrame) (acts : List Action), f.method = m → f.locked = none → f.entered = [] → (doReturn e (T.setTop f) acts (some (.int z))).1 = T.setFrames fs) : Steps p.tables e below (T.setTop (mkF m pc L (.int z :: S))) (T.setFrames fs) :=
  retOut W.st W.exec (W.ret'.trans hret) rfl (Or.inl ⟨rfl, Or.inl rfl, z, rfl⟩) (hb W.bytes hd) hr
theorem rL {z : Int64} (W : Wk p l e R s vm0 m args below meth c Z own n0 B ML ret T h locs cells slots) (hret : ret = some .long) (hd : decode B pc = .ok (.lreturn, 1)) {fs : List Frame} (hr : ∀ (f : JFrame) (acts : List Action), f.method = m → f.locked = none → f.entered = [] → (doReturn e (T.setTop f) acts (some (.long z))).1 = T.setFrames fs) : Steps p.tables e below (T.setTop (mkF m pc L (.long z :: S))) (T.setFrames fs) :=
  retOut W.st W.exec (W.ret'.trans hret) rfl (Or.inr (Or.inl ⟨rfl, rfl, z, rfl⟩)) (hb W.bytes hd) hr
theorem rA {v : Value} {t : FieldType} (W : Wk p l e R s vm0 m args below meth c Z own n0 B ML ret T h locs cells slots) (hret : ret = some t) (ht : t.isReference = true) (hv : v.isRef = true) (hd : decode B pc = .ok (.areturn, 1)) {fs : List Frame} (hr : ∀ (f : JFrame) (acts : List Action), f.method = m → f.locked = none → f.entered = [] → (doReturn e (T.setTop f) acts (some v)).1 = T.setFrames fs) : Steps p.tables e below (T.setTop (mkF m pc L (v :: S))) (T.setFrames fs) :=
  retOut W.st W.exec (W.ret'.trans hret) (by cases v <;> cases t <;> first | rfl | (simp [Value.isRef] at hv) | (simp [FieldType.isReference] at ht)) (Or.inr (Or.inr (Or.inr (Or.inr ⟨rfl, ht, hv⟩)))) (hb W.bytes hd) hr
theorem rN {z z' : Int32} {t : FieldType} (W : Wk p l e R s vm0 m args below meth c Z own n0 B ML ret T h locs cells slots) (hret : ret = some t) (ht : t = .boolean ∨ t = .byte ∨ t = .char ∨ t = .short) (hz : nar t z = z') (hd : decode B pc = .ok (.ireturn, 1)) {fs : List Frame} (hr : ∀ (f : JFrame) (acts : List Action), f.method = m → f.locked = none → f.entered = [] → (doReturn e (T.setTop f) acts (some (.int z'))).1 = T.setFrames fs) : Steps p.tables e below (T.setTop (mkF m pc L (.int z :: S))) (T.setFrames fs) := by
  subst hz; exact retN W.st W.exec (W.ret'.trans hret) ht (hb W.bytes hd) hr
/-! a contract of a body that interns nothing; its entry; a call by it -/
def CtN (l : Launch) (Z : State) (y : MethodName) (B : ByteArray) (ML : Nat) (ret : Option FieldType) (rm : Room) (n0 : Nat) (as : Array Value) (h : Heap) (Q : Option Value → Heap → Prop) : Prop :=
  ∀ ws : List Jvm.Cond, MetFree l y (head1 (Jvm.Cond.code y B ML ret :: ws) rm) (fun a U => a = as ∧ Z.Warmed39 U.vm ∧ U.heap = h) (fun _ _ _ _ _ => True) (fun _ U o U' => ∃ v Ls, o = .returned v ∧ (Q v U'.heap ∧ Fr n0 Ls) ∧ FrameEnd U o U' Ls rm.cells rm.slots)
theorem CtN.of {y : MethodName} {rm : Room} {as : Array Value} {Q : Option Value → Heap → Prop} (hpl : plainFor y = true)
    (k : ∀ p e s m below meth c T, Wk p l e rm s s.vm m as below meth c Z y.cls n0 B ML ret T h [] 0 0 → meth.name = y.name → Wp p e below (PoN n0 s rm.cells rm.slots Q) T (entryFrame m as ML)) : CtN l Z y B ML ret rm n0 as h Q := by
  intro ws
  refine MetFree.of_bodySF hpl hisR ?_
  intro p e s m args below meth c s₁ Bd hml0 hP hK
  obtain ⟨rfl, hZ, hh⟩ := hP
  have hown : s.vm.findClass y.cls = some m.cls := findClass_of_methodNamed Bd.named
  have hnm := (name_of_methodNamed Bd.named Bd.method).1
  have X0 : Stand p l e rm s m args below meth c s₁ [] 0 0 := Stand.of_body Bd
  have e0 : s₁.heap = h := by rw [← hh, Bd.state]; rfl
  exact k p e s m below meth c s₁ ⟨X0, (State.WarmedH.refl s).since h.size, hZ, hown, e0, Fr.nil n0, Bd.exec, Bd.bytes, hml0, Bd.returns, Bd.notSynchronized⟩ hnm
theorem CtN.grow {y : MethodName} {rm : Room} {as : Array Value} {Q : Option Value → Heap → Prop} (C : CtN l Z y B ML ret rm n0 as h Q) : CtN l Z y B ML ret rm n0 as h (fun v h' => Q v h' ∧ h.size ≤ h'.size) := by
  intro ws p e ha hc hk s m args below hf happ hP hK
  obtain ⟨n, o, h1, h2, h3, v, Ls, e1, ⟨q1, q2⟩, fe⟩ := C ws p e ha hc hk s m args below hf happ hP hK
  exact ⟨n, o, h1, h2, h3, v, Ls, e1, ⟨⟨q1, by rw [← hP.2.2]; exact fe.2.2.2.1⟩, q2⟩, fe⟩
theorem CtN.imp {y : MethodName} {rm : Room} {as : Array Value} {Q Q' : Option Value → Heap → Prop} (C : CtN l Z y B ML ret rm n0 as h Q) (k : ∀ v h', Q v h' → Q' v h') : CtN l Z y B ML ret rm n0 as h Q' := by
  intro ws p e ha hc hk s m args below hf happ hP hK
  obtain ⟨n, o, h1, h2, h3, v, Ls, e1, ⟨q1, q2⟩, fe⟩ := C ws p e ha hc hk s m args below hf happ hP hK
  exact ⟨n, o, h1, h2, h3, v, Ls, e1, ⟨k _ _ q1, q2⟩, fe⟩
theorem w_callS {y : MethodName} {yB : ByteArray} {yML : Nat} {yret : Option FieldType} {rm : Room} {as : Array Value} {Q : Option Value → Heap → Prop} (W : Wk p l e R s vm0 m args below meth c Z own n0 B ML ret T h locs cells slots) {index : Nat} (C : CtN l Z y yB yML yret rm n0 as h Q)
    (w1 : (Jvm.Cond.methodLink own index y).before a0 Z = true) (w2 : (Jvm.Cond.static y).before a0 Z = true) (w3 : (Jvm.Cond.initialized y.cls).before a0 Z = true) (w4 : (Jvm.Cond.code y yB yML yret).before a0 Z = true)
    (hy : y.cls ≠ "java/lang/invoke/MethodHandle" ∧ y.cls ≠ "java/lang/invoke/VarHandle") (Wd : Nat) (hf : rm.frames + 1 ≤ R.frames) (hl : Wd + (yML + 11) + rm.locals ≤ R.locals) (hc : cells + rm.cells ≤ R.cells) (hs : slots + rm.slots ≤ R.slots)
    {argsL rest : List Value} {ps : List FieldType} {r : Option FieldType} (hpd : parseMethodDescriptor y.desc = some ⟨ps, r⟩) (hlen : argsL.length = ps.length) (has : as = argsL.toArray) (hS : S = argsL.reverse ++ rest) (hW : (rest.map fun v => v.category).sum = Wd) (hL : L.size = ML)
    (hd : decode B pc = .ok (.invokestatic index, 3))
    (k : ∀ T' h' locs' v, Wk p l e R s vm0 m args below meth c Z own n0 B ML ret T' h' locs' (cells + rm.cells) (slots + rm.slots) → Q v h' → Wp p e below Post T' (mkF m (pc + 3) L (v.toList ++ rest))) : Wp p e below Post T (mkF m pc L S) := by
  subst has
  have hZ := W.wZ
  obtain ⟨v, vm₁, ⟨T', L', k', n'⟩, -, X', ⟨Lc, hQ, l1, y1, z1⟩, st⟩ := Jvm.LawKit.callS W.st W.exec (y := y) W.own' (mvT hZ w1) (mvT hZ w2) (mvT hZ w3) (mvT hZ w4) hy (backOf (W := Wd) (Q := fun v h' Ls => (Q v h' ∧ h.size ≤ h'.size) ∧ Fr n0 Ls) (C.grow []) hZ w4 w3 hf hl) (g := mkF m pc L S) rfl (hL.trans W.ml.symm) (argsL := argsL) (rest := rest) (lenOf hpd hlen) hS (by show 2 * 0 + _ ≤ _; rw [hW]; omega) (hb W.bytes hd) (fun _ _ => ⟨rfl, W.heap, hc, hs⟩)
  dsimp only [Pt.U, Pt.locs, Pt.cells, Pt.slots] at X' l1 y1 z1 st hQ
  subst l1 y1 z1
  exact (k T' T'.heap _ v (W.on X' rfl hQ.1.2 (W.fr.app hQ.2)) hQ.1.1).imp fun t q => st t q
theorem Wp.cast {g g' : JFrame} (q : g = g') (w : Wp p e below Post T g') : Wp p e below Post T g := q ▸ w
theorem n_rV {kc ks : Nat} {Q : Option Value → Heap → Prop} (W : Wk p l e R s s.vm m args below meth c Z own n0 B ML ret T h locs cells slots) (hret : ret = none) (hd : decode B pc = .ok (.return_, 1)) (hc : cells ≤ kc) (hk : slots ≤ ks) (hq : Q none h) : Wp p e below (PoN n0 s kc ks Q) T (mkF m pc L []) := endN W (fun _ => rfl) hc hk hq fun fs hr => rV W hret hd hr
theorem n_rI {kc ks : Nat} {Q : Option Value → Heap → Prop} {z : Int32} (W : Wk p l e R s s.vm m args below meth c Z own n0 B ML ret T h locs cells slots) (hret : ret = some .int) (hd : decode B pc = .ok (.ireturn, 1)) (hc : cells ≤ kc) (hk : slots ≤ ks) (hq : Q (some (.int z)) h) : Wp p e below (PoN n0 s kc ks Q) T (mkF m pc L (.int z :: S)) := endN W (fun q => by rw [hret] at q; cases q) hc hk hq fun fs hr => rI W hret hd hr
theorem n_rL {kc ks : Nat} {Q : Option Value → Heap → Prop} {z : Int64} (W : Wk p l e R s s.vm m args below meth c Z own n0 B ML ret T h locs cells slots) (hret : ret = some .long) (hd : decode B pc = .ok (.lreturn, 1)) (hc : cells ≤ kc) (hk : slots ≤ ks) (hq : Q (some (.long z)) h) : Wp p e below (PoN n0 s kc ks Q) T (mkF m pc L (.long z :: S)) := endN W (fun q => by rw [hret] at q; cases q) hc hk hq fun fs hr => rL W hret hd hr
theorem n_rA {kc ks : Nat} {Q : Option Value → Heap → Prop} {v : Value} {t : FieldType} (W : Wk p l e R s s.vm m args below meth c Z own n0 B ML ret T h locs cells slots) (hret : ret = some t) (ht : t.isReference = true) (hv : v.isRef = true) (hd : decode B pc = .ok (.areturn, 1)) (hc : cells ≤ kc) (hk : slots ≤ ks) (hq : Q (some v) h) : Wp p e below (PoN n0 s kc ks Q) T (mkF m pc L (v :: S)) := endN W (fun q => by rw [hret] at q; cases q) hc hk hq fun fs hr => rA W hret ht hv hd hr
theorem n_rN {kc ks : Nat} {Q : Option Value → Heap → Prop} {z z' : Int32} {t : FieldType} (W : Wk p l e R s s.vm m args below meth c Z own n0 B ML ret T h locs cells slots) (hret : ret = some t) (ht : t = .boolean ∨ t = .byte ∨ t = .char ∨ t = .short) (hz : nar t z = z') (hd : decode B pc = .ok (.ireturn, 1)) (hc : cells ≤ kc) (hk : slots ≤ ks) (hq : Q (some (.int z')) h) : Wp p e below (PoN n0 s kc ks Q) T (mkF m pc L (.int z :: S)) := endN W (fun q => by rw [hret] at q; cases q) hc hk hq fun fs hr => rN W hret ht hz hd hr

end OwnKit

/-! OwnKit, second part: the heap, calls of constructors and instance methods, literals -/
section OwnKit2
variable {p : Program} {l : Launch} {e : Env} {R : Room} {s : State} {vm0 : Vm} {m : MethodId} {args : Array Value} {below : List Frame} {meth : Method} {c : Code} {Z : State} {own : String} {n0 : Nat} {B : ByteArray} {ML : Nat} {ret : Option FieldType} {T : State} {h : Heap} {locs : List Loc} {cells slots : Nat} {a0 : Array Value} {Post : Outcome → State → Prop} {pc : Nat} {L : Array Slot} {S : List Value}
theorem w_getf (W : Wk p l e R s vm0 m args below meth c Z own n0 B ML ret T h locs cells slots) {R0 O n d host : String} {index : Nat} {a : Addr} {v : Value} (w : (Jvm.Cond.fieldLink own index R0 n d).before a0 Z = true ∨ (Jvm.Cond.fieldLinkNest own index R0 n d host).before a0 Z = true) (via : Via Z R0 O n d) (F : Fld Z h a O n d v) (hd : decode B pc = .ok (.getfield index, 3))
    (k : ∀ T', Wk p l e R s vm0 m args below meth c Z own n0 B ML ret T' h locs cells slots → Wp p e below Post T' (mkF m (pc + 3) L (v :: S))) : Wp p e below Post T (mkF m pc L (.ref a :: S)) := by
  obtain ⟨T', X', e', st⟩ := getF W.st W.exec W.wZ W.own' w via W.heap F (g := mkF m pc L (.ref a :: S)) rfl rfl (hb W.bytes hd)
  exact (k T' (W.on X' e' (Nat.le_refl _) W.fr)).imp st
theorem w_gets (W : Wk p l e R s vm0 m args below meth c Z own n0 B ML ret T h locs cells slots) {R0 O n d host : String} {index : Nat} {v : Value} (w : (Jvm.Cond.fieldLink own index R0 n d).before a0 Z = true ∨ (Jvm.Cond.fieldLinkNest own index R0 n d host).before a0 Z = true) (via : Via Z R0 O n d) (F : Sta Z h O n d v) (hd : decode B pc = .ok (.getstatic index, 3))
    (k : ∀ T', Wk p l e R s vm0 m args below meth c Z own n0 B ML ret T' h locs cells slots → Wp p e below Post T' (mkF m (pc + 3) L (v :: S))) : Wp p e below Post T (mkF m pc L S) := by
  obtain ⟨T', X', e', st⟩ := getS2 W.st W.exec W.wZ W.own' w via W.heap F (g := mkF m pc L S) rfl (hb W.bytes hd)
  exact (k T' (W.on X' e' (Nat.le_refl _) W.fr)).imp st
theorem w_putf (W : Wk p l e R s vm0 m args below meth c Z own n0 B ML ret T h locs cells slots) {R0 O n d C : String} {index kk : Nat} {ty : FieldType} {a : Addr} {v v' old : Value} (w : (Jvm.Cond.fieldLink own index R0 n d).before a0 Z = true) (via : Via Z R0 O n d) (F : Fld Z h a O n d old) (E : Exa Z h a C) (Lw : (Jvm.Cond.lays C O n d).before a0 Z = true ∨ ((Jvm.Cond.laysFinal C O n d).before a0 Z = true ∧ own = O ∧ meth.name = "<init>")) (wi : (Jvm.Cond.instantiable C kk).before a0 Z = true)
    (hty : parseFieldDescriptor d = some ty) (hn : narrow ty v = v') (hf : fits ty v' = true) (hna : n0 ≤ a) (hd : decode B pc = .ok (.putfield index, 3))
    (k : ∀ T' h' locs', Wk p l e R s vm0 m args below meth c Z own n0 B ML ret T' h' locs' cells slots → Wr h h' a (Jvm.RoadKit.slotOf Z O n d) v' → Wp p e below Post T' (mkF m (pc + 3) L S)) : Wp p e below Post T (mkF m pc L (v :: .ref a :: S)) := by
  obtain ⟨T', h', X', e', Wr', st⟩ := putFN W.st W.exec W.wZ W.own' w via W.heap F E Lw wi hty hn hf (g := mkF m pc L (v :: .ref a :: S)) rfl rfl (hb W.bytes hd)
  exact (k T' h' _ (W.on X' e' (Nat.le_of_eq Wr'.size.symm) (Fr.snoc X' W.fr hna)) Wr').imp st
theorem w_new (W : Wk p l e R s vm0 m args below meth c Z own n0 B ML ret T h locs cells slots) {C : String} {index n : Nat} (w : (Jvm.Cond.classLink own index C).before a0 Z = true) (wi : (Jvm.Cond.instantiable C n).before a0 Z = true) (wz : (Jvm.Cond.initialized C).before a0 Z = true) (hd : decode B pc = .ok (.new index, 3)) (hc : cells + 1 ≤ R.cells) (hl : slots + n ≤ R.slots)
    (k : ∀ T' h' a, Wk p l e R s vm0 m args below meth c Z own n0 B ML ret T' h' locs (cells + 1) (slots + n) → Ext h h' → a = h.size → Exa Z h' a C → (∀ {O nm d : String} {ty : FieldType}, Laid Z a0 C O nm d → parseFieldDescriptor d = some ty → Fld Z h' a O nm d (defaultValue ty)) → Wp p e below Post T' (mkF m (pc + 3) L (.ref a :: S))) : Wp p e below Post T (mkF m pc L S) := by
  obtain ⟨T', h', X', e', E', A', D', -, st⟩ := newO W.st W.exec W.wZ W.own' w wi wz W.heap (g := mkF m pc L S) rfl (hb W.bytes hd) hc hl
  exact (k T' h' h.size (W.on X' e' E'.1 W.fr) E' rfl A' D').imp st
theorem w_newarr (W : Wk p l e R s vm0 m args below meth c Z own n0 B ML ret T h locs cells slots) {aty : ArrayType} {ty : FieldType} {dv : Value} (w : (Jvm.Cond.arrayClass ty).before a0 Z = true) (hty : newarray.typeOf aty = ty) (hdv : defaultValue ty = dv) {n : Int32} (hd : decode B pc = .ok (.newarray aty, 2)) (hn : ¬ n < 0) (cap : Nat) (hcap : n.toNatClampNeg ≤ cap) (hb8 : cap * 8 ≤ 536870912) (hc : cells + 1 ≤ R.cells) (hl : slots + cap ≤ R.slots)
    (k : ∀ T' h' a kc, Wk p l e R s vm0 m args below meth c Z own n0 B ML ret T' h' locs (cells + 1) (slots + cap) → Ext h h' → a = h.size → Arv Z h' a kc ty n [] dv → Wp p e below Post T' (mkF m (pc + 2) L (.ref a :: S))) : Wp p e below Post T (mkF m pc L (.int n :: S)) := by
  subst hty hdv
  obtain ⟨T', h', kc, X', e', E', A', st⟩ := newP W.st W.exec W.wZ w W.heap (g := mkF m pc L (.int n :: S)) rfl (hb W.bytes hd) rfl hn hcap hb8 hc hl
  exact (k T' h' h.size kc (W.on X' e' E'.1 W.fr) E' rfl (Arv.new A' hn)).imp st
theorem w_arrlen (W : Wk p l e R s vm0 m args below meth c Z own n0 B ML ret T h locs cells slots) {a : Addr} {kc : ClassId} {ty : FieldType} {z : Int32} {vs : List Value} {dv : Value} (F : Arv Z h a kc ty z vs dv) (hd : decode B pc = .ok (.arraylength, 1)) (hr : Wp p e below Post T (mkF m (pc + 1) L (.int z :: S))) : Wp p e below Post T (mkF m pc L (.ref a :: S)) := by
  obtain ⟨cl, Ar, -, S1, N1, -, -⟩ := F
  exact hr.imp fun t q => W.st.arraylength W.exec (by rw [W.heap]; exact Ar.1) (State.isArrayOf_alike W.wZ.alike Ar.2.1) (g := mkF m pc L (.ref a :: S)) rfl rfl (hb W.bytes hd) t (by rw [len_of S1 N1]; exact q)
theorem w_caload (W : Wk p l e R s vm0 m args below meth c Z own n0 B ML ret T h locs cells slots) {a : Addr} {kc : ClassId} {z j : Int32} {vs : List Value} {dv v : Value} (F : Arv Z h a kc .char z vs dv) (hj : ¬ j < 0 ∧ j < z) (hv : vs.getD j.toNatClampNeg dv = v) (hd : decode B pc = .ok (.caload, 1)) (hr : Wp p e below Post T (mkF m (pc + 1) L (v :: S))) : Wp p e below Post T (mkF m pc L (.int j :: .ref a :: S)) := by
  obtain ⟨cl, Ar, -, S1, N1, H1, -⟩ := F
  have hin := inb_of S1 hj
  exact hr.imp fun t q => W.st.caload W.exec (j := j) (v := v) (by rw [W.heap]; exact Ar.1) (State.isArrayOf_alike W.wZ.alike Ar.2.1) Ar.2.2 hin (Has.at H1 hin hv) (g := mkF m pc L (.int j :: .ref a :: S)) rfl rfl (hb W.bytes hd) t q
theorem w_baload (W : Wk p l e R s vm0 m args below meth c Z own n0 B ML ret T h locs cells slots) {a : Addr} {kc : ClassId} {z j : Int32} {vs : List Value} {dv v : Value} (F : Arv Z h a kc .byte z vs dv) (hj : ¬ j < 0 ∧ j < z) (hv : vs.getD j.toNatClampNeg dv = v) (hd : decode B pc = .ok (.baload, 1)) (hr : Wp p e below Post T (mkF m (pc + 1) L (v :: S))) : Wp p e below Post T (mkF m pc L (.int j :: .ref a :: S)) := by
  obtain ⟨cl, Ar, -, S1, N1, H1, -⟩ := F
  have hin := inb_of S1 hj
  exact hr.imp fun t q => W.st.baloadBytes W.exec (j := j) (v := v) (by rw [W.heap]; exact Ar.1) (State.isArrayOf_alike W.wZ.alike Ar.2.1) Ar.2.2 hin (Has.at H1 hin hv) (g := mkF m pc L (.int j :: .ref a :: S)) rfl rfl (hb W.bytes hd) t q
theorem w_iaload (W : Wk p l e R s vm0 m args below meth c Z own n0 B ML ret T h locs cells slots) {a : Addr} {kc : ClassId} {z j : Int32} {vs : List Value} {dv v : Value} (F : Arv Z h a kc .int z vs dv) (hj : ¬ j < 0 ∧ j < z) (hv : vs.getD j.toNatClampNeg dv = v) (hd : decode B pc = .ok (.iaload, 1)) (hr : Wp p e below Post T (mkF m (pc + 1) L (v :: S))) : Wp p e below Post T (mkF m pc L (.int j :: .ref a :: S)) := by
  obtain ⟨cl, Ar, -, S1, N1, H1, -⟩ := F
  have hin := inb_of S1 hj
  exact hr.imp fun t q => W.st.iaload W.exec (j := j) (v := v) (by rw [W.heap]; exact Ar.1) (State.isArrayOf_alike W.wZ.alike Ar.2.1) Ar.2.2 hin (Has.at H1 hin hv) (g := mkF m pc L (.int j :: .ref a :: S)) rfl rfl (hb W.bytes hd) t q
theorem w_castore (W : Wk p l e R s vm0 m args below meth c Z own n0 B ML ret T h locs cells slots) {a : Addr} {kc : ClassId} {z j x x' : Int32} {vs : List Value} {dv : Value} (F : Arv Z h a kc .char z vs dv) (hj : ¬ j < 0 ∧ j < z) (i : Nat) (hi : j.toNatClampNeg = i) (hl : i < vs.length) (hx' : nar .char x = x') (hna : n0 ≤ a) (hd : decode B pc = .ok (.castore, 1))
    (k : ∀ T' h' locs', Wk p l e R s vm0 m args below meth c Z own n0 B ML ret T' h' locs' cells slots → Wr h h' a i (.int x') → Arv Z h' a kc .char z (vs.set i (.int x')) dv → Wp p e below Post T' (mkF m (pc + 1) L S)) : Wp p e below Post T (mkF m pc L (.int x :: .int j :: .ref a :: S)) := by
  subst hx' hi
  obtain ⟨cl, Ar, q1, S1, N1, H1, G1⟩ := F
  have hin := inb_of S1 hj
  obtain ⟨T', h', X', e', Wr', st⟩ := stC W.st W.exec W.wZ W.heap Ar (j := j) hin (g := mkF m pc L (.int x :: .int j :: .ref a :: S)) rfl rfl (hb W.bytes hd)
  exact (k T' h' _ (W.on X' e' (Nat.le_of_eq Wr'.size.symm) (Fr.snoc X' W.fr hna)) Wr' (Arv.set Ar q1 S1 N1 H1 G1 (fits_nar_char _) Wr' _ rfl hl)).imp st
theorem w_bastore (W : Wk p l e R s vm0 m args below meth c Z own n0 B ML ret T h locs cells slots) {a : Addr} {kc : ClassId} {z j x x' : Int32} {vs : List Value} {dv : Value} (F : Arv Z h a kc .byte z vs dv) (hj : ¬ j < 0 ∧ j < z) (i : Nat) (hi : j.toNatClampNeg = i) (hl : i < vs.length) (hx' : nar .byte x = x') (hna : n0 ≤ a) (hd : decode B pc = .ok (.bastore, 1))
    (k : ∀ T' h' locs', Wk p l e R s vm0 m args below meth c Z own n0 B ML ret T' h' locs' cells slots → Wr h h' a i (.int x') → Arv Z h' a kc .byte z (vs.set i (.int x')) dv → Wp p e below Post T' (mkF m (pc + 1) L S)) : Wp p e below Post T (mkF m pc L (.int x :: .int j :: .ref a :: S)) := by
  subst hx' hi
  obtain ⟨cl, Ar, q1, S1, N1, H1, G1⟩ := F
  have hin := inb_of S1 hj
  obtain ⟨T', h', X', e', Wr', st⟩ := stB W.st W.exec W.wZ W.heap Ar (j := j) hin (g := mkF m pc L (.int x :: .int j :: .ref a :: S)) rfl rfl (hb W.bytes hd)
  exact (k T' h' _ (W.on X' e' (Nat.le_of_eq Wr'.size.symm) (Fr.snoc X' W.fr hna)) Wr' (Arv.set Ar q1 S1 N1 H1 G1 (fits_nar_byte _) Wr' _ rfl hl)).imp st
theorem w_cast (W : Wk p l e R s vm0 m args below meth c Z own n0 B ML ret T h locs cells slots) {K : String} {index : Nat} {a : Addr} (w : (Jvm.Cond.classLink own index K).before a0 Z = true) (F : Ins Z h a K true) (hd : decode B pc = .ok (.checkcast index, 3))
    (k : ∀ T', Wk p l e R s vm0 m args below meth c Z own n0 B ML ret T' h locs cells slots → Wp p e below Post T' (mkF m (pc + 3) L (.ref a :: S))) : Wp p e below Post T (mkF m pc L (.ref a :: S)) := by
  obtain ⟨T', X', e', st⟩ := castY W.st W.exec W.wZ W.own' w W.heap F (g := mkF m pc L (.ref a :: S)) rfl rfl (hb W.bytes hd)
  exact (k T' (W.on X' e' (Nat.le_refl _) W.fr)).imp st
theorem w_instY (W : Wk p l e R s vm0 m args below meth c Z own n0 B ML ret T h locs cells slots) {K : String} {index : Nat} {a : Addr} (w : (Jvm.Cond.classLink own index K).before a0 Z = true) (F : Ins Z h a K true) (hd : decode B pc = .ok (.instanceof index, 3))
    (k : ∀ T', Wk p l e R s vm0 m args below meth c Z own n0 B ML ret T' h locs cells slots → Wp p e below Post T' (mkF m (pc + 3) L (.int 1 :: S))) : Wp p e below Post T (mkF m pc L (.ref a :: S)) := by
  obtain ⟨T', X', e', st⟩ := instY W.st W.exec W.wZ W.own' w W.heap F (g := mkF m pc L (.ref a :: S)) rfl rfl (hb W.bytes hd)
  exact (k T' (W.on X' e' (Nat.le_refl _) W.fr)).imp st
theorem w_instNo (W : Wk p l e R s vm0 m args below meth c Z own n0 B ML ret T h locs cells slots) {K C : String} {index : Nat} {a : Addr} (w : (Jvm.Cond.classLink own index K).before a0 Z = true) (E : Exa Z h a C) (F : ∃ c t, Z.vm.findClass C = some c ∧ Z.vm.findClass K = some t ∧ Z.vm.assignable c t = false) (hd : decode B pc = .ok (.instanceof index, 3))
    (k : ∀ T', Wk p l e R s vm0 m args below meth c Z own n0 B ML ret T' h locs cells slots → Wp p e below Post T' (mkF m (pc + 3) L (.int 0 :: S))) : Wp p e below Post T (mkF m pc L (.ref a :: S)) := by
  obtain ⟨T', X', e', st⟩ := instNo W.st W.exec W.wZ W.own' w W.heap E F (g := mkF m pc L (.ref a :: S)) rfl rfl (hb W.bytes hd)
  exact (k T' (W.on X' e' (Nat.le_refl _) W.fr)).imp st
theorem w_instNull (W : Wk p l e R s vm0 m args below meth c Z own n0 B ML ret T h locs cells slots) {index : Nat} (hd : decode B pc = .ok (.instanceof index, 3)) (hr : Wp p e below Post T (mkF m (pc + 3) L (.int 0 :: S))) : Wp p e below Post T (mkF m pc L (.null :: S)) :=
  hr.imp fun t q => W.st.instanceofNull W.exec (g := mkF m pc L (.null :: S)) rfl rfl (hb W.bytes hd) t q
theorem w_castNull (W : Wk p l e R s vm0 m args below meth c Z own n0 B ML ret T h locs cells slots) {index : Nat} (hd : decode B pc = .ok (.checkcast index, 3)) (hr : Wp p e below Post T (mkF m (pc + 3) L (.null :: S))) : Wp p e below Post T (mkF m pc L (.null :: S)) :=
  hr.imp fun t q => W.st.checkcastNull W.exec (g := mkF m pc L (.null :: S)) rfl rfl (hb W.bytes hd) t q
theorem w_initO (W : Wk p l e R s vm0 m args below meth c Z own n0 B ML ret T h locs cells slots) {index : Nat} {a : Addr} (w1 : (Jvm.Cond.methodLink own index Lib.objectInit).before a0 Z = true) (w2 : (Jvm.Cond.instanceMethod Lib.objectInit).before a0 Z = true) (w3 : (Jvm.Cond.code Lib.objectInit ⟨#[0xb1]⟩ 1 none).before a0 Z = true) (Wd : Nat) (hW : (S.map fun v => v.category).sum = Wd) (hL : L.size = ML) (hf : 1 ≤ R.frames) (hl : Wd + 12 ≤ R.locals) (hd : decode B pc = .ok (.invokespecial index, 3))
    (k : ∀ T', Wk p l e R s vm0 m args below meth c Z own n0 B ML ret T' h locs cells slots → Wp p e below Post T' (mkF m (pc + 3) L S)) : Wp p e below Post T (mkF m pc L (.ref a :: S)) := by
  obtain ⟨T', X', e', st⟩ := initO W.st W.exec W.wZ W.own' w1 w2 w3 W.heap (g := mkF m pc L (.ref a :: S)) rfl (hL.trans W.ml.symm) rfl (hb W.bytes hd) hf (W := Wd) (by show 2 * 0 + _ ≤ _; rw [hW]; omega) hl
  exact (k T' (W.on X' e' (Nat.le_refl _) W.fr)).imp st
/-! calls by a contract of a body that interns nothing -/
section CallsN
variable {y z : MethodName} {yB : ByteArray} {yML : Nat} {yret : Option FieldType} {rm : Room} {as : Array Value} {Q : Option Value → Heap → Prop} {index : Nat}
theorem w_special (W : Wk p l e R s vm0 m args below meth c Z own n0 B ML ret T h locs cells slots) (C : CtN l Z y yB yML none rm n0 as h Q) (hy1 : y.name = "<init>")
    (w1 : (Jvm.Cond.methodLink own index y).before a0 Z = true) (w2 : (Jvm.Cond.instanceMethod y).before a0 Z = true) (w3 : (Jvm.Cond.initialized y.cls).before a0 Z = true) (w4 : (Jvm.Cond.code y yB yML none).before a0 Z = true)
    (hy : y.cls ≠ "java/lang/invoke/MethodHandle" ∧ y.cls ≠ "java/lang/invoke/VarHandle") (Wd : Nat) (hf : rm.frames + 1 ≤ R.frames) (hl : Wd + (yML + 11) + rm.locals ≤ R.locals) (hc : cells + rm.cells ≤ R.cells) (hs : slots + rm.slots ≤ R.slots)
    {a : Addr} {argsL rest : List Value} {ps : List FieldType} {r : Option FieldType} (hpd : parseMethodDescriptor y.desc = some ⟨ps, r⟩) (hlen : argsL.length = ps.length) (has : as = (.ref a :: argsL).toArray) (hS : S = argsL.reverse ++ .ref a :: rest) (hW : (rest.map fun v => v.category).sum = Wd) (hL : L.size = ML)
    (hd : decode B pc = .ok (.invokespecial index, 3))
    (k : ∀ T' h' locs' v, Wk p l e R s vm0 m args below meth c Z own n0 B ML ret T' h' locs' (cells + rm.cells) (slots + rm.slots) → Q v h' → Wp p e below Post T' (mkF m (pc + 3) L (v.toList ++ rest))) : Wp p e below Post T (mkF m pc L S) := by
  subst has
  have hZ := W.wZ
  obtain ⟨v, vm₁, ⟨T', L', k', n'⟩, -, X', ⟨Lc, hQ, l1, y1, z1⟩, st⟩ := W.st.specialBack W.exec (y := y) hy1 W.own' (mvT hZ w1) (mvT hZ w2) (mvT hZ w4) hy (backOf (W := Wd) (Q := fun v h' Ls => (Q v h' ∧ h.size ≤ h'.size) ∧ Fr n0 Ls) (C.grow []) hZ w4 w3 hf hl) (g := mkF m pc L S) rfl (hL.trans W.ml.symm) (Steps.refl _) (a := a) (argsL := argsL) (rest := rest) (lenOf hpd hlen) hS (by show 2 * 0 + _ ≤ _; rw [hW]; omega) (hb W.bytes hd) (fun _ _ => ⟨rfl, W.heap, hc, hs⟩)
  dsimp only [Pt.U, Pt.locs, Pt.cells, Pt.slots] at X' l1 y1 z1 st hQ
  subst l1 y1 z1
  exact (k T' T'.heap _ v (W.on X' rfl hQ.1.2 (W.fr.app hQ.2)) hQ.1.1).imp fun t q => st.trans q
theorem w_virt (W : Wk p l e R s vm0 m args below meth c Z own n0 B ML ret T h locs cells slots) {C' : String} (C : CtN l Z z yB yML yret rm n0 as h Q)
    (w1 : (Jvm.Cond.methodLink own index y).before a0 Z = true) (w2 : (Jvm.Cond.declares y).before a0 Z = true) (hnf : NotFace (s.setVm vm0) y) (w3 : (Jvm.Cond.selects C' y z).before a0 Z = true) (w4 : (Jvm.Cond.instanceMethod z).before a0 Z = true) (w5 : (Jvm.Cond.initialized z.cls).before a0 Z = true) (w6 : (Jvm.Cond.code z yB yML yret).before a0 Z = true)
    (hy : y.cls ≠ "java/lang/invoke/MethodHandle" ∧ y.cls ≠ "java/lang/invoke/VarHandle") (Wd : Nat) (hf : rm.frames + 1 ≤ R.frames) (hl : Wd + (yML + 11) + rm.locals ≤ R.locals) (hc : cells + rm.cells ≤ R.cells) (hs : slots + rm.slots ≤ R.slots)
    {a : Addr} (E : Exa Z h a C') {argsL rest : List Value} {ps : List FieldType} {r : Option FieldType} (hpd : parseMethodDescriptor y.desc = some ⟨ps, r⟩) (hlen : argsL.length = ps.length) (has : as = (.ref a :: argsL).toArray) (hS : S = argsL.reverse ++ .ref a :: rest) (hW : (rest.map fun v => v.category).sum = Wd) (hL : L.size = ML)
    (hd : decode B pc = .ok (.invokevirtual index, 3))
    (k : ∀ T' h' locs' v, Wk p l e R s vm0 m args below meth c Z own n0 B ML ret T' h' locs' (cells + rm.cells) (slots + rm.slots) → Q v h' → Wp p e below Post T' (mkF m (pc + 3) L (v.toList ++ rest))) : Wp p e below Post T (mkF m pc L S) := by
  subst has
  have hZ := W.wZ
  obtain ⟨cq, kq, qa, qb, qc⟩ := isOf hZ W.heap E
  obtain ⟨v, vm₁, ⟨T', L', k', n'⟩, -, X', ⟨Lc, hQ, l1, y1, z1⟩, st⟩ := W.st.virtualBack W.exec (y := y) (z := z) W.own' (mvT hZ w1) (mvT hZ w2) hnf (mvT hZ w3) (mvT hZ w4) hy (backOf (W := Wd) (Q := fun v h' Ls => (Q v h' ∧ h.size ≤ h'.size) ∧ Fr n0 Ls) (C.grow []) hZ w6 w5 hf hl) qa qc (g := mkF m pc L S) rfl (hL.trans W.ml.symm) (Steps.refl _) (argsL := argsL) (rest := rest) (lenOf hpd hlen) hS (by show 2 * 0 + _ ≤ _; rw [hW]; omega) (hb W.bytes hd) (fun _ _ => ⟨rfl, W.heap, hc, hs⟩)
  dsimp only [Pt.U, Pt.locs, Pt.cells, Pt.slots] at X' l1 y1 z1 st hQ
  subst l1 y1 z1
  exact (k T' T'.heap _ v (W.on X' rfl hQ.1.2 (W.fr.app hQ.2)) hQ.1.1).imp fun t q => st.trans q
theorem w_face (W : Wk p l e R s vm0 m args below meth c Z own n0 B ML ret T h locs cells slots) {C' : String} {count : Nat} (C : CtN l Z z yB yML yret rm n0 as h Q)
    (w1 : (Jvm.Cond.methodLink own index y).before a0 Z = true) (w2 : (Jvm.Cond.declares y).before a0 Z = true) (w2' : (Jvm.Cond.interfaceMethod y.cls y.cls y.name y.desc).before args (s.setVm vm0) = true) (w3 : (Jvm.Cond.selects C' y z).before a0 Z = true) (w4 : (Jvm.Cond.instanceMethod z).before a0 Z = true) (w7 : (Jvm.Cond.publicMethod z).before a0 Z = true) (w8 : (Jvm.Cond.unhidden C' y.name y.desc).before a0 Z = true) (w9 : (Jvm.Cond.castable C' y.cls).before a0 Z = true) (w5 : (Jvm.Cond.initialized z.cls).before a0 Z = true) (w6 : (Jvm.Cond.code z yB yML yret).before a0 Z = true)
    (hy : y.cls ≠ "java/lang/invoke/MethodHandle" ∧ y.cls ≠ "java/lang/invoke/VarHandle") (Wd : Nat) (hf : rm.frames + 1 ≤ R.frames) (hl : Wd + (yML + 11) + rm.locals ≤ R.locals) (hc : cells + rm.cells ≤ R.cells) (hs : slots + rm.slots ≤ R.slots)
    {a : Addr} (E : Exa Z h a C') {argsL rest : List Value} {ps : List FieldType} {r : Option FieldType} (hpd : parseMethodDescriptor y.desc = some ⟨ps, r⟩) (hlen : argsL.length = ps.length) (has : as = (.ref a :: argsL).toArray) (hS : S = argsL.reverse ++ .ref a :: rest) (hW : (rest.map fun v => v.category).sum = Wd) (hL : L.size = ML)
    (hd : decode B pc = .ok (.invokeinterface index count, 5))
    (k : ∀ T' h' locs' v, Wk p l e R s vm0 m args below meth c Z own n0 B ML ret T' h' locs' (cells + rm.cells) (slots + rm.slots) → Q v h' → Wp p e below Post T' (mkF m (pc + 5) L (v.toList ++ rest))) : Wp p e below Post T (mkF m pc L S) := by
  subst has
  have hZ := W.wZ
  obtain ⟨cq, kq, qa, qb, qc⟩ := isOf hZ W.heap E
  obtain ⟨v, vm₁, ⟨T', L', k', n'⟩, -, X', ⟨Lc, hQ, l1, y1, z1⟩, st⟩ := W.st.interfaceBack W.exec (xi := y) (y := z) W.own' (mvT hZ w1) (mvT hZ w2) w2' (mvT hZ w3) (mvT hZ w4) (mvT hZ w7) (mvT hZ w8) (mvT hZ w9) hy (backOf (W := Wd) (Q := fun v h' Ls => (Q v h' ∧ h.size ≤ h'.size) ∧ Fr n0 Ls) (C.grow []) hZ w6 w5 hf hl) qa qb qc (g := mkF m pc L S) rfl (hL.trans W.ml.symm) (Steps.refl _) (argsL := argsL) (rest := rest) (lenOf hpd hlen) hS (by show 2 * 0 + _ ≤ _; rw [hW]; omega) (hb W.bytes hd) (fun _ _ => ⟨rfl, W.heap, hc, hs⟩)
  dsimp only [Pt.U, Pt.locs, Pt.cells, Pt.slots] at X' l1 y1 z1 st hQ
  subst l1 y1 z1
  exact (k T' T'.heap _ v (W.on X' rfl hQ.1.2 (W.fr.app hQ.2)) hQ.1.1).imp fun t q => st.trans q
end CallsN
/-! bodies that may intern -/
def PoW (n0 : Nat) (s : State) (kc ks : Nat) (Q : Option Value → Heap → Vm → Prop) (o : Outcome) (t : State) : Prop := ∃ v Ls, o = .returned v ∧ (Q v t.heap t.vm ∧ Fr n0 Ls) ∧ ReturnedEndW s o t Ls kc ks
theorem endW {kc ks : Nat} {Q : Option Value → Heap → Vm → Prop} (W : Wk p l e R s vm0 m args below meth c Z own n0 B ML ret T h locs cells slots) {v : Option Value} {g : JFrame} (hv : ret = none → v = none) (hc : cells ≤ kc) (hk : slots ≤ ks) (hq : ∀ vm', (s.setVm vm0).WarmedH vm' → Q v h vm')
    (k : ∀ fs, (∀ (f : JFrame) (acts : List Action), f.method = m → f.locked = none → f.entered = [] → (doReturn e (T.setTop f) acts v).1 = T.setFrames fs) → Steps p.tables e below (T.setTop g) (T.setFrames fs)) : Wp p e below (PoW n0 s kc ks Q) T g := by
  have hlk := W.lk
  obtain ⟨fs, hr, hrun, hended, hend⟩ := (W.st.mono hc hk).leaveW W.since (Nat.le_of_eq (congrArg Array.size W.heap).symm) (v := v) (fun q => hv (W.ret'.symm.trans q))
  have hh : (T.setFrames fs).heap = h := W.heap
  exact ⟨_, _, k fs hr, hrun, hended, v, locs, rfl, ⟨by rw [hh]; exact hq _ W.st.warmed, W.fr⟩, hend⟩
theorem x_rV {kc ks : Nat} {Q : Option Value → Heap → Vm → Prop} (W : Wk p l e R s vm0 m args below meth c Z own n0 B ML ret T h locs cells slots) (hret : ret = none) (hd : decode B pc = .ok (.return_, 1)) (hc : cells ≤ kc) (hk : slots ≤ ks) (hq : ∀ vm', (s.setVm vm0).WarmedH vm' → Q none h vm') : Wp p e below (PoW n0 s kc ks Q) T (mkF m pc L []) := endW W (fun _ => rfl) hc hk hq fun fs hr => rV W hret hd hr
theorem x_rI {kc ks : Nat} {Q : Option Value → Heap → Vm → Prop} {z : Int32} (W : Wk p l e R s vm0 m args below meth c Z own n0 B ML ret T h locs cells slots) (hret : ret = some .int) (hd : decode B pc = .ok (.ireturn, 1)) (hc : cells ≤ kc) (hk : slots ≤ ks) (hq : ∀ vm', (s.setVm vm0).WarmedH vm' → Q (some (.int z)) h vm') : Wp p e below (PoW n0 s kc ks Q) T (mkF m pc L (.int z :: S)) := endW W (fun q => by rw [hret] at q; cases q) hc hk hq fun fs hr => rI W hret hd hr
theorem x_rA {kc ks : Nat} {Q : Option Value → Heap → Vm → Prop} {v : Value} {t : FieldType} (W : Wk p l e R s vm0 m args below meth c Z own n0 B ML ret T h locs cells slots) (hret : ret = some t) (ht : t.isReference = true) (hv : v.isRef = true) (hd : decode B pc = .ok (.areturn, 1)) (hc : cells ≤ kc) (hk : slots ≤ ks) (hq : ∀ vm', (s.setVm vm0).WarmedH vm' → Q (some v) h vm') : Wp p e below (PoW n0 s kc ks Q) T (mkF m pc L (v :: S)) := endW W (fun q => by rw [hret] at q; cases q) hc hk hq fun fs hr => rA W hret ht hv hd hr
theorem x_rN {kc ks : Nat} {Q : Option Value → Heap → Vm → Prop} {z z' : Int32} {t : FieldType} (W : Wk p l e R s vm0 m args below meth c Z own n0 B ML ret T h locs cells slots) (hret : ret = some t) (ht : t = .boolean ∨ t = .byte ∨ t = .char ∨ t = .short) (hz : nar t z = z') (hd : decode B pc = .ok (.ireturn, 1)) (hc : cells ≤ kc) (hk : slots ≤ ks) (hq : ∀ vm', (s.setVm vm0).WarmedH vm' → Q (some (.int z')) h vm') : Wp p e below (PoW n0 s kc ks Q) T (mkF m pc L (.int z :: S)) := endW W (fun q => by rw [hret] at q; cases q) hc hk hq fun fs hr => rN W hret ht hz hd hr
/-- a contract of a body that may intern: Vp is asked of the tables at its start, Q tells of those at its end -/
def CtW (l : Launch) (Z : State) (y : MethodName) (B : ByteArray) (ML : Nat) (ret : Option FieldType) (rm : Room) (n0 : Nat) (as : Array Value) (h : Heap) (Vp : Vm → Prop) (Q : Option Value → Heap → Vm → Prop) : Prop :=
  ∀ ws : List Jvm.Cond, MetFree l y (head1 (Jvm.Cond.code y B ML ret :: ws) rm) (fun a U => a = as ∧ Z.Warmed39 U.vm ∧ U.heap = h ∧ Vp U.vm) (fun _ _ _ _ _ => True) (fun _ U o U' => ∃ v Ls, o = .returned v ∧ (Q v U'.heap U'.vm ∧ Fr n0 Ls) ∧ ReturnedEndW U o U' Ls rm.cells rm.slots)
theorem CtW.of {y : MethodName} {rm : Room} {as : Array Value} {Vp : Vm → Prop} {Q : Option Value → Heap → Vm → Prop} (hpl : plainFor y = true)
    (k : ∀ p e s m below meth c T, Wk p l e rm s s.vm m as below meth c Z y.cls n0 B ML ret T h [] 0 0 → meth.name = y.name → s.heap = h → Vp s.vm → Wp p e below (PoW n0 s rm.cells rm.slots Q) T (entryFrame m as ML)) : CtW l Z y B ML ret rm n0 as h Vp Q := by
  intro ws
  refine MetFree.of_bodySF hpl hisR ?_
  intro p e s m args below meth c s₁ Bd hml0 hP hK
  obtain ⟨rfl, hZ, hh, hV⟩ := hP
  have hown : s.vm.findClass y.cls = some m.cls := findClass_of_methodNamed Bd.named
  have hnm := (name_of_methodNamed Bd.named Bd.method).1
  have X0 : Stand p l e rm s m args below meth c s₁ [] 0 0 := Stand.of_body Bd
  have e0 : s₁.heap = h := by rw [← hh, Bd.state]; rfl
  exact k p e s m below meth c s₁ ⟨X0, (State.WarmedH.refl s).since h.size, hZ, hown, e0, Fr.nil n0, Bd.exec, Bd.bytes, hml0, Bd.returns, Bd.notSynchronized⟩ hnm hh hV
theorem CtW.back {y : MethodName} {rm : Room} {as : Array Value} {Vp : Vm → Prop} {Q : Option Value → Heap → Vm → Prop} {len Wd : Nat} (C : CtW l Z y B ML ret rm n0 as h Vp Q)
    (hZ : Z.Warmed39 s.vm) (wc : (Jvm.Cond.code y B ML ret).before a0 Z = true) (wz : (Jvm.Cond.initialized y.cls).before a0 Z = true) (hf : rm.frames + 1 ≤ R.frames) (hl : Wd + (ML + 11) + rm.locals ≤ R.locals) :
    BackS l R p e below s args y len Wd (fun A a => a = as ∧ A.U.heap = h ∧ Vp A.U.vm ∧ A.cells + rm.cells ≤ R.cells ∧ A.slots + rm.slots ≤ R.slots)
      (fun A _ v Bt => ∃ Ls, (Q v Bt.U.heap Bt.U.vm ∧ Fr n0 Ls) ∧ Bt.locs = A.locs ++ Ls ∧ Bt.cells = A.cells + rm.cells ∧ Bt.slots = A.slots + rm.slots) :=
  BackS.of_freeW (bytes := B) (maxL := ML) (ret := ret) (E := fun _ _ o t Ls k n => k = rm.cells ∧ n = rm.slots ∧ ∃ v, o = .returned v ∧ (Q v t.heap t.vm ∧ Fr n0 Ls)) (C []) hf hl
    (fun m meth c A a Y hp => have hU : Z.Warmed39 A.U.vm := wtrans hZ Y.warmed
      ⟨by show (Jvm.Cond.and _ .tt).before a A.U = true; rw [Cond.before_and, mv hU wc]; rfl, mv hU wc, mv hU wz, hp.2.2.2.1, hp.2.2.2.2⟩)
    (fun m meth c A a g mk Y hp => ⟨hp.1, wtrans hZ Y.warmed, hp.2.1, hp.2.2.1⟩) (fun _ _ _ _ _ _ _ _ _ => trivial)
    (fun _ _ _ _ ⟨v, Ls, h1, h2, h3⟩ => ⟨Ls, _, _, h3, rfl, rfl, v, h1, h2⟩)
    (fun m meth c A a g mk v t Ls k n Y hp _ _ ⟨e1, e2, v', e3, e4⟩ => by cases e3; subst e1 e2; exact ⟨Ls, e4, rfl, rfl, rfl⟩)
/-- behind a step that may have interned -/
theorem Wk.onW {vm1 : Vm} {T' : State} {h' : Heap} {locs' : List Loc} {cells' slots' n : Nat} (W : Wk p l e R s vm0 m args below meth c Z own n0 B ML ret T h locs cells slots) (X : Stand p l e R ((s.setVm vm0).setVm vm1) m args below meth c T' locs' cells' slots') (h2 : (s.setVm vm0).Since vm1 n) (e' : T'.heap = h') (g : h.size ≤ n) (g' : n ≤ h'.size) (N : Fr n0 locs') : Wk p l e R s vm1 m args below meth c Z own n0 B ML ret T' h' locs' cells' slots' := by
  have q := W.since.trans h2 g
  exact ⟨X, ⟨q.1, q.2.mono g'⟩, State.Warmed39.trans W.wZ h2.1, (h2.1.alike.findClass _ _).trans W.own', e', N, W.exec, W.bytes, W.ml, W.ret', W.lk⟩
section CallsW
variable {y z : MethodName} {yB : ByteArray} {yML : Nat} {yret : Option FieldType} {rm : Room} {as : Array Value} {Vp : Vm → Prop} {Q : Option Value → Heap → Vm → Prop} {index : Nat}
theorem w_callSW (W : Wk p l e R s vm0 m args below meth c Z own n0 B ML ret T h locs cells slots) (C : CtW l Z y yB yML yret rm n0 as h Vp Q) (hV : ∀ vm', (s.setVm vm0).WarmedH vm' → Vp vm')
    (w1 : (Jvm.Cond.methodLink own index y).before a0 Z = true) (w2 : (Jvm.Cond.static y).before a0 Z = true) (w3 : (Jvm.Cond.initialized y.cls).before a0 Z = true) (w4 : (Jvm.Cond.code y yB yML yret).before a0 Z = true)
    (hy : y.cls ≠ "java/lang/invoke/MethodHandle" ∧ y.cls ≠ "java/lang/invoke/VarHandle") (Wd : Nat) (hf : rm.frames + 1 ≤ R.frames) (hl : Wd + (yML + 11) + rm.locals ≤ R.locals) (hc : cells + rm.cells ≤ R.cells) (hs : slots + rm.slots ≤ R.slots)
    {argsL rest : List Value} {ps : List FieldType} {r : Option FieldType} (hpd : parseMethodDescriptor y.desc = some ⟨ps, r⟩) (hlen : argsL.length = ps.length) (has : as = argsL.toArray) (hS : S = argsL.reverse ++ rest) (hW : (rest.map fun v => v.category).sum = Wd) (hL : L.size = ML)
    (hd : decode B pc = .ok (.invokestatic index, 3))
    (k : ∀ T' h' locs' vm1 v, Wk p l e R s vm1 m args below meth c Z own n0 B ML ret T' h' locs' (cells + rm.cells) (slots + rm.slots) → (s.setVm vm0).Warmed39 vm1 → Q v h' vm1 → Wp p e below Post T' (mkF m (pc + 3) L (v.toList ++ rest))) : Wp p e below Post T (mkF m pc L S) := by
  subst has
  have hZ := W.wZ
  obtain ⟨v, vm₁, ⟨T', L', k', n'⟩, -, X', h2, hg, ⟨Lc, hQ, l1, y1, z1⟩, st⟩ := callSS W.st W.exec (y := y) W.own' (mvT hZ w1) (mvT hZ w2) (mvT hZ w3) (mvT hZ w4) hy (CtW.back (Wd := Wd) C hZ w4 w3 hf hl) (g := mkF m pc L S) rfl (hL.trans W.ml.symm) (argsL := argsL) (rest := rest) (lenOf hpd hlen) hS (by show 2 * 0 + _ ≤ _; rw [hW]; omega) (hb W.bytes hd) (fun vm' q => ⟨rfl, W.heap, hV vm' q, hc, hs⟩)
  dsimp only [Pt.U, Pt.locs, Pt.cells, Pt.slots] at X' l1 y1 z1 st hQ h2 hg
  subst l1 y1 z1
  rw [W.heap] at hg
  exact (k T' T'.heap _ T'.vm v (W.onW X' h2 rfl hg (Nat.le_refl _) (W.fr.app hQ.2)) h2.1 hQ.1).imp fun t q => st.trans q
theorem w_specialW (W : Wk p l e R s vm0 m args below meth c Z own n0 B ML ret T h locs cells slots) (C : CtW l Z y yB yML none rm n0 as h Vp Q) (hV : ∀ vm', (s.setVm vm0).WarmedH vm' → Vp vm') (hy1 : y.name = "<init>")
    (w1 : (Jvm.Cond.methodLink own index y).before a0 Z = true) (w2 : (Jvm.Cond.instanceMethod y).before a0 Z = true) (w3 : (Jvm.Cond.initialized y.cls).before a0 Z = true) (w4 : (Jvm.Cond.code y yB yML none).before a0 Z = true)
    (hy : y.cls ≠ "java/lang/invoke/MethodHandle" ∧ y.cls ≠ "java/lang/invoke/VarHandle") (Wd : Nat) (hf : rm.frames + 1 ≤ R.frames) (hl : Wd + (yML + 11) + rm.locals ≤ R.locals) (hc : cells + rm.cells ≤ R.cells) (hs : slots + rm.slots ≤ R.slots)
    {a : Addr} {argsL rest : List Value} {ps : List FieldType} {r : Option FieldType} (hpd : parseMethodDescriptor y.desc = some ⟨ps, r⟩) (hlen : argsL.length = ps.length) (has : as = (.ref a :: argsL).toArray) (hS : S = argsL.reverse ++ .ref a :: rest) (hW : (rest.map fun v => v.category).sum = Wd) (hL : L.size = ML)
    (hd : decode B pc = .ok (.invokespecial index, 3))
    (k : ∀ T' h' locs' vm1 v, Wk p l e R s vm1 m args below meth c Z own n0 B ML ret T' h' locs' (cells + rm.cells) (slots + rm.slots) → (s.setVm vm0).Warmed39 vm1 → Q v h' vm1 → Wp p e below Post T' (mkF m (pc + 3) L (v.toList ++ rest))) : Wp p e below Post T (mkF m pc L S) := by
  subst has
  have hZ := W.wZ
  obtain ⟨v, vm₁, ⟨T', L', k', n'⟩, -, X', h2, hg, ⟨Lc, hQ, l1, y1, z1⟩, st⟩ := W.st.specialBackS W.exec (y := y) hy1 W.own' (mvT hZ w1) (mvT hZ w2) (mvT hZ w4) hy (CtW.back (Wd := Wd) C hZ w4 w3 hf hl) (g := mkF m pc L S) rfl (hL.trans W.ml.symm) (Steps.refl _) (a := a) (argsL := argsL) (rest := rest) (lenOf hpd hlen) hS (by show 2 * 0 + _ ≤ _; rw [hW]; omega) (hb W.bytes hd) (fun vm' q => ⟨rfl, W.heap, hV vm' q, hc, hs⟩)
  dsimp only [Pt.U, Pt.locs, Pt.cells, Pt.slots] at X' l1 y1 z1 st hQ h2 hg
  subst l1 y1 z1
  rw [W.heap] at hg
  exact (k T' T'.heap _ T'.vm v (W.onW X' h2 rfl hg (Nat.le_refl _) (W.fr.app hQ.2)) h2.1 hQ.1).imp fun t q => st.trans q
theorem w_virtW (W : Wk p l e R s vm0 m args below meth c Z own n0 B ML ret T h locs cells slots) {C' : String} (C : CtW l Z z yB yML yret rm n0 as h Vp Q) (hV : ∀ vm', (s.setVm vm0).WarmedH vm' → Vp vm')
    (w1 : (Jvm.Cond.methodLink own index y).before a0 Z = true) (w2 : (Jvm.Cond.declares y).before a0 Z = true) (hnf : NotFace (s.setVm vm0) y) (w3 : (Jvm.Cond.selects C' y z).before a0 Z = true) (w4 : (Jvm.Cond.instanceMethod z).before a0 Z = true) (w5 : (Jvm.Cond.initialized z.cls).before a0 Z = true) (w6 : (Jvm.Cond.code z yB yML yret).before a0 Z = true)
    (hy : y.cls ≠ "java/lang/invoke/MethodHandle" ∧ y.cls ≠ "java/lang/invoke/VarHandle") (Wd : Nat) (hf : rm.frames + 1 ≤ R.frames) (hl : Wd + (yML + 11) + rm.locals ≤ R.locals) (hc : cells + rm.cells ≤ R.cells) (hs : slots + rm.slots ≤ R.slots)
    {a : Addr} (E : Exa Z h a C') {argsL rest : List Value} {ps : List FieldType} {r : Option FieldType} (hpd : parseMethodDescriptor y.desc = some ⟨ps, r⟩) (hlen : argsL.length = ps.length) (has : as = (.ref a :: argsL).toArray) (hS : S = argsL.reverse ++ .ref a :: rest) (hW : (rest.map fun v => v.category).sum = Wd) (hL : L.size = ML)
    (hd : decode B pc = .ok (.invokevirtual index, 3))
    (k : ∀ T' h' locs' vm1 v, Wk p l e R s vm1 m args below meth c Z own n0 B ML ret T' h' locs' (cells + rm.cells) (slots + rm.slots) → (s.setVm vm0).Warmed39 vm1 → Q v h' vm1 → Wp p e below Post T' (mkF m (pc + 3) L (v.toList ++ rest))) : Wp p e below Post T (mkF m pc L S) := by
  subst has
  have hZ := W.wZ
  obtain ⟨cq, kq, qa, qb, qc⟩ := isOf hZ W.heap E
  obtain ⟨v, vm₁, ⟨T', L', k', n'⟩, -, X', h2, hg, ⟨Lc, hQ, l1, y1, z1⟩, st⟩ := W.st.virtualBackS W.exec (y := y) (z := z) W.own' (mvT hZ w1) (mvT hZ w2) hnf (mvT hZ w3) (mvT hZ w4) hy (CtW.back (Wd := Wd) C hZ w6 w5 hf hl) qa qc (g := mkF m pc L S) rfl (hL.trans W.ml.symm) (Steps.refl _) (argsL := argsL) (rest := rest) (lenOf hpd hlen) hS (by show 2 * 0 + _ ≤ _; rw [hW]; omega) (hb W.bytes hd) (fun vm' q => ⟨rfl, W.heap, hV vm' q, hc, hs⟩)
  dsimp only [Pt.U, Pt.locs, Pt.cells, Pt.slots] at X' l1 y1 z1 st hQ h2 hg
  subst l1 y1 z1
  rw [W.heap] at hg
  exact (k T' T'.heap _ T'.vm v (W.onW X' h2 rfl hg (Nat.le_refl _) (W.fr.app hQ.2)) h2.1 hQ.1).imp fun t q => st.trans q
end CallsW
/-- a literal, whatever it spells -/
theorem w_ldcS (W : Wk p l e R s vm0 m args below meth c Z own n0 B ML ret T h locs cells slots) {index : Nat} {text : String} (w : (Jvm.Cond.stringLink own index text).before a0 Z = true) (wS : ∀ a ∈ Bundle.stringAtoms, a.before a0 Z = true) (n : Nat) (hn : 4 * text.toList.length ≤ n) (hbig : n ≤ 536870912) (hc : cells + 2 ≤ R.cells) (hl : slots + (n + 4) ≤ R.slots) (hd : decode B pc = .ok (.ldc index, 2))
    (k : ∀ T' h' vm1 a, Wk p l e R s vm1 m args below meth c Z own n0 B ML ret T' h' locs (cells + 2) (slots + (n + 4)) → Ext h h' → Wp p e below Post T' (mkF m (pc + 2) L (.ref a :: S))) : Wp p e below Post T (mkF m pc L S) := by
  obtain ⟨a, T', h', k1, X', e', E', hS', hk', hZ', ho', st⟩ := ldcS W.st W.exec W.wZ W.own' w wS W.heap W.since (Nat.le_refl _) (g := mkF m pc L S) rfl (hb W.bytes hd) hn hbig hc hl
  exact (k T' h' T'.vm a ⟨X', ⟨hS'.1, hS'.2.mono hk'⟩, hZ', ho', e', W.fr, W.exec, W.bytes, W.ml, W.ret', W.lk⟩ E').imp st
/-- a literal not yet loaded since the case's start, and what it spells -/
theorem w_ldcSV (W : Wk p l e R s vm0 m args below meth c Z own n0 B ML ret T h locs cells slots) {index : Nat} {text : String} {Ts : List String} (w : (Jvm.Cond.stringLink own index text).before a0 Z = true) (wS : ∀ a ∈ Bundle.stringAtoms, a.before a0 Z = true) (N : Fr s.heap.size locs) (hkeep : ∀ (b : Addr) (cl : Cell), Z.heap[b]? = some cl → s.heap[b]? = some cl) (I : IB Z vm0 Ts) (hnot : text ∉ Ts) (hh : Jvm.Lit.constHeld Z own index) (hcw : Jvm.Lit.compactW.before a0 Z = true)
    {vs : List Value} {z : Int32} (ht : (∀ c ∈ text.toList, c.toNat < 256) ∧ text.toList.map (fun c => Value.int (Jvm.Lit.byteI c.toNat.toUInt16)) = vs) (hz : ¬ z < 0) (hlz : z.toNatClampNeg = vs.length) (n : Nat) (hn : 4 * text.toList.length ≤ n) (hbig : n ≤ 536870912) (hc : cells + 2 ≤ R.cells) (hl : slots + (n + 4) ≤ R.slots) (hd : decode B pc = .ok (.ldc index, 2))
    (k : ∀ T' h' vm1 a b kc, Wk p l e R s vm1 m args below meth c Z own n0 B ML ret T' h' locs (cells + 2) (slots + (n + 4)) → Ext h h' → Exa Z h' a "java/lang/String" → Fld Z h' a "java/lang/String" "coder" "B" (.int 0) → Fld Z h' a "java/lang/String" "value" "[B" (.ref b) → Arv Z h' b kc .byte z vs (.int 0) → IB Z vm1 (text :: Ts) → Lit (s.setVm vm1) own index a → Wp p e below Post T' (mkF m (pc + 2) L (.ref a :: S))) : Wp p e below Post T (mkF m pc L S) := by
  obtain ⟨a, T', h', k1, b, kc, X', e', E', hS', hk', hZ', ho', f1, f2, f3, f4, -, -, f5, f6, st⟩ := ldcSVL W.st W.exec W.wZ W.own' w wS W.heap W.since (Nat.le_refl _) N hkeep I hnot hh hcw ht hz hlz (g := mkF m pc L S) rfl (hb W.bytes hd) hn hbig hc hl
  exact (k T' h' T'.vm a b kc ⟨X', ⟨hS'.1, hS'.2.mono hk'⟩, hZ', ho', e', W.fr, W.exec, W.bytes, W.ml, W.ret', W.lk⟩ E' f1 f2 f3 f4 f5 f6).imp st
theorem w_ldcAgain (W : Wk p l e R s vm0 m args below meth c Z own n0 B ML ret T h locs cells slots) {index : Nat} {text : String} {a : Addr} (w : (Jvm.Cond.stringLink own index text).before a0 Z = true) (Lt : Lit (s.setVm vm0) own index a) (hd : decode B pc = .ok (.ldc index, 2)) (hr : Wp p e below Post T (mkF m (pc + 2) L (.ref a :: S))) : Wp p e below Post T (mkF m pc L S) :=
  hr.imp fun t q => ldcAgain W.st W.exec W.wZ W.own' w Lt (g := mkF m pc L S) rfl (hb W.bytes hd) t q
/-! small facts on heaps -/
theorem own_extKeep {h1 h2 h3 : Heap} {ws : List Addr} (E : Ext h1 h2) (K : Keep h2 h3 ws) (q : ∀ x ∈ ws, h1.size ≤ x) : Ext h1 h3 :=
  ⟨Nat.le_trans E.1 K.1, fun a c hc => K.2.1 a c (E.2 a c hc) fun hm => absurd (Array.getElem?_eq_some_iff.mp hc).1 (Nat.not_lt.mpr (q a hm))⟩
theorem own_extRefl (h1 : Heap) : Ext h1 h1 := ⟨Nat.le_refl _, fun _ _ q => q⟩
theorem own_extTrans {h1 h2 h3 : Heap} (E : Ext h1 h2) (E' : Ext h2 h3) : Ext h1 h3 := ⟨Nat.le_trans E.1 E'.1, fun a c q => E'.2 a c (E.2 a c q)⟩
theorem own_extWr {h1 h2 h3 : Heap} {a : Addr} {sl : Nat} {v : Value} (E : Ext h1 h2) (W : Wr h2 h3 a sl v) (q : h1.size ≤ a) : Ext h1 h3 := own_extKeep E (Keep.of_wr W) (allS q all0)
theorem own_keepOf {h1 h2 : Heap} {ws : List Addr} (E : Ext h1 h2) : Keep h1 h2 ws := (Keep.refl h1 ws).ext E
theorem own_ltNe {a b n : Nat} (q : a < n) (r : n ≤ b) : a ≠ b := Nat.ne_of_lt (Nat.lt_of_lt_of_le q r)
end OwnKit2

/-! OwnKit, third part: doubles -/
section OwnKit3
open Jvm.Free.Fl
variable {p : Program} {l : Launch} {e : Env} {R : Room} {s : State} {vm0 : Vm} {m : MethodId} {args : Array Value} {below : List Frame} {meth : Method} {c : Code} {Z : State} {own : String} {n0 : Nat} {B : ByteArray} {ML : Nat} {ret : Option FieldType} {T : State} {h : Heap} {locs : List Loc} {cells slots : Nat} {a0 : Array Value} {Post : Outcome → State → Prop} {pc : Nat} {L : Array Slot} {S : List Value}
theorem w_dload (W : Wk p l e R s vm0 m args below meth c Z own n0 B ML ret T h locs cells slots) {k : Nat} {v : UInt64} (hd : decode B pc = .ok (.dload k, 2)) (hl : L[k]? = some (.val (.double v))) (hr : Wp p e below Post T (mkF m (pc + 2) L (.double v :: S))) : Wp p e below Post T (mkF m pc L S) :=
  hr.imp fun t q => XS.dload W.here W.exec rfl (hb W.bytes hd) hl q
theorem w_dloadN (W : Wk p l e R s vm0 m args below meth c Z own n0 B ML ret T h locs cells slots) {k : Fin 4} {v : UInt64} (hd : decode B pc = .ok (.dload_n k, 1)) (hl : L[k.val]? = some (.val (.double v))) (hr : Wp p e below Post T (mkF m (pc + 1) L (.double v :: S))) : Wp p e below Post T (mkF m pc L S) :=
  hr.imp fun t q => XS.dloadN W.here W.exec rfl (hb W.bytes hd) hl q
theorem w_dstore (W : Wk p l e R s vm0 m args below meth c Z own n0 B ML ret T h locs cells slots) {k : Nat} {v : UInt64} {L' : Array Slot} (hd : decode B pc = .ok (.dstore k, 2)) (hl : storeLocals L k (.double v) = some L') (hr : Wp p e below Post T (mkF m (pc + 2) L' S)) : Wp p e below Post T (mkF m pc L (.double v :: S)) :=
  hr.imp fun t q => XS.dstore W.here W.exec rfl (hb W.bytes hd) rfl hl q
theorem w_dstoreN (W : Wk p l e R s vm0 m args below meth c Z own n0 B ML ret T h locs cells slots) {k : Fin 4} {v : UInt64} {L' : Array Slot} (hd : decode B pc = .ok (.dstore_n k, 1)) (hl : storeLocals L k.val (.double v) = some L') (hr : Wp p e below Post T (mkF m (pc + 1) L' S)) : Wp p e below Post T (mkF m pc L (.double v :: S)) :=
  hr.imp fun t q => XS.dstoreN W.here W.exec rfl (hb W.bytes hd) rfl hl q
theorem w_dconst0 (W : Wk p l e R s vm0 m args below meth c Z own n0 B ML ret T h locs cells slots)  (hd : decode B pc = .ok (.dconst 0, 1)) (hr : Wp p e below Post T (mkF m (pc + 1) L (.double FP.dconst0 :: S))) : Wp p e below Post T (mkF m pc L S) :=
  hr.imp fun t q => XS.dconst0 W.here W.exec rfl (hb W.bytes hd) rfl q
theorem w_dconst1 (W : Wk p l e R s vm0 m args below meth c Z own n0 B ML ret T h locs cells slots)  (hd : decode B pc = .ok (.dconst 1, 1)) (hr : Wp p e below Post T (mkF m (pc + 1) L (.double FP.dconst1 :: S))) : Wp p e below Post T (mkF m pc L S) :=
  hr.imp fun t q => XS.dconst1 W.here W.exec rfl (hb W.bytes hd) rfl q
theorem w_i2d (W : Wk p l e R s vm0 m args below meth c Z own n0 B ML ret T h locs cells slots) {x : Int32} {z : UInt64} (hd : decode B pc = .ok (.i2d, 1)) (hz : FP.i2d x = z) (hr : Wp p e below Post T (mkF m (pc + 1) L (.double z :: S))) : Wp p e below Post T (mkF m pc L (.int x :: S)) :=
  hr.imp fun t q => XS.i2dS W.here W.exec rfl (hb W.bytes hd) rfl hz q
theorem w_l2d (W : Wk p l e R s vm0 m args below meth c Z own n0 B ML ret T h locs cells slots) {x : Int64} {z : UInt64} (hd : decode B pc = .ok (.l2d, 1)) (hz : FP.l2d x = z) (hr : Wp p e below Post T (mkF m (pc + 1) L (.double z :: S))) : Wp p e below Post T (mkF m pc L (.long x :: S)) :=
  hr.imp fun t q => XS.l2dS W.here W.exec rfl (hb W.bytes hd) rfl hz q
theorem w_d2i (W : Wk p l e R s vm0 m args below meth c Z own n0 B ML ret T h locs cells slots) {x : UInt64} {z : Int32} (hd : decode B pc = .ok (.d2i, 1)) (hz : FP.d2i x = z) (hr : Wp p e below Post T (mkF m (pc + 1) L (.int z :: S))) : Wp p e below Post T (mkF m pc L (.double x :: S)) :=
  hr.imp fun t q => XS.d2iS W.here W.exec rfl (hb W.bytes hd) rfl hz q
theorem w_dcmp (W : Wk p l e R s vm0 m args below meth c Z own n0 B ML ret T h locs cells slots) {o : CmpOp} {x y : UInt64} {z : Int32} (hd : decode B pc = .ok (.dcmp o, 1)) (hz : cmpValue (FP.dcmp x y) o = z) (hr : Wp p e below Post T (mkF m (pc + 1) L (.int z :: S))) : Wp p e below Post T (mkF m pc L (.double y :: .double x :: S)) :=
  hr.imp fun t q => XS.dcmpS W.here W.exec rfl (hb W.bytes hd) rfl hz q
theorem w_dadd (W : Wk p l e R s vm0 m args below meth c Z own n0 B ML ret T h locs cells slots) {x y z : UInt64} (hd : decode B pc = .ok (.dadd, 1)) (hn : NoNaN64 (FP.dadd x y)) (hz : FP.dadd x y = z) (hr : Wp p e below Post T (mkF m (pc + 1) L (.double z :: S))) : Wp p e below Post T (mkF m pc L (.double y :: .double x :: S)) :=
  hr.imp fun t q => XS.daddS W.here W.exec rfl (hb W.bytes hd) rfl hn hz q
theorem w_dsub (W : Wk p l e R s vm0 m args below meth c Z own n0 B ML ret T h locs cells slots) {x y z : UInt64} (hd : decode B pc = .ok (.dsub, 1)) (hn : NoNaN64 (FP.dsub x y)) (hz : FP.dsub x y = z) (hr : Wp p e below Post T (mkF m (pc + 1) L (.double z :: S))) : Wp p e below Post T (mkF m pc L (.double y :: .double x :: S)) :=
  hr.imp fun t q => XS.dsubS W.here W.exec rfl (hb W.bytes hd) rfl hn hz q
theorem w_dmul (W : Wk p l e R s vm0 m args below meth c Z own n0 B ML ret T h locs cells slots) {x y z : UInt64} (hd : decode B pc = .ok (.dmul, 1)) (hn : NoNaN64 (FP.dmul x y)) (hz : FP.dmul x y = z) (hr : Wp p e below Post T (mkF m (pc + 1) L (.double z :: S))) : Wp p e below Post T (mkF m pc L (.double y :: .double x :: S)) :=
  hr.imp fun t q => XS.dmulS W.here W.exec rfl (hb W.bytes hd) rfl hn hz q
theorem w_ddiv (W : Wk p l e R s vm0 m args below meth c Z own n0 B ML ret T h locs cells slots) {x y z : UInt64} (hd : decode B pc = .ok (.ddiv, 1)) (hn : NoNaN64 (FP.ddiv x y)) (hz : FP.ddiv x y = z) (hr : Wp p e below Post T (mkF m (pc + 1) L (.double z :: S))) : Wp p e below Post T (mkF m pc L (.double y :: .double x :: S)) :=
  hr.imp fun t q => XS.ddivS W.here W.exec rfl (hb W.bytes hd) rfl hn hz q
theorem w_abs (W : Wk p l e R s vm0 m args below meth c Z own n0 B ML ret T h locs cells slots) {index : Nat} {x z : UInt64} (w1 : (Jvm.Cond.methodLink own index Abs.absDN).before a0 Z = true) (w2 : (Jvm.Cond.static Abs.absDN).before a0 Z = true) (w3 : (Jvm.Cond.initialized "java/lang/Math").before a0 Z = true) (w4 : (Jvm.Cond.code Abs.absDN Abs.absDCode 2 (some .double)).before a0 Z = true) (hx : NoNaN64 x) (hz : x &&& 0x7fffffffffffffff = z) (Wd : Nat) (hW : (S.map fun v => v.category).sum = Wd) (hL : L.size = ML) (hf : 1 ≤ R.frames) (hl : Wd + 13 ≤ R.locals) (hc : cells ≤ R.cells) (hs : slots ≤ R.slots) (hd : decode B pc = .ok (.invokestatic index, 3))
    (k : ∀ T', Wk p l e R s vm0 m args below meth c Z own n0 B ML ret T' h locs cells slots → Wp p e below Post T' (mkF m (pc + 3) L (.double z :: S))) : Wp p e below Post T (mkF m pc L (.double x :: S)) := by
  obtain ⟨T', X', e', st⟩ := natS W.st W.exec W.wZ (y := Abs.absDN) W.own' w1 w2 w3 w4 (by decide) W.heap (W := Wd) (fun c4 => Abs.absD_pays (W := Wd) x c4 hf hl) (g := mkF m pc L (.double x :: S)) rfl (hL.trans W.ml.symm) (argsL := [.double x]) (rest := S) (lenOf (show parseMethodDescriptor Abs.absDN.desc = some ⟨[.double], some .double⟩ from by decide +kernel) rfl) rfl (by show 2 * 0 + _ ≤ _; rw [hW]; omega) (hb W.bytes hd) hc hs ⟨rfl, hx⟩ (congrArg Value.double hz)
  exact (k T' (W.on X' e' (Nat.le_refl _) W.fr)).imp st
theorem w_max (W : Wk p l e R s vm0 m args below meth c Z own n0 B ML ret T h locs cells slots) {index : Nat} {x y z : UInt64} (w1 : (Jvm.Cond.methodLink own index Abs.maxDN).before a0 Z = true) (w2 : (Jvm.Cond.static Abs.maxDN).before a0 Z = true) (w3 : (Jvm.Cond.initialized "java/lang/Math").before a0 Z = true) (w4 : (Jvm.Cond.code Abs.maxDN Abs.maxDCode 4 (some .double)).before a0 Z = true) (hx : NoNaN64 x) (hy : NoNaN64 y) (hz : Native.java_lang_Math.nans.pick64 true x y = z) (Wd : Nat) (hW : (S.map fun v => v.category).sum = Wd) (hL : L.size = ML) (hf : 1 ≤ R.frames) (hl : Wd + 15 ≤ R.locals) (hc : cells ≤ R.cells) (hs : slots ≤ R.slots) (hd : decode B pc = .ok (.invokestatic index, 3))
    (k : ∀ T', Wk p l e R s vm0 m args below meth c Z own n0 B ML ret T' h locs cells slots → Wp p e below Post T' (mkF m (pc + 3) L (.double z :: S))) : Wp p e below Post T (mkF m pc L (.double y :: .double x :: S)) := by
  obtain ⟨T', X', e', st⟩ := natS W.st W.exec W.wZ (y := Abs.maxDN) W.own' w1 w2 w3 w4 (by decide) W.heap (W := Wd) (fun c4 => Abs.maxD_pays (W := Wd) x y c4 hf hl) (g := mkF m pc L (.double y :: .double x :: S)) rfl (hL.trans W.ml.symm) (argsL := [.double x, .double y]) (rest := S) (lenOf (show parseMethodDescriptor Abs.maxDN.desc = some ⟨[.double, .double], some .double⟩ from by decide +kernel) rfl) rfl (by show 2 * 0 + _ ≤ _; rw [hW]; omega) (hb W.bytes hd) hc hs ⟨rfl, hx, hy⟩ (congrArg Value.double hz)
  exact (k T' (W.on X' e' (Nat.le_refl _) W.fr)).imp st
theorem w_ldc2D (W : Wk p l e R s vm0 m args below meth c Z own n0 B ML ret T h locs cells slots) {index : Nat} {v : UInt64} (w : (Jvm.Cond.constantDouble own index v).before a0 Z = true) (hd : decode B pc = .ok (.ldc2_w index, 3)) (hr : Wp p e below Post T (mkF m (pc + 3) L (.double v :: S))) : Wp p e below Post T (mkF m pc L S) :=
  hr.imp fun t q => W.st.ldc2DoubleC W.exec W.own' (mvT W.wZ w) (g := mkF m pc L S) rfl (hb W.bytes hd) t q
theorem rD {z : UInt64} (W : Wk p l e R s vm0 m args below meth c Z own n0 B ML ret T h locs cells slots) (hret : ret = some .double) (hd : decode B pc = .ok (.dreturn, 1)) {fs : List Frame} (hr : ∀ (f : JFrame) (acts : List Action), f.method = m → f.locked = none → f.entered = [] → (doReturn e (T.setTop f) acts (some (.double z))).1 = T.setFrames fs) : Steps p.tables e below (T.setTop (mkF m pc L (.double z :: S))) (T.setFrames fs) :=
  retOut W.st W.exec (W.ret'.trans hret) rfl (Or.inr (Or.inr (Or.inl ⟨rfl, rfl, z, rfl⟩))) (hb W.bytes hd) hr
theorem n_rD {kc ks : Nat} {Q : Option Value → Heap → Prop} {z : UInt64} (W : Wk p l e R s s.vm m args below meth c Z own n0 B ML ret T h locs cells slots) (hret : ret = some .double) (hd : decode B pc = .ok (.dreturn, 1)) (hc : cells ≤ kc) (hk : slots ≤ ks) (hq : Q (some (.double z)) h) : Wp p e below (PoN n0 s kc ks Q) T (mkF m pc L (.double z :: S)) := endN W (fun q => by rw [hret] at q; cases q) hc hk hq fun fs hr => rD W hret hd hr
theorem w_pop2D (W : Wk p l e R s vm0 m args below meth c Z own n0 B ML ret T h locs cells slots) {v : Value} (hd : decode B pc = .ok (.pop2, 1)) (hc : v.category = 2) (hr : Wp p e below Post T (mkF m (pc + 1) L S)) : Wp p e below Post T (mkF m pc L (v :: S)) := by
  refine hr.imp fun t q => ?_
  have hd' := hb W.bytes hd
  show Steps p.tables e below (T.setTop { method := m, pc := pc, locals := L, stack := v :: S, locked := none }) t
  jvm_step W.here [W.here.top, W.exec, hd', hc]
  exact q

end OwnKit3

section Own513
open Jvm.FP Jvm.Free.Fl
/-- finite, and not below zero -/
def own_Nn (x : UInt64) : Prop := Fin64 x ∧ ¬ (cmpValue (FP.dcmp x FP.dconst0) .g < 0)
theorem own_dfin {i : Int} {x : UInt64} (h : Core.DInt i x) : Fin64 x := by
  rw [fin64_core]
  unfold Core.DInt at h
  cases e : Core.val64 x with
  | fin s c q => exact ⟨s, c, q, e⟩
  | inf s => rw [e] at h; exact h.elim
  | nan => rw [e] at h; exact h.elim
theorem own_isfin {x : UInt64} (h : Fin64 x) : ¬ ((0 : Int32) < cmpValue (FP.dcmp (x &&& 0x7fffffffffffffff) (9218868437227405311 : UInt64)) .g) := by
  have q := (le_max_iff h.noNaN).mpr h
  rcases relLe_iff.mp q with e | e
  · rw [show FP.dcmp (x &&& 0x7fffffffffffffff) (9218868437227405311 : UInt64) = some .lt from e]; decide
  · rw [show FP.dcmp (x &&& 0x7fffffffffffffff) (9218868437227405311 : UInt64) = some .eq from e]; decide
theorem own_d0 : Core.DInt 0 FP.dconst0 := by unfold Core.DInt; rw [show Core.val64 FP.dconst0 = _ from Core.val64_dconst0]; simp [Core.Whole, Core.signed]
theorem own_cmp {i j : Int} : compare i j = if i < j then .lt else if i = j then .eq else .gt := rfl
theorem own_dnn {i : Int} {x : UInt64} (h : Core.DInt i x) (hi : 0 ≤ i) : own_Nn x := ⟨own_dfin h, by
  rw [show FP.dcmp x FP.dconst0 = some (compare i 0) from Core.dcmp_int h own_d0, own_cmp, if_neg (by omega)]
  split <;> decide⟩
theorem own_max {i : Int} {x : UInt64} (h : Core.DInt i x) : Core.DInt (max 0 i) (Native.java_lang_Math.nans.pick64 true FP.dconst0 x) := by
  have e : FP.dcmp FP.dconst0 x = some (compare 0 i) := Core.dcmp_int own_d0 h
  unfold Native.java_lang_Math.nans.pick64
  rw [e, own_cmp]
  by_cases h1 : 0 < i
  · rw [if_pos h1, Int.max_eq_right (by omega)]; exact h
  · rw [if_neg h1, Int.max_eq_left (by omega)]
    by_cases h2 : (0 : Int) = i
    · rw [if_pos h2]; exact own_d0
    · rw [if_neg h2]; exact own_d0
theorem own_ndiv {x k : UInt64} (h : Fin64 x) (hk : Fin64 k) (hz : Nz64 k) : NoNaN64 (FP.ddiv x k) :=
  noNaN64_no.mpr (Core.ddiv_out (noNaN64_no.mp h.noNaN) (fin64_core.mp hk) (nz64_core.mp hz))
theorem own_k3600 : Fin64 (4660134898793709568 : UInt64) ∧ Nz64 (4660134898793709568 : UInt64) := by unfold Fin64 Nz64; decide
theorem own_zero {x : UInt64} (h : Core.DInt 0 x) : x = 0 ∨ x = 9223372036854775808 := Core.zero_bits (by
  have q := Core.dcmp_int h own_d0
  exact q)
theorem own_q3600 {i : Int} {a b : UInt64} (ha : Core.DInt i a) (hb : Core.DInt i b) : cmpValue (FP.dcmp (FP.ddiv a 4660134898793709568) (FP.ddiv b 4660134898793709568)) .l = 0 := by
  by_cases hi : i = 0
  · subst hi
    rcases own_zero ha with rfl | rfl <;> rcases own_zero hb with rfl | rfl <;> decide +kernel
  · cases Core.dint_unique hi ha hb
    exact dcmpV_self (own_ndiv (own_dfin ha) own_k3600.1 own_k3600.2) .l
end Own513

section Own513b
open Jvm.FP Jvm.Free.Fl
theorem own_nabs {a b : Int} {A B : Nat} (ha : a.natAbs ≤ A) (hb : b.natAbs ≤ B) : (a * b).natAbs ≤ A * B := by rw [Int.natAbs_mul]; exact Nat.mul_le_mul ha hb
/-- the bounds that the law's numbers keep -/
def own_Bd (ia ib ic dd it ar : Int) : Prop := (0 ≤ ia ∧ ia ≤ 1048575) ∧ (0 ≤ ib ∧ ib ≤ 1048575) ∧ (0 ≤ ic ∧ ic ≤ 1048575) ∧ (-2147483648 ≤ dd ∧ dd ≤ 2147483647) ∧ (-2147483648 ≤ it ∧ it ≤ 2147483647) ∧ (-2147483648 ≤ ar ∧ ar ≤ 2147483647)
def own_sum (ia ib ic dd it ar : Int) : Int := ia * it + ib * max 0 (dd - ar) + ic * max 0 (ar - dd)
theorem own_cb {ia ib ic dd it ar : Int} (h : own_Bd ia ib ic dd it ar) : (dd - ar).natAbs ≤ 2 ^ 53 ∧ (ar - dd).natAbs ≤ 2 ^ 53 ∧ (ia * it).natAbs ≤ 2251799813685248 ∧ (ib * max 0 (dd - ar)).natAbs ≤ 4503599627370496 ∧ (ia * it + ib * max 0 (dd - ar)).natAbs ≤ 2 ^ 53 ∧ (ic * max 0 (ar - dd)).natAbs ≤ 4503599627370496 ∧ (own_sum ia ib ic dd it ar).natAbs ≤ 2 ^ 53 := by
  obtain ⟨⟨a1, a2⟩, ⟨b1, b2⟩, ⟨c1, c2⟩, ⟨d1, d2⟩, ⟨t1, t2⟩, r1, r2⟩ := h
  have e1 : (ia * it).natAbs ≤ 1048576 * 2147483648 := own_nabs (by omega) (by omega)
  have e2 : (ib * max 0 (dd - ar)).natAbs ≤ 1048576 * 4294967296 := own_nabs (by omega) (by omega)
  have e3 : (ic * max 0 (ar - dd)).natAbs ≤ 1048576 * 4294967296 := own_nabs (by omega) (by omega)
  have e4 : ib * max 0 (dd - ar) = 0 ∨ ic * max 0 (ar - dd) = 0 := by
    rcases Int.le_total dd ar with q | q
    · left; rw [Int.max_eq_left (by omega), Int.mul_zero]
    · right; rw [Int.max_eq_left (by omega), Int.mul_zero]
  unfold own_sum
  generalize ia * it = P1 at *
  generalize ib * max 0 (dd - ar) = P2 at *
  generalize ic * max 0 (ar - dd) = P3 at *
  refine ⟨by omega, by omega, by omega, by omega, by omega, by omega, by omega⟩
theorem own_mulS {a b : Int64} {P : Int} (hP : a.toInt * b.toInt = P) (h : P.natAbs ≤ 4503599627370496) : (a * b).toInt = P := by
  rw [Int64.toInt_mul, hP]; exact Int.bmod_eq_of_le (by omega) (by omega)
theorem own_subS {a b : Int32} : (a.toInt64 - b.toInt64).toInt = a.toInt - b.toInt := by
  have h1 := a.le_toInt; have h2 := a.toInt_lt; have h3 := b.le_toInt; have h4 := b.toInt_lt
  rw [Int64.toInt_sub, Int32.toInt_toInt64, Int32.toInt_toInt64]; exact Int.bmod_eq_of_le (by omega) (by omega)
theorem own_addS {a b : Int64} {A B : Int} (ha : a.toInt = A) (hb : b.toInt = B) (h : (A + B).natAbs ≤ 2 ^ 53) : (a + b).toInt = A + B := by
  rw [Int64.toInt_add, ha, hb]; exact Int.bmod_eq_of_le (by omega) (by omega)
theorem own_m20 (x : Int32) : 0 ≤ (x &&& (1048575 : Int32)).toInt ∧ (x &&& (1048575 : Int32)).toInt ≤ 1048575 := by
  have e := c_mask x (1048575 : Int32) 20 (by decide) (by decide)
  rw [e]; have := Int.emod_nonneg x.toInt (b := ((2 ^ 20 : Nat) : Int)) (by decide); have := Int.emod_lt_of_pos x.toInt (b := ((2 ^ 20 : Nat) : Int)) (by decide)
  omega
theorem own_i32 (x : Int32) : -2147483648 ≤ x.toInt ∧ x.toInt ≤ 2147483647 := by have h1 := x.le_toInt; have h2 := x.toInt_lt; omega
theorem own_bd (a b c d t r : Int32) : own_Bd (a &&& (1048575 : Int32)).toInt (b &&& (1048575 : Int32)).toInt (c &&& (1048575 : Int32)).toInt d.toInt t.toInt r.toInt := ⟨own_m20 a, own_m20 b, own_m20 c, own_i32 d, own_i32 t, own_i32 r⟩
theorem own_gtL {a b : Int32} : (0 : Int32) < lcmpW a.toInt64 b.toInt64 ↔ b.toInt < a.toInt := by
  rw [← Int32.toInt_toInt64 (x := a), ← Int32.toInt_toInt64 (x := b), ← Int64.lt_iff_toInt_lt]
  unfold lcmpW
  by_cases h : b.toInt64 < a.toInt64
  · simp [h]
  · by_cases h2 : a.toInt64 = b.toInt64
    · simp [h2]
    · simp [h, h2]
theorem own_sA {al be ga d t r : Int32} (h : own_Bd al.toInt be.toInt ga.toInt d.toInt t.toInt r.toInt) (c : (0 : Int32) < lcmpW d.toInt64 r.toInt64) : Core.DInt (own_sum al.toInt be.toInt ga.toInt d.toInt t.toInt r.toInt) (FP.l2d (al.toInt64 * t.toInt64 + be.toInt64 * (d.toInt64 - r.toInt64))) := by
  have q := own_gtL.mp c
  obtain ⟨-, -, e1, e2, -, -, e3⟩ := own_cb h
  have hs : own_sum al.toInt be.toInt ga.toInt d.toInt t.toInt r.toInt = al.toInt * t.toInt + be.toInt * (d.toInt - r.toInt) := by
    unfold own_sum; rw [Int.max_eq_right (a := 0) (b := d.toInt - r.toInt) (by omega), Int.max_eq_left (a := 0) (b := r.toInt - d.toInt) (by omega), Int.mul_zero, Int.add_zero]
  rw [Int.max_eq_right (a := 0) (b := d.toInt - r.toInt) (by omega)] at e2
  rw [hs] at e3 ⊢
  have m1 : (al.toInt64 * t.toInt64).toInt = al.toInt * t.toInt := own_mulS (by rw [Int32.toInt_toInt64, Int32.toInt_toInt64]) (by omega)
  have m2 : (be.toInt64 * (d.toInt64 - r.toInt64)).toInt = be.toInt * (d.toInt - r.toInt) := own_mulS (by rw [Int32.toInt_toInt64, own_subS]) e2
  have m3 := own_addS m1 m2 e3
  rw [← m3]; exact Core.l2d_int (by rw [m3]; exact e3)
theorem own_sB {al be ga d t r : Int32} (h : own_Bd al.toInt be.toInt ga.toInt d.toInt t.toInt r.toInt) (c : ¬ ((0 : Int32) < lcmpW d.toInt64 r.toInt64)) : Core.DInt (own_sum al.toInt be.toInt ga.toInt d.toInt t.toInt r.toInt) (FP.l2d (al.toInt64 * t.toInt64 + ga.toInt64 * (r.toInt64 - d.toInt64))) := by
  have q : ¬ (r.toInt < d.toInt) := fun q => c (own_gtL.mpr q)
  obtain ⟨-, -, e1, -, -, e2, e3⟩ := own_cb h
  have hs : own_sum al.toInt be.toInt ga.toInt d.toInt t.toInt r.toInt = al.toInt * t.toInt + ga.toInt * (r.toInt - d.toInt) := by
    unfold own_sum; rw [Int.max_eq_left (a := 0) (b := d.toInt - r.toInt) (by omega), Int.max_eq_right (a := 0) (b := r.toInt - d.toInt) (by omega), Int.mul_zero, Int.add_zero]
  rw [Int.max_eq_right (a := 0) (b := r.toInt - d.toInt) (by omega)] at e2
  rw [hs] at e3 ⊢
  have m1 : (al.toInt64 * t.toInt64).toInt = al.toInt * t.toInt := own_mulS (by rw [Int32.toInt_toInt64, Int32.toInt_toInt64]) (by omega)
  have m2 : (ga.toInt64 * (r.toInt64 - d.toInt64)).toInt = ga.toInt * (r.toInt - d.toInt) := own_mulS (by rw [Int32.toInt_toInt64, own_subS]) e2
  have m3 := own_addS m1 m2 e3
  rw [← m3]; exact Core.l2d_int (by rw [m3]; exact e3)
end Own513b

theorem own_wS {Z : State} {a0 : Array Value} (hw : ∀ d ∈ tables_1, d.before a0 Z = true) : ∀ a ∈ Bundle.stringAtoms, a.before a0 Z = true := by
  intro a ha
  simp only [Bundle.stringAtoms, Bundle.sN, List.mem_cons, List.not_mem_nil, or_false] at ha
  rcases ha with rfl | rfl | rfl | rfl | rfl | rfl | rfl
  · exact (hw _ (List.mem_of_getElem? (i := 11) rfl))
  · exact (hw _ (List.mem_of_getElem? (i := 12) rfl))
  · exact (hw _ (List.mem_of_getElem? (i := 13) rfl))
  · exact (hw _ (List.mem_of_getElem? (i := 14) rfl))
  · exact (hw _ (List.mem_of_getElem? (i := 15) rfl))
  · exact (hw _ (List.mem_of_getElem? (i := 16) rfl))
  · exact (hw _ (List.mem_of_getElem? (i := 17) rfl))
theorem ef_4_D (m : MethodId) (x0 : UInt64) : entryFrame m #[(.double x0)] 2 = mkF m 0 #[.val (.double x0), .second] [] := by first | (simp [entryFrame, mkF, argsToLocals, Value.category]; done) | rfl
theorem d4_0 : decode jdk_117_method_8_code 0 = .ok (.dload_n 0, 1) := by decide +kernel
theorem d4_1 : decode jdk_117_method_8_code 1 = .ok (.invokestatic 38, 3) := by decide +kernel
theorem d4_4 : decode jdk_117_method_8_code 4 = .ok (.ldc2_w 111, 3) := by decide +kernel
theorem d4_7 : decode jdk_117_method_8_code 7 = .ok (.dcmp .g, 1) := by decide +kernel
theorem d4_8 : decode jdk_117_method_8_code 8 = .ok (.ifCond .gt 7, 3) := by decide +kernel
theorem d4_11 : decode jdk_117_method_8_code 11 = .ok (.iconst 1, 1) := by decide +kernel
theorem d4_12 : decode jdk_117_method_8_code 12 = .ok (.goto 4, 3) := by decide +kernel
theorem d4_16 : decode jdk_117_method_8_code 16 = .ok (.ireturn, 1) := by decide +kernel
theorem pn_java_lang_Double : plainName "java/lang/Double" = true := by first | (simp [plainName, overriddenIn]; done) | decide +kernel
set_option maxRecDepth 65536 in
set_option maxHeartbeats 40000000 in
theorem ctIf (l : Launch) (Z : State) (a0 : Array Value) (hw : ∀ d ∈ tables_1, d.before a0 Z = true) (x : UInt64) (h0 : Heap) (n0 : Nat) (hx : Jvm.Free.Fl.Fin64 x) :
    CtN l Z (⟨"java/lang/Double", "isFinite", "(D)Z"⟩ : MethodName) jdk_117_method_8_code 2 (some .boolean) ({ frames := 1, cells := 0, slots := 0, locals := 13 } : Room) n0 #[(.double x)] h0 (fun v h => v = some (.int 1) ∧ h0 = h) := by
  refine CtN.of (plainFor_of_name pn_java_lang_Double) ?_
  intro p e s m below meth c T0 W0 hnm
  refine Wp.cast (ef_4_D m x) ?_
  refine w_dloadN W0 d4_0 rfl ?_
  refine w_abs W0 (hw _ (List.mem_of_getElem? (i := 27) rfl)) (hw _ (List.mem_of_getElem? (i := 28) rfl)) (hw _ (List.mem_of_getElem? (i := 29) rfl)) (hw _ (List.mem_of_getElem? (i := 30) rfl)) hx.noNaN (z := (x &&& 0x7fffffffffffffff)) rfl 0 rfl rfl (by decide) (by decide) (by decide) (by decide) d4_1 ?_
  intro T1 W1
  refine w_ldc2D W1 (hw _ (List.mem_of_getElem? (i := 31) rfl)) d4_4 ?_
  refine w_dcmp W1 d4_7 (z := (cmpValue (FP.dcmp (x &&& 0x7fffffffffffffff) (9218868437227405311 : UInt64)) .g)) rfl ?_
  refine w_ifgt W1 (pc' := 15) d4_8 (by decide) (fun c8 => ?_) (fun c8 => ?_)
  · exact absurd c8 (own_isfin hx)
  · refine w_iconst W1 (z := (1 : Int32)) d4_11 (by rfl) ?_
    refine w_goto W1 (pc' := 16) d4_12 (by decide) ?_
    exact n_rN W1 rfl (by simp) (z' := (1 : Int32)) (by rfl) d4_16 (by decide) (by decide) ⟨rfl, rfl⟩
theorem ef_3_RDR (m : MethodId) (x0 : Addr) (x1 : UInt64) (x2 : Addr) : entryFrame m #[(.ref x0), (.double x1), (.ref x2)] 4 = mkF m 0 #[.val (.ref x0), .val (.double x1), .second, .val (.ref x2)] [] := by first | (simp [entryFrame, mkF, argsToLocals, Value.category]; done) | rfl
theorem d3_0 : decode prog_10_method_6_code 0 = .ok (.dload_n 1, 1) := by decide +kernel
theorem d3_1 : decode prog_10_method_6_code 1 = .ok (.invokestatic 26, 3) := by decide +kernel
theorem pd_0 : parseMethodDescriptor "(D)Z" = some ⟨[.double], some .boolean⟩ := by decide +kernel
theorem d3_4 : decode prog_10_method_6_code 4 = .ok (.ifCond .eq 9, 3) := by decide +kernel
theorem d3_7 : decode prog_10_method_6_code 7 = .ok (.dload_n 1, 1) := by decide +kernel
theorem d3_8 : decode prog_10_method_6_code 8 = .ok (.dconst 0, 1) := by decide +kernel
theorem d3_9 : decode prog_10_method_6_code 9 = .ok (.dcmp .g, 1) := by decide +kernel
theorem d3_10 : decode prog_10_method_6_code 10 = .ok (.ifCond .ge 19, 3) := by decide +kernel
theorem d3_29 : decode prog_10_method_6_code 29 = .ok (.dload_n 1, 1) := by decide +kernel
theorem d3_30 : decode prog_10_method_6_code 30 = .ok (.dreturn, 1) := by decide +kernel
theorem pn_com_example_choke_points_chokepoints_model_Checks : plainName "com/example/choke_points/chokepoints/model/Checks" = true := by first | (simp [plainName, overriddenIn]; done) | decide +kernel
set_option maxRecDepth 65536 in
set_option maxHeartbeats 40000000 in
theorem ctNn (l : Launch) (Z : State) (a0 : Array Value) (hw : ∀ d ∈ tables_1, d.before a0 Z = true) (u w : Addr) (x : UInt64) (h0 : Heap) (n0 : Nat) (hx : own_Nn x) :
    CtN l Z (⟨"com/example/choke_points/chokepoints/model/Checks", "nonNegative", "(Ljava/lang/String;DLjava/lang/String;)D"⟩ : MethodName) prog_10_method_6_code 4 (some .double) ({ frames := 2, cells := 0, slots := 0, locals := 26 } : Room) n0 #[(.ref u), (.double x), (.ref w)] h0 (fun v h => v = some (.double x) ∧ h0 = h) := by
  refine CtN.of (plainFor_of_name pn_com_example_choke_points_chokepoints_model_Checks) ?_
  intro p e s m below meth c T0 W0 hnm
  refine Wp.cast (ef_3_RDR m u x w) ?_
  refine w_dloadN W0 d3_0 rfl ?_
  refine w_callS W0 (ctIf l Z a0 hw x _ n0 hx.1) (hw _ (List.mem_of_getElem? (i := 23) rfl)) (hw _ (List.mem_of_getElem? (i := 24) rfl)) (hw _ (List.mem_of_getElem? (i := 25) rfl)) (hw _ (List.mem_of_getElem? (i := 26) rfl)) (by decide) 0 (by decide) (by decide) (by decide) (by decide) (argsL := [(.double x)]) (rest := []) pd_0 rfl rfl rfl rfl rfl d3_1 ?_
  rintro T1 h1 l1 _ W1 ⟨rfl, rfl⟩
  refine w_ifeq W1 (pc' := 13) d3_4 (by decide) (fun c4 => absurd c4 (by decide)) (fun c4 => ?_)
  refine w_dloadN W1 d3_7 rfl ?_
  refine w_dconst0 W1 d3_8 ?_
  refine w_dcmp W1 d3_9 (z := (cmpValue (FP.dcmp x FP.dconst0) .g)) rfl ?_
  refine w_ifge W1 (pc' := 29) d3_10 (by decide) (fun c10 => ?_) (fun c10 => ?_)
  · refine w_dloadN W1 d3_29 rfl ?_
    exact n_rD W1 rfl d3_30 (by decide) (by decide) ⟨rfl, rfl⟩
  · exact absurd c10 hx.2
theorem ef_6_RDR (m : MethodId) (x0 : Addr) (x1 : UInt64) (x2 : Addr) : entryFrame m #[(.ref x0), (.double x1), (.ref x2)] 4 = mkF m 0 #[.val (.ref x0), .val (.double x1), .second, .val (.ref x2)] [] := by first | (simp [entryFrame, mkF, argsToLocals, Value.category]; done) | rfl
theorem d6_0 : decode prog_10_method_5_code 0 = .ok (.dload_n 1, 1) := by decide +kernel
theorem d6_1 : decode prog_10_method_5_code 1 = .ok (.invokestatic 26, 3) := by decide +kernel
theorem d6_4 : decode prog_10_method_5_code 4 = .ok (.ifCond .ne 19, 3) := by decide +kernel
theorem d6_23 : decode prog_10_method_5_code 23 = .ok (.dload_n 1, 1) := by decide +kernel
theorem d6_24 : decode prog_10_method_5_code 24 = .ok (.dreturn, 1) := by decide +kernel
set_option maxRecDepth 65536 in
set_option maxHeartbeats 40000000 in
theorem ctFi (l : Launch) (Z : State) (a0 : Array Value) (hw : ∀ d ∈ tables_1, d.before a0 Z = true) (u w : Addr) (x : UInt64) (h0 : Heap) (n0 : Nat) (hx : Jvm.Free.Fl.Fin64 x) :
    CtN l Z (⟨"com/example/choke_points/chokepoints/model/Checks", "finite", "(Ljava/lang/String;DLjava/lang/String;)D"⟩ : MethodName) prog_10_method_5_code 4 (some .double) ({ frames := 2, cells := 0, slots := 0, locals := 26 } : Room) n0 #[(.ref u), (.double x), (.ref w)] h0 (fun v h => v = some (.double x) ∧ h0 = h) := by
  refine CtN.of (plainFor_of_name pn_com_example_choke_points_chokepoints_model_Checks) ?_
  intro p e s m below meth c T0 W0 hnm
  refine Wp.cast (ef_6_RDR m u x w) ?_
  refine w_dloadN W0 d6_0 rfl ?_
  refine w_callS W0 (ctIf l Z a0 hw x _ n0 hx) (hw _ (List.mem_of_getElem? (i := 23) rfl)) (hw _ (List.mem_of_getElem? (i := 24) rfl)) (hw _ (List.mem_of_getElem? (i := 25) rfl)) (hw _ (List.mem_of_getElem? (i := 26) rfl)) (by decide) 0 (by decide) (by decide) (by decide) (by decide) (argsL := [(.double x)]) (rest := []) pd_0 rfl rfl rfl rfl rfl d6_1 ?_
  rintro T1 h1 l1 _ W1 ⟨rfl, rfl⟩
  refine w_ifne W1 (pc' := 23) d6_4 (by decide) (fun c4 => ?_) (fun c4 => absurd c4 (by decide))
  refine w_dloadN W1 d6_23 rfl ?_
  exact n_rD W1 rfl d6_24 (by decide) (by decide) ⟨rfl, rfl⟩
theorem ef_1_RDDDD (m : MethodId) (x0 : Addr) (x1 : UInt64) (x2 : UInt64) (x3 : UInt64) (x4 : UInt64) : entryFrame m #[(.ref x0), (.double x1), (.double x2), (.double x3), (.double x4)] 9 = mkF m 0 #[.val (.ref x0), .val (.double x1), .second, .val (.double x2), .second, .val (.double x3), .second, .val (.double x4), .second] [] := by first | (simp [entryFrame, mkF, argsToLocals, Value.category]; done) | rfl
theorem d1_0 : decode prog_20_method_1_code 0 = .ok (.aload_n 0, 1) := by decide +kernel
theorem d1_1 : decode prog_20_method_1_code 1 = .ok (.invokespecial 1, 3) := by decide +kernel
theorem d1_4 : decode prog_20_method_1_code 4 = .ok (.aload_n 0, 1) := by decide +kernel
theorem d1_5 : decode prog_20_method_1_code 5 = .ok (.ldc 7, 2) := by decide +kernel
theorem d1_7 : decode prog_20_method_1_code 7 = .ok (.dload_n 1, 1) := by decide +kernel
theorem d1_8 : decode prog_20_method_1_code 8 = .ok (.ldc 11, 2) := by decide +kernel
theorem d1_10 : decode prog_20_method_1_code 10 = .ok (.invokestatic 13, 3) := by decide +kernel
theorem pd_1 : parseMethodDescriptor "(Ljava/lang/String;DLjava/lang/String;)D" = some ⟨[(.object "java/lang/String"), .double, (.object "java/lang/String")], some .double⟩ := by decide +kernel
theorem d1_13 : decode prog_20_method_1_code 13 = .ok (.putfield 19, 3) := by decide +kernel
theorem d1_16 : decode prog_20_method_1_code 16 = .ok (.aload_n 0, 1) := by decide +kernel
theorem d1_17 : decode prog_20_method_1_code 17 = .ok (.ldc 22, 2) := by decide +kernel
theorem d1_19 : decode prog_20_method_1_code 19 = .ok (.dload_n 3, 1) := by decide +kernel
theorem d1_20 : decode prog_20_method_1_code 20 = .ok (.ldc 11, 2) := by decide +kernel
theorem d1_22 : decode prog_20_method_1_code 22 = .ok (.invokestatic 13, 3) := by decide +kernel
theorem d1_25 : decode prog_20_method_1_code 25 = .ok (.putfield 24, 3) := by decide +kernel
theorem d1_28 : decode prog_20_method_1_code 28 = .ok (.aload_n 0, 1) := by decide +kernel
theorem d1_29 : decode prog_20_method_1_code 29 = .ok (.ldc 26, 2) := by decide +kernel
theorem d1_31 : decode prog_20_method_1_code 31 = .ok (.dload 5, 2) := by decide +kernel
theorem d1_33 : decode prog_20_method_1_code 33 = .ok (.ldc 11, 2) := by decide +kernel
theorem d1_35 : decode prog_20_method_1_code 35 = .ok (.invokestatic 13, 3) := by decide +kernel
theorem d1_38 : decode prog_20_method_1_code 38 = .ok (.putfield 28, 3) := by decide +kernel
theorem d1_41 : decode prog_20_method_1_code 41 = .ok (.aload_n 0, 1) := by decide +kernel
theorem d1_42 : decode prog_20_method_1_code 42 = .ok (.ldc 30, 2) := by decide +kernel
theorem d1_44 : decode prog_20_method_1_code 44 = .ok (.dload 7, 2) := by decide +kernel
theorem d1_46 : decode prog_20_method_1_code 46 = .ok (.ldc 32, 2) := by decide +kernel
theorem d1_48 : decode prog_20_method_1_code 48 = .ok (.invokestatic 34, 3) := by decide +kernel
theorem d1_51 : decode prog_20_method_1_code 51 = .ok (.putfield 37, 3) := by decide +kernel
theorem d1_54 : decode prog_20_method_1_code 54 = .ok (.return_, 1) := by decide +kernel
theorem pn_com_example_choke_points_chokepoints_model_SchedulePreferences : plainName "com/example/choke_points/chokepoints/model/SchedulePreferences" = true := by first | (simp [plainName, overriddenIn]; done) | decide +kernel
set_option maxRecDepth 65536 in
set_option maxHeartbeats 40000000 in
theorem ctIn (l : Launch) (Z : State) (a0 : Array Value) (hw : ∀ d ∈ tables_1, d.before a0 Z = true) (x : Addr) (d0 d1 d2 d3 : UInt64) (h0 : Heap) (n0 : Nat) (H0 : own_Nn d0) (H1 : own_Nn d1) (H2 : own_Nn d2) (H3 : Jvm.Free.Fl.Fin64 d3) (Ex : Exa Z h0 x "com/example/choke_points/chokepoints/model/SchedulePreferences") (F0 : Fld Z h0 x "com/example/choke_points/chokepoints/model/SchedulePreferences" "alpha" "D" (.double 0)) (F1 : Fld Z h0 x "com/example/choke_points/chokepoints/model/SchedulePreferences" "beta" "D" (.double 0)) (F2 : Fld Z h0 x "com/example/choke_points/chokepoints/model/SchedulePreferences" "gamma" "D" (.double 0)) (F3 : Fld Z h0 x "com/example/choke_points/chokepoints/model/SchedulePreferences" "desiredArrival" "D" (.double 0)) (hnx : n0 ≤ x) :
    CtW l Z (⟨"com/example/choke_points/chokepoints/model/SchedulePreferences", "<init>", "(DDDD)V"⟩ : MethodName) prog_20_method_1_code 9 none ({ frames := 3, cells := 16, slots := 368, locals := 42 } : Room) n0 #[(.ref x), (.double d0), (.double d1), (.double d2), (.double d3)] h0 (fun _ => True) (fun v h vm => v = none ∧ Keep h0 h [x] ∧ Exa Z h x "com/example/choke_points/chokepoints/model/SchedulePreferences" ∧ Fld Z h x "com/example/choke_points/chokepoints/model/SchedulePreferences" "alpha" "D" (.double d0) ∧ Fld Z h x "com/example/choke_points/chokepoints/model/SchedulePreferences" "beta" "D" (.double d1) ∧ Fld Z h x "com/example/choke_points/chokepoints/model/SchedulePreferences" "gamma" "D" (.double d2) ∧ Fld Z h x "com/example/choke_points/chokepoints/model/SchedulePreferences" "desiredArrival" "D" (.double d3)) := by
  refine CtW.of (plainFor_of_name pn_com_example_choke_points_chokepoints_model_SchedulePreferences) ?_
  intro p e s m below meth c T0 W0 hnm hs0 hV
  refine Wp.cast (ef_1_RDDDD m x d0 d1 d2 d3) ?_
  refine w_aloadN W0 d1_0 rfl rfl ?_
  refine w_initO W0 (hw _ (List.mem_of_getElem? (i := 7) rfl)) (hw _ (List.mem_of_getElem? (i := 8) rfl)) (hw _ (List.mem_of_getElem? (i := 9) rfl)) 0 rfl rfl (by decide) (by decide) d1_1 ?_
  intro T1 W1
  refine w_aloadN W1 d1_4 rfl rfl ?_
  refine w_ldcS W1 (hw _ (List.mem_of_getElem? (i := 10) rfl)) (own_wS hw) 20 (by decide) (by decide) (by decide) (by decide) d1_5 ?_
  intro T2 h2 vm2 a2 W2 E2
  have alpha_1 := F0.ext E2
  have beta_1 := F1.ext E2
  have gamma_1 := F2.ext E2
  have desiredArrival_1 := F3.ext E2
  have Ex_1 := Ex.ext E2
  have K_1 := (Keep.refl h0 [x]).ext E2
  refine w_dloadN W2 d1_7 rfl ?_
  refine w_ldcS W2 (hw _ (List.mem_of_getElem? (i := 18) rfl)) (own_wS hw) 56 (by decide) (by decide) (by decide) (by decide) d1_8 ?_
  intro T3 h3 vm3 a3 W3 E3
  have alpha_2 := alpha_1.ext E3
  have beta_2 := beta_1.ext E3
  have gamma_2 := gamma_1.ext E3
  have desiredArrival_2 := desiredArrival_1.ext E3
  have Ex_2 := Ex_1.ext E3
  have K_2 := K_1.ext E3
  refine w_callS W3 (ctNn l Z a0 hw a2 a3 d0 _ n0 H0) (hw _ (List.mem_of_getElem? (i := 19) rfl)) (hw _ (List.mem_of_getElem? (i := 20) rfl)) (hw _ (List.mem_of_getElem? (i := 21) rfl)) (hw _ (List.mem_of_getElem? (i := 22) rfl)) (by decide) 1 (by decide) (by decide) (by decide) (by decide) (argsL := [(.ref a2), (.double d0), (.ref a3)]) (rest := [(.ref x)]) pd_1 rfl rfl rfl rfl rfl d1_10 ?_
  rintro T4 h4 l4 _ W4 ⟨rfl, rfl⟩
  refine w_putf W4 (hw _ (List.mem_of_getElem? (i := 32) rfl)) Via.refl alpha_2 Ex_2 (Or.inr ⟨(hw _ (List.mem_of_getElem? (i := 33) rfl)), rfl, hnm⟩) (hw _ (List.mem_of_getElem? (i := 2) rfl)) (ty := .double) (v' := (.double d0)) (by decide) (by rfl) (rfl) hnx d1_13 ?_
  intro T5 h5 l5 W5 Wr5
  have alpha_3 := alpha_2.same Wr5
  have beta_3 := beta_2.other Wr5 (Or.inr (slot_ne (Or.inr (hw _ (List.mem_of_getElem? (i := 36) rfl))) (Or.inr (hw _ (List.mem_of_getElem? (i := 33) rfl))) (by decide) (t := .double) (t' := .double) (by decide) (by decide)))
  have gamma_3 := gamma_2.other Wr5 (Or.inr (slot_ne (Or.inr (hw _ (List.mem_of_getElem? (i := 39) rfl))) (Or.inr (hw _ (List.mem_of_getElem? (i := 33) rfl))) (by decide) (t := .double) (t' := .double) (by decide) (by decide)))
  have desiredArrival_3 := desiredArrival_2.other Wr5 (Or.inr (slot_ne (Or.inr (hw _ (List.mem_of_getElem? (i := 46) rfl))) (Or.inr (hw _ (List.mem_of_getElem? (i := 33) rfl))) (by decide) (t := .double) (t' := .double) (by decide) (by decide)))
  have Ex_3 := Ex_2.wr Wr5
  have K_3 := K_2.wr Wr5 (Or.inl (List.mem_cons_self ..))
  refine w_aloadN W5 d1_16 rfl rfl ?_
  refine w_ldcS W5 (hw _ (List.mem_of_getElem? (i := 34) rfl)) (own_wS hw) 16 (by decide) (by decide) (by decide) (by decide) d1_17 ?_
  intro T6 h6 vm6 a6 W6 E6
  have alpha_4 := alpha_3.ext E6
  have beta_4 := beta_3.ext E6
  have gamma_4 := gamma_3.ext E6
  have desiredArrival_4 := desiredArrival_3.ext E6
  have Ex_4 := Ex_3.ext E6
  have K_4 := K_3.ext E6
  refine w_dloadN W6 d1_19 rfl ?_
  refine w_ldcS W6 (hw _ (List.mem_of_getElem? (i := 18) rfl)) (own_wS hw) 56 (by decide) (by decide) (by decide) (by decide) d1_20 ?_
  intro T7 h7 vm7 a7 W7 E7
  have alpha_5 := alpha_4.ext E7
  have beta_5 := beta_4.ext E7
  have gamma_5 := gamma_4.ext E7
  have desiredArrival_5 := desiredArrival_4.ext E7
  have Ex_5 := Ex_4.ext E7
  have K_5 := K_4.ext E7
  refine w_callS W7 (ctNn l Z a0 hw a6 a7 d1 _ n0 H1) (hw _ (List.mem_of_getElem? (i := 19) rfl)) (hw _ (List.mem_of_getElem? (i := 20) rfl)) (hw _ (List.mem_of_getElem? (i := 21) rfl)) (hw _ (List.mem_of_getElem? (i := 22) rfl)) (by decide) 1 (by decide) (by decide) (by decide) (by decide) (argsL := [(.ref a6), (.double d1), (.ref a7)]) (rest := [(.ref x)]) pd_1 rfl rfl rfl rfl rfl d1_22 ?_
  rintro T8 h8 l8 _ W8 ⟨rfl, rfl⟩
  refine w_putf W8 (hw _ (List.mem_of_getElem? (i := 35) rfl)) Via.refl beta_5 Ex_5 (Or.inr ⟨(hw _ (List.mem_of_getElem? (i := 36) rfl)), rfl, hnm⟩) (hw _ (List.mem_of_getElem? (i := 2) rfl)) (ty := .double) (v' := (.double d1)) (by decide) (by rfl) (rfl) hnx d1_25 ?_
  intro T9 h9 l9 W9 Wr9
  have alpha_6 := alpha_5.other Wr9 (Or.inr (slot_ne (Or.inr (hw _ (List.mem_of_getElem? (i := 33) rfl))) (Or.inr (hw _ (List.mem_of_getElem? (i := 36) rfl))) (by decide) (t := .double) (t' := .double) (by decide) (by decide)))
  have beta_6 := beta_5.same Wr9
  have gamma_6 := gamma_5.other Wr9 (Or.inr (slot_ne (Or.inr (hw _ (List.mem_of_getElem? (i := 39) rfl))) (Or.inr (hw _ (List.mem_of_getElem? (i := 36) rfl))) (by decide) (t := .double) (t' := .double) (by decide) (by decide)))
  have desiredArrival_6 := desiredArrival_5.other Wr9 (Or.inr (slot_ne (Or.inr (hw _ (List.mem_of_getElem? (i := 46) rfl))) (Or.inr (hw _ (List.mem_of_getElem? (i := 36) rfl))) (by decide) (t := .double) (t' := .double) (by decide) (by decide)))
  have Ex_6 := Ex_5.wr Wr9
  have K_6 := K_5.wr Wr9 (Or.inl (List.mem_cons_self ..))
  refine w_aloadN W9 d1_28 rfl rfl ?_
  refine w_ldcS W9 (hw _ (List.mem_of_getElem? (i := 37) rfl)) (own_wS hw) 20 (by decide) (by decide) (by decide) (by decide) d1_29 ?_
  intro T10 h10 vm10 a10 W10 E10
  have alpha_7 := alpha_6.ext E10
  have beta_7 := beta_6.ext E10
  have gamma_7 := gamma_6.ext E10
  have desiredArrival_7 := desiredArrival_6.ext E10
  have Ex_7 := Ex_6.ext E10
  have K_7 := K_6.ext E10
  refine w_dload W10 d1_31 rfl ?_
  refine w_ldcS W10 (hw _ (List.mem_of_getElem? (i := 18) rfl)) (own_wS hw) 56 (by decide) (by decide) (by decide) (by decide) d1_33 ?_
  intro T11 h11 vm11 a11 W11 E11
  have alpha_8 := alpha_7.ext E11
  have beta_8 := beta_7.ext E11
  have gamma_8 := gamma_7.ext E11
  have desiredArrival_8 := desiredArrival_7.ext E11
  have Ex_8 := Ex_7.ext E11
  have K_8 := K_7.ext E11
  refine w_callS W11 (ctNn l Z a0 hw a10 a11 d2 _ n0 H2) (hw _ (List.mem_of_getElem? (i := 19) rfl)) (hw _ (List.mem_of_getElem? (i := 20) rfl)) (hw _ (List.mem_of_getElem? (i := 21) rfl)) (hw _ (List.mem_of_getElem? (i := 22) rfl)) (by decide) 1 (by decide) (by decide) (by decide) (by decide) (argsL := [(.ref a10), (.double d2), (.ref a11)]) (rest := [(.ref x)]) pd_1 rfl rfl rfl rfl rfl d1_35 ?_
  rintro T12 h12 l12 _ W12 ⟨rfl, rfl⟩
  refine w_putf W12 (hw _ (List.mem_of_getElem? (i := 38) rfl)) Via.refl gamma_8 Ex_8 (Or.inr ⟨(hw _ (List.mem_of_getElem? (i := 39) rfl)), rfl, hnm⟩) (hw _ (List.mem_of_getElem? (i := 2) rfl)) (ty := .double) (v' := (.double d2)) (by decide) (by rfl) (rfl) hnx d1_38 ?_
  intro T13 h13 l13 W13 Wr13
  have alpha_9 := alpha_8.other Wr13 (Or.inr (slot_ne (Or.inr (hw _ (List.mem_of_getElem? (i := 33) rfl))) (Or.inr (hw _ (List.mem_of_getElem? (i := 39) rfl))) (by decide) (t := .double) (t' := .double) (by decide) (by decide)))
  have beta_9 := beta_8.other Wr13 (Or.inr (slot_ne (Or.inr (hw _ (List.mem_of_getElem? (i := 36) rfl))) (Or.inr (hw _ (List.mem_of_getElem? (i := 39) rfl))) (by decide) (t := .double) (t' := .double) (by decide) (by decide)))
  have gamma_9 := gamma_8.same Wr13
  have desiredArrival_9 := desiredArrival_8.other Wr13 (Or.inr (slot_ne (Or.inr (hw _ (List.mem_of_getElem? (i := 46) rfl))) (Or.inr (hw _ (List.mem_of_getElem? (i := 39) rfl))) (by decide) (t := .double) (t' := .double) (by decide) (by decide)))
  have Ex_9 := Ex_8.wr Wr13
  have K_9 := K_8.wr Wr13 (Or.inl (List.mem_cons_self ..))
  refine w_aloadN W13 d1_41 rfl rfl ?_
  refine w_ldcS W13 (hw _ (List.mem_of_getElem? (i := 40) rfl)) (own_wS hw) 24 (by decide) (by decide) (by decide) (by decide) d1_42 ?_
  intro T14 h14 vm14 a14 W14 E14
  have alpha_10 := alpha_9.ext E14
  have beta_10 := beta_9.ext E14
  have gamma_10 := gamma_9.ext E14
  have desiredArrival_10 := desiredArrival_9.ext E14
  have Ex_10 := Ex_9.ext E14
  have K_10 := K_9.ext E14
  refine w_dload W14 d1_44 rfl ?_
  refine w_ldcS W14 (hw _ (List.mem_of_getElem? (i := 41) rfl)) (own_wS hw) 88 (by decide) (by decide) (by decide) (by decide) d1_46 ?_
  intro T15 h15 vm15 a15 W15 E15
  have alpha_11 := alpha_10.ext E15
  have beta_11 := beta_10.ext E15
  have gamma_11 := gamma_10.ext E15
  have desiredArrival_11 := desiredArrival_10.ext E15
  have Ex_11 := Ex_10.ext E15
  have K_11 := K_10.ext E15
  refine w_callS W15 (ctFi l Z a0 hw a14 a15 d3 _ n0 H3) (hw _ (List.mem_of_getElem? (i := 42) rfl)) (hw _ (List.mem_of_getElem? (i := 43) rfl)) (hw _ (List.mem_of_getElem? (i := 21) rfl)) (hw _ (List.mem_of_getElem? (i := 44) rfl)) (by decide) 1 (by decide) (by decide) (by decide) (by decide) (argsL := [(.ref a14), (.double d3), (.ref a15)]) (rest := [(.ref x)]) pd_1 rfl rfl rfl rfl rfl d1_48 ?_
  rintro T16 h16 l16 _ W16 ⟨rfl, rfl⟩
  refine w_putf W16 (hw _ (List.mem_of_getElem? (i := 45) rfl)) Via.refl desiredArrival_11 Ex_11 (Or.inr ⟨(hw _ (List.mem_of_getElem? (i := 46) rfl)), rfl, hnm⟩) (hw _ (List.mem_of_getElem? (i := 2) rfl)) (ty := .double) (v' := (.double d3)) (by decide) (by rfl) (rfl) hnx d1_51 ?_
  intro T17 h17 l17 W17 Wr17
  have alpha_12 := alpha_11.other Wr17 (Or.inr (slot_ne (Or.inr (hw _ (List.mem_of_getElem? (i := 33) rfl))) (Or.inr (hw _ (List.mem_of_getElem? (i := 46) rfl))) (by decide) (t := .double) (t' := .double) (by decide) (by decide)))
  have beta_12 := beta_11.other Wr17 (Or.inr (slot_ne (Or.inr (hw _ (List.mem_of_getElem? (i := 36) rfl))) (Or.inr (hw _ (List.mem_of_getElem? (i := 46) rfl))) (by decide) (t := .double) (t' := .double) (by decide) (by decide)))
  have gamma_12 := gamma_11.other Wr17 (Or.inr (slot_ne (Or.inr (hw _ (List.mem_of_getElem? (i := 39) rfl))) (Or.inr (hw _ (List.mem_of_getElem? (i := 46) rfl))) (by decide) (t := .double) (t' := .double) (by decide) (by decide)))
  have desiredArrival_12 := desiredArrival_11.same Wr17
  have Ex_12 := Ex_11.wr Wr17
  have K_12 := K_11.wr Wr17 (Or.inl (List.mem_cons_self ..))
  exact x_rV W17 rfl d1_54 (by decide) (by decide) (fun vm' hvm' => ⟨rfl, K_12, Ex_12, alpha_12, beta_12, gamma_12, desiredArrival_12⟩)
theorem ef_7_RDD (m : MethodId) (x0 : Addr) (x1 : UInt64) (x2 : UInt64) : entryFrame m #[(.ref x0), (.double x1), (.double x2)] 9 = mkF m 0 #[.val (.ref x0), .val (.double x1), .second, .val (.double x2), .second, .unset, .unset, .unset, .unset] [] := by first | (simp [entryFrame, mkF, argsToLocals, Value.category]; done) | rfl
theorem d7_0 : decode prog_20_method_3_code 0 = .ok (.dconst 0, 1) := by decide +kernel
theorem d7_1 : decode prog_20_method_3_code 1 = .ok (.aload_n 0, 1) := by decide +kernel
theorem d7_2 : decode prog_20_method_3_code 2 = .ok (.getfield 37, 3) := by decide +kernel
theorem d7_5 : decode prog_20_method_3_code 5 = .ok (.dload_n 3, 1) := by decide +kernel
theorem d7_6 : decode prog_20_method_3_code 6 = .ok (.dsub, 1) := by decide +kernel
theorem d7_7 : decode prog_20_method_3_code 7 = .ok (.invokestatic 40, 3) := by decide +kernel
theorem d7_10 : decode prog_20_method_3_code 10 = .ok (.dstore 5, 2) := by decide +kernel
theorem d7_12 : decode prog_20_method_3_code 12 = .ok (.dconst 0, 1) := by decide +kernel
theorem d7_13 : decode prog_20_method_3_code 13 = .ok (.dload_n 3, 1) := by decide +kernel
theorem d7_14 : decode prog_20_method_3_code 14 = .ok (.aload_n 0, 1) := by decide +kernel
theorem d7_15 : decode prog_20_method_3_code 15 = .ok (.getfield 37, 3) := by decide +kernel
theorem d7_18 : decode prog_20_method_3_code 18 = .ok (.dsub, 1) := by decide +kernel
theorem d7_19 : decode prog_20_method_3_code 19 = .ok (.invokestatic 40, 3) := by decide +kernel
theorem d7_22 : decode prog_20_method_3_code 22 = .ok (.dstore 7, 2) := by decide +kernel
theorem d7_24 : decode prog_20_method_3_code 24 = .ok (.aload_n 0, 1) := by decide +kernel
theorem d7_25 : decode prog_20_method_3_code 25 = .ok (.getfield 19, 3) := by decide +kernel
theorem d7_28 : decode prog_20_method_3_code 28 = .ok (.dload_n 1, 1) := by decide +kernel
theorem d7_29 : decode prog_20_method_3_code 29 = .ok (.dmul, 1) := by decide +kernel
theorem d7_30 : decode prog_20_method_3_code 30 = .ok (.aload_n 0, 1) := by decide +kernel
theorem d7_31 : decode prog_20_method_3_code 31 = .ok (.getfield 24, 3) := by decide +kernel
theorem d7_34 : decode prog_20_method_3_code 34 = .ok (.dload 5, 2) := by decide +kernel
theorem d7_36 : decode prog_20_method_3_code 36 = .ok (.dmul, 1) := by decide +kernel
theorem d7_37 : decode prog_20_method_3_code 37 = .ok (.dadd, 1) := by decide +kernel
theorem d7_38 : decode prog_20_method_3_code 38 = .ok (.aload_n 0, 1) := by decide +kernel
theorem d7_39 : decode prog_20_method_3_code 39 = .ok (.getfield 28, 3) := by decide +kernel
theorem d7_42 : decode prog_20_method_3_code 42 = .ok (.dload 7, 2) := by decide +kernel
theorem d7_44 : decode prog_20_method_3_code 44 = .ok (.dmul, 1) := by decide +kernel
theorem d7_45 : decode prog_20_method_3_code 45 = .ok (.dadd, 1) := by decide +kernel
theorem d7_46 : decode prog_20_method_3_code 46 = .ok (.ldc2_w 46, 3) := by decide +kernel
theorem d7_49 : decode prog_20_method_3_code 49 = .ok (.ddiv, 1) := by decide +kernel
theorem d7_50 : decode prog_20_method_3_code 50 = .ok (.dreturn, 1) := by decide +kernel
set_option maxRecDepth 65536 in
set_option maxHeartbeats 40000000 in
theorem ctCo (l : Launch) (Z : State) (a0 : Array Value) (hw : ∀ d ∈ tables_1, d.before a0 Z = true) (x : Addr) (d0 d1 d2 d3 t r : UInt64) (ia ib ic id it ir : Int) (h0 : Heap) (n0 : Nat) (F0 : Fld Z h0 x "com/example/choke_points/chokepoints/model/SchedulePreferences" "alpha" "D" (.double d0)) (F1 : Fld Z h0 x "com/example/choke_points/chokepoints/model/SchedulePreferences" "beta" "D" (.double d1)) (F2 : Fld Z h0 x "com/example/choke_points/chokepoints/model/SchedulePreferences" "gamma" "D" (.double d2)) (F3 : Fld Z h0 x "com/example/choke_points/chokepoints/model/SchedulePreferences" "desiredArrival" "D" (.double d3)) (Ha : Jvm.FP.Core.DInt ia d0) (Hb : Jvm.FP.Core.DInt ib d1) (Hc : Jvm.FP.Core.DInt ic d2) (Hd : Jvm.FP.Core.DInt id d3) (Ht : Jvm.FP.Core.DInt it t) (Hr : Jvm.FP.Core.DInt ir r) (hB : own_Bd ia ib ic id it ir) :
    CtN l Z (⟨"com/example/choke_points/chokepoints/model/SchedulePreferences", "cost", "(DD)D"⟩ : MethodName) prog_20_method_3_code 9 (some .double) ({ frames := 1, cells := 0, slots := 0, locals := 15 } : Room) n0 #[(.ref x), (.double t), (.double r)] h0 (fun v h => ∃ q, v = some (.double (FP.ddiv q 4660134898793709568)) ∧ Jvm.FP.Core.DInt (own_sum ia ib ic id it ir) q ∧ h0 = h) := by
  refine CtN.of (plainFor_of_name pn_com_example_choke_points_chokepoints_model_SchedulePreferences) ?_
  intro p e s m below meth c T0 W0 hnm
  refine Wp.cast (ef_7_RDD m x t r) ?_
  obtain ⟨k1, k2, k3, k4, k5, k6, k7⟩ := own_cb hB
  have D1 := Jvm.FP.Core.dsub_int Hd Hr k1
  have M1 := own_max D1
  have D2 := Jvm.FP.Core.dsub_int Hr Hd k2
  have M2 := own_max D2
  have P1 := Jvm.FP.Core.dmul_int Ha Ht (Nat.le_trans k3 (by decide))
  have P2 := Jvm.FP.Core.dmul_int Hb M1 (Nat.le_trans k4 (by decide))
  have S1 := Jvm.FP.Core.dadd_int P1 P2 k5
  have P3 := Jvm.FP.Core.dmul_int Hc M2 (Nat.le_trans k6 (by decide))
  have S2 := Jvm.FP.Core.dadd_int S1 P3 k7
  refine w_dconst0 W0 d7_0 ?_
  refine w_aloadN W0 d7_1 rfl rfl ?_
  refine w_getf W0 (host := "") (Or.inl (hw _ (List.mem_of_getElem? (i := 45) rfl))) Via.refl F3 d7_2 ?_
  intro T1 W1
  refine w_dloadN W1 d7_5 rfl ?_
  refine w_dsub W1 d7_6 (own_dfin D1).noNaN rfl ?_
  refine w_max W1 (hw _ (List.mem_of_getElem? (i := 52) rfl)) (hw _ (List.mem_of_getElem? (i := 53) rfl)) (hw _ (List.mem_of_getElem? (i := 29) rfl)) (hw _ (List.mem_of_getElem? (i := 54) rfl)) (own_dfin own_d0).noNaN (own_dfin D1).noNaN (z := (Native.java_lang_Math.nans.pick64 true FP.dconst0 (FP.dsub d3 r))) rfl 0 rfl rfl (by decide) (by decide) (by decide) (by decide) d7_7 ?_
  intro T2 W2
  refine w_dstore W2 (L' := #[.val (.ref x), .val (.double t), .second, .val (.double r), .second, .val (.double (Native.java_lang_Math.nans.pick64 true FP.dconst0 (FP.dsub d3 r))), .second, .unset, .unset]) d7_10 rfl ?_
  refine w_dconst0 W2 d7_12 ?_
  refine w_dloadN W2 d7_13 rfl ?_
  refine w_aloadN W2 d7_14 rfl rfl ?_
  refine w_getf W2 (host := "") (Or.inl (hw _ (List.mem_of_getElem? (i := 45) rfl))) Via.refl F3 d7_15 ?_
  intro T3 W3
  refine w_dsub W3 d7_18 (own_dfin D2).noNaN rfl ?_
  refine w_max W3 (hw _ (List.mem_of_getElem? (i := 52) rfl)) (hw _ (List.mem_of_getElem? (i := 53) rfl)) (hw _ (List.mem_of_getElem? (i := 29) rfl)) (hw _ (List.mem_of_getElem? (i := 54) rfl)) (own_dfin own_d0).noNaN (own_dfin D2).noNaN (z := (Native.java_lang_Math.nans.pick64 true FP.dconst0 (FP.dsub r d3))) rfl 0 rfl rfl (by decide) (by decide) (by decide) (by decide) d7_19 ?_
  intro T4 W4
  refine w_dstore W4 (L' := #[.val (.ref x), .val (.double t), .second, .val (.double r), .second, .val (.double (Native.java_lang_Math.nans.pick64 true FP.dconst0 (FP.dsub d3 r))), .second, .val (.double (Native.java_lang_Math.nans.pick64 true FP.dconst0 (FP.dsub r d3))), .second]) d7_22 rfl ?_
  refine w_aloadN W4 d7_24 rfl rfl ?_
  refine w_getf W4 (host := "") (Or.inl (hw _ (List.mem_of_getElem? (i := 32) rfl))) Via.refl F0 d7_25 ?_
  intro T5 W5
  refine w_dloadN W5 d7_28 rfl ?_
  refine w_dmul W5 d7_29 (own_dfin P1).noNaN rfl ?_
  refine w_aloadN W5 d7_30 rfl rfl ?_
  refine w_getf W5 (host := "") (Or.inl (hw _ (List.mem_of_getElem? (i := 35) rfl))) Via.refl F1 d7_31 ?_
  intro T6 W6
  refine w_dload W6 d7_34 rfl ?_
  refine w_dmul W6 d7_36 (own_dfin P2).noNaN rfl ?_
  refine w_dadd W6 d7_37 (own_dfin S1).noNaN rfl ?_
  refine w_aloadN W6 d7_38 rfl rfl ?_
  refine w_getf W6 (host := "") (Or.inl (hw _ (List.mem_of_getElem? (i := 38) rfl))) Via.refl F2 d7_39 ?_
  intro T7 W7
  refine w_dload W7 d7_42 rfl ?_
  refine w_dmul W7 d7_44 (own_dfin P3).noNaN rfl ?_
  refine w_dadd W7 d7_45 (own_dfin S2).noNaN rfl ?_
  refine w_ldc2D W7 (hw _ (List.mem_of_getElem? (i := 55) rfl)) d7_46 ?_
  refine w_ddiv W7 d7_49 (own_ndiv (own_dfin S2) own_k3600.1 own_k3600.2) rfl ?_
  exact n_rD W7 rfl d7_50 (by decide) (by decide) ⟨_, rfl, S2, rfl⟩
theorem ef_0_IIIIII (m : MethodId) (x0 : Int32) (x1 : Int32) (x2 : Int32) (x3 : Int32) (x4 : Int32) (x5 : Int32) : entryFrame m #[(.int x0), (.int x1), (.int x2), (.int x3), (.int x4), (.int x5)] maxLocals = mkF m 0 #[.val (.int x0), .val (.int x1), .val (.int x2), .val (.int x3), .val (.int x4), .val (.int x5), .unset, .unset, .unset, .unset, .unset, .unset, .unset, .unset, .unset, .unset] [] := by first | (simp [entryFrame, mkF, argsToLocals, Value.category, maxLocals]; done) | rfl
theorem pd_2 : parseMethodDescriptor "(DDDD)V" = some ⟨[.double, .double, .double, .double], none⟩ := by decide +kernel
theorem pd_3 : parseMethodDescriptor "(DD)D" = some ⟨[.double, .double], some .double⟩ := by decide +kernel
theorem pn_com_example_choke_points_chokepoints_model_SchedulePreferencesCostPinLaw : plainName "com/example/choke_points/chokepoints/model/SchedulePreferencesCostPinLaw" = true := by first | (simp [plainName, overriddenIn]; done) | decide +kernel
set_option maxRecDepth 65536 in
set_option maxHeartbeats 40000000 in
theorem ctLaw (l : Launch) (Z : State) (a0 : Array Value) (hw : ∀ d ∈ tables_1, d.before a0 Z = true) (ra rb rc rd rt rr : Int32) (h0 : Heap) (n0 : Nat) (hn0 : n0 ≤ h0.size) :
    CtW l Z x code maxLocals ret room_1 n0 #[(.int ra), (.int rb), (.int rc), (.int rd), (.int rt), (.int rr)] h0 (fun _ => True) (fun v _ _ => v = some (.int 1)) := by
  refine CtW.of (plainFor_of_name pn_com_example_choke_points_chokepoints_model_SchedulePreferencesCostPinLaw) ?_
  intro p e s m below meth c T0 W0 hnm hs0 hV
  refine Wp.cast (ef_0_IIIIII m ra rb rc rd rt rr) ?_
  have hB := own_bd ra rb rc rd rt rr
  have Ha := Jvm.FP.Core.i2d_int (ra &&& (1048575 : Int32))
  have Hb := Jvm.FP.Core.i2d_int (rb &&& (1048575 : Int32))
  have Hc := Jvm.FP.Core.i2d_int (rc &&& (1048575 : Int32))
  have Hd := Jvm.FP.Core.i2d_int rd
  have Ht := Jvm.FP.Core.i2d_int rt
  have Hr := Jvm.FP.Core.i2d_int rr
  refine w_iloadN W0 at_0 rfl ?_
  refine w_ldcI W0 (hw _ (List.mem_of_getElem? (i := 0) rfl)) at_1 ?_
  refine w_iand W0 at_3 rfl ?_
  refine w_istore W0 (L' := #[.val (.int ra), .val (.int rb), .val (.int rc), .val (.int rd), .val (.int rt), .val (.int rr), .val (.int (ra &&& (1048575 : Int32))), .unset, .unset, .unset, .unset, .unset, .unset, .unset, .unset, .unset]) at_4 rfl ?_
  refine w_iloadN W0 at_6 rfl ?_
  refine w_ldcI W0 (hw _ (List.mem_of_getElem? (i := 0) rfl)) at_7 ?_
  refine w_iand W0 at_9 rfl ?_
  refine w_istore W0 (L' := #[.val (.int ra), .val (.int rb), .val (.int rc), .val (.int rd), .val (.int rt), .val (.int rr), .val (.int (ra &&& (1048575 : Int32))), .val (.int (rb &&& (1048575 : Int32))), .unset, .unset, .unset, .unset, .unset, .unset, .unset, .unset]) at_10 rfl ?_
  refine w_iloadN W0 at_12 rfl ?_
  refine w_ldcI W0 (hw _ (List.mem_of_getElem? (i := 0) rfl)) at_13 ?_
  refine w_iand W0 at_15 rfl ?_
  refine w_istore W0 (L' := #[.val (.int ra), .val (.int rb), .val (.int rc), .val (.int rd), .val (.int rt), .val (.int rr), .val (.int (ra &&& (1048575 : Int32))), .val (.int (rb &&& (1048575 : Int32))), .val (.int (rc &&& (1048575 : Int32))), .unset, .unset, .unset, .unset, .unset, .unset, .unset]) at_16 rfl ?_
  refine w_new W0 (hw _ (List.mem_of_getElem? (i := 1) rfl)) (hw _ (List.mem_of_getElem? (i := 2) rfl)) (hw _ (List.mem_of_getElem? (i := 3) rfl)) at_18 (by decide) (by decide) ?_
  intro T1 h1 o W1 E1 g1 A1 D1
  have F0 := (D1 (Or.inr (hw _ (List.mem_of_getElem? (i := 33) rfl))) (ty := .double) (by decide) : Fld Z h1 _ "com/example/choke_points/chokepoints/model/SchedulePreferences" "alpha" "D" (.double 0))
  have F1 := (D1 (Or.inr (hw _ (List.mem_of_getElem? (i := 36) rfl))) (ty := .double) (by decide) : Fld Z h1 _ "com/example/choke_points/chokepoints/model/SchedulePreferences" "beta" "D" (.double 0))
  have F2 := (D1 (Or.inr (hw _ (List.mem_of_getElem? (i := 39) rfl))) (ty := .double) (by decide) : Fld Z h1 _ "com/example/choke_points/chokepoints/model/SchedulePreferences" "gamma" "D" (.double 0))
  have F3 := (D1 (Or.inr (hw _ (List.mem_of_getElem? (i := 46) rfl))) (ty := .double) (by decide) : Fld Z h1 _ "com/example/choke_points/chokepoints/model/SchedulePreferences" "desiredArrival" "D" (.double 0))
  have ho : n0 ≤ o := by rw [g1]; exact hn0
  refine w_dup W1 at_21 rfl ?_
  refine w_iload W1 at_22 rfl ?_
  refine w_i2d W1 at_24 rfl ?_
  refine w_iload W1 at_25 rfl ?_
  refine w_i2d W1 at_27 rfl ?_
  refine w_iload W1 at_28 rfl ?_
  refine w_i2d W1 at_30 rfl ?_
  refine w_iloadN W1 at_31 rfl ?_
  refine w_i2d W1 at_32 rfl ?_
  refine w_specialW W1 (ctIn l Z a0 hw o (FP.i2d (ra &&& (1048575 : Int32))) (FP.i2d (rb &&& (1048575 : Int32))) (FP.i2d (rc &&& (1048575 : Int32))) (FP.i2d rd) _ n0 (own_dnn Ha (own_m20 ra).1) (own_dnn Hb (own_m20 rb).1) (own_dnn Hc (own_m20 rc).1) (own_dfin Hd) A1 F0 F1 F2 F3 ho) (fun _ _ => trivial) rfl (hw _ (List.mem_of_getElem? (i := 4) rfl)) (hw _ (List.mem_of_getElem? (i := 5) rfl)) (hw _ (List.mem_of_getElem? (i := 3) rfl)) (hw _ (List.mem_of_getElem? (i := 6) rfl)) (by decide) 1 (by decide) (by decide) (by decide) (by decide) (a := o) (argsL := [(.double (FP.i2d (ra &&& (1048575 : Int32)))), (.double (FP.i2d (rb &&& (1048575 : Int32)))), (.double (FP.i2d (rc &&& (1048575 : Int32)))), (.double (FP.i2d rd))]) (rest := [(.ref o)]) pd_2 rfl rfl rfl rfl rfl at_33 ?_
  rintro T2 h2 l2 vm2 _ W2 hw2 ⟨rfl, Kk, Eo, G0, G1, G2, G3⟩
  refine w_astore W2 (L' := #[.val (.int ra), .val (.int rb), .val (.int rc), .val (.int rd), .val (.int rt), .val (.int rr), .val (.int (ra &&& (1048575 : Int32))), .val (.int (rb &&& (1048575 : Int32))), .val (.int (rc &&& (1048575 : Int32))), .val (.ref o), .unset, .unset, .unset, .unset, .unset, .unset]) at_36 rfl rfl ?_
  refine w_aload W2 at_38 rfl rfl ?_
  refine w_iload W2 at_40 rfl ?_
  refine w_i2d W2 at_42 rfl ?_
  refine w_iload W2 at_43 rfl ?_
  refine w_i2d W2 at_45 rfl ?_
  refine w_virt W2 (ctCo l Z a0 hw o _ _ _ _ (FP.i2d rt) (FP.i2d rr) _ _ _ _ _ _ _ n0 G0 G1 G2 G3 Ha Hb Hc Hd Ht Hr hB) (hw _ (List.mem_of_getElem? (i := 47) rfl)) (hw _ (List.mem_of_getElem? (i := 48) rfl)) (notFace_of_selects (args := #[]) (mvT W2.wZ (hw _ (List.mem_of_getElem? (i := 50) rfl)))) (hw _ (List.mem_of_getElem? (i := 50) rfl)) (hw _ (List.mem_of_getElem? (i := 49) rfl)) (hw _ (List.mem_of_getElem? (i := 3) rfl)) (hw _ (List.mem_of_getElem? (i := 51) rfl)) (by decide) 0 (by decide) (by decide) (by decide) (by decide) (a := o) Eo (argsL := [(.double (FP.i2d rt)), (.double (FP.i2d rr))]) (rest := []) pd_3 rfl rfl rfl rfl rfl at_46 ?_
  rintro T3 h3 l3 _ W3 ⟨q, rfl, Hq, rfl⟩
  refine w_dstore W3 (L' := #[.val (.int ra), .val (.int rb), .val (.int rc), .val (.int rd), .val (.int rt), .val (.int rr), .val (.int (ra &&& (1048575 : Int32))), .val (.int (rb &&& (1048575 : Int32))), .val (.int (rc &&& (1048575 : Int32))), .val (.ref o), .val (.double (FP.ddiv q 4660134898793709568)), .second, .unset, .unset, .unset, .unset]) at_49 rfl ?_
  refine w_iload W3 at_51 rfl ?_
  refine w_i2l W3 at_53 rfl ?_
  refine w_iload W3 at_54 rfl ?_
  refine w_i2l W3 at_56 rfl ?_
  refine w_lmul W3 at_57 rfl ?_
  refine w_lstore W3 (L' := #[.val (.int ra), .val (.int rb), .val (.int rc), .val (.int rd), .val (.int rt), .val (.int rr), .val (.int (ra &&& (1048575 : Int32))), .val (.int (rb &&& (1048575 : Int32))), .val (.int (rc &&& (1048575 : Int32))), .val (.ref o), .val (.double (FP.ddiv q 4660134898793709568)), .second, .val (.long (((ra &&& (1048575 : Int32)).toInt64) * (rt.toInt64))), .second, .unset, .unset]) at_58 rfl ?_
  refine w_iloadN W3 at_60 rfl ?_
  refine w_i2l W3 at_61 rfl ?_
  refine w_iload W3 at_62 rfl ?_
  refine w_i2l W3 at_64 rfl ?_
  refine w_lcmp W3 at_65 rfl ?_
  refine w_ifle W3 (pc' := 87) at_66 (by decide) (fun c66 => ?_) (fun c66 => ?_)
  · have DS := own_sB hB c66
    refine w_lload W3 at_87 rfl ?_
    refine w_iload W3 at_89 rfl ?_
    refine w_i2l W3 at_91 rfl ?_
    refine w_iload W3 at_92 rfl ?_
    refine w_i2l W3 at_94 rfl ?_
    refine w_iloadN W3 at_95 rfl ?_
    refine w_i2l W3 at_96 rfl ?_
    refine w_lsub W3 at_97 rfl ?_
    refine w_lmul W3 at_98 rfl ?_
    refine w_ladd W3 at_99 rfl ?_
    refine w_lstore W3 (L' := #[.val (.int ra), .val (.int rb), .val (.int rc), .val (.int rd), .val (.int rt), .val (.int rr), .val (.int (ra &&& (1048575 : Int32))), .val (.int (rb &&& (1048575 : Int32))), .val (.int (rc &&& (1048575 : Int32))), .val (.ref o), .val (.double (FP.ddiv q 4660134898793709568)), .second, .val (.long ((((ra &&& (1048575 : Int32)).toInt64) * (rt.toInt64)) + (((rc &&& (1048575 : Int32)).toInt64) * ((rr.toInt64) - (rd.toInt64))))), .second, .unset, .unset]) at_100 rfl ?_
    refine w_lload W3 at_102 rfl ?_
    refine w_l2d W3 at_104 rfl ?_
    refine w_ldc2D W3 (hw _ (List.mem_of_getElem? (i := 56) rfl)) at_105 ?_
    refine w_ddiv W3 at_108 (own_ndiv (own_dfin DS) own_k3600.1 own_k3600.2) rfl ?_
    refine w_dstore W3 (L' := #[.val (.int ra), .val (.int rb), .val (.int rc), .val (.int rd), .val (.int rt), .val (.int rr), .val (.int (ra &&& (1048575 : Int32))), .val (.int (rb &&& (1048575 : Int32))), .val (.int (rc &&& (1048575 : Int32))), .val (.ref o), .val (.double (FP.ddiv q 4660134898793709568)), .second, .val (.long ((((ra &&& (1048575 : Int32)).toInt64) * (rt.toInt64)) + (((rc &&& (1048575 : Int32)).toInt64) * ((rr.toInt64) - (rd.toInt64))))), .second, .val (.double (FP.ddiv (FP.l2d ((((ra &&& (1048575 : Int32)).toInt64) * (rt.toInt64)) + (((rc &&& (1048575 : Int32)).toInt64) * ((rr.toInt64) - (rd.toInt64))))) (4660134898793709568 : UInt64))), .second]) at_109 rfl ?_
    refine w_dload W3 at_111 rfl ?_
    refine w_dload W3 at_113 rfl ?_
    refine w_dcmp W3 at_115 (z := (0 : Int32)) (own_q3600 Hq DS) ?_
    refine w_ifne W3 (pc' := 123) at_116 (by decide) (fun c116 => absurd c116 (by decide)) (fun c116 => ?_)
    refine w_iconst W3 (z := (1 : Int32)) at_119 (by rfl) ?_
    refine w_goto W3 (pc' := 124) at_120 (by decide) ?_
    exact x_rN W3 rfl (by simp) (z' := (1 : Int32)) (by rfl) at_124 (by decide) (by decide) (fun vm' hvm' => rfl)
  · have DS := own_sA hB c66
    refine w_lload W3 at_69 rfl ?_
    refine w_iload W3 at_71 rfl ?_
    refine w_i2l W3 at_73 rfl ?_
    refine w_iloadN W3 at_74 rfl ?_
    refine w_i2l W3 at_75 rfl ?_
    refine w_iload W3 at_76 rfl ?_
    refine w_i2l W3 at_78 rfl ?_
    refine w_lsub W3 at_79 rfl ?_
    refine w_lmul W3 at_80 rfl ?_
    refine w_ladd W3 at_81 rfl ?_
    refine w_lstore W3 (L' := #[.val (.int ra), .val (.int rb), .val (.int rc), .val (.int rd), .val (.int rt), .val (.int rr), .val (.int (ra &&& (1048575 : Int32))), .val (.int (rb &&& (1048575 : Int32))), .val (.int (rc &&& (1048575 : Int32))), .val (.ref o), .val (.double (FP.ddiv q 4660134898793709568)), .second, .val (.long ((((ra &&& (1048575 : Int32)).toInt64) * (rt.toInt64)) + (((rb &&& (1048575 : Int32)).toInt64) * ((rd.toInt64) - (rr.toInt64))))), .second, .unset, .unset]) at_82 rfl ?_
    refine w_goto W3 (pc' := 102) at_84 (by decide) ?_
    refine w_lload W3 at_102 rfl ?_
    refine w_l2d W3 at_104 rfl ?_
    refine w_ldc2D W3 (hw _ (List.mem_of_getElem? (i := 56) rfl)) at_105 ?_
    refine w_ddiv W3 at_108 (own_ndiv (own_dfin DS) own_k3600.1 own_k3600.2) rfl ?_
    refine w_dstore W3 (L' := #[.val (.int ra), .val (.int rb), .val (.int rc), .val (.int rd), .val (.int rt), .val (.int rr), .val (.int (ra &&& (1048575 : Int32))), .val (.int (rb &&& (1048575 : Int32))), .val (.int (rc &&& (1048575 : Int32))), .val (.ref o), .val (.double (FP.ddiv q 4660134898793709568)), .second, .val (.long ((((ra &&& (1048575 : Int32)).toInt64) * (rt.toInt64)) + (((rb &&& (1048575 : Int32)).toInt64) * ((rd.toInt64) - (rr.toInt64))))), .second, .val (.double (FP.ddiv (FP.l2d ((((ra &&& (1048575 : Int32)).toInt64) * (rt.toInt64)) + (((rb &&& (1048575 : Int32)).toInt64) * ((rd.toInt64) - (rr.toInt64))))) (4660134898793709568 : UInt64))), .second]) at_109 rfl ?_
    refine w_dload W3 at_111 rfl ?_
    refine w_dload W3 at_113 rfl ?_
    refine w_dcmp W3 at_115 (z := (0 : Int32)) (own_q3600 Hq DS) ?_
    refine w_ifne W3 (pc' := 123) at_116 (by decide) (fun c116 => absurd c116 (by decide)) (fun c116 => ?_)
    refine w_iconst W3 (z := (1 : Int32)) at_119 (by rfl) ?_
    refine w_goto W3 (pc' := 124) at_120 (by decide) ?_
    exact x_rN W3 rfl (by simp) (z' := (1 : Int32)) (by rfl) at_124 (by decide) (by decide) (fun vm' hvm' => rfl)
set_option maxRecDepth 65536 in
set_option maxHeartbeats 40000000 in
theorem comes_1 {Post : Tables → Env → Array Value → State → Outcome → State → Prop} (hpost : ∀ tb e args s v u, (limb_1_1.after args s (.returned v) u = true ∧ limb_1_2.after args s (.returned v) u = true ∧ True) → ReturnedEndW s (.returned v) u (Jvm.fieldLocs frame_1_writes args s ++ Jvm.arrayLocs frame_1_arrays args s ++ Jvm.staticLocs frame_1_statics s) 24 6272 → Post tb e args s (.returned v) u) :
    ArmFor flags0 classFile x code maxLocals ret World_1 tables_1 room_1 Calls_1 rest_1 Pre_1 Post := by
  intro l hfl _ _ p e ha hc hk s m args below hf hA hF happ hP
  obtain ⟨hcalls, hrest, hpre⟩ := hP
  obtain ⟨-, -, -, hnamed, -, -, -, hat⟩ := (Spec.applies_iff hf).mp happ
  obtain ⟨hg, hn⟩ := and_e (Cond.before_iff.mp (show (Jvm.Cond.and given_1 narrow_1).before args s = true from hpre))
  obtain ⟨g0, r0⟩ := and_e hg
  obtain ⟨g1, r1⟩ := and_e r0
  obtain ⟨g2, r2⟩ := and_e r1
  obtain ⟨g3, r3⟩ := and_e r2
  obtain ⟨g4, r4⟩ := and_e r3
  obtain ⟨g5, r5⟩ := and_e r4
  obtain ⟨w0, w1, w2, w3, w4, w5, rfl⟩ : ∃ w0 w1 w2 w3 w4 w5 : Value, args = #[w0, w1, w2, w3, w4, w5] := by
    have hs : args.size = 6 := by simpa [Cond.value, given_1] using g0
    obtain ⟨L⟩ := args
    match L, hs with
    | [w0, w1, w2, w3, w4, w5], _ => exact ⟨w0, w1, w2, w3, w4, w5, rfl⟩
  have hw := fun d (hd : d ∈ tables_1) => atoms_spec (ws := Jvm.Cond.code x code maxLocals ret :: tables_1) hat d (List.mem_cons_of_mem _ hd)
  obtain ⟨i0, ei0⟩ := is_v g1
  obtain rfl : w0 = (.int i0) := Option.some.inj ei0
  obtain ⟨i1, ei1⟩ := is_v g2
  obtain rfl : w1 = (.int i1) := Option.some.inj ei1
  obtain ⟨i2, ei2⟩ := is_v g3
  obtain rfl : w2 = (.int i2) := Option.some.inj ei2
  obtain ⟨i3, ei3⟩ := is_v g4
  obtain rfl : w3 = (.int i3) := Option.some.inj ei3
  obtain ⟨i4, ei4⟩ := is_v g5
  obtain rfl : w4 = (.int i4) := Option.some.inj ei4
  obtain ⟨i5, ei5⟩ := is_v r5
  obtain rfl : w5 = (.int i5) := Option.some.inj ei5
  obtain ⟨n, o, h1, h2, h3, _, L, rfl, ⟨rfl, N⟩, hq⟩ := ctLaw l s _ hw i0 i1 i2 i3 i4 i5 s.heap s.heap.size (Nat.le_refl _) tables_1 p e ha hc hk s m _ below hf ((Spec.applies_iff_loose hf).mp happ).1 ⟨rfl, State.Warmed39.refl s, rfl, trivial⟩ trivial
  refine ⟨n, _, h1, h2, h3, hpost _ _ _ _ _ _ ⟨Cond.after_iff.mpr rfl, Cond.after_iff.mpr (eq_i res_at (Term.int_eval (1)) rfl), trivial⟩ ⟨hq.1, hq.2.1, hq.2.2.1, (hq.2.2.2.sift fun y hy => Or.inr (N y hy)).mono (by decide) (by decide)⟩⟩
theorem main_1_1 : Claimed_1_1 := comes_1 fun _ _ _ _ _ _ h hF => ⟨h.1, hF⟩
theorem main_1_2 : Claimed_1_2 := comes_1 fun _ _ _ _ _ _ h hF => ⟨h.2.1, hF⟩
end Jvm.Pilot.@@N@@
namespace Jvm.Pilot.@@N@@
open Jvm Jvm.ClassFile Sem Op Lib Jvm.Free Jvm.Stand Jvm.Pilot.@@N@@.Jvm.D
/-! MADE BY PROGRAM (witnessworld.py) out of the Statement's table words and the real class files: 18 classes; the members and pool entries that the words name. The judged class is class 1, her method 1. -/
namespace start1
open Jvm.ClassFile
def u (s : String) : CpInfo := .utf8 (stringToUtf16 s)
/-- a pool by its gaps: so many unusable entries, then the entry; so many at the end -/
def gap : Nat → List CpInfo → List CpInfo
  | 0, r => r
  | n + 1, r => .unusable :: gap n r
def poolList (es : List (Nat × CpInfo)) (last : Nat) : List CpInfo := es.foldr (fun e r => gap e.1 (e.2 :: r)) (gap last [])
def pool (es : List (Nat × CpInfo)) (last : Nat) : Array CpInfo := ⟨poolList es last⟩
def fileOf (pool : Array CpInfo) (this : Nat) (attrs : Array Attribute := #[]) (ms : Array MethodInfo := #[]) (fl : Nat := 33) (sup : Nat := 0) (ifs : Array Nat := #[]) (fds : Array FieldInfo := #[]) : ClassFile where
  minorVersion := 0
  majorVersion := 65
  constantPool := pool
  accessFlags := fl
  thisClass := this
  superClass := sup
  interfaces := ifs
  fields := fds
  methods := ms
  attributes := attrs
def plain (name : String) (sup : Option ClassId) : Class where
  name := name
  kind := .ordinary
  loader := none
  accessFlags := 33
  super := sup
  interfaces := #[]
  cf := none
  fields := #[]
  methods := #[]
  instanceTypes := #[]
  staticTypes := #[]
  resolved := #[]
  callSites := []
  init := .initialized
  statics := none
  mirror := none

def pool0 : Array CpInfo := pool [(5, u "<init>"), (0, u "()V"), (1, .class_ 10), (1, u "java/lang/Object")] 113

def k0c0 : Code := { maxStack := 0, maxLocals := 1, code := object_method_1_code, exceptionTable := #[], attributes := #[] }
def k0m0 : Method := { name := "<init>", desc := "()V", sig := { parameters := [], returnType := none }, accessFlags := 1, code := some k0c0 }
/-- java/lang/Object -/
def k0 : Class := { plain "java/lang/Object" none with
  accessFlags := 33
  interfaces := #[]
  cf := some (fileOf pool0 8 #[] #[{ accessFlags := 1, nameIndex := 5, descriptorIndex := 6, attributes := #[] }] 33 0 #[] #[])
  fields := #[]
  methods := #[k0m0]
  instanceTypes := #[]
  staticTypes := #[]
  resolved := Array.replicate 124 none
  statics := none }

def pool1 : Array CpInfo := pool [(2, .class_ 4), (1, u "java/lang/Object"), (0, u "<init>"), (0, u "()V"), (0, .integer 1048575), (0, .class_ 9), (0, u "com/example/choke_points/chokepoints/model/SchedulePreferences"), (0, .methodref 8 11), (0, .nameAndType 5 12), (0, u "(DDDD)V"), (0, .methodref 8 14), (0, .nameAndType 15 16), (0, u "cost"), (0, u "(DD)D"), (0, .double 4660134898793709568), (1, .class_ 20), (0, u "com/example/choke_points/chokepoints/model/SchedulePreferencesCostPinLaw"), (2, u "law"), (0, u "(IIIIII)Z")] 3

def k1m0 : Method := { name := "<init>", desc := "()V", sig := { parameters := [], returnType := none }, accessFlags := 2, code := none }
def k1c1 : Code := { maxStack := 10, maxLocals := 16, code := code, exceptionTable := #[], attributes := #[] }
def k1m1 : Method := { name := "law", desc := "(IIIIII)Z", sig := { parameters := [.int, .int, .int, .int, .int, .int], returnType := some .boolean }, accessFlags := 9, code := some k1c1 }
/-- com/example/choke_points/chokepoints/model/SchedulePreferencesCostPinLaw -/
def k1 : Class := { plain "com/example/choke_points/chokepoints/model/SchedulePreferencesCostPinLaw" (some 0) with
  accessFlags := 49
  interfaces := #[]
  cf := some (fileOf pool1 19 #[] #[{ accessFlags := 2, nameIndex := 5, descriptorIndex := 6, attributes := #[] }, { accessFlags := 9, nameIndex := 23, descriptorIndex := 24, attributes := #[] }] 49 2 #[] #[])
  fields := #[]
  methods := #[k1m0, k1m1]
  instanceTypes := #[]
  staticTypes := #[]
  resolved := Array.replicate 28 none
  statics := none }

def pool2 : Array CpInfo := pool [(1, .methodref 2 3), (0, .class_ 4), (0, .nameAndType 5 6), (0, u "java/lang/Object"), (0, u "<init>"), (0, u "()V"), (0, .string 8), (0, u "alpha"), (0, .class_ 10), (0, u "com/example/choke_points/chokepoints/model/SchedulePreferences"), (0, .string 12), (0, u "money per hour"), (0, .methodref 14 15), (0, .class_ 16), (0, .nameAndType 17 18), (0, u "com/example/choke_points/chokepoints/model/Checks"), (0, u "nonNegative"), (0, u "(Ljava/lang/String;DLjava/lang/String;)D"), (0, .fieldref 9 20), (0, .nameAndType 8 21), (0, u "D"), (0, .string 23), (0, u "beta"), (0, .fieldref 9 25), (0, .nameAndType 23 21), (0, .string 27), (0, u "gamma"), (0, .fieldref 9 29), (0, .nameAndType 27 21), (0, .string 31), (0, u "t_star"), (0, .string 33), (0, u "seconds since midnight"), (0, .methodref 14 35), (0, .nameAndType 36 18), (0, u "finite"), (0, .fieldref 9 38), (0, .nameAndType 39 21), (0, u "desiredArrival"), (0, .methodref 41 42), (0, .class_ 43), (0, .nameAndType 44 45), (0, u "java/lang/Math"), (0, u "max"), (0, u "(DD)D"), (0, .double 4660134898793709568), (1, u "SECONDS_PER_HOUR"), (1, u "MONEY_PER_HOUR"), (0, u "Ljava/lang/String;"), (0, u "(DDDD)V"), (3, u "cost")] 2

def k2c0 : Code := { maxStack := 5, maxLocals := 9, code := prog_20_method_1_code, exceptionTable := #[], attributes := #[] }
def k2m0 : Method := { name := "<init>", desc := "(DDDD)V", sig := { parameters := [.double, .double, .double, .double], returnType := none }, accessFlags := 1, code := some k2c0 }
def k2c1 : Code := { maxStack := 6, maxLocals := 9, code := prog_20_method_3_code, exceptionTable := #[], attributes := #[] }
def k2m1 : Method := { name := "cost", desc := "(DD)D", sig := { parameters := [.double, .double], returnType := some .double }, accessFlags := 1, code := some k2c1 }
/-- com/example/choke_points/chokepoints/model/SchedulePreferences -/
def k2 : Class := { plain "com/example/choke_points/chokepoints/model/SchedulePreferences" (some 0) with
  accessFlags := 33
  interfaces := #[]
  cf := some (fileOf pool2 9 #[] #[{ accessFlags := 1, nameIndex := 5, descriptorIndex := 52, attributes := #[] }, { accessFlags := 1, nameIndex := 56, descriptorIndex := 45, attributes := #[] }] 33 2 #[] #[{ accessFlags := 26, nameIndex := 48, descriptorIndex := 21, attributes := #[] }, { accessFlags := 26, nameIndex := 50, descriptorIndex := 51, attributes := #[] }, { accessFlags := 18, nameIndex := 8, descriptorIndex := 21, attributes := #[] }, { accessFlags := 18, nameIndex := 23, descriptorIndex := 21, attributes := #[] }, { accessFlags := 18, nameIndex := 27, descriptorIndex := 21, attributes := #[] }, { accessFlags := 18, nameIndex := 39, descriptorIndex := 21, attributes := #[] }])
  fields := #[{ name := "SECONDS_PER_HOUR", type := .double, accessFlags := 26, slot := 0, constantValue := 0 }, { name := "MONEY_PER_HOUR", type := (.object "java/lang/String"), accessFlags := 26, slot := 1, constantValue := 0 }, { name := "alpha", type := .double, accessFlags := 18, slot := 0, constantValue := 0 }, { name := "beta", type := .double, accessFlags := 18, slot := 1, constantValue := 0 }, { name := "gamma", type := .double, accessFlags := 18, slot := 2, constantValue := 0 }, { name := "desiredArrival", type := .double, accessFlags := 18, slot := 3, constantValue := 0 }]
  methods := #[k2m0, k2m1]
  instanceTypes := #[.double, .double, .double, .double]
  staticTypes := #[.double, (.object "java/lang/String")]
  resolved := Array.replicate 59 none
  statics := none }

def pool3 : Array CpInfo := pool [(1, .class_ 2), (0, u "java/io/Serializable"), (0, .class_ 4), (0, u "java/lang/Object")] 2

/-- java/io/Serializable -/
def k3 : Class := { plain "java/io/Serializable" (some 0) with
  accessFlags := 1537
  interfaces := #[]
  cf := some (fileOf pool3 1 #[] #[] 1537 3 #[] #[])
  fields := #[]
  methods := #[]
  instanceTypes := #[]
  staticTypes := #[]
  resolved := Array.replicate 7 none
  statics := none }

def pool4 : Array CpInfo := pool [(1, .class_ 2), (0, u "java/lang/Comparable"), (0, .class_ 4), (0, u "java/lang/Object")] 7

/-- java/lang/Comparable -/
def k4 : Class := { plain "java/lang/Comparable" (some 0) with
  accessFlags := 1537
  interfaces := #[]
  cf := some (fileOf pool4 1 #[] #[] 1537 3 #[] #[])
  fields := #[]
  methods := #[]
  instanceTypes := #[]
  staticTypes := #[]
  resolved := Array.replicate 12 none
  statics := none }

def pool5 : Array CpInfo := pool [(2, .class_ 4), (1, u "java/lang/CharSequence"), (42, .class_ 48), (0, u "java/lang/CharSequence$1CodePointIterator"), (10, .class_ 60), (0, u "java/lang/CharSequence$1CharIterator"), (5, .class_ 67), (0, u "java/lang/Object")] 63

/-- java/lang/CharSequence -/
def k5 : Class := { plain "java/lang/CharSequence" (some 0) with
  accessFlags := 1537
  interfaces := #[]
  cf := some (fileOf pool5 2 #[.nestMembers #[47, 59]] #[] 1537 66 #[] #[])
  fields := #[]
  methods := #[]
  instanceTypes := #[]
  staticTypes := #[]
  resolved := Array.replicate 131 none
  statics := none }

def pool6 : Array CpInfo := pool [(1, .class_ 2), (0, u "java/lang/constant/Constable"), (0, .class_ 4), (0, u "java/lang/Object")] 6

/-- java/lang/constant/Constable -/
def k6 : Class := { plain "java/lang/constant/Constable" (some 0) with
  accessFlags := 1537
  interfaces := #[]
  cf := some (fileOf pool6 1 #[] #[] 1537 3 #[] #[])
  fields := #[]
  methods := #[]
  instanceTypes := #[]
  staticTypes := #[]
  resolved := Array.replicate 11 none
  statics := none }

def pool7 : Array CpInfo := pool [(1, .class_ 2), (0, u "java/lang/constant/ConstantDesc"), (0, .class_ 4), (0, u "java/lang/Object")] 32

/-- java/lang/constant/ConstantDesc -/
def k7 : Class := { plain "java/lang/constant/ConstantDesc" (some 0) with
  accessFlags := 1537
  interfaces := #[]
  cf := some (fileOf pool7 1 #[] #[] 1537 3 #[] #[])
  fields := #[]
  methods := #[]
  instanceTypes := #[]
  staticTypes := #[]
  resolved := Array.replicate 37 none
  statics := none }

def pool8 : Array CpInfo := pool [(2, .class_ 4), (1, u "java/lang/Object"), (0, u "<init>"), (0, u "()V"), (3, .class_ 12), (1, u "java/lang/String"), (0, u "value"), (0, u "[B"), (2, u "coder"), (0, u "B"), (2, u "hash"), (0, u "I"), (2, u "hashIsZero"), (0, u "Z"), (13, u "COMPACT_STRINGS"), (534, .class_ 576), (0, u "java/lang/CharSequence"), (22, u "CASE_INSENSITIVE_ORDER"), (0, u "Ljava/util/Comparator;"), (500, u "serialPersistentFields"), (0, u "[Ljava/io/ObjectStreamField;"), (0, .class_ 1104), (0, u "java/lang/String$CaseInsensitiveComparator"), (1, .class_ 1107), (0, u "java/io/Serializable"), (0, .class_ 1109), (0, u "java/lang/Comparable"), (0, .class_ 1111), (0, u "java/lang/constant/Constable"), (0, .class_ 1113), (0, u "java/lang/constant/ConstantDesc"), (2, u "serialVersionUID"), (0, u "J"), (3, u "REPL"), (0, u "C"), (2, u "LATIN1"), (1, u "UTF16")] 323

def k8m0 : Method := { name := "<init>", desc := "()V", sig := { parameters := [], returnType := none }, accessFlags := 1, code := none }
/-- java/lang/String -/
def k8 : Class := { plain "java/lang/String" (some 0) with
  accessFlags := 49
  interfaces := #[3, 4, 5, 6, 7]
  cf := some (fileOf pool8 10 #[.nestMembers #[1103]] #[{ accessFlags := 1, nameIndex := 5, descriptorIndex := 6, attributes := #[] }] 49 2 #[1106, 1108, 575, 1110, 1112] #[{ accessFlags := 18, nameIndex := 13, descriptorIndex := 14, attributes := #[] }, { accessFlags := 18, nameIndex := 17, descriptorIndex := 18, attributes := #[] }, { accessFlags := 2, nameIndex := 21, descriptorIndex := 22, attributes := #[] }, { accessFlags := 2, nameIndex := 25, descriptorIndex := 26, attributes := #[] }, { accessFlags := 26, nameIndex := 1116, descriptorIndex := 1117, attributes := #[] }, { accessFlags := 24, nameIndex := 40, descriptorIndex := 26, attributes := #[] }, { accessFlags := 26, nameIndex := 1101, descriptorIndex := 1102, attributes := #[] }, { accessFlags := 26, nameIndex := 1121, descriptorIndex := 1122, attributes := #[] }, { accessFlags := 25, nameIndex := 599, descriptorIndex := 600, attributes := #[] }, { accessFlags := 24, nameIndex := 1125, descriptorIndex := 18, attributes := #[] }, { accessFlags := 24, nameIndex := 1127, descriptorIndex := 18, attributes := #[] }])
  fields := #[{ name := "value", type := (.array .byte), accessFlags := 18, slot := 0, constantValue := 0 }, { name := "coder", type := .byte, accessFlags := 18, slot := 1, constantValue := 0 }, { name := "hash", type := .int, accessFlags := 2, slot := 2, constantValue := 0 }, { name := "hashIsZero", type := .boolean, accessFlags := 2, slot := 3, constantValue := 0 }, { name := "serialVersionUID", type := .long, accessFlags := 26, slot := 0, constantValue := 0 }, { name := "COMPACT_STRINGS", type := .boolean, accessFlags := 24, slot := 1, constantValue := 0 }, { name := "serialPersistentFields", type := (.array (.object "java/io/ObjectStreamField")), accessFlags := 26, slot := 2, constantValue := 0 }, { name := "REPL", type := .char, accessFlags := 26, slot := 3, constantValue := 0 }, { name := "CASE_INSENSITIVE_ORDER", type := (.object "java/util/Comparator"), accessFlags := 25, slot := 4, constantValue := 0 }, { name := "LATIN1", type := .byte, accessFlags := 24, slot := 5, constantValue := 0 }, { name := "UTF16", type := .byte, accessFlags := 24, slot := 6, constantValue := 0 }]
  methods := #[k8m0]
  instanceTypes := #[(.array .byte), .byte, .int, .boolean]
  staticTypes := #[.long, .boolean, (.array (.object "java/io/ObjectStreamField")), .char, (.object "java/util/Comparator"), .byte, .byte]
  resolved := Array.replicate 1451 none
  statics := none }

def pool9 : Array CpInfo := pool [(2, .class_ 4), (1, u "java/lang/Object"), (0, u "<init>"), (0, u "()V"), (19, .methodref 27 28), (0, .class_ 29), (0, .nameAndType 30 31), (0, u "java/lang/Double"), (0, u "isFinite"), (0, u "(D)Z"), (56, .class_ 89), (0, u "com/example/choke_points/chokepoints/model/Checks"), (6, u "(Ljava/lang/String;DLjava/lang/String;)D"), (2, u "finite"), (0, u "nonNegative")] 41

def k9m0 : Method := { name := "<init>", desc := "()V", sig := { parameters := [], returnType := none }, accessFlags := 2, code := none }
def k9c1 : Code := { maxStack := 6, maxLocals := 4, code := prog_10_method_5_code, exceptionTable := #[], attributes := #[] }
def k9m1 : Method := { name := "finite", desc := "(Ljava/lang/String;DLjava/lang/String;)D", sig := { parameters := [(.object "java/lang/String"), .double, (.object "java/lang/String")], returnType := some .double }, accessFlags := 8, code := some k9c1 }
def k9c2 : Code := { maxStack := 6, maxLocals := 4, code := prog_10_method_6_code, exceptionTable := #[], attributes := #[] }
def k9m2 : Method := { name := "nonNegative", desc := "(Ljava/lang/String;DLjava/lang/String;)D", sig := { parameters := [(.object "java/lang/String"), .double, (.object "java/lang/String")], returnType := some .double }, accessFlags := 8, code := some k9c2 }
/-- com/example/choke_points/chokepoints/model/Checks -/
def k9 : Class := { plain "com/example/choke_points/chokepoints/model/Checks" (some 0) with
  accessFlags := 33
  interfaces := #[]
  cf := some (fileOf pool9 88 #[] #[{ accessFlags := 2, nameIndex := 5, descriptorIndex := 6, attributes := #[] }, { accessFlags := 8, nameIndex := 99, descriptorIndex := 96, attributes := #[] }, { accessFlags := 8, nameIndex := 100, descriptorIndex := 96, attributes := #[] }] 33 2 #[] #[])
  fields := #[]
  methods := #[k9m0, k9m1, k9m2]
  instanceTypes := #[]
  staticTypes := #[]
  resolved := Array.replicate 142 none
  statics := none }

def pool10 : Array CpInfo := pool [(2, .class_ 4), (1, u "java/lang/Object"), (0, u "<init>"), (0, u "()V"), (1, .class_ 10), (1, u "java/lang/Number"), (2, .class_ 14), (0, u "java/io/Serializable"), (0, u "serialVersionUID"), (0, u "J")] 20

def k10m0 : Method := { name := "<init>", desc := "()V", sig := { parameters := [], returnType := none }, accessFlags := 1, code := none }
/-- java/lang/Number -/
def k10 : Class := { plain "java/lang/Number" (some 0) with
  accessFlags := 1057
  interfaces := #[3]
  cf := some (fileOf pool10 8 #[] #[{ accessFlags := 1, nameIndex := 5, descriptorIndex := 6, attributes := #[] }] 1057 2 #[13] #[{ accessFlags := 26, nameIndex := 15, descriptorIndex := 16, attributes := #[] }])
  fields := #[{ name := "serialVersionUID", type := .long, accessFlags := 26, slot := 0, constantValue := 0 }]
  methods := #[k10m0]
  instanceTypes := #[]
  staticTypes := #[.long]
  resolved := Array.replicate 37 none
  statics := none }

def pool11 : Array CpInfo := pool [(1, .class_ 2), (0, u "java/lang/Double"), (10, u "isFinite"), (0, u "(D)Z"), (8, .class_ 25), (1, u "java/lang/Math"), (12, .methodref 23 39), (0, .nameAndType 40 41), (0, u "abs"), (0, u "(D)D"), (69, .double 9218868437227405311), (2, .class_ 116), (1, u "java/lang/Number"), (3, u "value"), (0, u "D"), (51, u "TYPE"), (0, u "Ljava/lang/Class;"), (0, .class_ 176), (0, u "java/lang/Comparable"), (0, .class_ 178), (0, u "java/lang/constant/Constable"), (0, .class_ 180), (0, u "java/lang/constant/ConstantDesc"), (0, u "POSITIVE_INFINITY"), (3, u "NEGATIVE_INFINITY"), (2, u "NaN"), (2, u "MAX_VALUE"), (0, u "MIN_NORMAL"), (0, u "MIN_VALUE"), (2, u "SIZE"), (0, u "I"), (1, u "PRECISION"), (1, u "MAX_EXPONENT"), (1, u "MIN_EXPONENT"), (1, u "BYTES"), (3, u "serialVersionUID"), (0, u "J")] 79

def k11c0 : Code := { maxStack := 4, maxLocals := 2, code := jdk_117_method_8_code, exceptionTable := #[], attributes := #[] }
def k11m0 : Method := { name := "isFinite", desc := "(D)Z", sig := { parameters := [.double], returnType := some .boolean }, accessFlags := 9, code := some k11c0 }
/-- java/lang/Double -/
def k11 : Class := { plain "java/lang/Double" (some 10) with
  accessFlags := 49
  interfaces := #[4, 6, 7]
  cf := some (fileOf pool11 1 #[] #[{ accessFlags := 9, nameIndex := 13, descriptorIndex := 14, attributes := #[] }] 49 114 #[175, 177, 179] #[{ accessFlags := 25, nameIndex := 181, descriptorIndex := 121, attributes := #[] }, { accessFlags := 25, nameIndex := 185, descriptorIndex := 121, attributes := #[] }, { accessFlags := 25, nameIndex := 188, descriptorIndex := 121, attributes := #[] }, { accessFlags := 25, nameIndex := 191, descriptorIndex := 121, attributes := #[] }, { accessFlags := 25, nameIndex := 192, descriptorIndex := 121, attributes := #[] }, { accessFlags := 25, nameIndex := 193, descriptorIndex := 121, attributes := #[] }, { accessFlags := 25, nameIndex := 196, descriptorIndex := 197, attributes := #[] }, { accessFlags := 25, nameIndex := 199, descriptorIndex := 197, attributes := #[] }, { accessFlags := 25, nameIndex := 201, descriptorIndex := 197, attributes := #[] }, { accessFlags := 25, nameIndex := 203, descriptorIndex := 197, attributes := #[] }, { accessFlags := 25, nameIndex := 205, descriptorIndex := 197, attributes := #[] }, { accessFlags := 25, nameIndex := 173, descriptorIndex := 174, attributes := #[] }, { accessFlags := 18, nameIndex := 120, descriptorIndex := 121, attributes := #[] }, { accessFlags := 26, nameIndex := 209, descriptorIndex := 210, attributes := #[] }])
  fields := #[{ name := "POSITIVE_INFINITY", type := .double, accessFlags := 25, slot := 0, constantValue := 0 }, { name := "NEGATIVE_INFINITY", type := .double, accessFlags := 25, slot := 1, constantValue := 0 }, { name := "NaN", type := .double, accessFlags := 25, slot := 2, constantValue := 0 }, { name := "MAX_VALUE", type := .double, accessFlags := 25, slot := 3, constantValue := 0 }, { name := "MIN_NORMAL", type := .double, accessFlags := 25, slot := 4, constantValue := 0 }, { name := "MIN_VALUE", type := .double, accessFlags := 25, slot := 5, constantValue := 0 }, { name := "SIZE", type := .int, accessFlags := 25, slot := 6, constantValue := 0 }, { name := "PRECISION", type := .int, accessFlags := 25, slot := 7, constantValue := 0 }, { name := "MAX_EXPONENT", type := .int, accessFlags := 25, slot := 8, constantValue := 0 }, { name := "MIN_EXPONENT", type := .int, accessFlags := 25, slot := 9, constantValue := 0 }, { name := "BYTES", type := .int, accessFlags := 25, slot := 10, constantValue := 0 }, { name := "TYPE", type := (.object "java/lang/Class"), accessFlags := 25, slot := 11, constantValue := 0 }, { name := "value", type := .double, accessFlags := 18, slot := 0, constantValue := 0 }, { name := "serialVersionUID", type := .long, accessFlags := 26, slot := 12, constantValue := 0 }]
  methods := #[k11m0]
  instanceTypes := #[.double]
  staticTypes := #[.double, .double, .double, .double, .double, .double, .int, .int, .int, .int, .int, (.object "java/lang/Class"), .long]
  resolved := Array.replicate 290 none
  statics := none }

def pool12 : Array CpInfo := pool [(1, .class_ 2), (0, u "java/lang/Math"), (1, .class_ 6), (1, u "java/lang/Object"), (0, u "<init>"), (0, u "()V"), (5, u "(D)D"), (37, u "(DD)D"), (45, .class_ 100), (1, u "java/lang/Math$RandomNumberGeneratorHolder"), (23, u "abs"), (47, u "negativeZeroFloatBits"), (0, u "J"), (2, u "negativeZeroDoubleBits"), (21, u "max"), (46, u "$assertionsDisabled"), (0, u "Z"), (91, u "twoToTheDoubleScaleDown"), (0, u "D"), (4, u "twoToTheDoubleScaleUp"), (9, u "E"), (3, u "PI"), (2, u "TAU"), (2, u "DEGREES_TO_RADIANS"), (0, u "RADIANS_TO_DEGREES")] 94

def k12m0 : Method := { name := "<init>", desc := "()V", sig := { parameters := [], returnType := none }, accessFlags := 2, code := none }
def k12c1 : Code := { maxStack := 4, maxLocals := 2, code := jdk_29_method_64_code, exceptionTable := #[], attributes := #[] }
def k12m1 : Method := { name := "abs", desc := "(D)D", sig := { parameters := [.double], returnType := some .double }, accessFlags := 9, code := some k12c1 }
def k12c2 : Code := { maxStack := 4, maxLocals := 4, code := jdk_29_method_68_code, exceptionTable := #[], attributes := #[] }
def k12m2 : Method := { name := "max", desc := "(DD)D", sig := { parameters := [.double, .double], returnType := some .double }, accessFlags := 9, code := some k12c2 }
/-- java/lang/Math -/
def k12 : Class := { plain "java/lang/Math" (some 0) with
  accessFlags := 49
  interfaces := #[]
  cf := some (fileOf pool12 1 #[.nestMembers #[98]] #[{ accessFlags := 2, nameIndex := 7, descriptorIndex := 8, attributes := #[] }, { accessFlags := 9, nameIndex := 124, descriptorIndex := 14, attributes := #[] }, { accessFlags := 9, nameIndex := 198, descriptorIndex := 52, attributes := #[] }] 49 4 #[] #[{ accessFlags := 25, nameIndex := 354, descriptorIndex := 339, attributes := #[] }, { accessFlags := 25, nameIndex := 358, descriptorIndex := 339, attributes := #[] }, { accessFlags := 25, nameIndex := 361, descriptorIndex := 339, attributes := #[] }, { accessFlags := 26, nameIndex := 364, descriptorIndex := 339, attributes := #[] }, { accessFlags := 26, nameIndex := 365, descriptorIndex := 339, attributes := #[] }, { accessFlags := 26, nameIndex := 172, descriptorIndex := 173, attributes := #[] }, { accessFlags := 26, nameIndex := 176, descriptorIndex := 173, attributes := #[] }, { accessFlags := 8, nameIndex := 344, descriptorIndex := 339, attributes := #[] }, { accessFlags := 8, nameIndex := 338, descriptorIndex := 339, attributes := #[] }, { accessFlags := 4120, nameIndex := 245, descriptorIndex := 246, attributes := #[] }])
  fields := #[{ name := "E", type := .double, accessFlags := 25, slot := 0, constantValue := 0 }, { name := "PI", type := .double, accessFlags := 25, slot := 1, constantValue := 0 }, { name := "TAU", type := .double, accessFlags := 25, slot := 2, constantValue := 0 }, { name := "DEGREES_TO_RADIANS", type := .double, accessFlags := 26, slot := 3, constantValue := 0 }, { name := "RADIANS_TO_DEGREES", type := .double, accessFlags := 26, slot := 4, constantValue := 0 }, { name := "negativeZeroFloatBits", type := .long, accessFlags := 26, slot := 5, constantValue := 0 }, { name := "negativeZeroDoubleBits", type := .long, accessFlags := 26, slot := 6, constantValue := 0 }, { name := "twoToTheDoubleScaleUp", type := .double, accessFlags := 8, slot := 7, constantValue := 0 }, { name := "twoToTheDoubleScaleDown", type := .double, accessFlags := 8, slot := 8, constantValue := 0 }, { name := "$assertionsDisabled", type := .boolean, accessFlags := 4120, slot := 9, constantValue := 0 }]
  methods := #[k12m0, k12m1, k12m2]
  instanceTypes := #[]
  staticTypes := #[.double, .double, .double, .double, .double, .long, .long, .double, .double, .boolean]
  resolved := Array.replicate 460 none
  statics := none }

def pool13 : Array CpInfo := pool [(1, u "java/lang/Cloneable"), (0, .class_ 1), (0, u "java/lang/Object"), (0, .class_ 3)] 3

/-- java/lang/Cloneable -/
def k13 : Class := { plain "java/lang/Cloneable" (some 0) with
  accessFlags := 1537
  interfaces := #[]
  cf := some (fileOf pool13 2 #[] #[] 1537 4 #[] #[])
  fields := #[]
  methods := #[]
  instanceTypes := #[]
  staticTypes := #[]
  resolved := Array.replicate 8 none
  statics := none }

/-- the primitive byte -/
def k14 : Class := { plain "byte" none with kind := .primitive 'B', accessFlags := 0x411 }
/-- [B -/
def k15 : Class := { plain "[B" (some 0) with kind := .array 14 .byte, interfaces := #[13, 3], accessFlags := 1041 }

/-- the primitive int -/
def k16 : Class := { plain "int" none with kind := .primitive 'I', accessFlags := 0x411 }
/-- [I -/
def k17 : Class := { plain "[I" (some 0) with kind := .array 16 .int, interfaces := #[13, 3], accessFlags := 1041 }

def heap : Heap := #[]
def classes : Array Class := #[k0, k1, k2, k3, k4, k5, k6, k7, k8, k9, k10, k11, k12, k13, k14, k15, k16, k17]
def interned : List (Array UInt16 × Addr) := []
def slotsUsed : Nat := 0
def theMethod : MethodId := ⟨1, 1⟩
def args0 : Array Value := #[.int 5, .int 6, .int 7, .int 8, .int 9, .int 4]
def aboutOver (below : List Frame) : State where
  vm := { classes := classes, interned := interned.toArray }
  heap := heap
  slotsUsed := slotsUsed
  threads := #[{ frames := .invoking theMethod args0 :: below }]
def below0 : List Frame := [.native { method := ⟨0, 0⟩, args := #[] }]
def about1 : State := aboutOver below0
def p0 : Program := .bare "" "" ""
def e0 : Env := launch0.env 0 0 0
theorem w_frames : about1.frames = Frame.invoking theMethod args0 :: below0 := rfl
set_option maxRecDepth 65536 in
theorem w_args : argsFit about1.vm theMethod args0 = true := by decide +kernel
set_option maxRecDepth 65536 in
theorem w_heap : heapFits about1 = true := by decide +kernel
set_option maxRecDepth 65536 in
theorem w_runnable : about1.curStatus? = some .runnable := by decide +kernel
set_option maxRecDepth 65536 in
theorem w_alone : about1.alone = true := by decide +kernel
set_option maxRecDepth 65536 in
theorem w_named : about1.methodNamed? x = some theMethod := by decide +kernel
set_option maxRecDepth 65536 in
theorem w_hears : about1.hears theMethod below0 = true := by decide +kernel
set_option maxRecDepth 65536 in
theorem w_ripe : about1.ripe theMethod args0 below0 = true := by decide +kernel
theorem w_running : about1.status = .running := rfl
set_option maxRecDepth 65536 in
theorem w_room : about1.hasRoom e0.platform room_1 = true :=
  launch0.hasRoom_least _ room_1 (by decide +kernel) (by decide +kernel) (by decide +kernel) (by decide +kernel) (by decide +kernel) (by decide +kernel)
theorem allAtoms_all (ts : List Jvm.Cond) (a : Array Jvm.Value) (st : Jvm.State) : (allAtoms ts).before a st = ts.all (fun c => c.before a st) := by
  induction ts with
  | nil => rfl
  | cons c t ih =>
    show (Jvm.Cond.and c (allAtoms t)).before a st = _
    rw [Jvm.Cond.before_and, ih, List.all_cons]
def words1 : List Jvm.Cond := Jvm.Cond.code x code maxLocals ret :: tables_1
/-- a 'code' word, met by the world's own term for the bytes: nothing is compared byte by byte -/
theorem code_word {y : MethodName} {bytes : ByteArray} {mx : Nat} {rt : Option FieldType} {a : Array Value} {s : State} {m : MethodId} {meth : Method} {c : Code} (h1 : s.methodNamed? y = some m) (h2 : s.vm.method? m = some meth) (h3 : meth.code = some c) (h4 : c.code = bytes)
    (h5 : (c.maxLocals == mx && c.exceptionTable.isEmpty && decide (c.maxStack ≤ mostOperands) && decide (meth.sig.returnType = rt) && !meth.locks && decide (parseMethodDescriptor y.desc = some meth.sig)) = true) : (Jvm.Cond.code y bytes mx rt).before a s = true := by
  simp only [Bool.and_eq_true, beq_iff_eq, Bool.not_eq_true', decide_eq_true_eq] at h5
  obtain ⟨⟨⟨⟨⟨g1, g2⟩, g3⟩, g4⟩, g5⟩, g6⟩ := h5
  simp [Cond.before, Cond.holds, Cond.value, h1, h2, h3, h4, g1, g2, g3, g4, g5, g6]
def isCode : Jvm.Cond → Bool
  | .code _ _ _ _ => true
  | _ => false
theorem all_split {L : List Jvm.Cond} {P : Jvm.Cond → Bool} (h1 : L.all (fun c => isCode c || P c) = true) (h2 : ∀ c ∈ L.filter isCode, P c = true) : L.all P = true := by
  refine List.all_eq_true.mpr fun c hc => ?_
  have h := List.all_eq_true.mp h1 c hc
  rcases Bool.eq_false_or_eq_true (isCode c) with hi | hi
  · exact h2 c (List.mem_filter.mpr ⟨hc, hi⟩)
  · simpa [hi] using h
set_option maxRecDepth 65536 in
theorem w_c0 : (Jvm.Cond.code x code maxLocals ret).before args0 about1 = true := code_word (m := ⟨1, 1⟩) (meth := k1m1) (c := k1c1) (by decide +kernel) rfl rfl rfl (by decide +kernel)
set_option maxRecDepth 65536 in
theorem w_c1 : (Jvm.Cond.code ({ cls := "com/example/choke_points/chokepoints/model/SchedulePreferences", name := "<init>", desc := "(DDDD)V" } : Jvm.MethodName) prog_20_method_1_code (9 : Nat) (Option.none : Option Jvm.ClassFile.FieldType)).before args0 about1 = true := code_word (m := ⟨2, 0⟩) (meth := k2m0) (c := k2c0) (by decide +kernel) rfl rfl rfl (by decide +kernel)
set_option maxRecDepth 65536 in
theorem w_c2 : (Jvm.Cond.code ({ cls := "java/lang/Object", name := "<init>", desc := "()V" } : Jvm.MethodName) object_method_1_code (1 : Nat) (Option.none : Option Jvm.ClassFile.FieldType)).before args0 about1 = true := code_word (m := ⟨0, 0⟩) (meth := k0m0) (c := k0c0) (by decide +kernel) rfl rfl rfl (by decide +kernel)
set_option maxRecDepth 65536 in
theorem w_c3 : (Jvm.Cond.code ({ cls := "com/example/choke_points/chokepoints/model/Checks", name := "nonNegative", desc := "(Ljava/lang/String;DLjava/lang/String;)D" } : Jvm.MethodName) prog_10_method_6_code (4 : Nat) (Option.some Jvm.ClassFile.FieldType.double)).before args0 about1 = true := code_word (m := ⟨9, 2⟩) (meth := k9m2) (c := k9c2) (by decide +kernel) rfl rfl rfl (by decide +kernel)
set_option maxRecDepth 65536 in
theorem w_c4 : (Jvm.Cond.code ({ cls := "java/lang/Double", name := "isFinite", desc := "(D)Z" } : Jvm.MethodName) jdk_117_method_8_code (2 : Nat) (Option.some Jvm.ClassFile.FieldType.boolean)).before args0 about1 = true := code_word (m := ⟨11, 0⟩) (meth := k11m0) (c := k11c0) (by decide +kernel) rfl rfl rfl (by decide +kernel)
set_option maxRecDepth 65536 in
theorem w_c5 : (Jvm.Cond.code ({ cls := "java/lang/Math", name := "abs", desc := "(D)D" } : Jvm.MethodName) jdk_29_method_64_code (2 : Nat) (Option.some Jvm.ClassFile.FieldType.double)).before args0 about1 = true := code_word (m := ⟨12, 1⟩) (meth := k12m1) (c := k12c1) (by decide +kernel) rfl rfl rfl (by decide +kernel)
set_option maxRecDepth 65536 in
theorem w_c6 : (Jvm.Cond.code ({ cls := "com/example/choke_points/chokepoints/model/Checks", name := "finite", desc := "(Ljava/lang/String;DLjava/lang/String;)D" } : Jvm.MethodName) prog_10_method_5_code (4 : Nat) (Option.some Jvm.ClassFile.FieldType.double)).before args0 about1 = true := code_word (m := ⟨9, 1⟩) (meth := k9m1) (c := k9c1) (by decide +kernel) rfl rfl rfl (by decide +kernel)
set_option maxRecDepth 65536 in
theorem w_c7 : (Jvm.Cond.code ({ cls := "com/example/choke_points/chokepoints/model/SchedulePreferences", name := "cost", desc := "(DD)D" } : Jvm.MethodName) prog_20_method_3_code (9 : Nat) (Option.some Jvm.ClassFile.FieldType.double)).before args0 about1 = true := code_word (m := ⟨2, 1⟩) (meth := k2m1) (c := k2c1) (by decide +kernel) rfl rfl rfl (by decide +kernel)
set_option maxRecDepth 65536 in
theorem w_c8 : (Jvm.Cond.code ({ cls := "java/lang/Math", name := "max", desc := "(DD)D" } : Jvm.MethodName) jdk_29_method_68_code (4 : Nat) (Option.some Jvm.ClassFile.FieldType.double)).before args0 about1 = true := code_word (m := ⟨12, 2⟩) (meth := k12m2) (c := k12c2) (by decide +kernel) rfl rfl rfl (by decide +kernel)
def codes1 : List Jvm.Cond := [Jvm.Cond.code x code maxLocals ret, Jvm.Cond.code ({ cls := "com/example/choke_points/chokepoints/model/SchedulePreferences", name := "<init>", desc := "(DDDD)V" } : Jvm.MethodName) prog_20_method_1_code (9 : Nat) (Option.none : Option Jvm.ClassFile.FieldType), Jvm.Cond.code ({ cls := "java/lang/Object", name := "<init>", desc := "()V" } : Jvm.MethodName) object_method_1_code (1 : Nat) (Option.none : Option Jvm.ClassFile.FieldType), Jvm.Cond.code ({ cls := "com/example/choke_points/chokepoints/model/Checks", name := "nonNegative", desc := "(Ljava/lang/String;DLjava/lang/String;)D" } : Jvm.MethodName) prog_10_method_6_code (4 : Nat) (Option.some Jvm.ClassFile.FieldType.double), Jvm.Cond.code ({ cls := "java/lang/Double", name := "isFinite", desc := "(D)Z" } : Jvm.MethodName) jdk_117_method_8_code (2 : Nat) (Option.some Jvm.ClassFile.FieldType.boolean), Jvm.Cond.code ({ cls := "java/lang/Math", name := "abs", desc := "(D)D" } : Jvm.MethodName) jdk_29_method_64_code (2 : Nat) (Option.some Jvm.ClassFile.FieldType.double), Jvm.Cond.code ({ cls := "com/example/choke_points/chokepoints/model/Checks", name := "finite", desc := "(Ljava/lang/String;DLjava/lang/String;)D" } : Jvm.MethodName) prog_10_method_5_code (4 : Nat) (Option.some Jvm.ClassFile.FieldType.double), Jvm.Cond.code ({ cls := "com/example/choke_points/chokepoints/model/SchedulePreferences", name := "cost", desc := "(DD)D" } : Jvm.MethodName) prog_20_method_3_code (9 : Nat) (Option.some Jvm.ClassFile.FieldType.double), Jvm.Cond.code ({ cls := "java/lang/Math", name := "max", desc := "(DD)D" } : Jvm.MethodName) jdk_29_method_68_code (4 : Nat) (Option.some Jvm.ClassFile.FieldType.double)]
set_option maxRecDepth 65536 in
theorem codes_eq : words1.filter isCode = codes1 := rfl
theorem w_codes : ∀ c ∈ words1.filter isCode, c.before args0 about1 = true := by
  rw [codes_eq]
  intro c hc
  simp only [codes1, List.mem_cons, List.not_mem_nil, or_false] at hc
  rcases hc with rfl | rfl | rfl | rfl | rfl | rfl | rfl | rfl | rfl
  · exact w_c0
  · exact w_c1
  · exact w_c2
  · exact w_c3
  · exact w_c4
  · exact w_c5
  · exact w_c6
  · exact w_c7
  · exact w_c8
set_option maxRecDepth 65536 in
theorem w_t1 : (words1.take 24).all (fun c => isCode c || c.before args0 about1) = true := by decide +kernel
set_option maxRecDepth 65536 in
theorem w_t2 : ((words1.drop 24).take 24).all (fun c => isCode c || c.before args0 about1) = true := by decide +kernel
set_option maxRecDepth 65536 in
theorem w_t3 : ((words1.drop 24).drop 24).all (fun c => isCode c || c.before args0 about1) = true := by decide +kernel
theorem w_tables : (allAtoms (Jvm.Cond.code x code maxLocals ret :: tables_1)).before args0 about1 = true := by
  rw [allAtoms_all]
  show words1.all (fun c => c.before args0 about1) = true
  refine all_split ?_ w_codes
  rw [← List.take_append_drop 24 words1, List.all_append, w_t1, ← List.take_append_drop 24 (words1.drop 24), List.all_append, w_t2, w_t3]
  rfl
set_option maxRecDepth 65536 in
theorem w_case : (Jvm.Cond.and given_1 narrow_1).before args0 about1 = true := by decide +kernel
theorem w_applies : (headSpec (Jvm.Cond.code x code maxLocals ret :: tables_1) room_1).applies x e0.platform about1 = true :=
  (Spec.applies_iff w_frames).mpr ⟨w_running, w_runnable, w_alone, w_named, w_hears, w_ripe, w_room, w_tables⟩
theorem atStart : AtStart classFile x code maxLocals ret World_1 tables_1 room_1 Calls_1 rest_1 Pre_1 launch0 p0 e0 about1 theMethod args0 below0 :=
  ⟨lists_1, trivial, launch0.admits_env _ _ _, launch0.least_env, fairChoices_fair.cas, fairChoices_fair.clock, w_frames, w_args, w_heap, w_applies, trivial, trivial, w_case⟩
end start1
theorem witness_1 : WitnessClaimed_1 := ⟨start1.p0, start1.e0, start1.about1, start1.theMethod, start1.args0, start1.below0, start1.atStart⟩
end Jvm.Pilot.@@N@@
