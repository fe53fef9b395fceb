import JvmDerived
import JvmDerived.Pilot.@@N@@Statement
import JvmDerived.Pilot.@@N@@Code
set_option linter.unusedVariables false
set_option linter.unusedSimpArgs false
namespace Jvm.Pilot.@@N@@
open Jvm Jvm.ClassFile Sem Op Lib Jvm.Free Jvm.Stand Jvm.LawKit Jvm.RoadKit Bundle Jvm.Pilot.@@N@@.Jvm.D
/-! OwnKit: one predicate for where a walk stands (Wk), one for what is still to be shown (Wp), and a lemma a step, in continuation form. -/
section OwnKit
variable {p : Program} {l : Launch} {e : Env} {R : Room} {s : State} {vm0 : Vm} {m : MethodId} {args : Array Value} {below : List Frame} {meth : Method} {c : Code} {Z : State} {own : String} {n0 : Nat} {B : ByteArray} {ML : Nat} {ret : Option FieldType} {T : State} {h : Heap} {locs : List Loc} {cells slots : Nat} {a0 : Array Value} {Post : Outcome → State → Prop} {pc : Nat} {L : Array Slot} {S : List Value}
/-- where a walk stands -/
def Wk (p : Program) (l : Launch) (e : Env) (R : Room) (s : State) (vm0 : Vm) (m : MethodId) (args : Array Value) (below : List Frame) (meth : Method) (c : Code) (Z : State) (own : String) (n0 : Nat) (B : ByteArray) (ML : Nat) (ret : Option FieldType) (T : State) (h : Heap) (locs : List Loc) (cells slots : Nat) : Prop :=
  Stand p l e R (s.setVm vm0) m args below meth c T locs cells slots ∧ s.Since vm0 h.size ∧ Z.Warmed39 vm0 ∧ vm0.findClass own = some m.cls ∧ T.heap = h ∧ Fr n0 locs ∧ p.tables.exec = Jvm.exec ∧ c.code = B ∧ c.maxLocals = ML ∧ meth.sig.returnType = ret ∧ meth.locks = false
/-- what is still to be shown -/
def Wp (p : Program) (e : Env) (below : List Frame) (Post : Outcome → State → Prop) (T : State) (g : JFrame) : Prop :=
  ∃ s₂ o, Steps p.tables e below (T.setTop g) s₂ ∧ s₂.status = .running ∧ Ended s₂ below o ∧ Post o s₂
theorem Wp.imp {T' : State} {g g' : JFrame} (w : Wp p e below Post T' g') (k : ∀ t, Steps p.tables e below (T'.setTop g') t → Steps p.tables e below (T.setTop g) t) : Wp p e below Post T g := by
  obtain ⟨s₂, o, h1, r⟩ := w
  exact ⟨s₂, o, k _ h1, r⟩
theorem Wk.st (W : Wk p l e R s vm0 m args below meth c Z own n0 B ML ret T h locs cells slots) : Stand p l e R (s.setVm vm0) m args below meth c T locs cells slots := W.1
theorem Wk.here (W : Wk p l e R s vm0 m args below meth c Z own n0 B ML ret T h locs cells slots) : At T m c below := W.1.here
theorem Wk.since (W : Wk p l e R s vm0 m args below meth c Z own n0 B ML ret T h locs cells slots) : s.Since vm0 h.size := W.2.1
theorem Wk.wZ (W : Wk p l e R s vm0 m args below meth c Z own n0 B ML ret T h locs cells slots) : Z.Warmed39 (s.setVm vm0).vm := W.2.2.1
theorem Wk.own' (W : Wk p l e R s vm0 m args below meth c Z own n0 B ML ret T h locs cells slots) : (s.setVm vm0).vm.findClass own = some m.cls := W.2.2.2.1
theorem Wk.heap (W : Wk p l e R s vm0 m args below meth c Z own n0 B ML ret T h locs cells slots) : T.heap = h := W.2.2.2.2.1
theorem Wk.fr (W : Wk p l e R s vm0 m args below meth c Z own n0 B ML ret T h locs cells slots) : Fr n0 locs := W.2.2.2.2.2.1
theorem Wk.exec (W : Wk p l e R s vm0 m args below meth c Z own n0 B ML ret T h locs cells slots) : p.tables.exec = Jvm.exec := W.2.2.2.2.2.2.1
theorem Wk.bytes (W : Wk p l e R s vm0 m args below meth c Z own n0 B ML ret T h locs cells slots) : c.code = B := W.2.2.2.2.2.2.2.1
theorem Wk.ml (W : Wk p l e R s vm0 m args below meth c Z own n0 B ML ret T h locs cells slots) : c.maxLocals = ML := W.2.2.2.2.2.2.2.2.1
theorem Wk.ret' (W : Wk p l e R s vm0 m args below meth c Z own n0 B ML ret T h locs cells slots) : meth.sig.returnType = ret := W.2.2.2.2.2.2.2.2.2.1
theorem Wk.lk (W : Wk p l e R s vm0 m args below meth c Z own n0 B ML ret T h locs cells slots) : meth.locks = false := W.2.2.2.2.2.2.2.2.2.2
/-- on to a later state, the tables' base as it was -/
theorem Wk.on {T' : State} {h' : Heap} {locs' : List Loc} {cells' slots' : Nat} (W : Wk p l e R s vm0 m args below meth c Z own n0 B ML ret T h locs cells slots) (X : Stand p l e R (s.setVm vm0) m args below meth c T' locs' cells' slots') (e' : T'.heap = h') (g : h.size ≤ h'.size) (N : Fr n0 locs') : Wk p l e R s vm0 m args below meth c Z own n0 B ML ret T' h' locs' cells' slots' :=
  ⟨X, ⟨W.since.1, W.since.2.mono g⟩, W.wZ, W.own', e', N, W.exec, W.bytes, W.ml, W.ret', W.lk⟩
/-- fewer cells and slots than are booked -/
theorem Wk.mono {cells' slots' : Nat} (W : Wk p l e R s vm0 m args below meth c Z own n0 B ML ret T h locs cells slots) (hc : cells ≤ cells') (hn : slots ≤ slots') : Wk p l e R s vm0 m args below meth c Z own n0 B ML ret T h locs cells' slots' := W.on (W.st.mono hc hn) W.heap (Nat.le_refl _) W.fr

theorem w_iload (W : Wk p l e R s vm0 m args below meth c Z own n0 B ML ret T h locs cells slots) {k : Nat} {v : Int32} (hd : decode B pc = .ok (.iload k, 2)) (hl : L[k]? = some (.val (.int v))) (hr : Wp p e below Post T (mkF m (pc + 2) L (.int v :: S))) : Wp p e below Post T (mkF m pc L S) :=
  hr.imp fun t q => XS.iload W.here W.exec rfl (hb W.bytes hd) hl q
theorem w_iloadN (W : Wk p l e R s vm0 m args below meth c Z own n0 B ML ret T h locs cells slots) {k : Fin 4} {v : Int32} (hd : decode B pc = .ok (.iload_n k, 1)) (hl : L[k.val]? = some (.val (.int v))) (hr : Wp p e below Post T (mkF m (pc + 1) L (.int v :: S))) : Wp p e below Post T (mkF m pc L S) :=
  hr.imp fun t q => XS.iloadN W.here W.exec rfl (hb W.bytes hd) hl q
theorem w_istore (W : Wk p l e R s vm0 m args below meth c Z own n0 B ML ret T h locs cells slots) {k : Nat} {v : Int32} {L' : Array Slot} (hd : decode B pc = .ok (.istore k, 2)) (hl : storeLocals L k (.int v) = some L') (hr : Wp p e below Post T (mkF m (pc + 2) L' S)) : Wp p e below Post T (mkF m pc L (.int v :: S)) :=
  hr.imp fun t q => XS.istore W.here W.exec rfl (hb W.bytes hd) rfl hl q
theorem w_istoreN (W : Wk p l e R s vm0 m args below meth c Z own n0 B ML ret T h locs cells slots) {k : Fin 4} {v : Int32} {L' : Array Slot} (hd : decode B pc = .ok (.istore_n k, 1)) (hl : storeLocals L k.val (.int v) = some L') (hr : Wp p e below Post T (mkF m (pc + 1) L' S)) : Wp p e below Post T (mkF m pc L (.int v :: S)) :=
  hr.imp fun t q => XS.istoreN W.here W.exec rfl (hb W.bytes hd) rfl hl q
theorem w_lload (W : Wk p l e R s vm0 m args below meth c Z own n0 B ML ret T h locs cells slots) {k : Nat} {v : Int64} (hd : decode B pc = .ok (.lload k, 2)) (hl : L[k]? = some (.val (.long v))) (hr : Wp p e below Post T (mkF m (pc + 2) L (.long v :: S))) : Wp p e below Post T (mkF m pc L S) :=
  hr.imp fun t q => XS.lload W.here W.exec rfl (hb W.bytes hd) hl q
theorem w_lloadN (W : Wk p l e R s vm0 m args below meth c Z own n0 B ML ret T h locs cells slots) {k : Fin 4} {v : Int64} (hd : decode B pc = .ok (.lload_n k, 1)) (hl : L[k.val]? = some (.val (.long v))) (hr : Wp p e below Post T (mkF m (pc + 1) L (.long v :: S))) : Wp p e below Post T (mkF m pc L S) :=
  hr.imp fun t q => XS.lloadN W.here W.exec rfl (hb W.bytes hd) hl q
theorem w_lstore (W : Wk p l e R s vm0 m args below meth c Z own n0 B ML ret T h locs cells slots) {k : Nat} {v : Int64} {L' : Array Slot} (hd : decode B pc = .ok (.lstore k, 2)) (hl : storeLocals L k (.long v) = some L') (hr : Wp p e below Post T (mkF m (pc + 2) L' S)) : Wp p e below Post T (mkF m pc L (.long v :: S)) :=
  hr.imp fun t q => XS.lstore W.here W.exec rfl (hb W.bytes hd) rfl hl q
theorem w_lstoreN (W : Wk p l e R s vm0 m args below meth c Z own n0 B ML ret T h locs cells slots) {k : Fin 4} {v : Int64} {L' : Array Slot} (hd : decode B pc = .ok (.lstore_n k, 1)) (hl : storeLocals L k.val (.long v) = some L') (hr : Wp p e below Post T (mkF m (pc + 1) L' S)) : Wp p e below Post T (mkF m pc L (.long v :: S)) :=
  hr.imp fun t q => XS.lstoreN W.here W.exec rfl (hb W.bytes hd) rfl hl q
theorem w_aload (W : Wk p l e R s vm0 m args below meth c Z own n0 B ML ret T h locs cells slots) {k : Nat} {v : Value} (hd : decode B pc = .ok (.aload k, 2)) (hl : L[k]? = some (.val v)) (hv : v.isRef = true) (hr : Wp p e below Post T (mkF m (pc + 2) L (v :: S))) : Wp p e below Post T (mkF m pc L S) :=
  hr.imp fun t q => XS.aload W.here W.exec rfl (hb W.bytes hd) hl hv q
theorem w_aloadN (W : Wk p l e R s vm0 m args below meth c Z own n0 B ML ret T h locs cells slots) {k : Fin 4} {v : Value} (hd : decode B pc = .ok (.aload_n k, 1)) (hl : L[k.val]? = some (.val v)) (hv : v.isRef = true) (hr : Wp p e below Post T (mkF m (pc + 1) L (v :: S))) : Wp p e below Post T (mkF m pc L S) :=
  hr.imp fun t q => XS.aloadN W.here W.exec rfl (hb W.bytes hd) hl hv q
theorem w_astore (W : Wk p l e R s vm0 m args below meth c Z own n0 B ML ret T h locs cells slots) {k : Nat} {v : Value} {L' : Array Slot} (hd : decode B pc = .ok (.astore k, 2)) (hv : v.isRef = true) (hl : storeLocals L k v = some L') (hr : Wp p e below Post T (mkF m (pc + 2) L' S)) : Wp p e below Post T (mkF m pc L (v :: S)) :=
  hr.imp fun t q => XS.astore W.here W.exec rfl (hb W.bytes hd) rfl hv hl q
theorem w_astoreN (W : Wk p l e R s vm0 m args below meth c Z own n0 B ML ret T h locs cells slots) {k : Fin 4} {v : Value} {L' : Array Slot} (hd : decode B pc = .ok (.astore_n k, 1)) (hv : v.isRef = true) (hl : storeLocals L k.val v = some L') (hr : Wp p e below Post T (mkF m (pc + 1) L' S)) : Wp p e below Post T (mkF m pc L (v :: S)) :=
  hr.imp fun t q => XS.astoreN W.here W.exec rfl (hb W.bytes hd) rfl hv hl q
theorem w_iconst (W : Wk p l e R s vm0 m args below meth c Z own n0 B ML ret T h locs cells slots) {i : Int} {z : Int32} (hd : decode B pc = .ok (.iconst i, 1)) (hz : Int32.ofInt i = z) (hr : Wp p e below Post T (mkF m (pc + 1) L (.int z :: S))) : Wp p e below Post T (mkF m pc L S) := by
  subst hz; exact hr.imp fun t q => XS.iconst W.here W.exec rfl (hb W.bytes hd)  q
theorem w_bipush (W : Wk p l e R s vm0 m args below meth c Z own n0 B ML ret T h locs cells slots) {i : Int} {z : Int32} (hd : decode B pc = .ok (.bipush i, 2)) (hz : (Int8.ofInt i).toInt32 = z) (hr : Wp p e below Post T (mkF m (pc + 2) L (.int z :: S))) : Wp p e below Post T (mkF m pc L S) := by
  subst hz; exact hr.imp fun t q => XS.bipush W.here W.exec rfl (hb W.bytes hd)  q
theorem w_sipush (W : Wk p l e R s vm0 m args below meth c Z own n0 B ML ret T h locs cells slots) {i : Int} {z : Int32} (hd : decode B pc = .ok (.sipush i, 3)) (hz : (Int16.ofInt i).toInt32 = z) (hr : Wp p e below Post T (mkF m (pc + 3) L (.int z :: S))) : Wp p e below Post T (mkF m pc L S) := by
  subst hz; exact hr.imp fun t q => XS.sipush W.here W.exec rfl (hb W.bytes hd)  q
theorem w_iadd (W : Wk p l e R s vm0 m args below meth c Z own n0 B ML ret T h locs cells slots) {x y : Int32} {z : Int32} (hd : decode B pc = .ok (.iadd, 1)) (hz : x + y = z) (hr : Wp p e below Post T (mkF m (pc + 1) L (.int z :: S))) : Wp p e below Post T (mkF m pc L (.int y :: .int x :: S)) := by
  subst hz; exact hr.imp fun t q => XS.iadd W.here W.exec rfl (hb W.bytes hd) rfl q
theorem w_isub (W : Wk p l e R s vm0 m args below meth c Z own n0 B ML ret T h locs cells slots) {x y : Int32} {z : Int32} (hd : decode B pc = .ok (.isub, 1)) (hz : x - y = z) (hr : Wp p e below Post T (mkF m (pc + 1) L (.int z :: S))) : Wp p e below Post T (mkF m pc L (.int y :: .int x :: S)) := by
  subst hz; exact hr.imp fun t q => XS.isub W.here W.exec rfl (hb W.bytes hd) rfl q
theorem w_imul (W : Wk p l e R s vm0 m args below meth c Z own n0 B ML ret T h locs cells slots) {x y : Int32} {z : Int32} (hd : decode B pc = .ok (.imul, 1)) (hz : x * y = z) (hr : Wp p e below Post T (mkF m (pc + 1) L (.int z :: S))) : Wp p e below Post T (mkF m pc L (.int y :: .int x :: S)) := by
  subst hz; exact hr.imp fun t q => XS.imul W.here W.exec rfl (hb W.bytes hd) rfl q
theorem w_iand (W : Wk p l e R s vm0 m args below meth c Z own n0 B ML ret T h locs cells slots) {x y : Int32} {z : Int32} (hd : decode B pc = .ok (.iand, 1)) (hz : x &&& y = z) (hr : Wp p e below Post T (mkF m (pc + 1) L (.int z :: S))) : Wp p e below Post T (mkF m pc L (.int y :: .int x :: S)) := by
  subst hz; exact hr.imp fun t q => XS.iand W.here W.exec rfl (hb W.bytes hd) rfl q
theorem w_ior (W : Wk p l e R s vm0 m args below meth c Z own n0 B ML ret T h locs cells slots) {x y : Int32} {z : Int32} (hd : decode B pc = .ok (.ior, 1)) (hz : x ||| y = z) (hr : Wp p e below Post T (mkF m (pc + 1) L (.int z :: S))) : Wp p e below Post T (mkF m pc L (.int y :: .int x :: S)) := by
  subst hz; exact hr.imp fun t q => XS.ior W.here W.exec rfl (hb W.bytes hd) rfl q
theorem w_ixor (W : Wk p l e R s vm0 m args below meth c Z own n0 B ML ret T h locs cells slots) {x y : Int32} {z : Int32} (hd : decode B pc = .ok (.ixor, 1)) (hz : x ^^^ y = z) (hr : Wp p e below Post T (mkF m (pc + 1) L (.int z :: S))) : Wp p e below Post T (mkF m pc L (.int y :: .int x :: S)) := by
  subst hz; exact hr.imp fun t q => XS.ixor W.here W.exec rfl (hb W.bytes hd) rfl q
theorem w_ladd (W : Wk p l e R s vm0 m args below meth c Z own n0 B ML ret T h locs cells slots) {x y : Int64} {z : Int64} (hd : decode B pc = .ok (.ladd, 1)) (hz : x + y = z) (hr : Wp p e below Post T (mkF m (pc + 1) L (.long z :: S))) : Wp p e below Post T (mkF m pc L (.long y :: .long x :: S)) := by
  subst hz; exact hr.imp fun t q => XS.ladd W.here W.exec rfl (hb W.bytes hd) rfl q
theorem w_lsub (W : Wk p l e R s vm0 m args below meth c Z own n0 B ML ret T h locs cells slots) {x y : Int64} {z : Int64} (hd : decode B pc = .ok (.lsub, 1)) (hz : x - y = z) (hr : Wp p e below Post T (mkF m (pc + 1) L (.long z :: S))) : Wp p e below Post T (mkF m pc L (.long y :: .long x :: S)) := by
  subst hz; exact hr.imp fun t q => XS.lsub W.here W.exec rfl (hb W.bytes hd) rfl q
theorem w_lmul (W : Wk p l e R s vm0 m args below meth c Z own n0 B ML ret T h locs cells slots) {x y : Int64} {z : Int64} (hd : decode B pc = .ok (.lmul, 1)) (hz : x * y = z) (hr : Wp p e below Post T (mkF m (pc + 1) L (.long z :: S))) : Wp p e below Post T (mkF m pc L (.long y :: .long x :: S)) := by
  subst hz; exact hr.imp fun t q => XS.lmul W.here W.exec rfl (hb W.bytes hd) rfl q
theorem w_land (W : Wk p l e R s vm0 m args below meth c Z own n0 B ML ret T h locs cells slots) {x y : Int64} {z : Int64} (hd : decode B pc = .ok (.land, 1)) (hz : x &&& y = z) (hr : Wp p e below Post T (mkF m (pc + 1) L (.long z :: S))) : Wp p e below Post T (mkF m pc L (.long y :: .long x :: S)) := by
  subst hz; exact hr.imp fun t q => XS.land W.here W.exec rfl (hb W.bytes hd) rfl q
theorem w_lor (W : Wk p l e R s vm0 m args below meth c Z own n0 B ML ret T h locs cells slots) {x y : Int64} {z : Int64} (hd : decode B pc = .ok (.lor, 1)) (hz : x ||| y = z) (hr : Wp p e below Post T (mkF m (pc + 1) L (.long z :: S))) : Wp p e below Post T (mkF m pc L (.long y :: .long x :: S)) := by
  subst hz; exact hr.imp fun t q => XS.lor W.here W.exec rfl (hb W.bytes hd) rfl q
theorem w_lxor (W : Wk p l e R s vm0 m args below meth c Z own n0 B ML ret T h locs cells slots) {x y : Int64} {z : Int64} (hd : decode B pc = .ok (.lxor, 1)) (hz : x ^^^ y = z) (hr : Wp p e below Post T (mkF m (pc + 1) L (.long z :: S))) : Wp p e below Post T (mkF m pc L (.long y :: .long x :: S)) := by
  subst hz; exact hr.imp fun t q => XS.lxor W.here W.exec rfl (hb W.bytes hd) rfl q
theorem w_ishl (W : Wk p l e R s vm0 m args below meth c Z own n0 B ML ret T h locs cells slots) {x y : Int32} {z : Int32} (hd : decode B pc = .ok (.ishl, 1)) (hz : x <<< (y &&& 31) = z) (hr : Wp p e below Post T (mkF m (pc + 1) L (.int z :: S))) : Wp p e below Post T (mkF m pc L (.int y :: .int x :: S)) := by
  subst hz; exact hr.imp fun t q => XS.ishl W.here W.exec rfl (hb W.bytes hd) rfl q
theorem w_ishr (W : Wk p l e R s vm0 m args below meth c Z own n0 B ML ret T h locs cells slots) {x y : Int32} {z : Int32} (hd : decode B pc = .ok (.ishr, 1)) (hz : x >>> (y &&& 31) = z) (hr : Wp p e below Post T (mkF m (pc + 1) L (.int z :: S))) : Wp p e below Post T (mkF m pc L (.int y :: .int x :: S)) := by
  subst hz; exact hr.imp fun t q => XS.ishr W.here W.exec rfl (hb W.bytes hd) rfl q
theorem w_iushr (W : Wk p l e R s vm0 m args below meth c Z own n0 B ML ret T h locs cells slots) {x y : Int32} {z : Int32} (hd : decode B pc = .ok (.iushr, 1)) (hz : (x.toUInt32 >>> (y &&& 31).toUInt32).toInt32 = z) (hr : Wp p e below Post T (mkF m (pc + 1) L (.int z :: S))) : Wp p e below Post T (mkF m pc L (.int y :: .int x :: S)) := by
  subst hz; exact hr.imp fun t q => XS.iushr W.here W.exec rfl (hb W.bytes hd) rfl q
theorem w_lshl (W : Wk p l e R s vm0 m args below meth c Z own n0 B ML ret T h locs cells slots) {x : Int64} {y : Int32} {z : Int64} (hd : decode B pc = .ok (.lshl, 1)) (hz : x <<< (y &&& 0x3f).toInt64 = z) (hr : Wp p e below Post T (mkF m (pc + 1) L (.long z :: S))) : Wp p e below Post T (mkF m pc L (.int y :: .long x :: S)) := by
  subst hz; exact hr.imp fun t q => XS.lshl W.here W.exec rfl (hb W.bytes hd) rfl q
theorem w_lshr (W : Wk p l e R s vm0 m args below meth c Z own n0 B ML ret T h locs cells slots) {x : Int64} {y : Int32} {z : Int64} (hd : decode B pc = .ok (.lshr, 1)) (hz : x >>> (y &&& 0x3f).toInt64 = z) (hr : Wp p e below Post T (mkF m (pc + 1) L (.long z :: S))) : Wp p e below Post T (mkF m pc L (.int y :: .long x :: S)) := by
  subst hz; exact hr.imp fun t q => XS.lshr W.here W.exec rfl (hb W.bytes hd) rfl q
theorem w_lushr (W : Wk p l e R s vm0 m args below meth c Z own n0 B ML ret T h locs cells slots) {x : Int64} {y : Int32} {z : Int64} (hd : decode B pc = .ok (.lushr, 1)) (hz : (x.toUInt64 >>> (y &&& 0x3f).toInt64.toUInt64).toInt64 = z) (hr : Wp p e below Post T (mkF m (pc + 1) L (.long z :: S))) : Wp p e below Post T (mkF m pc L (.int y :: .long x :: S)) := by
  subst hz; exact hr.imp fun t q => XS.lushr W.here W.exec rfl (hb W.bytes hd) rfl q
theorem w_ineg (W : Wk p l e R s vm0 m args below meth c Z own n0 B ML ret T h locs cells slots) {x : Int32} {z : Int32} (hd : decode B pc = .ok (.ineg, 1)) (hz : -x = z) (hr : Wp p e below Post T (mkF m (pc + 1) L (.int z :: S))) : Wp p e below Post T (mkF m pc L (.int x :: S)) := by
  subst hz; exact hr.imp fun t q => XS.ineg W.here W.exec rfl (hb W.bytes hd) rfl q
theorem w_lneg (W : Wk p l e R s vm0 m args below meth c Z own n0 B ML ret T h locs cells slots) {x : Int64} {z : Int64} (hd : decode B pc = .ok (.lneg, 1)) (hz : -x = z) (hr : Wp p e below Post T (mkF m (pc + 1) L (.long z :: S))) : Wp p e below Post T (mkF m pc L (.long x :: S)) := by
  subst hz; exact hr.imp fun t q => XS.lneg W.here W.exec rfl (hb W.bytes hd) rfl q
theorem w_i2l (W : Wk p l e R s vm0 m args below meth c Z own n0 B ML ret T h locs cells slots) {x : Int32} {z : Int64} (hd : decode B pc = .ok (.i2l, 1)) (hz : x.toInt64 = z) (hr : Wp p e below Post T (mkF m (pc + 1) L (.long z :: S))) : Wp p e below Post T (mkF m pc L (.int x :: S)) := by
  subst hz; exact hr.imp fun t q => XS.i2l W.here W.exec rfl (hb W.bytes hd) rfl q
theorem w_l2i (W : Wk p l e R s vm0 m args below meth c Z own n0 B ML ret T h locs cells slots) {x : Int64} {z : Int32} (hd : decode B pc = .ok (.l2i, 1)) (hz : x.toInt32 = z) (hr : Wp p e below Post T (mkF m (pc + 1) L (.int z :: S))) : Wp p e below Post T (mkF m pc L (.long x :: S)) := by
  subst hz; exact hr.imp fun t q => XS.l2i W.here W.exec rfl (hb W.bytes hd) rfl q
theorem w_i2b (W : Wk p l e R s vm0 m args below meth c Z own n0 B ML ret T h locs cells slots) {x : Int32} {z : Int32} (hd : decode B pc = .ok (.i2b, 1)) (hz : x.toInt8.toInt32 = z) (hr : Wp p e below Post T (mkF m (pc + 1) L (.int z :: S))) : Wp p e below Post T (mkF m pc L (.int x :: S)) := by
  subst hz; exact hr.imp fun t q => XS.i2b W.here W.exec rfl (hb W.bytes hd) rfl q
theorem w_i2c (W : Wk p l e R s vm0 m args below meth c Z own n0 B ML ret T h locs cells slots) {x : Int32} {z : Int32} (hd : decode B pc = .ok (.i2c, 1)) (hz : x.toUInt32.toUInt16.toUInt32.toInt32 = z) (hr : Wp p e below Post T (mkF m (pc + 1) L (.int z :: S))) : Wp p e below Post T (mkF m pc L (.int x :: S)) := by
  subst hz; exact hr.imp fun t q => XS.i2c W.here W.exec rfl (hb W.bytes hd) rfl q
theorem w_i2s (W : Wk p l e R s vm0 m args below meth c Z own n0 B ML ret T h locs cells slots) {x : Int32} {z : Int32} (hd : decode B pc = .ok (.i2s, 1)) (hz : x.toInt16.toInt32 = z) (hr : Wp p e below Post T (mkF m (pc + 1) L (.int z :: S))) : Wp p e below Post T (mkF m pc L (.int x :: S)) := by
  subst hz; exact hr.imp fun t q => XS.i2s W.here W.exec rfl (hb W.bytes hd) rfl q
theorem w_lcmp (W : Wk p l e R s vm0 m args below meth c Z own n0 B ML ret T h locs cells slots) {x y : Int64} {z : Int32} (hd : decode B pc = .ok (.lcmp, 1)) (hz : lcmpW x y = z) (hr : Wp p e below Post T (mkF m (pc + 1) L (.int z :: S))) : Wp p e below Post T (mkF m pc L (.long y :: .long x :: S)) := by
  subst hz; exact hr.imp fun t q => XS.lcmp W.here W.exec rfl (hb W.bytes hd) rfl q
theorem w_idiv (W : Wk p l e R s vm0 m args below meth c Z own n0 B ML ret T h locs cells slots) {x y : Int32} {z : Int32} (hd : decode B pc = .ok (.idiv, 1)) (hy : y ≠ 0) (hz : x / y = z) (hr : Wp p e below Post T (mkF m (pc + 1) L (.int z :: S))) : Wp p e below Post T (mkF m pc L (.int y :: .int x :: S)) := by
  subst hz; exact hr.imp fun t q => XS.idiv W.here W.exec rfl (hb W.bytes hd) rfl hy q
theorem w_irem (W : Wk p l e R s vm0 m args below meth c Z own n0 B ML ret T h locs cells slots) {x y z : Int32} (hd : decode B pc = .ok (.irem, 1)) (hy : y ≠ 0) (hz : x % y = z) (hr : Wp p e below Post T (mkF m (pc + 1) L (.int z :: S))) : Wp p e below Post T (mkF m pc L (.int y :: .int x :: S)) := by
  subst hz; exact hr.imp fun t q => iremM W.st W.exec rfl (hb W.bytes hd) rfl hy q
theorem w_lconst (W : Wk p l e R s vm0 m args below meth c Z own n0 B ML ret T h locs cells slots) {k : Fin 2} {z : Int64} (hd : decode B pc = .ok (.lconst k, 1)) (hz : (Int64.ofNat k.val) = z) (hr : Wp p e below Post T (mkF m (pc + 1) L (.long z :: S))) : Wp p e below Post T (mkF m pc L S) := by
  subst hz; exact hr.imp fun t q => XS.lconst W.here W.exec rfl (hb W.bytes hd) q
theorem w_aconstNull (W : Wk p l e R s vm0 m args below meth c Z own n0 B ML ret T h locs cells slots)  (hd : decode B pc = .ok (.aconst_null, 1)) (hr : Wp p e below Post T (mkF m (pc + 1) L (.null :: S))) : Wp p e below Post T (mkF m pc L S) :=
  hr.imp fun t q => XS.aconstNull W.here W.exec rfl (hb W.bytes hd)  q
theorem w_dup (W : Wk p l e R s vm0 m args below meth c Z own n0 B ML ret T h locs cells slots) {v : Value} (hd : decode B pc = .ok (.dup, 1)) (hc : v.category = 1) (hr : Wp p e below Post T (mkF m (pc + 1) L (v :: v :: S))) : Wp p e below Post T (mkF m pc L (v :: S)) :=
  hr.imp fun t q => XS.dup W.here W.exec rfl (hb W.bytes hd) rfl hc q
theorem w_pop (W : Wk p l e R s vm0 m args below meth c Z own n0 B ML ret T h locs cells slots) {v : Value} (hd : decode B pc = .ok (.pop, 1)) (hc : v.category = 1) (hr : Wp p e below Post T (mkF m (pc + 1) L S)) : Wp p e below Post T (mkF m pc L (v :: S)) :=
  hr.imp fun t q => XS.pop W.here W.exec rfl (hb W.bytes hd) rfl hc q
theorem w_dupX1 (W : Wk p l e R s vm0 m args below meth c Z own n0 B ML ret T h locs cells slots) {v w : Value} (hd : decode B pc = .ok (.dup_x1, 1)) (hc : v.category = 1) (hc' : w.category = 1) (hr : Wp p e below Post T (mkF m (pc + 1) L (v :: w :: v :: S))) : Wp p e below Post T (mkF m pc L (v :: w :: S)) :=
  hr.imp fun t q => XS.dupX1 W.here W.exec rfl (hb W.bytes hd) rfl hc hc' q
theorem w_dup2 (W : Wk p l e R s vm0 m args below meth c Z own n0 B ML ret T h locs cells slots) {v w : Value} (hd : decode B pc = .ok (.dup2, 1)) (hc : v.category = 1) (hc' : w.category = 1) (hr : Wp p e below Post T (mkF m (pc + 1) L (v :: w :: v :: w :: S))) : Wp p e below Post T (mkF m pc L (v :: w :: S)) :=
  hr.imp fun t q => XT.dup2 W.here W.exec rfl (hb W.bytes hd) rfl hc hc' q
theorem w_iinc (W : Wk p l e R s vm0 m args below meth c Z own n0 B ML ret T h locs cells slots) {k : Nat} {cst : Int} {x z : Int32} {L' : Array Slot} (hd : decode B pc = .ok (.iinc k cst, 3)) (hl : L[k]? = some (.val (.int x))) (hz : x + Int32.ofInt cst = z) (hl' : storeLocals L k (.int z) = some L') (hr : Wp p e below Post T (mkF m (pc + 3) L' S)) : Wp p e below Post T (mkF m pc L S) := by
  subst hz; exact hr.imp fun t q => XS.iinc W.here W.exec rfl (hb W.bytes hd) hl hl' q
theorem w_goto (W : Wk p l e R s vm0 m args below meth c Z own n0 B ML ret T h locs cells slots) {o : Int} {pc' : Nat} (hd : decode B pc = .ok (.goto o, 3)) (hp : (pc : Int) + o = (pc' : Int)) (hr : Wp p e below Post T (mkF m pc' L S)) : Wp p e below Post T (mkF m pc L S) :=
  hr.imp fun t q => XS.goto W.here W.exec rfl (pc0 := pc) rfl (hb W.bytes hd) (by omega) (by omega) q
theorem w_icmpeq (W : Wk p l e R s vm0 m args below meth c Z own n0 B ML ret T h locs cells slots) {x y : Int32} {o : Int} {pc' : Nat} (hd : decode B pc = .ok (.if_icmp .eq o, 3)) (hp : (pc : Int) + o = (pc' : Int)) (k1 : x = y → Wp p e below Post T (mkF m pc' L S)) (k2 : ¬ (x = y) → Wp p e below Post T (mkF m (pc + 3) L S)) : Wp p e below Post T (mkF m pc L (.int y :: .int x :: S)) := by
  by_cases hq : x = y
  · exact (k1 hq).imp fun t q => XS.icmpYes W.here W.exec rfl (pc0 := pc) rfl (hb W.bytes hd) rfl (teq hq).1 (by omega) (by omega) q
  · exact (k2 hq).imp fun t q => XS.icmpNo W.here W.exec rfl (hb W.bytes hd) rfl (feq hq).1 q
theorem w_ifeq (W : Wk p l e R s vm0 m args below meth c Z own n0 B ML ret T h locs cells slots) {x : Int32} {o : Int} {pc' : Nat} (hd : decode B pc = .ok (.ifCond .eq o, 3)) (hp : (pc : Int) + o = (pc' : Int)) (k1 : x = 0 → Wp p e below Post T (mkF m pc' L S)) (k2 : ¬ (x = 0) → Wp p e below Post T (mkF m (pc + 3) L S)) : Wp p e below Post T (mkF m pc L (.int x :: S)) := by
  by_cases hq : x = 0
  · exact (k1 hq).imp fun t q => XS.ifYes W.here W.exec rfl (pc0 := pc) rfl (hb W.bytes hd) rfl ((if0 _ _).trans (teq hq).1) (by omega) (by omega) q
  · exact (k2 hq).imp fun t q => XS.ifNo W.here W.exec rfl (hb W.bytes hd) rfl ((if0 _ _).trans (feq hq).1) q
theorem w_icmpne (W : Wk p l e R s vm0 m args below meth c Z own n0 B ML ret T h locs cells slots) {x y : Int32} {o : Int} {pc' : Nat} (hd : decode B pc = .ok (.if_icmp .ne o, 3)) (hp : (pc : Int) + o = (pc' : Int)) (k1 : ¬ (x = y) → Wp p e below Post T (mkF m pc' L S)) (k2 : x = y → Wp p e below Post T (mkF m (pc + 3) L S)) : Wp p e below Post T (mkF m pc L (.int y :: .int x :: S)) := by
  by_cases hq : x = y
  · exact (k2 hq).imp fun t q => XS.icmpNo W.here W.exec rfl (hb W.bytes hd) rfl (teq hq).2 q
  · exact (k1 hq).imp fun t q => XS.icmpYes W.here W.exec rfl (pc0 := pc) rfl (hb W.bytes hd) rfl (feq hq).2 (by omega) (by omega) q
theorem w_ifne (W : Wk p l e R s vm0 m args below meth c Z own n0 B ML ret T h locs cells slots) {x : Int32} {o : Int} {pc' : Nat} (hd : decode B pc = .ok (.ifCond .ne o, 3)) (hp : (pc : Int) + o = (pc' : Int)) (k1 : ¬ (x = 0) → Wp p e below Post T (mkF m pc' L S)) (k2 : x = 0 → Wp p e below Post T (mkF m (pc + 3) L S)) : Wp p e below Post T (mkF m pc L (.int x :: S)) := by
  by_cases hq : x = 0
  · exact (k2 hq).imp fun t q => XS.ifNo W.here W.exec rfl (hb W.bytes hd) rfl ((if0 _ _).trans (teq hq).2) q
  · exact (k1 hq).imp fun t q => XS.ifYes W.here W.exec rfl (pc0 := pc) rfl (hb W.bytes hd) rfl ((if0 _ _).trans (feq hq).2) (by omega) (by omega) q
theorem w_icmplt (W : Wk p l e R s vm0 m args below meth c Z own n0 B ML ret T h locs cells slots) {x y : Int32} {o : Int} {pc' : Nat} (hd : decode B pc = .ok (.if_icmp .lt o, 3)) (hp : (pc : Int) + o = (pc' : Int)) (k1 : x < y → Wp p e below Post T (mkF m pc' L S)) (k2 : ¬ (x < y) → Wp p e below Post T (mkF m (pc + 3) L S)) : Wp p e below Post T (mkF m pc L (.int y :: .int x :: S)) := by
  by_cases hq : x < y
  · exact (k1 hq).imp fun t q => XS.icmpYes W.here W.exec rfl (pc0 := pc) rfl (hb W.bytes hd) rfl (tlt hq).1 (by omega) (by omega) q
  · exact (k2 hq).imp fun t q => XS.icmpNo W.here W.exec rfl (hb W.bytes hd) rfl (flt hq).1 q
theorem w_iflt (W : Wk p l e R s vm0 m args below meth c Z own n0 B ML ret T h locs cells slots) {x : Int32} {o : Int} {pc' : Nat} (hd : decode B pc = .ok (.ifCond .lt o, 3)) (hp : (pc : Int) + o = (pc' : Int)) (k1 : x < 0 → Wp p e below Post T (mkF m pc' L S)) (k2 : ¬ (x < 0) → Wp p e below Post T (mkF m (pc + 3) L S)) : Wp p e below Post T (mkF m pc L (.int x :: S)) := by
  by_cases hq : x < 0
  · exact (k1 hq).imp fun t q => XS.ifYes W.here W.exec rfl (pc0 := pc) rfl (hb W.bytes hd) rfl ((if0 _ _).trans (tlt hq).1) (by omega) (by omega) q
  · exact (k2 hq).imp fun t q => XS.ifNo W.here W.exec rfl (hb W.bytes hd) rfl ((if0 _ _).trans (flt hq).1) q
theorem w_icmpge (W : Wk p l e R s vm0 m args below meth c Z own n0 B ML ret T h locs cells slots) {x y : Int32} {o : Int} {pc' : Nat} (hd : decode B pc = .ok (.if_icmp .ge o, 3)) (hp : (pc : Int) + o = (pc' : Int)) (k1 : ¬ (x < y) → Wp p e below Post T (mkF m pc' L S)) (k2 : x < y → Wp p e below Post T (mkF m (pc + 3) L S)) : Wp p e below Post T (mkF m pc L (.int y :: .int x :: S)) := by
  by_cases hq : x < y
  · exact (k2 hq).imp fun t q => XS.icmpNo W.here W.exec rfl (hb W.bytes hd) rfl (tlt hq).2.1 q
  · exact (k1 hq).imp fun t q => XS.icmpYes W.here W.exec rfl (pc0 := pc) rfl (hb W.bytes hd) rfl (flt hq).2.1 (by omega) (by omega) q
theorem w_ifge (W : Wk p l e R s vm0 m args below meth c Z own n0 B ML ret T h locs cells slots) {x : Int32} {o : Int} {pc' : Nat} (hd : decode B pc = .ok (.ifCond .ge o, 3)) (hp : (pc : Int) + o = (pc' : Int)) (k1 : ¬ (x < 0) → Wp p e below Post T (mkF m pc' L S)) (k2 : x < 0 → Wp p e below Post T (mkF m (pc + 3) L S)) : Wp p e below Post T (mkF m pc L (.int x :: S)) := by
  by_cases hq : x < 0
  · exact (k2 hq).imp fun t q => XS.ifNo W.here W.exec rfl (hb W.bytes hd) rfl ((if0 _ _).trans (tlt hq).2.1) q
  · exact (k1 hq).imp fun t q => XS.ifYes W.here W.exec rfl (pc0 := pc) rfl (hb W.bytes hd) rfl ((if0 _ _).trans (flt hq).2.1) (by omega) (by omega) q
theorem w_icmpgt (W : Wk p l e R s vm0 m args below meth c Z own n0 B ML ret T h locs cells slots) {x y : Int32} {o : Int} {pc' : Nat} (hd : decode B pc = .ok (.if_icmp .gt o, 3)) (hp : (pc : Int) + o = (pc' : Int)) (k1 : y < x → Wp p e below Post T (mkF m pc' L S)) (k2 : ¬ (y < x) → Wp p e below Post T (mkF m (pc + 3) L S)) : Wp p e below Post T (mkF m pc L (.int y :: .int x :: S)) := by
  by_cases hq : y < x
  · exact (k1 hq).imp fun t q => XS.icmpYes W.here W.exec rfl (pc0 := pc) rfl (hb W.bytes hd) rfl (tlt hq).2.2.1 (by omega) (by omega) q
  · exact (k2 hq).imp fun t q => XS.icmpNo W.here W.exec rfl (hb W.bytes hd) rfl (flt hq).2.2.1 q
theorem w_ifgt (W : Wk p l e R s vm0 m args below meth c Z own n0 B ML ret T h locs cells slots) {x : Int32} {o : Int} {pc' : Nat} (hd : decode B pc = .ok (.ifCond .gt o, 3)) (hp : (pc : Int) + o = (pc' : Int)) (k1 : 0 < x → Wp p e below Post T (mkF m pc' L S)) (k2 : ¬ (0 < x) → Wp p e below Post T (mkF m (pc + 3) L S)) : Wp p e below Post T (mkF m pc L (.int x :: S)) := by
  by_cases hq : 0 < x
  · exact (k1 hq).imp fun t q => XS.ifYes W.here W.exec rfl (pc0 := pc) rfl (hb W.bytes hd) rfl ((if0 _ _).trans (tlt hq).2.2.1) (by omega) (by omega) q
  · exact (k2 hq).imp fun t q => XS.ifNo W.here W.exec rfl (hb W.bytes hd) rfl ((if0 _ _).trans (flt hq).2.2.1) q
theorem w_icmple (W : Wk p l e R s vm0 m args below meth c Z own n0 B ML ret T h locs cells slots) {x y : Int32} {o : Int} {pc' : Nat} (hd : decode B pc = .ok (.if_icmp .le o, 3)) (hp : (pc : Int) + o = (pc' : Int)) (k1 : ¬ (y < x) → Wp p e below Post T (mkF m pc' L S)) (k2 : y < x → Wp p e below Post T (mkF m (pc + 3) L S)) : Wp p e below Post T (mkF m pc L (.int y :: .int x :: S)) := by
  by_cases hq : y < x
  · exact (k2 hq).imp fun t q => XS.icmpNo W.here W.exec rfl (hb W.bytes hd) rfl (tlt hq).2.2.2 q
  · exact (k1 hq).imp fun t q => XS.icmpYes W.here W.exec rfl (pc0 := pc) rfl (hb W.bytes hd) rfl (flt hq).2.2.2 (by omega) (by omega) q
theorem w_ifle (W : Wk p l e R s vm0 m args below meth c Z own n0 B ML ret T h locs cells slots) {x : Int32} {o : Int} {pc' : Nat} (hd : decode B pc = .ok (.ifCond .le o, 3)) (hp : (pc : Int) + o = (pc' : Int)) (k1 : ¬ (0 < x) → Wp p e below Post T (mkF m pc' L S)) (k2 : 0 < x → Wp p e below Post T (mkF m (pc + 3) L S)) : Wp p e below Post T (mkF m pc L (.int x :: S)) := by
  by_cases hq : 0 < x
  · exact (k2 hq).imp fun t q => XS.ifNo W.here W.exec rfl (hb W.bytes hd) rfl ((if0 _ _).trans (tlt hq).2.2.2) q
  · exact (k1 hq).imp fun t q => XS.ifYes W.here W.exec rfl (pc0 := pc) rfl (hb W.bytes hd) rfl ((if0 _ _).trans (flt hq).2.2.2) (by omega) (by omega) q
theorem w_ifnullY (W : Wk p l e R s vm0 m args below meth c Z own n0 B ML ret T h locs cells slots) {b : Addr} {o : Int} {pc' : Nat} (hd : decode B pc = .ok (.ifnull o, 3)) (hp : (pc : Int) + o = (pc' : Int)) (hr : Wp p e below Post T (mkF m pc' L S)) : Wp p e below Post T (mkF m pc L (.null :: S)) :=
  hr.imp fun t q => XS.ifnullYes W.here W.exec rfl (pc0 := pc) rfl (hb W.bytes hd) rfl (by omega) (by omega) q
theorem w_ifnullN (W : Wk p l e R s vm0 m args below meth c Z own n0 B ML ret T h locs cells slots) {b : Addr} {o : Int} (hd : decode B pc = .ok (.ifnull o, 3)) (hr : Wp p e below Post T (mkF m (pc + 3) L S)) : Wp p e below Post T (mkF m pc L (.ref b :: S)) :=
  hr.imp fun t q => XS.ifnullNo W.here W.exec rfl (hb W.bytes hd) rfl q
theorem w_ifnonnullY (W : Wk p l e R s vm0 m args below meth c Z own n0 B ML ret T h locs cells slots) {b : Addr} {o : Int} {pc' : Nat} (hd : decode B pc = .ok (.ifnonnull o, 3)) (hp : (pc : Int) + o = (pc' : Int)) (hr : Wp p e below Post T (mkF m pc' L S)) : Wp p e below Post T (mkF m pc L (.ref b :: S)) :=
  hr.imp fun t q => XS.ifnonnullYes W.here W.exec rfl (pc0 := pc) rfl (hb W.bytes hd) rfl (by omega) (by omega) q
theorem w_ifnonnullN (W : Wk p l e R s vm0 m args below meth c Z own n0 B ML ret T h locs cells slots) {b : Addr} {o : Int} (hd : decode B pc = .ok (.ifnonnull o, 3)) (hr : Wp p e below Post T (mkF m (pc + 3) L S)) : Wp p e below Post T (mkF m pc L (.null :: S)) :=
  hr.imp fun t q => XS.ifnonnullNo W.here W.exec rfl (hb W.bytes hd) rfl q
theorem w_acmp (W : Wk p l e R s vm0 m args below meth c Z own n0 B ML ret T h locs cells slots) {cd : ACond} {x y : Value} {o : Int} {pc' : Nat} (same : Bool) (h1 : x.isRef = true) (h2 : y.isRef = true) (hd : decode B pc = .ok (.if_acmp cd o, 3)) (hq : decide (x = y) = same) (ho : 0 ≤ (pc : Int) + o) (hp : pc' = if acV cd same = true then ((pc : Int) + o).toNat else pc + 3) (hr : Wp p e below Post T (mkF m pc' L S)) : Wp p e below Post T (mkF m pc L (y :: x :: S)) :=
  hr.imp fun t q => Jvm.RoadKit.acmp (g := mkF m pc L (y :: x :: S)) W.st W.exec rfl h1 h2 (pc0 := pc) rfl (hb W.bytes hd) rfl hq ho hp q
theorem w_ldcI (W : Wk p l e R s vm0 m args below meth c Z own n0 B ML ret T h locs cells slots) {index : Nat} {v : Int32} (w : (Jvm.Cond.constant own index v).before a0 Z = true) (hd : decode B pc = .ok (.ldc index, 2)) (hr : Wp p e below Post T (mkF m (pc + 2) L (.int v :: S))) : Wp p e below Post T (mkF m pc L S) :=
  hr.imp fun t q => W.st.ldcInt W.exec W.own' (mvT W.wZ w) (g := mkF m pc L S) rfl (hb W.bytes hd) t q
theorem w_ldc2L (W : Wk p l e R s vm0 m args below meth c Z own n0 B ML ret T h locs cells slots) {index : Nat} {v : Int64} (w : (Jvm.Cond.constantLong own index v).before a0 Z = true) (hd : decode B pc = .ok (.ldc2_w index, 3)) (hr : Wp p e below Post T (mkF m (pc + 3) L (.long v :: S))) : Wp p e below Post T (mkF m pc L S) :=
  hr.imp fun t q => W.st.ldc2Long W.exec W.own' (mvT W.wZ w) (g := mkF m pc L S) rfl (hb W.bytes hd) t q
/-! the ends -/
/-- what a body that interns nothing leaves -/
def PoN (n0 : Nat) (s : State) (kc ks : Nat) (Q : Option Value → Heap → Prop) (o : Outcome) (t : State) : Prop := ∃ v Ls, o = .returned v ∧ (Q v t.heap ∧ Fr n0 Ls) ∧ FrameEnd s o t Ls kc ks
theorem endN {kc ks : Nat} {Q : Option Value → Heap → Prop} (W : Wk p l e R s s.vm m args below meth c Z own n0 B ML ret T h locs cells slots) {v : Option Value} {g : JFrame} (hv : ret = none → v = none) (hc : cells ≤ kc) (hk : slots ≤ ks) (hq : Q v h)
    (k : ∀ fs, (∀ (f : JFrame) (acts : List Action), f.method = m → f.locked = none → f.entered = [] → (doReturn e (T.setTop f) acts v).1 = T.setFrames fs) → Steps p.tables e below (T.setTop g) (T.setFrames fs)) : Wp p e below (PoN n0 s kc ks Q) T g := by
  have hlk := W.lk
  obtain ⟨fs, hr, hrun, hended, hW, hsame⟩ := W.st.leave (v := v) (fun q => hv (W.ret'.symm.trans q))
  have hh : (T.setFrames fs).heap = h := W.heap
  exact ⟨_, _, k fs hr, hrun, hended, v, locs, rfl, ⟨by rw [hh]; exact hq, W.fr⟩, ⟨_, rfl⟩, hW, hsame.mono hc hk⟩
theorem rV (W : Wk p l e R s vm0 m args below meth c Z own n0 B ML ret T h locs cells slots) (hret : ret = none) (hd : decode B pc = .ok (.return_, 1)) {fs : List Frame} (hr : ∀ (f : JFrame) (acts : List Action), f.method = m → f.locked = none → f.entered = [] → (doReturn e (T.setTop f) acts none).1 = T.setFrames fs) : Steps p.tables e below (T.setTop (mkF m pc L [])) (T.setFrames fs) :=
  W.st.returnOut W.exec (W.ret'.trans hret) (hb W.bytes hd) hr
theorem rI {z : Int32} (W : Wk p l e R s vm0 m args below meth c Z own n0 B ML ret T h locs cells slots) (hret : ret = some .int) (hd : decode B pc = .ok (.ireturn, 1)) {fs : List Frame} (hr : ∀ (f : JFrame) (acts : List Action), f.method = m → f.locked = none → f.entered = [] → (doReturn e (T.setTop f) acts (some (.int z))).1 = T.setFrames fs) : Steps p.tables e below (T.setTop (mkF m pc L (.int z :: S))) (T.setFrames fs) :=
  retOut W.st W.exec (W.ret'.trans hret) rfl (Or.inl ⟨rfl, Or.inl rfl, z, rfl⟩) (hb W.bytes hd) hr
theorem rL {z : Int64} (W : Wk p l e R s vm0 m args below meth c Z own n0 B ML ret T h locs cells slots) (hret : ret = some .long) (hd : decode B pc = .ok (.lreturn, 1)) {fs : List Frame} (hr : ∀ (f : JFrame) (acts : List Action), f.method = m → f.locked = none → f.entered = [] → (doReturn e (T.setTop f) acts (some (.long z))).1 = T.setFrames fs) : Steps p.tables e below (T.setTop (mkF m pc L (.long z :: S))) (T.setFrames fs) :=
  retOut W.st W.exec (W.ret'.trans hret) rfl (Or.inr (Or.inl ⟨rfl, rfl, z, rfl⟩)) (hb W.bytes hd) hr
theorem rA {v : Value} {t : FieldType} (W : Wk p l e R s vm0 m args below meth c Z own n0 B ML ret T h locs cells slots) (hret : ret = some t) (ht : t.isReference = true) (hv : v.isRef = true) (hd : decode B pc = .ok (.areturn, 1)) {fs : List Frame} (hr : ∀ (f : JFrame) (acts : List Action), f.method = m → f.locked = none → f.entered = [] → (doReturn e (T.setTop f) acts (some v)).1 = T.setFrames fs) : Steps p.tables e below (T.setTop (mkF m pc L (v :: S))) (T.setFrames fs) :=
  retOut W.st W.exec (W.ret'.trans hret) (by cases v <;> cases t <;> first | rfl | (simp [Value.isRef] at hv) | (simp [FieldType.isReference] at ht)) (Or.inr (Or.inr (Or.inr (Or.inr ⟨rfl, ht, hv⟩)))) (hb W.bytes hd) hr
theorem rN {z z' : Int32} {t : FieldType} (W : Wk p l e R s vm0 m args below meth c Z own n0 B ML ret T h locs cells slots) (hret : ret = some t) (ht : t = .boolean ∨ t = .byte ∨ t = .char ∨ t = .short) (hz : nar t z = z') (hd : decode B pc = .ok (.ireturn, 1)) {fs : List Frame} (hr : ∀ (f : JFrame) (acts : List Action), f.method = m → f.locked = none → f.entered = [] → (doReturn e (T.setTop f) acts (some (.int z'))).1 = T.setFrames fs) : Steps p.tables e below (T.setTop (mkF m pc L (.int z :: S))) (T.setFrames fs) := by
  subst hz; exact retN W.st W.exec (W.ret'.trans hret) ht (hb W.bytes hd) hr
/-! a contract of a body that interns nothing; its entry; a call by it -/
def CtN (l : Launch) (Z : State) (y : MethodName) (B : ByteArray) (ML : Nat) (ret : Option FieldType) (rm : Room) (n0 : Nat) (as : Array Value) (h : Heap) (Q : Option Value → Heap → Prop) : Prop :=
  ∀ ws : List Jvm.Cond, MetFree l y (head1 (Jvm.Cond.code y B ML ret :: ws) rm) (fun a U => a = as ∧ Z.Warmed39 U.vm ∧ U.heap = h) (fun _ _ _ _ _ => True) (fun _ U o U' => ∃ v Ls, o = .returned v ∧ (Q v U'.heap ∧ Fr n0 Ls) ∧ FrameEnd U o U' Ls rm.cells rm.slots)
theorem CtN.of {y : MethodName} {rm : Room} {as : Array Value} {Q : Option Value → Heap → Prop} (hpl : plainFor y = true)
    (k : ∀ p e s m below meth c T, Wk p l e rm s s.vm m as below meth c Z y.cls n0 B ML ret T h [] 0 0 → meth.name = y.name → Wp p e below (PoN n0 s rm.cells rm.slots Q) T (entryFrame m as ML)) : CtN l Z y B ML ret rm n0 as h Q := by
  intro ws
  refine MetFree.of_bodySF hpl hisR ?_
  intro p e s m args below meth c s₁ Bd hml0 hP hK
  obtain ⟨rfl, hZ, hh⟩ := hP
  have hown : s.vm.findClass y.cls = some m.cls := findClass_of_methodNamed Bd.named
  have hnm := (name_of_methodNamed Bd.named Bd.method).1
  have X0 : Stand p l e rm s m args below meth c s₁ [] 0 0 := Stand.of_body Bd
  have e0 : s₁.heap = h := by rw [← hh, Bd.state]; rfl
  exact k p e s m below meth c s₁ ⟨X0, (State.WarmedH.refl s).since h.size, hZ, hown, e0, Fr.nil n0, Bd.exec, Bd.bytes, hml0, Bd.returns, Bd.notSynchronized⟩ hnm
theorem CtN.grow {y : MethodName} {rm : Room} {as : Array Value} {Q : Option Value → Heap → Prop} (C : CtN l Z y B ML ret rm n0 as h Q) : CtN l Z y B ML ret rm n0 as h (fun v h' => Q v h' ∧ h.size ≤ h'.size) := by
  intro ws p e ha hc hk s m args below hf happ hP hK
  obtain ⟨n, o, h1, h2, h3, v, Ls, e1, ⟨q1, q2⟩, fe⟩ := C ws p e ha hc hk s m args below hf happ hP hK
  exact ⟨n, o, h1, h2, h3, v, Ls, e1, ⟨⟨q1, by rw [← hP.2.2]; exact fe.2.2.2.1⟩, q2⟩, fe⟩
theorem CtN.imp {y : MethodName} {rm : Room} {as : Array Value} {Q Q' : Option Value → Heap → Prop} (C : CtN l Z y B ML ret rm n0 as h Q) (k : ∀ v h', Q v h' → Q' v h') : CtN l Z y B ML ret rm n0 as h Q' := by
  intro ws p e ha hc hk s m args below hf happ hP hK
  obtain ⟨n, o, h1, h2, h3, v, Ls, e1, ⟨q1, q2⟩, fe⟩ := C ws p e ha hc hk s m args below hf happ hP hK
  exact ⟨n, o, h1, h2, h3, v, Ls, e1, ⟨k _ _ q1, q2⟩, fe⟩
theorem w_callS {y : MethodName} {yB : ByteArray} {yML : Nat} {yret : Option FieldType} {rm : Room} {as : Array Value} {Q : Option Value → Heap → Prop} (W : Wk p l e R s vm0 m args below meth c Z own n0 B ML ret T h locs cells slots) {index : Nat} (C : CtN l Z y yB yML yret rm n0 as h Q)
    (w1 : (Jvm.Cond.methodLink own index y).before a0 Z = true) (w2 : (Jvm.Cond.static y).before a0 Z = true) (w3 : (Jvm.Cond.initialized y.cls).before a0 Z = true) (w4 : (Jvm.Cond.code y yB yML yret).before a0 Z = true)
    (hy : y.cls ≠ "java/lang/invoke/MethodHandle" ∧ y.cls ≠ "java/lang/invoke/VarHandle") (Wd : Nat) (hf : rm.frames + 1 ≤ R.frames) (hl : Wd + (yML + 11) + rm.locals ≤ R.locals) (hc : cells + rm.cells ≤ R.cells) (hs : slots + rm.slots ≤ R.slots)
    {argsL rest : List Value} {ps : List FieldType} {r : Option FieldType} (hpd : parseMethodDescriptor y.desc = some ⟨ps, r⟩) (hlen : argsL.length = ps.length) (has : as = argsL.toArray) (hS : S = argsL.reverse ++ rest) (hW : (rest.map fun v => v.category).sum = Wd) (hL : L.size = ML)
    (hd : decode B pc = .ok (.invokestatic index, 3))
    (k : ∀ T' h' locs' v, Wk p l e R s vm0 m args below meth c Z own n0 B ML ret T' h' locs' (cells + rm.cells) (slots + rm.slots) → Q v h' → Wp p e below Post T' (mkF m (pc + 3) L (v.toList ++ rest))) : Wp p e below Post T (mkF m pc L S) := by
  subst has
  have hZ := W.wZ
  obtain ⟨v, vm₁, ⟨T', L', k', n'⟩, -, X', ⟨Lc, hQ, l1, y1, z1⟩, st⟩ := Jvm.LawKit.callS W.st W.exec (y := y) W.own' (mvT hZ w1) (mvT hZ w2) (mvT hZ w3) (mvT hZ w4) hy (backOf (W := Wd) (Q := fun v h' Ls => (Q v h' ∧ h.size ≤ h'.size) ∧ Fr n0 Ls) (C.grow []) hZ w4 w3 hf hl) (g := mkF m pc L S) rfl (hL.trans W.ml.symm) (argsL := argsL) (rest := rest) (lenOf hpd hlen) hS (by show 2 * 0 + _ ≤ _; rw [hW]; omega) (hb W.bytes hd) (fun _ _ => ⟨rfl, W.heap, hc, hs⟩)
  dsimp only [Pt.U, Pt.locs, Pt.cells, Pt.slots] at X' l1 y1 z1 st hQ
  subst l1 y1 z1
  exact (k T' T'.heap _ v (W.on X' rfl hQ.1.2 (W.fr.app hQ.2)) hQ.1.1).imp fun t q => st t q
theorem Wp.cast {g g' : JFrame} (q : g = g') (w : Wp p e below Post T g') : Wp p e below Post T g := q ▸ w
theorem n_rV {kc ks : Nat} {Q : Option Value → Heap → Prop} (W : Wk p l e R s s.vm m args below meth c Z own n0 B ML ret T h locs cells slots) (hret : ret = none) (hd : decode B pc = .ok (.return_, 1)) (hc : cells ≤ kc) (hk : slots ≤ ks) (hq : Q none h) : Wp p e below (PoN n0 s kc ks Q) T (mkF m pc L []) := endN W (fun _ => rfl) hc hk hq fun fs hr => rV W hret hd hr
theorem n_rI {kc ks : Nat} {Q : Option Value → Heap → Prop} {z : Int32} (W : Wk p l e R s s.vm m args below meth c Z own n0 B ML ret T h locs cells slots) (hret : ret = some .int) (hd : decode B pc = .ok (.ireturn, 1)) (hc : cells ≤ kc) (hk : slots ≤ ks) (hq : Q (some (.int z)) h) : Wp p e below (PoN n0 s kc ks Q) T (mkF m pc L (.int z :: S)) := endN W (fun q => by rw [hret] at q; cases q) hc hk hq fun fs hr => rI W hret hd hr
theorem n_rL {kc ks : Nat} {Q : Option Value → Heap → Prop} {z : Int64} (W : Wk p l e R s s.vm m args below meth c Z own n0 B ML ret T h locs cells slots) (hret : ret = some .long) (hd : decode B pc = .ok (.lreturn, 1)) (hc : cells ≤ kc) (hk : slots ≤ ks) (hq : Q (some (.long z)) h) : Wp p e below (PoN n0 s kc ks Q) T (mkF m pc L (.long z :: S)) := endN W (fun q => by rw [hret] at q; cases q) hc hk hq fun fs hr => rL W hret hd hr
theorem n_rA {kc ks : Nat} {Q : Option Value → Heap → Prop} {v : Value} {t : FieldType} (W : Wk p l e R s s.vm m args below meth c Z own n0 B ML ret T h locs cells slots) (hret : ret = some t) (ht : t.isReference = true) (hv : v.isRef = true) (hd : decode B pc = .ok (.areturn, 1)) (hc : cells ≤ kc) (hk : slots ≤ ks) (hq : Q (some v) h) : Wp p e below (PoN n0 s kc ks Q) T (mkF m pc L (v :: S)) := endN W (fun q => by rw [hret] at q; cases q) hc hk hq fun fs hr => rA W hret ht hv hd hr
theorem n_rN {kc ks : Nat} {Q : Option Value → Heap → Prop} {z z' : Int32} {t : FieldType} (W : Wk p l e R s s.vm m args below meth c Z own n0 B ML ret T h locs cells slots) (hret : ret = some t) (ht : t = .boolean ∨ t = .byte ∨ t = .char ∨ t = .short) (hz : nar t z = z') (hd : decode B pc = .ok (.ireturn, 1)) (hc : cells ≤ kc) (hk : slots ≤ ks) (hq : Q (some (.int z')) h) : Wp p e below (PoN n0 s kc ks Q) T (mkF m pc L (.int z :: S)) := endN W (fun q => by rw [hret] at q; cases q) hc hk hq fun fs hr => rN W hret ht hz hd hr

end OwnKit

/-! OwnKit, second part: the heap, calls of constructors and instance methods, literals -/
section OwnKit2
variable {p : Program} {l : Launch} {e : Env} {R : Room} {s : State} {vm0 : Vm} {m : MethodId} {args : Array Value} {below : List Frame} {meth : Method} {c : Code} {Z : State} {own : String} {n0 : Nat} {B : ByteArray} {ML : Nat} {ret : Option FieldType} {T : State} {h : Heap} {locs : List Loc} {cells slots : Nat} {a0 : Array Value} {Post : Outcome → State → Prop} {pc : Nat} {L : Array Slot} {S : List Value}
theorem w_getf (W : Wk p l e R s vm0 m args below meth c Z own n0 B ML ret T h locs cells slots) {R0 O n d host : String} {index : Nat} {a : Addr} {v : Value} (w : (Jvm.Cond.fieldLink own index R0 n d).before a0 Z = true ∨ (Jvm.Cond.fieldLinkNest own index R0 n d host).before a0 Z = true) (via : Via Z R0 O n d) (F : Fld Z h a O n d v) (hd : decode B pc = .ok (.getfield index, 3))
    (k : ∀ T', Wk p l e R s vm0 m args below meth c Z own n0 B ML ret T' h locs cells slots → Wp p e below Post T' (mkF m (pc + 3) L (v :: S))) : Wp p e below Post T (mkF m pc L (.ref a :: S)) := by
  obtain ⟨T', X', e', st⟩ := getF W.st W.exec W.wZ W.own' w via W.heap F (g := mkF m pc L (.ref a :: S)) rfl rfl (hb W.bytes hd)
  exact (k T' (W.on X' e' (Nat.le_refl _) W.fr)).imp st
theorem w_gets (W : Wk p l e R s vm0 m args below meth c Z own n0 B ML ret T h locs cells slots) {R0 O n d host : String} {index : Nat} {v : Value} (w : (Jvm.Cond.fieldLink own index R0 n d).before a0 Z = true ∨ (Jvm.Cond.fieldLinkNest own index R0 n d host).before a0 Z = true) (via : Via Z R0 O n d) (F : Sta Z h O n d v) (hd : decode B pc = .ok (.getstatic index, 3))
    (k : ∀ T', Wk p l e R s vm0 m args below meth c Z own n0 B ML ret T' h locs cells slots → Wp p e below Post T' (mkF m (pc + 3) L (v :: S))) : Wp p e below Post T (mkF m pc L S) := by
  obtain ⟨T', X', e', st⟩ := getS2 W.st W.exec W.wZ W.own' w via W.heap F (g := mkF m pc L S) rfl (hb W.bytes hd)
  exact (k T' (W.on X' e' (Nat.le_refl _) W.fr)).imp st
theorem w_putf (W : Wk p l e R s vm0 m args below meth c Z own n0 B ML ret T h locs cells slots) {R0 O n d C : String} {index kk : Nat} {ty : FieldType} {a : Addr} {v v' old : Value} (w : (Jvm.Cond.fieldLink own index R0 n d).before a0 Z = true) (via : Via Z R0 O n d) (F : Fld Z h a O n d old) (E : Exa Z h a C) (Lw : (Jvm.Cond.lays C O n d).before a0 Z = true ∨ ((Jvm.Cond.laysFinal C O n d).before a0 Z = true ∧ own = O ∧ meth.name = "<init>")) (wi : (Jvm.Cond.instantiable C kk).before a0 Z = true)
    (hty : parseFieldDescriptor d = some ty) (hn : narrow ty v = v') (hf : fits ty v' = true) (hna : n0 ≤ a) (hd : decode B pc = .ok (.putfield index, 3))
    (k : ∀ T' h' locs', Wk p l e R s vm0 m args below meth c Z own n0 B ML ret T' h' locs' cells slots → Wr h h' a (Jvm.RoadKit.slotOf Z O n d) v' → Wp p e below Post T' (mkF m (pc + 3) L S)) : Wp p e below Post T (mkF m pc L (v :: .ref a :: S)) := by
  obtain ⟨T', h', X', e', Wr', st⟩ := putFN W.st W.exec W.wZ W.own' w via W.heap F E Lw wi hty hn hf (g := mkF m pc L (v :: .ref a :: S)) rfl rfl (hb W.bytes hd)
  exact (k T' h' _ (W.on X' e' (Nat.le_of_eq Wr'.size.symm) (Fr.snoc X' W.fr hna)) Wr').imp st
theorem w_new (W : Wk p l e R s vm0 m args below meth c Z own n0 B ML ret T h locs cells slots) {C : String} {index n : Nat} (w : (Jvm.Cond.classLink own index C).before a0 Z = true) (wi : (Jvm.Cond.instantiable C n).before a0 Z = true) (wz : (Jvm.Cond.initialized C).before a0 Z = true) (hd : decode B pc = .ok (.new index, 3)) (hc : cells + 1 ≤ R.cells) (hl : slots + n ≤ R.slots)
    (k : ∀ T' h' a, Wk p l e R s vm0 m args below meth c Z own n0 B ML ret T' h' locs (cells + 1) (slots + n) → Ext h h' → a = h.size → Exa Z h' a C → (∀ {O nm d : String} {ty : FieldType}, Laid Z a0 C O nm d → parseFieldDescriptor d = some ty → Fld Z h' a O nm d (defaultValue ty)) → Wp p e below Post T' (mkF m (pc + 3) L (.ref a :: S))) : Wp p e below Post T (mkF m pc L S) := by
  obtain ⟨T', h', X', e', E', A', D', -, st⟩ := newO W.st W.exec W.wZ W.own' w wi wz W.heap (g := mkF m pc L S) rfl (hb W.bytes hd) hc hl
  exact (k T' h' h.size (W.on X' e' E'.1 W.fr) E' rfl A' D').imp st
theorem w_newarr (W : Wk p l e R s vm0 m args below meth c Z own n0 B ML ret T h locs cells slots) {aty : ArrayType} {ty : FieldType} {dv : Value} (w : (Jvm.Cond.arrayClass ty).before a0 Z = true) (hty : newarray.typeOf aty = ty) (hdv : defaultValue ty = dv) {n : Int32} (hd : decode B pc = .ok (.newarray aty, 2)) (hn : ¬ n < 0) (cap : Nat) (hcap : n.toNatClampNeg ≤ cap) (hb8 : cap * 8 ≤ 536870912) (hc : cells + 1 ≤ R.cells) (hl : slots + cap ≤ R.slots)
    (k : ∀ T' h' a kc, Wk p l e R s vm0 m args below meth c Z own n0 B ML ret T' h' locs (cells + 1) (slots + cap) → Ext h h' → a = h.size → Arv Z h' a kc ty n [] dv → Wp p e below Post T' (mkF m (pc + 2) L (.ref a :: S))) : Wp p e below Post T (mkF m pc L (.int n :: S)) := by
  subst hty hdv
  obtain ⟨T', h', kc, X', e', E', A', st⟩ := newP W.st W.exec W.wZ w W.heap (g := mkF m pc L (.int n :: S)) rfl (hb W.bytes hd) rfl hn hcap hb8 hc hl
  exact (k T' h' h.size kc (W.on X' e' E'.1 W.fr) E' rfl (Arv.new A' hn)).imp st
theorem w_arrlen (W : Wk p l e R s vm0 m args below meth c Z own n0 B ML ret T h locs cells slots) {a : Addr} {kc : ClassId} {ty : FieldType} {z : Int32} {vs : List Value} {dv : Value} (F : Arv Z h a kc ty z vs dv) (hd : decode B pc = .ok (.arraylength, 1)) (hr : Wp p e below Post T (mkF m (pc + 1) L (.int z :: S))) : Wp p e below Post T (mkF m pc L (.ref a :: S)) := by
  obtain ⟨cl, Ar, -, S1, N1, -, -⟩ := F
  exact hr.imp fun t q => W.st.arraylength W.exec (by rw [W.heap]; exact Ar.1) (State.isArrayOf_alike W.wZ.alike Ar.2.1) (g := mkF m pc L (.ref a :: S)) rfl rfl (hb W.bytes hd) t (by rw [len_of S1 N1]; exact q)
theorem w_caload (W : Wk p l e R s vm0 m args below meth c Z own n0 B ML ret T h locs cells slots) {a : Addr} {kc : ClassId} {z j : Int32} {vs : List Value} {dv v : Value} (F : Arv Z h a kc .char z vs dv) (hj : ¬ j < 0 ∧ j < z) (hv : vs.getD j.toNatClampNeg dv = v) (hd : decode B pc = .ok (.caload, 1)) (hr : Wp p e below Post T (mkF m (pc + 1) L (v :: S))) : Wp p e below Post T (mkF m pc L (.int j :: .ref a :: S)) := by
  obtain ⟨cl, Ar, -, S1, N1, H1, -⟩ := F
  have hin := inb_of S1 hj
  exact hr.imp fun t q => W.st.caload W.exec (j := j) (v := v) (by rw [W.heap]; exact Ar.1) (State.isArrayOf_alike W.wZ.alike Ar.2.1) Ar.2.2 hin (Has.at H1 hin hv) (g := mkF m pc L (.int j :: .ref a :: S)) rfl rfl (hb W.bytes hd) t q
theorem w_baload (W : Wk p l e R s vm0 m args below meth c Z own n0 B ML ret T h locs cells slots) {a : Addr} {kc : ClassId} {z j : Int32} {vs : List Value} {dv v : Value} (F : Arv Z h a kc .byte z vs dv) (hj : ¬ j < 0 ∧ j < z) (hv : vs.getD j.toNatClampNeg dv = v) (hd : decode B pc = .ok (.baload, 1)) (hr : Wp p e below Post T (mkF m (pc + 1) L (v :: S))) : Wp p e below Post T (mkF m pc L (.int j :: .ref a :: S)) := by
  obtain ⟨cl, Ar, -, S1, N1, H1, -⟩ := F
  have hin := inb_of S1 hj
  exact hr.imp fun t q => W.st.baloadBytes W.exec (j := j) (v := v) (by rw [W.heap]; exact Ar.1) (State.isArrayOf_alike W.wZ.alike Ar.2.1) Ar.2.2 hin (Has.at H1 hin hv) (g := mkF m pc L (.int j :: .ref a :: S)) rfl rfl (hb W.bytes hd) t q
theorem w_iaload (W : Wk p l e R s vm0 m args below meth c Z own n0 B ML ret T h locs cells slots) {a : Addr} {kc : ClassId} {z j : Int32} {vs : List Value} {dv v : Value} (F : Arv Z h a kc .int z vs dv) (hj : ¬ j < 0 ∧ j < z) (hv : vs.getD j.toNatClampNeg dv = v) (hd : decode B pc = .ok (.iaload, 1)) (hr : Wp p e below Post T (mkF m (pc + 1) L (v :: S))) : Wp p e below Post T (mkF m pc L (.int j :: .ref a :: S)) := by
  obtain ⟨cl, Ar, -, S1, N1, H1, -⟩ := F
  have hin := inb_of S1 hj
  exact hr.imp fun t q => W.st.iaload W.exec (j := j) (v := v) (by rw [W.heap]; exact Ar.1) (State.isArrayOf_alike W.wZ.alike Ar.2.1) Ar.2.2 hin (Has.at H1 hin hv) (g := mkF m pc L (.int j :: .ref a :: S)) rfl rfl (hb W.bytes hd) t q
theorem w_castore (W : Wk p l e R s vm0 m args below meth c Z own n0 B ML ret T h locs cells slots) {a : Addr} {kc : ClassId} {z j x x' : Int32} {vs : List Value} {dv : Value} (F : Arv Z h a kc .char z vs dv) (hj : ¬ j < 0 ∧ j < z) (i : Nat) (hi : j.toNatClampNeg = i) (hl : i < vs.length) (hx' : nar .char x = x') (hna : n0 ≤ a) (hd : decode B pc = .ok (.castore, 1))
    (k : ∀ T' h' locs', Wk p l e R s vm0 m args below meth c Z own n0 B ML ret T' h' locs' cells slots → Wr h h' a i (.int x') → Arv Z h' a kc .char z (vs.set i (.int x')) dv → Wp p e below Post T' (mkF m (pc + 1) L S)) : Wp p e below Post T (mkF m pc L (.int x :: .int j :: .ref a :: S)) := by
  subst hx' hi
  obtain ⟨cl, Ar, q1, S1, N1, H1, G1⟩ := F
  have hin := inb_of S1 hj
  obtain ⟨T', h', X', e', Wr', st⟩ := stC W.st W.exec W.wZ W.heap Ar (j := j) hin (g := mkF m pc L (.int x :: .int j :: .ref a :: S)) rfl rfl (hb W.bytes hd)
  exact (k T' h' _ (W.on X' e' (Nat.le_of_eq Wr'.size.symm) (Fr.snoc X' W.fr hna)) Wr' (Arv.set Ar q1 S1 N1 H1 G1 (fits_nar_char _) Wr' _ rfl hl)).imp st
theorem w_bastore (W : Wk p l e R s vm0 m args below meth c Z own n0 B ML ret T h locs cells slots) {a : Addr} {kc : ClassId} {z j x x' : Int32} {vs : List Value} {dv : Value} (F : Arv Z h a kc .byte z vs dv) (hj : ¬ j < 0 ∧ j < z) (i : Nat) (hi : j.toNatClampNeg = i) (hl : i < vs.length) (hx' : nar .byte x = x') (hna : n0 ≤ a) (hd : decode B pc = .ok (.bastore, 1))
    (k : ∀ T' h' locs', Wk p l e R s vm0 m args below meth c Z own n0 B ML ret T' h' locs' cells slots → Wr h h' a i (.int x') → Arv Z h' a kc .byte z (vs.set i (.int x')) dv → Wp p e below Post T' (mkF m (pc + 1) L S)) : Wp p e below Post T (mkF m pc L (.int x :: .int j :: .ref a :: S)) := by
  subst hx' hi
  obtain ⟨cl, Ar, q1, S1, N1, H1, G1⟩ := F
  have hin := inb_of S1 hj
  obtain ⟨T', h', X', e', Wr', st⟩ := stB W.st W.exec W.wZ W.heap Ar (j := j) hin (g := mkF m pc L (.int x :: .int j :: .ref a :: S)) rfl rfl (hb W.bytes hd)
  exact (k T' h' _ (W.on X' e' (Nat.le_of_eq Wr'.size.symm) (Fr.snoc X' W.fr hna)) Wr' (Arv.set Ar q1 S1 N1 H1 G1 (fits_nar_byte _) Wr' _ rfl hl)).imp st
theorem w_cast (W : Wk p l e R s vm0 m args below meth c Z own n0 B ML ret T h locs cells slots) {K : String} {index : Nat} {a : Addr} (w : (Jvm.Cond.classLink own index K).before a0 Z = true) (F : Ins Z h a K true) (hd : decode B pc = .ok (.checkcast index, 3))
    (k : ∀ T', Wk p l e R s vm0 m args below meth c Z own n0 B ML ret T' h locs cells slots → Wp p e below Post T' (mkF m (pc + 3) L (.ref a :: S))) : Wp p e below Post T (mkF m pc L (.ref a :: S)) := by
  obtain ⟨T', X', e', st⟩ := castY W.st W.exec W.wZ W.own' w W.heap F (g := mkF m pc L (.ref a :: S)) rfl rfl (hb W.bytes hd)
  exact (k T' (W.on X' e' (Nat.le_refl _) W.fr)).imp st
theorem w_instY (W : Wk p l e R s vm0 m args below meth c Z own n0 B ML ret T h locs cells slots) {K : String} {index : Nat} {a : Addr} (w : (Jvm.Cond.classLink own index K).before a0 Z = true) (F : Ins Z h a K true) (hd : decode B pc = .ok (.instanceof index, 3))
    (k : ∀ T', Wk p l e R s vm0 m args below meth c Z own n0 B ML ret T' h locs cells slots → Wp p e below Post T' (mkF m (pc + 3) L (.int 1 :: S))) : Wp p e below Post T (mkF m pc L (.ref a :: S)) := by
  obtain ⟨T', X', e', st⟩ := instY W.st W.exec W.wZ W.own' w W.heap F (g := mkF m pc L (.ref a :: S)) rfl rfl (hb W.bytes hd)
  exact (k T' (W.on X' e' (Nat.le_refl _) W.fr)).imp st
theorem w_instNo (W : Wk p l e R s vm0 m args below meth c Z own n0 B ML ret T h locs cells slots) {K C : String} {index : Nat} {a : Addr} (w : (Jvm.Cond.classLink own index K).before a0 Z = true) (E : Exa Z h a C) (F : ∃ c t, Z.vm.findClass C = some c ∧ Z.vm.findClass K = some t ∧ Z.vm.assignable c t = false) (hd : decode B pc = .ok (.instanceof index, 3))
    (k : ∀ T', Wk p l e R s vm0 m args below meth c Z own n0 B ML ret T' h locs cells slots → Wp p e below Post T' (mkF m (pc + 3) L (.int 0 :: S))) : Wp p e below Post T (mkF m pc L (.ref a :: S)) := by
  obtain ⟨T', X', e', st⟩ := instNo W.st W.exec W.wZ W.own' w W.heap E F (g := mkF m pc L (.ref a :: S)) rfl rfl (hb W.bytes hd)
  exact (k T' (W.on X' e' (Nat.le_refl _) W.fr)).imp st
theorem w_instNull (W : Wk p l e R s vm0 m args below meth c Z own n0 B ML ret T h locs cells slots) {index : Nat} (hd : decode B pc = .ok (.instanceof index, 3)) (hr : Wp p e below Post T (mkF m (pc + 3) L (.int 0 :: S))) : Wp p e below Post T (mkF m pc L (.null :: S)) :=
  hr.imp fun t q => W.st.instanceofNull W.exec (g := mkF m pc L (.null :: S)) rfl rfl (hb W.bytes hd) t q
theorem w_castNull (W : Wk p l e R s vm0 m args below meth c Z own n0 B ML ret T h locs cells slots) {index : Nat} (hd : decode B pc = .ok (.checkcast index, 3)) (hr : Wp p e below Post T (mkF m (pc + 3) L (.null :: S))) : Wp p e below Post T (mkF m pc L (.null :: S)) :=
  hr.imp fun t q => W.st.checkcastNull W.exec (g := mkF m pc L (.null :: S)) rfl rfl (hb W.bytes hd) t q
theorem w_initO (W : Wk p l e R s vm0 m args below meth c Z own n0 B ML ret T h locs cells slots) {index : Nat} {a : Addr} (w1 : (Jvm.Cond.methodLink own index Lib.objectInit).before a0 Z = true) (w2 : (Jvm.Cond.instanceMethod Lib.objectInit).before a0 Z = true) (w3 : (Jvm.Cond.code Lib.objectInit ⟨#[0xb1]⟩ 1 none).before a0 Z = true) (Wd : Nat) (hW : (S.map fun v => v.category).sum = Wd) (hL : L.size = ML) (hf : 1 ≤ R.frames) (hl : Wd + 12 ≤ R.locals) (hd : decode B pc = .ok (.invokespecial index, 3))
    (k : ∀ T', Wk p l e R s vm0 m args below meth c Z own n0 B ML ret T' h locs cells slots → Wp p e below Post T' (mkF m (pc + 3) L S)) : Wp p e below Post T (mkF m pc L (.ref a :: S)) := by
  obtain ⟨T', X', e', st⟩ := initO W.st W.exec W.wZ W.own' w1 w2 w3 W.heap (g := mkF m pc L (.ref a :: S)) rfl (hL.trans W.ml.symm) rfl (hb W.bytes hd) hf (W := Wd) (by show 2 * 0 + _ ≤ _; rw [hW]; omega) hl
  exact (k T' (W.on X' e' (Nat.le_refl _) W.fr)).imp st
/-! calls by a contract of a body that interns nothing -/
section CallsN
variable {y z : MethodName} {yB : ByteArray} {yML : Nat} {yret : Option FieldType} {rm : Room} {as : Array Value} {Q : Option Value → Heap → Prop} {index : Nat}
theorem w_special (W : Wk p l e R s vm0 m args below meth c Z own n0 B ML ret T h locs cells slots) (C : CtN l Z y yB yML none rm n0 as h Q) (hy1 : y.name = "<init>")
    (w1 : (Jvm.Cond.methodLink own index y).before a0 Z = true) (w2 : (Jvm.Cond.instanceMethod y).before a0 Z = true) (w3 : (Jvm.Cond.initialized y.cls).before a0 Z = true) (w4 : (Jvm.Cond.code y yB yML none).before a0 Z = true)
    (hy : y.cls ≠ "java/lang/invoke/MethodHandle" ∧ y.cls ≠ "java/lang/invoke/VarHandle") (Wd : Nat) (hf : rm.frames + 1 ≤ R.frames) (hl : Wd + (yML + 11) + rm.locals ≤ R.locals) (hc : cells + rm.cells ≤ R.cells) (hs : slots + rm.slots ≤ R.slots)
    {a : Addr} {argsL rest : List Value} {ps : List FieldType} {r : Option FieldType} (hpd : parseMethodDescriptor y.desc = some ⟨ps, r⟩) (hlen : argsL.length = ps.length) (has : as = (.ref a :: argsL).toArray) (hS : S = argsL.reverse ++ .ref a :: rest) (hW : (rest.map fun v => v.category).sum = Wd) (hL : L.size = ML)
    (hd : decode B pc = .ok (.invokespecial index, 3))
    (k : ∀ T' h' locs' v, Wk p l e R s vm0 m args below meth c Z own n0 B ML ret T' h' locs' (cells + rm.cells) (slots + rm.slots) → Q v h' → Wp p e below Post T' (mkF m (pc + 3) L (v.toList ++ rest))) : Wp p e below Post T (mkF m pc L S) := by
  subst has
  have hZ := W.wZ
  obtain ⟨v, vm₁, ⟨T', L', k', n'⟩, -, X', ⟨Lc, hQ, l1, y1, z1⟩, st⟩ := W.st.specialBack W.exec (y := y) hy1 W.own' (mvT hZ w1) (mvT hZ w2) (mvT hZ w4) hy (backOf (W := Wd) (Q := fun v h' Ls => (Q v h' ∧ h.size ≤ h'.size) ∧ Fr n0 Ls) (C.grow []) hZ w4 w3 hf hl) (g := mkF m pc L S) rfl (hL.trans W.ml.symm) (Steps.refl _) (a := a) (argsL := argsL) (rest := rest) (lenOf hpd hlen) hS (by show 2 * 0 + _ ≤ _; rw [hW]; omega) (hb W.bytes hd) (fun _ _ => ⟨rfl, W.heap, hc, hs⟩)
  dsimp only [Pt.U, Pt.locs, Pt.cells, Pt.slots] at X' l1 y1 z1 st hQ
  subst l1 y1 z1
  exact (k T' T'.heap _ v (W.on X' rfl hQ.1.2 (W.fr.app hQ.2)) hQ.1.1).imp fun t q => st.trans q
theorem w_virt (W : Wk p l e R s vm0 m args below meth c Z own n0 B ML ret T h locs cells slots) {C' : String} (C : CtN l Z z yB yML yret rm n0 as h Q)
    (w1 : (Jvm.Cond.methodLink own index y).before a0 Z = true) (w2 : (Jvm.Cond.declares y).before a0 Z = true) (hnf : NotFace (s.setVm vm0) y) (w3 : (Jvm.Cond.selects C' y z).before a0 Z = true) (w4 : (Jvm.Cond.instanceMethod z).before a0 Z = true) (w5 : (Jvm.Cond.initialized z.cls).before a0 Z = true) (w6 : (Jvm.Cond.code z yB yML yret).before a0 Z = true)
    (hy : y.cls ≠ "java/lang/invoke/MethodHandle" ∧ y.cls ≠ "java/lang/invoke/VarHandle") (Wd : Nat) (hf : rm.frames + 1 ≤ R.frames) (hl : Wd + (yML + 11) + rm.locals ≤ R.locals) (hc : cells + rm.cells ≤ R.cells) (hs : slots + rm.slots ≤ R.slots)
    {a : Addr} (E : Exa Z h a C') {argsL rest : List Value} {ps : List FieldType} {r : Option FieldType} (hpd : parseMethodDescriptor y.desc = some ⟨ps, r⟩) (hlen : argsL.length = ps.length) (has : as = (.ref a :: argsL).toArray) (hS : S = argsL.reverse ++ .ref a :: rest) (hW : (rest.map fun v => v.category).sum = Wd) (hL : L.size = ML)
    (hd : decode B pc = .ok (.invokevirtual index, 3))
    (k : ∀ T' h' locs' v, Wk p l e R s vm0 m args below meth c Z own n0 B ML ret T' h' locs' (cells + rm.cells) (slots + rm.slots) → Q v h' → Wp p e below Post T' (mkF m (pc + 3) L (v.toList ++ rest))) : Wp p e below Post T (mkF m pc L S) := by
  subst has
  have hZ := W.wZ
  obtain ⟨cq, kq, qa, qb, qc⟩ := isOf hZ W.heap E
  obtain ⟨v, vm₁, ⟨T', L', k', n'⟩, -, X', ⟨Lc, hQ, l1, y1, z1⟩, st⟩ := W.st.virtualBack W.exec (y := y) (z := z) W.own' (mvT hZ w1) (mvT hZ w2) hnf (mvT hZ w3) (mvT hZ w4) hy (backOf (W := Wd) (Q := fun v h' Ls => (Q v h' ∧ h.size ≤ h'.size) ∧ Fr n0 Ls) (C.grow []) hZ w6 w5 hf hl) qa qc (g := mkF m pc L S) rfl (hL.trans W.ml.symm) (Steps.refl _) (argsL := argsL) (rest := rest) (lenOf hpd hlen) hS (by show 2 * 0 + _ ≤ _; rw [hW]; omega) (hb W.bytes hd) (fun _ _ => ⟨rfl, W.heap, hc, hs⟩)
  dsimp only [Pt.U, Pt.locs, Pt.cells, Pt.slots] at X' l1 y1 z1 st hQ
  subst l1 y1 z1
  exact (k T' T'.heap _ v (W.on X' rfl hQ.1.2 (W.fr.app hQ.2)) hQ.1.1).imp fun t q => st.trans q
theorem w_face (W : Wk p l e R s vm0 m args below meth c Z own n0 B ML ret T h locs cells slots) {C' : String} {count : Nat} (C : CtN l Z z yB yML yret rm n0 as h Q)
    (w1 : (Jvm.Cond.methodLink own index y).before a0 Z = true) (w2 : (Jvm.Cond.declares y).before a0 Z = true) (w2' : (Jvm.Cond.interfaceMethod y.cls y.cls y.name y.desc).before args (s.setVm vm0) = true) (w3 : (Jvm.Cond.selects C' y z).before a0 Z = true) (w4 : (Jvm.Cond.instanceMethod z).before a0 Z = true) (w7 : (Jvm.Cond.publicMethod z).before a0 Z = true) (w8 : (Jvm.Cond.unhidden C' y.name y.desc).before a0 Z = true) (w9 : (Jvm.Cond.castable C' y.cls).before a0 Z = true) (w5 : (Jvm.Cond.initialized z.cls).before a0 Z = true) (w6 : (Jvm.Cond.code z yB yML yret).before a0 Z = true)
    (hy : y.cls ≠ "java/lang/invoke/MethodHandle" ∧ y.cls ≠ "java/lang/invoke/VarHandle") (Wd : Nat) (hf : rm.frames + 1 ≤ R.frames) (hl : Wd + (yML + 11) + rm.locals ≤ R.locals) (hc : cells + rm.cells ≤ R.cells) (hs : slots + rm.slots ≤ R.slots)
    {a : Addr} (E : Exa Z h a C') {argsL rest : List Value} {ps : List FieldType} {r : Option FieldType} (hpd : parseMethodDescriptor y.desc = some ⟨ps, r⟩) (hlen : argsL.length = ps.length) (has : as = (.ref a :: argsL).toArray) (hS : S = argsL.reverse ++ .ref a :: rest) (hW : (rest.map fun v => v.category).sum = Wd) (hL : L.size = ML)
    (hd : decode B pc = .ok (.invokeinterface index count, 5))
    (k : ∀ T' h' locs' v, Wk p l e R s vm0 m args below meth c Z own n0 B ML ret T' h' locs' (cells + rm.cells) (slots + rm.slots) → Q v h' → Wp p e below Post T' (mkF m (pc + 5) L (v.toList ++ rest))) : Wp p e below Post T (mkF m pc L S) := by
  subst has
  have hZ := W.wZ
  obtain ⟨cq, kq, qa, qb, qc⟩ := isOf hZ W.heap E
  obtain ⟨v, vm₁, ⟨T', L', k', n'⟩, -, X', ⟨Lc, hQ, l1, y1, z1⟩, st⟩ := W.st.interfaceBack W.exec (xi := y) (y := z) W.own' (mvT hZ w1) (mvT hZ w2) w2' (mvT hZ w3) (mvT hZ w4) (mvT hZ w7) (mvT hZ w8) (mvT hZ w9) hy (backOf (W := Wd) (Q := fun v h' Ls => (Q v h' ∧ h.size ≤ h'.size) ∧ Fr n0 Ls) (C.grow []) hZ w6 w5 hf hl) qa qb qc (g := mkF m pc L S) rfl (hL.trans W.ml.symm) (Steps.refl _) (argsL := argsL) (rest := rest) (lenOf hpd hlen) hS (by show 2 * 0 + _ ≤ _; rw [hW]; omega) (hb W.bytes hd) (fun _ _ => ⟨rfl, W.heap, hc, hs⟩)
  dsimp only [Pt.U, Pt.locs, Pt.cells, Pt.slots] at X' l1 y1 z1 st hQ
  subst l1 y1 z1
  exact (k T' T'.heap _ v (W.on X' rfl hQ.1.2 (W.fr.app hQ.2)) hQ.1.1).imp fun t q => st.trans q
end CallsN
/-! bodies that may intern -/
def PoW (n0 : Nat) (s : State) (kc ks : Nat) (Q : Option Value → Heap → Vm → Prop) (o : Outcome) (t : State) : Prop := ∃ v Ls, o = .returned v ∧ (Q v t.heap t.vm ∧ Fr n0 Ls) ∧ ReturnedEndW s o t Ls kc ks
theorem endW {kc ks : Nat} {Q : Option Value → Heap → Vm → Prop} (W : Wk p l e R s vm0 m args below meth c Z own n0 B ML ret T h locs cells slots) {v : Option Value} {g : JFrame} (hv : ret = none → v = none) (hc : cells ≤ kc) (hk : slots ≤ ks) (hq : ∀ vm', (s.setVm vm0).WarmedH vm' → Q v h vm')
    (k : ∀ fs, (∀ (f : JFrame) (acts : List Action), f.method = m → f.locked = none → f.entered = [] → (doReturn e (T.setTop f) acts v).1 = T.setFrames fs) → Steps p.tables e below (T.setTop g) (T.setFrames fs)) : Wp p e below (PoW n0 s kc ks Q) T g := by
  have hlk := W.lk
  obtain ⟨fs, hr, hrun, hended, hend⟩ := (W.st.mono hc hk).leaveW W.since (Nat.le_of_eq (congrArg Array.size W.heap).symm) (v := v) (fun q => hv (W.ret'.symm.trans q))
  have hh : (T.setFrames fs).heap = h := W.heap
  exact ⟨_, _, k fs hr, hrun, hended, v, locs, rfl, ⟨by rw [hh]; exact hq _ W.st.warmed, W.fr⟩, hend⟩
theorem x_rV {kc ks : Nat} {Q : Option Value → Heap → Vm → Prop} (W : Wk p l e R s vm0 m args below meth c Z own n0 B ML ret T h locs cells slots) (hret : ret = none) (hd : decode B pc = .ok (.return_, 1)) (hc : cells ≤ kc) (hk : slots ≤ ks) (hq : ∀ vm', (s.setVm vm0).WarmedH vm' → Q none h vm') : Wp p e below (PoW n0 s kc ks Q) T (mkF m pc L []) := endW W (fun _ => rfl) hc hk hq fun fs hr => rV W hret hd hr
theorem x_rI {kc ks : Nat} {Q : Option Value → Heap → Vm → Prop} {z : Int32} (W : Wk p l e R s vm0 m args below meth c Z own n0 B ML ret T h locs cells slots) (hret : ret = some .int) (hd : decode B pc = .ok (.ireturn, 1)) (hc : cells ≤ kc) (hk : slots ≤ ks) (hq : ∀ vm', (s.setVm vm0).WarmedH vm' → Q (some (.int z)) h vm') : Wp p e below (PoW n0 s kc ks Q) T (mkF m pc L (.int z :: S)) := endW W (fun q => by rw [hret] at q; cases q) hc hk hq fun fs hr => rI W hret hd hr
theorem x_rA {kc ks : Nat} {Q : Option Value → Heap → Vm → Prop} {v : Value} {t : FieldType} (W : Wk p l e R s vm0 m args below meth c Z own n0 B ML ret T h locs cells slots) (hret : ret = some t) (ht : t.isReference = true) (hv : v.isRef = true) (hd : decode B pc = .ok (.areturn, 1)) (hc : cells ≤ kc) (hk : slots ≤ ks) (hq : ∀ vm', (s.setVm vm0).WarmedH vm' → Q (some v) h vm') : Wp p e below (PoW n0 s kc ks Q) T (mkF m pc L (v :: S)) := endW W (fun q => by rw [hret] at q; cases q) hc hk hq fun fs hr => rA W hret ht hv hd hr
theorem x_rN {kc ks : Nat} {Q : Option Value → Heap → Vm → Prop} {z z' : Int32} {t : FieldType} (W : Wk p l e R s vm0 m args below meth c Z own n0 B ML ret T h locs cells slots) (hret : ret = some t) (ht : t = .boolean ∨ t = .byte ∨ t = .char ∨ t = .short) (hz : nar t z = z') (hd : decode B pc = .ok (.ireturn, 1)) (hc : cells ≤ kc) (hk : slots ≤ ks) (hq : ∀ vm', (s.setVm vm0).WarmedH vm' → Q (some (.int z')) h vm') : Wp p e below (PoW n0 s kc ks Q) T (mkF m pc L (.int z :: S)) := endW W (fun q => by rw [hret] at q; cases q) hc hk hq fun fs hr => rN W hret ht hz hd hr
/-- a contract of a body that may intern: Vp is asked of the tables at its start, Q tells of those at its end -/
def CtW (l : Launch) (Z : State) (y : MethodName) (B : ByteArray) (ML : Nat) (ret : Option FieldType) (rm : Room) (n0 : Nat) (as : Array Value) (h : Heap) (Vp : Vm → Prop) (Q : Option Value → Heap → Vm → Prop) : Prop :=
  ∀ ws : List Jvm.Cond, MetFree l y (head1 (Jvm.Cond.code y B ML ret :: ws) rm) (fun a U => a = as ∧ Z.Warmed39 U.vm ∧ U.heap = h ∧ Vp U.vm) (fun _ _ _ _ _ => True) (fun _ U o U' => ∃ v Ls, o = .returned v ∧ (Q v U'.heap U'.vm ∧ Fr n0 Ls) ∧ ReturnedEndW U o U' Ls rm.cells rm.slots)
theorem CtW.of {y : MethodName} {rm : Room} {as : Array Value} {Vp : Vm → Prop} {Q : Option Value → Heap → Vm → Prop} (hpl : plainFor y = true)
    (k : ∀ p e s m below meth c T, Wk p l e rm s s.vm m as below meth c Z y.cls n0 B ML ret T h [] 0 0 → meth.name = y.name → s.heap = h → Vp s.vm → Wp p e below (PoW n0 s rm.cells rm.slots Q) T (entryFrame m as ML)) : CtW l Z y B ML ret rm n0 as h Vp Q := by
  intro ws
  refine MetFree.of_bodySF hpl hisR ?_
  intro p e s m args below meth c s₁ Bd hml0 hP hK
  obtain ⟨rfl, hZ, hh, hV⟩ := hP
  have hown : s.vm.findClass y.cls = some m.cls := findClass_of_methodNamed Bd.named
  have hnm := (name_of_methodNamed Bd.named Bd.method).1
  have X0 : Stand p l e rm s m args below meth c s₁ [] 0 0 := Stand.of_body Bd
  have e0 : s₁.heap = h := by rw [← hh, Bd.state]; rfl
  exact k p e s m below meth c s₁ ⟨X0, (State.WarmedH.refl s).since h.size, hZ, hown, e0, Fr.nil n0, Bd.exec, Bd.bytes, hml0, Bd.returns, Bd.notSynchronized⟩ hnm hh hV
theorem CtW.back {y : MethodName} {rm : Room} {as : Array Value} {Vp : Vm → Prop} {Q : Option Value → Heap → Vm → Prop} {len Wd : Nat} (C : CtW l Z y B ML ret rm n0 as h Vp Q)
    (hZ : Z.Warmed39 s.vm) (wc : (Jvm.Cond.code y B ML ret).before a0 Z = true) (wz : (Jvm.Cond.initialized y.cls).before a0 Z = true) (hf : rm.frames + 1 ≤ R.frames) (hl : Wd + (ML + 11) + rm.locals ≤ R.locals) :
    BackS l R p e below s args y len Wd (fun A a => a = as ∧ A.U.heap = h ∧ Vp A.U.vm ∧ A.cells + rm.cells ≤ R.cells ∧ A.slots + rm.slots ≤ R.slots)
      (fun A _ v Bt => ∃ Ls, (Q v Bt.U.heap Bt.U.vm ∧ Fr n0 Ls) ∧ Bt.locs = A.locs ++ Ls ∧ Bt.cells = A.cells + rm.cells ∧ Bt.slots = A.slots + rm.slots) :=
  BackS.of_freeW (bytes := B) (maxL := ML) (ret := ret) (E := fun _ _ o t Ls k n => k = rm.cells ∧ n = rm.slots ∧ ∃ v, o = .returned v ∧ (Q v t.heap t.vm ∧ Fr n0 Ls)) (C []) hf hl
    (fun m meth c A a Y hp => have hU : Z.Warmed39 A.U.vm := wtrans hZ Y.warmed
      ⟨by show (Jvm.Cond.and _ .tt).before a A.U = true; rw [Cond.before_and, mv hU wc]; rfl, mv hU wc, mv hU wz, hp.2.2.2.1, hp.2.2.2.2⟩)
    (fun m meth c A a g mk Y hp => ⟨hp.1, wtrans hZ Y.warmed, hp.2.1, hp.2.2.1⟩) (fun _ _ _ _ _ _ _ _ _ => trivial)
    (fun _ _ _ _ ⟨v, Ls, h1, h2, h3⟩ => ⟨Ls, _, _, h3, rfl, rfl, v, h1, h2⟩)
    (fun m meth c A a g mk v t Ls k n Y hp _ _ ⟨e1, e2, v', e3, e4⟩ => by cases e3; subst e1 e2; exact ⟨Ls, e4, rfl, rfl, rfl⟩)
/-- behind a step that may have interned -/
theorem Wk.onW {vm1 : Vm} {T' : State} {h' : Heap} {locs' : List Loc} {cells' slots' n : Nat} (W : Wk p l e R s vm0 m args below meth c Z own n0 B ML ret T h locs cells slots) (X : Stand p l e R ((s.setVm vm0).setVm vm1) m args below meth c T' locs' cells' slots') (h2 : (s.setVm vm0).Since vm1 n) (e' : T'.heap = h') (g : h.size ≤ n) (g' : n ≤ h'.size) (N : Fr n0 locs') : Wk p l e R s vm1 m args below meth c Z own n0 B ML ret T' h' locs' cells' slots' := by
  have q := W.since.trans h2 g
  exact ⟨X, ⟨q.1, q.2.mono g'⟩, State.Warmed39.trans W.wZ h2.1, (h2.1.alike.findClass _ _).trans W.own', e', N, W.exec, W.bytes, W.ml, W.ret', W.lk⟩
section CallsW
variable {y z : MethodName} {yB : ByteArray} {yML : Nat} {yret : Option FieldType} {rm : Room} {as : Array Value} {Vp : Vm → Prop} {Q : Option Value → Heap → Vm → Prop} {index : Nat}
theorem w_callSW (W : Wk p l e R s vm0 m args below meth c Z own n0 B ML ret T h locs cells slots) (C : CtW l Z y yB yML yret rm n0 as h Vp Q) (hV : ∀ vm', (s.setVm vm0).WarmedH vm' → Vp vm')
    (w1 : (Jvm.Cond.methodLink own index y).before a0 Z = true) (w2 : (Jvm.Cond.static y).before a0 Z = true) (w3 : (Jvm.Cond.initialized y.cls).before a0 Z = true) (w4 : (Jvm.Cond.code y yB yML yret).before a0 Z = true)
    (hy : y.cls ≠ "java/lang/invoke/MethodHandle" ∧ y.cls ≠ "java/lang/invoke/VarHandle") (Wd : Nat) (hf : rm.frames + 1 ≤ R.frames) (hl : Wd + (yML + 11) + rm.locals ≤ R.locals) (hc : cells + rm.cells ≤ R.cells) (hs : slots + rm.slots ≤ R.slots)
    {argsL rest : List Value} {ps : List FieldType} {r : Option FieldType} (hpd : parseMethodDescriptor y.desc = some ⟨ps, r⟩) (hlen : argsL.length = ps.length) (has : as = argsL.toArray) (hS : S = argsL.reverse ++ rest) (hW : (rest.map fun v => v.category).sum = Wd) (hL : L.size = ML)
    (hd : decode B pc = .ok (.invokestatic index, 3))
    (k : ∀ T' h' locs' vm1 v, Wk p l e R s vm1 m args below meth c Z own n0 B ML ret T' h' locs' (cells + rm.cells) (slots + rm.slots) → (s.setVm vm0).Warmed39 vm1 → Q v h' vm1 → Wp p e below Post T' (mkF m (pc + 3) L (v.toList ++ rest))) : Wp p e below Post T (mkF m pc L S) := by
  subst has
  have hZ := W.wZ
  obtain ⟨v, vm₁, ⟨T', L', k', n'⟩, -, X', h2, hg, ⟨Lc, hQ, l1, y1, z1⟩, st⟩ := callSS W.st W.exec (y := y) W.own' (mvT hZ w1) (mvT hZ w2) (mvT hZ w3) (mvT hZ w4) hy (CtW.back (Wd := Wd) C hZ w4 w3 hf hl) (g := mkF m pc L S) rfl (hL.trans W.ml.symm) (argsL := argsL) (rest := rest) (lenOf hpd hlen) hS (by show 2 * 0 + _ ≤ _; rw [hW]; omega) (hb W.bytes hd) (fun vm' q => ⟨rfl, W.heap, hV vm' q, hc, hs⟩)
  dsimp only [Pt.U, Pt.locs, Pt.cells, Pt.slots] at X' l1 y1 z1 st hQ h2 hg
  subst l1 y1 z1
  rw [W.heap] at hg
  exact (k T' T'.heap _ T'.vm v (W.onW X' h2 rfl hg (Nat.le_refl _) (W.fr.app hQ.2)) h2.1 hQ.1).imp fun t q => st.trans q
theorem w_specialW (W : Wk p l e R s vm0 m args below meth c Z own n0 B ML ret T h locs cells slots) (C : CtW l Z y yB yML none rm n0 as h Vp Q) (hV : ∀ vm', (s.setVm vm0).WarmedH vm' → Vp vm') (hy1 : y.name = "<init>")
    (w1 : (Jvm.Cond.methodLink own index y).before a0 Z = true) (w2 : (Jvm.Cond.instanceMethod y).before a0 Z = true) (w3 : (Jvm.Cond.initialized y.cls).before a0 Z = true) (w4 : (Jvm.Cond.code y yB yML none).before a0 Z = true)
    (hy : y.cls ≠ "java/lang/invoke/MethodHandle" ∧ y.cls ≠ "java/lang/invoke/VarHandle") (Wd : Nat) (hf : rm.frames + 1 ≤ R.frames) (hl : Wd + (yML + 11) + rm.locals ≤ R.locals) (hc : cells + rm.cells ≤ R.cells) (hs : slots + rm.slots ≤ R.slots)
    {a : Addr} {argsL rest : List Value} {ps : List FieldType} {r : Option FieldType} (hpd : parseMethodDescriptor y.desc = some ⟨ps, r⟩) (hlen : argsL.length = ps.length) (has : as = (.ref a :: argsL).toArray) (hS : S = argsL.reverse ++ .ref a :: rest) (hW : (rest.map fun v => v.category).sum = Wd) (hL : L.size = ML)
    (hd : decode B pc = .ok (.invokespecial index, 3))
    (k : ∀ T' h' locs' vm1 v, Wk p l e R s vm1 m args below meth c Z own n0 B ML ret T' h' locs' (cells + rm.cells) (slots + rm.slots) → (s.setVm vm0).Warmed39 vm1 → Q v h' vm1 → Wp p e below Post T' (mkF m (pc + 3) L (v.toList ++ rest))) : Wp p e below Post T (mkF m pc L S) := by
  subst has
  have hZ := W.wZ
  obtain ⟨v, vm₁, ⟨T', L', k', n'⟩, -, X', h2, hg, ⟨Lc, hQ, l1, y1, z1⟩, st⟩ := W.st.specialBackS W.exec (y := y) hy1 W.own' (mvT hZ w1) (mvT hZ w2) (mvT hZ w4) hy (CtW.back (Wd := Wd) C hZ w4 w3 hf hl) (g := mkF m pc L S) rfl (hL.trans W.ml.symm) (Steps.refl _) (a := a) (argsL := argsL) (rest := rest) (lenOf hpd hlen) hS (by show 2 * 0 + _ ≤ _; rw [hW]; omega) (hb W.bytes hd) (fun vm' q => ⟨rfl, W.heap, hV vm' q, hc, hs⟩)
  dsimp only [Pt.U, Pt.locs, Pt.cells, Pt.slots] at X' l1 y1 z1 st hQ h2 hg
  subst l1 y1 z1
  rw [W.heap] at hg
  exact (k T' T'.heap _ T'.vm v (W.onW X' h2 rfl hg (Nat.le_refl _) (W.fr.app hQ.2)) h2.1 hQ.1).imp fun t q => st.trans q
theorem w_virtW (W : Wk p l e R s vm0 m args below meth c Z own n0 B ML ret T h locs cells slots) {C' : String} (C : CtW l Z z yB yML yret rm n0 as h Vp Q) (hV : ∀ vm', (s.setVm vm0).WarmedH vm' → Vp vm')
    (w1 : (Jvm.Cond.methodLink own index y).before a0 Z = true) (w2 : (Jvm.Cond.declares y).before a0 Z = true) (hnf : NotFace (s.setVm vm0) y) (w3 : (Jvm.Cond.selects C' y z).before a0 Z = true) (w4 : (Jvm.Cond.instanceMethod z).before a0 Z = true) (w5 : (Jvm.Cond.initialized z.cls).before a0 Z = true) (w6 : (Jvm.Cond.code z yB yML yret).before a0 Z = true)
    (hy : y.cls ≠ "java/lang/invoke/MethodHandle" ∧ y.cls ≠ "java/lang/invoke/VarHandle") (Wd : Nat) (hf : rm.frames + 1 ≤ R.frames) (hl : Wd + (yML + 11) + rm.locals ≤ R.locals) (hc : cells + rm.cells ≤ R.cells) (hs : slots + rm.slots ≤ R.slots)
    {a : Addr} (E : Exa Z h a C') {argsL rest : List Value} {ps : List FieldType} {r : Option FieldType} (hpd : parseMethodDescriptor y.desc = some ⟨ps, r⟩) (hlen : argsL.length = ps.length) (has : as = (.ref a :: argsL).toArray) (hS : S = argsL.reverse ++ .ref a :: rest) (hW : (rest.map fun v => v.category).sum = Wd) (hL : L.size = ML)
    (hd : decode B pc = .ok (.invokevirtual index, 3))
    (k : ∀ T' h' locs' vm1 v, Wk p l e R s vm1 m args below meth c Z own n0 B ML ret T' h' locs' (cells + rm.cells) (slots + rm.slots) → (s.setVm vm0).Warmed39 vm1 → Q v h' vm1 → Wp p e below Post T' (mkF m (pc + 3) L (v.toList ++ rest))) : Wp p e below Post T (mkF m pc L S) := by
  subst has
  have hZ := W.wZ
  obtain ⟨cq, kq, qa, qb, qc⟩ := isOf hZ W.heap E
  obtain ⟨v, vm₁, ⟨T', L', k', n'⟩, -, X', h2, hg, ⟨Lc, hQ, l1, y1, z1⟩, st⟩ := W.st.virtualBackS W.exec (y := y) (z := z) W.own' (mvT hZ w1) (mvT hZ w2) hnf (mvT hZ w3) (mvT hZ w4) hy (CtW.back (Wd := Wd) C hZ w6 w5 hf hl) qa qc (g := mkF m pc L S) rfl (hL.trans W.ml.symm) (Steps.refl _) (argsL := argsL) (rest := rest) (lenOf hpd hlen) hS (by show 2 * 0 + _ ≤ _; rw [hW]; omega) (hb W.bytes hd) (fun vm' q => ⟨rfl, W.heap, hV vm' q, hc, hs⟩)
  dsimp only [Pt.U, Pt.locs, Pt.cells, Pt.slots] at X' l1 y1 z1 st hQ h2 hg
  subst l1 y1 z1
  rw [W.heap] at hg
  exact (k T' T'.heap _ T'.vm v (W.onW X' h2 rfl hg (Nat.le_refl _) (W.fr.app hQ.2)) h2.1 hQ.1).imp fun t q => st.trans q
end CallsW
/-- a literal, whatever it spells -/
theorem w_ldcS (W : Wk p l e R s vm0 m args below meth c Z own n0 B ML ret T h locs cells slots) {index : Nat} {text : String} (w : (Jvm.Cond.stringLink own index text).before a0 Z = true) (wS : ∀ a ∈ Bundle.stringAtoms, a.before a0 Z = true) (n : Nat) (hn : 4 * text.toList.length ≤ n) (hbig : n ≤ 536870912) (hc : cells + 2 ≤ R.cells) (hl : slots + (n + 4) ≤ R.slots) (hd : decode B pc = .ok (.ldc index, 2))
    (k : ∀ T' h' vm1 a, Wk p l e R s vm1 m args below meth c Z own n0 B ML ret T' h' locs (cells + 2) (slots + (n + 4)) → Ext h h' → Wp p e below Post T' (mkF m (pc + 2) L (.ref a :: S))) : Wp p e below Post T (mkF m pc L S) := by
  obtain ⟨a, T', h', k1, X', e', E', hS', hk', hZ', ho', st⟩ := ldcS W.st W.exec W.wZ W.own' w wS W.heap W.since (Nat.le_refl _) (g := mkF m pc L S) rfl (hb W.bytes hd) hn hbig hc hl
  exact (k T' h' T'.vm a ⟨X', ⟨hS'.1, hS'.2.mono hk'⟩, hZ', ho', e', W.fr, W.exec, W.bytes, W.ml, W.ret', W.lk⟩ E').imp st
/-- a literal not yet loaded since the case's start, and what it spells -/
theorem w_ldcSV (W : Wk p l e R s vm0 m args below meth c Z own n0 B ML ret T h locs cells slots) {index : Nat} {text : String} {Ts : List String} (w : (Jvm.Cond.stringLink own index text).before a0 Z = true) (wS : ∀ a ∈ Bundle.stringAtoms, a.before a0 Z = true) (N : Fr s.heap.size locs) (hkeep : ∀ (b : Addr) (cl : Cell), Z.heap[b]? = some cl → s.heap[b]? = some cl) (I : IB Z vm0 Ts) (hnot : text ∉ Ts) (hh : Jvm.Lit.constHeld Z own index) (hcw : Jvm.Lit.compactW.before a0 Z = true)
    {vs : List Value} {z : Int32} (ht : (∀ c ∈ text.toList, c.toNat < 256) ∧ text.toList.map (fun c => Value.int (Jvm.Lit.byteI c.toNat.toUInt16)) = vs) (hz : ¬ z < 0) (hlz : z.toNatClampNeg = vs.length) (n : Nat) (hn : 4 * text.toList.length ≤ n) (hbig : n ≤ 536870912) (hc : cells + 2 ≤ R.cells) (hl : slots + (n + 4) ≤ R.slots) (hd : decode B pc = .ok (.ldc index, 2))
    (k : ∀ T' h' vm1 a b kc, Wk p l e R s vm1 m args below meth c Z own n0 B ML ret T' h' locs (cells + 2) (slots + (n + 4)) → Ext h h' → Exa Z h' a "java/lang/String" → Fld Z h' a "java/lang/String" "coder" "B" (.int 0) → Fld Z h' a "java/lang/String" "value" "[B" (.ref b) → Arv Z h' b kc .byte z vs (.int 0) → IB Z vm1 (text :: Ts) → Lit (s.setVm vm1) own index a → Wp p e below Post T' (mkF m (pc + 2) L (.ref a :: S))) : Wp p e below Post T (mkF m pc L S) := by
  obtain ⟨a, T', h', k1, b, kc, X', e', E', hS', hk', hZ', ho', f1, f2, f3, f4, -, -, f5, f6, st⟩ := ldcSVL W.st W.exec W.wZ W.own' w wS W.heap W.since (Nat.le_refl _) N hkeep I hnot hh hcw ht hz hlz (g := mkF m pc L S) rfl (hb W.bytes hd) hn hbig hc hl
  exact (k T' h' T'.vm a b kc ⟨X', ⟨hS'.1, hS'.2.mono hk'⟩, hZ', ho', e', W.fr, W.exec, W.bytes, W.ml, W.ret', W.lk⟩ E' f1 f2 f3 f4 f5 f6).imp st
theorem w_ldcAgain (W : Wk p l e R s vm0 m args below meth c Z own n0 B ML ret T h locs cells slots) {index : Nat} {text : String} {a : Addr} (w : (Jvm.Cond.stringLink own index text).before a0 Z = true) (Lt : Lit (s.setVm vm0) own index a) (hd : decode B pc = .ok (.ldc index, 2)) (hr : Wp p e below Post T (mkF m (pc + 2) L (.ref a :: S))) : Wp p e below Post T (mkF m pc L S) :=
  hr.imp fun t q => ldcAgain W.st W.exec W.wZ W.own' w Lt (g := mkF m pc L S) rfl (hb W.bytes hd) t q
/-! small facts on heaps -/
theorem own_extKeep {h1 h2 h3 : Heap} {ws : List Addr} (E : Ext h1 h2) (K : Keep h2 h3 ws) (q : ∀ x ∈ ws, h1.size ≤ x) : Ext h1 h3 :=
  ⟨Nat.le_trans E.1 K.1, fun a c hc => K.2.1 a c (E.2 a c hc) fun hm => absurd (Array.getElem?_eq_some_iff.mp hc).1 (Nat.not_lt.mpr (q a hm))⟩
theorem own_extRefl (h1 : Heap) : Ext h1 h1 := ⟨Nat.le_refl _, fun _ _ q => q⟩
theorem own_extTrans {h1 h2 h3 : Heap} (E : Ext h1 h2) (E' : Ext h2 h3) : Ext h1 h3 := ⟨Nat.le_trans E.1 E'.1, fun a c q => E'.2 a c (E.2 a c q)⟩
theorem own_extWr {h1 h2 h3 : Heap} {a : Addr} {sl : Nat} {v : Value} (E : Ext h1 h2) (W : Wr h2 h3 a sl v) (q : h1.size ≤ a) : Ext h1 h3 := own_extKeep E (Keep.of_wr W) (allS q all0)
theorem own_keepOf {h1 h2 : Heap} {ws : List Addr} (E : Ext h1 h2) : Keep h1 h2 ws := (Keep.refl h1 ws).ext E
theorem own_ltNe {a b n : Nat} (q : a < n) (r : n ≤ b) : a ≠ b := Nat.ne_of_lt (Nat.lt_of_lt_of_le q r)
end OwnKit2

/-! OwnKit, third part: doubles -/
section OwnKit3
open Jvm.Free.Fl
variable {p : Program} {l : Launch} {e : Env} {R : Room} {s : State} {vm0 : Vm} {m : MethodId} {args : Array Value} {below : List Frame} {meth : Method} {c : Code} {Z : State} {own : String} {n0 : Nat} {B : ByteArray} {ML : Nat} {ret : Option FieldType} {T : State} {h : Heap} {locs : List Loc} {cells slots : Nat} {a0 : Array Value} {Post : Outcome → State → Prop} {pc : Nat} {L : Array Slot} {S : List Value}
theorem w_dload (W : Wk p l e R s vm0 m args below meth c Z own n0 B ML ret T h locs cells slots) {k : Nat} {v : UInt64} (hd : decode B pc = .ok (.dload k, 2)) (hl : L[k]? = some (.val (.double v))) (hr : Wp p e below Post T (mkF m (pc + 2) L (.double v :: S))) : Wp p e below Post T (mkF m pc L S) :=
  hr.imp fun t q => XS.dload W.here W.exec rfl (hb W.bytes hd) hl q
theorem w_dloadN (W : Wk p l e R s vm0 m args below meth c Z own n0 B ML ret T h locs cells slots) {k : Fin 4} {v : UInt64} (hd : decode B pc = .ok (.dload_n k, 1)) (hl : L[k.val]? = some (.val (.double v))) (hr : Wp p e below Post T (mkF m (pc + 1) L (.double v :: S))) : Wp p e below Post T (mkF m pc L S) :=
  hr.imp fun t q => XS.dloadN W.here W.exec rfl (hb W.bytes hd) hl q
theorem w_dstore (W : Wk p l e R s vm0 m args below meth c Z own n0 B ML ret T h locs cells slots) {k : Nat} {v : UInt64} {L' : Array Slot} (hd : decode B pc = .ok (.dstore k, 2)) (hl : storeLocals L k (.double v) = some L') (hr : Wp p e below Post T (mkF m (pc + 2) L' S)) : Wp p e below Post T (mkF m pc L (.double v :: S)) :=
  hr.imp fun t q => XS.dstore W.here W.exec rfl (hb W.bytes hd) rfl hl q
theorem w_dstoreN (W : Wk p l e R s vm0 m args below meth c Z own n0 B ML ret T h locs cells slots) {k : Fin 4} {v : UInt64} {L' : Array Slot} (hd : decode B pc = .ok (.dstore_n k, 1)) (hl : storeLocals L k.val (.double v) = some L') (hr : Wp p e below Post T (mkF m (pc + 1) L' S)) : Wp p e below Post T (mkF m pc L (.double v :: S)) :=
  hr.imp fun t q => XS.dstoreN W.here W.exec rfl (hb W.bytes hd) rfl hl q
theorem w_dconst0 (W : Wk p l e R s vm0 m args below meth c Z own n0 B ML ret T h locs cells slots)  (hd : decode B pc = .ok (.dconst 0, 1)) (hr : Wp p e below Post T (mkF m (pc + 1) L (.double FP.dconst0 :: S))) : Wp p e below Post T (mkF m pc L S) :=
  hr.imp fun t q => XS.dconst0 W.here W.exec rfl (hb W.bytes hd) rfl q
theorem w_dconst1 (W : Wk p l e R s vm0 m args below meth c Z own n0 B ML ret T h locs cells slots)  (hd : decode B pc = .ok (.dconst 1, 1)) (hr : Wp p e below Post T (mkF m (pc + 1) L (.double FP.dconst1 :: S))) : Wp p e below Post T (mkF m pc L S) :=
  hr.imp fun t q => XS.dconst1 W.here W.exec rfl (hb W.bytes hd) rfl q
theorem w_i2d (W : Wk p l e R s vm0 m args below meth c Z own n0 B ML ret T h locs cells slots) {x : Int32} {z : UInt64} (hd : decode B pc = .ok (.i2d, 1)) (hz : FP.i2d x = z) (hr : Wp p e below Post T (mkF m (pc + 1) L (.double z :: S))) : Wp p e below Post T (mkF m pc L (.int x :: S)) :=
  hr.imp fun t q => XS.i2dS W.here W.exec rfl (hb W.bytes hd) rfl hz q
theorem w_l2d (W : Wk p l e R s vm0 m args below meth c Z own n0 B ML ret T h locs cells slots) {x : Int64} {z : UInt64} (hd : decode B pc = .ok (.l2d, 1)) (hz : FP.l2d x = z) (hr : Wp p e below Post T (mkF m (pc + 1) L (.double z :: S))) : Wp p e below Post T (mkF m pc L (.long x :: S)) :=
  hr.imp fun t q => XS.l2dS W.here W.exec rfl (hb W.bytes hd) rfl hz q
theorem w_d2i (W : Wk p l e R s vm0 m args below meth c Z own n0 B ML ret T h locs cells slots) {x : UInt64} {z : Int32} (hd : decode B pc = .ok (.d2i, 1)) (hz : FP.d2i x = z) (hr : Wp p e below Post T (mkF m (pc + 1) L (.int z :: S))) : Wp p e below Post T (mkF m pc L (.double x :: S)) :=
  hr.imp fun t q => XS.d2iS W.here W.exec rfl (hb W.bytes hd) rfl hz q
theorem w_dcmp (W : Wk p l e R s vm0 m args below meth c Z own n0 B ML ret T h locs cells slots) {o : CmpOp} {x y : UInt64} {z : Int32} (hd : decode B pc = .ok (.dcmp o, 1)) (hz : cmpValue (FP.dcmp x y) o = z) (hr : Wp p e below Post T (mkF m (pc + 1) L (.int z :: S))) : Wp p e below Post T (mkF m pc L (.double y :: .double x :: S)) :=
  hr.imp fun t q => XS.dcmpS W.here W.exec rfl (hb W.bytes hd) rfl hz q
theorem w_dadd (W : Wk p l e R s vm0 m args below meth c Z own n0 B ML ret T h locs cells slots) {x y z : UInt64} (hd : decode B pc = .ok (.dadd, 1)) (hn : NoNaN64 (FP.dadd x y)) (hz : FP.dadd x y = z) (hr : Wp p e below Post T (mkF m (pc + 1) L (.double z :: S))) : Wp p e below Post T (mkF m pc L (.double y :: .double x :: S)) :=
  hr.imp fun t q => XS.daddS W.here W.exec rfl (hb W.bytes hd) rfl hn hz q
theorem w_dsub (W : Wk p l e R s vm0 m args below meth c Z own n0 B ML ret T h locs cells slots) {x y z : UInt64} (hd : decode B pc = .ok (.dsub, 1)) (hn : NoNaN64 (FP.dsub x y)) (hz : FP.dsub x y = z) (hr : Wp p e below Post T (mkF m (pc + 1) L (.double z :: S))) : Wp p e below Post T (mkF m pc L (.double y :: .double x :: S)) :=
  hr.imp fun t q => XS.dsubS W.here W.exec rfl (hb W.bytes hd) rfl hn hz q
theorem w_dmul (W : Wk p l e R s vm0 m args below meth c Z own n0 B ML ret T h locs cells slots) {x y z : UInt64} (hd : decode B pc = .ok (.dmul, 1)) (hn : NoNaN64 (FP.dmul x y)) (hz : FP.dmul x y = z) (hr : Wp p e below Post T (mkF m (pc + 1) L (.double z :: S))) : Wp p e below Post T (mkF m pc L (.double y :: .double x :: S)) :=
  hr.imp fun t q => XS.dmulS W.here W.exec rfl (hb W.bytes hd) rfl hn hz q
theorem w_ddiv (W : Wk p l e R s vm0 m args below meth c Z own n0 B ML ret T h locs cells slots) {x y z : UInt64} (hd : decode B pc = .ok (.ddiv, 1)) (hn : NoNaN64 (FP.ddiv x y)) (hz : FP.ddiv x y = z) (hr : Wp p e below Post T (mkF m (pc + 1) L (.double z :: S))) : Wp p e below Post T (mkF m pc L (.double y :: .double x :: S)) :=
  hr.imp fun t q => XS.ddivS W.here W.exec rfl (hb W.bytes hd) rfl hn hz q
theorem w_abs (W : Wk p l e R s vm0 m args below meth c Z own n0 B ML ret T h locs cells slots) {index : Nat} {x z : UInt64} (w1 : (Jvm.Cond.methodLink own index Abs.absDN).before a0 Z = true) (w2 : (Jvm.Cond.static Abs.absDN).before a0 Z = true) (w3 : (Jvm.Cond.initialized "java/lang/Math").before a0 Z = true) (w4 : (Jvm.Cond.code Abs.absDN Abs.absDCode 2 (some .double)).before a0 Z = true) (hx : NoNaN64 x) (hz : x &&& 0x7fffffffffffffff = z) (Wd : Nat) (hW : (S.map fun v => v.category).sum = Wd) (hL : L.size = ML) (hf : 1 ≤ R.frames) (hl : Wd + 13 ≤ R.locals) (hc : cells ≤ R.cells) (hs : slots ≤ R.slots) (hd : decode B pc = .ok (.invokestatic index, 3))
    (k : ∀ T', Wk p l e R s vm0 m args below meth c Z own n0 B ML ret T' h locs cells slots → Wp p e below Post T' (mkF m (pc + 3) L (.double z :: S))) : Wp p e below Post T (mkF m pc L (.double x :: S)) := by
  obtain ⟨T', X', e', st⟩ := natS W.st W.exec W.wZ (y := Abs.absDN) W.own' w1 w2 w3 w4 (by decide) W.heap (W := Wd) (fun c4 => Abs.absD_pays (W := Wd) x c4 hf hl) (g := mkF m pc L (.double x :: S)) rfl (hL.trans W.ml.symm) (argsL := [.double x]) (rest := S) (lenOf (show parseMethodDescriptor Abs.absDN.desc = some ⟨[.double], some .double⟩ from by decide +kernel) rfl) rfl (by show 2 * 0 + _ ≤ _; rw [hW]; omega) (hb W.bytes hd) hc hs ⟨rfl, hx⟩ (congrArg Value.double hz)
  exact (k T' (W.on X' e' (Nat.le_refl _) W.fr)).imp st
theorem w_max (W : Wk p l e R s vm0 m args below meth c Z own n0 B ML ret T h locs cells slots) {index : Nat} {x y z : UInt64} (w1 : (Jvm.Cond.methodLink own index Abs.maxDN).before a0 Z = true) (w2 : (Jvm.Cond.static Abs.maxDN).before a0 Z = true) (w3 : (Jvm.Cond.initialized "java/lang/Math").before a0 Z = true) (w4 : (Jvm.Cond.code Abs.maxDN Abs.maxDCode 4 (some .double)).before a0 Z = true) (hx : NoNaN64 x) (hy : NoNaN64 y) (hz : Native.java_lang_Math.nans.pick64 true x y = z) (Wd : Nat) (hW : (S.map fun v => v.category).sum = Wd) (hL : L.size = ML) (hf : 1 ≤ R.frames) (hl : Wd + 15 ≤ R.locals) (hc : cells ≤ R.cells) (hs : slots ≤ R.slots) (hd : decode B pc = .ok (.invokestatic index, 3))
    (k : ∀ T', Wk p l e R s vm0 m args below meth c Z own n0 B ML ret T' h locs cells slots → Wp p e below Post T' (mkF m (pc + 3) L (.double z :: S))) : Wp p e below Post T (mkF m pc L (.double y :: .double x :: S)) := by
  obtain ⟨T', X', e', st⟩ := natS W.st W.exec W.wZ (y := Abs.maxDN) W.own' w1 w2 w3 w4 (by decide) W.heap (W := Wd) (fun c4 => Abs.maxD_pays (W := Wd) x y c4 hf hl) (g := mkF m pc L (.double y :: .double x :: S)) rfl (hL.trans W.ml.symm) (argsL := [.double x, .double y]) (rest := S) (lenOf (show parseMethodDescriptor Abs.maxDN.desc = some ⟨[.double, .double], some .double⟩ from by decide +kernel) rfl) rfl (by show 2 * 0 + _ ≤ _; rw [hW]; omega) (hb W.bytes hd) hc hs ⟨rfl, hx, hy⟩ (congrArg Value.double hz)
  exact (k T' (W.on X' e' (Nat.le_refl _) W.fr)).imp st
theorem w_ldc2D (W : Wk p l e R s vm0 m args below meth c Z own n0 B ML ret T h locs cells slots) {index : Nat} {v : UInt64} (w : (Jvm.Cond.constantDouble own index v).before a0 Z = true) (hd : decode B pc = .ok (.ldc2_w index, 3)) (hr : Wp p e below Post T (mkF m (pc + 3) L (.double v :: S))) : Wp p e below Post T (mkF m pc L S) :=
  hr.imp fun t q => W.st.ldc2DoubleC W.exec W.own' (mvT W.wZ w) (g := mkF m pc L S) rfl (hb W.bytes hd) t q
theorem rD {z : UInt64} (W : Wk p l e R s vm0 m args below meth c Z own n0 B ML ret T h locs cells slots) (hret : ret = some .double) (hd : decode B pc = .ok (.dreturn, 1)) {fs : List Frame} (hr : ∀ (f : JFrame) (acts : List Action), f.method = m → f.locked = none → f.entered = [] → (doReturn e (T.setTop f) acts (some (.double z))).1 = T.setFrames fs) : Steps p.tables e below (T.setTop (mkF m pc L (.double z :: S))) (T.setFrames fs) :=
  retOut W.st W.exec (W.ret'.trans hret) rfl (Or.inr (Or.inr (Or.inl ⟨rfl, rfl, z, rfl⟩))) (hb W.bytes hd) hr
theorem n_rD {kc ks : Nat} {Q : Option Value → Heap → Prop} {z : UInt64} (W : Wk p l e R s s.vm m args below meth c Z own n0 B ML ret T h locs cells slots) (hret : ret = some .double) (hd : decode B pc = .ok (.dreturn, 1)) (hc : cells ≤ kc) (hk : slots ≤ ks) (hq : Q (some (.double z)) h) : Wp p e below (PoN n0 s kc ks Q) T (mkF m pc L (.double z :: S)) := endN W (fun q => by rw [hret] at q; cases q) hc hk hq fun fs hr => rD W hret hd hr
theorem w_pop2D (W : Wk p l e R s vm0 m args below meth c Z own n0 B ML ret T h locs cells slots) {v : Value} (hd : decode B pc = .ok (.pop2, 1)) (hc : v.category = 2) (hr : Wp p e below Post T (mkF m (pc + 1) L S)) : Wp p e below Post T (mkF m pc L (v :: S)) := by
  refine hr.imp fun t q => ?_
  have hd' := hb W.bytes hd
  show Steps p.tables e below (T.setTop { method := m, pc := pc, locals := L, stack := v :: S, locked := none }) t
  jvm_step W.here [W.here.top, W.exec, hd', hc]
  exact q

end OwnKit3

section Own513
open Jvm.FP Jvm.Free.Fl
/-- finite, and not below zero -/
def own_Nn (x : UInt64) : Prop := Fin64 x ∧ ¬ (cmpValue (FP.dcmp x FP.dconst0) .g < 0)
theorem own_dfin {i : Int} {x : UInt64} (h : Core.DInt i x) : Fin64 x := by
  rw [fin64_core]
  unfold Core.DInt at h
  cases e : Core.val64 x with
  | fin s c q => exact ⟨s, c, q, e⟩
  | inf s => rw [e] at h; exact h.elim
  | nan => rw [e] at h; exact h.elim
theorem own_isfin {x : UInt64} (h : Fin64 x) : ¬ ((0 : Int32) < cmpValue (FP.dcmp (x &&& 0x7fffffffffffffff) (9218868437227405311 : UInt64)) .g) := by
  have q := (le_max_iff h.noNaN).mpr h
  rcases relLe_iff.mp q with e | e
  · rw [show FP.dcmp (x &&& 0x7fffffffffffffff) (9218868437227405311 : UInt64) = some .lt from e]; decide
  · rw [show FP.dcmp (x &&& 0x7fffffffffffffff) (9218868437227405311 : UInt64) = some .eq from e]; decide
theorem own_d0 : Core.DInt 0 FP.dconst0 := by unfold Core.DInt; rw [show Core.val64 FP.dconst0 = _ from Core.val64_dconst0]; simp [Core.Whole, Core.signed]
theorem own_cmp {i j : Int} : compare i j = if i < j then .lt else if i = j then .eq else .gt := rfl
theorem own_dnn {i : Int} {x : UInt64} (h : Core.DInt i x) (hi : 0 ≤ i) : own_Nn x := ⟨own_dfin h, by
  rw [show FP.dcmp x FP.dconst0 = some (compare i 0) from Core.dcmp_int h own_d0, own_cmp, if_neg (by omega)]
  split <;> decide⟩
theorem own_max {i : Int} {x : UInt64} (h : Core.DInt i x) : Core.DInt (max 0 i) (Native.java_lang_Math.nans.pick64 true FP.dconst0 x) := by
  have e : FP.dcmp FP.dconst0 x = some (compare 0 i) := Core.dcmp_int own_d0 h
  unfold Native.java_lang_Math.nans.pick64
  rw [e, own_cmp]
  by_cases h1 : 0 < i
  · rw [if_pos h1, Int.max_eq_right (by omega)]; exact h
  · rw [if_neg h1, Int.max_eq_left (by omega)]
    by_cases h2 : (0 : Int) = i
    · rw [if_pos h2]; exact own_d0
    · rw [if_neg h2]; exact own_d0
theorem own_ndiv {x k : UInt64} (h : Fin64 x) (hk : Fin64 k) (hz : Nz64 k) : NoNaN64 (FP.ddiv x k) :=
  noNaN64_no.mpr (Core.ddiv_out (noNaN64_no.mp h.noNaN) (fin64_core.mp hk) (nz64_core.mp hz))
theorem own_k3600 : Fin64 (4660134898793709568 : UInt64) ∧ Nz64 (4660134898793709568 : UInt64) := by unfold Fin64 Nz64; decide
theorem own_zero {x : UInt64} (h : Core.DInt 0 x) : x = 0 ∨ x = 9223372036854775808 := Core.zero_bits (by
  have q := Core.dcmp_int h own_d0
  exact q)
theorem own_q3600 {i : Int} {a b : UInt64} (ha : Core.DInt i a) (hb : Core.DInt i b) : cmpValue (FP.dcmp (FP.ddiv a 4660134898793709568) (FP.ddiv b 4660134898793709568)) .l = 0 := by
  by_cases hi : i = 0
  · subst hi
    rcases own_zero ha with rfl | rfl <;> rcases own_zero hb with rfl | rfl <;> decide +kernel
  · cases Core.dint_unique hi ha hb
    exact dcmpV_self (own_ndiv (own_dfin ha) own_k3600.1 own_k3600.2) .l
end Own513

section Own513c
open Jvm.FP Jvm.Free.Fl
/-- sixteen times the number -/
def own_sh : Core.Datum → Core.Datum
  | .fin s c q => .fin s c (q + 4)
  | .inf s => .inf s
  | .nan => .nan
/-- the double is i / 16 -/
def D16 (i : Int) (a : UInt64) : Prop := Core.Whole i (own_sh (Core.val64 a))
theorem own_shU (c : Nat) (q e : Int) : Core.inUnits c (q + 4) (e + 4) = Core.inUnits c q e := by unfold Core.inUnits; rw [show q + 4 - (e + 4) = q - e by omega]
theorem own_shM (q r : Int) : min (q + 4) (r + 4) = min q r + 4 := by omega
theorem own_shSum (x y : Core.Datum) : own_sh (Core.exactSum x y) = Core.exactSum (own_sh x) (own_sh y) := by
  cases x with
  | nan => rfl
  | inf s =>
    cases y with
    | nan => rfl
    | inf t =>
      show own_sh (if s = t then .inf s else .nan) = if s = t then .inf s else .nan
      split <;> rfl
    | fin t d r => rfl
  | fin s c q =>
    cases y with
    | nan => rfl
    | inf t => rfl
    | fin t d r =>
      show Core.Datum.fin _ _ _ = Core.Datum.fin _ _ _
      unfold Core.sumUnits
      rw [own_shM, own_shU, own_shU]
theorem own_shNeg (x : Core.Datum) : own_sh (Core.negate x) = Core.negate (own_sh x) := by cases x <;> rfl
theorem own_shRound {i : Int} {d : Core.Datum} (hi : i.natAbs ≤ 2 ^ 53) (h : Core.Whole i (own_sh d)) : Core.Whole i (own_sh (Core.round Core.b64 d)) := by
  cases d with
  | nan => exact h.elim
  | inf => exact h.elim
  | fin s c q =>
    have h' : Core.Whole i (.fin s c (q + 4)) := h
    have hn := Core.whole_natAbs h'
    have e1 : Core.round Core.b64 (.fin s c q) = Core.roundRatio Core.b64 s i.natAbs 1 (-4) := Core.roundRatio_congr (by decide) (by decide) (by
      rw [show (q - -4).toNat = (q + 4).toNat by omega, show (-4 - q).toNat = (-(q + 4)).toNat by omega, Nat.mul_one, Nat.mul_one]; exact hn)
    rw [e1]
    by_cases i0 : i = 0
    · subst i0
      show Core.Whole 0 (own_sh (Core.roundRatio Core.b64 s 0 1 (-4)))
      rw [show Core.roundRatio Core.b64 s 0 1 (-4) = .fin s 0 Core.b64.qmin from if_pos rfl]
      show Core.signed s (0 * _) = 0 * _
      rw [Nat.zero_mul, Int.zero_mul]; exact Core.signed_zero s
    · obtain ⟨c', q', hfit, hv⟩ := Core.natFit Core.good_b64 Core.wide_b64 s hi
      have qm : Core.b64.qmin = -1074 := by decide
      have hq : Core.b64.qmin + 4 ≤ q' := by
        refine Classical.byContradiction fun hc => ?_
        have t : (0 - q').toNat = 200 + ((0 - q').toNat - 200) := by omega
        have z : (q' - 0).toNat = 0 := by omega
        rw [t, z, Nat.pow_add] at hv
        have pos : 1 ≤ i.natAbs := by omega
        have p1 : 1 ≤ 2 ^ ((0 - q').toNat - 200) := Nat.two_pow_pos _
        have big : 2 ^ 200 ≤ i.natAbs * (2 ^ 200 * 2 ^ ((0 - q').toNat - 200)) := by
          calc 2 ^ 200 = 1 * (2 ^ 200 * 1) := by rw [Nat.one_mul, Nat.mul_one]
            _ ≤ i.natAbs * (2 ^ 200 * 2 ^ ((0 - q').toNat - 200)) := Nat.mul_le_mul pos (Nat.mul_le_mul_left _ p1)
        rw [hv] at big
        have lt : c' < 2 ^ 53 := hfit.1
        have le : (2 : Nat) ^ 53 ≤ 2 ^ 200 := Nat.pow_le_pow_right (by decide) (by decide)
        simp only [Nat.pow_zero, Nat.mul_one] at big
        exact absurd (Nat.lt_of_lt_of_le lt le) (Nat.not_lt.mpr big)
      have hfit' : Core.fits Core.b64 (.fin s c' (q' - 4)) := by
        obtain ⟨f1, f2, f3, f4⟩ := hfit
        refine ⟨f1, by omega, by omega, Or.inr ?_⟩
        rcases f4 with f4 | f4
        · omega
        · exact f4
      rw [Core.roundRatio_exact Core.good_b64 (by decide) hfit' (by rw [show (-4 - (q' - 4)).toNat = (0 - q').toNat by omega, show (q' - 4 - -4).toNat = (q' - 0).toNat by omega]; exact hv)]
      show Core.Whole i (.fin s c' (q' - 4 + 4))
      rw [show q' - 4 + 4 = q' by omega]
      have hs := Core.whole_sign h' i0
      have w0 : Core.Whole i (.fin s i.natAbs 0) := by
        have w := Core.whole_ofInt i
        unfold Core.ofInt at w
        rw [← hs] at w; exact w
      have w1 := Core.whole_round Core.good_b64 Core.wide_b64 hi w0
      rw [show Core.round Core.b64 (.fin s i.natAbs 0) = .fin s c' q' from Core.roundRatio_exact Core.good_b64 (by decide) hfit hv] at w1
      exact w1
theorem D16.fin {i : Int} {a : UInt64} (h : D16 i a) : Fin64 a := by
  rw [fin64_core]
  unfold D16 at h
  cases e : Core.val64 a with
  | fin s c q => exact ⟨s, c, q, e⟩
  | inf s => rw [e] at h; exact h.elim
  | nan => rw [e] at h; exact h.elim
theorem D16.add {i j : Int} {a b : UInt64} (ha : D16 i a) (hb : D16 j b) (h : (i + j).natAbs ≤ 2 ^ 53) : D16 (i + j) (FP.dadd a b) := by
  unfold D16; rw [show FP.dadd a b = Core.dadd a b from rfl, Core.val64_dadd]
  exact own_shRound h (by rw [own_shSum]; exact Core.whole_sum ha hb)
theorem D16.sub {i j : Int} {a b : UInt64} (ha : D16 i a) (hb : D16 j b) (h : (i - j).natAbs ≤ 2 ^ 53) : D16 (i - j) (FP.dsub a b) := by
  unfold D16; rw [show FP.dsub a b = Core.dsub a b from rfl, Core.val64_dsub]
  refine own_shRound h ?_
  rw [own_shSum, own_shNeg, Int.sub_eq_add_neg]; exact Core.whole_sum ha (Core.whole_negate hb)
theorem own_shProd (x y : Core.Datum) {i j : Int} (hx : Core.Whole i x) (hy : Core.Whole j (own_sh y)) : Core.Whole (i * j) (own_sh (Core.exactProduct x y)) := by
  cases x with
  | nan => exact hx.elim
  | inf => exact hx.elim
  | fin s c q =>
    cases y with
    | nan => exact hy.elim
    | inf => exact hy.elim
    | fin t d r =>
      have w := Core.whole_product hx (show Core.Whole j (.fin t d (r + 4)) from hy)
      show Core.Whole (i * j) (.fin (s != t) (c * d) (q + r + 4))
      rw [show q + r + 4 = q + (r + 4) by omega]; exact w
theorem D16.mul {i j : Int} {a b : UInt64} (hb : Core.DInt j b) (ha : D16 i a) (h : (j * i).natAbs ≤ 2 ^ 53) : D16 (j * i) (FP.dmul b a) := by
  unfold D16; rw [show FP.dmul b a = Core.dmul b a from rfl, Core.val64_dmul]
  exact own_shRound h (own_shProd _ _ hb ha)
theorem own_shOrder (x y : Core.Datum) : Core.order (own_sh x) (own_sh y) = Core.order x y := by
  cases x with
  | nan => rfl
  | inf s => cases y <;> rfl
  | fin s c q =>
    cases y with
    | nan => rfl
    | inf t => rfl
    | fin t d r =>
      show some (compare (Core.signed s (Core.inUnits c (q + 4) (min (q + 4) (r + 4)))) (Core.signed t (Core.inUnits d (r + 4) (min (q + 4) (r + 4))))) = some _
      rw [own_shM, own_shU, own_shU]
theorem D16.cmp {i j : Int} {a b : UInt64} (ha : D16 i a) (hb : D16 j b) : FP.dcmp a b = some (compare i j) := by
  show Core.order (Core.val64 a) (Core.val64 b) = _
  rw [← own_shOrder]; exact Core.order_whole ha hb
theorem own_val16 : Core.val64 (4625196817309499392 : UInt64) = .fin false (2 ^ 52) (-48) := by decide +kernel
theorem D16.of {i : Int} {a : UInt64} (ha : Core.DInt i a) (h : i.natAbs ≤ 2 ^ 53) : D16 i (FP.ddiv a 4625196817309499392) := by
  unfold D16; rw [show FP.ddiv a 4625196817309499392 = Core.ddiv a 4625196817309499392 from rfl, Core.val64_ddiv, own_val16]
  unfold Core.DInt at ha
  cases e : Core.val64 a with
  | nan => rw [e] at ha; exact ha.elim
  | inf => rw [e] at ha; exact ha.elim
  | fin s c q =>
    rw [e] at ha
    have e1 : Core.quotient Core.b64 (.fin s c q) (.fin false (2 ^ 52) (-48)) = Core.round Core.b64 (.fin s c (q - 4)) := by
      show (if (2 ^ 52 : Nat) = 0 then (if c = 0 then Core.Datum.nan else Core.Datum.inf (s != false)) else Core.roundRatio Core.b64 (s != false) c (2 ^ 52) (q - -48)) = Core.roundRatio Core.b64 s c 1 (q - 4)
      rw [if_neg (by decide), show (s != false) = s by cases s <;> rfl]
      refine Core.roundRatio_congr (by decide) (by decide) ?_
      rw [show (q - -48 - (q - 4)).toNat = 52 by omega, show (q - 4 - (q - -48)).toNat = 0 by omega]; simp
    rw [e1]
    refine own_shRound h ?_
    show Core.Whole i (.fin s c (q - 4 + 4))
    rw [show q - 4 + 4 = q by omega]; exact ha
theorem D16.quot {n i : Int} {a b : UInt64} (ha : D16 (n * i) a) (hb : D16 i b) (hi : 0 < i) (hn : 0 ≤ n) (hn2 : n.natAbs ≤ 2 ^ 53) : Core.DInt n (FP.ddiv a b) := by
  unfold Core.DInt; rw [show FP.ddiv a b = Core.ddiv a b from rfl, Core.val64_ddiv]
  unfold D16 at ha hb
  cases e : Core.val64 a with
  | nan => rw [e] at ha; exact ha.elim
  | inf => rw [e] at ha; exact ha.elim
  | fin s c q =>
    cases e2 : Core.val64 b with
    | nan => rw [e2] at hb; exact hb.elim
    | inf => rw [e2] at hb; exact hb.elim
    | fin t d r =>
      rw [e] at ha; rw [e2] at hb
      have ha' : Core.Whole (n * i) (.fin s c (q + 4)) := ha
      have hb' : Core.Whole i (.fin t d (r + 4)) := hb
      have na := Core.whole_natAbs ha'
      have nb := Core.whole_natAbs hb'
      have d0 : d ≠ 0 := fun z => by have := (Core.whole_zero hb').mp z; omega
      have ht : t = false := by have q := Core.whole_sign hb' (by omega); rw [q]; simp; omega
      show Core.Whole n (if d = 0 then (if c = 0 then Core.Datum.nan else Core.Datum.inf (s != t)) else Core.roundRatio Core.b64 (s != t) c d (q - r))
      rw [if_neg d0]
      have cr : Core.roundRatio Core.b64 (s != t) c d (q - r) = Core.round Core.b64 (.fin (s != t) n.natAbs 0) := by
        refine Core.roundRatio_congr (by omega) (by decide) ?_
        rw [Int.natAbs_mul] at na
        rw [Nat.mul_one, show (q - r - 0).toNat = (q - r).toNat by omega, show (0 - (q - r)).toNat = (r - q).toNat by omega]
        have pi : 0 < i.natAbs := by omega
        have P1 := Nat.two_pow_pos (-(q + 4)).toNat
        have P2 := Nat.two_pow_pos (-(r + 4)).toNat
        have key : c * 2 ^ (q + 4).toNat * (2 ^ (-(r + 4)).toNat) = n.natAbs * (d * 2 ^ (r + 4).toNat) * 2 ^ (-(q + 4)).toNat := by
          rw [na, nb]; simp only [Nat.mul_assoc, Nat.mul_comm, Nat.mul_left_comm]
        have x1 : (q + 4).toNat + (-(r + 4)).toNat + (r - q).toNat = (r + 4).toNat + (-(q + 4)).toNat + (q - r).toNat := by omega
        have PB : 0 < 2 ^ ((r + 4).toNat + (-(q + 4)).toNat + (r - q).toNat) := Nat.two_pow_pos _
        refine Nat.eq_of_mul_eq_mul_right PB ?_
        have key2 : c * 2 ^ ((q + 4).toNat + (-(r + 4)).toNat) = n.natAbs * d * 2 ^ ((r + 4).toNat + (-(q + 4)).toNat) := by
          rw [Nat.pow_add, Nat.pow_add, ← Nat.mul_assoc, ← Nat.mul_assoc, key]; simp only [Nat.mul_assoc, Nat.mul_comm, Nat.mul_left_comm]
        calc c * 2 ^ (q - r).toNat * 2 ^ ((r + 4).toNat + (-(q + 4)).toNat + (r - q).toNat)
            = c * 2 ^ ((r + 4).toNat + (-(q + 4)).toNat + (q - r).toNat) * 2 ^ (r - q).toNat := by simp only [Nat.pow_add, Nat.mul_assoc, Nat.mul_comm, Nat.mul_left_comm]
          _ = c * 2 ^ ((q + 4).toNat + (-(r + 4)).toNat + (r - q).toNat) * 2 ^ (r - q).toNat := by rw [x1]
          _ = (c * 2 ^ ((q + 4).toNat + (-(r + 4)).toNat)) * (2 ^ (r - q).toNat * 2 ^ (r - q).toNat) := by simp only [Nat.pow_add, Nat.mul_assoc, Nat.mul_comm, Nat.mul_left_comm]
          _ = (n.natAbs * d * 2 ^ ((r + 4).toNat + (-(q + 4)).toNat)) * (2 ^ (r - q).toNat * 2 ^ (r - q).toNat) := by rw [key2]
          _ = n.natAbs * d * 2 ^ (r - q).toNat * 2 ^ ((r + 4).toNat + (-(q + 4)).toNat + (r - q).toNat) := by simp only [Nat.pow_add, Nat.mul_assoc, Nat.mul_comm, Nat.mul_left_comm]
      rw [cr]
      refine Core.whole_round Core.good_b64 Core.wide_b64 hn2 ?_
      show Core.signed (s != t) (n.natAbs * _) = n * _
      have : Core.signed (s != t) n.natAbs = n := by
        by_cases n0 : n = 0
        · subst n0; exact Core.signed_zero _
        · have hs : s = false := by
            have q := Core.whole_sign ha' (Int.mul_ne_zero n0 (by omega)); rw [q]
            have : 0 ≤ n * i := Int.mul_nonneg hn (by omega)
            simp; omega
          subst hs ht; show (n.natAbs : Int) = n; omega
      simp only [Int.toNat_zero, Nat.pow_zero, Nat.mul_one, Int.neg_zero]; rw [this]; simp
end Own513c

section OwnRint
open Jvm.FP Jvm.Free.Fl Jvm.Free.Fl.Abs Jvm.Free.Hsc
/-- invokestatic of a linked entry, whatever lies under the frame -/
theorem own_invS {p : Program} {l : Launch} {e : Env} {s T : State} {m : MethodId} {below : List Frame} {c : Code} {args : Array Value} (ha : l.admits e) (hW : s.WarmedH T.vm) (h : At T m c below) (hexec : p.tables.exec = Jvm.exec)
    {own : String} {index : Nat} {x : MethodName} (hown : s.vm.findClass own = some m.cls) (hlink : (Cond.methodLink own index x).before args s = true)
    {m' : MethodId} {meth' : Method} {k' : Class} (hn : s.methodNamed? x = some m') (hm' : s.vm.method? m' = some meth') (hstatic : meth'.isStatic = true)
    (hk' : s.vm.classes[m'.cls]? = some k') (hinit : k'.init = .initialized) (hx : x.cls ≠ "java/lang/invoke/MethodHandle" ∧ x.cls ≠ "java/lang/invoke/VarHandle")
    {g : JFrame} (hg : g.method = m) {argsL rest : List Value} (hlen : argsL.length = meth'.sig.parameters.length) (hstack : g.stack = argsL.reverse ++ rest) (hdg : decode c.code g.pc = .ok (.invokestatic index, 3)) :
    ∃ vm', s.WarmedH vm' ∧ ∀ target, (∀ acts, Steps p.tables e below (doInvoke e ((T.setVm vm').setTop { g with stack := rest }) acts m' argsL.toArray).1 target) → Steps p.tables e below (T.setTop g) target := by
  have q1 : e.platform.magicAccessors = ({} : Platform).magicAccessors := by rw [ha.platform]
  have q2 : e.platform.polymorphicOnlyByInvokevirtual = true := by rw [ha.platform]
  obtain ⟨ci, link, right⟩ := Cond.methodLink_spec hown hn hlink e.platform q1
  obtain ⟨kx, hkx, nx⟩ := className_of_methodNamed hn
  cases hk'.symm.trans hkx
  have E : s.MethodEntry e T.vm m.cls index m' ci := State.methodEntry hW link right fun k hk => by
    cases hk'.symm.trans hk
    rw [nx]; exact hx
  obtain ⟨dk, cfile, nt, mname, mdesc, via, ck, _, hd, hcf, hcp, hnt, -, -, hck, -, nopoly, -⟩ := link.here
  cases hk'.symm.trans hck
  have al := E.warmed.alike
  obtain ⟨dk2, hdk2, ed2⟩ := al.2.2 _ _ hd
  obtain ⟨k2, hk2, e2⟩ := al.2.2 _ _ hk'
  have none1 : (k'.methods.any fun y => y.name == mname && !y.isStatic && signaturePolymorphic k' y) = false := by simp [nopoly]
  have none2 : (k2.methods.any fun y => y.name == mname && !y.isStatic && signaturePolymorphic k2 y) = false := by rw [e2]; exact none1
  refine ⟨T.vm.called m.cls ci index m', E.warmed, fun target hrest => ?_⟩
  subst hg
  jvm_step h [hexec, hdg, invokestatic.wp_cold (e := e) (s := T) (s₀ := s) (f := g) h.top q2 hW E hd hcf hcp hnt hk' none1,
    invokestatic.wp_ready (e := e) (s := T.setVm (T.vm.called g.method.cls ci index m')) (k := k2) (meth := meth') (m := m') (args := argsL) (rest := rest) (f := g)
      h.top ⟨ci, mname, mdesc, via, m'.cls, k2, memberRef_ask_via (e := e) hdk2 (by rw [ed2]; exact hcf) hcp hnt, E.classReady, hk2, none2⟩ E.ready hk2
      (by show (T.vm.called g.method.cls ci index m').method? m' = some meth'; rw [al.method?]; exact hm') (by rw [e2]; exact nopoly meth') hstatic (by rw [e2]; exact hinit) hlen hstack]
  exact fun acts => hrest _
theorem own_ldcD {p : Program} {e : Env} {s T : State} {m : MethodId} {below : List Frame} {c : Code} {args : Array Value} (hW : s.WarmedH T.vm) (h : At T m c below) (hexec : p.tables.exec = Jvm.exec)
    {own : String} {index : Nat} {b : UInt64} (hown : s.vm.findClass own = some m.cls) (w : (Cond.constantDouble own index b).before args s = true) {g : JFrame} (hg : g.method = m) (hdg : decode c.code g.pc = .ok (.ldc2_w index, 3)) {target : State}
    (hrest : Steps p.tables e below (T.setTop { g with pc := g.pc + 3, stack := .double b :: g.stack }) target) : Steps p.tables e below (T.setTop g) target := by
  obtain ⟨k, cf, hk, hcf, hc⟩ := Cond.constantDouble_spec hown w
  obtain ⟨k', hk', he⟩ := hW.alike.2.2 _ _ hk
  subst hg
  jvm_step h [hexec, hdg, ldc2_w.wp_double (s := T) (f := g) h.top hk' (by rw [he]; exact hcf) hc]
  exact hrest
/-- a row of java.lang.Math that answers at once, called from a frame with whatever under it -/
theorem own_row (p : Program) {e : Env} {below : List Frame} {s target : State} {g : JFrame} {c : Code} {r mid : List Frame} (hf : s.frames = .java g :: r) (hmid : r = mid ++ below) (hrunning : s.status = .running) (hrunnable : s.curStatus? = some .runnable) (halone : s.alone = true) (hcodeG : s.code? g.method = some c)
    {m : MethodId} {meth : Method} {k : Class} {cm : Code} {args : Array Value} {ml : Nat} {row : NativeRow} {v : Value} (acts : List Action) (hk : s.vm.classes[m.cls]? = some k) (hx : k.methods[m.idx]? = some meth) (hboot : k.loader = none) (hkn : k.name = "java/lang/Math")
    (hrow : NativeRow.find? p.tables.natives "java/lang/Math" meth.name meth.desc = some row) (hc : meth.code = some cm) (hml : cm.maxLocals = ml) (hl : meth.locks = false) (hfull : e.platform.stackFull s.me s.frames ml = false)
    (hargs : (stepThread p.tables e (s.setFrames (.java (entryFrame m args ml) :: .java g :: r))).1 = (afterNative e { method := m, args := args } (.java g :: r) ((row.sem args).run e (s.setFrames (.native { method := m, args := args } :: .java g :: r)))).1)
    (hrun : ∀ S : State, ∃ acts, (row.sem args).run e S = .ok (some v) S acts) {ig : Instr} {len : Nat} (hdg : decode c.code g.pc = .ok (ig, len))
    (hrest : Steps p.tables e below (s.setFrames (.java { g with pc := g.pc + len, stack := v :: g.stack } :: r)) target) : Steps p.tables e below (doInvoke e s acts m args).1 target := by
  have hcur : s.cur < s.threads.size := State.cur_lt_of_frames hf
  have hm : s.vm.method? m = some meth := by simp [Vm.method?, hk, hx]
  rw [(doInvoke_java (s := s) (e := e) (acts := acts) (args := args) (meth := meth) (code := cm) hm hc hl (by rw [hml]; exact hfull)).1, hml]
  have hU : s.pushFrame (.java { method := m, pc := 0, locals := argsToLocals args ml, stack := [], locked := none }) = s.setFrames (.java (entryFrame m args ml) :: .java g :: r) := by rw [State.pushFrame, hf]; rfl
  rw [hU]
  have hf1 : (s.setFrames (.java (entryFrame m args ml) :: .java g :: r)).frames = .java (entryFrame m args ml) :: .java g :: r := State.frames_setFrames _ hcur
  refine Steps.head ⟨hrunning, by simpa using hrunnable, by simpa using halone⟩ ⟨.java (entryFrame m args ml) :: .java g :: mid, by rw [hf1, hmid]; rfl, by simp, by simp⟩ ?_
  rw [hargs]
  obtain ⟨acts2, hr2⟩ := hrun (s.setFrames (.native { method := m, args := args } :: .java g :: r))
  rw [hr2]
  have hcode : (s.setFrames (.native { method := m, args := args } :: .java g :: r)).code? g.method = some c := by
    have q := hcodeG
    rw [State.code?_eq] at q ⊢
    simpa [State.setFrames] using q
  have hfs : handOver (s.setFrames (.native { method := m, args := args } :: .java g :: r)) (some v) (.java g :: r) = some (.java { g with pc := g.pc + len, stack := v :: g.stack } :: r) := by
    simp [handOver, hcode, hdg, Except.toOption]
  show Steps p.tables e below (doReturn e (s.setFrames (.native { method := m, args := args } :: .java g :: r)) _ (some v)).1 target
  rw [doReturn_native (f := { method := m, args := args }) (below := .java g :: r) (State.frames_setFrames _ hcur) rfl hfs, State.setFrames_setFrames]
  exact hrest
end OwnRint

section OwnRint2
open Jvm.FP Jvm.Free.Fl Jvm.Free.Fl.Abs Jvm.Free.Hsc
open Native.java_lang_Math.nans (rowCopySign64)
def own_rintRow : NativeRow := (NativeRow.find? Native.java_lang_Math.nans.rows "java/lang/Math" "rint" "(D)D").get (by decide +kernel)
set_option maxRecDepth 100000 in
theorem own_rint_row (p : Program) : NativeRow.find? p.tables.natives "java/lang/Math" "rint" "(D)D" = some own_rintRow := by cases p <;> rfl
/-- the row's first half: it calls StrictMath's method -/
theorem own_rint_run (b : UInt64) (e : Env) (S : State) {cS : ClassId} {kS : Class} {i : Nat} (hf : S.vm.findClass "java/lang/StrictMath" = some cS) (hk : S.vm.classes[cS]? = some kS) (hi : kS.init = .initialized) (hm : kS.findMethod "rint" "(D)D" = some i) :
    ∃ acts, (own_rintRow.sem #[.double b]).run e S = .ctl (.call ⟨cS, i⟩ #[.double b] 1 #[]) S acts := by
  have hsem : own_rintRow.sem #[.double b] = (do
      let c ← classNamed "java/lang/StrictMath"
      ensureInit c
      let some i := (← theClass c).findMethod "rint" "(D)D" | modelBug ("StrictMath lacks " ++ "rint")
      callThen ⟨c, i⟩ #[.double b] 1 #[]) := rfl
  have w : wpRun (own_rintRow.sem #[.double b]) (fun _ _ _ => False) (fun c s2 _ => c = .call ⟨cS, i⟩ #[.double b] 1 #[] ∧ s2 = S) e S := by
    rw [hsem]
    simp [jvm, wpRun, W.classNamed_ready hf, W.ensureInit_ready ⟨kS, hk, hi⟩, theClass, callThen, hk, hm]
    exact ⟨rfl, rfl, rfl, rfl⟩
  have w' := (wpRun_iff_run _ _ _ _ _).mp w
  cases hr : (own_rintRow.sem #[.double b]).run e S with
  | ok v s2 a2 => rw [hr] at w'; exact w'.elim
  | ctl x s2 a2 =>
    rw [hr] at w'
    have q : x = .call ⟨cS, i⟩ #[.double b] 1 #[] ∧ s2 = S := by cases x <;> first | exact w' | exact w'.elim
    obtain ⟨rfl, rfl⟩ := q
    exact ⟨_, rfl⟩
/-- .. and its second: it hands the answer on -/
theorem own_rint_resume {r : UInt64} (hn : NoNaN64 r) (e : Env) (S : State) : ∃ acts, (own_rintRow.resume 1 #[] (.returned (some (.double r)))).run e S = .ok (some (.double r)) S acts := by
  have hsem : own_rintRow.resume 1 #[] (.returned (some (.double r))) = (do
      let r ← anyNaN64 r
      mark "nat.java_lang_Math.rint"
      Pure.pure (some (.double r))) := rfl
  have hn' : r &&& 0x7fffffffffffffff ≤ 0x7ff0000000000000 := hn
  have w : wpRun (own_rintRow.resume 1 #[] (.returned (some (.double r)))) (fun v s2 _ => v = some (.double r) ∧ s2 = S) (fun _ _ _ => False) e S := by
    rw [hsem]; simp [jvm, wpRun, anyNaN64, hn']
  have w' := (wpRun_iff_run _ _ _ _ _).mp w
  cases hr : (own_rintRow.resume 1 #[] (.returned (some (.double r)))).run e S with
  | ok v s2 a2 => rw [hr] at w'; obtain ⟨rfl, rfl⟩ := w'; exact ⟨_, rfl⟩
  | ctl x s2 a2 => rw [hr] at w'; cases x <;> exact w'.elim
theorem own_cs_run {m g : UInt64} (hg : NoNaN64 g) (e : Env) (S : State) : ∃ acts, (rowCopySign64.sem #[.double m, .double g]).run e S = .ok (some (.double (copySign64 m g))) S acts := by
  have w : wpRun (rowCopySign64.sem #[.double m, .double g]) (fun v s2 _ => v = some (.double (copySign64 m g)) ∧ s2 = S) (fun _ _ _ => False) e S := by
    unfold wpRun
    exact W.copySign64_of (noNaN64_no.mp hg) ⟨rfl, rfl⟩
  have w' := (wpRun_iff_run _ _ _ _ _).mp w
  cases hr : (rowCopySign64.sem #[.double m, .double g]).run e S with
  | ok v s2 a2 => rw [hr] at w'; obtain ⟨rfl, rfl⟩ := w'; exact ⟨_, rfl⟩
  | ctl x s2 a2 => rw [hr] at w'; cases x <;> exact w'.elim
/-- the step at the entry of a method that a row stands for: one double, two doubles -/
theorem own_step1 {p : Program} {e : Env} {S : State} {m : MethodId} {meth : Method} {k : Class} {row : NativeRow} {R : List Frame} {a : UInt64} (hcur : S.cur < S.threads.size) (hk : S.vm.classes[m.cls]? = some k) (hx : k.methods[m.idx]? = some meth) (hboot : k.loader = none) (hkn : k.name = "java/lang/Math")
    (hrow : NativeRow.find? p.tables.natives "java/lang/Math" meth.name meth.desc = some row) (hp : meth.sig.parameters.length = 1) :
    (stepThread p.tables e (S.setFrames (.java (entryFrame m #[.double a] 2) :: R))).1 = (afterNative e { method := m, args := #[.double a] } R ((row.sem #[.double a]).run e (S.setFrames (.native { method := m, args := #[.double a] } :: R)))).1 := by
  have f1 : (S.setFrames (.java (entryFrame m #[.double a] 2) :: R)).frames = .java (entryFrame m #[.double a] 2) :: R := State.frames_setFrames _ hcur
  have ov : overridden p.tables e (S.setFrames (.java (entryFrame m #[.double a] 2) :: R)) (entryFrame m #[.double a] 2) = some row := overridden_some (k := k) (x := meth) rfl hk (by rw [hkn]; decide) hboot hx (by rw [hkn]; exact hrow)
  have b2 : ∀ F : List Frame, ((S.setFrames F).vm.classes[m.cls]?.bind fun y => y.methods[m.idx]?) = some meth := fun F => by
    show (S.vm.classes[m.cls]?.bind fun y => y.methods[m.idx]?) = some meth
    simp [hk, hx]
  have b3 : (S.vm.classes[m.cls]?.bind fun x => x.methods[m.idx]?) = some meth := by simp [hk, hx]
  have tk : ∀ n : Nat, List.take (1 + n) [Value.double a] = [Value.double a] := fun n => List.take_of_length_le (Nat.le_add_right 1 n)
  unfold stepThread
  simp only [f1, ov]
  simp [entryFrame, argsToLocals, Value.category, argCount, b2, b3, hp, tk]
theorem own_step2 {p : Program} {e : Env} {S : State} {m : MethodId} {meth : Method} {k : Class} {row : NativeRow} {R : List Frame} {a b : UInt64} (hcur : S.cur < S.threads.size) (hk : S.vm.classes[m.cls]? = some k) (hx : k.methods[m.idx]? = some meth) (hboot : k.loader = none) (hkn : k.name = "java/lang/Math")
    (hrow : NativeRow.find? p.tables.natives "java/lang/Math" meth.name meth.desc = some row) (hp : meth.sig.parameters.length = 2) :
    (stepThread p.tables e (S.setFrames (.java (entryFrame m #[.double a, .double b] 4) :: R))).1 = (afterNative e { method := m, args := #[.double a, .double b] } R ((row.sem #[.double a, .double b]).run e (S.setFrames (.native { method := m, args := #[.double a, .double b] } :: R)))).1 := by
  have f1 : (S.setFrames (.java (entryFrame m #[.double a, .double b] 4) :: R)).frames = .java (entryFrame m #[.double a, .double b] 4) :: R := State.frames_setFrames _ hcur
  have ov : overridden p.tables e (S.setFrames (.java (entryFrame m #[.double a, .double b] 4) :: R)) (entryFrame m #[.double a, .double b] 4) = some row := overridden_some (k := k) (x := meth) rfl hk (by rw [hkn]; decide) hboot hx (by rw [hkn]; exact hrow)
  have b2 : ∀ F : List Frame, ((S.setFrames F).vm.classes[m.cls]?.bind fun y => y.methods[m.idx]?) = some meth := fun F => by
    show (S.vm.classes[m.cls]?.bind fun y => y.methods[m.idx]?) = some meth
    simp [hk, hx]
  have b3 : (S.vm.classes[m.cls]?.bind fun x => x.methods[m.idx]?) = some meth := by simp [hk, hx]
  have tk : ∀ n : Nat, List.take (2 + n) [Value.double a, Value.double b] = [Value.double a, Value.double b] := fun n => List.take_of_length_le (Nat.le_add_right 2 n)
  unfold stepThread
  simp only [f1, ov]
  simp [entryFrame, argsToLocals, Value.category, argCount, b2, b3, hp, tk]
/-- how much of the stack is in use, as the machine counts it, with a frame of rint's over a row's frame -/
theorem own_full {pl : Platform} {T : State} {vm : Vm} {f : JFrame} {nf : NFrame} {F : List Frame} {ml : Nat} (hcur : T.cur < T.threads.size) (hw : nf.words = 0) (hm : f.monitorRoom = 0) (hs : f.locals.size + operandWords f.stack + ml ≤ 50) (h1 : F.length + 3 ≤ (pl.stackLimits T.me).1) (h2 : (stackUse F).2 + 100 ≤ (pl.stackLimits T.me).2) :
    pl.stackFull ((T.setVm vm).setFrames (.java f :: .native nf :: F)).me ((T.setVm vm).setFrames (.java f :: .native nf :: F)).frames ml = false := by
  have fr : ((T.setVm vm).setFrames (.java f :: .native nf :: F)).frames = .java f :: .native nf :: F := State.frames_setFrames _ hcur
  have lim : pl.stackLimits ((T.setVm vm).setFrames (.java f :: .native nf :: F)).me = pl.stackLimits T.me := State.stackLimits_setFrames pl (T.setVm vm) _
  refine Platform.stackFull_eq_false ?_ ?_
  · rw [fr, lim]; simp only [List.length_cons]; omega
  · rw [fr, lim, stackUse_java, stackUse_light (.native nf) F (fun f q => by cases q) hw]; simp only [hm]; omega
theorem own_full0 {pl : Platform} {T : State} {vm : Vm} {nf : NFrame} {F : List Frame} {ml : Nat} (hcur : T.cur < T.threads.size) (hw : nf.words = 0) (hs : ml ≤ 50) (h1 : F.length + 3 ≤ (pl.stackLimits T.me).1) (h2 : (stackUse F).2 + 100 ≤ (pl.stackLimits T.me).2) :
    pl.stackFull ((T.setVm vm).setFrames (.native nf :: F)).me ((T.setVm vm).setFrames (.native nf :: F)).frames ml = false := by
  have fr : ((T.setVm vm).setFrames (.native nf :: F)).frames = .native nf :: F := State.frames_setFrames _ hcur
  have lim : pl.stackLimits ((T.setVm vm).setFrames (.native nf :: F)).me = pl.stackLimits T.me := State.stackLimits_setFrames pl (T.setVm vm) _
  refine Platform.stackFull_eq_false ?_ ?_
  · rw [fr, lim]; simp only [List.length_cons]; omega
  · rw [fr, lim, stackUse_light (.native nf) F (fun f q => by cases q) hw]; simp only []; omega
end OwnRint2

section OwnRint3
open Jvm.FP Jvm.Free.Fl Jvm.Free.Fl.Abs Jvm.Free.Hsc
open Native.java_lang_Math.nans (rowCopySign64)
/-- what a code word tells of a method's record, at warmer tables -/
theorem own_rec {s : State} {vm : Vm} {y : MethodName} {B : ByteArray} {ML : Nat} {ret : Option FieldType} {mk : MethodId} {aw : Array Value} (hW : s.WarmedH vm) (hn : s.methodNamed? y = some mk) (wc : (Cond.code y B ML ret).before aw s = true) :
    ∃ k meth c, vm.classes[mk.cls]? = some k ∧ k.methods[mk.idx]? = some meth ∧ k.loader = none ∧ k.name = y.cls ∧ meth.name = y.name ∧ meth.desc = y.desc ∧ vm.method? mk = some meth ∧ meth.code = some c ∧ c.code = B ∧ c.maxLocals = ML ∧ meth.sig.returnType = ret ∧ meth.locks = false ∧ parseMethodDescriptor y.desc = some meth.sig := by
  have hnU : (s.setVm vm).methodNamed? y = some mk := (State.methodNamed?_setVm hW.alike y).trans hn
  have wU : (Cond.code y B ML ret).before aw (s.setVm vm) = true := Cond.tabsOnly_warm (T := s) hW _ rfl wc
  obtain ⟨meth, c, h1, h2, h3, h4, h5, h6, -, h8⟩ := Cond.code_spec hnU wU
  obtain ⟨k, hk, hkn⟩ := className_of_methodNamed hnU
  obtain ⟨n1, n2⟩ := name_of_methodNamed hnU h1
  have hx : k.methods[mk.idx]? = some meth := by
    have hk2 : vm.classes[mk.cls]? = some k := hk
    have q : vm.method? mk = some meth := h1
    simpa [Vm.method?, hk2] using q
  exact ⟨k, meth, c, hk, hx, Vm.bootOf_findClass (findClass_of_methodNamed hnU) hk, hkn, n1, n2, h1, h2, h3, h4, h5, h6, h8⟩
theorem own_find {s : State} {vm : Vm} {y : MethodName} {mk : MethodId} (hW : s.WarmedH vm) (hn : s.methodNamed? y = some mk) : ∃ k, vm.findClass y.cls = some mk.cls ∧ vm.classes[mk.cls]? = some k ∧ k.findMethod y.name y.desc = some mk.idx := by
  have hnU : (s.setVm vm).methodNamed? y = some mk := (State.methodNamed?_setVm hW.alike y).trans hn
  have hc := findClass_of_methodNamed hnU
  obtain ⟨k, hk, -⟩ := className_of_methodNamed hnU
  have q := hnU
  simp only [State.methodNamed?, hc, hk, Option.bind_eq_bind, Option.bind_some, Option.bind_eq_some_iff, Option.pure_def, Option.some.injEq] at q
  obtain ⟨i, hi, hm⟩ := q
  refine ⟨k, hc, hk, ?_⟩
  rw [hi, ← hm]
theorem own_init {s : State} {vm : Vm} {C : String} {c : ClassId} {k : Class} {aw : Array Value} (hW : s.WarmedH vm) (w : (Cond.initialized C).before aw s = true) (hc : vm.findClass C = some c) (hk : vm.classes[c]? = some k) : k.init = .initialized :=
  Cond.initialized_spec (s := s.setVm vm) hc hk (Cond.tabsOnly_warm (args' := aw) (T := s) hW _ rfl w)
end OwnRint3

section OwnRint4
open Jvm.FP Jvm.Free.Fl Jvm.Free.Fl.Abs Jvm.Free.Hsc
open Native.java_lang_Math.nans (rowCopySign64)
def own_rN : MethodName := ⟨"java/lang/Math", "rint", "(D)D"⟩
def own_sN : MethodName := ⟨"java/lang/StrictMath", "rint", "(D)D"⟩
def own_cN : MethodName := ⟨"java/lang/Math", "copySign", "(DD)D"⟩
theorem own_pd1 : parseMethodDescriptor "(D)D" = some ⟨[.double], some .double⟩ := by decide +kernel
theorem own_pd2 : parseMethodDescriptor "(DD)D" = some ⟨[.double, .double], some .double⟩ := by decide +kernel
theorem own_topS {T : State} {vm : Vm} {f f' : JFrame} {R : List Frame} (hcur : T.cur < T.threads.size) : ((T.setVm vm).setFrames (.java f :: R)).setTop f' = (T.setVm vm).setFrames (.java f' :: R) := by
  have fr : ((T.setVm vm).setFrames (.java f :: R)).frames = .java f :: R := State.frames_setFrames _ hcur
  rw [State.setTop_of_frames _ fr, State.setFrames_setFrames]
/-- Math.copySign and Math.abs, called by rint's body under a row's frame -/
theorem own_callC {p : Program} {l : Launch} {e : Env} {s T : State} {vm : Vm} {aw : Array Value} {below R mid : List Frame} {mS mC : MethodId} {c : Code} {f : JFrame} {a b : UInt64} {rest : List Value} {B : ByteArray} {index : Nat} (ha : l.admits e) (hexec : p.tables.exec = Jvm.exec) (hcur : T.cur < T.threads.size)
    (hAt : ∀ vm f, s.WarmedH vm → At ((T.setVm vm).setFrames (.java f :: R)) mS c below) (hR : R = mid ++ below) (hrun : T.status = .running) (hW : s.WarmedH vm) (hown : s.vm.findClass "java/lang/StrictMath" = some mS.cls)
    (hn : s.methodNamed? own_cN = some mC) (wc : (Cond.code own_cN B 4 (some .double)).before aw s = true) (wst : (Cond.static own_cN).before aw s = true) (wi : (Cond.initialized "java/lang/Math").before aw s = true) (wl : (Cond.methodLink "java/lang/StrictMath" index own_cN).before aw s = true)
    (hfm : f.method = mS) (hfs : f.stack = .double b :: .double a :: rest) (hd : decode c.code f.pc = .ok (.invokestatic index, 3)) (hb : NoNaN64 b) (hfull : ∀ vm', e.platform.stackFull ((T.setVm vm').setFrames (.java { f with stack := rest } :: R)).me ((T.setVm vm').setFrames (.java { f with stack := rest } :: R)).frames 4 = false) :
    ∃ vm', s.WarmedH vm' ∧ ∀ target, Steps p.tables e below ((T.setVm vm').setFrames (.java { f with pc := f.pc + 3, stack := .double (copySign64 a b) :: rest } :: R)) target → Steps p.tables e below ((T.setVm vm).setFrames (.java f :: R)) target := by
  obtain ⟨k0, meth0, c0, q1, q2, q3, q4, q5, q6, q7, q8, q9, q10, q11, q12, q13⟩ := own_rec (State.WarmedH.refl s) hn wc
  have hst : meth0.isStatic = true := Cond.static_spec hn q7 wst
  have hin : k0.init = .initialized := own_init (State.WarmedH.refl s) wi (findClass_of_methodNamed hn) q1
  have hsg : meth0.sig = ⟨[.double, .double], some .double⟩ := Option.some.inj (q13.symm.trans own_pd2)
  obtain ⟨vm1, hW1, k1⟩ := own_invS (x := own_cN) (own := "java/lang/StrictMath") (index := index) (args := aw) ha (T := (T.setVm vm).setFrames (.java f :: R)) hW (hAt vm f hW) hexec hown wl hn q7 hst q1 hin (by decide) (g := f) hfm (argsL := [.double a, .double b]) (rest := rest) (by rw [hsg]; rfl) hfs hd
  refine ⟨vm1, hW1, fun target hrest => ?_⟩
  have k2 := k1 target
  rw [own_topS hcur] at k2
  refine k2 fun acts => ?_
  have e1 : (((T.setVm vm).setFrames (.java f :: R)).setVm vm1).setTop { f with stack := rest } = (T.setVm vm1).setFrames (.java { f with stack := rest } :: R) := own_topS (T := T) (vm := vm1) hcur
  rw [e1]
  obtain ⟨k3, meth3, c3, r1, r2, r3, r4, r5, r6, r7, r8, r9, r10, r11, r12, r13⟩ := own_rec hW1 hn wc
  have hsg3 : meth3.sig = ⟨[.double, .double], some .double⟩ := Option.some.inj (r13.symm.trans own_pd2)
  have A1 := hAt vm1 { f with stack := rest } hW1
  have fr : ((T.setVm vm1).setFrames (.java { f with stack := rest } :: R)).frames = .java { f with stack := rest } :: R := State.frames_setFrames _ hcur
  refine own_row p (g := { f with stack := rest }) (r := R) (mid := mid) (k := k3) (meth := meth3) (cm := c3) (args := #[.double a, .double b]) (ml := 4) (row := rowCopySign64) (v := .double (copySign64 a b)) (c := c) fr hR A1.running A1.runnable A1.alone (by rw [show (({ f with stack := rest } : JFrame).method) = mS from hfm]; exact A1.code) acts r1 r2 r3 r4 (by rw [r5, r6]; exact mathCopySign64_row p) r8 r10 r12 (hfull vm1) ?_ (fun S => own_cs_run hb e S) (ig := .invokestatic index) (len := 3) hd ?_
  · exact own_step2 (p := p) (e := e) (R := .java { f with stack := rest } :: R) (k := k3) (meth := meth3) (row := rowCopySign64) (State.cur_lt_of_frames fr) r1 r2 r3 r4 (by rw [r5, r6]; exact mathCopySign64_row p) (by rw [hsg3]; rfl)
  · rw [State.setFrames_setFrames]; exact hrest
theorem own_callA {p : Program} {l : Launch} {e : Env} {s T : State} {vm : Vm} {aw : Array Value} {below R mid : List Frame} {mS mC : MethodId} {c : Code} {f : JFrame} {a : UInt64} {rest : List Value} {B : ByteArray} {index : Nat} (ha : l.admits e) (hexec : p.tables.exec = Jvm.exec) (hcur : T.cur < T.threads.size)
    (hAt : ∀ vm f, s.WarmedH vm → At ((T.setVm vm).setFrames (.java f :: R)) mS c below) (hR : R = mid ++ below) (hrun : T.status = .running) (hW : s.WarmedH vm) (hown : s.vm.findClass "java/lang/StrictMath" = some mS.cls)
    (hn : s.methodNamed? absDN = some mC) (wc : (Cond.code absDN B 2 (some .double)).before aw s = true) (wst : (Cond.static absDN).before aw s = true) (wi : (Cond.initialized "java/lang/Math").before aw s = true) (wl : (Cond.methodLink "java/lang/StrictMath" index absDN).before aw s = true)
    (hfm : f.method = mS) (hfs : f.stack = .double a :: rest) (hd : decode c.code f.pc = .ok (.invokestatic index, 3)) (hb : NoNaN64 a) (hfull : ∀ vm', e.platform.stackFull ((T.setVm vm').setFrames (.java { f with stack := rest } :: R)).me ((T.setVm vm').setFrames (.java { f with stack := rest } :: R)).frames 2 = false) :
    ∃ vm', s.WarmedH vm' ∧ ∀ target, Steps p.tables e below ((T.setVm vm').setFrames (.java { f with pc := f.pc + 3, stack := .double (a &&& 0x7fffffffffffffff) :: rest } :: R)) target → Steps p.tables e below ((T.setVm vm).setFrames (.java f :: R)) target := by
  obtain ⟨k0, meth0, c0, q1, q2, q3, q4, q5, q6, q7, q8, q9, q10, q11, q12, q13⟩ := own_rec (State.WarmedH.refl s) hn wc
  have hst : meth0.isStatic = true := Cond.static_spec hn q7 wst
  have hin : k0.init = .initialized := own_init (State.WarmedH.refl s) wi (findClass_of_methodNamed hn) q1
  have hsg : meth0.sig = ⟨[.double], some .double⟩ := Option.some.inj (q13.symm.trans own_pd1)
  obtain ⟨vm1, hW1, k1⟩ := own_invS (x := absDN) (own := "java/lang/StrictMath") (index := index) (args := aw) ha (T := (T.setVm vm).setFrames (.java f :: R)) hW (hAt vm f hW) hexec hown wl hn q7 hst q1 hin (by decide) (g := f) hfm (argsL := [.double a]) (rest := rest) (by rw [hsg]; rfl) hfs hd
  refine ⟨vm1, hW1, fun target hrest => ?_⟩
  have k2 := k1 target
  rw [own_topS hcur] at k2
  refine k2 fun acts => ?_
  have e1 : (((T.setVm vm).setFrames (.java f :: R)).setVm vm1).setTop { f with stack := rest } = (T.setVm vm1).setFrames (.java { f with stack := rest } :: R) := own_topS (T := T) (vm := vm1) hcur
  rw [e1]
  obtain ⟨k3, meth3, c3, r1, r2, r3, r4, r5, r6, r7, r8, r9, r10, r11, r12, r13⟩ := own_rec hW1 hn wc
  have hsg3 : meth3.sig = ⟨[.double], some .double⟩ := Option.some.inj (r13.symm.trans own_pd1)
  have A1 := hAt vm1 { f with stack := rest } hW1
  have fr : ((T.setVm vm1).setFrames (.java { f with stack := rest } :: R)).frames = .java { f with stack := rest } :: R := State.frames_setFrames _ hcur
  refine own_row p (g := { f with stack := rest }) (r := R) (mid := mid) (k := k3) (meth := meth3) (cm := c3) (args := #[.double a]) (ml := 2) (row := absDRow) (v := .double (a &&& 0x7fffffffffffffff)) (c := c) fr hR A1.running A1.runnable A1.alone (by rw [show (({ f with stack := rest } : JFrame).method) = mS from hfm]; exact A1.code) acts r1 r2 r3 r4 (by rw [r5, r6]; exact absD_row p) r8 r10 r12 (hfull vm1) ?_ (fun S => absD_run hb e S) (ig := .invokestatic index) (len := 3) hd ?_
  · exact own_step1 (p := p) (e := e) (R := .java { f with stack := rest } :: R) (k := k3) (meth := meth3) (row := absDRow) (State.cur_lt_of_frames fr) r1 r2 r3 r4 (by rw [r5, r6]; exact absD_row p) (by rw [hsg3]; rfl)
  · rw [State.setFrames_setFrames]; exact hrest
end OwnRint4

section OwnRint5
open Jvm.FP Jvm.Free.Fl Jvm.Free.Fl.Abs Jvm.Free.Hsc
def own_K : UInt64 := 4841369599423283200
def own_rv (x : UInt64) : UInt64 := FP.dmul (copySign64 FP.dconst1 x) (FP.dsub (FP.dadd own_K (x &&& 0x7fffffffffffffff)) own_K)
theorem e0 : decode jdk_128_method_19_code 0 = .ok (.ldc2_w 93, 3) := by decide +kernel
theorem e3 : decode jdk_128_method_19_code 3 = .ok (.dstore_n 2, 1) := by decide +kernel
theorem e4 : decode jdk_128_method_19_code 4 = .ok (.dconst 1, 1) := by decide +kernel
theorem e5 : decode jdk_128_method_19_code 5 = .ok (.dload_n 0, 1) := by decide +kernel
theorem e6 : decode jdk_128_method_19_code 6 = .ok (.invokestatic 95, 3) := by decide +kernel
theorem e9 : decode jdk_128_method_19_code 9 = .ok (.dstore 4, 2) := by decide +kernel
theorem e11 : decode jdk_128_method_19_code 11 = .ok (.dload_n 0, 1) := by decide +kernel
theorem e12 : decode jdk_128_method_19_code 12 = .ok (.invokestatic 98, 3) := by decide +kernel
theorem e15 : decode jdk_128_method_19_code 15 = .ok (.dstore_n 0, 1) := by decide +kernel
theorem e16 : decode jdk_128_method_19_code 16 = .ok (.dload_n 0, 1) := by decide +kernel
theorem e17 : decode jdk_128_method_19_code 17 = .ok (.dload_n 2, 1) := by decide +kernel
theorem e18 : decode jdk_128_method_19_code 18 = .ok (.dcmp .g, 1) := by decide +kernel
theorem e19 : decode jdk_128_method_19_code 19 = .ok (.ifCond .ge 9, 3) := by decide +kernel
theorem e22 : decode jdk_128_method_19_code 22 = .ok (.dload_n 2, 1) := by decide +kernel
theorem e23 : decode jdk_128_method_19_code 23 = .ok (.dload_n 0, 1) := by decide +kernel
theorem e24 : decode jdk_128_method_19_code 24 = .ok (.dadd, 1) := by decide +kernel
theorem e25 : decode jdk_128_method_19_code 25 = .ok (.dload_n 2, 1) := by decide +kernel
theorem e26 : decode jdk_128_method_19_code 26 = .ok (.dsub, 1) := by decide +kernel
theorem e27 : decode jdk_128_method_19_code 27 = .ok (.dstore_n 0, 1) := by decide +kernel
theorem e28 : decode jdk_128_method_19_code 28 = .ok (.dload 4, 2) := by decide +kernel
theorem e30 : decode jdk_128_method_19_code 30 = .ok (.dload_n 0, 1) := by decide +kernel
theorem e31 : decode jdk_128_method_19_code 31 = .ok (.dmul, 1) := by decide +kernel
theorem e32 : decode jdk_128_method_19_code 32 = .ok (.dreturn, 1) := by decide +kernel
set_option maxRecDepth 65536 in
set_option maxHeartbeats 4000000 in
/-- StrictMath.rint's body under a row's frame, up to its return -/
theorem own_body {p : Program} {l : Launch} {e : Env} {s T : State} {aw : Array Value} {below R mid : List Frame} {mS mC mA : MethodId} {c : Code} {x : UInt64} {BC BA : ByteArray} (ha : l.admits e) (hexec : p.tables.exec = Jvm.exec) (hcur : T.cur < T.threads.size)
    (hAt : ∀ vm f, s.WarmedH vm → At ((T.setVm vm).setFrames (.java f :: R)) mS c below) (hR : R = mid ++ below) (hrun : T.status = .running) (hW : s.WarmedH T.vm) (hown : s.vm.findClass "java/lang/StrictMath" = some mS.cls) (hB : c.code = jdk_128_method_19_code)
    (w93 : (Cond.constantDouble "java/lang/StrictMath" 93 own_K).before aw s = true)
    (hnC : s.methodNamed? own_cN = some mC) (wcC : (Cond.code own_cN BC 4 (some .double)).before aw s = true) (wsC : (Cond.static own_cN).before aw s = true) (wi : (Cond.initialized "java/lang/Math").before aw s = true) (wlC : (Cond.methodLink "java/lang/StrictMath" 95 own_cN).before aw s = true)
    (hnA : s.methodNamed? absDN = some mA) (wcA : (Cond.code absDN BA 2 (some .double)).before aw s = true) (wsA : (Cond.static absDN).before aw s = true) (wlA : (Cond.methodLink "java/lang/StrictMath" 98 absDN).before aw s = true)
    (hfull : ∀ vm' f ml, f.monitorRoom = 0 → f.locals.size + operandWords f.stack + ml ≤ 50 → e.platform.stackFull ((T.setVm vm').setFrames (.java f :: R)).me ((T.setVm vm').setFrames (.java f :: R)).frames ml = false)
    (hx : NoNaN64 x) (hcmp : cmpValue (FP.dcmp (x &&& 0x7fffffffffffffff) own_K) .g = -1) (n1 : NoNaN64 (FP.dadd own_K (x &&& 0x7fffffffffffffff))) (n2 : NoNaN64 (FP.dsub (FP.dadd own_K (x &&& 0x7fffffffffffffff)) own_K)) (n3 : NoNaN64 (own_rv x)) :
    ∃ vm' L, s.WarmedH vm' ∧ ∀ target, Steps p.tables e below ((T.setVm vm').setFrames (.java (mkF mS 32 L [.double (own_rv x)]) :: R)) target → Steps p.tables e below ((T.setVm T.vm).setFrames (.java (mkF mS 0 #[.val (.double x), .second, .unset, .unset, .unset, .unset] []) :: R)) target := by
  have hd : ∀ {pc : Nat} {i : Instr × Nat}, decode jdk_128_method_19_code pc = .ok i → decode c.code pc = .ok i := fun q => by rw [hB]; exact q
  obtain ⟨vm1, hW1, k1⟩ := own_callC (p := p) (l := l) (e := e) (s := s) (T := T) (vm := T.vm) (aw := aw) (a := FP.dconst1) (b := x) (rest := []) (f := mkF mS 6 #[.val (.double x), .second, .val (.double own_K), .second, .unset, .unset] [.double x, .double FP.dconst1]) ha hexec hcur hAt hR hrun hW hown hnC wcC wsC wi wlC rfl rfl (hd e6) hx (fun vm' => hfull vm' _ 4 rfl (Nat.le_of_ble_eq_true rfl))
  obtain ⟨vm2, hW2, k2⟩ := own_callA (p := p) (l := l) (e := e) (s := s) (T := T) (vm := vm1) (aw := aw) (a := x) (rest := []) (f := mkF mS 12 #[.val (.double x), .second, .val (.double own_K), .second, .val (.double (copySign64 FP.dconst1 x)), .second] [.double x]) ha hexec hcur hAt hR hrun hW1 hown hnA wcA wsA wi wlA rfl rfl (hd e12) hx (fun vm' => hfull vm' _ 2 rfl (Nat.le_of_ble_eq_true rfl))
  refine ⟨vm2, #[.val (.double (FP.dsub (FP.dadd own_K (x &&& 0x7fffffffffffffff)) own_K)), .second, .val (.double own_K), .second, .val (.double (copySign64 FP.dconst1 x)), .second], hW2, fun target hrest => ?_⟩
  have A0 := hAt T.vm (mkF mS 0 #[.val (.double x), .second, .unset, .unset, .unset, .unset] []) hW
  have A1 := hAt vm1 (mkF mS 9 #[.val (.double x), .second, .val (.double own_K), .second, .unset, .unset] [.double (copySign64 FP.dconst1 x)]) hW1
  have A2 := hAt vm2 (mkF mS 15 #[.val (.double x), .second, .val (.double own_K), .second, .val (.double (copySign64 FP.dconst1 x)), .second] [.double (x &&& 0x7fffffffffffffff)]) hW2
  have t0 := fun f' => own_topS (T := T) (vm := T.vm) (f := mkF mS 0 #[.val (.double x), .second, .unset, .unset, .unset, .unset] []) (f' := f') (R := R) hcur
  have t1 := fun f' => own_topS (T := T) (vm := vm1) (f := mkF mS 9 #[.val (.double x), .second, .val (.double own_K), .second, .unset, .unset] [.double (copySign64 FP.dconst1 x)]) (f' := f') (R := R) hcur
  have t2 := fun f' => own_topS (T := T) (vm := vm2) (f := mkF mS 15 #[.val (.double x), .second, .val (.double own_K), .second, .val (.double (copySign64 FP.dconst1 x)), .second] [.double (x &&& 0x7fffffffffffffff)]) (f' := f') (R := R) hcur
  -- from the call of abs to the return
  have s3 : Steps p.tables e below ((T.setVm vm2).setFrames (.java (mkF mS 15 #[.val (.double x), .second, .val (.double own_K), .second, .val (.double (copySign64 FP.dconst1 x)), .second] [.double (x &&& 0x7fffffffffffffff)]) :: R)) target := by
    rw [← t2]
    refine XS.dstoreN A2 hexec rfl (g := mkF mS 15 _ _) (l' := #[.val (.double (x &&& 0x7fffffffffffffff)), .second, .val (.double own_K), .second, .val (.double (copySign64 FP.dconst1 x)), .second]) (hd e15) rfl rfl ?_
    refine XS.dloadN A2 hexec rfl (hd e16) rfl ?_
    refine XS.dloadN A2 hexec rfl (hd e17) rfl ?_
    refine XS.dcmpS A2 hexec rfl (hd e18) rfl hcmp ?_
    refine XS.ifNo A2 hexec rfl (hd e19) rfl (by decide) ?_
    refine XS.dloadN A2 hexec rfl (hd e22) rfl ?_
    refine XS.dloadN A2 hexec rfl (hd e23) rfl ?_
    refine XS.daddS A2 hexec rfl (hd e24) rfl n1 rfl ?_
    refine XS.dloadN A2 hexec rfl (hd e25) rfl ?_
    refine XS.dsubS A2 hexec rfl (hd e26) rfl n2 rfl ?_
    refine XS.dstoreN A2 hexec rfl (l' := #[.val (.double (FP.dsub (FP.dadd own_K (x &&& 0x7fffffffffffffff)) own_K)), .second, .val (.double own_K), .second, .val (.double (copySign64 FP.dconst1 x)), .second]) (hd e27) rfl rfl ?_
    refine XS.dload A2 hexec rfl (hd e28) rfl ?_
    refine XS.dloadN A2 hexec rfl (hd e30) rfl ?_
    refine XS.dmulS A2 hexec rfl (hd e31) rfl n3 rfl ?_
    have q := hrest
    rw [← t2] at q
    exact q
  have s2 := k2 target s3
  have s1 : Steps p.tables e below ((T.setVm vm1).setFrames (.java (mkF mS 9 #[.val (.double x), .second, .val (.double own_K), .second, .unset, .unset] [.double (copySign64 FP.dconst1 x)]) :: R)) target := by
    rw [← t1]
    refine XS.dstore A1 hexec rfl (g := mkF mS 9 _ _) (l' := #[.val (.double x), .second, .val (.double own_K), .second, .val (.double (copySign64 FP.dconst1 x)), .second]) (hd e9) rfl rfl ?_
    refine XS.dloadN A1 hexec rfl (hd e11) rfl ?_
    have q := s2
    rw [← t1] at q
    exact q
  have s0 := k1 target s1
  rw [← t0]
  refine own_ldcD (s := s) (T := (T.setVm T.vm).setFrames (.java (mkF mS 0 #[.val (.double x), .second, .unset, .unset, .unset, .unset] []) :: R)) (args := aw) hW A0 hexec hown w93 (g := mkF mS 0 _ _) rfl (hd e0) ?_
  refine XS.dstoreN A0 hexec rfl (l' := #[.val (.double x), .second, .val (.double own_K), .second, .unset, .unset]) (hd e3) rfl rfl ?_
  refine XS.dconst1 A0 hexec rfl (hd e4) rfl ?_
  refine XS.dloadN A0 hexec rfl (hd e5) rfl ?_
  have q := s0
  rw [← t0] at q
  exact q
set_option maxRecDepth 65536 in
set_option maxHeartbeats 4000000 in
/-- Math.rint, called: the row, StrictMath's body under it, the way back -/
theorem own_rintM {p : Program} {l : Launch} {e : Env} {s T : State} {aw : Array Value} {below r mid : List Frame} {g : JFrame} {c : Code} {ig : Instr} {len : Nat} {mR : MethodId} {x : UInt64} {BR BC BA : ByteArray} (ha : l.admits e) (hexec : p.tables.exec = Jvm.exec) (hW : s.WarmedH T.vm)
    (hf : T.frames = .java g :: r) (hmid : r = mid ++ below) (hrun : T.status = .running) (hrb : T.curStatus? = some .runnable) (hal : T.alone = true) (hcodeG : T.code? g.method = some c) (hdg : decode c.code g.pc = .ok (ig, len))
    (h1 : T.frames.length + 3 ≤ (e.platform.stackLimits T.me).1) (h2 : (stackUse T.frames).2 + 100 ≤ (e.platform.stackLimits T.me).2)
    (hnR : s.methodNamed? own_rN = some mR) (wR : (Cond.code own_rN BR 2 (some .double)).before aw s = true) (wS : (Cond.code own_sN jdk_128_method_19_code 6 (some .double)).before aw s = true) (wiS : (Cond.initialized "java/lang/StrictMath").before aw s = true)
    (w93 : (Cond.constantDouble "java/lang/StrictMath" 93 own_K).before aw s = true)
    (wcC : (Cond.code own_cN BC 4 (some .double)).before aw s = true) (wsC : (Cond.static own_cN).before aw s = true) (wi : (Cond.initialized "java/lang/Math").before aw s = true) (wlC : (Cond.methodLink "java/lang/StrictMath" 95 own_cN).before aw s = true)
    (wcA : (Cond.code absDN BA 2 (some .double)).before aw s = true) (wsA : (Cond.static absDN).before aw s = true) (wlA : (Cond.methodLink "java/lang/StrictMath" 98 absDN).before aw s = true)
    (hx : NoNaN64 x) (hcmp : cmpValue (FP.dcmp (x &&& 0x7fffffffffffffff) own_K) .g = -1) (n1 : NoNaN64 (FP.dadd own_K (x &&& 0x7fffffffffffffff))) (n2 : NoNaN64 (FP.dsub (FP.dadd own_K (x &&& 0x7fffffffffffffff)) own_K)) (n3 : NoNaN64 (own_rv x)) :
    ∃ vm', s.WarmedH vm' ∧ ∀ target acts, Steps p.tables e below ((T.setVm vm').setFrames (.java { g with pc := g.pc + len, stack := .double (own_rv x) :: g.stack } :: r)) target → Steps p.tables e below (doInvoke e T acts mR #[.double x]).1 target := by
  obtain ⟨mS, hnS⟩ := Cond.code_named wS
  obtain ⟨mC, hnC⟩ := Cond.code_named wcC
  obtain ⟨mA, hnA⟩ := Cond.code_named wcA
  have hcur : T.cur < T.threads.size := State.cur_lt_of_frames hf
  obtain ⟨kR, methR, cR, a1, a2, a3, a4, a5, a6, a7, a8, a9, a10, a11, a12, a13⟩ := own_rec hW hnR wR
  obtain ⟨kS, methS, cS, b1, b2, b3, b4, b5, b6, b7, b8, b9, b10, b11, b12, b13⟩ := own_rec hW hnS wS
  obtain ⟨kS', f1, f2, f3⟩ := own_find hW hnS
  have iS : kS'.init = .initialized := own_init hW wiS f1 f2
  have hsgR : methR.sig = ⟨[.double], some .double⟩ := Option.some.inj (a13.symm.trans own_pd1)
  -- the row's frame
  obtain ⟨nf, hnf⟩ : ∃ nf : NFrame, nf = { method := mR, args := #[.double x], stage := 1, saved := #[], awaiting := true, answer := none, words := 0 } := ⟨_, rfl⟩
  have hmS : ∀ vm, s.WarmedH vm → vm.method? mS = some methS := fun vm q => by rw [q.alike.method?, ← hW.alike.method?]; exact b7
  have hAt : ∀ vm f, s.WarmedH vm → At ((T.setVm vm).setFrames (.java f :: (.native nf :: .java g :: r))) mS cS below := fun vm f q => by
    have fr : ((T.setVm vm).setFrames (.java f :: (.native nf :: .java g :: r))).frames = .java f :: (.native nf :: .java g :: r) := State.frames_setFrames _ hcur
    refine ⟨by rw [State.topJava?_eq_some.mpr ⟨_, fr⟩]; rfl, ⟨.native nf :: .java g :: mid, by rw [fr, hmid]; rfl⟩, hrun, by simpa using hrb, by simpa using hal, ?_, ?_⟩
    · rw [State.code?_eq]
      show (vm.method? mS).bind _ = _
      rw [hmS vm q]; exact b8
    · exact State.plainMethod.of_named (s := (T.setVm vm).setFrames (.java f :: (.native nf :: .java g :: r))) (x := own_sN) (plainFor_of_name (by first | (simp [plainName, overriddenIn, own_sN]; done) | decide +kernel)) (show (s.setVm vm).methodNamed? own_sN = some mS from (State.methodNamed?_setVm q.alike own_sN).trans hnS) (hmS vm q)
  have hown : s.vm.findClass "java/lang/StrictMath" = some mS.cls := findClass_of_methodNamed hnS
  obtain ⟨vm2, L, hW2, kB⟩ := own_body (p := p) (l := l) (e := e) (s := s) (T := T) (aw := aw) (R := .native nf :: .java g :: r) (mid := .native nf :: .java g :: mid) (x := x) ha hexec hcur hAt (by rw [hmid]; rfl) hrun hW hown b9 w93 hnC wcC wsC wi wlC hnA wcA wsA wlA
    (fun vm' f ml q1 q2 => by have q := own_full (pl := e.platform) (T := T) (vm := vm') (f := f) (nf := nf) (F := .java g :: r) (ml := ml) hcur (by rw [hnf]) q1 q2 (by rw [← hf]; exact h1) (by rw [← hf]; exact h2); exact q) hx hcmp n1 n2 n3
  refine ⟨vm2, hW2, fun target acts hrest => ?_⟩
  -- into Math.rint
  have hmR : T.vm.method? mR = some methR := a7
  have full0 : e.platform.stackFull T.me T.frames 2 = false := Platform.stackFull_eq_false (by omega) (by omega)
  rw [(doInvoke_java (s := T) (e := e) (acts := acts) (args := #[.double x]) (meth := methR) (code := cR) hmR a8 a12 (by rw [a10]; exact full0)).1, a10]
  have hU : T.pushFrame (.java { method := mR, pc := 0, locals := argsToLocals #[.double x] 2, stack := [], locked := none }) = T.setFrames (.java (entryFrame mR #[.double x] 2) :: .java g :: r) := by rw [State.pushFrame, hf]; rfl
  rw [hU]
  have fr1 : (T.setFrames (.java (entryFrame mR #[.double x] 2) :: .java g :: r)).frames = .java (entryFrame mR #[.double x] 2) :: .java g :: r := State.frames_setFrames _ hcur
  refine Steps.head ⟨hrun, by simpa using hrb, by simpa using hal⟩ ⟨.java (entryFrame mR #[.double x] 2) :: .java g :: mid, by rw [fr1, hmid]; rfl, by simp, by simp⟩ ?_
  rw [own_step1 (p := p) (e := e) (S := T) (R := .java g :: r) (k := kR) (meth := methR) (row := own_rintRow) hcur a1 a2 a3 a4 (by rw [a5, a6]; exact own_rint_row p) (by rw [hsgR]; rfl)]
  obtain ⟨acts2, hr2⟩ := own_rint_run x e (T.setFrames (.native { method := mR, args := #[.double x] } :: .java g :: r)) (cS := mS.cls) (kS := kS') (i := mS.idx) f1 f2 iS f3
  rw [hr2]
  have hw0 : ((T.vm.classes[mR.cls]?).bind fun k => (k.methods[mR.idx]?).map fun n => upcallWords k.name n.name).getD 0 = 0 := by simp [a1, a2, a4, a5, own_rN, upcallWords]
  have e1 : (afterNative e { method := mR, args := #[.double x] } (.java g :: r) (.ctl (.call ⟨mS.cls, mS.idx⟩ #[.double x] 1 #[]) (T.setFrames (.native { method := mR, args := #[.double x] } :: .java g :: r)) acts2)).1 = (doInvoke e ((T.setVm T.vm).setFrames (.native nf :: .java g :: r)) acts2 mS #[.double x]).1 := by
    show (doInvoke e ((T.setFrames _).setFrames _) acts2 ⟨mS.cls, mS.idx⟩ #[.double x]).1 = _
    rw [State.setFrames_setFrames, hnf]
    have q : (((T.setFrames (.native { method := mR, args := #[.double x] } :: .java g :: r)).vm.classes[mR.cls]?).bind fun k => (k.methods[mR.idx]?).map fun n => upcallWords k.name n.name).getD 0 = 0 := hw0
    rw [q]
    rfl
  rw [e1]
  -- into StrictMath.rint
  have frN : ((T.setVm T.vm).setFrames (.native nf :: .java g :: r)).frames = .native nf :: .java g :: r := State.frames_setFrames _ hcur
  have full1 := own_full0 (pl := e.platform) (T := T) (vm := T.vm) (nf := nf) (F := .java g :: r) (ml := 6) hcur (by rw [hnf]) (by decide) (by rw [← hf]; exact h1) (by rw [← hf]; exact h2)
  rw [(doInvoke_java (s := (T.setVm T.vm).setFrames (.native nf :: .java g :: r)) (e := e) (acts := acts2) (args := #[.double x]) (meth := methS) (code := cS) b7 b8 b12 (by rw [b10]; exact full1)).1, b10]
  have hU2 : ((T.setVm T.vm).setFrames (.native nf :: .java g :: r)).pushFrame (.java { method := mS, pc := 0, locals := argsToLocals #[.double x] 6, stack := [], locked := none }) = (T.setVm T.vm).setFrames (.java (mkF mS 0 #[.val (.double x), .second, .unset, .unset, .unset, .unset] []) :: (.native nf :: .java g :: r)) := by
    rw [State.pushFrame, frN, State.setFrames_setFrames]; rfl
  rw [hU2]
  refine kB target ?_
  -- back to the row, and back to the caller
  have A2 := hAt vm2 (mkF mS 32 L [.double (own_rv x)]) hW2
  have fr2 : ((T.setVm vm2).setFrames (.java (mkF mS 32 L [.double (own_rv x)]) :: (.native nf :: .java g :: r))).frames = .java (mkF mS 32 L [.double (own_rv x)]) :: (.native nf :: .java g :: r) := State.frames_setFrames _ hcur
  have back : ∀ (f : JFrame) (acts : List Action), f.method = mS → f.locked = none → f.entered = [] → (doReturn e (((T.setVm vm2).setFrames (.java (mkF mS 32 L [.double (own_rv x)]) :: (.native nf :: .java g :: r))).setTop f) acts (some (.double (own_rv x)))).1 = (T.setVm vm2).setFrames (.native { nf with awaiting := false, answer := some (.returned (some (.double (own_rv x)))) } :: .java g :: r) := fun f acts hm hl he => by
    rw [own_topS hcur]
    rw [(doReturn_plain (s := (T.setVm vm2).setFrames (.java f :: (.native nf :: .java g :: r))) (f := f) (below := .native nf :: .java g :: r) (meth := methS) (State.frames_setFrames _ hcur) (by rw [hm]; exact hmS vm2 hW2) b12 hl he rfl).1, State.setFrames_setFrames]
  have hm' : ((T.setVm vm2).setFrames (.java (mkF mS 32 L [.double (own_rv x)]) :: (.native nf :: .java g :: r))).vm.method? mS = some methS := hmS vm2 hW2
  have hd32 : decode cS.code 32 = .ok (.dreturn, 1) := by rw [b9]; exact e32
  have hn : narrow .double (.double (own_rv x)) = .double (own_rv x) := rfl
  have step1 : Steps p.tables e below ((T.setVm vm2).setFrames (.native { nf with awaiting := false, answer := some (.returned (some (.double (own_rv x)))) } :: .java g :: r)) target → Steps p.tables e below (((T.setVm vm2).setFrames (.java (mkF mS 32 L [.double (own_rv x)]) :: (.native nf :: .java g :: r))).setTop { method := mS, pc := 32, locals := L, stack := [.double (own_rv x)], locked := none }) target := fun q => by
    jvm_step A2 [A2.top, hexec, hd32, hm', b11, hn, Value.isRef]
    refine ⟨methS, hm', b11, fun acts => ?_⟩
    rw [back _ acts rfl rfl rfl]; exact q
  rw [own_topS hcur] at step1
  refine step1 ?_
  -- the row goes on
  subst hnf
  obtain ⟨k2, meth2, c2, d1, d2, d3, d4, d5, d6, -⟩ := own_rec hW2 hnR wR
  have frV : ((T.setVm vm2).setFrames (.native { method := mR, args := #[.double x], stage := 1, saved := #[], awaiting := false, answer := some (.returned (some (.double (own_rv x)))), words := 0 } :: .java g :: r)).frames = .native { method := mR, args := #[.double x], stage := 1, saved := #[], awaiting := false, answer := some (.returned (some (.double (own_rv x)))), words := 0 } :: .java g :: r := State.frames_setFrames _ hcur
  refine Steps.head ⟨hrun, by simpa using hrb, by simpa using hal⟩ ⟨.native { method := mR, args := #[.double x], stage := 1, saved := #[], awaiting := false, answer := some (.returned (some (.double (own_rv x)))), words := 0 } :: .java g :: mid, by rw [frV, hmid]; rfl, by simp, by simp⟩ ?_
  rw [stepThread_resumed' (tb := p.tables) (e := e) (f := { method := mR, args := #[.double x], stage := 1, saved := #[], awaiting := false, answer := some (.returned (some (.double (own_rv x)))), words := 0 }) (rest := .java g :: r) (k := k2) (x := meth2) (row := own_rintRow) (o := .returned (some (.double (own_rv x)))) frV d1 d3 d2 (by rw [d4, d5, d6]; exact own_rint_row p) rfl]
  obtain ⟨acts3, hr3⟩ := own_rint_resume n3 e ((T.setVm vm2).setFrames (.native { method := mR, args := #[.double x], stage := 1, saved := #[], awaiting := false, answer := some (.returned (some (.double (own_rv x)))), words := 0 } :: .java g :: r))
  show Steps p.tables e below (afterNative e _ _ ((own_rintRow.resume 1 #[] (.returned (some (.double (own_rv x))))).run e _)).1 target
  rw [hr3]
  have hcode : ((T.setVm vm2).setFrames (.native { method := mR, args := #[.double x], stage := 1, saved := #[], awaiting := false, answer := some (.returned (some (.double (own_rv x)))), words := 0 } :: .java g :: r)).code? g.method = some c := by
    have q := hcodeG
    rw [State.code?_eq] at q ⊢
    show (vm2.method? g.method).bind _ = _
    rw [hW2.alike.method?, ← hW.alike.method?]; exact q
  have hfs : handOver ((T.setVm vm2).setFrames (.native { method := mR, args := #[.double x], stage := 1, saved := #[], awaiting := false, answer := some (.returned (some (.double (own_rv x)))), words := 0 } :: .java g :: r)) (some (.double (own_rv x))) (.java g :: r) = some (.java { g with pc := g.pc + len, stack := .double (own_rv x) :: g.stack } :: r) := by
    simp [handOver, hcode, hdg, Except.toOption]
  show Steps p.tables e below (doReturn e _ _ (some (.double (own_rv x)))).1 target
  rw [doReturn_native (f := { method := mR, args := #[.double x], stage := 1, saved := #[], awaiting := false, answer := some (.returned (some (.double (own_rv x)))), words := 0 }) (below := .java g :: r) frV rfl hfs, State.setFrames_setFrames]
  exact hrest
end OwnRint5

section OwnRint6
open Jvm.FP Jvm.Free.Fl Jvm.Free.Fl.Abs Jvm.Free.Hsc
variable {p : Program} {l : Launch} {e : Env} {R : Room} {s : State} {vm0 : Vm} {m : MethodId} {args : Array Value} {below : List Frame} {meth : Method} {c : Code} {Z : State} {own : String} {n0 : Nat} {B : ByteArray} {ML : Nat} {ret : Option FieldType} {T : State} {h : Heap} {locs : List Loc} {cells slots : Nat} {a0 : Array Value} {Post : Outcome → State → Prop} {pc : Nat} {L : Array Slot} {S : List Value}
theorem w_rint (W : Wk p l e R s vm0 m args below meth c Z own n0 B ML ret T h locs cells slots) {index : Nat} {x : UInt64} {BR BC BA : ByteArray} (w1 : (Jvm.Cond.methodLink own index own_rN).before a0 Z = true) (w2 : (Jvm.Cond.static own_rN).before a0 Z = true) (wR : (Jvm.Cond.code own_rN BR 2 (some .double)).before a0 Z = true) (wS : (Jvm.Cond.code own_sN jdk_128_method_19_code 6 (some .double)).before a0 Z = true) (wiS : (Jvm.Cond.initialized "java/lang/StrictMath").before a0 Z = true)
    (w93 : (Jvm.Cond.constantDouble "java/lang/StrictMath" 93 own_K).before a0 Z = true)
    (wcC : (Jvm.Cond.code own_cN BC 4 (some .double)).before a0 Z = true) (wsC : (Jvm.Cond.static own_cN).before a0 Z = true) (wi : (Jvm.Cond.initialized "java/lang/Math").before a0 Z = true) (wlC : (Jvm.Cond.methodLink "java/lang/StrictMath" 95 own_cN).before a0 Z = true)
    (wcA : (Jvm.Cond.code absDN BA 2 (some .double)).before a0 Z = true) (wsA : (Jvm.Cond.static absDN).before a0 Z = true) (wlA : (Jvm.Cond.methodLink "java/lang/StrictMath" 98 absDN).before a0 Z = true)
    (hx : NoNaN64 x) (hcmp : cmpValue (FP.dcmp (x &&& 0x7fffffffffffffff) own_K) .g = -1) (n1 : NoNaN64 (FP.dadd own_K (x &&& 0x7fffffffffffffff))) (n2 : NoNaN64 (FP.dsub (FP.dadd own_K (x &&& 0x7fffffffffffffff)) own_K)) (n3 : NoNaN64 (own_rv x))
    (Wd : Nat) (hWd : (S.map fun v => v.category).sum = Wd) (hL : L.size = ML) (hf : 4 ≤ R.frames) (hl : Wd + 101 ≤ R.locals) (hd : decode B pc = .ok (.invokestatic index, 3))
    (k : ∀ T', Wk p l e R s vm0 m args below meth c Z own n0 B ML ret T' h locs cells slots → Wp p e below Post T' (mkF m (pc + 3) L (.double (own_rv x) :: S))) : Wp p e below Post T (mkF m pc L (.double x :: S)) := by
  have hZ := W.wZ
  have X := W.st
  have wR' : (Jvm.Cond.code own_rN BR 2 (some .double)).before args (s.setVm vm0) = true := mvT hZ wR
  obtain ⟨mR, hnR⟩ := Cond.code_named wR'
  obtain ⟨kR, methR, cR, a1, a2, a3, a4, a5, a6, a7, a8, a9, a10, a11, a12, a13⟩ := own_rec (State.WarmedH.refl (s.setVm vm0)) hnR wR'
  have hst : methR.isStatic = true := Cond.static_spec hnR a7 (mvT (args := args) hZ w2)
  have hin : kR.init = .initialized := own_init (State.WarmedH.refl (s.setVm vm0)) (mvT (args := args) hZ wi) (findClass_of_methodNamed hnR) a1
  have hsg : methR.sig = ⟨[.double], some .double⟩ := Option.some.inj (a13.symm.trans own_pd1)
  obtain ⟨vm1, X1, k1⟩ := X.invokestatic W.exec W.own' (mvT (args := args) hZ w1) hnR a7 hst a1 hin (by decide) (g := mkF m pc L (.double x :: S)) rfl (argsL := [.double x]) (rest := S) (by rw [hsg]; rfl) rfl (hb W.bytes hd)
  have ht : ((T.setVm vm1).setTop (mkF m pc L S)).frames = .java (mkF m pc L S) :: below := by rw [State.frames_setTop' _ X1.here.top, X1.tail]
  have hsz : (mkF m pc L S).locals.size = c.maxLocals := hL.trans W.ml.symm
  obtain ⟨-, r2, -, r4⟩ := State.hasRoom_stack X1.room
  rw [State.localsInUse_invoking X1.frames X1.method X1.code] at r4
  rw [X1.frames, List.length_cons] at r2
  have lim : e.platform.stackLimits ((T.setVm vm1).setTop (mkF m pc L S)).me = e.platform.stackLimits (s.setVm vm0).me := (State.stackLimits_setTop _ X1.here.top _).trans X1.limits
  have wgt := stackUse_le_stackWeight (.java (mkF m pc L S) :: below)
  rw [stackWeight_java, hsz] at wgt
  obtain ⟨vm2, hW2, k2⟩ := own_rintM (p := p) (l := l) (e := e) (s := s.setVm vm0) (T := (T.setVm vm1).setTop (mkF m pc L S)) (aw := args) (below := below) (r := below) (mid := []) (g := mkF m pc L S) (c := c) (ig := .invokestatic index) (len := 3) (mR := mR) (x := x) X1.admits W.exec X1.warmed ht rfl X1.here.running (by simpa using X1.here.runnable) (by simpa using X1.here.alone) (by simpa using X1.here.code) (hb W.bytes hd)
    (by rw [ht, lim, List.length_cons]; omega) (by rw [ht, lim]; have q : ((mkF m pc L S).stack.map fun v => v.category).sum = Wd := hWd; have q2 : (mkF m pc L S).monitorRoom = 0 := rfl; rw [q, q2] at wgt; omega)
    hnR wR' (mvT hZ wS) (mvT hZ wiS) (mvT hZ w93) (mvT hZ wcC) (mvT hZ wsC) (mvT hZ wi) (mvT hZ wlC) (mvT hZ wcA) (mvT hZ wsA) (mvT hZ wlA) hx hcmp n1 n2 n3
  refine (k (T.setVm vm2) (W.on (X.noted hW2) W.heap (Nat.le_refl _) W.fr)).imp fun t q => k1 t fun acts => k2 t acts ?_
  have e1 : (((T.setVm vm1).setTop (mkF m pc L S)).setVm vm2).setFrames (.java { (mkF m pc L S) with pc := (mkF m pc L S).pc + 3, stack := .double (own_rv x) :: (mkF m pc L S).stack } :: below) = (T.setVm vm2).setTop (mkF m (pc + 3) L (.double (own_rv x) :: S)) := by
    obtain ⟨g0, hg0⟩ := Option.isSome_iff_exists.mp X1.here.top
    obtain ⟨r0, hr0⟩ := State.topJava?_eq_some.mp hg0
    have hr1 : r0 = below := by have q := X1.tail; rw [hr0] at q; exact q
    rw [State.setTop_of_frames _ hr0, hr1]
    have hr2 : (T.setVm vm2).frames = .java g0 :: below := by rw [← hr1]; exact hr0
    rw [State.setTop_of_frames _ hr2, State.setFrames_setVm, State.setFrames_setFrames]
    rfl
  rw [e1]; exact q
end OwnRint6

section Own513d
open Jvm.FP Jvm.Free.Fl
def own_Ps (x : UInt64) : Prop := Fin64 x ∧ (0 : Int32) < cmpValue (FP.dcmp x FP.dconst0) .g
theorem own_d160 : D16 0 FP.dconst0 := by
  unfold D16; rw [show Core.val64 FP.dconst0 = _ from Core.val64_dconst0]; simp [own_sh, Core.Whole, Core.signed]
theorem D16.nn {i : Int} {x : UInt64} (h : D16 i x) (hi : 0 ≤ i) : ¬ (cmpValue (FP.dcmp x FP.dconst0) .g < 0) := by
  rw [D16.cmp h own_d160, own_cmp, if_neg (by omega)]; split <;> decide
theorem D16.ps {i : Int} {x : UInt64} (h : D16 i x) (hi : 0 < i) : own_Ps x := ⟨h.fin, by
  rw [D16.cmp h own_d160, own_cmp, if_neg (by omega), if_neg (by omega)]; decide⟩
theorem D16.gt {i j : Int} {x y : UInt64} (h : D16 i x) (h' : D16 j y) (hi : j < i) : cmpValue (FP.dcmp x y) .g = 1 := by
  rw [D16.cmp h h', own_cmp, if_neg (by omega), if_neg (by omega)]; rfl
theorem D16.eq {i j : Int} {x y : UInt64} (h : D16 i x) (h' : D16 j y) (hi : i = j) : cmpValue (FP.dcmp x y) .l = 0 := by
  rw [D16.cmp h h', own_cmp, if_neg (by omega), if_pos hi]; rfl
theorem own_dK : Core.DInt 4503599627370496 own_K := by
  unfold Core.DInt; rw [show Core.val64 own_K = .fin false 4503599627370496 0 by decide +kernel]; simp [Core.Whole, Core.signed]
theorem own_dM : Core.DInt 2147483646 (4746794007240114176 : UInt64) := by
  unfold Core.DInt; rw [show Core.val64 (4746794007240114176 : UInt64) = .fin false 9007199246352384 (-22) by decide +kernel]; simp [Core.Whole, Core.signed]
theorem own_d1 : Core.DInt 1 FP.dconst1 := by
  unfold Core.DInt; rw [show Core.val64 FP.dconst1 = .fin false 4503599627370496 (-52) by decide +kernel]; simp [Core.Whole, Core.signed]
theorem own_absP {n : Int} {x : UInt64} (h : Core.DInt n x) (h1 : 1 ≤ n) : x &&& 0x7fffffffffffffff = x := Core.abs_pos (by
  have q := Core.dcmp_int h own_d0
  rw [own_cmp, if_neg (by omega), if_neg (by omega)] at q; exact q)
theorem own_cs {n : Int} {x : UInt64} (h : Core.DInt n x) (h1 : 1 ≤ n) : copySign64 FP.dconst1 x = FP.dconst1 := by
  have e := own_absP h h1
  have q := congrArg UInt64.toNat e
  rw [abs_toNat] at q
  have z : (x >>> 63 == 1) = false := by
    have t : (x >>> 63).toNat = 0 := by
      rw [UInt64.toNat_shiftRight]
      show x.toNat >>> (63 % 64) = 0
      rw [Nat.shiftRight_eq_div_pow]
      have := Nat.mod_lt x.toNat (show 0 < 9223372036854775808 by decide)
      exact Nat.div_eq_of_lt (by show x.toNat < 2 ^ 63; omega)
    simp only [beq_eq_false_iff_ne]
    intro w
    rw [w] at t; exact absurd t (by decide)
  unfold copySign64
  rw [z]; decide
theorem own_rint {n : Int} {x : UInt64} (h : Core.DInt n x) (h1 : 1 ≤ n) (h2 : n ≤ 2097152) :
    NoNaN64 x ∧ cmpValue (FP.dcmp (x &&& 0x7fffffffffffffff) own_K) .g = -1 ∧ NoNaN64 (FP.dadd own_K (x &&& 0x7fffffffffffffff)) ∧ NoNaN64 (FP.dsub (FP.dadd own_K (x &&& 0x7fffffffffffffff)) own_K) ∧ NoNaN64 (own_rv x) ∧ Core.DInt n (own_rv x) := by
  have s1 : Core.DInt (4503599627370496 + n) (FP.dadd own_K x) := Core.dadd_int own_dK h (by omega)
  have s2 : Core.DInt (4503599627370496 + n - 4503599627370496) (FP.dsub (FP.dadd own_K x) own_K) := Core.dsub_int s1 own_dK (by omega)
  have s3 : Core.DInt (1 * (4503599627370496 + n - 4503599627370496)) (FP.dmul FP.dconst1 (FP.dsub (FP.dadd own_K x) own_K)) := Core.dmul_int own_d1 s2 (by omega)
  have s4 : Core.DInt n (own_rv x) := by
    unfold own_rv; rw [own_absP h h1, own_cs h h1]
    have e : 1 * (4503599627370496 + n - 4503599627370496) = n := by omega
    rw [e] at s3; exact s3
  rw [own_absP h h1]
  refine ⟨(own_dfin h).noNaN, ?_, (own_dfin s1).noNaN, (own_dfin s2).noNaN, (own_dfin s4).noNaN, s4⟩
  rw [show FP.dcmp x own_K = some (compare n 4503599627370496) from Core.dcmp_int h own_dK, own_cmp, if_pos (by omega)]; rfl
theorem own_max1 {n : Int} {x : UInt64} (h : Core.DInt n x) (h1 : 1 ≤ n) : Core.DInt n (Native.java_lang_Math.nans.pick64 true FP.dconst1 x) := by
  have e : FP.dcmp FP.dconst1 x = some (compare 1 n) := Core.dcmp_int own_d1 h
  unfold Native.java_lang_Math.nans.pick64
  rw [e, own_cmp]
  by_cases q : 1 < n
  · rw [if_pos q]; exact h
  · have : n = 1 := by omega
    subst this
    rw [if_neg (by decide), if_pos rfl]; exact own_d1
theorem own_lt {n : Int} {x : UInt64} (h : Core.DInt n x) (h2 : n < 2147483646) : cmpValue (FP.dcmp x (4746794007240114176 : UInt64)) .l = -1 := by
  rw [show FP.dcmp x (4746794007240114176 : UInt64) = some (compare n 2147483646) from Core.dcmp_int h own_dM, own_cmp, if_pos h2]; rfl
theorem own_abs0 {n : Int} {x y : UInt64} (h : Core.DInt n x) (h' : Core.DInt n y) (hb : n.natAbs ≤ 2 ^ 52) : NoNaN64 (FP.dsub x y) ∧ (FP.dsub x y) &&& 0x7fffffffffffffff = 0 := by
  have s : Core.DInt (n - n) (FP.dsub x y) := Core.dsub_int h h' (by omega)
  refine ⟨(own_dfin s).noNaN, ?_⟩
  rw [Int.sub_self] at s
  rcases own_zero s with q | q <;> rw [q] <;> decide
theorem own_eps : cmpValue (FP.dcmp 0 (4517329193108106637 : UInt64)) .l = -1 := by decide +kernel
theorem own_b20 (x : Int32) : 0 ≤ (x &&& (1048575 : Int32)).toInt ∧ (x &&& (1048575 : Int32)).toInt ≤ 1048575 := by
  rw [c_mask x (1048575 : Int32) 20 (by decide) (by decide)]; have := Int.emod_nonneg x.toInt (b := ((2 ^ 20 : Nat) : Int)) (by decide); have := Int.emod_lt_of_pos x.toInt (b := ((2 ^ 20 : Nat) : Int)) (by decide); omega
theorem own_b16 (x : Int32) : 0 ≤ (x &&& (65535 : Int32)).toInt ∧ (x &&& (65535 : Int32)).toInt ≤ 65535 := by
  rw [c_mask x (65535 : Int32) 16 (by decide) (by decide)]; have := Int.emod_nonneg x.toInt (b := ((2 ^ 16 : Nat) : Int)) (by decide); have := Int.emod_lt_of_pos x.toInt (b := ((2 ^ 16 : Nat) : Int)) (by decide); omega
theorem own_b31 (x : Int32) : 0 ≤ (x &&& (2147483647 : Int32)).toInt := by
  rw [c_mask x (2147483647 : Int32) 31 (by decide) (by decide)]; exact Int.emod_nonneg x.toInt (by decide)
theorem own_hs {ra : Int32} {sL : Int64} (h : (ra &&& (1048575 : Int32)).toInt64 = sL) : 0 ≤ sL.toInt ∧ sL.toInt ≤ 1048575 := by rw [← h, Int32.toInt_toInt64]; exact own_b20 ra
theorem own_hi {rb : Int32} {iL : Int64} (h : (rb &&& (65535 : Int32)).toInt64 + (1 : Int64) = iL) : 1 ≤ iL.toInt ∧ iL.toInt ≤ 65536 := by
  have q := own_b16 rb
  have e : ((rb &&& (65535 : Int32)).toInt64 + (1 : Int64)).toInt = (rb &&& (65535 : Int32)).toInt + 1 := by
    rw [Int64.toInt_add, Int32.toInt_toInt64]; exact Int.bmod_eq_of_le (by have : (1 : Int64).toInt = 1 := rfl; omega) (by have : (1 : Int64).toInt = 1 := rfl; omega)
  rw [← h, e]; omega
theorem own_hn {rc nI : Int32} (h : (rc &&& (2147483647 : Int32)) % (1048576 : Int32) + (1 : Int32) = nI) : 1 ≤ nI.toInt ∧ nI.toInt ≤ 1048576 := by
  have q := (c_irem (rc &&& (2147483647 : Int32)) 1048576 1048576 rfl).1 (own_b31 rc)
  have a := c_iadd ((rc &&& (2147483647 : Int32)) % (1048576 : Int32)) 1
  rw [h] at a
  have e1 : (1 : Int32).toInt = 1 := rfl
  have r1 := nI.le_toInt; have r2 := nI.toInt_lt
  have p1 := Int.emod_nonneg (rc &&& (2147483647 : Int32)).toInt (b := 1048576) (by decide); have p2 := Int.emod_lt_of_pos (rc &&& (2147483647 : Int32)).toInt (b := 1048576) (by decide)
  rw [q, e1] at a; omega
theorem own_n1 {nI : Int32} (h : 1 ≤ nI.toInt ∧ nI.toInt ≤ 1048576) : (nI + (1 : Int32)).toInt = nI.toInt + 1 := by
  rw [Int32.toInt_add]; exact Int.bmod_eq_of_le (by have : (1 : Int32).toInt = 1 := rfl; omega) (by have : (1 : Int32).toInt = 1 := rfl; omega)
theorem own_nz {nI : Int32} (h : 1 ≤ nI.toInt ∧ nI.toInt ≤ 1048576) : nI + (1 : Int32) ≠ 0 := fun q => by
  have e := own_n1 h; rw [q] at e; have : (0 : Int32).toInt = 0 := rfl; omega
theorem own_hk {rd nI kI : Int32} (hn : 1 ≤ nI.toInt ∧ nI.toInt ≤ 1048576) (h : (rd &&& (2147483647 : Int32)) % (nI + (1 : Int32)) = kI) : 0 ≤ kI.toInt ∧ kI.toInt ≤ nI.toInt := by
  have q := (c_irem (rd &&& (2147483647 : Int32)) (nI + 1) (nI.toInt + 1) (own_n1 hn)).1 (own_b31 rd)
  rw [h] at q
  have p1 := Int.emod_nonneg (rd &&& (2147483647 : Int32)).toInt (b := nI.toInt + 1) (by omega); have p2 := Int.emod_lt_of_pos (rd &&& (2147483647 : Int32)).toInt (b := nI.toInt + 1) (by omega)
  omega
theorem own_prod {n i : Int} (h1 : 0 ≤ n) (h2 : n ≤ 1048576) (h3 : 1 ≤ i) (h4 : i ≤ 65536) : 0 ≤ n * i ∧ n * i ≤ 68719476736 ∧ n ≤ n * i :=
  ⟨Int.mul_nonneg h1 (by omega), by have := Int.mul_le_mul h2 h4 (by omega) (by omega); omega, by have := Int.mul_le_mul_of_nonneg_left h3 h1; omega⟩
theorem own_he {sL iL eL : Int64} {nI : Int32} (hs : 0 ≤ sL.toInt ∧ sL.toInt ≤ 1048575) (hi : 1 ≤ iL.toInt ∧ iL.toInt ≤ 65536) (hn : 0 ≤ nI.toInt ∧ nI.toInt ≤ 1048576) (h : sL + nI.toInt64 * iL = eL) : eL.toInt = sL.toInt + nI.toInt * iL.toInt := by
  have p := own_prod hn.1 hn.2 hi.1 hi.2
  have m : (nI.toInt64 * iL).toInt = nI.toInt * iL.toInt := by rw [Int64.toInt_mul, Int32.toInt_toInt64]; exact Int.bmod_eq_of_le (by omega) (by omega)
  rw [← h, Int64.toInt_add, m]; exact Int.bmod_eq_of_le (by omega) (by omega)
end Own513d

theorem own_wS {Z : State} {a0 : Array Value} (hw : ∀ d ∈ tables_1, d.before a0 Z = true) : ∀ a ∈ Bundle.stringAtoms, a.before a0 Z = true := by
  intro a ha
  simp only [Bundle.stringAtoms, Bundle.sN, List.mem_cons, List.not_mem_nil, or_false] at ha
  rcases ha with rfl | rfl | rfl | rfl | rfl | rfl | rfl
  · exact (hw _ (List.mem_of_getElem? (i := 15) rfl))
  · exact (hw _ (List.mem_of_getElem? (i := 16) rfl))
  · exact (hw _ (List.mem_of_getElem? (i := 17) rfl))
  · exact (hw _ (List.mem_of_getElem? (i := 18) rfl))
  · exact (hw _ (List.mem_of_getElem? (i := 19) rfl))
  · exact (hw _ (List.mem_of_getElem? (i := 20) rfl))
  · exact (hw _ (List.mem_of_getElem? (i := 21) rfl))
theorem ef_4_D (m : MethodId) (x0 : UInt64) : entryFrame m #[(.double x0)] 2 = mkF m 0 #[.val (.double x0), .second] [] := by first | (simp [entryFrame, mkF, argsToLocals, Value.category]; done) | rfl
theorem d4_0 : decode jdk_117_method_8_code 0 = .ok (.dload_n 0, 1) := by decide +kernel
theorem d4_1 : decode jdk_117_method_8_code 1 = .ok (.invokestatic 38, 3) := by decide +kernel
theorem d4_4 : decode jdk_117_method_8_code 4 = .ok (.ldc2_w 111, 3) := by decide +kernel
theorem d4_7 : decode jdk_117_method_8_code 7 = .ok (.dcmp .g, 1) := by decide +kernel
theorem d4_8 : decode jdk_117_method_8_code 8 = .ok (.ifCond .gt 7, 3) := by decide +kernel
theorem d4_11 : decode jdk_117_method_8_code 11 = .ok (.iconst 1, 1) := by decide +kernel
theorem d4_12 : decode jdk_117_method_8_code 12 = .ok (.goto 4, 3) := by decide +kernel
theorem d4_16 : decode jdk_117_method_8_code 16 = .ok (.ireturn, 1) := by decide +kernel
theorem pn_java_lang_Double : plainName "java/lang/Double" = true := by first | (simp [plainName, overriddenIn]; done) | decide +kernel
set_option maxRecDepth 65536 in
set_option maxHeartbeats 40000000 in
theorem ctIf (l : Launch) (Z : State) (a0 : Array Value) (hw : ∀ d ∈ tables_1, d.before a0 Z = true) (x : UInt64) (h0 : Heap) (n0 : Nat) (hx : Jvm.Free.Fl.Fin64 x) :
    CtN l Z (⟨"java/lang/Double", "isFinite", "(D)Z"⟩ : MethodName) jdk_117_method_8_code 2 (some .boolean) ({ frames := 1, cells := 0, slots := 0, locals := 13 } : Room) n0 #[(.double x)] h0 (fun v h => v = some (.int 1) ∧ h0 = h) := by
  refine CtN.of (plainFor_of_name pn_java_lang_Double) ?_
  intro p e s m below meth c T0 W0 hnm
  refine Wp.cast (ef_4_D m x) ?_
  refine w_dloadN W0 d4_0 rfl ?_
  refine w_abs W0 (hw _ (List.mem_of_getElem? (i := 30) rfl)) (hw _ (List.mem_of_getElem? (i := 31) rfl)) (hw _ (List.mem_of_getElem? (i := 32) rfl)) (hw _ (List.mem_of_getElem? (i := 33) rfl)) hx.noNaN (z := (x &&& 0x7fffffffffffffff)) rfl 0 rfl rfl (by decide) (by decide) (by decide) (by decide) d4_1 ?_
  intro T1 W1
  refine w_ldc2D W1 (hw _ (List.mem_of_getElem? (i := 34) rfl)) d4_4 ?_
  refine w_dcmp W1 d4_7 (z := (cmpValue (FP.dcmp (x &&& 0x7fffffffffffffff) (9218868437227405311 : UInt64)) .g)) rfl ?_
  refine w_ifgt W1 (pc' := 15) d4_8 (by decide) (fun c8 => ?_) (fun c8 => ?_)
  · exact absurd c8 (own_isfin hx)
  · refine w_iconst W1 (z := (1 : Int32)) d4_11 (by rfl) ?_
    refine w_goto W1 (pc' := 16) d4_12 (by decide) ?_
    exact n_rN W1 rfl (by simp) (z' := (1 : Int32)) (by rfl) d4_16 (by decide) (by decide) ⟨rfl, rfl⟩
theorem ef_6_RDR (m : MethodId) (x0 : Addr) (x1 : UInt64) (x2 : Addr) : entryFrame m #[(.ref x0), (.double x1), (.ref x2)] 4 = mkF m 0 #[.val (.ref x0), .val (.double x1), .second, .val (.ref x2)] [] := by first | (simp [entryFrame, mkF, argsToLocals, Value.category]; done) | rfl
theorem d6_0 : decode prog_10_method_3_code 0 = .ok (.dload_n 1, 1) := by decide +kernel
theorem d6_1 : decode prog_10_method_3_code 1 = .ok (.invokestatic 26, 3) := by decide +kernel
theorem pd_0 : parseMethodDescriptor "(D)Z" = some ⟨[.double], some .boolean⟩ := by decide +kernel
theorem d6_4 : decode prog_10_method_3_code 4 = .ok (.ifCond .eq 9, 3) := by decide +kernel
theorem d6_7 : decode prog_10_method_3_code 7 = .ok (.dload_n 1, 1) := by decide +kernel
theorem d6_8 : decode prog_10_method_3_code 8 = .ok (.dconst 0, 1) := by decide +kernel
theorem d6_9 : decode prog_10_method_3_code 9 = .ok (.dcmp .g, 1) := by decide +kernel
theorem d6_10 : decode prog_10_method_3_code 10 = .ok (.ifCond .gt 19, 3) := by decide +kernel
theorem d6_29 : decode prog_10_method_3_code 29 = .ok (.dload_n 1, 1) := by decide +kernel
theorem d6_30 : decode prog_10_method_3_code 30 = .ok (.dreturn, 1) := by decide +kernel
theorem pn_com_example_choke_points_chokepoints_model_Checks : plainName "com/example/choke_points/chokepoints/model/Checks" = true := by first | (simp [plainName, overriddenIn]; done) | decide +kernel
set_option maxRecDepth 65536 in
set_option maxHeartbeats 40000000 in
theorem ctPo (l : Launch) (Z : State) (a0 : Array Value) (hw : ∀ d ∈ tables_1, d.before a0 Z = true) (u w : Addr) (x : UInt64) (h0 : Heap) (n0 : Nat) (hx : own_Ps x) :
    CtN l Z (⟨"com/example/choke_points/chokepoints/model/Checks", "positive", "(Ljava/lang/String;DLjava/lang/String;)D"⟩ : MethodName) prog_10_method_3_code 4 (some .double) ({ frames := 2, cells := 0, slots := 0, locals := 26 } : Room) n0 #[(.ref u), (.double x), (.ref w)] h0 (fun v h => v = some (.double x) ∧ h0 = h) := by
  refine CtN.of (plainFor_of_name pn_com_example_choke_points_chokepoints_model_Checks) ?_
  intro p e s m below meth c T0 W0 hnm
  refine Wp.cast (ef_6_RDR m u x w) ?_
  refine w_dloadN W0 d6_0 rfl ?_
  refine w_callS W0 (ctIf l Z a0 hw x _ n0 hx.1) (hw _ (List.mem_of_getElem? (i := 26) rfl)) (hw _ (List.mem_of_getElem? (i := 27) rfl)) (hw _ (List.mem_of_getElem? (i := 28) rfl)) (hw _ (List.mem_of_getElem? (i := 29) rfl)) (by decide) 0 (by decide) (by decide) (by decide) (by decide) (argsL := [(.double x)]) (rest := []) pd_0 rfl rfl rfl rfl rfl d6_1 ?_
  rintro T1 h1 l1 _ W1 ⟨rfl, rfl⟩
  refine w_ifeq W1 (pc' := 13) d6_4 (by decide) (fun c4 => absurd c4 (by decide)) (fun c4 => ?_)
  refine w_dloadN W1 d6_7 rfl ?_
  refine w_dconst0 W1 d6_8 ?_
  refine w_dcmp W1 d6_9 (z := (cmpValue (FP.dcmp x FP.dconst0) .g)) rfl ?_
  refine w_ifgt W1 (pc' := 29) d6_10 (by decide) (fun c10 => ?_) (fun c10 => ?_)
  · refine w_dloadN W1 d6_29 rfl ?_
    exact n_rD W1 rfl d6_30 (by decide) (by decide) ⟨rfl, rfl⟩
  · exact absurd hx.2 c10
theorem ef_3_RDD (m : MethodId) (x0 : Addr) (x1 : UInt64) (x2 : UInt64) : entryFrame m #[(.ref x0), (.double x1), (.double x2)] 5 = mkF m 0 #[.val (.ref x0), .val (.double x1), .second, .val (.double x2), .second] [] := by first | (simp [entryFrame, mkF, argsToLocals, Value.category]; done) | rfl
theorem d3_0 : decode prog_10_method_8_code 0 = .ok (.dload_n 1, 1) := by decide +kernel
theorem d3_1 : decode prog_10_method_8_code 1 = .ok (.invokestatic 26, 3) := by decide +kernel
theorem d3_4 : decode prog_10_method_8_code 4 = .ok (.ifCond .eq 9, 3) := by decide +kernel
theorem d3_7 : decode prog_10_method_8_code 7 = .ok (.dload_n 1, 1) := by decide +kernel
theorem d3_8 : decode prog_10_method_8_code 8 = .ok (.dconst 0, 1) := by decide +kernel
theorem d3_9 : decode prog_10_method_8_code 9 = .ok (.dcmp .g, 1) := by decide +kernel
theorem d3_10 : decode prog_10_method_8_code 10 = .ok (.ifCond .ge 19, 3) := by decide +kernel
theorem d3_29 : decode prog_10_method_8_code 29 = .ok (.dload_n 3, 1) := by decide +kernel
theorem d3_30 : decode prog_10_method_8_code 30 = .ok (.invokestatic 26, 3) := by decide +kernel
theorem d3_33 : decode prog_10_method_8_code 33 = .ok (.ifCond .ne 19, 3) := by decide +kernel
theorem d3_52 : decode prog_10_method_8_code 52 = .ok (.dload_n 3, 1) := by decide +kernel
theorem d3_53 : decode prog_10_method_8_code 53 = .ok (.dload_n 1, 1) := by decide +kernel
theorem d3_54 : decode prog_10_method_8_code 54 = .ok (.dcmp .g, 1) := by decide +kernel
theorem d3_55 : decode prog_10_method_8_code 55 = .ok (.ifCond .gt 19, 3) := by decide +kernel
theorem d3_74 : decode prog_10_method_8_code 74 = .ok (.return_, 1) := by decide +kernel
set_option maxRecDepth 65536 in
set_option maxHeartbeats 40000000 in
theorem ctWi (l : Launch) (Z : State) (a0 : Array Value) (hw : ∀ d ∈ tables_1, d.before a0 Z = true) (u : Addr) (d0 d1 : UInt64) (i0 i1 : Int) (h0 : Heap) (n0 : Nat) (H0 : D16 i0 d0) (H1 : D16 i1 d1) (h0s : 0 ≤ i0) (hlt : i0 < i1) :
    CtN l Z (⟨"com/example/choke_points/chokepoints/model/Checks", "window", "(Ljava/lang/String;DD)V"⟩ : MethodName) prog_10_method_8_code 5 none ({ frames := 2, cells := 0, slots := 0, locals := 26 } : Room) n0 #[(.ref u), (.double d0), (.double d1)] h0 (fun v h => v = none ∧ h0 = h) := by
  refine CtN.of (plainFor_of_name pn_com_example_choke_points_chokepoints_model_Checks) ?_
  intro p e s m below meth c T0 W0 hnm
  refine Wp.cast (ef_3_RDD m u d0 d1) ?_
  refine w_dloadN W0 d3_0 rfl ?_
  refine w_callS W0 (ctIf l Z a0 hw d0 _ n0 H0.fin) (hw _ (List.mem_of_getElem? (i := 26) rfl)) (hw _ (List.mem_of_getElem? (i := 27) rfl)) (hw _ (List.mem_of_getElem? (i := 28) rfl)) (hw _ (List.mem_of_getElem? (i := 29) rfl)) (by decide) 0 (by decide) (by decide) (by decide) (by decide) (argsL := [(.double d0)]) (rest := []) pd_0 rfl rfl rfl rfl rfl d3_1 ?_
  rintro T1 h1 l1 _ W1 ⟨rfl, rfl⟩
  refine w_ifeq W1 (pc' := 13) d3_4 (by decide) (fun c4 => absurd c4 (by decide)) (fun c4 => ?_)
  refine w_dloadN W1 d3_7 rfl ?_
  refine w_dconst0 W1 d3_8 ?_
  refine w_dcmp W1 d3_9 (z := (cmpValue (FP.dcmp d0 FP.dconst0) .g)) rfl ?_
  refine w_ifge W1 (pc' := 29) d3_10 (by decide) (fun c10 => ?_) (fun c10 => ?_)
  · refine w_dloadN W1 d3_29 rfl ?_
    refine w_callS W1 (ctIf l Z a0 hw d1 _ n0 H1.fin) (hw _ (List.mem_of_getElem? (i := 26) rfl)) (hw _ (List.mem_of_getElem? (i := 27) rfl)) (hw _ (List.mem_of_getElem? (i := 28) rfl)) (hw _ (List.mem_of_getElem? (i := 29) rfl)) (by decide) 0 (by decide) (by decide) (by decide) (by decide) (argsL := [(.double d1)]) (rest := []) pd_0 rfl rfl rfl rfl rfl d3_30 ?_
    rintro T2 h2 l2 _ W2 ⟨rfl, rfl⟩
    refine w_ifne W2 (pc' := 52) d3_33 (by decide) (fun c33 => ?_) (fun c33 => absurd c33 (by decide))
    refine w_dloadN W2 d3_52 rfl ?_
    refine w_dloadN W2 d3_53 rfl ?_
    refine w_dcmp W2 d3_54 (z := (1 : Int32)) (H1.gt H0 hlt) ?_
    refine w_ifgt W2 (pc' := 74) d3_55 (by decide) (fun c55 => ?_) (fun c55 => absurd c55 (by decide))
    exact n_rV W2 rfl d3_74 (by decide) (by decide) ⟨rfl, rfl⟩
  · exact absurd c10 (H0.nn h0s)
theorem ef_1_RDDD (m : MethodId) (x0 : Addr) (x1 : UInt64) (x2 : UInt64) (x3 : UInt64) : entryFrame m #[(.ref x0), (.double x1), (.double x2), (.double x3)] 11 = mkF m 0 #[.val (.ref x0), .val (.double x1), .second, .val (.double x2), .second, .val (.double x3), .second, .unset, .unset, .unset, .unset] [] := by first | (simp [entryFrame, mkF, argsToLocals, Value.category]; done) | rfl
theorem d1_0 : decode prog_18_method_1_code 0 = .ok (.aload_n 0, 1) := by decide +kernel
theorem d1_1 : decode prog_18_method_1_code 1 = .ok (.invokespecial 1, 3) := by decide +kernel
theorem d1_4 : decode prog_18_method_1_code 4 = .ok (.ldc 7, 2) := by decide +kernel
theorem d1_6 : decode prog_18_method_1_code 6 = .ok (.dload_n 1, 1) := by decide +kernel
theorem d1_7 : decode prog_18_method_1_code 7 = .ok (.dload_n 3, 1) := by decide +kernel
theorem d1_8 : decode prog_18_method_1_code 8 = .ok (.invokestatic 9, 3) := by decide +kernel
theorem pd_1 : parseMethodDescriptor "(Ljava/lang/String;DD)V" = some ⟨[(.object "java/lang/String"), .double, .double], none⟩ := by decide +kernel
theorem d1_11 : decode prog_18_method_1_code 11 = .ok (.ldc 15, 2) := by decide +kernel
theorem d1_13 : decode prog_18_method_1_code 13 = .ok (.dload 5, 2) := by decide +kernel
theorem d1_15 : decode prog_18_method_1_code 15 = .ok (.ldc 17, 2) := by decide +kernel
theorem d1_17 : decode prog_18_method_1_code 17 = .ok (.invokestatic 19, 3) := by decide +kernel
theorem pd_2 : parseMethodDescriptor "(Ljava/lang/String;DLjava/lang/String;)D" = some ⟨[(.object "java/lang/String"), .double, (.object "java/lang/String")], some .double⟩ := by decide +kernel
theorem d1_20 : decode prog_18_method_1_code 20 = .ok (.pop2, 1) := by decide +kernel
theorem d1_21 : decode prog_18_method_1_code 21 = .ok (.dload_n 3, 1) := by decide +kernel
theorem d1_22 : decode prog_18_method_1_code 22 = .ok (.dload_n 1, 1) := by decide +kernel
theorem d1_23 : decode prog_18_method_1_code 23 = .ok (.dsub, 1) := by decide +kernel
theorem d1_24 : decode prog_18_method_1_code 24 = .ok (.dload 5, 2) := by decide +kernel
theorem d1_26 : decode prog_18_method_1_code 26 = .ok (.ddiv, 1) := by decide +kernel
theorem d1_27 : decode prog_18_method_1_code 27 = .ok (.dstore 7, 2) := by decide +kernel
theorem d1_29 : decode prog_18_method_1_code 29 = .ok (.dload 7, 2) := by decide +kernel
theorem d1_31 : decode prog_18_method_1_code 31 = .ok (.ldc2_w 25, 3) := by decide +kernel
theorem d1_34 : decode prog_18_method_1_code 34 = .ok (.dcmp .l, 1) := by decide +kernel
theorem d1_35 : decode prog_18_method_1_code 35 = .ok (.ifCond .le 20, 3) := by decide +kernel
theorem d1_55 : decode prog_18_method_1_code 55 = .ok (.dconst 1, 1) := by decide +kernel
theorem d1_56 : decode prog_18_method_1_code 56 = .ok (.dload 7, 2) := by decide +kernel
theorem d1_58 : decode prog_18_method_1_code 58 = .ok (.invokestatic 36, 3) := by decide +kernel
theorem d1_61 : decode prog_18_method_1_code 61 = .ok (.invokestatic 42, 3) := by decide +kernel
theorem d1_64 : decode prog_18_method_1_code 64 = .ok (.dstore 9, 2) := by decide +kernel
theorem d1_66 : decode prog_18_method_1_code 66 = .ok (.dload 7, 2) := by decide +kernel
theorem d1_68 : decode prog_18_method_1_code 68 = .ok (.dload 9, 2) := by decide +kernel
theorem d1_70 : decode prog_18_method_1_code 70 = .ok (.dsub, 1) := by decide +kernel
theorem d1_71 : decode prog_18_method_1_code 71 = .ok (.invokestatic 46, 3) := by decide +kernel
theorem d1_74 : decode prog_18_method_1_code 74 = .ok (.ldc2_w 51, 3) := by decide +kernel
theorem d1_77 : decode prog_18_method_1_code 77 = .ok (.dcmp .l, 1) := by decide +kernel
theorem d1_78 : decode prog_18_method_1_code 78 = .ok (.ifCond .le 22, 3) := by decide +kernel
theorem d1_100 : decode prog_18_method_1_code 100 = .ok (.aload_n 0, 1) := by decide +kernel
theorem d1_101 : decode prog_18_method_1_code 101 = .ok (.dload_n 1, 1) := by decide +kernel
theorem d1_102 : decode prog_18_method_1_code 102 = .ok (.putfield 56, 3) := by decide +kernel
theorem d1_105 : decode prog_18_method_1_code 105 = .ok (.aload_n 0, 1) := by decide +kernel
theorem d1_106 : decode prog_18_method_1_code 106 = .ok (.dload_n 3, 1) := by decide +kernel
theorem d1_107 : decode prog_18_method_1_code 107 = .ok (.putfield 60, 3) := by decide +kernel
theorem d1_110 : decode prog_18_method_1_code 110 = .ok (.aload_n 0, 1) := by decide +kernel
theorem d1_111 : decode prog_18_method_1_code 111 = .ok (.dload 5, 2) := by decide +kernel
theorem d1_113 : decode prog_18_method_1_code 113 = .ok (.putfield 63, 3) := by decide +kernel
theorem d1_116 : decode prog_18_method_1_code 116 = .ok (.aload_n 0, 1) := by decide +kernel
theorem d1_117 : decode prog_18_method_1_code 117 = .ok (.dload 9, 2) := by decide +kernel
theorem d1_119 : decode prog_18_method_1_code 119 = .ok (.d2i, 1) := by decide +kernel
theorem d1_120 : decode prog_18_method_1_code 120 = .ok (.iconst 1, 1) := by decide +kernel
theorem d1_121 : decode prog_18_method_1_code 121 = .ok (.iadd, 1) := by decide +kernel
theorem d1_122 : decode prog_18_method_1_code 122 = .ok (.putfield 66, 3) := by decide +kernel
theorem d1_125 : decode prog_18_method_1_code 125 = .ok (.return_, 1) := by decide +kernel
theorem pn_com_example_choke_points_chokepoints_model_RecordingPeriod : plainName "com/example/choke_points/chokepoints/model/RecordingPeriod" = true := by first | (simp [plainName, overriddenIn]; done) | decide +kernel
set_option maxRecDepth 65536 in
set_option maxHeartbeats 40000000 in
theorem ctIn (l : Launch) (Z : State) (a0 : Array Value) (hw : ∀ d ∈ tables_1, d.before a0 Z = true) (x : Addr) (d0 d1 d2 : UInt64) (is ie ii : Int) (nI : Int32) (h0 : Heap) (n0 : Nat) (H0 : D16 is d0) (H1 : D16 ie d1) (H2 : D16 ii d2) (hs : 0 ≤ is) (hi : 1 ≤ ii ∧ ii ≤ 65536) (hn : 1 ≤ nI.toInt ∧ nI.toInt ≤ 1048576) (he : ie = is + nI.toInt * ii) (Ex : Exa Z h0 x "com/example/choke_points/chokepoints/model/RecordingPeriod") (F0 : Fld Z h0 x "com/example/choke_points/chokepoints/model/RecordingPeriod" "start" "D" (.double 0)) (F1 : Fld Z h0 x "com/example/choke_points/chokepoints/model/RecordingPeriod" "end" "D" (.double 0)) (F2 : Fld Z h0 x "com/example/choke_points/chokepoints/model/RecordingPeriod" "interval" "D" (.double 0)) (F3 : Fld Z h0 x "com/example/choke_points/chokepoints/model/RecordingPeriod" "breakpointCount" "I" (.int 0)) (hnx : n0 ≤ x) :
    CtW l Z (⟨"com/example/choke_points/chokepoints/model/RecordingPeriod", "<init>", "(DDD)V"⟩ : MethodName) prog_18_method_1_code 11 none ({ frames := 4, cells := 6, slots := 136, locals := 103 } : Room) n0 #[(.ref x), (.double d0), (.double d1), (.double d2)] h0 (fun _ => True) (fun v h vm => v = none ∧ Keep h0 h [x] ∧ Exa Z h x "com/example/choke_points/chokepoints/model/RecordingPeriod" ∧ Fld Z h x "com/example/choke_points/chokepoints/model/RecordingPeriod" "start" "D" (.double d0) ∧ Fld Z h x "com/example/choke_points/chokepoints/model/RecordingPeriod" "interval" "D" (.double d2) ∧ Fld Z h x "com/example/choke_points/chokepoints/model/RecordingPeriod" "breakpointCount" "I" (.int (nI + (1 : Int32)))) := by
  refine CtW.of (plainFor_of_name pn_com_example_choke_points_chokepoints_model_RecordingPeriod) ?_
  intro p e s m below meth c T0 W0 hnm hs0 hV
  refine Wp.cast (ef_1_RDDD m x d0 d1 d2) ?_
  have pN := own_prod (n := nI.toInt) (i := ii) (by omega) (by omega) hi.1 hi.2
  have eQ : ie - is = nI.toInt * ii := by rw [he]; omega
  have Q1 : D16 (nI.toInt * ii) (FP.dsub d1 d0) := eQ ▸ H1.sub H0 (by rw [eQ]; omega)
  have Q2 : Jvm.FP.Core.DInt nI.toInt (FP.ddiv (FP.dsub d1 d0) d2) := D16.quot Q1 H2 (by omega) (by omega) (by omega)
  obtain ⟨r1, r2, r3, r4, r5, R1⟩ := own_rint Q2 hn.1 (by omega)
  have M1 := own_max1 R1 hn.1
  obtain ⟨z1, z2⟩ := own_abs0 Q2 M1 (by omega)
  refine w_aloadN W0 d1_0 rfl rfl ?_
  refine w_initO W0 (hw _ (List.mem_of_getElem? (i := 11) rfl)) (hw _ (List.mem_of_getElem? (i := 12) rfl)) (hw _ (List.mem_of_getElem? (i := 13) rfl)) 0 rfl rfl (by decide) (by decide) d1_1 ?_
  intro T1 W1
  refine w_ldcS W1 (hw _ (List.mem_of_getElem? (i := 14) rfl)) (own_wS hw) 24 (by decide) (by decide) (by decide) (by decide) d1_4 ?_
  intro T2 h2 vm2 a2 W2 E2
  have start_1 := F0.ext E2
  have end_1 := F1.ext E2
  have interval_1 := F2.ext E2
  have breakpointCount_1 := F3.ext E2
  have Ex_1 := Ex.ext E2
  have K_1 := (Keep.refl h0 [x]).ext E2
  refine w_dloadN W2 d1_6 rfl ?_
  refine w_dloadN W2 d1_7 rfl ?_
  refine w_callS W2 (ctWi l Z a0 hw a2 d0 d1 is ie _ n0 H0 H1 hs (by rw [he]; omega)) (hw _ (List.mem_of_getElem? (i := 22) rfl)) (hw _ (List.mem_of_getElem? (i := 23) rfl)) (hw _ (List.mem_of_getElem? (i := 24) rfl)) (hw _ (List.mem_of_getElem? (i := 25) rfl)) (by decide) 0 (by decide) (by decide) (by decide) (by decide) (argsL := [(.ref a2), (.double d0), (.double d1)]) (rest := []) pd_1 rfl rfl rfl rfl rfl d1_8 ?_
  rintro T3 h3 l3 _ W3 ⟨rfl, rfl⟩
  refine w_ldcS W3 (hw _ (List.mem_of_getElem? (i := 35) rfl)) (own_wS hw) 72 (by decide) (by decide) (by decide) (by decide) d1_11 ?_
  intro T4 h4 vm4 a4 W4 E4
  have start_2 := start_1.ext E4
  have end_2 := end_1.ext E4
  have interval_2 := interval_1.ext E4
  have breakpointCount_2 := breakpointCount_1.ext E4
  have Ex_2 := Ex_1.ext E4
  have K_2 := K_1.ext E4
  refine w_dload W4 d1_13 rfl ?_
  refine w_ldcS W4 (hw _ (List.mem_of_getElem? (i := 36) rfl)) (own_wS hw) 28 (by decide) (by decide) (by decide) (by decide) d1_15 ?_
  intro T5 h5 vm5 a5 W5 E5
  have start_3 := start_2.ext E5
  have end_3 := end_2.ext E5
  have interval_3 := interval_2.ext E5
  have breakpointCount_3 := breakpointCount_2.ext E5
  have Ex_3 := Ex_2.ext E5
  have K_3 := K_2.ext E5
  refine w_callS W5 (ctPo l Z a0 hw a4 a5 d2 _ n0 (H2.ps (by omega))) (hw _ (List.mem_of_getElem? (i := 37) rfl)) (hw _ (List.mem_of_getElem? (i := 38) rfl)) (hw _ (List.mem_of_getElem? (i := 24) rfl)) (hw _ (List.mem_of_getElem? (i := 39) rfl)) (by decide) 0 (by decide) (by decide) (by decide) (by decide) (argsL := [(.ref a4), (.double d2), (.ref a5)]) (rest := []) pd_2 rfl rfl rfl rfl rfl d1_17 ?_
  rintro T6 h6 l6 _ W6 ⟨rfl, rfl⟩
  refine w_pop2D W6 d1_20 rfl ?_
  refine w_dloadN W6 d1_21 rfl ?_
  refine w_dloadN W6 d1_22 rfl ?_
  refine w_dsub W6 d1_23 Q1.fin.noNaN rfl ?_
  refine w_dload W6 d1_24 rfl ?_
  refine w_ddiv W6 d1_26 (own_dfin Q2).noNaN rfl ?_
  refine w_dstore W6 (L' := #[.val (.ref x), .val (.double d0), .second, .val (.double d1), .second, .val (.double d2), .second, .val (.double (FP.ddiv (FP.dsub d1 d0) d2)), .second, .unset, .unset]) d1_27 rfl ?_
  refine w_dload W6 d1_29 rfl ?_
  refine w_ldc2D W6 (hw _ (List.mem_of_getElem? (i := 40) rfl)) d1_31 ?_
  refine w_dcmp W6 d1_34 (z := (-1 : Int32)) (own_lt Q2 (by omega)) ?_
  refine w_ifle W6 (pc' := 55) d1_35 (by decide) (fun c35 => ?_) (fun c35 => absurd c35 (by decide))
  refine w_dconst1 W6 d1_55 ?_
  refine w_dload W6 d1_56 rfl ?_
  refine w_rint W6 (hw _ (List.mem_of_getElem? (i := 41) rfl)) (hw _ (List.mem_of_getElem? (i := 42) rfl)) (hw _ (List.mem_of_getElem? (i := 43) rfl)) (hw _ (List.mem_of_getElem? (i := 47) rfl)) (hw _ (List.mem_of_getElem? (i := 46) rfl)) (hw _ (List.mem_of_getElem? (i := 48) rfl)) (hw _ (List.mem_of_getElem? (i := 51) rfl)) (hw _ (List.mem_of_getElem? (i := 50) rfl)) (hw _ (List.mem_of_getElem? (i := 32) rfl)) (hw _ (List.mem_of_getElem? (i := 49) rfl)) (hw _ (List.mem_of_getElem? (i := 33) rfl)) (hw _ (List.mem_of_getElem? (i := 31) rfl)) (hw _ (List.mem_of_getElem? (i := 52) rfl)) r1 r2 r3 r4 r5 2 rfl rfl (by decide) (by decide) d1_58 ?_
  intro T7 W7
  refine w_max W7 (hw _ (List.mem_of_getElem? (i := 53) rfl)) (hw _ (List.mem_of_getElem? (i := 54) rfl)) (hw _ (List.mem_of_getElem? (i := 32) rfl)) (hw _ (List.mem_of_getElem? (i := 55) rfl)) (own_dfin own_d1).noNaN (own_dfin R1).noNaN (z := (Native.java_lang_Math.nans.pick64 true FP.dconst1 (own_rv (FP.ddiv (FP.dsub d1 d0) d2)))) rfl 0 rfl rfl (by decide) (by decide) (by decide) (by decide) d1_61 ?_
  intro T8 W8
  refine w_dstore W8 (L' := #[.val (.ref x), .val (.double d0), .second, .val (.double d1), .second, .val (.double d2), .second, .val (.double (FP.ddiv (FP.dsub d1 d0) d2)), .second, .val (.double (Native.java_lang_Math.nans.pick64 true FP.dconst1 (own_rv (FP.ddiv (FP.dsub d1 d0) d2)))), .second]) d1_64 rfl ?_
  refine w_dload W8 d1_66 rfl ?_
  refine w_dload W8 d1_68 rfl ?_
  refine w_dsub W8 d1_70 z1 rfl ?_
  refine w_abs W8 (hw _ (List.mem_of_getElem? (i := 56) rfl)) (hw _ (List.mem_of_getElem? (i := 31) rfl)) (hw _ (List.mem_of_getElem? (i := 32) rfl)) (hw _ (List.mem_of_getElem? (i := 33) rfl)) z1 (z := (0 : UInt64)) z2 0 rfl rfl (by decide) (by decide) (by decide) (by decide) d1_71 ?_
  intro T9 W9
  refine w_ldc2D W9 (hw _ (List.mem_of_getElem? (i := 57) rfl)) d1_74 ?_
  refine w_dcmp W9 d1_77 (z := (-1 : Int32)) own_eps ?_
  refine w_ifle W9 (pc' := 100) d1_78 (by decide) (fun c78 => ?_) (fun c78 => absurd c78 (by decide))
  refine w_aloadN W9 d1_100 rfl rfl ?_
  refine w_dloadN W9 d1_101 rfl ?_
  refine w_putf W9 (hw _ (List.mem_of_getElem? (i := 58) rfl)) Via.refl start_3 Ex_3 (Or.inr ⟨(hw _ (List.mem_of_getElem? (i := 59) rfl)), rfl, hnm⟩) (hw _ (List.mem_of_getElem? (i := 6) rfl)) (ty := .double) (v' := (.double d0)) (by decide) (by rfl) (rfl) hnx d1_102 ?_
  intro T10 h10 l10 W10 Wr10
  have start_4 := start_3.same Wr10
  have end_4 := end_3.other Wr10 (Or.inr (slot_ne (Or.inr (hw _ (List.mem_of_getElem? (i := 61) rfl))) (Or.inr (hw _ (List.mem_of_getElem? (i := 59) rfl))) (by decide) (t := .double) (t' := .double) (by decide) (by decide)))
  have interval_4 := interval_3.other Wr10 (Or.inr (slot_ne (Or.inr (hw _ (List.mem_of_getElem? (i := 63) rfl))) (Or.inr (hw _ (List.mem_of_getElem? (i := 59) rfl))) (by decide) (t := .double) (t' := .double) (by decide) (by decide)))
  have breakpointCount_4 := breakpointCount_3.other Wr10 (Or.inr (slot_ne (Or.inr (hw _ (List.mem_of_getElem? (i := 65) rfl))) (Or.inr (hw _ (List.mem_of_getElem? (i := 59) rfl))) (by decide) (t := .int) (t' := .double) (by decide) (by decide)))
  have Ex_4 := Ex_3.wr Wr10
  have K_4 := K_3.wr Wr10 (Or.inl (List.mem_cons_self ..))
  refine w_aloadN W10 d1_105 rfl rfl ?_
  refine w_dloadN W10 d1_106 rfl ?_
  refine w_putf W10 (hw _ (List.mem_of_getElem? (i := 60) rfl)) Via.refl end_4 Ex_4 (Or.inr ⟨(hw _ (List.mem_of_getElem? (i := 61) rfl)), rfl, hnm⟩) (hw _ (List.mem_of_getElem? (i := 6) rfl)) (ty := .double) (v' := (.double d1)) (by decide) (by rfl) (rfl) hnx d1_107 ?_
  intro T11 h11 l11 W11 Wr11
  have start_5 := start_4.other Wr11 (Or.inr (slot_ne (Or.inr (hw _ (List.mem_of_getElem? (i := 59) rfl))) (Or.inr (hw _ (List.mem_of_getElem? (i := 61) rfl))) (by decide) (t := .double) (t' := .double) (by decide) (by decide)))
  have end_5 := end_4.same Wr11
  have interval_5 := interval_4.other Wr11 (Or.inr (slot_ne (Or.inr (hw _ (List.mem_of_getElem? (i := 63) rfl))) (Or.inr (hw _ (List.mem_of_getElem? (i := 61) rfl))) (by decide) (t := .double) (t' := .double) (by decide) (by decide)))
  have breakpointCount_5 := breakpointCount_4.other Wr11 (Or.inr (slot_ne (Or.inr (hw _ (List.mem_of_getElem? (i := 65) rfl))) (Or.inr (hw _ (List.mem_of_getElem? (i := 61) rfl))) (by decide) (t := .int) (t' := .double) (by decide) (by decide)))
  have Ex_5 := Ex_4.wr Wr11
  have K_5 := K_4.wr Wr11 (Or.inl (List.mem_cons_self ..))
  refine w_aloadN W11 d1_110 rfl rfl ?_
  refine w_dload W11 d1_111 rfl ?_
  refine w_putf W11 (hw _ (List.mem_of_getElem? (i := 62) rfl)) Via.refl interval_5 Ex_5 (Or.inr ⟨(hw _ (List.mem_of_getElem? (i := 63) rfl)), rfl, hnm⟩) (hw _ (List.mem_of_getElem? (i := 6) rfl)) (ty := .double) (v' := (.double d2)) (by decide) (by rfl) (rfl) hnx d1_113 ?_
  intro T12 h12 l12 W12 Wr12
  have start_6 := start_5.other Wr12 (Or.inr (slot_ne (Or.inr (hw _ (List.mem_of_getElem? (i := 59) rfl))) (Or.inr (hw _ (List.mem_of_getElem? (i := 63) rfl))) (by decide) (t := .double) (t' := .double) (by decide) (by decide)))
  have end_6 := end_5.other Wr12 (Or.inr (slot_ne (Or.inr (hw _ (List.mem_of_getElem? (i := 61) rfl))) (Or.inr (hw _ (List.mem_of_getElem? (i := 63) rfl))) (by decide) (t := .double) (t' := .double) (by decide) (by decide)))
  have interval_6 := interval_5.same Wr12
  have breakpointCount_6 := breakpointCount_5.other Wr12 (Or.inr (slot_ne (Or.inr (hw _ (List.mem_of_getElem? (i := 65) rfl))) (Or.inr (hw _ (List.mem_of_getElem? (i := 63) rfl))) (by decide) (t := .int) (t' := .double) (by decide) (by decide)))
  have Ex_6 := Ex_5.wr Wr12
  have K_6 := K_5.wr Wr12 (Or.inl (List.mem_cons_self ..))
  refine w_aloadN W12 d1_116 rfl rfl ?_
  refine w_dload W12 d1_117 rfl ?_
  refine w_d2i W12 d1_119 (z := nI) (Jvm.FP.Core.d2i_int M1) ?_
  refine w_iconst W12 (z := (1 : Int32)) d1_120 (by rfl) ?_
  refine w_iadd W12 d1_121 rfl ?_
  refine w_putf W12 (hw _ (List.mem_of_getElem? (i := 64) rfl)) Via.refl breakpointCount_6 Ex_6 (Or.inr ⟨(hw _ (List.mem_of_getElem? (i := 65) rfl)), rfl, hnm⟩) (hw _ (List.mem_of_getElem? (i := 6) rfl)) (ty := .int) (v' := (.int (nI + (1 : Int32)))) (by decide) (by rfl) (rfl) hnx d1_122 ?_
  intro T13 h13 l13 W13 Wr13
  have start_7 := start_6.other Wr13 (Or.inr (slot_ne (Or.inr (hw _ (List.mem_of_getElem? (i := 59) rfl))) (Or.inr (hw _ (List.mem_of_getElem? (i := 65) rfl))) (by decide) (t := .double) (t' := .int) (by decide) (by decide)))
  have end_7 := end_6.other Wr13 (Or.inr (slot_ne (Or.inr (hw _ (List.mem_of_getElem? (i := 61) rfl))) (Or.inr (hw _ (List.mem_of_getElem? (i := 65) rfl))) (by decide) (t := .double) (t' := .int) (by decide) (by decide)))
  have interval_7 := interval_6.other Wr13 (Or.inr (slot_ne (Or.inr (hw _ (List.mem_of_getElem? (i := 63) rfl))) (Or.inr (hw _ (List.mem_of_getElem? (i := 65) rfl))) (by decide) (t := .double) (t' := .int) (by decide) (by decide)))
  have breakpointCount_7 := breakpointCount_6.same Wr13
  have Ex_7 := Ex_6.wr Wr13
  have K_7 := K_6.wr Wr13 (Or.inl (List.mem_cons_self ..))
  exact x_rV W13 rfl d1_125 (by decide) (by decide) (fun vm' hvm' => ⟨rfl, K_7, Ex_7, start_7, interval_7, breakpointCount_7⟩)
theorem ef_11_R (m : MethodId) (x0 : Addr) : entryFrame m #[(.ref x0)] 1 = mkF m 0 #[.val (.ref x0)] [] := by first | (simp [entryFrame, mkF, argsToLocals, Value.category]; done) | rfl
theorem d11_0 : decode prog_18_method_5_code 0 = .ok (.aload_n 0, 1) := by decide +kernel
theorem d11_1 : decode prog_18_method_5_code 1 = .ok (.getfield 66, 3) := by decide +kernel
theorem d11_4 : decode prog_18_method_5_code 4 = .ok (.ireturn, 1) := by decide +kernel
set_option maxRecDepth 65536 in
set_option maxHeartbeats 40000000 in
theorem ctBc (l : Launch) (Z : State) (a0 : Array Value) (hw : ∀ d ∈ tables_1, d.before a0 Z = true) (x : Addr) (nn : Int32) (h0 : Heap) (n0 : Nat) (F3 : Fld Z h0 x "com/example/choke_points/chokepoints/model/RecordingPeriod" "breakpointCount" "I" (.int nn)) :
    CtN l Z (⟨"com/example/choke_points/chokepoints/model/RecordingPeriod", "breakpointCount", "()I"⟩ : MethodName) prog_18_method_5_code 1 (some .int) ({ frames := 0, cells := 0, slots := 0, locals := 0 } : Room) n0 #[(.ref x)] h0 (fun v h => v = some (.int nn) ∧ h0 = h) := by
  refine CtN.of (plainFor_of_name pn_com_example_choke_points_chokepoints_model_RecordingPeriod) ?_
  intro p e s m below meth c T0 W0 hnm
  refine Wp.cast (ef_11_R m x) ?_
  refine w_aloadN W0 d11_0 rfl rfl ?_
  refine w_getf W0 (host := "") (Or.inl (hw _ (List.mem_of_getElem? (i := 64) rfl))) Via.refl F3 d11_1 ?_
  intro T1 W1
  exact n_rI W1 rfl d11_4 (by decide) (by decide) ⟨rfl, rfl⟩
theorem ef_14_IIn (m : MethodId) (x0 : Int32) (x1 : Int32) : entryFrame m #[(.int x0), (.int x1), .null] 3 = mkF m 0 #[.val (.int x0), .val (.int x1), .val .null] [] := by first | (simp [entryFrame, mkF, argsToLocals, Value.category]; done) | rfl
theorem d14_0 : decode jdk_41_method_11_code 0 = .ok (.iload_n 0, 1) := by decide +kernel
theorem d14_1 : decode jdk_41_method_11_code 1 = .ok (.ifCond .lt 8, 3) := by decide +kernel
theorem d14_4 : decode jdk_41_method_11_code 4 = .ok (.iload_n 0, 1) := by decide +kernel
theorem d14_5 : decode jdk_41_method_11_code 5 = .ok (.iload_n 1, 1) := by decide +kernel
theorem d14_6 : decode jdk_41_method_11_code 6 = .ok (.if_icmp .lt 10, 3) := by decide +kernel
theorem d14_16 : decode jdk_41_method_11_code 16 = .ok (.iload_n 0, 1) := by decide +kernel
theorem d14_17 : decode jdk_41_method_11_code 17 = .ok (.ireturn, 1) := by decide +kernel
theorem pn_jdk_internal_util_Preconditions : plainName "jdk/internal/util/Preconditions" = true := by first | (simp [plainName, overriddenIn]; done) | decide +kernel
set_option maxRecDepth 65536 in
set_option maxHeartbeats 40000000 in
theorem ctPc (l : Launch) (Z : State) (a0 : Array Value) (hw : ∀ d ∈ tables_1, d.before a0 Z = true) (k nn : Int32) (h0 : Heap) (n0 : Nat) (hk0 : ¬ k < 0) (hk1 : k < nn) :
    CtN l Z (⟨"jdk/internal/util/Preconditions", "checkIndex", "(IILjava/util/function/BiFunction;)I"⟩ : MethodName) jdk_41_method_11_code 3 (some .int) ({ frames := 0, cells := 0, slots := 0, locals := 0 } : Room) n0 #[(.int k), (.int nn), .null] h0 (fun v h => v = some (.int k) ∧ h0 = h) := by
  refine CtN.of (plainFor_of_name pn_jdk_internal_util_Preconditions) ?_
  intro p e s m below meth c T0 W0 hnm
  refine Wp.cast (ef_14_IIn m k nn) ?_
  refine w_iloadN W0 d14_0 rfl ?_
  refine w_iflt W0 (pc' := 9) d14_1 (by decide) (fun c1 => ?_) (fun c1 => ?_)
  · exact absurd c1 hk0
  · refine w_iloadN W0 d14_4 rfl ?_
    refine w_iloadN W0 d14_5 rfl ?_
    refine w_icmplt W0 (pc' := 16) d14_6 (by decide) (fun c6 => ?_) (fun c6 => ?_)
    · refine w_iloadN W0 d14_16 rfl ?_
      exact n_rI W0 rfl d14_17 (by decide) (by decide) ⟨rfl, rfl⟩
    · exact absurd hk1 c6
theorem ef_13_II (m : MethodId) (x0 : Int32) (x1 : Int32) : entryFrame m #[(.int x0), (.int x1)] 2 = mkF m 0 #[.val (.int x0), .val (.int x1)] [] := by first | (simp [entryFrame, mkF, argsToLocals, Value.category]; done) | rfl
theorem d13_0 : decode jdk_31_method_17_code 0 = .ok (.iload_n 0, 1) := by decide +kernel
theorem d13_1 : decode jdk_31_method_17_code 1 = .ok (.iload_n 1, 1) := by decide +kernel
theorem d13_2 : decode jdk_31_method_17_code 2 = .ok (.aconst_null, 1) := by decide +kernel
theorem d13_3 : decode jdk_31_method_17_code 3 = .ok (.invokestatic 105, 3) := by decide +kernel
theorem pd_3 : parseMethodDescriptor "(IILjava/util/function/BiFunction;)I" = some ⟨[.int, .int, (.object "java/util/function/BiFunction")], some .int⟩ := by decide +kernel
theorem d13_6 : decode jdk_31_method_17_code 6 = .ok (.ireturn, 1) := by decide +kernel
theorem pn_java_util_Objects : plainName "java/util/Objects" = true := by first | (simp [plainName, overriddenIn]; done) | decide +kernel
set_option maxRecDepth 65536 in
set_option maxHeartbeats 40000000 in
theorem ctCk (l : Launch) (Z : State) (a0 : Array Value) (hw : ∀ d ∈ tables_1, d.before a0 Z = true) (k nn : Int32) (h0 : Heap) (n0 : Nat) (hk0 : ¬ k < 0) (hk1 : k < nn) :
    CtN l Z (⟨"java/util/Objects", "checkIndex", "(II)I"⟩ : MethodName) jdk_31_method_17_code 2 (some .int) ({ frames := 1, cells := 0, slots := 0, locals := 14 } : Room) n0 #[(.int k), (.int nn)] h0 (fun v h => v = some (.int k) ∧ h0 = h) := by
  refine CtN.of (plainFor_of_name pn_java_util_Objects) ?_
  intro p e s m below meth c T0 W0 hnm
  refine Wp.cast (ef_13_II m k nn) ?_
  refine w_iloadN W0 d13_0 rfl ?_
  refine w_iloadN W0 d13_1 rfl ?_
  refine w_aconstNull W0 d13_2 ?_
  refine w_callS W0 (ctPc l Z a0 hw k nn _ n0 hk0 hk1) (hw _ (List.mem_of_getElem? (i := 80) rfl)) (hw _ (List.mem_of_getElem? (i := 81) rfl)) (hw _ (List.mem_of_getElem? (i := 82) rfl)) (hw _ (List.mem_of_getElem? (i := 83) rfl)) (by decide) 0 (by decide) (by decide) (by decide) (by decide) (argsL := [(.int k), (.int nn), .null]) (rest := []) pd_3 rfl rfl rfl rfl rfl d13_3 ?_
  rintro T1 h1 l1 _ W1 ⟨rfl, rfl⟩
  exact n_rI W1 rfl d13_6 (by decide) (by decide) ⟨rfl, rfl⟩
theorem ef_12_RI (m : MethodId) (x0 : Addr) (x1 : Int32) : entryFrame m #[(.ref x0), (.int x1)] 2 = mkF m 0 #[.val (.ref x0), .val (.int x1)] [] := by first | (simp [entryFrame, mkF, argsToLocals, Value.category]; done) | rfl
theorem d12_0 : decode prog_18_method_6_code 0 = .ok (.iload_n 1, 1) := by decide +kernel
theorem d12_1 : decode prog_18_method_6_code 1 = .ok (.aload_n 0, 1) := by decide +kernel
theorem d12_2 : decode prog_18_method_6_code 2 = .ok (.getfield 66, 3) := by decide +kernel
theorem d12_5 : decode prog_18_method_6_code 5 = .ok (.invokestatic 70, 3) := by decide +kernel
theorem pd_4 : parseMethodDescriptor "(II)I" = some ⟨[.int, .int], some .int⟩ := by decide +kernel
theorem d12_8 : decode prog_18_method_6_code 8 = .ok (.pop, 1) := by decide +kernel
theorem d12_9 : decode prog_18_method_6_code 9 = .ok (.aload_n 0, 1) := by decide +kernel
theorem d12_10 : decode prog_18_method_6_code 10 = .ok (.getfield 56, 3) := by decide +kernel
theorem d12_13 : decode prog_18_method_6_code 13 = .ok (.iload_n 1, 1) := by decide +kernel
theorem d12_14 : decode prog_18_method_6_code 14 = .ok (.i2d, 1) := by decide +kernel
theorem d12_15 : decode prog_18_method_6_code 15 = .ok (.aload_n 0, 1) := by decide +kernel
theorem d12_16 : decode prog_18_method_6_code 16 = .ok (.getfield 63, 3) := by decide +kernel
theorem d12_19 : decode prog_18_method_6_code 19 = .ok (.dmul, 1) := by decide +kernel
theorem d12_20 : decode prog_18_method_6_code 20 = .ok (.dadd, 1) := by decide +kernel
theorem d12_21 : decode prog_18_method_6_code 21 = .ok (.dreturn, 1) := by decide +kernel
set_option maxRecDepth 65536 in
set_option maxHeartbeats 40000000 in
theorem ctBp (l : Launch) (Z : State) (a0 : Array Value) (hw : ∀ d ∈ tables_1, d.before a0 Z = true) (x : Addr) (k nn : Int32) (d0 d2 : UInt64) (is ii : Int) (h0 : Heap) (n0 : Nat) (hk0 : ¬ k < 0) (hk1 : k < nn) (hb1 : (k.toInt * ii).natAbs ≤ 2 ^ 52) (hb2 : is.natAbs ≤ 2 ^ 52) (F0 : Fld Z h0 x "com/example/choke_points/chokepoints/model/RecordingPeriod" "start" "D" (.double d0)) (F2 : Fld Z h0 x "com/example/choke_points/chokepoints/model/RecordingPeriod" "interval" "D" (.double d2)) (F3 : Fld Z h0 x "com/example/choke_points/chokepoints/model/RecordingPeriod" "breakpointCount" "I" (.int nn)) (H0 : D16 is d0) (H2 : D16 ii d2) :
    CtN l Z (⟨"com/example/choke_points/chokepoints/model/RecordingPeriod", "breakpoint", "(I)D"⟩ : MethodName) prog_18_method_6_code 2 (some .double) ({ frames := 2, cells := 0, slots := 0, locals := 27 } : Room) n0 #[(.ref x), (.int k)] h0 (fun v h => ∃ r, v = some (.double r) ∧ D16 (is + k.toInt * ii) r ∧ h0 = h) := by
  refine CtN.of (plainFor_of_name pn_com_example_choke_points_chokepoints_model_RecordingPeriod) ?_
  intro p e s m below meth c T0 W0 hnm
  refine Wp.cast (ef_12_RI m x k) ?_
  have P1 := D16.mul (Jvm.FP.Core.i2d_int k) H2 (by omega)
  have P2 := H0.add P1 (by omega)
  refine w_iloadN W0 d12_0 rfl ?_
  refine w_aloadN W0 d12_1 rfl rfl ?_
  refine w_getf W0 (host := "") (Or.inl (hw _ (List.mem_of_getElem? (i := 64) rfl))) Via.refl F3 d12_2 ?_
  intro T1 W1
  refine w_callS W1 (ctCk l Z a0 hw k nn _ n0 hk0 hk1) (hw _ (List.mem_of_getElem? (i := 76) rfl)) (hw _ (List.mem_of_getElem? (i := 77) rfl)) (hw _ (List.mem_of_getElem? (i := 78) rfl)) (hw _ (List.mem_of_getElem? (i := 79) rfl)) (by decide) 0 (by decide) (by decide) (by decide) (by decide) (argsL := [(.int k), (.int nn)]) (rest := []) pd_4 rfl rfl rfl rfl rfl d12_5 ?_
  rintro T2 h2 l2 _ W2 ⟨rfl, rfl⟩
  refine w_pop W2 d12_8 rfl ?_
  refine w_aloadN W2 d12_9 rfl rfl ?_
  refine w_getf W2 (host := "") (Or.inl (hw _ (List.mem_of_getElem? (i := 58) rfl))) Via.refl F0 d12_10 ?_
  intro T3 W3
  refine w_iloadN W3 d12_13 rfl ?_
  refine w_i2d W3 d12_14 rfl ?_
  refine w_aloadN W3 d12_15 rfl rfl ?_
  refine w_getf W3 (host := "") (Or.inl (hw _ (List.mem_of_getElem? (i := 62) rfl))) Via.refl F2 d12_16 ?_
  intro T4 W4
  refine w_dmul W4 d12_19 P1.fin.noNaN rfl ?_
  refine w_dadd W4 d12_20 P2.fin.noNaN rfl ?_
  exact n_rD W4 rfl d12_21 (by decide) (by decide) ⟨_, rfl, P2, rfl⟩
theorem ef_0_IIII (m : MethodId) (x0 : Int32) (x1 : Int32) (x2 : Int32) (x3 : Int32) : entryFrame m #[(.int x0), (.int x1), (.int x2), (.int x3)] maxLocals = mkF m 0 #[.val (.int x0), .val (.int x1), .val (.int x2), .val (.int x3), .unset, .unset, .unset, .unset, .unset, .unset, .unset, .unset, .unset, .unset, .unset, .unset, .unset, .unset, .unset, .unset, .unset] [] := by first | (simp [entryFrame, mkF, argsToLocals, Value.category, maxLocals]; done) | rfl
theorem pd_5 : parseMethodDescriptor "(DDD)V" = some ⟨[.double, .double, .double], none⟩ := by decide +kernel
theorem pd_6 : parseMethodDescriptor "()I" = some ⟨[], some .int⟩ := by decide +kernel
theorem pd_7 : parseMethodDescriptor "(I)D" = some ⟨[.int], some .double⟩ := by decide +kernel
theorem pn_com_example_choke_points_chokepoints_model_RecordingPeriodBreakpointPinLaw : plainName "com/example/choke_points/chokepoints/model/RecordingPeriodBreakpointPinLaw" = true := by first | (simp [plainName, overriddenIn]; done) | decide +kernel
set_option maxRecDepth 65536 in
set_option maxHeartbeats 40000000 in
theorem ctLaw (l : Launch) (Z : State) (a0 : Array Value) (hw : ∀ d ∈ tables_1, d.before a0 Z = true) (ra rb rc rd : Int32) (h0 : Heap) (n0 : Nat) (hn0 : n0 ≤ h0.size) :
    CtW l Z x code maxLocals ret room_1 n0 #[(.int ra), (.int rb), (.int rc), (.int rd)] h0 (fun _ => True) (fun v _ _ => v = some (.int 1)) := by
  refine CtW.of (plainFor_of_name pn_com_example_choke_points_chokepoints_model_RecordingPeriodBreakpointPinLaw) ?_
  intro p e s m below meth c T0 W0 hnm hs0 hV
  refine Wp.cast (ef_0_IIII m ra rb rc rd) ?_
  refine w_iloadN W0 at_0 rfl ?_
  refine w_ldcI W0 (hw _ (List.mem_of_getElem? (i := 0) rfl)) at_1 ?_
  refine w_iand W0 at_3 rfl ?_
  obtain ⟨sL, hsL⟩ : ∃ z : Int64, ((ra &&& (1048575 : Int32)).toInt64) = z := ⟨_, rfl⟩
  refine w_i2l W0 at_4 hsL ?_
  refine w_lstore W0 (L' := #[.val (.int ra), .val (.int rb), .val (.int rc), .val (.int rd), .val (.long sL), .second, .unset, .unset, .unset, .unset, .unset, .unset, .unset, .unset, .unset, .unset, .unset, .unset, .unset, .unset, .unset]) at_5 rfl ?_
  refine w_iloadN W0 at_7 rfl ?_
  refine w_ldcI W0 (hw _ (List.mem_of_getElem? (i := 1) rfl)) at_8 ?_
  refine w_iand W0 at_10 rfl ?_
  refine w_i2l W0 at_11 rfl ?_
  refine w_lconst W0 (z := (1 : Int64)) at_12 (by rfl) ?_
  obtain ⟨iL, hiL⟩ : ∃ z : Int64, (((rb &&& (65535 : Int32)).toInt64) + (1 : Int64)) = z := ⟨_, rfl⟩
  refine w_ladd W0 at_13 hiL ?_
  refine w_lstore W0 (L' := #[.val (.int ra), .val (.int rb), .val (.int rc), .val (.int rd), .val (.long sL), .second, .val (.long iL), .second, .unset, .unset, .unset, .unset, .unset, .unset, .unset, .unset, .unset, .unset, .unset, .unset, .unset]) at_14 rfl ?_
  refine w_iloadN W0 at_16 rfl ?_
  refine w_ldcI W0 (hw _ (List.mem_of_getElem? (i := 2) rfl)) at_17 ?_
  refine w_iand W0 at_19 rfl ?_
  refine w_ldcI W0 (hw _ (List.mem_of_getElem? (i := 3) rfl)) at_20 ?_
  refine w_irem W0 at_22 (by decide) rfl ?_
  refine w_iconst W0 (z := (1 : Int32)) at_23 (by rfl) ?_
  obtain ⟨nI, hnI⟩ : ∃ z : Int32, (((rc &&& (2147483647 : Int32)) % (1048576 : Int32)) + (1 : Int32)) = z := ⟨_, rfl⟩
  refine w_iadd W0 at_24 hnI ?_
  refine w_istore W0 (L' := #[.val (.int ra), .val (.int rb), .val (.int rc), .val (.int rd), .val (.long sL), .second, .val (.long iL), .second, .val (.int nI), .unset, .unset, .unset, .unset, .unset, .unset, .unset, .unset, .unset, .unset, .unset, .unset]) at_25 rfl ?_
  have bs := own_hs hsL
  have bi := own_hi hiL
  have bn := own_hn hnI
  have pn := own_prod (n := nI.toInt) (i := iL.toInt) (by omega) (by omega) bi.1 bi.2
  refine w_lload W0 at_27 rfl ?_
  refine w_iload W0 at_29 rfl ?_
  refine w_i2l W0 at_31 rfl ?_
  refine w_lload W0 at_32 rfl ?_
  refine w_lmul W0 at_34 rfl ?_
  obtain ⟨eL, heL⟩ : ∃ z : Int64, (sL + ((nI.toInt64) * iL)) = z := ⟨_, rfl⟩
  refine w_ladd W0 at_35 heL ?_
  refine w_lstore W0 (L' := #[.val (.int ra), .val (.int rb), .val (.int rc), .val (.int rd), .val (.long sL), .second, .val (.long iL), .second, .val (.int nI), .val (.long eL), .second, .unset, .unset, .unset, .unset, .unset, .unset, .unset, .unset, .unset, .unset]) at_36 rfl ?_
  have be := own_he bs bi ⟨by omega, bn.2⟩ heL
  have DS : D16 sL.toInt (FP.ddiv (FP.l2d sL) 4625196817309499392) := D16.of (Jvm.FP.Core.l2d_int (by omega)) (by omega)
  have DI : D16 iL.toInt (FP.ddiv (FP.l2d iL) 4625196817309499392) := D16.of (Jvm.FP.Core.l2d_int (by omega)) (by omega)
  have DE : D16 eL.toInt (FP.ddiv (FP.l2d eL) 4625196817309499392) := D16.of (Jvm.FP.Core.l2d_int (by omega)) (by omega)
  refine w_lload W0 at_38 rfl ?_
  refine w_l2d W0 at_40 rfl ?_
  refine w_ldc2D W0 (hw _ (List.mem_of_getElem? (i := 4) rfl)) at_41 ?_
  refine w_ddiv W0 at_44 DS.fin.noNaN rfl ?_
  refine w_dstore W0 (L' := #[.val (.int ra), .val (.int rb), .val (.int rc), .val (.int rd), .val (.long sL), .second, .val (.long iL), .second, .val (.int nI), .val (.long eL), .second, .val (.double (FP.ddiv (FP.l2d sL) (4625196817309499392 : UInt64))), .second, .unset, .unset, .unset, .unset, .unset, .unset, .unset, .unset]) at_45 rfl ?_
  refine w_lload W0 at_47 rfl ?_
  refine w_l2d W0 at_49 rfl ?_
  refine w_ldc2D W0 (hw _ (List.mem_of_getElem? (i := 4) rfl)) at_50 ?_
  refine w_ddiv W0 at_53 DI.fin.noNaN rfl ?_
  refine w_dstore W0 (L' := #[.val (.int ra), .val (.int rb), .val (.int rc), .val (.int rd), .val (.long sL), .second, .val (.long iL), .second, .val (.int nI), .val (.long eL), .second, .val (.double (FP.ddiv (FP.l2d sL) (4625196817309499392 : UInt64))), .second, .val (.double (FP.ddiv (FP.l2d iL) (4625196817309499392 : UInt64))), .second, .unset, .unset, .unset, .unset, .unset, .unset]) at_54 rfl ?_
  refine w_lload W0 at_56 rfl ?_
  refine w_l2d W0 at_58 rfl ?_
  refine w_ldc2D W0 (hw _ (List.mem_of_getElem? (i := 4) rfl)) at_59 ?_
  refine w_ddiv W0 at_62 DE.fin.noNaN rfl ?_
  refine w_dstore W0 (L' := #[.val (.int ra), .val (.int rb), .val (.int rc), .val (.int rd), .val (.long sL), .second, .val (.long iL), .second, .val (.int nI), .val (.long eL), .second, .val (.double (FP.ddiv (FP.l2d sL) (4625196817309499392 : UInt64))), .second, .val (.double (FP.ddiv (FP.l2d iL) (4625196817309499392 : UInt64))), .second, .val (.double (FP.ddiv (FP.l2d eL) (4625196817309499392 : UInt64))), .second, .unset, .unset, .unset, .unset]) at_63 rfl ?_
  refine w_new W0 (hw _ (List.mem_of_getElem? (i := 5) rfl)) (hw _ (List.mem_of_getElem? (i := 6) rfl)) (hw _ (List.mem_of_getElem? (i := 7) rfl)) at_65 (by decide) (by decide) ?_
  intro T1 h1 o W1 E1 g1 A1 D1
  have F0 := (D1 (Or.inr (hw _ (List.mem_of_getElem? (i := 59) rfl))) (ty := .double) (by decide) : Fld Z h1 _ "com/example/choke_points/chokepoints/model/RecordingPeriod" "start" "D" (.double 0))
  have F1 := (D1 (Or.inr (hw _ (List.mem_of_getElem? (i := 61) rfl))) (ty := .double) (by decide) : Fld Z h1 _ "com/example/choke_points/chokepoints/model/RecordingPeriod" "end" "D" (.double 0))
  have F2 := (D1 (Or.inr (hw _ (List.mem_of_getElem? (i := 63) rfl))) (ty := .double) (by decide) : Fld Z h1 _ "com/example/choke_points/chokepoints/model/RecordingPeriod" "interval" "D" (.double 0))
  have F3 := (D1 (Or.inr (hw _ (List.mem_of_getElem? (i := 65) rfl))) (ty := .int) (by decide) : Fld Z h1 _ "com/example/choke_points/chokepoints/model/RecordingPeriod" "breakpointCount" "I" (.int 0))
  have ho : n0 ≤ o := by rw [g1]; exact hn0
  refine w_dup W1 at_68 rfl ?_
  refine w_dload W1 at_69 rfl ?_
  refine w_dload W1 at_71 rfl ?_
  refine w_dload W1 at_73 rfl ?_
  refine w_specialW W1 (ctIn l Z a0 hw o (FP.ddiv (FP.l2d sL) (4625196817309499392 : UInt64)) (FP.ddiv (FP.l2d eL) (4625196817309499392 : UInt64)) (FP.ddiv (FP.l2d iL) (4625196817309499392 : UInt64)) sL.toInt eL.toInt iL.toInt nI _ n0 DS DE DI bs.1 bi bn be A1 F0 F1 F2 F3 ho) (fun _ _ => trivial) rfl (hw _ (List.mem_of_getElem? (i := 8) rfl)) (hw _ (List.mem_of_getElem? (i := 9) rfl)) (hw _ (List.mem_of_getElem? (i := 7) rfl)) (hw _ (List.mem_of_getElem? (i := 10) rfl)) (by decide) 1 (by decide) (by decide) (by decide) (by decide) (a := o) (argsL := [(.double (FP.ddiv (FP.l2d sL) (4625196817309499392 : UInt64))), (.double (FP.ddiv (FP.l2d eL) (4625196817309499392 : UInt64))), (.double (FP.ddiv (FP.l2d iL) (4625196817309499392 : UInt64)))]) (rest := [(.ref o)]) pd_5 rfl rfl rfl rfl rfl at_75 ?_
  rintro T2 h2 l2 vm2 _ W2 hw2 ⟨rfl, Kk, Eo, G0, G2, G3⟩
  refine w_astore W2 (L' := #[.val (.int ra), .val (.int rb), .val (.int rc), .val (.int rd), .val (.long sL), .second, .val (.long iL), .second, .val (.int nI), .val (.long eL), .second, .val (.double (FP.ddiv (FP.l2d sL) (4625196817309499392 : UInt64))), .second, .val (.double (FP.ddiv (FP.l2d iL) (4625196817309499392 : UInt64))), .second, .val (.double (FP.ddiv (FP.l2d eL) (4625196817309499392 : UInt64))), .second, .val (.ref o), .unset, .unset, .unset]) at_78 rfl rfl ?_
  refine w_iloadN W2 at_80 rfl ?_
  refine w_ldcI W2 (hw _ (List.mem_of_getElem? (i := 2) rfl)) at_81 ?_
  refine w_iand W2 at_83 rfl ?_
  refine w_iload W2 at_84 rfl ?_
  refine w_iconst W2 (z := (1 : Int32)) at_86 (by rfl) ?_
  refine w_iadd W2 at_87 rfl ?_
  obtain ⟨kI, hkI⟩ : ∃ z : Int32, ((rd &&& (2147483647 : Int32)) % (nI + (1 : Int32))) = z := ⟨_, rfl⟩
  refine w_irem W2 at_88 (own_nz bn) hkI ?_
  have bk := own_hk bn hkI
  have pk := own_prod (n := kI.toInt) (i := iL.toInt) (by omega) (by omega) bi.1 bi.2
  have e1 := own_n1 bn
  refine w_istore W2 (L' := #[.val (.int ra), .val (.int rb), .val (.int rc), .val (.int rd), .val (.long sL), .second, .val (.long iL), .second, .val (.int nI), .val (.long eL), .second, .val (.double (FP.ddiv (FP.l2d sL) (4625196817309499392 : UInt64))), .second, .val (.double (FP.ddiv (FP.l2d iL) (4625196817309499392 : UInt64))), .second, .val (.double (FP.ddiv (FP.l2d eL) (4625196817309499392 : UInt64))), .second, .val (.ref o), .val (.int kI), .unset, .unset]) at_89 rfl ?_
  refine w_lload W2 at_91 rfl ?_
  refine w_iload W2 at_93 rfl ?_
  refine w_i2l W2 at_95 rfl ?_
  refine w_lload W2 at_96 rfl ?_
  refine w_lmul W2 at_98 rfl ?_
  obtain ⟨xL, hxL⟩ : ∃ z : Int64, (sL + ((kI.toInt64) * iL)) = z := ⟨_, rfl⟩
  refine w_ladd W2 at_99 hxL ?_
  have bx := own_he bs bi ⟨by omega, by omega⟩ hxL
  have DX : D16 xL.toInt (FP.ddiv (FP.l2d xL) 4625196817309499392) := D16.of (Jvm.FP.Core.l2d_int (by omega)) (by omega)
  refine w_l2d W2 at_100 rfl ?_
  refine w_ldc2D W2 (hw _ (List.mem_of_getElem? (i := 4) rfl)) at_101 ?_
  refine w_ddiv W2 at_104 DX.fin.noNaN rfl ?_
  refine w_dstore W2 (L' := #[.val (.int ra), .val (.int rb), .val (.int rc), .val (.int rd), .val (.long sL), .second, .val (.long iL), .second, .val (.int nI), .val (.long eL), .second, .val (.double (FP.ddiv (FP.l2d sL) (4625196817309499392 : UInt64))), .second, .val (.double (FP.ddiv (FP.l2d iL) (4625196817309499392 : UInt64))), .second, .val (.double (FP.ddiv (FP.l2d eL) (4625196817309499392 : UInt64))), .second, .val (.ref o), .val (.int kI), .val (.double (FP.ddiv (FP.l2d xL) (4625196817309499392 : UInt64))), .second]) at_105 rfl ?_
  refine w_aload W2 at_107 rfl rfl ?_
  refine w_virt W2 (ctBc l Z a0 hw o _ _ n0 G3) (hw _ (List.mem_of_getElem? (i := 66) rfl)) (hw _ (List.mem_of_getElem? (i := 67) rfl)) (notFace_of_selects (args := #[]) (mvT W2.wZ (hw _ (List.mem_of_getElem? (i := 69) rfl)))) (hw _ (List.mem_of_getElem? (i := 69) rfl)) (hw _ (List.mem_of_getElem? (i := 68) rfl)) (hw _ (List.mem_of_getElem? (i := 7) rfl)) (hw _ (List.mem_of_getElem? (i := 70) rfl)) (by decide) 0 (by decide) (by decide) (by decide) (by decide) (a := o) Eo (argsL := []) (rest := []) pd_6 rfl rfl rfl rfl rfl at_109 ?_
  rintro T3 h3 l3 _ W3 ⟨rfl, rfl⟩
  refine w_iload W3 at_112 rfl ?_
  refine w_iconst W3 (z := (1 : Int32)) at_114 (by rfl) ?_
  refine w_iadd W3 at_115 rfl ?_
  refine w_icmpne W3 (pc' := 161) at_116 (by decide) (fun c116 => ?_) (fun c116 => ?_)
  · exact absurd rfl c116
  · refine w_aload W3 at_119 rfl rfl ?_
    refine w_iload W3 at_121 rfl ?_
    refine w_virt W3 (ctBp l Z a0 hw o kI _ _ _ sL.toInt iL.toInt _ n0 (by rw [Int32.lt_iff_toInt_lt]; have z0 : (0 : Int32).toInt = 0 := rfl; omega) (by rw [Int32.lt_iff_toInt_lt, e1]; have z0 : (0 : Int32).toInt = 0 := rfl; omega) (by omega) (by omega) G0 G2 G3 DS DI) (hw _ (List.mem_of_getElem? (i := 71) rfl)) (hw _ (List.mem_of_getElem? (i := 72) rfl)) (notFace_of_selects (args := #[]) (mvT W3.wZ (hw _ (List.mem_of_getElem? (i := 74) rfl)))) (hw _ (List.mem_of_getElem? (i := 74) rfl)) (hw _ (List.mem_of_getElem? (i := 73) rfl)) (hw _ (List.mem_of_getElem? (i := 7) rfl)) (hw _ (List.mem_of_getElem? (i := 75) rfl)) (by decide) 0 (by decide) (by decide) (by decide) (by decide) (a := o) Eo (argsL := [(.int kI)]) (rest := []) pd_7 rfl rfl rfl rfl rfl at_123 ?_
    rintro T4 h4 l4 _ W4 ⟨q1, rfl, D1, rfl⟩
    refine w_dload W4 at_126 rfl ?_
    refine w_dcmp W4 at_128 (z := (0 : Int32)) (D1.eq DX bx.symm) ?_
    refine w_ifne W4 (pc' := 161) at_129 (by decide) (fun c129 => absurd c129 (by decide)) (fun c129 => ?_)
    refine w_aload W4 at_132 rfl rfl ?_
    refine w_iconst W4 (z := (0 : Int32)) at_134 (by rfl) ?_
    refine w_virt W4 (ctBp l Z a0 hw o (0 : Int32) _ _ _ sL.toInt iL.toInt _ n0 (by rw [Int32.lt_iff_toInt_lt]; have z0 : (0 : Int32).toInt = 0 := rfl; omega) (by rw [Int32.lt_iff_toInt_lt, e1]; have z0 : (0 : Int32).toInt = 0 := rfl; omega) (by have z0 : (0 : Int32).toInt = 0 := rfl; rw [z0, Int.zero_mul]; decide) (by omega) G0 G2 G3 DS DI) (hw _ (List.mem_of_getElem? (i := 71) rfl)) (hw _ (List.mem_of_getElem? (i := 72) rfl)) (notFace_of_selects (args := #[]) (mvT W4.wZ (hw _ (List.mem_of_getElem? (i := 74) rfl)))) (hw _ (List.mem_of_getElem? (i := 74) rfl)) (hw _ (List.mem_of_getElem? (i := 73) rfl)) (hw _ (List.mem_of_getElem? (i := 7) rfl)) (hw _ (List.mem_of_getElem? (i := 75) rfl)) (by decide) 0 (by decide) (by decide) (by decide) (by decide) (a := o) Eo (argsL := [(.int (0 : Int32))]) (rest := []) pd_7 rfl rfl rfl rfl rfl at_135 ?_
    rintro T5 h5 l5 _ W5 ⟨q2, rfl, D2, rfl⟩
    refine w_dload W5 at_138 rfl ?_
    refine w_dcmp W5 at_140 (z := (0 : Int32)) (D2.eq DS (by have z0 : (0 : Int32).toInt = 0 := rfl; rw [z0, Int.zero_mul, Int.add_zero])) ?_
    refine w_ifne W5 (pc' := 161) at_141 (by decide) (fun c141 => absurd c141 (by decide)) (fun c141 => ?_)
    refine w_aload W5 at_144 rfl rfl ?_
    refine w_iload W5 at_146 rfl ?_
    refine w_virt W5 (ctBp l Z a0 hw o nI _ _ _ sL.toInt iL.toInt _ n0 (by rw [Int32.lt_iff_toInt_lt]; have z0 : (0 : Int32).toInt = 0 := rfl; omega) (by rw [Int32.lt_iff_toInt_lt, e1]; have z0 : (0 : Int32).toInt = 0 := rfl; omega) (by omega) (by omega) G0 G2 G3 DS DI) (hw _ (List.mem_of_getElem? (i := 71) rfl)) (hw _ (List.mem_of_getElem? (i := 72) rfl)) (notFace_of_selects (args := #[]) (mvT W5.wZ (hw _ (List.mem_of_getElem? (i := 74) rfl)))) (hw _ (List.mem_of_getElem? (i := 74) rfl)) (hw _ (List.mem_of_getElem? (i := 73) rfl)) (hw _ (List.mem_of_getElem? (i := 7) rfl)) (hw _ (List.mem_of_getElem? (i := 75) rfl)) (by decide) 0 (by decide) (by decide) (by decide) (by decide) (a := o) Eo (argsL := [(.int nI)]) (rest := []) pd_7 rfl rfl rfl rfl rfl at_148 ?_
    rintro T6 h6 l6 _ W6 ⟨q3, rfl, D3, rfl⟩
    refine w_dload W6 at_151 rfl ?_
    refine w_dcmp W6 at_153 (z := (0 : Int32)) (D3.eq DE be.symm) ?_
    refine w_ifne W6 (pc' := 161) at_154 (by decide) (fun c154 => absurd c154 (by decide)) (fun c154 => ?_)
    refine w_iconst W6 (z := (1 : Int32)) at_157 (by rfl) ?_
    refine w_goto W6 (pc' := 162) at_158 (by decide) ?_
    exact x_rN W6 rfl (by simp) (z' := (1 : Int32)) (by rfl) at_162 (by decide) (by decide) (fun vm' hvm' => rfl)
set_option maxRecDepth 65536 in
set_option maxHeartbeats 40000000 in
theorem comes_1 {Post : Tables → Env → Array Value → State → Outcome → State → Prop} (hpost : ∀ tb e args s v u, (limb_1_1.after args s (.returned v) u = true ∧ limb_1_2.after args s (.returned v) u = true ∧ True) → ReturnedEndW s (.returned v) u (Jvm.fieldLocs frame_1_writes args s ++ Jvm.arrayLocs frame_1_arrays args s ++ Jvm.staticLocs frame_1_statics s) 16 3200 → Post tb e args s (.returned v) u) :
    ArmFor flags0 classFile x code maxLocals ret World_1 tables_1 room_1 Calls_1 rest_1 Pre_1 Post := by
  intro l hfl _ _ p e ha hc hk s m args below hf hA hF happ hP
  obtain ⟨hcalls, hrest, hpre⟩ := hP
  obtain ⟨-, -, -, hnamed, -, -, -, hat⟩ := (Spec.applies_iff hf).mp happ
  obtain ⟨hg, hn⟩ := and_e (Cond.before_iff.mp (show (Jvm.Cond.and given_1 narrow_1).before args s = true from hpre))
  obtain ⟨g0, r0⟩ := and_e hg
  obtain ⟨g1, r1⟩ := and_e r0
  obtain ⟨g2, r2⟩ := and_e r1
  obtain ⟨g3, r3⟩ := and_e r2
  obtain ⟨w0, w1, w2, w3, rfl⟩ : ∃ w0 w1 w2 w3 : Value, args = #[w0, w1, w2, w3] := by
    have hs : args.size = 4 := by simpa [Cond.value, given_1] using g0
    obtain ⟨L⟩ := args
    match L, hs with
    | [w0, w1, w2, w3], _ => exact ⟨w0, w1, w2, w3, rfl⟩
  have hw := fun d (hd : d ∈ tables_1) => atoms_spec (ws := Jvm.Cond.code x code maxLocals ret :: tables_1) hat d (List.mem_cons_of_mem _ hd)
  obtain ⟨i0, ei0⟩ := is_v g1
  obtain rfl : w0 = (.int i0) := Option.some.inj ei0
  obtain ⟨i1, ei1⟩ := is_v g2
  obtain rfl : w1 = (.int i1) := Option.some.inj ei1
  obtain ⟨i2, ei2⟩ := is_v g3
  obtain rfl : w2 = (.int i2) := Option.some.inj ei2
  obtain ⟨i3, ei3⟩ := is_v r3
  obtain rfl : w3 = (.int i3) := Option.some.inj ei3
  obtain ⟨n, o, h1, h2, h3, _, L, rfl, ⟨rfl, N⟩, hq⟩ := ctLaw l s _ hw i0 i1 i2 i3 s.heap s.heap.size (Nat.le_refl _) tables_1 p e ha hc hk s m _ below hf ((Spec.applies_iff_loose hf).mp happ).1 ⟨rfl, State.Warmed39.refl s, rfl, trivial⟩ trivial
  refine ⟨n, _, h1, h2, h3, hpost _ _ _ _ _ _ ⟨Cond.after_iff.mpr rfl, Cond.after_iff.mpr (eq_i res_at (Term.int_eval (1)) rfl), trivial⟩ ⟨hq.1, hq.2.1, hq.2.2.1, (hq.2.2.2.sift fun y hy => Or.inr (N y hy)).mono (by decide) (by decide)⟩⟩
theorem main_1_1 : Claimed_1_1 := comes_1 fun _ _ _ _ _ _ h hF => ⟨h.1, hF⟩
theorem main_1_2 : Claimed_1_2 := comes_1 fun _ _ _ _ _ _ h hF => ⟨h.2.1, hF⟩
end Jvm.Pilot.@@N@@
namespace Jvm.Pilot.@@N@@
open Jvm Jvm.ClassFile Sem Op Lib Jvm.Free Jvm.Stand Jvm.Pilot.@@N@@.Jvm.D
/-! MADE BY PROGRAM (witnessworld.py) out of the Statement's table words and the real class files: 21 classes; the members and pool entries that the words name. The judged class is class 1, her method 1. -/
namespace start1
open Jvm.ClassFile
def u (s : String) : CpInfo := .utf8 (stringToUtf16 s)
/-- a pool by its gaps: so many unusable entries, then the entry; so many at the end -/
def gap : Nat → List CpInfo → List CpInfo
  | 0, r => r
  | n + 1, r => .unusable :: gap n r
def poolList (es : List (Nat × CpInfo)) (last : Nat) : List CpInfo := es.foldr (fun e r => gap e.1 (e.2 :: r)) (gap last [])
def pool (es : List (Nat × CpInfo)) (last : Nat) : Array CpInfo := ⟨poolList es last⟩
def fileOf (pool : Array CpInfo) (this : Nat) (attrs : Array Attribute := #[]) (ms : Array MethodInfo := #[]) (fl : Nat := 33) (sup : Nat := 0) (ifs : Array Nat := #[]) (fds : Array FieldInfo := #[]) : ClassFile where
  minorVersion := 0
  majorVersion := 65
  constantPool := pool
  accessFlags := fl
  thisClass := this
  superClass := sup
  interfaces := ifs
  fields := fds
  methods := ms
  attributes := attrs
def plain (name : String) (sup : Option ClassId) : Class where
  name := name
  kind := .ordinary
  loader := none
  accessFlags := 33
  super := sup
  interfaces := #[]
  cf := none
  fields := #[]
  methods := #[]
  instanceTypes := #[]
  staticTypes := #[]
  resolved := #[]
  callSites := []
  init := .initialized
  statics := none
  mirror := none

def pool0 : Array CpInfo := pool [(5, u "<init>"), (0, u "()V"), (1, .class_ 10), (1, u "java/lang/Object")] 113

def k0c0 : Code := { maxStack := 0, maxLocals := 1, code := object_method_1_code, exceptionTable := #[], attributes := #[] }
def k0m0 : Method := { name := "<init>", desc := "()V", sig := { parameters := [], returnType := none }, accessFlags := 1, code := some k0c0 }
/-- java/lang/Object -/
def k0 : Class := { plain "java/lang/Object" none with
  accessFlags := 33
  interfaces := #[]
  cf := some (fileOf pool0 8 #[] #[{ accessFlags := 1, nameIndex := 5, descriptorIndex := 6, attributes := #[] }] 33 0 #[] #[])
  fields := #[]
  methods := #[k0m0]
  instanceTypes := #[]
  staticTypes := #[]
  resolved := Array.replicate 124 none
  statics := none }

def pool1 : Array CpInfo := pool [(2, .class_ 4), (1, u "java/lang/Object"), (0, u "<init>"), (0, u "()V"), (0, .integer 1048575), (0, .integer 65535), (0, .integer 2147483647), (0, .integer 1048576), (0, .double 4625196817309499392), (1, .class_ 14), (0, u "com/example/choke_points/chokepoints/model/RecordingPeriod"), (0, .methodref 13 16), (0, .nameAndType 5 17), (0, u "(DDD)V"), (0, .methodref 13 19), (0, .nameAndType 20 21), (0, u "breakpointCount"), (0, u "()I"), (0, .methodref 13 23), (0, .nameAndType 24 25), (0, u "breakpoint"), (0, u "(I)D"), (0, .class_ 27), (0, u "com/example/choke_points/chokepoints/model/RecordingPeriodBreakpointPinLaw"), (2, u "law"), (0, u "(IIII)Z")] 3

def k1m0 : Method := { name := "<init>", desc := "()V", sig := { parameters := [], returnType := none }, accessFlags := 2, code := none }
def k1c1 : Code := { maxStack := 8, maxLocals := 21, code := code, exceptionTable := #[], attributes := #[] }
def k1m1 : Method := { name := "law", desc := "(IIII)Z", sig := { parameters := [.int, .int, .int, .int], returnType := some .boolean }, accessFlags := 9, code := some k1c1 }
/-- com/example/choke_points/chokepoints/model/RecordingPeriodBreakpointPinLaw -/
def k1 : Class := { plain "com/example/choke_points/chokepoints/model/RecordingPeriodBreakpointPinLaw" (some 0) with
  accessFlags := 49
  interfaces := #[]
  cf := some (fileOf pool1 26 #[] #[{ accessFlags := 2, nameIndex := 5, descriptorIndex := 6, attributes := #[] }, { accessFlags := 9, nameIndex := 30, descriptorIndex := 31, attributes := #[] }] 49 2 #[] #[])
  fields := #[]
  methods := #[k1m0, k1m1]
  instanceTypes := #[]
  staticTypes := #[]
  resolved := Array.replicate 35 none
  statics := none }

def pool2 : Array CpInfo := pool [(1, .methodref 2 3), (0, .class_ 4), (0, .nameAndType 5 6), (0, u "java/lang/Object"), (0, u "<init>"), (0, u "()V"), (0, .string 8), (0, u "period"), (0, .methodref 10 11), (0, .class_ 12), (0, .nameAndType 13 14), (0, u "com/example/choke_points/chokepoints/model/Checks"), (0, u "window"), (0, u "(Ljava/lang/String;DD)V"), (0, .string 16), (0, u "recording_interval"), (0, .string 18), (0, u "seconds"), (0, .methodref 10 20), (0, .nameAndType 21 22), (0, u "positive"), (0, u "(Ljava/lang/String;DLjava/lang/String;)D"), (2, .double 4746794007240114176), (10, .methodref 37 38), (0, .class_ 39), (0, .nameAndType 40 41), (0, u "java/lang/Math"), (0, u "rint"), (0, u "(D)D"), (0, .methodref 37 43), (0, .nameAndType 44 45), (0, u "max"), (0, u "(DD)D"), (0, .methodref 37 47), (0, .nameAndType 48 41), (0, u "abs"), (0, .class_ 50), (0, u "com/example/choke_points/chokepoints/model/RecordingPeriod"), (0, .double 4517329193108106637), (4, .fieldref 49 57), (0, .nameAndType 58 59), (0, u "start"), (0, u "D"), (0, .fieldref 49 61), (0, .nameAndType 62 59), (0, u "end"), (0, .fieldref 49 64), (0, .nameAndType 65 59), (0, u "interval"), (0, .fieldref 49 67), (0, .nameAndType 68 69), (0, u "breakpointCount"), (0, u "I"), (0, .methodref 71 72), (0, .class_ 73), (0, .nameAndType 74 75), (0, u "java/util/Objects"), (0, u "checkIndex"), (0, u "(II)I"), (8, u "breakpoint"), (0, u "(I)D"), (0, u "WHOLE_INTERVALS_TOLERANCE"), (1, u "(DDD)V"), (4, u "()I")] 21

def k2c0 : Code := { maxStack := 9, maxLocals := 11, code := prog_18_method_1_code, exceptionTable := #[], attributes := #[] }
def k2m0 : Method := { name := "<init>", desc := "(DDD)V", sig := { parameters := [.double, .double, .double], returnType := none }, accessFlags := 1, code := some k2c0 }
def k2c1 : Code := { maxStack := 1, maxLocals := 1, code := prog_18_method_5_code, exceptionTable := #[], attributes := #[] }
def k2m1 : Method := { name := "breakpointCount", desc := "()I", sig := { parameters := [], returnType := some .int }, accessFlags := 1, code := some k2c1 }
def k2c2 : Code := { maxStack := 6, maxLocals := 2, code := prog_18_method_6_code, exceptionTable := #[], attributes := #[] }
def k2m2 : Method := { name := "breakpoint", desc := "(I)D", sig := { parameters := [.int], returnType := some .double }, accessFlags := 1, code := some k2c2 }
/-- com/example/choke_points/chokepoints/model/RecordingPeriod -/
def k2 : Class := { plain "com/example/choke_points/chokepoints/model/RecordingPeriod" (some 0) with
  accessFlags := 33
  interfaces := #[]
  cf := some (fileOf pool2 49 #[] #[{ accessFlags := 1, nameIndex := 5, descriptorIndex := 88, attributes := #[] }, { accessFlags := 1, nameIndex := 68, descriptorIndex := 93, attributes := #[] }, { accessFlags := 1, nameIndex := 84, descriptorIndex := 85, attributes := #[] }] 33 2 #[] #[{ accessFlags := 26, nameIndex := 86, descriptorIndex := 59, attributes := #[] }, { accessFlags := 18, nameIndex := 58, descriptorIndex := 59, attributes := #[] }, { accessFlags := 18, nameIndex := 62, descriptorIndex := 59, attributes := #[] }, { accessFlags := 18, nameIndex := 65, descriptorIndex := 59, attributes := #[] }, { accessFlags := 18, nameIndex := 68, descriptorIndex := 69, attributes := #[] }])
  fields := #[{ name := "WHOLE_INTERVALS_TOLERANCE", type := .double, accessFlags := 26, slot := 0, constantValue := 0 }, { name := "start", type := .double, accessFlags := 18, slot := 0, constantValue := 0 }, { name := "end", type := .double, accessFlags := 18, slot := 1, constantValue := 0 }, { name := "interval", type := .double, accessFlags := 18, slot := 2, constantValue := 0 }, { name := "breakpointCount", type := .int, accessFlags := 18, slot := 3, constantValue := 0 }]
  methods := #[k2m0, k2m1, k2m2]
  instanceTypes := #[.double, .double, .double, .int]
  staticTypes := #[.double]
  resolved := Array.replicate 115 none
  statics := none }

def pool3 : Array CpInfo := pool [(1, .class_ 2), (0, u "java/io/Serializable"), (0, .class_ 4), (0, u "java/lang/Object")] 2

/-- java/io/Serializable -/
def k3 : Class := { plain "java/io/Serializable" (some 0) with
  accessFlags := 1537
  interfaces := #[]
  cf := some (fileOf pool3 1 #[] #[] 1537 3 #[] #[])
  fields := #[]
  methods := #[]
  instanceTypes := #[]
  staticTypes := #[]
  resolved := Array.replicate 7 none
  statics := none }

def pool4 : Array CpInfo := pool [(1, .class_ 2), (0, u "java/lang/Comparable"), (0, .class_ 4), (0, u "java/lang/Object")] 7

/-- java/lang/Comparable -/
def k4 : Class := { plain "java/lang/Comparable" (some 0) with
  accessFlags := 1537
  interfaces := #[]
  cf := some (fileOf pool4 1 #[] #[] 1537 3 #[] #[])
  fields := #[]
  methods := #[]
  instanceTypes := #[]
  staticTypes := #[]
  resolved := Array.replicate 12 none
  statics := none }

def pool5 : Array CpInfo := pool [(2, .class_ 4), (1, u "java/lang/CharSequence"), (42, .class_ 48), (0, u "java/lang/CharSequence$1CodePointIterator"), (10, .class_ 60), (0, u "java/lang/CharSequence$1CharIterator"), (5, .class_ 67), (0, u "java/lang/Object")] 63

/-- java/lang/CharSequence -/
def k5 : Class := { plain "java/lang/CharSequence" (some 0) with
  accessFlags := 1537
  interfaces := #[]
  cf := some (fileOf pool5 2 #[.nestMembers #[47, 59]] #[] 1537 66 #[] #[])
  fields := #[]
  methods := #[]
  instanceTypes := #[]
  staticTypes := #[]
  resolved := Array.replicate 131 none
  statics := none }

def pool6 : Array CpInfo := pool [(1, .class_ 2), (0, u "java/lang/constant/Constable"), (0, .class_ 4), (0, u "java/lang/Object")] 6

/-- java/lang/constant/Constable -/
def k6 : Class := { plain "java/lang/constant/Constable" (some 0) with
  accessFlags := 1537
  interfaces := #[]
  cf := some (fileOf pool6 1 #[] #[] 1537 3 #[] #[])
  fields := #[]
  methods := #[]
  instanceTypes := #[]
  staticTypes := #[]
  resolved := Array.replicate 11 none
  statics := none }

def pool7 : Array CpInfo := pool [(1, .class_ 2), (0, u "java/lang/constant/ConstantDesc"), (0, .class_ 4), (0, u "java/lang/Object")] 32

/-- java/lang/constant/ConstantDesc -/
def k7 : Class := { plain "java/lang/constant/ConstantDesc" (some 0) with
  accessFlags := 1537
  interfaces := #[]
  cf := some (fileOf pool7 1 #[] #[] 1537 3 #[] #[])
  fields := #[]
  methods := #[]
  instanceTypes := #[]
  staticTypes := #[]
  resolved := Array.replicate 37 none
  statics := none }

def pool8 : Array CpInfo := pool [(2, .class_ 4), (1, u "java/lang/Object"), (0, u "<init>"), (0, u "()V"), (3, .class_ 12), (1, u "java/lang/String"), (0, u "value"), (0, u "[B"), (2, u "coder"), (0, u "B"), (2, u "hash"), (0, u "I"), (2, u "hashIsZero"), (0, u "Z"), (13, u "COMPACT_STRINGS"), (534, .class_ 576), (0, u "java/lang/CharSequence"), (22, u "CASE_INSENSITIVE_ORDER"), (0, u "Ljava/util/Comparator;"), (500, u "serialPersistentFields"), (0, u "[Ljava/io/ObjectStreamField;"), (0, .class_ 1104), (0, u "java/lang/String$CaseInsensitiveComparator"), (1, .class_ 1107), (0, u "java/io/Serializable"), (0, .class_ 1109), (0, u "java/lang/Comparable"), (0, .class_ 1111), (0, u "java/lang/constant/Constable"), (0, .class_ 1113), (0, u "java/lang/constant/ConstantDesc"), (2, u "serialVersionUID"), (0, u "J"), (3, u "REPL"), (0, u "C"), (2, u "LATIN1"), (1, u "UTF16")] 323

def k8m0 : Method := { name := "<init>", desc := "()V", sig := { parameters := [], returnType := none }, accessFlags := 1, code := none }
/-- java/lang/String -/
def k8 : Class := { plain "java/lang/String" (some 0) with
  accessFlags := 49
  interfaces := #[3, 4, 5, 6, 7]
  cf := some (fileOf pool8 10 #[.nestMembers #[1103]] #[{ accessFlags := 1, nameIndex := 5, descriptorIndex := 6, attributes := #[] }] 49 2 #[1106, 1108, 575, 1110, 1112] #[{ accessFlags := 18, nameIndex := 13, descriptorIndex := 14, attributes := #[] }, { accessFlags := 18, nameIndex := 17, descriptorIndex := 18, attributes := #[] }, { accessFlags := 2, nameIndex := 21, descriptorIndex := 22, attributes := #[] }, { accessFlags := 2, nameIndex := 25, descriptorIndex := 26, attributes := #[] }, { accessFlags := 26, nameIndex := 1116, descriptorIndex := 1117, attributes := #[] }, { accessFlags := 24, nameIndex := 40, descriptorIndex := 26, attributes := #[] }, { accessFlags := 26, nameIndex := 1101, descriptorIndex := 1102, attributes := #[] }, { accessFlags := 26, nameIndex := 1121, descriptorIndex := 1122, attributes := #[] }, { accessFlags := 25, nameIndex := 599, descriptorIndex := 600, attributes := #[] }, { accessFlags := 24, nameIndex := 1125, descriptorIndex := 18, attributes := #[] }, { accessFlags := 24, nameIndex := 1127, descriptorIndex := 18, attributes := #[] }])
  fields := #[{ name := "value", type := (.array .byte), accessFlags := 18, slot := 0, constantValue := 0 }, { name := "coder", type := .byte, accessFlags := 18, slot := 1, constantValue := 0 }, { name := "hash", type := .int, accessFlags := 2, slot := 2, constantValue := 0 }, { name := "hashIsZero", type := .boolean, accessFlags := 2, slot := 3, constantValue := 0 }, { name := "serialVersionUID", type := .long, accessFlags := 26, slot := 0, constantValue := 0 }, { name := "COMPACT_STRINGS", type := .boolean, accessFlags := 24, slot := 1, constantValue := 0 }, { name := "serialPersistentFields", type := (.array (.object "java/io/ObjectStreamField")), accessFlags := 26, slot := 2, constantValue := 0 }, { name := "REPL", type := .char, accessFlags := 26, slot := 3, constantValue := 0 }, { name := "CASE_INSENSITIVE_ORDER", type := (.object "java/util/Comparator"), accessFlags := 25, slot := 4, constantValue := 0 }, { name := "LATIN1", type := .byte, accessFlags := 24, slot := 5, constantValue := 0 }, { name := "UTF16", type := .byte, accessFlags := 24, slot := 6, constantValue := 0 }]
  methods := #[k8m0]
  instanceTypes := #[(.array .byte), .byte, .int, .boolean]
  staticTypes := #[.long, .boolean, (.array (.object "java/io/ObjectStreamField")), .char, (.object "java/util/Comparator"), .byte, .byte]
  resolved := Array.replicate 1451 none
  statics := none }

def pool9 : Array CpInfo := pool [(2, .class_ 4), (1, u "java/lang/Object"), (0, u "<init>"), (0, u "()V"), (19, .methodref 27 28), (0, .class_ 29), (0, .nameAndType 30 31), (0, u "java/lang/Double"), (0, u "isFinite"), (0, u "(D)Z"), (56, .class_ 89), (0, u "com/example/choke_points/chokepoints/model/Checks"), (5, u "positive"), (0, u "(Ljava/lang/String;DLjava/lang/String;)D"), (6, u "window"), (0, u "(Ljava/lang/String;DD)V")] 37

def k9m0 : Method := { name := "<init>", desc := "()V", sig := { parameters := [], returnType := none }, accessFlags := 2, code := none }
def k9c1 : Code := { maxStack := 6, maxLocals := 4, code := prog_10_method_3_code, exceptionTable := #[], attributes := #[] }
def k9m1 : Method := { name := "positive", desc := "(Ljava/lang/String;DLjava/lang/String;)D", sig := { parameters := [(.object "java/lang/String"), .double, (.object "java/lang/String")], returnType := some .double }, accessFlags := 9, code := some k9c1 }
def k9c2 : Code := { maxStack := 7, maxLocals := 5, code := prog_10_method_8_code, exceptionTable := #[], attributes := #[] }
def k9m2 : Method := { name := "window", desc := "(Ljava/lang/String;DD)V", sig := { parameters := [(.object "java/lang/String"), .double, .double], returnType := none }, accessFlags := 9, code := some k9c2 }
/-- com/example/choke_points/chokepoints/model/Checks -/
def k9 : Class := { plain "com/example/choke_points/chokepoints/model/Checks" (some 0) with
  accessFlags := 33
  interfaces := #[]
  cf := some (fileOf pool9 88 #[] #[{ accessFlags := 2, nameIndex := 5, descriptorIndex := 6, attributes := #[] }, { accessFlags := 9, nameIndex := 95, descriptorIndex := 96, attributes := #[] }, { accessFlags := 9, nameIndex := 103, descriptorIndex := 104, attributes := #[] }] 33 2 #[] #[])
  fields := #[]
  methods := #[k9m0, k9m1, k9m2]
  instanceTypes := #[]
  staticTypes := #[]
  resolved := Array.replicate 142 none
  statics := none }

def pool10 : Array CpInfo := pool [(2, .class_ 4), (1, u "java/lang/Object"), (0, u "<init>"), (0, u "()V"), (1, .class_ 10), (1, u "java/lang/Number"), (2, .class_ 14), (0, u "java/io/Serializable"), (0, u "serialVersionUID"), (0, u "J")] 20

def k10m0 : Method := { name := "<init>", desc := "()V", sig := { parameters := [], returnType := none }, accessFlags := 1, code := none }
/-- java/lang/Number -/
def k10 : Class := { plain "java/lang/Number" (some 0) with
  accessFlags := 1057
  interfaces := #[3]
  cf := some (fileOf pool10 8 #[] #[{ accessFlags := 1, nameIndex := 5, descriptorIndex := 6, attributes := #[] }] 1057 2 #[13] #[{ accessFlags := 26, nameIndex := 15, descriptorIndex := 16, attributes := #[] }])
  fields := #[{ name := "serialVersionUID", type := .long, accessFlags := 26, slot := 0, constantValue := 0 }]
  methods := #[k10m0]
  instanceTypes := #[]
  staticTypes := #[.long]
  resolved := Array.replicate 37 none
  statics := none }

def pool11 : Array CpInfo := pool [(1, .class_ 2), (0, u "java/lang/Double"), (10, u "isFinite"), (0, u "(D)Z"), (8, .class_ 25), (1, u "java/lang/Math"), (12, .methodref 23 39), (0, .nameAndType 40 41), (0, u "abs"), (0, u "(D)D"), (69, .double 9218868437227405311), (2, .class_ 116), (1, u "java/lang/Number"), (3, u "value"), (0, u "D"), (51, u "TYPE"), (0, u "Ljava/lang/Class;"), (0, .class_ 176), (0, u "java/lang/Comparable"), (0, .class_ 178), (0, u "java/lang/constant/Constable"), (0, .class_ 180), (0, u "java/lang/constant/ConstantDesc"), (0, u "POSITIVE_INFINITY"), (3, u "NEGATIVE_INFINITY"), (2, u "NaN"), (2, u "MAX_VALUE"), (0, u "MIN_NORMAL"), (0, u "MIN_VALUE"), (2, u "SIZE"), (0, u "I"), (1, u "PRECISION"), (1, u "MAX_EXPONENT"), (1, u "MIN_EXPONENT"), (1, u "BYTES"), (3, u "serialVersionUID"), (0, u "J")] 79

def k11c0 : Code := { maxStack := 4, maxLocals := 2, code := jdk_117_method_8_code, exceptionTable := #[], attributes := #[] }
def k11m0 : Method := { name := "isFinite", desc := "(D)Z", sig := { parameters := [.double], returnType := some .boolean }, accessFlags := 9, code := some k11c0 }
/-- java/lang/Double -/
def k11 : Class := { plain "java/lang/Double" (some 10) with
  accessFlags := 49
  interfaces := #[4, 6, 7]
  cf := some (fileOf pool11 1 #[] #[{ accessFlags := 9, nameIndex := 13, descriptorIndex := 14, attributes := #[] }] 49 114 #[175, 177, 179] #[{ accessFlags := 25, nameIndex := 181, descriptorIndex := 121, attributes := #[] }, { accessFlags := 25, nameIndex := 185, descriptorIndex := 121, attributes := #[] }, { accessFlags := 25, nameIndex := 188, descriptorIndex := 121, attributes := #[] }, { accessFlags := 25, nameIndex := 191, descriptorIndex := 121, attributes := #[] }, { accessFlags := 25, nameIndex := 192, descriptorIndex := 121, attributes := #[] }, { accessFlags := 25, nameIndex := 193, descriptorIndex := 121, attributes := #[] }, { accessFlags := 25, nameIndex := 196, descriptorIndex := 197, attributes := #[] }, { accessFlags := 25, nameIndex := 199, descriptorIndex := 197, attributes := #[] }, { accessFlags := 25, nameIndex := 201, descriptorIndex := 197, attributes := #[] }, { accessFlags := 25, nameIndex := 203, descriptorIndex := 197, attributes := #[] }, { accessFlags := 25, nameIndex := 205, descriptorIndex := 197, attributes := #[] }, { accessFlags := 25, nameIndex := 173, descriptorIndex := 174, attributes := #[] }, { accessFlags := 18, nameIndex := 120, descriptorIndex := 121, attributes := #[] }, { accessFlags := 26, nameIndex := 209, descriptorIndex := 210, attributes := #[] }])
  fields := #[{ name := "POSITIVE_INFINITY", type := .double, accessFlags := 25, slot := 0, constantValue := 0 }, { name := "NEGATIVE_INFINITY", type := .double, accessFlags := 25, slot := 1, constantValue := 0 }, { name := "NaN", type := .double, accessFlags := 25, slot := 2, constantValue := 0 }, { name := "MAX_VALUE", type := .double, accessFlags := 25, slot := 3, constantValue := 0 }, { name := "MIN_NORMAL", type := .double, accessFlags := 25, slot := 4, constantValue := 0 }, { name := "MIN_VALUE", type := .double, accessFlags := 25, slot := 5, constantValue := 0 }, { name := "SIZE", type := .int, accessFlags := 25, slot := 6, constantValue := 0 }, { name := "PRECISION", type := .int, accessFlags := 25, slot := 7, constantValue := 0 }, { name := "MAX_EXPONENT", type := .int, accessFlags := 25, slot := 8, constantValue := 0 }, { name := "MIN_EXPONENT", type := .int, accessFlags := 25, slot := 9, constantValue := 0 }, { name := "BYTES", type := .int, accessFlags := 25, slot := 10, constantValue := 0 }, { name := "TYPE", type := (.object "java/lang/Class"), accessFlags := 25, slot := 11, constantValue := 0 }, { name := "value", type := .double, accessFlags := 18, slot := 0, constantValue := 0 }, { name := "serialVersionUID", type := .long, accessFlags := 26, slot := 12, constantValue := 0 }]
  methods := #[k11m0]
  instanceTypes := #[.double]
  staticTypes := #[.double, .double, .double, .double, .double, .double, .int, .int, .int, .int, .int, (.object "java/lang/Class"), .long]
  resolved := Array.replicate 290 none
  statics := none }

def pool12 : Array CpInfo := pool [(1, .class_ 2), (0, u "java/lang/Math"), (1, .class_ 6), (1, u "java/lang/Object"), (0, u "<init>"), (0, u "()V"), (1, .class_ 12), (1, u "java/lang/StrictMath"), (1, u "(D)D"), (37, u "(DD)D"), (6, .methodref 10 60), (0, .nameAndType 61 14), (0, u "rint"), (36, .class_ 100), (1, u "java/lang/Math$RandomNumberGeneratorHolder"), (23, u "abs"), (47, u "negativeZeroFloatBits"), (0, u "J"), (2, u "negativeZeroDoubleBits"), (21, u "max"), (46, u "$assertionsDisabled"), (0, u "Z"), (54, u "copySign"), (36, u "twoToTheDoubleScaleDown"), (0, u "D"), (4, u "twoToTheDoubleScaleUp"), (9, u "E"), (3, u "PI"), (2, u "TAU"), (2, u "DEGREES_TO_RADIANS"), (0, u "RADIANS_TO_DEGREES")] 94

def k12m0 : Method := { name := "<init>", desc := "()V", sig := { parameters := [], returnType := none }, accessFlags := 2, code := none }
def k12c1 : Code := { maxStack := 2, maxLocals := 2, code := jdk_29_method_18_code, exceptionTable := #[], attributes := #[] }
def k12m1 : Method := { name := "rint", desc := "(D)D", sig := { parameters := [.double], returnType := some .double }, accessFlags := 9, code := some k12c1 }
def k12c2 : Code := { maxStack := 4, maxLocals := 2, code := jdk_29_method_64_code, exceptionTable := #[], attributes := #[] }
def k12m2 : Method := { name := "abs", desc := "(D)D", sig := { parameters := [.double], returnType := some .double }, accessFlags := 9, code := some k12c2 }
def k12c3 : Code := { maxStack := 4, maxLocals := 4, code := jdk_29_method_68_code, exceptionTable := #[], attributes := #[] }
def k12m3 : Method := { name := "max", desc := "(DD)D", sig := { parameters := [.double, .double], returnType := some .double }, accessFlags := 9, code := some k12c3 }
def k12c4 : Code := { maxStack := 6, maxLocals := 4, code := jdk_29_method_89_code, exceptionTable := #[], attributes := #[] }
def k12m4 : Method := { name := "copySign", desc := "(DD)D", sig := { parameters := [.double, .double], returnType := some .double }, accessFlags := 9, code := some k12c4 }
/-- java/lang/Math -/
def k12 : Class := { plain "java/lang/Math" (some 0) with
  accessFlags := 49
  interfaces := #[]
  cf := some (fileOf pool12 1 #[.nestMembers #[98]] #[{ accessFlags := 2, nameIndex := 7, descriptorIndex := 8, attributes := #[] }, { accessFlags := 9, nameIndex := 61, descriptorIndex := 14, attributes := #[] }, { accessFlags := 9, nameIndex := 124, descriptorIndex := 14, attributes := #[] }, { accessFlags := 9, nameIndex := 198, descriptorIndex := 52, attributes := #[] }, { accessFlags := 9, nameIndex := 301, descriptorIndex := 52, attributes := #[] }] 49 4 #[] #[{ accessFlags := 25, nameIndex := 354, descriptorIndex := 339, attributes := #[] }, { accessFlags := 25, nameIndex := 358, descriptorIndex := 339, attributes := #[] }, { accessFlags := 25, nameIndex := 361, descriptorIndex := 339, attributes := #[] }, { accessFlags := 26, nameIndex := 364, descriptorIndex := 339, attributes := #[] }, { accessFlags := 26, nameIndex := 365, descriptorIndex := 339, attributes := #[] }, { accessFlags := 26, nameIndex := 172, descriptorIndex := 173, attributes := #[] }, { accessFlags := 26, nameIndex := 176, descriptorIndex := 173, attributes := #[] }, { accessFlags := 8, nameIndex := 344, descriptorIndex := 339, attributes := #[] }, { accessFlags := 8, nameIndex := 338, descriptorIndex := 339, attributes := #[] }, { accessFlags := 4120, nameIndex := 245, descriptorIndex := 246, attributes := #[] }])
  fields := #[{ name := "E", type := .double, accessFlags := 25, slot := 0, constantValue := 0 }, { name := "PI", type := .double, accessFlags := 25, slot := 1, constantValue := 0 }, { name := "TAU", type := .double, accessFlags := 25, slot := 2, constantValue := 0 }, { name := "DEGREES_TO_RADIANS", type := .double, accessFlags := 26, slot := 3, constantValue := 0 }, { name := "RADIANS_TO_DEGREES", type := .double, accessFlags := 26, slot := 4, constantValue := 0 }, { name := "negativeZeroFloatBits", type := .long, accessFlags := 26, slot := 5, constantValue := 0 }, { name := "negativeZeroDoubleBits", type := .long, accessFlags := 26, slot := 6, constantValue := 0 }, { name := "twoToTheDoubleScaleUp", type := .double, accessFlags := 8, slot := 7, constantValue := 0 }, { name := "twoToTheDoubleScaleDown", type := .double, accessFlags := 8, slot := 8, constantValue := 0 }, { name := "$assertionsDisabled", type := .boolean, accessFlags := 4120, slot := 9, constantValue := 0 }]
  methods := #[k12m0, k12m1, k12m2, k12m3, k12m4]
  instanceTypes := #[]
  staticTypes := #[.double, .double, .double, .double, .double, .long, .long, .double, .double, .boolean]
  resolved := Array.replicate 460 none
  statics := none }

def pool13 : Array CpInfo := pool [(1, .class_ 2), (0, u "java/lang/StrictMath"), (1, .class_ 6), (1, u "java/lang/Object"), (0, u "<init>"), (0, u "()V"), (5, u "(D)D"), (16, .class_ 33), (1, u "java/lang/Math"), (23, u "(DD)D"), (14, u "$assertionsDisabled"), (0, u "Z"), (19, .double 4841369599423283200), (1, .methodref 31 96), (0, .nameAndType 97 57), (0, u "copySign"), (0, .methodref 31 99), (0, .nameAndType 100 14), (0, u "abs"), (13, .class_ 116), (1, u "java/lang/StrictMath$RandomNumberGeneratorHolder"), (222, u "E"), (0, u "D"), (3, u "PI"), (2, u "TAU"), (38, u "rint")] 49

def k13m0 : Method := { name := "<init>", desc := "()V", sig := { parameters := [], returnType := none }, accessFlags := 2, code := none }
def k13c1 : Code := { maxStack := 4, maxLocals := 6, code := jdk_128_method_19_code, exceptionTable := #[], attributes := #[] }
def k13m1 : Method := { name := "rint", desc := "(D)D", sig := { parameters := [.double], returnType := some .double }, accessFlags := 9, code := some k13c1 }
/-- java/lang/StrictMath -/
def k13 : Class := { plain "java/lang/StrictMath" (some 0) with
  accessFlags := 49
  interfaces := #[]
  cf := some (fileOf pool13 1 #[.nestMembers #[114]] #[{ accessFlags := 2, nameIndex := 7, descriptorIndex := 8, attributes := #[] }, { accessFlags := 9, nameIndex := 386, descriptorIndex := 14, attributes := #[] }] 49 4 #[] #[{ accessFlags := 25, nameIndex := 339, descriptorIndex := 340, attributes := #[] }, { accessFlags := 25, nameIndex := 344, descriptorIndex := 340, attributes := #[] }, { accessFlags := 25, nameIndex := 347, descriptorIndex := 340, attributes := #[] }, { accessFlags := 4120, nameIndex := 72, descriptorIndex := 73, attributes := #[] }])
  fields := #[{ name := "E", type := .double, accessFlags := 25, slot := 0, constantValue := 0 }, { name := "PI", type := .double, accessFlags := 25, slot := 1, constantValue := 0 }, { name := "TAU", type := .double, accessFlags := 25, slot := 2, constantValue := 0 }, { name := "$assertionsDisabled", type := .boolean, accessFlags := 4120, slot := 3, constantValue := 0 }]
  methods := #[k13m0, k13m1]
  instanceTypes := #[]
  staticTypes := #[.double, .double, .double, .boolean]
  resolved := Array.replicate 436 none
  statics := none }

def pool14 : Array CpInfo := pool [(2, .class_ 4), (1, u "java/lang/Object"), (0, u "<init>"), (0, u "()V"), (35, .class_ 44), (1, u "java/util/Objects"), (60, .methodref 106 107), (0, .class_ 108), (0, .nameAndType 109 110), (0, u "jdk/internal/util/Preconditions"), (0, u "checkIndex"), (0, u "(IILjava/util/function/BiFunction;)I"), (60, u "(II)I")] 12

def k14m0 : Method := { name := "<init>", desc := "()V", sig := { parameters := [], returnType := none }, accessFlags := 2, code := none }
def k14c1 : Code := { maxStack := 3, maxLocals := 2, code := jdk_31_method_17_code, exceptionTable := #[], attributes := #[] }
def k14m1 : Method := { name := "checkIndex", desc := "(II)I", sig := { parameters := [.int, .int], returnType := some .int }, accessFlags := 9, code := some k14c1 }
/-- java/util/Objects -/
def k14 : Class := { plain "java/util/Objects" (some 0) with
  accessFlags := 49
  interfaces := #[]
  cf := some (fileOf pool14 42 #[] #[{ accessFlags := 2, nameIndex := 5, descriptorIndex := 6, attributes := #[] }, { accessFlags := 9, nameIndex := 109, descriptorIndex := 171, attributes := #[] }] 49 2 #[] #[])
  fields := #[]
  methods := #[k14m0, k14m1]
  instanceTypes := #[]
  staticTypes := #[]
  resolved := Array.replicate 184 none
  statics := none }

def pool15 : Array CpInfo := pool [(2, .class_ 4), (1, u "java/lang/Object"), (0, u "<init>"), (0, u "()V"), (17, .class_ 26), (1, u "jdk/internal/util/Preconditions"), (6, u "checkIndex"), (21, .class_ 56), (0, u "jdk/internal/util/Preconditions$4"), (57, .class_ 115), (0, u "jdk/internal/util/Preconditions$1"), (7, u "SIOOBE_FORMATTER"), (0, u "Ljava/util/function/BiFunction;"), (0, .class_ 126), (0, u "jdk/internal/util/Preconditions$2"), (3, u "AIOOBE_FORMATTER"), (0, .class_ 132), (0, u "jdk/internal/util/Preconditions$3"), (3, u "IOOBE_FORMATTER"), (41, u "(IILjava/util/function/BiFunction;)I")] 15

def k15m0 : Method := { name := "<init>", desc := "()V", sig := { parameters := [], returnType := none }, accessFlags := 1, code := none }
def k15c1 : Code := { maxStack := 3, maxLocals := 3, code := jdk_41_method_11_code, exceptionTable := #[], attributes := #[] }
def k15m1 : Method := { name := "checkIndex", desc := "(IILjava/util/function/BiFunction;)I", sig := { parameters := [.int, .int, (.object "java/util/function/BiFunction")], returnType := some .int }, accessFlags := 9, code := some k15c1 }
/-- jdk/internal/util/Preconditions -/
def k15 : Class := { plain "jdk/internal/util/Preconditions" (some 0) with
  accessFlags := 33
  interfaces := #[]
  cf := some (fileOf pool15 24 #[.nestMembers #[55, 131, 125, 114]] #[{ accessFlags := 1, nameIndex := 5, descriptorIndex := 6, attributes := #[] }, { accessFlags := 9, nameIndex := 33, descriptorIndex := 178, attributes := #[] }] 33 2 #[] #[{ accessFlags := 25, nameIndex := 123, descriptorIndex := 124, attributes := #[] }, { accessFlags := 25, nameIndex := 130, descriptorIndex := 124, attributes := #[] }, { accessFlags := 25, nameIndex := 136, descriptorIndex := 124, attributes := #[] }])
  fields := #[{ name := "SIOOBE_FORMATTER", type := (.object "java/util/function/BiFunction"), accessFlags := 25, slot := 0, constantValue := 0 }, { name := "AIOOBE_FORMATTER", type := (.object "java/util/function/BiFunction"), accessFlags := 25, slot := 1, constantValue := 0 }, { name := "IOOBE_FORMATTER", type := (.object "java/util/function/BiFunction"), accessFlags := 25, slot := 2, constantValue := 0 }]
  methods := #[k15m0, k15m1]
  instanceTypes := #[]
  staticTypes := #[(.object "java/util/function/BiFunction"), (.object "java/util/function/BiFunction"), (.object "java/util/function/BiFunction")]
  resolved := Array.replicate 194 none
  statics := none }

def pool16 : Array CpInfo := pool [(1, u "java/lang/Cloneable"), (0, .class_ 1), (0, u "java/lang/Object"), (0, .class_ 3)] 3

/-- java/lang/Cloneable -/
def k16 : Class := { plain "java/lang/Cloneable" (some 0) with
  accessFlags := 1537
  interfaces := #[]
  cf := some (fileOf pool16 2 #[] #[] 1537 4 #[] #[])
  fields := #[]
  methods := #[]
  instanceTypes := #[]
  staticTypes := #[]
  resolved := Array.replicate 8 none
  statics := none }

/-- the primitive byte -/
def k17 : Class := { plain "byte" none with kind := .primitive 'B', accessFlags := 0x411 }
/-- [B -/
def k18 : Class := { plain "[B" (some 0) with kind := .array 17 .byte, interfaces := #[16, 3], accessFlags := 1041 }

/-- the primitive int -/
def k19 : Class := { plain "int" none with kind := .primitive 'I', accessFlags := 0x411 }
/-- [I -/
def k20 : Class := { plain "[I" (some 0) with kind := .array 19 .int, interfaces := #[16, 3], accessFlags := 1041 }

def heap : Heap := #[]
def classes : Array Class := #[k0, k1, k2, k3, k4, k5, k6, k7, k8, k9, k10, k11, k12, k13, k14, k15, k16, k17, k18, k19, k20]
def interned : List (Array UInt16 × Addr) := []
def slotsUsed : Nat := 0
def theMethod : MethodId := ⟨1, 1⟩
def args0 : Array Value := #[.int 5, .int 6, .int 7, .int 8]
def aboutOver (below : List Frame) : State where
  vm := { classes := classes, interned := interned.toArray }
  heap := heap
  slotsUsed := slotsUsed
  threads := #[{ frames := .invoking theMethod args0 :: below }]
def below0 : List Frame := [.native { method := ⟨0, 0⟩, args := #[] }]
def about1 : State := aboutOver below0
def p0 : Program := .bare "" "" ""
def e0 : Env := launch0.env 0 0 0
theorem w_frames : about1.frames = Frame.invoking theMethod args0 :: below0 := rfl
set_option maxRecDepth 65536 in
theorem w_args : argsFit about1.vm theMethod args0 = true := by decide +kernel
set_option maxRecDepth 65536 in
theorem w_heap : heapFits about1 = true := by decide +kernel
set_option maxRecDepth 65536 in
theorem w_runnable : about1.curStatus? = some .runnable := by decide +kernel
set_option maxRecDepth 65536 in
theorem w_alone : about1.alone = true := by decide +kernel
set_option maxRecDepth 65536 in
theorem w_named : about1.methodNamed? x = some theMethod := by decide +kernel
set_option maxRecDepth 65536 in
theorem w_hears : about1.hears theMethod below0 = true := by decide +kernel
set_option maxRecDepth 65536 in
theorem w_ripe : about1.ripe theMethod args0 below0 = true := by decide +kernel
theorem w_running : about1.status = .running := rfl
set_option maxRecDepth 65536 in
theorem w_room : about1.hasRoom e0.platform room_1 = true :=
  launch0.hasRoom_least _ room_1 (by decide +kernel) (by decide +kernel) (by decide +kernel) (by decide +kernel) (by decide +kernel) (by decide +kernel)
theorem allAtoms_all (ts : List Jvm.Cond) (a : Array Jvm.Value) (st : Jvm.State) : (allAtoms ts).before a st = ts.all (fun c => c.before a st) := by
  induction ts with
  | nil => rfl
  | cons c t ih =>
    show (Jvm.Cond.and c (allAtoms t)).before a st = _
    rw [Jvm.Cond.before_and, ih, List.all_cons]
def words1 : List Jvm.Cond := Jvm.Cond.code x code maxLocals ret :: tables_1
/-- a 'code' word, met by the world's own term for the bytes: nothing is compared byte by byte -/
theorem code_word {y : MethodName} {bytes : ByteArray} {mx : Nat} {rt : Option FieldType} {a : Array Value} {s : State} {m : MethodId} {meth : Method} {c : Code} (h1 : s.methodNamed? y = some m) (h2 : s.vm.method? m = some meth) (h3 : meth.code = some c) (h4 : c.code = bytes)
    (h5 : (c.maxLocals == mx && c.exceptionTable.isEmpty && decide (c.maxStack ≤ mostOperands) && decide (meth.sig.returnType = rt) && !meth.locks && decide (parseMethodDescriptor y.desc = some meth.sig)) = true) : (Jvm.Cond.code y bytes mx rt).before a s = true := by
  simp only [Bool.and_eq_true, beq_iff_eq, Bool.not_eq_true', decide_eq_true_eq] at h5
  obtain ⟨⟨⟨⟨⟨g1, g2⟩, g3⟩, g4⟩, g5⟩, g6⟩ := h5
  simp [Cond.before, Cond.holds, Cond.value, h1, h2, h3, h4, g1, g2, g3, g4, g5, g6]
def isCode : Jvm.Cond → Bool
  | .code _ _ _ _ => true
  | _ => false
theorem all_split {L : List Jvm.Cond} {P : Jvm.Cond → Bool} (h1 : L.all (fun c => isCode c || P c) = true) (h2 : ∀ c ∈ L.filter isCode, P c = true) : L.all P = true := by
  refine List.all_eq_true.mpr fun c hc => ?_
  have h := List.all_eq_true.mp h1 c hc
  rcases Bool.eq_false_or_eq_true (isCode c) with hi | hi
  · exact h2 c (List.mem_filter.mpr ⟨hc, hi⟩)
  · simpa [hi] using h
set_option maxRecDepth 65536 in
theorem w_c0 : (Jvm.Cond.code x code maxLocals ret).before args0 about1 = true := code_word (m := ⟨1, 1⟩) (meth := k1m1) (c := k1c1) (by decide +kernel) rfl rfl rfl (by decide +kernel)
set_option maxRecDepth 65536 in
theorem w_c1 : (Jvm.Cond.code ({ cls := "com/example/choke_points/chokepoints/model/RecordingPeriod", name := "<init>", desc := "(DDD)V" } : Jvm.MethodName) prog_18_method_1_code (11 : Nat) (Option.none : Option Jvm.ClassFile.FieldType)).before args0 about1 = true := code_word (m := ⟨2, 0⟩) (meth := k2m0) (c := k2c0) (by decide +kernel) rfl rfl rfl (by decide +kernel)
set_option maxRecDepth 65536 in
theorem w_c2 : (Jvm.Cond.code ({ cls := "java/lang/Object", name := "<init>", desc := "()V" } : Jvm.MethodName) object_method_1_code (1 : Nat) (Option.none : Option Jvm.ClassFile.FieldType)).before args0 about1 = true := code_word (m := ⟨0, 0⟩) (meth := k0m0) (c := k0c0) (by decide +kernel) rfl rfl rfl (by decide +kernel)
set_option maxRecDepth 65536 in
theorem w_c3 : (Jvm.Cond.code ({ cls := "com/example/choke_points/chokepoints/model/Checks", name := "window", desc := "(Ljava/lang/String;DD)V" } : Jvm.MethodName) prog_10_method_8_code (5 : Nat) (Option.none : Option Jvm.ClassFile.FieldType)).before args0 about1 = true := code_word (m := ⟨9, 2⟩) (meth := k9m2) (c := k9c2) (by decide +kernel) rfl rfl rfl (by decide +kernel)
set_option maxRecDepth 65536 in
theorem w_c4 : (Jvm.Cond.code ({ cls := "java/lang/Double", name := "isFinite", desc := "(D)Z" } : Jvm.MethodName) jdk_117_method_8_code (2 : Nat) (Option.some Jvm.ClassFile.FieldType.boolean)).before args0 about1 = true := code_word (m := ⟨11, 0⟩) (meth := k11m0) (c := k11c0) (by decide +kernel) rfl rfl rfl (by decide +kernel)
set_option maxRecDepth 65536 in
theorem w_c5 : (Jvm.Cond.code ({ cls := "java/lang/Math", name := "abs", desc := "(D)D" } : Jvm.MethodName) jdk_29_method_64_code (2 : Nat) (Option.some Jvm.ClassFile.FieldType.double)).before args0 about1 = true := code_word (m := ⟨12, 2⟩) (meth := k12m2) (c := k12c2) (by decide +kernel) rfl rfl rfl (by decide +kernel)
set_option maxRecDepth 65536 in
theorem w_c6 : (Jvm.Cond.code ({ cls := "com/example/choke_points/chokepoints/model/Checks", name := "positive", desc := "(Ljava/lang/String;DLjava/lang/String;)D" } : Jvm.MethodName) prog_10_method_3_code (4 : Nat) (Option.some Jvm.ClassFile.FieldType.double)).before args0 about1 = true := code_word (m := ⟨9, 1⟩) (meth := k9m1) (c := k9c1) (by decide +kernel) rfl rfl rfl (by decide +kernel)
set_option maxRecDepth 65536 in
theorem w_c7 : (Jvm.Cond.code ({ cls := "java/lang/Math", name := "rint", desc := "(D)D" } : Jvm.MethodName) jdk_29_method_18_code (2 : Nat) (Option.some Jvm.ClassFile.FieldType.double)).before args0 about1 = true := code_word (m := ⟨12, 1⟩) (meth := k12m1) (c := k12c1) (by decide +kernel) rfl rfl rfl (by decide +kernel)
set_option maxRecDepth 65536 in
theorem w_c8 : (Jvm.Cond.code ({ cls := "java/lang/StrictMath", name := "rint", desc := "(D)D" } : Jvm.MethodName) jdk_128_method_19_code (6 : Nat) (Option.some Jvm.ClassFile.FieldType.double)).before args0 about1 = true := code_word (m := ⟨13, 1⟩) (meth := k13m1) (c := k13c1) (by decide +kernel) rfl rfl rfl (by decide +kernel)
set_option maxRecDepth 65536 in
theorem w_c9 : (Jvm.Cond.code ({ cls := "java/lang/Math", name := "copySign", desc := "(DD)D" } : Jvm.MethodName) jdk_29_method_89_code (4 : Nat) (Option.some Jvm.ClassFile.FieldType.double)).before args0 about1 = true := code_word (m := ⟨12, 4⟩) (meth := k12m4) (c := k12c4) (by decide +kernel) rfl rfl rfl (by decide +kernel)
set_option maxRecDepth 65536 in
theorem w_c10 : (Jvm.Cond.code ({ cls := "java/lang/Math", name := "max", desc := "(DD)D" } : Jvm.MethodName) jdk_29_method_68_code (4 : Nat) (Option.some Jvm.ClassFile.FieldType.double)).before args0 about1 = true := code_word (m := ⟨12, 3⟩) (meth := k12m3) (c := k12c3) (by decide +kernel) rfl rfl rfl (by decide +kernel)
set_option maxRecDepth 65536 in
theorem w_c11 : (Jvm.Cond.code ({ cls := "com/example/choke_points/chokepoints/model/RecordingPeriod", name := "breakpointCount", desc := "()I" } : Jvm.MethodName) prog_18_method_5_code (1 : Nat) (Option.some Jvm.ClassFile.FieldType.int)).before args0 about1 = true := code_word (m := ⟨2, 1⟩) (meth := k2m1) (c := k2c1) (by decide +kernel) rfl rfl rfl (by decide +kernel)
set_option maxRecDepth 65536 in
theorem w_c12 : (Jvm.Cond.code ({ cls := "com/example/choke_points/chokepoints/model/RecordingPeriod", name := "breakpoint", desc := "(I)D" } : Jvm.MethodName) prog_18_method_6_code (2 : Nat) (Option.some Jvm.ClassFile.FieldType.double)).before args0 about1 = true := code_word (m := ⟨2, 2⟩) (meth := k2m2) (c := k2c2) (by decide +kernel) rfl rfl rfl (by decide +kernel)
set_option maxRecDepth 65536 in
theorem w_c13 : (Jvm.Cond.code ({ cls := "java/util/Objects", name := "checkIndex", desc := "(II)I" } : Jvm.MethodName) jdk_31_method_17_code (2 : Nat) (Option.some Jvm.ClassFile.FieldType.int)).before args0 about1 = true := code_word (m := ⟨14, 1⟩) (meth := k14m1) (c := k14c1) (by decide +kernel) rfl rfl rfl (by decide +kernel)
set_option maxRecDepth 65536 in
theorem w_c14 : (Jvm.Cond.code ({ cls := "jdk/internal/util/Preconditions", name := "checkIndex", desc := "(IILjava/util/function/BiFunction;)I" } : Jvm.MethodName) jdk_41_method_11_code (3 : Nat) (Option.some Jvm.ClassFile.FieldType.int)).before args0 about1 = true := code_word (m := ⟨15, 1⟩) (meth := k15m1) (c := k15c1) (by decide +kernel) rfl rfl rfl (by decide +kernel)
def codes1 : List Jvm.Cond := [Jvm.Cond.code x code maxLocals ret, Jvm.Cond.code ({ cls := "com/example/choke_points/chokepoints/model/RecordingPeriod", name := "<init>", desc := "(DDD)V" } : Jvm.MethodName) prog_18_method_1_code (11 : Nat) (Option.none : Option Jvm.ClassFile.FieldType), Jvm.Cond.code ({ cls := "java/lang/Object", name := "<init>", desc := "()V" } : Jvm.MethodName) object_method_1_code (1 : Nat) (Option.none : Option Jvm.ClassFile.FieldType), Jvm.Cond.code ({ cls := "com/example/choke_points/chokepoints/model/Checks", name := "window", desc := "(Ljava/lang/String;DD)V" } : Jvm.MethodName) prog_10_method_8_code (5 : Nat) (Option.none : Option Jvm.ClassFile.FieldType), Jvm.Cond.code ({ cls := "java/lang/Double", name := "isFinite", desc := "(D)Z" } : Jvm.MethodName) jdk_117_method_8_code (2 : Nat) (Option.some Jvm.ClassFile.FieldType.boolean), Jvm.Cond.code ({ cls := "java/lang/Math", name := "abs", desc := "(D)D" } : Jvm.MethodName) jdk_29_method_64_code (2 : Nat) (Option.some Jvm.ClassFile.FieldType.double), Jvm.Cond.code ({ cls := "com/example/choke_points/chokepoints/model/Checks", name := "positive", desc := "(Ljava/lang/String;DLjava/lang/String;)D" } : Jvm.MethodName) prog_10_method_3_code (4 : Nat) (Option.some Jvm.ClassFile.FieldType.double), Jvm.Cond.code ({ cls := "java/lang/Math", name := "rint", desc := "(D)D" } : Jvm.MethodName) jdk_29_method_18_code (2 : Nat) (Option.some Jvm.ClassFile.FieldType.double), Jvm.Cond.code ({ cls := "java/lang/StrictMath", name := "rint", desc := "(D)D" } : Jvm.MethodName) jdk_128_method_19_code (6 : Nat) (Option.some Jvm.ClassFile.FieldType.double), Jvm.Cond.code ({ cls := "java/lang/Math", name := "copySign", desc := "(DD)D" } : Jvm.MethodName) jdk_29_method_89_code (4 : Nat) (Option.some Jvm.ClassFile.FieldType.double), Jvm.Cond.code ({ cls := "java/lang/Math", name := "max", desc := "(DD)D" } : Jvm.MethodName) jdk_29_method_68_code (4 : Nat) (Option.some Jvm.ClassFile.FieldType.double), Jvm.Cond.code ({ cls := "com/example/choke_points/chokepoints/model/RecordingPeriod", name := "breakpointCount", desc := "()I" } : Jvm.MethodName) prog_18_method_5_code (1 : Nat) (Option.some Jvm.ClassFile.FieldType.int), Jvm.Cond.code ({ cls := "com/example/choke_points/chokepoints/model/RecordingPeriod", name := "breakpoint", desc := "(I)D" } : Jvm.MethodName) prog_18_method_6_code (2 : Nat) (Option.some Jvm.ClassFile.FieldType.double), Jvm.Cond.code ({ cls := "java/util/Objects", name := "checkIndex", desc := "(II)I" } : Jvm.MethodName) jdk_31_method_17_code (2 : Nat) (Option.some Jvm.ClassFile.FieldType.int), Jvm.Cond.code ({ cls := "jdk/internal/util/Preconditions", name := "checkIndex", desc := "(IILjava/util/function/BiFunction;)I" } : Jvm.MethodName) jdk_41_method_11_code (3 : Nat) (Option.some Jvm.ClassFile.FieldType.int)]
set_option maxRecDepth 65536 in
theorem codes_eq : words1.filter isCode = codes1 := rfl
theorem w_codes : ∀ c ∈ words1.filter isCode, c.before args0 about1 = true := by
  rw [codes_eq]
  intro c hc
  simp only [codes1, List.mem_cons, List.not_mem_nil, or_false] at hc
  rcases hc with rfl | rfl | rfl | rfl | rfl | rfl | rfl | rfl | rfl | rfl | rfl | rfl | rfl | rfl | rfl
  · exact w_c0
  · exact w_c1
  · exact w_c2
  · exact w_c3
  · exact w_c4
  · exact w_c5
  · exact w_c6
  · exact w_c7
  · exact w_c8
  · exact w_c9
  · exact w_c10
  · exact w_c11
  · exact w_c12
  · exact w_c13
  · exact w_c14
set_option maxRecDepth 65536 in
theorem w_t1 : (words1.take 24).all (fun c => isCode c || c.before args0 about1) = true := by decide +kernel
set_option maxRecDepth 65536 in
theorem w_t2 : ((words1.drop 24).take 24).all (fun c => isCode c || c.before args0 about1) = true := by decide +kernel
set_option maxRecDepth 65536 in
theorem w_t3 : (((words1.drop 24).drop 24).take 24).all (fun c => isCode c || c.before args0 about1) = true := by decide +kernel
set_option maxRecDepth 65536 in
theorem w_t4 : (((words1.drop 24).drop 24).drop 24).all (fun c => isCode c || c.before args0 about1) = true := by decide +kernel
theorem w_tables : (allAtoms (Jvm.Cond.code x code maxLocals ret :: tables_1)).before args0 about1 = true := by
  rw [allAtoms_all]
  show words1.all (fun c => c.before args0 about1) = true
  refine all_split ?_ w_codes
  rw [← List.take_append_drop 24 words1, List.all_append, w_t1, ← List.take_append_drop 24 (words1.drop 24), List.all_append, w_t2, ← List.take_append_drop 24 ((words1.drop 24).drop 24), List.all_append, w_t3, w_t4]
  rfl
set_option maxRecDepth 65536 in
theorem w_case : (Jvm.Cond.and given_1 narrow_1).before args0 about1 = true := by decide +kernel
theorem w_applies : (headSpec (Jvm.Cond.code x code maxLocals ret :: tables_1) room_1).applies x e0.platform about1 = true :=
  (Spec.applies_iff w_frames).mpr ⟨w_running, w_runnable, w_alone, w_named, w_hears, w_ripe, w_room, w_tables⟩
theorem atStart : AtStart classFile x code maxLocals ret World_1 tables_1 room_1 Calls_1 rest_1 Pre_1 launch0 p0 e0 about1 theMethod args0 below0 :=
  ⟨lists_1, trivial, launch0.admits_env _ _ _, launch0.least_env, fairChoices_fair.cas, fairChoices_fair.clock, w_frames, w_args, w_heap, w_applies, trivial, trivial, w_case⟩
end start1
theorem witness_1 : WitnessClaimed_1 := ⟨start1.p0, start1.e0, start1.about1, start1.theMethod, start1.args0, start1.below0, start1.atStart⟩
end Jvm.Pilot.@@N@@
