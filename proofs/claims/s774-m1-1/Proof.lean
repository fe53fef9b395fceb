import JvmDerived
import JvmDerived.Pilot.@@N@@Statement
import JvmDerived.Pilot.@@N@@Code
set_option linter.unusedVariables false
set_option linter.unusedSimpArgs false
namespace Jvm.Pilot.@@N@@
open Jvm Jvm.ClassFile Sem Op Lib Jvm.Free Jvm.Stand Jvm.LawKit Jvm.RoadKit Bundle Jvm.Pilot.@@N@@.Jvm.D
/-! OwnKit: one predicate for where a walk stands (Wk), one for what is still to be shown (Wp), and a lemma a step, in continuation form. -/
section OwnKit
variable {p : Program} {l : Launch} {e : Env} {R : Room} {s : State} {vm0 : Vm} {m : MethodId} {args : Array Value} {below : List Frame} {meth : Method} {c : Code} {Z : State} {own : String} {n0 : Nat} {B : ByteArray} {ML : Nat} {ret : Option FieldType} {T : State} {h : Heap} {locs : List Loc} {cells slots : Nat} {a0 : Array Value} {Post : Outcome → State → Prop} {pc : Nat} {L : Array Slot} {S : List Value}
/-- where a walk stands -/
def Wk (p : Program) (l : Launch) (e : Env) (R : Room) (s : State) (vm0 : Vm) (m : MethodId) (args : Array Value) (below : List Frame) (meth : Method) (c : Code) (Z : State) (own : String) (n0 : Nat) (B : ByteArray) (ML : Nat) (ret : Option FieldType) (T : State) (h : Heap) (locs : List Loc) (cells slots : Nat) : Prop :=
  Stand p l e R (s.setVm vm0) m args below meth c T locs cells slots ∧ s.Since vm0 h.size ∧ Z.Warmed39 vm0 ∧ vm0.findClass own = some m.cls ∧ T.heap = h ∧ Fr n0 locs ∧ p.tables.exec = Jvm.exec ∧ c.code = B ∧ c.maxLocals = ML ∧ meth.sig.returnType = ret ∧ meth.locks = false
/-- what is still to be shown -/
def Wp (p : Program) (e : Env) (below : List Frame) (Post : Outcome → State → Prop) (T : State) (g : JFrame) : Prop :=
  ∃ s₂ o, Steps p.tables e below (T.setTop g) s₂ ∧ s₂.status = .running ∧ Ended s₂ below o ∧ Post o s₂
theorem Wp.imp {T' : State} {g g' : JFrame} (w : Wp p e below Post T' g') (k : ∀ t, Steps p.tables e below (T'.setTop g') t → Steps p.tables e below (T.setTop g) t) : Wp p e below Post T g := by
  obtain ⟨s₂, o, h1, r⟩ := w
  exact ⟨s₂, o, k _ h1, r⟩
theorem Wk.st (W : Wk p l e R s vm0 m args below meth c Z own n0 B ML ret T h locs cells slots) : Stand p l e R (s.setVm vm0) m args below meth c T locs cells slots := W.1
theorem Wk.here (W : Wk p l e R s vm0 m args below meth c Z own n0 B ML ret T h locs cells slots) : At T m c below := W.1.here
theorem Wk.since (W : Wk p l e R s vm0 m args below meth c Z own n0 B ML ret T h locs cells slots) : s.Since vm0 h.size := W.2.1
theorem Wk.wZ (W : Wk p l e R s vm0 m args below meth c Z own n0 B ML ret T h locs cells slots) : Z.Warmed39 (s.setVm vm0).vm := W.2.2.1
theorem Wk.own' (W : Wk p l e R s vm0 m args below meth c Z own n0 B ML ret T h locs cells slots) : (s.setVm vm0).vm.findClass own = some m.cls := W.2.2.2.1
theorem Wk.heap (W : Wk p l e R s vm0 m args below meth c Z own n0 B ML ret T h locs cells slots) : T.heap = h := W.2.2.2.2.1
theorem Wk.fr (W : Wk p l e R s vm0 m args below meth c Z own n0 B ML ret T h locs cells slots) : Fr n0 locs := W.2.2.2.2.2.1
theorem Wk.exec (W : Wk p l e R s vm0 m args below meth c Z own n0 B ML ret T h locs cells slots) : p.tables.exec = Jvm.exec := W.2.2.2.2.2.2.1
theorem Wk.bytes (W : Wk p l e R s vm0 m args below meth c Z own n0 B ML ret T h locs cells slots) : c.code = B := W.2.2.2.2.2.2.2.1
theorem Wk.ml (W : Wk p l e R s vm0 m args below meth c Z own n0 B ML ret T h locs cells slots) : c.maxLocals = ML := W.2.2.2.2.2.2.2.2.1
theorem Wk.ret' (W : Wk p l e R s vm0 m args below meth c Z own n0 B ML ret T h locs cells slots) : meth.sig.returnType = ret := W.2.2.2.2.2.2.2.2.2.1
theorem Wk.lk (W : Wk p l e R s vm0 m args below meth c Z own n0 B ML ret T h locs cells slots) : meth.locks = false := W.2.2.2.2.2.2.2.2.2.2
/-- on to a later state, the tables' base as it was -/
theorem Wk.on {T' : State} {h' : Heap} {locs' : List Loc} {cells' slots' : Nat} (W : Wk p l e R s vm0 m args below meth c Z own n0 B ML ret T h locs cells slots) (X : Stand p l e R (s.setVm vm0) m args below meth c T' locs' cells' slots') (e' : T'.heap = h') (g : h.size ≤ h'.size) (N : Fr n0 locs') : Wk p l e R s vm0 m args below meth c Z own n0 B ML ret T' h' locs' cells' slots' :=
  ⟨X, ⟨W.since.1, W.since.2.mono g⟩, W.wZ, W.own', e', N, W.exec, W.bytes, W.ml, W.ret', W.lk⟩
/-- fewer cells and slots than are booked -/
theorem Wk.mono {cells' slots' : Nat} (W : Wk p l e R s vm0 m args below meth c Z own n0 B ML ret T h locs cells slots) (hc : cells ≤ cells') (hn : slots ≤ slots') : Wk p l e R s vm0 m args below meth c Z own n0 B ML ret T h locs cells' slots' := W.on (W.st.mono hc hn) W.heap (Nat.le_refl _) W.fr

theorem w_iload (W : Wk p l e R s vm0 m args below meth c Z own n0 B ML ret T h locs cells slots) {k : Nat} {v : Int32} (hd : decode B pc = .ok (.iload k, 2)) (hl : L[k]? = some (.val (.int v))) (hr : Wp p e below Post T (mkF m (pc + 2) L (.int v :: S))) : Wp p e below Post T (mkF m pc L S) :=
  hr.imp fun t q => XS.iload W.here W.exec rfl (hb W.bytes hd) hl q
theorem w_iloadN (W : Wk p l e R s vm0 m args below meth c Z own n0 B ML ret T h locs cells slots) {k : Fin 4} {v : Int32} (hd : decode B pc = .ok (.iload_n k, 1)) (hl : L[k.val]? = some (.val (.int v))) (hr : Wp p e below Post T (mkF m (pc + 1) L (.int v :: S))) : Wp p e below Post T (mkF m pc L S) :=
  hr.imp fun t q => XS.iloadN W.here W.exec rfl (hb W.bytes hd) hl q
theorem w_istore (W : Wk p l e R s vm0 m args below meth c Z own n0 B ML ret T h locs cells slots) {k : Nat} {v : Int32} {L' : Array Slot} (hd : decode B pc = .ok (.istore k, 2)) (hl : storeLocals L k (.int v) = some L') (hr : Wp p e below Post T (mkF m (pc + 2) L' S)) : Wp p e below Post T (mkF m pc L (.int v :: S)) :=
  hr.imp fun t q => XS.istore W.here W.exec rfl (hb W.bytes hd) rfl hl q
theorem w_istoreN (W : Wk p l e R s vm0 m args below meth c Z own n0 B ML ret T h locs cells slots) {k : Fin 4} {v : Int32} {L' : Array Slot} (hd : decode B pc = .ok (.istore_n k, 1)) (hl : storeLocals L k.val (.int v) = some L') (hr : Wp p e below Post T (mkF m (pc + 1) L' S)) : Wp p e below Post T (mkF m pc L (.int v :: S)) :=
  hr.imp fun t q => XS.istoreN W.here W.exec rfl (hb W.bytes hd) rfl hl q
theorem w_lload (W : Wk p l e R s vm0 m args below meth c Z own n0 B ML ret T h locs cells slots) {k : Nat} {v : Int64} (hd : decode B pc = .ok (.lload k, 2)) (hl : L[k]? = some (.val (.long v))) (hr : Wp p e below Post T (mkF m (pc + 2) L (.long v :: S))) : Wp p e below Post T (mkF m pc L S) :=
  hr.imp fun t q => XS.lload W.here W.exec rfl (hb W.bytes hd) hl q
theorem w_lloadN (W : Wk p l e R s vm0 m args below meth c Z own n0 B ML ret T h locs cells slots) {k : Fin 4} {v : Int64} (hd : decode B pc = .ok (.lload_n k, 1)) (hl : L[k.val]? = some (.val (.long v))) (hr : Wp p e below Post T (mkF m (pc + 1) L (.long v :: S))) : Wp p e below Post T (mkF m pc L S) :=
  hr.imp fun t q => XS.lloadN W.here W.exec rfl (hb W.bytes hd) hl q
theorem w_lstore (W : Wk p l e R s vm0 m args below meth c Z own n0 B ML ret T h locs cells slots) {k : Nat} {v : Int64} {L' : Array Slot} (hd : decode B pc = .ok (.lstore k, 2)) (hl : storeLocals L k (.long v) = some L') (hr : Wp p e below Post T (mkF m (pc + 2) L' S)) : Wp p e below Post T (mkF m pc L (.long v :: S)) :=
  hr.imp fun t q => XS.lstore W.here W.exec rfl (hb W.bytes hd) rfl hl q
theorem w_lstoreN (W : Wk p l e R s vm0 m args below meth c Z own n0 B ML ret T h locs cells slots) {k : Fin 4} {v : Int64} {L' : Array Slot} (hd : decode B pc = .ok (.lstore_n k, 1)) (hl : storeLocals L k.val (.long v) = some L') (hr : Wp p e below Post T (mkF m (pc + 1) L' S)) : Wp p e below Post T (mkF m pc L (.long v :: S)) :=
  hr.imp fun t q => XS.lstoreN W.here W.exec rfl (hb W.bytes hd) rfl hl q
theorem w_aload (W : Wk p l e R s vm0 m args below meth c Z own n0 B ML ret T h locs cells slots) {k : Nat} {v : Value} (hd : decode B pc = .ok (.aload k, 2)) (hl : L[k]? = some (.val v)) (hv : v.isRef = true) (hr : Wp p e below Post T (mkF m (pc + 2) L (v :: S))) : Wp p e below Post T (mkF m pc L S) :=
  hr.imp fun t q => XS.aload W.here W.exec rfl (hb W.bytes hd) hl hv q
theorem w_aloadN (W : Wk p l e R s vm0 m args below meth c Z own n0 B ML ret T h locs cells slots) {k : Fin 4} {v : Value} (hd : decode B pc = .ok (.aload_n k, 1)) (hl : L[k.val]? = some (.val v)) (hv : v.isRef = true) (hr : Wp p e below Post T (mkF m (pc + 1) L (v :: S))) : Wp p e below Post T (mkF m pc L S) :=
  hr.imp fun t q => XS.aloadN W.here W.exec rfl (hb W.bytes hd) hl hv q
theorem w_astore (W : Wk p l e R s vm0 m args below meth c Z own n0 B ML ret T h locs cells slots) {k : Nat} {v : Value} {L' : Array Slot} (hd : decode B pc = .ok (.astore k, 2)) (hv : v.isRef = true) (hl : storeLocals L k v = some L') (hr : Wp p e below Post T (mkF m (pc + 2) L' S)) : Wp p e below Post T (mkF m pc L (v :: S)) :=
  hr.imp fun t q => XS.astore W.here W.exec rfl (hb W.bytes hd) rfl hv hl q
theorem w_astoreN (W : Wk p l e R s vm0 m args below meth c Z own n0 B ML ret T h locs cells slots) {k : Fin 4} {v : Value} {L' : Array Slot} (hd : decode B pc = .ok (.astore_n k, 1)) (hv : v.isRef = true) (hl : storeLocals L k.val v = some L') (hr : Wp p e below Post T (mkF m (pc + 1) L' S)) : Wp p e below Post T (mkF m pc L (v :: S)) :=
  hr.imp fun t q => XS.astoreN W.here W.exec rfl (hb W.bytes hd) rfl hv hl q
theorem w_iconst (W : Wk p l e R s vm0 m args below meth c Z own n0 B ML ret T h locs cells slots) {i : Int} {z : Int32} (hd : decode B pc = .ok (.iconst i, 1)) (hz : Int32.ofInt i = z) (hr : Wp p e below Post T (mkF m (pc + 1) L (.int z :: S))) : Wp p e below Post T (mkF m pc L S) := by
  subst hz; exact hr.imp fun t q => XS.iconst W.here W.exec rfl (hb W.bytes hd)  q
theorem w_bipush (W : Wk p l e R s vm0 m args below meth c Z own n0 B ML ret T h locs cells slots) {i : Int} {z : Int32} (hd : decode B pc = .ok (.bipush i, 2)) (hz : (Int8.ofInt i).toInt32 = z) (hr : Wp p e below Post T (mkF m (pc + 2) L (.int z :: S))) : Wp p e below Post T (mkF m pc L S) := by
  subst hz; exact hr.imp fun t q => XS.bipush W.here W.exec rfl (hb W.bytes hd)  q
theorem w_sipush (W : Wk p l e R s vm0 m args below meth c Z own n0 B ML ret T h locs cells slots) {i : Int} {z : Int32} (hd : decode B pc = .ok (.sipush i, 3)) (hz : (Int16.ofInt i).toInt32 = z) (hr : Wp p e below Post T (mkF m (pc + 3) L (.int z :: S))) : Wp p e below Post T (mkF m pc L S) := by
  subst hz; exact hr.imp fun t q => XS.sipush W.here W.exec rfl (hb W.bytes hd)  q
theorem w_iadd (W : Wk p l e R s vm0 m args below meth c Z own n0 B ML ret T h locs cells slots) {x y : Int32} {z : Int32} (hd : decode B pc = .ok (.iadd, 1)) (hz : x + y = z) (hr : Wp p e below Post T (mkF m (pc + 1) L (.int z :: S))) : Wp p e below Post T (mkF m pc L (.int y :: .int x :: S)) := by
  subst hz; exact hr.imp fun t q => XS.iadd W.here W.exec rfl (hb W.bytes hd) rfl q
theorem w_isub (W : Wk p l e R s vm0 m args below meth c Z own n0 B ML ret T h locs cells slots) {x y : Int32} {z : Int32} (hd : decode B pc = .ok (.isub, 1)) (hz : x - y = z) (hr : Wp p e below Post T (mkF m (pc + 1) L (.int z :: S))) : Wp p e below Post T (mkF m pc L (.int y :: .int x :: S)) := by
  subst hz; exact hr.imp fun t q => XS.isub W.here W.exec rfl (hb W.bytes hd) rfl q
theorem w_imul (W : Wk p l e R s vm0 m args below meth c Z own n0 B ML ret T h locs cells slots) {x y : Int32} {z : Int32} (hd : decode B pc = .ok (.imul, 1)) (hz : x * y = z) (hr : Wp p e below Post T (mkF m (pc + 1) L (.int z :: S))) : Wp p e below Post T (mkF m pc L (.int y :: .int x :: S)) := by
  subst hz; exact hr.imp fun t q => XS.imul W.here W.exec rfl (hb W.bytes hd) rfl q
theorem w_iand (W : Wk p l e R s vm0 m args below meth c Z own n0 B ML ret T h locs cells slots) {x y : Int32} {z : Int32} (hd : decode B pc = .ok (.iand, 1)) (hz : x &&& y = z) (hr : Wp p e below Post T (mkF m (pc + 1) L (.int z :: S))) : Wp p e below Post T (mkF m pc L (.int y :: .int x :: S)) := by
  subst hz; exact hr.imp fun t q => XS.iand W.here W.exec rfl (hb W.bytes hd) rfl q
theorem w_ior (W : Wk p l e R s vm0 m args below meth c Z own n0 B ML ret T h locs cells slots) {x y : Int32} {z : Int32} (hd : decode B pc = .ok (.ior, 1)) (hz : x ||| y = z) (hr : Wp p e below Post T (mkF m (pc + 1) L (.int z :: S))) : Wp p e below Post T (mkF m pc L (.int y :: .int x :: S)) := by
  subst hz; exact hr.imp fun t q => XS.ior W.here W.exec rfl (hb W.bytes hd) rfl q
theorem w_ixor (W : Wk p l e R s vm0 m args below meth c Z own n0 B ML ret T h locs cells slots) {x y : Int32} {z : Int32} (hd : decode B pc = .ok (.ixor, 1)) (hz : x ^^^ y = z) (hr : Wp p e below Post T (mkF m (pc + 1) L (.int z :: S))) : Wp p e below Post T (mkF m pc L (.int y :: .int x :: S)) := by
  subst hz; exact hr.imp fun t q => XS.ixor W.here W.exec rfl (hb W.bytes hd) rfl q
theorem w_ladd (W : Wk p l e R s vm0 m args below meth c Z own n0 B ML ret T h locs cells slots) {x y : Int64} {z : Int64} (hd : decode B pc = .ok (.ladd, 1)) (hz : x + y = z) (hr : Wp p e below Post T (mkF m (pc + 1) L (.long z :: S))) : Wp p e below Post T (mkF m pc L (.long y :: .long x :: S)) := by
  subst hz; exact hr.imp fun t q => XS.ladd W.here W.exec rfl (hb W.bytes hd) rfl q
theorem w_lsub (W : Wk p l e R s vm0 m args below meth c Z own n0 B ML ret T h locs cells slots) {x y : Int64} {z : Int64} (hd : decode B pc = .ok (.lsub, 1)) (hz : x - y = z) (hr : Wp p e below Post T (mkF m (pc + 1) L (.long z :: S))) : Wp p e below Post T (mkF m pc L (.long y :: .long x :: S)) := by
  subst hz; exact hr.imp fun t q => XS.lsub W.here W.exec rfl (hb W.bytes hd) rfl q
theorem w_lmul (W : Wk p l e R s vm0 m args below meth c Z own n0 B ML ret T h locs cells slots) {x y : Int64} {z : Int64} (hd : decode B pc = .ok (.lmul, 1)) (hz : x * y = z) (hr : Wp p e below Post T (mkF m (pc + 1) L (.long z :: S))) : Wp p e below Post T (mkF m pc L (.long y :: .long x :: S)) := by
  subst hz; exact hr.imp fun t q => XS.lmul W.here W.exec rfl (hb W.bytes hd) rfl q
theorem w_land (W : Wk p l e R s vm0 m args below meth c Z own n0 B ML ret T h locs cells slots) {x y : Int64} {z : Int64} (hd : decode B pc = .ok (.land, 1)) (hz : x &&& y = z) (hr : Wp p e below Post T (mkF m (pc + 1) L (.long z :: S))) : Wp p e below Post T (mkF m pc L (.long y :: .long x :: S)) := by
  subst hz; exact hr.imp fun t q => XS.land W.here W.exec rfl (hb W.bytes hd) rfl q
theorem w_lor (W : Wk p l e R s vm0 m args below meth c Z own n0 B ML ret T h locs cells slots) {x y : Int64} {z : Int64} (hd : decode B pc = .ok (.lor, 1)) (hz : x ||| y = z) (hr : Wp p e below Post T (mkF m (pc + 1) L (.long z :: S))) : Wp p e below Post T (mkF m pc L (.long y :: .long x :: S)) := by
  subst hz; exact hr.imp fun t q => XS.lor W.here W.exec rfl (hb W.bytes hd) rfl q
theorem w_lxor (W : Wk p l e R s vm0 m args below meth c Z own n0 B ML ret T h locs cells slots) {x y : Int64} {z : Int64} (hd : decode B pc = .ok (.lxor, 1)) (hz : x ^^^ y = z) (hr : Wp p e below Post T (mkF m (pc + 1) L (.long z :: S))) : Wp p e below Post T (mkF m pc L (.long y :: .long x :: S)) := by
  subst hz; exact hr.imp fun t q => XS.lxor W.here W.exec rfl (hb W.bytes hd) rfl q
theorem w_ishl (W : Wk p l e R s vm0 m args below meth c Z own n0 B ML ret T h locs cells slots) {x y : Int32} {z : Int32} (hd : decode B pc = .ok (.ishl, 1)) (hz : x <<< (y &&& 31) = z) (hr : Wp p e below Post T (mkF m (pc + 1) L (.int z :: S))) : Wp p e below Post T (mkF m pc L (.int y :: .int x :: S)) := by
  subst hz; exact hr.imp fun t q => XS.ishl W.here W.exec rfl (hb W.bytes hd) rfl q
theorem w_ishr (W : Wk p l e R s vm0 m args below meth c Z own n0 B ML ret T h locs cells slots) {x y : Int32} {z : Int32} (hd : decode B pc = .ok (.ishr, 1)) (hz : x >>> (y &&& 31) = z) (hr : Wp p e below Post T (mkF m (pc + 1) L (.int z :: S))) : Wp p e below Post T (mkF m pc L (.int y :: .int x :: S)) := by
  subst hz; exact hr.imp fun t q => XS.ishr W.here W.exec rfl (hb W.bytes hd) rfl q
theorem w_iushr (W : Wk p l e R s vm0 m args below meth c Z own n0 B ML ret T h locs cells slots) {x y : Int32} {z : Int32} (hd : decode B pc = .ok (.iushr, 1)) (hz : (x.toUInt32 >>> (y &&& 31).toUInt32).toInt32 = z) (hr : Wp p e below Post T (mkF m (pc + 1) L (.int z :: S))) : Wp p e below Post T (mkF m pc L (.int y :: .int x :: S)) := by
  subst hz; exact hr.imp fun t q => XS.iushr W.here W.exec rfl (hb W.bytes hd) rfl q
theorem w_lshl (W : Wk p l e R s vm0 m args below meth c Z own n0 B ML ret T h locs cells slots) {x : Int64} {y : Int32} {z : Int64} (hd : decode B pc = .ok (.lshl, 1)) (hz : x <<< (y &&& 0x3f).toInt64 = z) (hr : Wp p e below Post T (mkF m (pc + 1) L (.long z :: S))) : Wp p e below Post T (mkF m pc L (.int y :: .long x :: S)) := by
  subst hz; exact hr.imp fun t q => XS.lshl W.here W.exec rfl (hb W.bytes hd) rfl q
theorem w_lshr (W : Wk p l e R s vm0 m args below meth c Z own n0 B ML ret T h locs cells slots) {x : Int64} {y : Int32} {z : Int64} (hd : decode B pc = .ok (.lshr, 1)) (hz : x >>> (y &&& 0x3f).toInt64 = z) (hr : Wp p e below Post T (mkF m (pc + 1) L (.long z :: S))) : Wp p e below Post T (mkF m pc L (.int y :: .long x :: S)) := by
  subst hz; exact hr.imp fun t q => XS.lshr W.here W.exec rfl (hb W.bytes hd) rfl q
theorem w_lushr (W : Wk p l e R s vm0 m args below meth c Z own n0 B ML ret T h locs cells slots) {x : Int64} {y : Int32} {z : Int64} (hd : decode B pc = .ok (.lushr, 1)) (hz : (x.toUInt64 >>> (y &&& 0x3f).toInt64.toUInt64).toInt64 = z) (hr : Wp p e below Post T (mkF m (pc + 1) L (.long z :: S))) : Wp p e below Post T (mkF m pc L (.int y :: .long x :: S)) := by
  subst hz; exact hr.imp fun t q => XS.lushr W.here W.exec rfl (hb W.bytes hd) rfl q
theorem w_ineg (W : Wk p l e R s vm0 m args below meth c Z own n0 B ML ret T h locs cells slots) {x : Int32} {z : Int32} (hd : decode B pc = .ok (.ineg, 1)) (hz : -x = z) (hr : Wp p e below Post T (mkF m (pc + 1) L (.int z :: S))) : Wp p e below Post T (mkF m pc L (.int x :: S)) := by
  subst hz; exact hr.imp fun t q => XS.ineg W.here W.exec rfl (hb W.bytes hd) rfl q
theorem w_lneg (W : Wk p l e R s vm0 m args below meth c Z own n0 B ML ret T h locs cells slots) {x : Int64} {z : Int64} (hd : decode B pc = .ok (.lneg, 1)) (hz : -x = z) (hr : Wp p e below Post T (mkF m (pc + 1) L (.long z :: S))) : Wp p e below Post T (mkF m pc L (.long x :: S)) := by
  subst hz; exact hr.imp fun t q => XS.lneg W.here W.exec rfl (hb W.bytes hd) rfl q
theorem w_i2l (W : Wk p l e R s vm0 m args below meth c Z own n0 B ML ret T h locs cells slots) {x : Int32} {z : Int64} (hd : decode B pc = .ok (.i2l, 1)) (hz : x.toInt64 = z) (hr : Wp p e below Post T (mkF m (pc + 1) L (.long z :: S))) : Wp p e below Post T (mkF m pc L (.int x :: S)) := by
  subst hz; exact hr.imp fun t q => XS.i2l W.here W.exec rfl (hb W.bytes hd) rfl q
theorem w_l2i (W : Wk p l e R s vm0 m args below meth c Z own n0 B ML ret T h locs cells slots) {x : Int64} {z : Int32} (hd : decode B pc = .ok (.l2i, 1)) (hz : x.toInt32 = z) (hr : Wp p e below Post T (mkF m (pc + 1) L (.int z :: S))) : Wp p e below Post T (mkF m pc L (.long x :: S)) := by
  subst hz; exact hr.imp fun t q => XS.l2i W.here W.exec rfl (hb W.bytes hd) rfl q
theorem w_i2b (W : Wk p l e R s vm0 m args below meth c Z own n0 B ML ret T h locs cells slots) {x : Int32} {z : Int32} (hd : decode B pc = .ok (.i2b, 1)) (hz : x.toInt8.toInt32 = z) (hr : Wp p e below Post T (mkF m (pc + 1) L (.int z :: S))) : Wp p e below Post T (mkF m pc L (.int x :: S)) := by
  subst hz; exact hr.imp fun t q => XS.i2b W.here W.exec rfl (hb W.bytes hd) rfl q
theorem w_i2c (W : Wk p l e R s vm0 m args below meth c Z own n0 B ML ret T h locs cells slots) {x : Int32} {z : Int32} (hd : decode B pc = .ok (.i2c, 1)) (hz : x.toUInt32.toUInt16.toUInt32.toInt32 = z) (hr : Wp p e below Post T (mkF m (pc + 1) L (.int z :: S))) : Wp p e below Post T (mkF m pc L (.int x :: S)) := by
  subst hz; exact hr.imp fun t q => XS.i2c W.here W.exec rfl (hb W.bytes hd) rfl q
theorem w_i2s (W : Wk p l e R s vm0 m args below meth c Z own n0 B ML ret T h locs cells slots) {x : Int32} {z : Int32} (hd : decode B pc = .ok (.i2s, 1)) (hz : x.toInt16.toInt32 = z) (hr : Wp p e below Post T (mkF m (pc + 1) L (.int z :: S))) : Wp p e below Post T (mkF m pc L (.int x :: S)) := by
  subst hz; exact hr.imp fun t q => XS.i2s W.here W.exec rfl (hb W.bytes hd) rfl q
theorem w_lcmp (W : Wk p l e R s vm0 m args below meth c Z own n0 B ML ret T h locs cells slots) {x y : Int64} {z : Int32} (hd : decode B pc = .ok (.lcmp, 1)) (hz : lcmpW x y = z) (hr : Wp p e below Post T (mkF m (pc + 1) L (.int z :: S))) : Wp p e below Post T (mkF m pc L (.long y :: .long x :: S)) := by
  subst hz; exact hr.imp fun t q => XS.lcmp W.here W.exec rfl (hb W.bytes hd) rfl q
theorem w_idiv (W : Wk p l e R s vm0 m args below meth c Z own n0 B ML ret T h locs cells slots) {x y : Int32} {z : Int32} (hd : decode B pc = .ok (.idiv, 1)) (hy : y ≠ 0) (hz : x / y = z) (hr : Wp p e below Post T (mkF m (pc + 1) L (.int z :: S))) : Wp p e below Post T (mkF m pc L (.int y :: .int x :: S)) := by
  subst hz; exact hr.imp fun t q => XS.idiv W.here W.exec rfl (hb W.bytes hd) rfl hy q
theorem w_irem (W : Wk p l e R s vm0 m args below meth c Z own n0 B ML ret T h locs cells slots) {x y z : Int32} (hd : decode B pc = .ok (.irem, 1)) (hy : y ≠ 0) (hz : x % y = z) (hr : Wp p e below Post T (mkF m (pc + 1) L (.int z :: S))) : Wp p e below Post T (mkF m pc L (.int y :: .int x :: S)) := by
  subst hz; exact hr.imp fun t q => iremM W.st W.exec rfl (hb W.bytes hd) rfl hy q
theorem w_lconst (W : Wk p l e R s vm0 m args below meth c Z own n0 B ML ret T h locs cells slots) {k : Fin 2} {z : Int64} (hd : decode B pc = .ok (.lconst k, 1)) (hz : (Int64.ofNat k.val) = z) (hr : Wp p e below Post T (mkF m (pc + 1) L (.long z :: S))) : Wp p e below Post T (mkF m pc L S) := by
  subst hz; exact hr.imp fun t q => XS.lconst W.here W.exec rfl (hb W.bytes hd) q
theorem w_aconstNull (W : Wk p l e R s vm0 m args below meth c Z own n0 B ML ret T h locs cells slots)  (hd : decode B pc = .ok (.aconst_null, 1)) (hr : Wp p e below Post T (mkF m (pc + 1) L (.null :: S))) : Wp p e below Post T (mkF m pc L S) :=
  hr.imp fun t q => XS.aconstNull W.here W.exec rfl (hb W.bytes hd)  q
theorem w_dup (W : Wk p l e R s vm0 m args below meth c Z own n0 B ML ret T h locs cells slots) {v : Value} (hd : decode B pc = .ok (.dup, 1)) (hc : v.category = 1) (hr : Wp p e below Post T (mkF m (pc + 1) L (v :: v :: S))) : Wp p e below Post T (mkF m pc L (v :: S)) :=
  hr.imp fun t q => XS.dup W.here W.exec rfl (hb W.bytes hd) rfl hc q
theorem w_pop (W : Wk p l e R s vm0 m args below meth c Z own n0 B ML ret T h locs cells slots) {v : Value} (hd : decode B pc = .ok (.pop, 1)) (hc : v.category = 1) (hr : Wp p e below Post T (mkF m (pc + 1) L S)) : Wp p e below Post T (mkF m pc L (v :: S)) :=
  hr.imp fun t q => XS.pop W.here W.exec rfl (hb W.bytes hd) rfl hc q
theorem w_dupX1 (W : Wk p l e R s vm0 m args below meth c Z own n0 B ML ret T h locs cells slots) {v w : Value} (hd : decode B pc = .ok (.dup_x1, 1)) (hc : v.category = 1) (hc' : w.category = 1) (hr : Wp p e below Post T (mkF m (pc + 1) L (v :: w :: v :: S))) : Wp p e below Post T (mkF m pc L (v :: w :: S)) :=
  hr.imp fun t q => XS.dupX1 W.here W.exec rfl (hb W.bytes hd) rfl hc hc' q
theorem w_dup2 (W : Wk p l e R s vm0 m args below meth c Z own n0 B ML ret T h locs cells slots) {v w : Value} (hd : decode B pc = .ok (.dup2, 1)) (hc : v.category = 1) (hc' : w.category = 1) (hr : Wp p e below Post T (mkF m (pc + 1) L (v :: w :: v :: w :: S))) : Wp p e below Post T (mkF m pc L (v :: w :: S)) :=
  hr.imp fun t q => XT.dup2 W.here W.exec rfl (hb W.bytes hd) rfl hc hc' q
theorem w_iinc (W : Wk p l e R s vm0 m args below meth c Z own n0 B ML ret T h locs cells slots) {k : Nat} {cst : Int} {x z : Int32} {L' : Array Slot} (hd : decode B pc = .ok (.iinc k cst, 3)) (hl : L[k]? = some (.val (.int x))) (hz : x + Int32.ofInt cst = z) (hl' : storeLocals L k (.int z) = some L') (hr : Wp p e below Post T (mkF m (pc + 3) L' S)) : Wp p e below Post T (mkF m pc L S) := by
  subst hz; exact hr.imp fun t q => XS.iinc W.here W.exec rfl (hb W.bytes hd) hl hl' q
theorem w_goto (W : Wk p l e R s vm0 m args below meth c Z own n0 B ML ret T h locs cells slots) {o : Int} {pc' : Nat} (hd : decode B pc = .ok (.goto o, 3)) (hp : (pc : Int) + o = (pc' : Int)) (hr : Wp p e below Post T (mkF m pc' L S)) : Wp p e below Post T (mkF m pc L S) :=
  hr.imp fun t q => XS.goto W.here W.exec rfl (pc0 := pc) rfl (hb W.bytes hd) (by omega) (by omega) q
theorem w_icmpeq (W : Wk p l e R s vm0 m args below meth c Z own n0 B ML ret T h locs cells slots) {x y : Int32} {o : Int} {pc' : Nat} (hd : decode B pc = .ok (.if_icmp .eq o, 3)) (hp : (pc : Int) + o = (pc' : Int)) (k1 : x = y → Wp p e below Post T (mkF m pc' L S)) (k2 : ¬ (x = y) → Wp p e below Post T (mkF m (pc + 3) L S)) : Wp p e below Post T (mkF m pc L (.int y :: .int x :: S)) := by
  by_cases hq : x = y
  · exact (k1 hq).imp fun t q => XS.icmpYes W.here W.exec rfl (pc0 := pc) rfl (hb W.bytes hd) rfl (teq hq).1 (by omega) (by omega) q
  · exact (k2 hq).imp fun t q => XS.icmpNo W.here W.exec rfl (hb W.bytes hd) rfl (feq hq).1 q
theorem w_ifeq (W : Wk p l e R s vm0 m args below meth c Z own n0 B ML ret T h locs cells slots) {x : Int32} {o : Int} {pc' : Nat} (hd : decode B pc = .ok (.ifCond .eq o, 3)) (hp : (pc : Int) + o = (pc' : Int)) (k1 : x = 0 → Wp p e below Post T (mkF m pc' L S)) (k2 : ¬ (x = 0) → Wp p e below Post T (mkF m (pc + 3) L S)) : Wp p e below Post T (mkF m pc L (.int x :: S)) := by
  by_cases hq : x = 0
  · exact (k1 hq).imp fun t q => XS.ifYes W.here W.exec rfl (pc0 := pc) rfl (hb W.bytes hd) rfl ((if0 _ _).trans (teq hq).1) (by omega) (by omega) q
  · exact (k2 hq).imp fun t q => XS.ifNo W.here W.exec rfl (hb W.bytes hd) rfl ((if0 _ _).trans (feq hq).1) q
theorem w_icmpne (W : Wk p l e R s vm0 m args below meth c Z own n0 B ML ret T h locs cells slots) {x y : Int32} {o : Int} {pc' : Nat} (hd : decode B pc = .ok (.if_icmp .ne o, 3)) (hp : (pc : Int) + o = (pc' : Int)) (k1 : ¬ (x = y) → Wp p e below Post T (mkF m pc' L S)) (k2 : x = y → Wp p e below Post T (mkF m (pc + 3) L S)) : Wp p e below Post T (mkF m pc L (.int y :: .int x :: S)) := by
  by_cases hq : x = y
  · exact (k2 hq).imp fun t q => XS.icmpNo W.here W.exec rfl (hb W.bytes hd) rfl (teq hq).2 q
  · exact (k1 hq).imp fun t q => XS.icmpYes W.here W.exec rfl (pc0 := pc) rfl (hb W.bytes hd) rfl (feq hq).2 (by omega) (by omega) q
theorem w_ifne (W : Wk p l e R s vm0 m args below meth c Z own n0 B ML ret T h locs cells slots) {x : Int32} {o : Int} {pc' : Nat} (hd : decode B pc = .ok (.ifCond .ne o, 3)) (hp : (pc : Int) + o = (pc' : Int)) (k1 : ¬ (x = 0) → Wp p e below Post T (mkF m pc' L S)) (k2 : x = 0 → Wp p e below Post T (mkF m (pc + 3) L S)) : Wp p e below Post T (mkF m pc L (.int x :: S)) := by
  by_cases hq : x = 0
  · exact (k2 hq).imp fun t q => XS.ifNo W.here W.exec rfl (hb W.bytes hd) rfl ((if0 _ _).trans (teq hq).2) q
  · exact (k1 hq).imp fun t q => XS.ifYes W.here W.exec rfl (pc0 := pc) rfl (hb W.bytes hd) rfl ((if0 _ _).trans (feq hq).2) (by omega) (by omega) q
theorem w_icmplt (W : Wk p l e R s vm0 m args below meth c Z own n0 B ML ret T h locs cells slots) {x y : Int32} {o : Int} {pc' : Nat} (hd : decode B pc = .ok (.if_icmp .lt o, 3)) (hp : (pc : Int) + o = (pc' : Int)) (k1 : x < y → Wp p e below Post T (mkF m pc' L S)) (k2 : ¬ (x < y) → Wp p e below Post T (mkF m (pc + 3) L S)) : Wp p e below Post T (mkF m pc L (.int y :: .int x :: S)) := by
  by_cases hq : x < y
  · exact (k1 hq).imp fun t q => XS.icmpYes W.here W.exec rfl (pc0 := pc) rfl (hb W.bytes hd) rfl (tlt hq).1 (by omega) (by omega) q
  · exact (k2 hq).imp fun t q => XS.icmpNo W.here W.exec rfl (hb W.bytes hd) rfl (flt hq).1 q
theorem w_iflt (W : Wk p l e R s vm0 m args below meth c Z own n0 B ML ret T h locs cells slots) {x : Int32} {o : Int} {pc' : Nat} (hd : decode B pc = .ok (.ifCond .lt o, 3)) (hp : (pc : Int) + o = (pc' : Int)) (k1 : x < 0 → Wp p e below Post T (mkF m pc' L S)) (k2 : ¬ (x < 0) → Wp p e below Post T (mkF m (pc + 3) L S)) : Wp p e below Post T (mkF m pc L (.int x :: S)) := by
  by_cases hq : x < 0
  · exact (k1 hq).imp fun t q => XS.ifYes W.here W.exec rfl (pc0 := pc) rfl (hb W.bytes hd) rfl ((if0 _ _).trans (tlt hq).1) (by omega) (by omega) q
  · exact (k2 hq).imp fun t q => XS.ifNo W.here W.exec rfl (hb W.bytes hd) rfl ((if0 _ _).trans (flt hq).1) q
theorem w_icmpge (W : Wk p l e R s vm0 m args below meth c Z own n0 B ML ret T h locs cells slots) {x y : Int32} {o : Int} {pc' : Nat} (hd : decode B pc = .ok (.if_icmp .ge o, 3)) (hp : (pc : Int) + o = (pc' : Int)) (k1 : ¬ (x < y) → Wp p e below Post T (mkF m pc' L S)) (k2 : x < y → Wp p e below Post T (mkF m (pc + 3) L S)) : Wp p e below Post T (mkF m pc L (.int y :: .int x :: S)) := by
  by_cases hq : x < y
  · exact (k2 hq).imp fun t q => XS.icmpNo W.here W.exec rfl (hb W.bytes hd) rfl (tlt hq).2.1 q
  · exact (k1 hq).imp fun t q => XS.icmpYes W.here W.exec rfl (pc0 := pc) rfl (hb W.bytes hd) rfl (flt hq).2.1 (by omega) (by omega) q
theorem w_ifge (W : Wk p l e R s vm0 m args below meth c Z own n0 B ML ret T h locs cells slots) {x : Int32} {o : Int} {pc' : Nat} (hd : decode B pc = .ok (.ifCond .ge o, 3)) (hp : (pc : Int) + o = (pc' : Int)) (k1 : ¬ (x < 0) → Wp p e below Post T (mkF m pc' L S)) (k2 : x < 0 → Wp p e below Post T (mkF m (pc + 3) L S)) : Wp p e below Post T (mkF m pc L (.int x :: S)) := by
  by_cases hq : x < 0
  · exact (k2 hq).imp fun t q => XS.ifNo W.here W.exec rfl (hb W.bytes hd) rfl ((if0 _ _).trans (tlt hq).2.1) q
  · exact (k1 hq).imp fun t q => XS.ifYes W.here W.exec rfl (pc0 := pc) rfl (hb W.bytes hd) rfl ((if0 _ _).trans (flt hq).2.1) (by omega) (by omega) q
theorem w_icmpgt (W : Wk p l e R s vm0 m args below meth c Z own n0 B ML ret T h locs cells slots) {x y : Int32} {o : Int} {pc' : Nat} (hd : decode B pc = .ok (.if_icmp .gt o, 3)) (hp : (pc : Int) + o = (pc' : Int)) (k1 : y < x → Wp p e below Post T (mkF m pc' L S)) (k2 : ¬ (y < x) → Wp p e below Post T (mkF m (pc + 3) L S)) : Wp p e below Post T (mkF m pc L (.int y :: .int x :: S)) := by
  by_cases hq : y < x
  · exact (k1 hq).imp fun t q => XS.icmpYes W.here W.exec rfl (pc0 := pc) rfl (hb W.bytes hd) rfl (tlt hq).2.2.1 (by omega) (by omega) q
  · exact (k2 hq).imp fun t q => XS.icmpNo W.here W.exec rfl (hb W.bytes hd) rfl (flt hq).2.2.1 q
theorem w_ifgt (W : Wk p l e R s vm0 m args below meth c Z own n0 B ML ret T h locs cells slots) {x : Int32} {o : Int} {pc' : Nat} (hd : decode B pc = .ok (.ifCond .gt o, 3)) (hp : (pc : Int) + o = (pc' : Int)) (k1 : 0 < x → Wp p e below Post T (mkF m pc' L S)) (k2 : ¬ (0 < x) → Wp p e below Post T (mkF m (pc + 3) L S)) : Wp p e below Post T (mkF m pc L (.int x :: S)) := by
  by_cases hq : 0 < x
  · exact (k1 hq).imp fun t q => XS.ifYes W.here W.exec rfl (pc0 := pc) rfl (hb W.bytes hd) rfl ((if0 _ _).trans (tlt hq).2.2.1) (by omega) (by omega) q
  · exact (k2 hq).imp fun t q => XS.ifNo W.here W.exec rfl (hb W.bytes hd) rfl ((if0 _ _).trans (flt hq).2.2.1) q
theorem w_icmple (W : Wk p l e R s vm0 m args below meth c Z own n0 B ML ret T h locs cells slots) {x y : Int32} {o : Int} {pc' : Nat} (hd : decode B pc = .ok (.if_icmp .le o, 3)) (hp : (pc : Int) + o = (pc' : Int)) (k1 : ¬ (y < x) → Wp p e below Post T (mkF m pc' L S)) (k2 : y < x → Wp p e below Post T (mkF m (pc + 3) L S)) : Wp p e below Post T (mkF m pc L (.int y :: .int x :: S)) := by
  by_cases hq : y < x
  · exact (k2 hq).imp fun t q => XS.icmpNo W.here W.exec rfl (hb W.bytes hd) rfl (tlt hq).2.2.2 q
  · exact (k1 hq).imp fun t q => XS.icmpYes W.here W.exec rfl (pc0 := pc) rfl (hb W.bytes hd) rfl (flt hq).2.2.2 (by omega) (by omega) q
theorem w_ifle (W : Wk p l e R s vm0 m args below meth c Z own n0 B ML ret T h locs cells slots) {x : Int32} {o : Int} {pc' : Nat} (hd : decode B pc = .ok (.ifCond .le o, 3)) (hp : (pc : Int) + o = (pc' : Int)) (k1 : ¬ (0 < x) → Wp p e below Post T (mkF m pc' L S)) (k2 : 0 < x → Wp p e below Post T (mkF m (pc + 3) L S)) : Wp p e below Post T (mkF m pc L (.int x :: S)) := by
  by_cases hq : 0 < x
  · exact (k2 hq).imp fun t q => XS.ifNo W.here W.exec rfl (hb W.bytes hd) rfl ((if0 _ _).trans (tlt hq).2.2.2) q
  · exact (k1 hq).imp fun t q => XS.ifYes W.here W.exec rfl (pc0 := pc) rfl (hb W.bytes hd) rfl ((if0 _ _).trans (flt hq).2.2.2) (by omega) (by omega) q
theorem w_ifnullY (W : Wk p l e R s vm0 m args below meth c Z own n0 B ML ret T h locs cells slots) {b : Addr} {o : Int} {pc' : Nat} (hd : decode B pc = .ok (.ifnull o, 3)) (hp : (pc : Int) + o = (pc' : Int)) (hr : Wp p e below Post T (mkF m pc' L S)) : Wp p e below Post T (mkF m pc L (.null :: S)) :=
  hr.imp fun t q => XS.ifnullYes W.here W.exec rfl (pc0 := pc) rfl (hb W.bytes hd) rfl (by omega) (by omega) q
theorem w_ifnullN (W : Wk p l e R s vm0 m args below meth c Z own n0 B ML ret T h locs cells slots) {b : Addr} {o : Int} (hd : decode B pc = .ok (.ifnull o, 3)) (hr : Wp p e below Post T (mkF m (pc + 3) L S)) : Wp p e below Post T (mkF m pc L (.ref b :: S)) :=
  hr.imp fun t q => XS.ifnullNo W.here W.exec rfl (hb W.bytes hd) rfl q
theorem w_ifnonnullY (W : Wk p l e R s vm0 m args below meth c Z own n0 B ML ret T h locs cells slots) {b : Addr} {o : Int} {pc' : Nat} (hd : decode B pc = .ok (.ifnonnull o, 3)) (hp : (pc : Int) + o = (pc' : Int)) (hr : Wp p e below Post T (mkF m pc' L S)) : Wp p e below Post T (mkF m pc L (.ref b :: S)) :=
  hr.imp fun t q => XS.ifnonnullYes W.here W.exec rfl (pc0 := pc) rfl (hb W.bytes hd) rfl (by omega) (by omega) q
theorem w_ifnonnullN (W : Wk p l e R s vm0 m args below meth c Z own n0 B ML ret T h locs cells slots) {b : Addr} {o : Int} (hd : decode B pc = .ok (.ifnonnull o, 3)) (hr : Wp p e below Post T (mkF m (pc + 3) L S)) : Wp p e below Post T (mkF m pc L (.null :: S)) :=
  hr.imp fun t q => XS.ifnonnullNo W.here W.exec rfl (hb W.bytes hd) rfl q
theorem w_acmp (W : Wk p l e R s vm0 m args below meth c Z own n0 B ML ret T h locs cells slots) {cd : ACond} {x y : Value} {o : Int} {pc' : Nat} (same : Bool) (h1 : x.isRef = true) (h2 : y.isRef = true) (hd : decode B pc = .ok (.if_acmp cd o, 3)) (hq : decide (x = y) = same) (ho : 0 ≤ (pc : Int) + o) (hp : pc' = if acV cd same = true then ((pc : Int) + o).toNat else pc + 3) (hr : Wp p e below Post T (mkF m pc' L S)) : Wp p e below Post T (mkF m pc L (y :: x :: S)) :=
  hr.imp fun t q => Jvm.RoadKit.acmp (g := mkF m pc L (y :: x :: S)) W.st W.exec rfl h1 h2 (pc0 := pc) rfl (hb W.bytes hd) rfl hq ho hp q
theorem w_ldcI (W : Wk p l e R s vm0 m args below meth c Z own n0 B ML ret T h locs cells slots) {index : Nat} {v : Int32} (w : (Jvm.Cond.constant own index v).before a0 Z = true) (hd : decode B pc = .ok (.ldc index, 2)) (hr : Wp p e below Post T (mkF m (pc + 2) L (.int v :: S))) : Wp p e below Post T (mkF m pc L S) :=
  hr.imp fun t q => W.st.ldcInt W.exec W.own' (mvT W.wZ w) (g := mkF m pc L S) rfl (hb W.bytes hd) t q
theorem w_ldc2L (W : Wk p l e R s vm0 m args below meth c Z own n0 B ML ret T h locs cells slots) {index : Nat} {v : Int64} (w : (Jvm.Cond.constantLong own index v).before a0 Z = true) (hd : decode B pc = .ok (.ldc2_w index, 3)) (hr : Wp p e below Post T (mkF m (pc + 3) L (.long v :: S))) : Wp p e below Post T (mkF m pc L S) :=
  hr.imp fun t q => W.st.ldc2Long W.exec W.own' (mvT W.wZ w) (g := mkF m pc L S) rfl (hb W.bytes hd) t q
/-! the ends -/
/-- what a body that interns nothing leaves -/
def PoN (n0 : Nat) (s : State) (kc ks : Nat) (Q : Option Value → Heap → Prop) (o : Outcome) (t : State) : Prop := ∃ v Ls, o = .returned v ∧ (Q v t.heap ∧ Fr n0 Ls) ∧ FrameEnd s o t Ls kc ks
theorem endN {kc ks : Nat} {Q : Option Value → Heap → Prop} (W : Wk p l e R s s.vm m args below meth c Z own n0 B ML ret T h locs cells slots) {v : Option Value} {g : JFrame} (hv : ret = none → v = none) (hc : cells ≤ kc) (hk : slots ≤ ks) (hq : Q v h)
    (k : ∀ fs, (∀ (f : JFrame) (acts : List Action), f.method = m → f.locked = none → f.entered = [] → (doReturn e (T.setTop f) acts v).1 = T.setFrames fs) → Steps p.tables e below (T.setTop g) (T.setFrames fs)) : Wp p e below (PoN n0 s kc ks Q) T g := by
  have hlk := W.lk
  obtain ⟨fs, hr, hrun, hended, hW, hsame⟩ := W.st.leave (v := v) (fun q => hv (W.ret'.symm.trans q))
  have hh : (T.setFrames fs).heap = h := W.heap
  exact ⟨_, _, k fs hr, hrun, hended, v, locs, rfl, ⟨by rw [hh]; exact hq, W.fr⟩, ⟨_, rfl⟩, hW, hsame.mono hc hk⟩
theorem rV (W : Wk p l e R s vm0 m args below meth c Z own n0 B ML ret T h locs cells slots) (hret : ret = none) (hd : decode B pc = .ok (.return_, 1)) {fs : List Frame} (hr : ∀ (f : JFrame) (acts : List Action), f.method = m → f.locked = none → f.entered = [] → (doReturn e (T.setTop f) acts none).1 = T.setFrames fs) : Steps p.tables e below (T.setTop (mkF m pc L [])) (T.setFrames fs) :=
  W.st.returnOut W.exec (W.ret'.trans hret) (hb W.bytes hd) hr
theorem rI {z : Int32} (W : Wk p l e R s vm0 m args below meth c Z own n0 B ML ret T h locs cells slots) (hret : ret = some .int) (hd : decode B pc = .ok (.ireturn, 1)) {fs : List Frame} (hr : ∀ (f : JFrame) (acts : List Action), f.method = m → f.locked = none → f.entered = [] → (doReturn e (T.setTop f) acts (some (.int z))).1 = T.setFrames fs) : Steps p.tables e below (T.setTop (mkF m pc L (.int z :: S))) (T.setFrames fs) :=
  retOut W.st W.exec (W.ret'.trans hret) rfl (Or.inl ⟨rfl, Or.inl rfl, z, rfl⟩) (hb W.bytes hd) hr
theorem rL {z : Int64} (W : Wk p l e R s vm0 m args below meth c Z own n0 B ML ret T h locs cells slots) (hret : ret = some .long) (hd : decode B pc = .ok (.lreturn, 1)) {fs : List Frame} (hr : ∀ (f : JFrame) (acts : List Action), f.method = m → f.locked = none → f.entered = [] → (doReturn e (T.setTop f) acts (some (.long z))).1 = T.setFrames fs) : Steps p.tables e below (T.setTop (mkF m pc L (.long z :: S))) (T.setFrames fs) :=
  retOut W.st W.exec (W.ret'.trans hret) rfl (Or.inr (Or.inl ⟨rfl, rfl, z, rfl⟩)) (hb W.bytes hd) hr
theorem rA {v : Value} {t : FieldType} (W : Wk p l e R s vm0 m args below meth c Z own n0 B ML ret T h locs cells slots) (hret : ret = some t) (ht : t.isReference = true) (hv : v.isRef = true) (hd : decode B pc = .ok (.areturn, 1)) {fs : List Frame} (hr : ∀ (f : JFrame) (acts : List Action), f.method = m → f.locked = none → f.entered = [] → (doReturn e (T.setTop f) acts (some v)).1 = T.setFrames fs) : Steps p.tables e below (T.setTop (mkF m pc L (v :: S))) (T.setFrames fs) :=
  retOut W.st W.exec (W.ret'.trans hret) (by cases v <;> cases t <;> first | rfl | (simp [Value.isRef] at hv) | (simp [FieldType.isReference] at ht)) (Or.inr (Or.inr (Or.inr (Or.inr ⟨rfl, ht, hv⟩)))) (hb W.bytes hd) hr
theorem rN {z z' : Int32} {t : FieldType} (W : Wk p l e R s vm0 m args below meth c Z own n0 B ML ret T h locs cells slots) (hret : ret = some t) (ht : t = .boolean ∨ t = .byte ∨ t = .char ∨ t = .short) (hz : nar t z = z') (hd : decode B pc = .ok (.ireturn, 1)) {fs : List Frame} (hr : ∀ (f : JFrame) (acts : List Action), f.method = m → f.locked = none → f.entered = [] → (doReturn e (T.setTop f) acts (some (.int z'))).1 = T.setFrames fs) : Steps p.tables e below (T.setTop (mkF m pc L (.int z :: S))) (T.setFrames fs) := by
  subst hz; exact retN W.st W.exec (W.ret'.trans hret) ht (hb W.bytes hd) hr
/-! a contract of a body that interns nothing; its entry; a call by it -/
def CtN (l : Launch) (Z : State) (y : MethodName) (B : ByteArray) (ML : Nat) (ret : Option FieldType) (rm : Room) (n0 : Nat) (as : Array Value) (h : Heap) (Q : Option Value → Heap → Prop) : Prop :=
  ∀ ws : List Jvm.Cond, MetFree l y (head1 (Jvm.Cond.code y B ML ret :: ws) rm) (fun a U => a = as ∧ Z.Warmed39 U.vm ∧ U.heap = h) (fun _ _ _ _ _ => True) (fun _ U o U' => ∃ v Ls, o = .returned v ∧ (Q v U'.heap ∧ Fr n0 Ls) ∧ FrameEnd U o U' Ls rm.cells rm.slots)
theorem CtN.of {y : MethodName} {rm : Room} {as : Array Value} {Q : Option Value → Heap → Prop} (hpl : plainFor y = true)
    (k : ∀ p e s m below meth c T, Wk p l e rm s s.vm m as below meth c Z y.cls n0 B ML ret T h [] 0 0 → meth.name = y.name → Wp p e below (PoN n0 s rm.cells rm.slots Q) T (entryFrame m as ML)) : CtN l Z y B ML ret rm n0 as h Q := by
  intro ws
  refine MetFree.of_bodySF hpl hisR ?_
  intro p e s m args below meth c s₁ Bd hml0 hP hK
  obtain ⟨rfl, hZ, hh⟩ := hP
  have hown : s.vm.findClass y.cls = some m.cls := findClass_of_methodNamed Bd.named
  have hnm := (name_of_methodNamed Bd.named Bd.method).1
  have X0 : Stand p l e rm s m args below meth c s₁ [] 0 0 := Stand.of_body Bd
  have e0 : s₁.heap = h := by rw [← hh, Bd.state]; rfl
  exact k p e s m below meth c s₁ ⟨X0, (State.WarmedH.refl s).since h.size, hZ, hown, e0, Fr.nil n0, Bd.exec, Bd.bytes, hml0, Bd.returns, Bd.notSynchronized⟩ hnm
theorem CtN.grow {y : MethodName} {rm : Room} {as : Array Value} {Q : Option Value → Heap → Prop} (C : CtN l Z y B ML ret rm n0 as h Q) : CtN l Z y B ML ret rm n0 as h (fun v h' => Q v h' ∧ h.size ≤ h'.size) := by
  intro ws p e ha hc hk s m args below hf happ hP hK
  obtain ⟨n, o, h1, h2, h3, v, Ls, e1, ⟨q1, q2⟩, fe⟩ := C ws p e ha hc hk s m args below hf happ hP hK
  exact ⟨n, o, h1, h2, h3, v, Ls, e1, ⟨⟨q1, by rw [← hP.2.2]; exact fe.2.2.2.1⟩, q2⟩, fe⟩
theorem CtN.imp {y : MethodName} {rm : Room} {as : Array Value} {Q Q' : Option Value → Heap → Prop} (C : CtN l Z y B ML ret rm n0 as h Q) (k : ∀ v h', Q v h' → Q' v h') : CtN l Z y B ML ret rm n0 as h Q' := by
  intro ws p e ha hc hk s m args below hf happ hP hK
  obtain ⟨n, o, h1, h2, h3, v, Ls, e1, ⟨q1, q2⟩, fe⟩ := C ws p e ha hc hk s m args below hf happ hP hK
  exact ⟨n, o, h1, h2, h3, v, Ls, e1, ⟨k _ _ q1, q2⟩, fe⟩
theorem w_callS {y : MethodName} {yB : ByteArray} {yML : Nat} {yret : Option FieldType} {rm : Room} {as : Array Value} {Q : Option Value → Heap → Prop} (W : Wk p l e R s vm0 m args below meth c Z own n0 B ML ret T h locs cells slots) {index : Nat} (C : CtN l Z y yB yML yret rm n0 as h Q)
    (w1 : (Jvm.Cond.methodLink own index y).before a0 Z = true) (w2 : (Jvm.Cond.static y).before a0 Z = true) (w3 : (Jvm.Cond.initialized y.cls).before a0 Z = true) (w4 : (Jvm.Cond.code y yB yML yret).before a0 Z = true)
    (hy : y.cls ≠ "java/lang/invoke/MethodHandle" ∧ y.cls ≠ "java/lang/invoke/VarHandle") (Wd : Nat) (hf : rm.frames + 1 ≤ R.frames) (hl : Wd + (yML + 11) + rm.locals ≤ R.locals) (hc : cells + rm.cells ≤ R.cells) (hs : slots + rm.slots ≤ R.slots)
    {argsL rest : List Value} {ps : List FieldType} {r : Option FieldType} (hpd : parseMethodDescriptor y.desc = some ⟨ps, r⟩) (hlen : argsL.length = ps.length) (has : as = argsL.toArray) (hS : S = argsL.reverse ++ rest) (hW : (rest.map fun v => v.category).sum = Wd) (hL : L.size = ML)
    (hd : decode B pc = .ok (.invokestatic index, 3))
    (k : ∀ T' h' locs' v, Wk p l e R s vm0 m args below meth c Z own n0 B ML ret T' h' locs' (cells + rm.cells) (slots + rm.slots) → Q v h' → Wp p e below Post T' (mkF m (pc + 3) L (v.toList ++ rest))) : Wp p e below Post T (mkF m pc L S) := by
  subst has
  have hZ := W.wZ
  obtain ⟨v, vm₁, ⟨T', L', k', n'⟩, -, X', ⟨Lc, hQ, l1, y1, z1⟩, st⟩ := Jvm.LawKit.callS W.st W.exec (y := y) W.own' (mvT hZ w1) (mvT hZ w2) (mvT hZ w3) (mvT hZ w4) hy (backOf (W := Wd) (Q := fun v h' Ls => (Q v h' ∧ h.size ≤ h'.size) ∧ Fr n0 Ls) (C.grow []) hZ w4 w3 hf hl) (g := mkF m pc L S) rfl (hL.trans W.ml.symm) (argsL := argsL) (rest := rest) (lenOf hpd hlen) hS (by show 2 * 0 + _ ≤ _; rw [hW]; omega) (hb W.bytes hd) (fun _ _ => ⟨rfl, W.heap, hc, hs⟩)
  dsimp only [Pt.U, Pt.locs, Pt.cells, Pt.slots] at X' l1 y1 z1 st hQ
  subst l1 y1 z1
  exact (k T' T'.heap _ v (W.on X' rfl hQ.1.2 (W.fr.app hQ.2)) hQ.1.1).imp fun t q => st t q
theorem Wp.cast {g g' : JFrame} (q : g = g') (w : Wp p e below Post T g') : Wp p e below Post T g := q ▸ w
theorem n_rV {kc ks : Nat} {Q : Option Value → Heap → Prop} (W : Wk p l e R s s.vm m args below meth c Z own n0 B ML ret T h locs cells slots) (hret : ret = none) (hd : decode B pc = .ok (.return_, 1)) (hc : cells ≤ kc) (hk : slots ≤ ks) (hq : Q none h) : Wp p e below (PoN n0 s kc ks Q) T (mkF m pc L []) := endN W (fun _ => rfl) hc hk hq fun fs hr => rV W hret hd hr
theorem n_rI {kc ks : Nat} {Q : Option Value → Heap → Prop} {z : Int32} (W : Wk p l e R s s.vm m args below meth c Z own n0 B ML ret T h locs cells slots) (hret : ret = some .int) (hd : decode B pc = .ok (.ireturn, 1)) (hc : cells ≤ kc) (hk : slots ≤ ks) (hq : Q (some (.int z)) h) : Wp p e below (PoN n0 s kc ks Q) T (mkF m pc L (.int z :: S)) := endN W (fun q => by rw [hret] at q; cases q) hc hk hq fun fs hr => rI W hret hd hr
theorem n_rL {kc ks : Nat} {Q : Option Value → Heap → Prop} {z : Int64} (W : Wk p l e R s s.vm m args below meth c Z own n0 B ML ret T h locs cells slots) (hret : ret = some .long) (hd : decode B pc = .ok (.lreturn, 1)) (hc : cells ≤ kc) (hk : slots ≤ ks) (hq : Q (some (.long z)) h) : Wp p e below (PoN n0 s kc ks Q) T (mkF m pc L (.long z :: S)) := endN W (fun q => by rw [hret] at q; cases q) hc hk hq fun fs hr => rL W hret hd hr
theorem n_rA {kc ks : Nat} {Q : Option Value → Heap → Prop} {v : Value} {t : FieldType} (W : Wk p l e R s s.vm m args below meth c Z own n0 B ML ret T h locs cells slots) (hret : ret = some t) (ht : t.isReference = true) (hv : v.isRef = true) (hd : decode B pc = .ok (.areturn, 1)) (hc : cells ≤ kc) (hk : slots ≤ ks) (hq : Q (some v) h) : Wp p e below (PoN n0 s kc ks Q) T (mkF m pc L (v :: S)) := endN W (fun q => by rw [hret] at q; cases q) hc hk hq fun fs hr => rA W hret ht hv hd hr
theorem n_rN {kc ks : Nat} {Q : Option Value → Heap → Prop} {z z' : Int32} {t : FieldType} (W : Wk p l e R s s.vm m args below meth c Z own n0 B ML ret T h locs cells slots) (hret : ret = some t) (ht : t = .boolean ∨ t = .byte ∨ t = .char ∨ t = .short) (hz : nar t z = z') (hd : decode B pc = .ok (.ireturn, 1)) (hc : cells ≤ kc) (hk : slots ≤ ks) (hq : Q (some (.int z')) h) : Wp p e below (PoN n0 s kc ks Q) T (mkF m pc L (.int z :: S)) := endN W (fun q => by rw [hret] at q; cases q) hc hk hq fun fs hr => rN W hret ht hz hd hr

end OwnKit

/-! OwnKit, second part: the heap, calls of constructors and instance methods, literals -/
section OwnKit2
variable {p : Program} {l : Launch} {e : Env} {R : Room} {s : State} {vm0 : Vm} {m : MethodId} {args : Array Value} {below : List Frame} {meth : Method} {c : Code} {Z : State} {own : String} {n0 : Nat} {B : ByteArray} {ML : Nat} {ret : Option FieldType} {T : State} {h : Heap} {locs : List Loc} {cells slots : Nat} {a0 : Array Value} {Post : Outcome → State → Prop} {pc : Nat} {L : Array Slot} {S : List Value}
theorem w_getf (W : Wk p l e R s vm0 m args below meth c Z own n0 B ML ret T h locs cells slots) {R0 O n d host : String} {index : Nat} {a : Addr} {v : Value} (w : (Jvm.Cond.fieldLink own index R0 n d).before a0 Z = true ∨ (Jvm.Cond.fieldLinkNest own index R0 n d host).before a0 Z = true) (via : Via Z R0 O n d) (F : Fld Z h a O n d v) (hd : decode B pc = .ok (.getfield index, 3))
    (k : ∀ T', Wk p l e R s vm0 m args below meth c Z own n0 B ML ret T' h locs cells slots → Wp p e below Post T' (mkF m (pc + 3) L (v :: S))) : Wp p e below Post T (mkF m pc L (.ref a :: S)) := by
  obtain ⟨T', X', e', st⟩ := getF W.st W.exec W.wZ W.own' w via W.heap F (g := mkF m pc L (.ref a :: S)) rfl rfl (hb W.bytes hd)
  exact (k T' (W.on X' e' (Nat.le_refl _) W.fr)).imp st
theorem w_gets (W : Wk p l e R s vm0 m args below meth c Z own n0 B ML ret T h locs cells slots) {R0 O n d host : String} {index : Nat} {v : Value} (w : (Jvm.Cond.fieldLink own index R0 n d).before a0 Z = true ∨ (Jvm.Cond.fieldLinkNest own index R0 n d host).before a0 Z = true) (via : Via Z R0 O n d) (F : Sta Z h O n d v) (hd : decode B pc = .ok (.getstatic index, 3))
    (k : ∀ T', Wk p l e R s vm0 m args below meth c Z own n0 B ML ret T' h locs cells slots → Wp p e below Post T' (mkF m (pc + 3) L (v :: S))) : Wp p e below Post T (mkF m pc L S) := by
  obtain ⟨T', X', e', st⟩ := getS2 W.st W.exec W.wZ W.own' w via W.heap F (g := mkF m pc L S) rfl (hb W.bytes hd)
  exact (k T' (W.on X' e' (Nat.le_refl _) W.fr)).imp st
theorem w_putf (W : Wk p l e R s vm0 m args below meth c Z own n0 B ML ret T h locs cells slots) {R0 O n d C : String} {index kk : Nat} {ty : FieldType} {a : Addr} {v v' old : Value} (w : (Jvm.Cond.fieldLink own index R0 n d).before a0 Z = true) (via : Via Z R0 O n d) (F : Fld Z h a O n d old) (E : Exa Z h a C) (Lw : (Jvm.Cond.lays C O n d).before a0 Z = true ∨ ((Jvm.Cond.laysFinal C O n d).before a0 Z = true ∧ own = O ∧ meth.name = "<init>")) (wi : (Jvm.Cond.instantiable C kk).before a0 Z = true)
    (hty : parseFieldDescriptor d = some ty) (hn : narrow ty v = v') (hf : fits ty v' = true) (hna : n0 ≤ a) (hd : decode B pc = .ok (.putfield index, 3))
    (k : ∀ T' h' locs', Wk p l e R s vm0 m args below meth c Z own n0 B ML ret T' h' locs' cells slots → Wr h h' a (Jvm.RoadKit.slotOf Z O n d) v' → Wp p e below Post T' (mkF m (pc + 3) L S)) : Wp p e below Post T (mkF m pc L (v :: .ref a :: S)) := by
  obtain ⟨T', h', X', e', Wr', st⟩ := putFN W.st W.exec W.wZ W.own' w via W.heap F E Lw wi hty hn hf (g := mkF m pc L (v :: .ref a :: S)) rfl rfl (hb W.bytes hd)
  exact (k T' h' _ (W.on X' e' (Nat.le_of_eq Wr'.size.symm) (Fr.snoc X' W.fr hna)) Wr').imp st
theorem w_new (W : Wk p l e R s vm0 m args below meth c Z own n0 B ML ret T h locs cells slots) {C : String} {index n : Nat} (w : (Jvm.Cond.classLink own index C).before a0 Z = true) (wi : (Jvm.Cond.instantiable C n).before a0 Z = true) (wz : (Jvm.Cond.initialized C).before a0 Z = true) (hd : decode B pc = .ok (.new index, 3)) (hc : cells + 1 ≤ R.cells) (hl : slots + n ≤ R.slots)
    (k : ∀ T' h' a, Wk p l e R s vm0 m args below meth c Z own n0 B ML ret T' h' locs (cells + 1) (slots + n) → Ext h h' → a = h.size → Exa Z h' a C → (∀ {O nm d : String} {ty : FieldType}, Laid Z a0 C O nm d → parseFieldDescriptor d = some ty → Fld Z h' a O nm d (defaultValue ty)) → Wp p e below Post T' (mkF m (pc + 3) L (.ref a :: S))) : Wp p e below Post T (mkF m pc L S) := by
  obtain ⟨T', h', X', e', E', A', D', -, st⟩ := newO W.st W.exec W.wZ W.own' w wi wz W.heap (g := mkF m pc L S) rfl (hb W.bytes hd) hc hl
  exact (k T' h' h.size (W.on X' e' E'.1 W.fr) E' rfl A' D').imp st
theorem w_newarr (W : Wk p l e R s vm0 m args below meth c Z own n0 B ML ret T h locs cells slots) {aty : ArrayType} {ty : FieldType} {dv : Value} (w : (Jvm.Cond.arrayClass ty).before a0 Z = true) (hty : newarray.typeOf aty = ty) (hdv : defaultValue ty = dv) {n : Int32} (hd : decode B pc = .ok (.newarray aty, 2)) (hn : ¬ n < 0) (cap : Nat) (hcap : n.toNatClampNeg ≤ cap) (hb8 : cap * 8 ≤ 536870912) (hc : cells + 1 ≤ R.cells) (hl : slots + cap ≤ R.slots)
    (k : ∀ T' h' a kc, Wk p l e R s vm0 m args below meth c Z own n0 B ML ret T' h' locs (cells + 1) (slots + cap) → Ext h h' → a = h.size → Arv Z h' a kc ty n [] dv → Wp p e below Post T' (mkF m (pc + 2) L (.ref a :: S))) : Wp p e below Post T (mkF m pc L (.int n :: S)) := by
  subst hty hdv
  obtain ⟨T', h', kc, X', e', E', A', st⟩ := newP W.st W.exec W.wZ w W.heap (g := mkF m pc L (.int n :: S)) rfl (hb W.bytes hd) rfl hn hcap hb8 hc hl
  exact (k T' h' h.size kc (W.on X' e' E'.1 W.fr) E' rfl (Arv.new A' hn)).imp st
theorem w_arrlen (W : Wk p l e R s vm0 m args below meth c Z own n0 B ML ret T h locs cells slots) {a : Addr} {kc : ClassId} {ty : FieldType} {z : Int32} {vs : List Value} {dv : Value} (F : Arv Z h a kc ty z vs dv) (hd : decode B pc = .ok (.arraylength, 1)) (hr : Wp p e below Post T (mkF m (pc + 1) L (.int z :: S))) : Wp p e below Post T (mkF m pc L (.ref a :: S)) := by
  obtain ⟨cl, Ar, -, S1, N1, -, -⟩ := F
  exact hr.imp fun t q => W.st.arraylength W.exec (by rw [W.heap]; exact Ar.1) (State.isArrayOf_alike W.wZ.alike Ar.2.1) (g := mkF m pc L (.ref a :: S)) rfl rfl (hb W.bytes hd) t (by rw [len_of S1 N1]; exact q)
theorem w_caload (W : Wk p l e R s vm0 m args below meth c Z own n0 B ML ret T h locs cells slots) {a : Addr} {kc : ClassId} {z j : Int32} {vs : List Value} {dv v : Value} (F : Arv Z h a kc .char z vs dv) (hj : ¬ j < 0 ∧ j < z) (hv : vs.getD j.toNatClampNeg dv = v) (hd : decode B pc = .ok (.caload, 1)) (hr : Wp p e below Post T (mkF m (pc + 1) L (v :: S))) : Wp p e below Post T (mkF m pc L (.int j :: .ref a :: S)) := by
  obtain ⟨cl, Ar, -, S1, N1, H1, -⟩ := F
  have hin := inb_of S1 hj
  exact hr.imp fun t q => W.st.caload W.exec (j := j) (v := v) (by rw [W.heap]; exact Ar.1) (State.isArrayOf_alike W.wZ.alike Ar.2.1) Ar.2.2 hin (Has.at H1 hin hv) (g := mkF m pc L (.int j :: .ref a :: S)) rfl rfl (hb W.bytes hd) t q
theorem w_baload (W : Wk p l e R s vm0 m args below meth c Z own n0 B ML ret T h locs cells slots) {a : Addr} {kc : ClassId} {z j : Int32} {vs : List Value} {dv v : Value} (F : Arv Z h a kc .byte z vs dv) (hj : ¬ j < 0 ∧ j < z) (hv : vs.getD j.toNatClampNeg dv = v) (hd : decode B pc = .ok (.baload, 1)) (hr : Wp p e below Post T (mkF m (pc + 1) L (v :: S))) : Wp p e below Post T (mkF m pc L (.int j :: .ref a :: S)) := by
  obtain ⟨cl, Ar, -, S1, N1, H1, -⟩ := F
  have hin := inb_of S1 hj
  exact hr.imp fun t q => W.st.baloadBytes W.exec (j := j) (v := v) (by rw [W.heap]; exact Ar.1) (State.isArrayOf_alike W.wZ.alike Ar.2.1) Ar.2.2 hin (Has.at H1 hin hv) (g := mkF m pc L (.int j :: .ref a :: S)) rfl rfl (hb W.bytes hd) t q
theorem w_iaload (W : Wk p l e R s vm0 m args below meth c Z own n0 B ML ret T h locs cells slots) {a : Addr} {kc : ClassId} {z j : Int32} {vs : List Value} {dv v : Value} (F : Arv Z h a kc .int z vs dv) (hj : ¬ j < 0 ∧ j < z) (hv : vs.getD j.toNatClampNeg dv = v) (hd : decode B pc = .ok (.iaload, 1)) (hr : Wp p e below Post T (mkF m (pc + 1) L (v :: S))) : Wp p e below Post T (mkF m pc L (.int j :: .ref a :: S)) := by
  obtain ⟨cl, Ar, -, S1, N1, H1, -⟩ := F
  have hin := inb_of S1 hj
  exact hr.imp fun t q => W.st.iaload W.exec (j := j) (v := v) (by rw [W.heap]; exact Ar.1) (State.isArrayOf_alike W.wZ.alike Ar.2.1) Ar.2.2 hin (Has.at H1 hin hv) (g := mkF m pc L (.int j :: .ref a :: S)) rfl rfl (hb W.bytes hd) t q
theorem w_castore (W : Wk p l e R s vm0 m args below meth c Z own n0 B ML ret T h locs cells slots) {a : Addr} {kc : ClassId} {z j x x' : Int32} {vs : List Value} {dv : Value} (F : Arv Z h a kc .char z vs dv) (hj : ¬ j < 0 ∧ j < z) (i : Nat) (hi : j.toNatClampNeg = i) (hl : i < vs.length) (hx' : nar .char x = x') (hna : n0 ≤ a) (hd : decode B pc = .ok (.castore, 1))
    (k : ∀ T' h' locs', Wk p l e R s vm0 m args below meth c Z own n0 B ML ret T' h' locs' cells slots → Wr h h' a i (.int x') → Arv Z h' a kc .char z (vs.set i (.int x')) dv → Wp p e below Post T' (mkF m (pc + 1) L S)) : Wp p e below Post T (mkF m pc L (.int x :: .int j :: .ref a :: S)) := by
  subst hx' hi
  obtain ⟨cl, Ar, q1, S1, N1, H1, G1⟩ := F
  have hin := inb_of S1 hj
  obtain ⟨T', h', X', e', Wr', st⟩ := stC W.st W.exec W.wZ W.heap Ar (j := j) hin (g := mkF m pc L (.int x :: .int j :: .ref a :: S)) rfl rfl (hb W.bytes hd)
  exact (k T' h' _ (W.on X' e' (Nat.le_of_eq Wr'.size.symm) (Fr.snoc X' W.fr hna)) Wr' (Arv.set Ar q1 S1 N1 H1 G1 (fits_nar_char _) Wr' _ rfl hl)).imp st
theorem w_bastore (W : Wk p l e R s vm0 m args below meth c Z own n0 B ML ret T h locs cells slots) {a : Addr} {kc : ClassId} {z j x x' : Int32} {vs : List Value} {dv : Value} (F : Arv Z h a kc .byte z vs dv) (hj : ¬ j < 0 ∧ j < z) (i : Nat) (hi : j.toNatClampNeg = i) (hl : i < vs.length) (hx' : nar .byte x = x') (hna : n0 ≤ a) (hd : decode B pc = .ok (.bastore, 1))
    (k : ∀ T' h' locs', Wk p l e R s vm0 m args below meth c Z own n0 B ML ret T' h' locs' cells slots → Wr h h' a i (.int x') → Arv Z h' a kc .byte z (vs.set i (.int x')) dv → Wp p e below Post T' (mkF m (pc + 1) L S)) : Wp p e below Post T (mkF m pc L (.int x :: .int j :: .ref a :: S)) := by
  subst hx' hi
  obtain ⟨cl, Ar, q1, S1, N1, H1, G1⟩ := F
  have hin := inb_of S1 hj
  obtain ⟨T', h', X', e', Wr', st⟩ := stB W.st W.exec W.wZ W.heap Ar (j := j) hin (g := mkF m pc L (.int x :: .int j :: .ref a :: S)) rfl rfl (hb W.bytes hd)
  exact (k T' h' _ (W.on X' e' (Nat.le_of_eq Wr'.size.symm) (Fr.snoc X' W.fr hna)) Wr' (Arv.set Ar q1 S1 N1 H1 G1 (fits_nar_byte _) Wr' _ rfl hl)).imp st
theorem w_cast (W : Wk p l e R s vm0 m args below meth c Z own n0 B ML ret T h locs cells slots) {K : String} {index : Nat} {a : Addr} (w : (Jvm.Cond.classLink own index K).before a0 Z = true) (F : Ins Z h a K true) (hd : decode B pc = .ok (.checkcast index, 3))
    (k : ∀ T', Wk p l e R s vm0 m args below meth c Z own n0 B ML ret T' h locs cells slots → Wp p e below Post T' (mkF m (pc + 3) L (.ref a :: S))) : Wp p e below Post T (mkF m pc L (.ref a :: S)) := by
  obtain ⟨T', X', e', st⟩ := castY W.st W.exec W.wZ W.own' w W.heap F (g := mkF m pc L (.ref a :: S)) rfl rfl (hb W.bytes hd)
  exact (k T' (W.on X' e' (Nat.le_refl _) W.fr)).imp st
theorem w_instY (W : Wk p l e R s vm0 m args below meth c Z own n0 B ML ret T h locs cells slots) {K : String} {index : Nat} {a : Addr} (w : (Jvm.Cond.classLink own index K).before a0 Z = true) (F : Ins Z h a K true) (hd : decode B pc = .ok (.instanceof index, 3))
    (k : ∀ T', Wk p l e R s vm0 m args below meth c Z own n0 B ML ret T' h locs cells slots → Wp p e below Post T' (mkF m (pc + 3) L (.int 1 :: S))) : Wp p e below Post T (mkF m pc L (.ref a :: S)) := by
  obtain ⟨T', X', e', st⟩ := instY W.st W.exec W.wZ W.own' w W.heap F (g := mkF m pc L (.ref a :: S)) rfl rfl (hb W.bytes hd)
  exact (k T' (W.on X' e' (Nat.le_refl _) W.fr)).imp st
theorem w_instNo (W : Wk p l e R s vm0 m args below meth c Z own n0 B ML ret T h locs cells slots) {K C : String} {index : Nat} {a : Addr} (w : (Jvm.Cond.classLink own index K).before a0 Z = true) (E : Exa Z h a C) (F : ∃ c t, Z.vm.findClass C = some c ∧ Z.vm.findClass K = some t ∧ Z.vm.assignable c t = false) (hd : decode B pc = .ok (.instanceof index, 3))
    (k : ∀ T', Wk p l e R s vm0 m args below meth c Z own n0 B ML ret T' h locs cells slots → Wp p e below Post T' (mkF m (pc + 3) L (.int 0 :: S))) : Wp p e below Post T (mkF m pc L (.ref a :: S)) := by
  obtain ⟨T', X', e', st⟩ := instNo W.st W.exec W.wZ W.own' w W.heap E F (g := mkF m pc L (.ref a :: S)) rfl rfl (hb W.bytes hd)
  exact (k T' (W.on X' e' (Nat.le_refl _) W.fr)).imp st
theorem w_instNull (W : Wk p l e R s vm0 m args below meth c Z own n0 B ML ret T h locs cells slots) {index : Nat} (hd : decode B pc = .ok (.instanceof index, 3)) (hr : Wp p e below Post T (mkF m (pc + 3) L (.int 0 :: S))) : Wp p e below Post T (mkF m pc L (.null :: S)) :=
  hr.imp fun t q => W.st.instanceofNull W.exec (g := mkF m pc L (.null :: S)) rfl rfl (hb W.bytes hd) t q
theorem w_castNull (W : Wk p l e R s vm0 m args below meth c Z own n0 B ML ret T h locs cells slots) {index : Nat} (hd : decode B pc = .ok (.checkcast index, 3)) (hr : Wp p e below Post T (mkF m (pc + 3) L (.null :: S))) : Wp p e below Post T (mkF m pc L (.null :: S)) :=
  hr.imp fun t q => W.st.checkcastNull W.exec (g := mkF m pc L (.null :: S)) rfl rfl (hb W.bytes hd) t q
theorem w_initO (W : Wk p l e R s vm0 m args below meth c Z own n0 B ML ret T h locs cells slots) {index : Nat} {a : Addr} (w1 : (Jvm.Cond.methodLink own index Lib.objectInit).before a0 Z = true) (w2 : (Jvm.Cond.instanceMethod Lib.objectInit).before a0 Z = true) (w3 : (Jvm.Cond.code Lib.objectInit ⟨#[0xb1]⟩ 1 none).before a0 Z = true) (Wd : Nat) (hW : (S.map fun v => v.category).sum = Wd) (hL : L.size = ML) (hf : 1 ≤ R.frames) (hl : Wd + 12 ≤ R.locals) (hd : decode B pc = .ok (.invokespecial index, 3))
    (k : ∀ T', Wk p l e R s vm0 m args below meth c Z own n0 B ML ret T' h locs cells slots → Wp p e below Post T' (mkF m (pc + 3) L S)) : Wp p e below Post T (mkF m pc L (.ref a :: S)) := by
  obtain ⟨T', X', e', st⟩ := initO W.st W.exec W.wZ W.own' w1 w2 w3 W.heap (g := mkF m pc L (.ref a :: S)) rfl (hL.trans W.ml.symm) rfl (hb W.bytes hd) hf (W := Wd) (by show 2 * 0 + _ ≤ _; rw [hW]; omega) hl
  exact (k T' (W.on X' e' (Nat.le_refl _) W.fr)).imp st
/-! calls by a contract of a body that interns nothing -/
section CallsN
variable {y z : MethodName} {yB : ByteArray} {yML : Nat} {yret : Option FieldType} {rm : Room} {as : Array Value} {Q : Option Value → Heap → Prop} {index : Nat}
theorem w_special (W : Wk p l e R s vm0 m args below meth c Z own n0 B ML ret T h locs cells slots) (C : CtN l Z y yB yML none rm n0 as h Q) (hy1 : y.name = "<init>")
    (w1 : (Jvm.Cond.methodLink own index y).before a0 Z = true) (w2 : (Jvm.Cond.instanceMethod y).before a0 Z = true) (w3 : (Jvm.Cond.initialized y.cls).before a0 Z = true) (w4 : (Jvm.Cond.code y yB yML none).before a0 Z = true)
    (hy : y.cls ≠ "java/lang/invoke/MethodHandle" ∧ y.cls ≠ "java/lang/invoke/VarHandle") (Wd : Nat) (hf : rm.frames + 1 ≤ R.frames) (hl : Wd + (yML + 11) + rm.locals ≤ R.locals) (hc : cells + rm.cells ≤ R.cells) (hs : slots + rm.slots ≤ R.slots)
    {a : Addr} {argsL rest : List Value} {ps : List FieldType} {r : Option FieldType} (hpd : parseMethodDescriptor y.desc = some ⟨ps, r⟩) (hlen : argsL.length = ps.length) (has : as = (.ref a :: argsL).toArray) (hS : S = argsL.reverse ++ .ref a :: rest) (hW : (rest.map fun v => v.category).sum = Wd) (hL : L.size = ML)
    (hd : decode B pc = .ok (.invokespecial index, 3))
    (k : ∀ T' h' locs' v, Wk p l e R s vm0 m args below meth c Z own n0 B ML ret T' h' locs' (cells + rm.cells) (slots + rm.slots) → Q v h' → Wp p e below Post T' (mkF m (pc + 3) L (v.toList ++ rest))) : Wp p e below Post T (mkF m pc L S) := by
  subst has
  have hZ := W.wZ
  obtain ⟨v, vm₁, ⟨T', L', k', n'⟩, -, X', ⟨Lc, hQ, l1, y1, z1⟩, st⟩ := W.st.specialBack W.exec (y := y) hy1 W.own' (mvT hZ w1) (mvT hZ w2) (mvT hZ w4) hy (backOf (W := Wd) (Q := fun v h' Ls => (Q v h' ∧ h.size ≤ h'.size) ∧ Fr n0 Ls) (C.grow []) hZ w4 w3 hf hl) (g := mkF m pc L S) rfl (hL.trans W.ml.symm) (Steps.refl _) (a := a) (argsL := argsL) (rest := rest) (lenOf hpd hlen) hS (by show 2 * 0 + _ ≤ _; rw [hW]; omega) (hb W.bytes hd) (fun _ _ => ⟨rfl, W.heap, hc, hs⟩)
  dsimp only [Pt.U, Pt.locs, Pt.cells, Pt.slots] at X' l1 y1 z1 st hQ
  subst l1 y1 z1
  exact (k T' T'.heap _ v (W.on X' rfl hQ.1.2 (W.fr.app hQ.2)) hQ.1.1).imp fun t q => st.trans q
theorem w_virt (W : Wk p l e R s vm0 m args below meth c Z own n0 B ML ret T h locs cells slots) {C' : String} (C : CtN l Z z yB yML yret rm n0 as h Q)
    (w1 : (Jvm.Cond.methodLink own index y).before a0 Z = true) (w2 : (Jvm.Cond.declares y).before a0 Z = true) (hnf : NotFace (s.setVm vm0) y) (w3 : (Jvm.Cond.selects C' y z).before a0 Z = true) (w4 : (Jvm.Cond.instanceMethod z).before a0 Z = true) (w5 : (Jvm.Cond.initialized z.cls).before a0 Z = true) (w6 : (Jvm.Cond.code z yB yML yret).before a0 Z = true)
    (hy : y.cls ≠ "java/lang/invoke/MethodHandle" ∧ y.cls ≠ "java/lang/invoke/VarHandle") (Wd : Nat) (hf : rm.frames + 1 ≤ R.frames) (hl : Wd + (yML + 11) + rm.locals ≤ R.locals) (hc : cells + rm.cells ≤ R.cells) (hs : slots + rm.slots ≤ R.slots)
    {a : Addr} (E : Exa Z h a C') {argsL rest : List Value} {ps : List FieldType} {r : Option FieldType} (hpd : parseMethodDescriptor y.desc = some ⟨ps, r⟩) (hlen : argsL.length = ps.length) (has : as = (.ref a :: argsL).toArray) (hS : S = argsL.reverse ++ .ref a :: rest) (hW : (rest.map fun v => v.category).sum = Wd) (hL : L.size = ML)
    (hd : decode B pc = .ok (.invokevirtual index, 3))
    (k : ∀ T' h' locs' v, Wk p l e R s vm0 m args below meth c Z own n0 B ML ret T' h' locs' (cells + rm.cells) (slots + rm.slots) → Q v h' → Wp p e below Post T' (mkF m (pc + 3) L (v.toList ++ rest))) : Wp p e below Post T (mkF m pc L S) := by
  subst has
  have hZ := W.wZ
  obtain ⟨cq, kq, qa, qb, qc⟩ := isOf hZ W.heap E
  obtain ⟨v, vm₁, ⟨T', L', k', n'⟩, -, X', ⟨Lc, hQ, l1, y1, z1⟩, st⟩ := W.st.virtualBack W.exec (y := y) (z := z) W.own' (mvT hZ w1) (mvT hZ w2) hnf (mvT hZ w3) (mvT hZ w4) hy (backOf (W := Wd) (Q := fun v h' Ls => (Q v h' ∧ h.size ≤ h'.size) ∧ Fr n0 Ls) (C.grow []) hZ w6 w5 hf hl) qa qc (g := mkF m pc L S) rfl (hL.trans W.ml.symm) (Steps.refl _) (argsL := argsL) (rest := rest) (lenOf hpd hlen) hS (by show 2 * 0 + _ ≤ _; rw [hW]; omega) (hb W.bytes hd) (fun _ _ => ⟨rfl, W.heap, hc, hs⟩)
  dsimp only [Pt.U, Pt.locs, Pt.cells, Pt.slots] at X' l1 y1 z1 st hQ
  subst l1 y1 z1
  exact (k T' T'.heap _ v (W.on X' rfl hQ.1.2 (W.fr.app hQ.2)) hQ.1.1).imp fun t q => st.trans q
theorem w_face (W : Wk p l e R s vm0 m args below meth c Z own n0 B ML ret T h locs cells slots) {C' : String} {count : Nat} (C : CtN l Z z yB yML yret rm n0 as h Q)
    (w1 : (Jvm.Cond.methodLink own index y).before a0 Z = true) (w2 : (Jvm.Cond.declares y).before a0 Z = true) (w2' : (Jvm.Cond.interfaceMethod y.cls y.cls y.name y.desc).before args (s.setVm vm0) = true) (w3 : (Jvm.Cond.selects C' y z).before a0 Z = true) (w4 : (Jvm.Cond.instanceMethod z).before a0 Z = true) (w7 : (Jvm.Cond.publicMethod z).before a0 Z = true) (w8 : (Jvm.Cond.unhidden C' y.name y.desc).before a0 Z = true) (w9 : (Jvm.Cond.castable C' y.cls).before a0 Z = true) (w5 : (Jvm.Cond.initialized z.cls).before a0 Z = true) (w6 : (Jvm.Cond.code z yB yML yret).before a0 Z = true)
    (hy : y.cls ≠ "java/lang/invoke/MethodHandle" ∧ y.cls ≠ "java/lang/invoke/VarHandle") (Wd : Nat) (hf : rm.frames + 1 ≤ R.frames) (hl : Wd + (yML + 11) + rm.locals ≤ R.locals) (hc : cells + rm.cells ≤ R.cells) (hs : slots + rm.slots ≤ R.slots)
    {a : Addr} (E : Exa Z h a C') {argsL rest : List Value} {ps : List FieldType} {r : Option FieldType} (hpd : parseMethodDescriptor y.desc = some ⟨ps, r⟩) (hlen : argsL.length = ps.length) (has : as = (.ref a :: argsL).toArray) (hS : S = argsL.reverse ++ .ref a :: rest) (hW : (rest.map fun v => v.category).sum = Wd) (hL : L.size = ML)
    (hd : decode B pc = .ok (.invokeinterface index count, 5))
    (k : ∀ T' h' locs' v, Wk p l e R s vm0 m args below meth c Z own n0 B ML ret T' h' locs' (cells + rm.cells) (slots + rm.slots) → Q v h' → Wp p e below Post T' (mkF m (pc + 5) L (v.toList ++ rest))) : Wp p e below Post T (mkF m pc L S) := by
  subst has
  have hZ := W.wZ
  obtain ⟨cq, kq, qa, qb, qc⟩ := isOf hZ W.heap E
  obtain ⟨v, vm₁, ⟨T', L', k', n'⟩, -, X', ⟨Lc, hQ, l1, y1, z1⟩, st⟩ := W.st.interfaceBack W.exec (xi := y) (y := z) W.own' (mvT hZ w1) (mvT hZ w2) w2' (mvT hZ w3) (mvT hZ w4) (mvT hZ w7) (mvT hZ w8) (mvT hZ w9) hy (backOf (W := Wd) (Q := fun v h' Ls => (Q v h' ∧ h.size ≤ h'.size) ∧ Fr n0 Ls) (C.grow []) hZ w6 w5 hf hl) qa qb qc (g := mkF m pc L S) rfl (hL.trans W.ml.symm) (Steps.refl _) (argsL := argsL) (rest := rest) (lenOf hpd hlen) hS (by show 2 * 0 + _ ≤ _; rw [hW]; omega) (hb W.bytes hd) (fun _ _ => ⟨rfl, W.heap, hc, hs⟩)
  dsimp only [Pt.U, Pt.locs, Pt.cells, Pt.slots] at X' l1 y1 z1 st hQ
  subst l1 y1 z1
  exact (k T' T'.heap _ v (W.on X' rfl hQ.1.2 (W.fr.app hQ.2)) hQ.1.1).imp fun t q => st.trans q
end CallsN
/-! bodies that may intern -/
def PoW (n0 : Nat) (s : State) (kc ks : Nat) (Q : Option Value → Heap → Vm → Prop) (o : Outcome) (t : State) : Prop := ∃ v Ls, o = .returned v ∧ (Q v t.heap t.vm ∧ Fr n0 Ls) ∧ ReturnedEndW s o t Ls kc ks
theorem endW {kc ks : Nat} {Q : Option Value → Heap → Vm → Prop} (W : Wk p l e R s vm0 m args below meth c Z own n0 B ML ret T h locs cells slots) {v : Option Value} {g : JFrame} (hv : ret = none → v = none) (hc : cells ≤ kc) (hk : slots ≤ ks) (hq : ∀ vm', (s.setVm vm0).WarmedH vm' → Q v h vm')
    (k : ∀ fs, (∀ (f : JFrame) (acts : List Action), f.method = m → f.locked = none → f.entered = [] → (doReturn e (T.setTop f) acts v).1 = T.setFrames fs) → Steps p.tables e below (T.setTop g) (T.setFrames fs)) : Wp p e below (PoW n0 s kc ks Q) T g := by
  have hlk := W.lk
  obtain ⟨fs, hr, hrun, hended, hend⟩ := (W.st.mono hc hk).leaveW W.since (Nat.le_of_eq (congrArg Array.size W.heap).symm) (v := v) (fun q => hv (W.ret'.symm.trans q))
  have hh : (T.setFrames fs).heap = h := W.heap
  exact ⟨_, _, k fs hr, hrun, hended, v, locs, rfl, ⟨by rw [hh]; exact hq _ W.st.warmed, W.fr⟩, hend⟩
theorem x_rV {kc ks : Nat} {Q : Option Value → Heap → Vm → Prop} (W : Wk p l e R s vm0 m args below meth c Z own n0 B ML ret T h locs cells slots) (hret : ret = none) (hd : decode B pc = .ok (.return_, 1)) (hc : cells ≤ kc) (hk : slots ≤ ks) (hq : ∀ vm', (s.setVm vm0).WarmedH vm' → Q none h vm') : Wp p e below (PoW n0 s kc ks Q) T (mkF m pc L []) := endW W (fun _ => rfl) hc hk hq fun fs hr => rV W hret hd hr
theorem x_rI {kc ks : Nat} {Q : Option Value → Heap → Vm → Prop} {z : Int32} (W : Wk p l e R s vm0 m args below meth c Z own n0 B ML ret T h locs cells slots) (hret : ret = some .int) (hd : decode B pc = .ok (.ireturn, 1)) (hc : cells ≤ kc) (hk : slots ≤ ks) (hq : ∀ vm', (s.setVm vm0).WarmedH vm' → Q (some (.int z)) h vm') : Wp p e below (PoW n0 s kc ks Q) T (mkF m pc L (.int z :: S)) := endW W (fun q => by rw [hret] at q; cases q) hc hk hq fun fs hr => rI W hret hd hr
theorem x_rA {kc ks : Nat} {Q : Option Value → Heap → Vm → Prop} {v : Value} {t : FieldType} (W : Wk p l e R s vm0 m args below meth c Z own n0 B ML ret T h locs cells slots) (hret : ret = some t) (ht : t.isReference = true) (hv : v.isRef = true) (hd : decode B pc = .ok (.areturn, 1)) (hc : cells ≤ kc) (hk : slots ≤ ks) (hq : ∀ vm', (s.setVm vm0).WarmedH vm' → Q (some v) h vm') : Wp p e below (PoW n0 s kc ks Q) T (mkF m pc L (v :: S)) := endW W (fun q => by rw [hret] at q; cases q) hc hk hq fun fs hr => rA W hret ht hv hd hr
theorem x_rN {kc ks : Nat} {Q : Option Value → Heap → Vm → Prop} {z z' : Int32} {t : FieldType} (W : Wk p l e R s vm0 m args below meth c Z own n0 B ML ret T h locs cells slots) (hret : ret = some t) (ht : t = .boolean ∨ t = .byte ∨ t = .char ∨ t = .short) (hz : nar t z = z') (hd : decode B pc = .ok (.ireturn, 1)) (hc : cells ≤ kc) (hk : slots ≤ ks) (hq : ∀ vm', (s.setVm vm0).WarmedH vm' → Q (some (.int z')) h vm') : Wp p e below (PoW n0 s kc ks Q) T (mkF m pc L (.int z :: S)) := endW W (fun q => by rw [hret] at q; cases q) hc hk hq fun fs hr => rN W hret ht hz hd hr
/-- a contract of a body that may intern: Vp is asked of the tables at its start, Q tells of those at its end -/
def CtW (l : Launch) (Z : State) (y : MethodName) (B : ByteArray) (ML : Nat) (ret : Option FieldType) (rm : Room) (n0 : Nat) (as : Array Value) (h : Heap) (Vp : Vm → Prop) (Q : Option Value → Heap → Vm → Prop) : Prop :=
  ∀ ws : List Jvm.Cond, MetFree l y (head1 (Jvm.Cond.code y B ML ret :: ws) rm) (fun a U => a = as ∧ Z.Warmed39 U.vm ∧ U.heap = h ∧ Vp U.vm) (fun _ _ _ _ _ => True) (fun _ U o U' => ∃ v Ls, o = .returned v ∧ (Q v U'.heap U'.vm ∧ Fr n0 Ls) ∧ ReturnedEndW U o U' Ls rm.cells rm.slots)
theorem CtW.of {y : MethodName} {rm : Room} {as : Array Value} {Vp : Vm → Prop} {Q : Option Value → Heap → Vm → Prop} (hpl : plainFor y = true)
    (k : ∀ p e s m below meth c T, Wk p l e rm s s.vm m as below meth c Z y.cls n0 B ML ret T h [] 0 0 → meth.name = y.name → s.heap = h → Vp s.vm → Wp p e below (PoW n0 s rm.cells rm.slots Q) T (entryFrame m as ML)) : CtW l Z y B ML ret rm n0 as h Vp Q := by
  intro ws
  refine MetFree.of_bodySF hpl hisR ?_
  intro p e s m args below meth c s₁ Bd hml0 hP hK
  obtain ⟨rfl, hZ, hh, hV⟩ := hP
  have hown : s.vm.findClass y.cls = some m.cls := findClass_of_methodNamed Bd.named
  have hnm := (name_of_methodNamed Bd.named Bd.method).1
  have X0 : Stand p l e rm s m args below meth c s₁ [] 0 0 := Stand.of_body Bd
  have e0 : s₁.heap = h := by rw [← hh, Bd.state]; rfl
  exact k p e s m below meth c s₁ ⟨X0, (State.WarmedH.refl s).since h.size, hZ, hown, e0, Fr.nil n0, Bd.exec, Bd.bytes, hml0, Bd.returns, Bd.notSynchronized⟩ hnm hh hV
theorem CtW.back {y : MethodName} {rm : Room} {as : Array Value} {Vp : Vm → Prop} {Q : Option Value → Heap → Vm → Prop} {len Wd : Nat} (C : CtW l Z y B ML ret rm n0 as h Vp Q)
    (hZ : Z.Warmed39 s.vm) (wc : (Jvm.Cond.code y B ML ret).before a0 Z = true) (wz : (Jvm.Cond.initialized y.cls).before a0 Z = true) (hf : rm.frames + 1 ≤ R.frames) (hl : Wd + (ML + 11) + rm.locals ≤ R.locals) :
    BackS l R p e below s args y len Wd (fun A a => a = as ∧ A.U.heap = h ∧ Vp A.U.vm ∧ A.cells + rm.cells ≤ R.cells ∧ A.slots + rm.slots ≤ R.slots)
      (fun A _ v Bt => ∃ Ls, (Q v Bt.U.heap Bt.U.vm ∧ Fr n0 Ls) ∧ Bt.locs = A.locs ++ Ls ∧ Bt.cells = A.cells + rm.cells ∧ Bt.slots = A.slots + rm.slots) :=
  BackS.of_freeW (bytes := B) (maxL := ML) (ret := ret) (E := fun _ _ o t Ls k n => k = rm.cells ∧ n = rm.slots ∧ ∃ v, o = .returned v ∧ (Q v t.heap t.vm ∧ Fr n0 Ls)) (C []) hf hl
    (fun m meth c A a Y hp => have hU : Z.Warmed39 A.U.vm := wtrans hZ Y.warmed
      ⟨by show (Jvm.Cond.and _ .tt).before a A.U = true; rw [Cond.before_and, mv hU wc]; rfl, mv hU wc, mv hU wz, hp.2.2.2.1, hp.2.2.2.2⟩)
    (fun m meth c A a g mk Y hp => ⟨hp.1, wtrans hZ Y.warmed, hp.2.1, hp.2.2.1⟩) (fun _ _ _ _ _ _ _ _ _ => trivial)
    (fun _ _ _ _ ⟨v, Ls, h1, h2, h3⟩ => ⟨Ls, _, _, h3, rfl, rfl, v, h1, h2⟩)
    (fun m meth c A a g mk v t Ls k n Y hp _ _ ⟨e1, e2, v', e3, e4⟩ => by cases e3; subst e1 e2; exact ⟨Ls, e4, rfl, rfl, rfl⟩)
/-- behind a step that may have interned -/
theorem Wk.onW {vm1 : Vm} {T' : State} {h' : Heap} {locs' : List Loc} {cells' slots' n : Nat} (W : Wk p l e R s vm0 m args below meth c Z own n0 B ML ret T h locs cells slots) (X : Stand p l e R ((s.setVm vm0).setVm vm1) m args below meth c T' locs' cells' slots') (h2 : (s.setVm vm0).Since vm1 n) (e' : T'.heap = h') (g : h.size ≤ n) (g' : n ≤ h'.size) (N : Fr n0 locs') : Wk p l e R s vm1 m args below meth c Z own n0 B ML ret T' h' locs' cells' slots' := by
  have q := W.since.trans h2 g
  exact ⟨X, ⟨q.1, q.2.mono g'⟩, State.Warmed39.trans W.wZ h2.1, (h2.1.alike.findClass _ _).trans W.own', e', N, W.exec, W.bytes, W.ml, W.ret', W.lk⟩
section CallsW
variable {y z : MethodName} {yB : ByteArray} {yML : Nat} {yret : Option FieldType} {rm : Room} {as : Array Value} {Vp : Vm → Prop} {Q : Option Value → Heap → Vm → Prop} {index : Nat}
theorem w_callSW (W : Wk p l e R s vm0 m args below meth c Z own n0 B ML ret T h locs cells slots) (C : CtW l Z y yB yML yret rm n0 as h Vp Q) (hV : ∀ vm', (s.setVm vm0).WarmedH vm' → Vp vm')
    (w1 : (Jvm.Cond.methodLink own index y).before a0 Z = true) (w2 : (Jvm.Cond.static y).before a0 Z = true) (w3 : (Jvm.Cond.initialized y.cls).before a0 Z = true) (w4 : (Jvm.Cond.code y yB yML yret).before a0 Z = true)
    (hy : y.cls ≠ "java/lang/invoke/MethodHandle" ∧ y.cls ≠ "java/lang/invoke/VarHandle") (Wd : Nat) (hf : rm.frames + 1 ≤ R.frames) (hl : Wd + (yML + 11) + rm.locals ≤ R.locals) (hc : cells + rm.cells ≤ R.cells) (hs : slots + rm.slots ≤ R.slots)
    {argsL rest : List Value} {ps : List FieldType} {r : Option FieldType} (hpd : parseMethodDescriptor y.desc = some ⟨ps, r⟩) (hlen : argsL.length = ps.length) (has : as = argsL.toArray) (hS : S = argsL.reverse ++ rest) (hW : (rest.map fun v => v.category).sum = Wd) (hL : L.size = ML)
    (hd : decode B pc = .ok (.invokestatic index, 3))
    (k : ∀ T' h' locs' vm1 v, Wk p l e R s vm1 m args below meth c Z own n0 B ML ret T' h' locs' (cells + rm.cells) (slots + rm.slots) → (s.setVm vm0).Warmed39 vm1 → Q v h' vm1 → Wp p e below Post T' (mkF m (pc + 3) L (v.toList ++ rest))) : Wp p e below Post T (mkF m pc L S) := by
  subst has
  have hZ := W.wZ
  obtain ⟨v, vm₁, ⟨T', L', k', n'⟩, -, X', h2, hg, ⟨Lc, hQ, l1, y1, z1⟩, st⟩ := callSS W.st W.exec (y := y) W.own' (mvT hZ w1) (mvT hZ w2) (mvT hZ w3) (mvT hZ w4) hy (CtW.back (Wd := Wd) C hZ w4 w3 hf hl) (g := mkF m pc L S) rfl (hL.trans W.ml.symm) (argsL := argsL) (rest := rest) (lenOf hpd hlen) hS (by show 2 * 0 + _ ≤ _; rw [hW]; omega) (hb W.bytes hd) (fun vm' q => ⟨rfl, W.heap, hV vm' q, hc, hs⟩)
  dsimp only [Pt.U, Pt.locs, Pt.cells, Pt.slots] at X' l1 y1 z1 st hQ h2 hg
  subst l1 y1 z1
  rw [W.heap] at hg
  exact (k T' T'.heap _ T'.vm v (W.onW X' h2 rfl hg (Nat.le_refl _) (W.fr.app hQ.2)) h2.1 hQ.1).imp fun t q => st.trans q
theorem w_specialW (W : Wk p l e R s vm0 m args below meth c Z own n0 B ML ret T h locs cells slots) (C : CtW l Z y yB yML none rm n0 as h Vp Q) (hV : ∀ vm', (s.setVm vm0).WarmedH vm' → Vp vm') (hy1 : y.name = "<init>")
    (w1 : (Jvm.Cond.methodLink own index y).before a0 Z = true) (w2 : (Jvm.Cond.instanceMethod y).before a0 Z = true) (w3 : (Jvm.Cond.initialized y.cls).before a0 Z = true) (w4 : (Jvm.Cond.code y yB yML none).before a0 Z = true)
    (hy : y.cls ≠ "java/lang/invoke/MethodHandle" ∧ y.cls ≠ "java/lang/invoke/VarHandle") (Wd : Nat) (hf : rm.frames + 1 ≤ R.frames) (hl : Wd + (yML + 11) + rm.locals ≤ R.locals) (hc : cells + rm.cells ≤ R.cells) (hs : slots + rm.slots ≤ R.slots)
    {a : Addr} {argsL rest : List Value} {ps : List FieldType} {r : Option FieldType} (hpd : parseMethodDescriptor y.desc = some ⟨ps, r⟩) (hlen : argsL.length = ps.length) (has : as = (.ref a :: argsL).toArray) (hS : S = argsL.reverse ++ .ref a :: rest) (hW : (rest.map fun v => v.category).sum = Wd) (hL : L.size = ML)
    (hd : decode B pc = .ok (.invokespecial index, 3))
    (k : ∀ T' h' locs' vm1 v, Wk p l e R s vm1 m args below meth c Z own n0 B ML ret T' h' locs' (cells + rm.cells) (slots + rm.slots) → (s.setVm vm0).Warmed39 vm1 → Q v h' vm1 → Wp p e below Post T' (mkF m (pc + 3) L (v.toList ++ rest))) : Wp p e below Post T (mkF m pc L S) := by
  subst has
  have hZ := W.wZ
  obtain ⟨v, vm₁, ⟨T', L', k', n'⟩, -, X', h2, hg, ⟨Lc, hQ, l1, y1, z1⟩, st⟩ := W.st.specialBackS W.exec (y := y) hy1 W.own' (mvT hZ w1) (mvT hZ w2) (mvT hZ w4) hy (CtW.back (Wd := Wd) C hZ w4 w3 hf hl) (g := mkF m pc L S) rfl (hL.trans W.ml.symm) (Steps.refl _) (a := a) (argsL := argsL) (rest := rest) (lenOf hpd hlen) hS (by show 2 * 0 + _ ≤ _; rw [hW]; omega) (hb W.bytes hd) (fun vm' q => ⟨rfl, W.heap, hV vm' q, hc, hs⟩)
  dsimp only [Pt.U, Pt.locs, Pt.cells, Pt.slots] at X' l1 y1 z1 st hQ h2 hg
  subst l1 y1 z1
  rw [W.heap] at hg
  exact (k T' T'.heap _ T'.vm v (W.onW X' h2 rfl hg (Nat.le_refl _) (W.fr.app hQ.2)) h2.1 hQ.1).imp fun t q => st.trans q
theorem w_virtW (W : Wk p l e R s vm0 m args below meth c Z own n0 B ML ret T h locs cells slots) {C' : String} (C : CtW l Z z yB yML yret rm n0 as h Vp Q) (hV : ∀ vm', (s.setVm vm0).WarmedH vm' → Vp vm')
    (w1 : (Jvm.Cond.methodLink own index y).before a0 Z = true) (w2 : (Jvm.Cond.declares y).before a0 Z = true) (hnf : NotFace (s.setVm vm0) y) (w3 : (Jvm.Cond.selects C' y z).before a0 Z = true) (w4 : (Jvm.Cond.instanceMethod z).before a0 Z = true) (w5 : (Jvm.Cond.initialized z.cls).before a0 Z = true) (w6 : (Jvm.Cond.code z yB yML yret).before a0 Z = true)
    (hy : y.cls ≠ "java/lang/invoke/MethodHandle" ∧ y.cls ≠ "java/lang/invoke/VarHandle") (Wd : Nat) (hf : rm.frames + 1 ≤ R.frames) (hl : Wd + (yML + 11) + rm.locals ≤ R.locals) (hc : cells + rm.cells ≤ R.cells) (hs : slots + rm.slots ≤ R.slots)
    {a : Addr} (E : Exa Z h a C') {argsL rest : List Value} {ps : List FieldType} {r : Option FieldType} (hpd : parseMethodDescriptor y.desc = some ⟨ps, r⟩) (hlen : argsL.length = ps.length) (has : as = (.ref a :: argsL).toArray) (hS : S = argsL.reverse ++ .ref a :: rest) (hW : (rest.map fun v => v.category).sum = Wd) (hL : L.size = ML)
    (hd : decode B pc = .ok (.invokevirtual index, 3))
    (k : ∀ T' h' locs' vm1 v, Wk p l e R s vm1 m args below meth c Z own n0 B ML ret T' h' locs' (cells + rm.cells) (slots + rm.slots) → (s.setVm vm0).Warmed39 vm1 → Q v h' vm1 → Wp p e below Post T' (mkF m (pc + 3) L (v.toList ++ rest))) : Wp p e below Post T (mkF m pc L S) := by
  subst has
  have hZ := W.wZ
  obtain ⟨cq, kq, qa, qb, qc⟩ := isOf hZ W.heap E
  obtain ⟨v, vm₁, ⟨T', L', k', n'⟩, -, X', h2, hg, ⟨Lc, hQ, l1, y1, z1⟩, st⟩ := W.st.virtualBackS W.exec (y := y) (z := z) W.own' (mvT hZ w1) (mvT hZ w2) hnf (mvT hZ w3) (mvT hZ w4) hy (CtW.back (Wd := Wd) C hZ w6 w5 hf hl) qa qc (g := mkF m pc L S) rfl (hL.trans W.ml.symm) (Steps.refl _) (argsL := argsL) (rest := rest) (lenOf hpd hlen) hS (by show 2 * 0 + _ ≤ _; rw [hW]; omega) (hb W.bytes hd) (fun vm' q => ⟨rfl, W.heap, hV vm' q, hc, hs⟩)
  dsimp only [Pt.U, Pt.locs, Pt.cells, Pt.slots] at X' l1 y1 z1 st hQ h2 hg
  subst l1 y1 z1
  rw [W.heap] at hg
  exact (k T' T'.heap _ T'.vm v (W.onW X' h2 rfl hg (Nat.le_refl _) (W.fr.app hQ.2)) h2.1 hQ.1).imp fun t q => st.trans q
end CallsW
/-- a literal, whatever it spells -/
theorem w_ldcS (W : Wk p l e R s vm0 m args below meth c Z own n0 B ML ret T h locs cells slots) {index : Nat} {text : String} (w : (Jvm.Cond.stringLink own index text).before a0 Z = true) (wS : ∀ a ∈ Bundle.stringAtoms, a.before a0 Z = true) (n : Nat) (hn : 4 * text.toList.length ≤ n) (hbig : n ≤ 536870912) (hc : cells + 2 ≤ R.cells) (hl : slots + (n + 4) ≤ R.slots) (hd : decode B pc = .ok (.ldc index, 2))
    (k : ∀ T' h' vm1 a, Wk p l e R s vm1 m args below meth c Z own n0 B ML ret T' h' locs (cells + 2) (slots + (n + 4)) → Ext h h' → Wp p e below Post T' (mkF m (pc + 2) L (.ref a :: S))) : Wp p e below Post T (mkF m pc L S) := by
  obtain ⟨a, T', h', k1, X', e', E', hS', hk', hZ', ho', st⟩ := ldcS W.st W.exec W.wZ W.own' w wS W.heap W.since (Nat.le_refl _) (g := mkF m pc L S) rfl (hb W.bytes hd) hn hbig hc hl
  exact (k T' h' T'.vm a ⟨X', ⟨hS'.1, hS'.2.mono hk'⟩, hZ', ho', e', W.fr, W.exec, W.bytes, W.ml, W.ret', W.lk⟩ E').imp st
/-- a literal not yet loaded since the case's start, and what it spells -/
theorem w_ldcSV (W : Wk p l e R s vm0 m args below meth c Z own n0 B ML ret T h locs cells slots) {index : Nat} {text : String} {Ts : List String} (w : (Jvm.Cond.stringLink own index text).before a0 Z = true) (wS : ∀ a ∈ Bundle.stringAtoms, a.before a0 Z = true) (N : Fr s.heap.size locs) (hkeep : ∀ (b : Addr) (cl : Cell), Z.heap[b]? = some cl → s.heap[b]? = some cl) (I : IB Z vm0 Ts) (hnot : text ∉ Ts) (hh : Jvm.Lit.constHeld Z own index) (hcw : Jvm.Lit.compactW.before a0 Z = true)
    {vs : List Value} {z : Int32} (ht : (∀ c ∈ text.toList, c.toNat < 256) ∧ text.toList.map (fun c => Value.int (Jvm.Lit.byteI c.toNat.toUInt16)) = vs) (hz : ¬ z < 0) (hlz : z.toNatClampNeg = vs.length) (n : Nat) (hn : 4 * text.toList.length ≤ n) (hbig : n ≤ 536870912) (hc : cells + 2 ≤ R.cells) (hl : slots + (n + 4) ≤ R.slots) (hd : decode B pc = .ok (.ldc index, 2))
    (k : ∀ T' h' vm1 a b kc, Wk p l e R s vm1 m args below meth c Z own n0 B ML ret T' h' locs (cells + 2) (slots + (n + 4)) → Ext h h' → Exa Z h' a "java/lang/String" → Fld Z h' a "java/lang/String" "coder" "B" (.int 0) → Fld Z h' a "java/lang/String" "value" "[B" (.ref b) → Arv Z h' b kc .byte z vs (.int 0) → IB Z vm1 (text :: Ts) → Lit (s.setVm vm1) own index a → Wp p e below Post T' (mkF m (pc + 2) L (.ref a :: S))) : Wp p e below Post T (mkF m pc L S) := by
  obtain ⟨a, T', h', k1, b, kc, X', e', E', hS', hk', hZ', ho', f1, f2, f3, f4, -, -, f5, f6, st⟩ := ldcSVL W.st W.exec W.wZ W.own' w wS W.heap W.since (Nat.le_refl _) N hkeep I hnot hh hcw ht hz hlz (g := mkF m pc L S) rfl (hb W.bytes hd) hn hbig hc hl
  exact (k T' h' T'.vm a b kc ⟨X', ⟨hS'.1, hS'.2.mono hk'⟩, hZ', ho', e', W.fr, W.exec, W.bytes, W.ml, W.ret', W.lk⟩ E' f1 f2 f3 f4 f5 f6).imp st
theorem w_ldcAgain (W : Wk p l e R s vm0 m args below meth c Z own n0 B ML ret T h locs cells slots) {index : Nat} {text : String} {a : Addr} (w : (Jvm.Cond.stringLink own index text).before a0 Z = true) (Lt : Lit (s.setVm vm0) own index a) (hd : decode B pc = .ok (.ldc index, 2)) (hr : Wp p e below Post T (mkF m (pc + 2) L (.ref a :: S))) : Wp p e below Post T (mkF m pc L S) :=
  hr.imp fun t q => ldcAgain W.st W.exec W.wZ W.own' w Lt (g := mkF m pc L S) rfl (hb W.bytes hd) t q
/-! small facts on heaps -/
theorem own_extKeep {h1 h2 h3 : Heap} {ws : List Addr} (E : Ext h1 h2) (K : Keep h2 h3 ws) (q : ∀ x ∈ ws, h1.size ≤ x) : Ext h1 h3 :=
  ⟨Nat.le_trans E.1 K.1, fun a c hc => K.2.1 a c (E.2 a c hc) fun hm => absurd (Array.getElem?_eq_some_iff.mp hc).1 (Nat.not_lt.mpr (q a hm))⟩
theorem own_extRefl (h1 : Heap) : Ext h1 h1 := ⟨Nat.le_refl _, fun _ _ q => q⟩
theorem own_extTrans {h1 h2 h3 : Heap} (E : Ext h1 h2) (E' : Ext h2 h3) : Ext h1 h3 := ⟨Nat.le_trans E.1 E'.1, fun a c q => E'.2 a c (E.2 a c q)⟩
theorem own_extWr {h1 h2 h3 : Heap} {a : Addr} {sl : Nat} {v : Value} (E : Ext h1 h2) (W : Wr h2 h3 a sl v) (q : h1.size ≤ a) : Ext h1 h3 := own_extKeep E (Keep.of_wr W) (allS q all0)
theorem own_keepOf {h1 h2 : Heap} {ws : List Addr} (E : Ext h1 h2) : Keep h1 h2 ws := (Keep.refl h1 ws).ext E
theorem own_ltNe {a b n : Nat} (q : a < n) (r : n ≤ b) : a ≠ b := Nat.ne_of_lt (Nat.lt_of_lt_of_le q r)
end OwnKit2

/-! OwnKit, fourth part: private and super calls, arraycopy -/
section OwnKit4
variable {p : Program} {l : Launch} {e : Env} {R : Room} {s : State} {vm0 : Vm} {m : MethodId} {args : Array Value} {below : List Frame} {meth : Method} {c : Code} {Z : State} {own : String} {n0 : Nat} {B : ByteArray} {ML : Nat} {ret : Option FieldType} {T : State} {h : Heap} {locs : List Loc} {cells slots : Nat} {a0 : Array Value} {Post : Outcome → State → Prop} {pc : Nat} {L : Array Slot} {S : List Value}
/-- the class of this name is there and is no interface -/
def Cls (Z : State) (C : String) : Prop := ∃ (c : ClassId) (k : Class), Z.vm.findClass C = some c ∧ Z.vm.classes[c]? = some k ∧ k.isInterface = false
theorem Cls.sel {C : String} {y z : MethodName} (w : (Jvm.Cond.selects C y z).before a0 Z = true) : Cls Z z.cls := by
  obtain ⟨c2, r2, m2, q1, q2, q3, q4, kP, hkP, hkPi⟩ := Cond.selects_spec w
  exact ⟨_, kP, findClass_of_methodNamed q3, hkP, hkPi⟩
theorem Cls.inst {C : String} {n : Nat} (w : (Jvm.Cond.instantiable C n).before a0 Z = true) : Cls Z C := by
  obtain ⟨t, kt, ht, hkt, hord, hfl, -⟩ := Cond.instantiable_spec w
  refine ⟨t, kt, ht, hkt, ?_⟩
  cases q : kt.isInterface
  · rfl
  · rw [q] at hfl; simp at hfl
theorem Cls.same {y : MethodName} (F : Cls Z y.cls) (w : (Jvm.Cond.instanceMethod y).before a0 Z = true) (hy : y.cls ≠ "java/lang/invoke/MethodHandle" ∧ y.cls ≠ "java/lang/invoke/VarHandle") : (Jvm.Cond.sameMethod y.cls y.cls y.name y.desc).before a0 Z = true := by
  obtain ⟨mk, methM, hnamed, hmethM, hstM, habM⟩ := Cond.instanceMethod_spec w
  obtain ⟨c2, k2, f1, f2, f3⟩ := F
  have hf := State.methodFound?_of_named hnamed hy
  obtain ⟨yc, yn, yd⟩ := y
  simp [Cond.before, Cond.holds, Cond.value, f1, hf, hnamed, f2, f3]
theorem Cls.priv {y : MethodName} (F : Cls Z y.cls) (w : (Jvm.Cond.instanceMethod y).before a0 Z = true) (wp : (Jvm.Cond.privateMethod y).before a0 Z = true) (hy : y.cls ≠ "java/lang/invoke/MethodHandle" ∧ y.cls ≠ "java/lang/invoke/VarHandle") : (Jvm.Cond.selects y.cls y y).before a0 Z = true := by
  obtain ⟨c2, k2, f1, f2, f3⟩ := F
  exact selects_self_of_private f1 f2 f3 (Cond.privateMethod_at wp) w hy
theorem Cls.nf {y : MethodName} (F : Cls s y.cls) : NotFace s y := fun r0 h0 => by
  obtain ⟨c2, k2, f1, f2, f3⟩ := F
  cases f1.symm.trans (findClass_of_methodNamed h0)
  exact ⟨k2, f2, f3⟩
section CallsN
variable {y z : MethodName} {yB : ByteArray} {yML : Nat} {yret : Option FieldType} {rm : Room} {as : Array Value} {Q : Option Value → Heap → Prop} {index : Nat}
theorem w_super (W : Wk p l e R s vm0 m args below meth c Z own n0 B ML ret T h locs cells slots) {K : String} (C : CtN l Z y yB yML yret rm n0 as h Q) (F : Cls Z y.cls) (hn : y.name ≠ "<init>")
    (w1 : (Jvm.Cond.methodLink own index y).before a0 Z = true) (w2 : (Jvm.Cond.instanceMethod y).before a0 Z = true) (w4 : (Jvm.Cond.superclass own y.cls).before a0 Z = true) (w3 : (Jvm.Cond.initialized y.cls).before a0 Z = true) (wc : (Jvm.Cond.code y yB yML yret).before a0 Z = true)
    (hy : y.cls ≠ "java/lang/invoke/MethodHandle" ∧ y.cls ≠ "java/lang/invoke/VarHandle") (Wd : Nat) (hf : rm.frames + 1 ≤ R.frames) (hl : Wd + (yML + 11) + rm.locals ≤ R.locals) (hc : cells + rm.cells ≤ R.cells) (hs : slots + rm.slots ≤ R.slots)
    {a : Addr} (E : Ins Z h a K true) {argsL rest : List Value} {ps : List FieldType} {r : Option FieldType} (hpd : parseMethodDescriptor y.desc = some ⟨ps, r⟩) (hlen : argsL.length = ps.length) (has : as = (.ref a :: argsL).toArray) (hS : S = argsL.reverse ++ .ref a :: rest) (hW : (rest.map fun v => v.category).sum = Wd) (hL : L.size = ML)
    (hd : decode B pc = .ok (.invokespecial index, 3))
    (k : ∀ T' h' locs' v, Wk p l e R s vm0 m args below meth c Z own n0 B ML ret T' h' locs' (cells + rm.cells) (slots + rm.slots) → Q v h' → Wp p e below Post T' (mkF m (pc + 3) L (v.toList ++ rest))) : Wp p e below Post T (mkF m pc L S) := by
  subst has
  have hZ := W.wZ
  obtain ⟨v, vm₁, ⟨T', L', k', n'⟩, -, X', ⟨Lc, hQ, l1, y1, z1⟩, st⟩ := superBack W.st W.exec hZ (y := y) W.own' w1 (F.same w2 hy) w2 w4 hn (backOf (W := Wd) (Q := fun v h' Ls => (Q v h' ∧ h.size ≤ h'.size) ∧ Fr n0 Ls) (C.grow []) hZ wc w3 hf hl) W.heap E (g := mkF m pc L S) rfl (hL.trans W.ml.symm) wc (argsL := argsL) (rest := rest) (lenOf hpd hlen) hS (by show 2 * 0 + _ ≤ _; rw [hW]; omega) (hb W.bytes hd) (fun _ _ => ⟨rfl, W.heap, hc, hs⟩)
  dsimp only [Pt.U, Pt.locs, Pt.cells, Pt.slots] at X' l1 y1 z1 st hQ
  subst l1 y1 z1
  exact (k T' T'.heap _ v (W.on X' rfl hQ.1.2 (W.fr.app hQ.2)) hQ.1.1).imp fun t q => st.trans q
theorem w_priv (W : Wk p l e R s vm0 m args below meth c Z own n0 B ML ret T h locs cells slots) {C' : String} (C : CtN l Z y yB yML yret rm n0 as h Q) (F : Cls Z y.cls) (wp : (Jvm.Cond.privateMethod y).before a0 Z = true)
    (w1 : (Jvm.Cond.methodLink own index y).before a0 Z = true) (w2 : (Jvm.Cond.instanceMethod y).before a0 Z = true) (w3 : (Jvm.Cond.initialized y.cls).before a0 Z = true) (wc : (Jvm.Cond.code y yB yML yret).before a0 Z = true)
    (hy : y.cls ≠ "java/lang/invoke/MethodHandle" ∧ y.cls ≠ "java/lang/invoke/VarHandle") (Wd : Nat) (hf : rm.frames + 1 ≤ R.frames) (hl : Wd + (yML + 11) + rm.locals ≤ R.locals) (hc : cells + rm.cells ≤ R.cells) (hs : slots + rm.slots ≤ R.slots)
    {a : Addr} (E : Exa Z h a C') {argsL rest : List Value} {ps : List FieldType} {r : Option FieldType} (hpd : parseMethodDescriptor y.desc = some ⟨ps, r⟩) (hlen : argsL.length = ps.length) (has : as = (.ref a :: argsL).toArray) (hS : S = argsL.reverse ++ .ref a :: rest) (hW : (rest.map fun v => v.category).sum = Wd) (hL : L.size = ML)
    (hd : decode B pc = .ok (.invokevirtual index, 3))
    (k : ∀ T' h' locs' v, Wk p l e R s vm0 m args below meth c Z own n0 B ML ret T' h' locs' (cells + rm.cells) (slots + rm.slots) → Q v h' → Wp p e below Post T' (mkF m (pc + 3) L (v.toList ++ rest))) : Wp p e below Post T (mkF m pc L S) := by
  subst has
  have hZ := W.wZ
  obtain ⟨cell, hcell, hobj⟩ := E.cell
  obtain ⟨v, vm₁, ⟨T', L', k', n'⟩, -, X', ⟨Lc, hQ, l1, y1, z1⟩, st⟩ := W.st.privateBack W.exec (y := y) W.own' (mvT hZ w1) (mvT hZ w2) (mvT hZ (F.priv w2 wp hy)) (Cond.privateMethod_at (mvP (args := args) hZ wp)) (mvT hZ wc) hy (backOf (W := Wd) (Q := fun v h' Ls => (Q v h' ∧ h.size ≤ h'.size) ∧ Fr n0 Ls) (C.grow []) hZ wc w3 hf hl) (g := mkF m pc L S) rfl (hL.trans W.ml.symm) (Steps.refl _) (a := a) (cell := cell) (by rw [W.heap]; exact hcell) hobj (argsL := argsL) (rest := rest) (lenOf hpd hlen) hS (by show 2 * 0 + _ ≤ _; rw [hW]; omega) (hb W.bytes hd) (fun _ _ => ⟨rfl, W.heap, hc, hs⟩)
  dsimp only [Pt.U, Pt.locs, Pt.cells, Pt.slots] at X' l1 y1 z1 st hQ
  subst l1 y1 z1
  exact (k T' T'.heap _ v (W.on X' rfl hQ.1.2 (W.fr.app hQ.2)) hQ.1.1).imp fun t q => st.trans q
end CallsN
section CallsW
variable {y z : MethodName} {yB : ByteArray} {yML : Nat} {yret : Option FieldType} {rm : Room} {as : Array Value} {Vp : Vm → Prop} {Q : Option Value → Heap → Vm → Prop} {index : Nat}
theorem w_privW (W : Wk p l e R s vm0 m args below meth c Z own n0 B ML ret T h locs cells slots) {C' : String} (C : CtW l Z y yB yML yret rm n0 as h Vp Q) (hV : ∀ vm', (s.setVm vm0).WarmedH vm' → Vp vm') (F : Cls Z y.cls) (wp : (Jvm.Cond.privateMethod y).before a0 Z = true)
    (w1 : (Jvm.Cond.methodLink own index y).before a0 Z = true) (w2 : (Jvm.Cond.instanceMethod y).before a0 Z = true) (w3 : (Jvm.Cond.initialized y.cls).before a0 Z = true) (wc : (Jvm.Cond.code y yB yML yret).before a0 Z = true)
    (hy : y.cls ≠ "java/lang/invoke/MethodHandle" ∧ y.cls ≠ "java/lang/invoke/VarHandle") (Wd : Nat) (hf : rm.frames + 1 ≤ R.frames) (hl : Wd + (yML + 11) + rm.locals ≤ R.locals) (hc : cells + rm.cells ≤ R.cells) (hs : slots + rm.slots ≤ R.slots)
    {a : Addr} (E : Exa Z h a C') {argsL rest : List Value} {ps : List FieldType} {r : Option FieldType} (hpd : parseMethodDescriptor y.desc = some ⟨ps, r⟩) (hlen : argsL.length = ps.length) (has : as = (.ref a :: argsL).toArray) (hS : S = argsL.reverse ++ .ref a :: rest) (hW : (rest.map fun v => v.category).sum = Wd) (hL : L.size = ML)
    (hd : decode B pc = .ok (.invokevirtual index, 3))
    (k : ∀ T' h' locs' vm1 v, Wk p l e R s vm1 m args below meth c Z own n0 B ML ret T' h' locs' (cells + rm.cells) (slots + rm.slots) → (s.setVm vm0).Warmed39 vm1 → Q v h' vm1 → Wp p e below Post T' (mkF m (pc + 3) L (v.toList ++ rest))) : Wp p e below Post T (mkF m pc L S) := by
  subst has
  have hZ := W.wZ
  obtain ⟨cell, hcell, hobj⟩ := E.cell
  obtain ⟨v, vm₁, ⟨T', L', k', n'⟩, -, X', h2, hg, ⟨Lc, hQ, l1, y1, z1⟩, st⟩ := W.st.privateBackS W.exec (y := y) W.own' (mvT hZ w1) (mvT hZ w2) (mvT hZ (F.priv w2 wp hy)) (Cond.privateMethod_at (mvP (args := args) hZ wp)) (mvT hZ wc) hy (CtW.back (Wd := Wd) C hZ wc w3 hf hl) (g := mkF m pc L S) rfl (hL.trans W.ml.symm) (Steps.refl _) (a := a) (cell := cell) (by rw [W.heap]; exact hcell) hobj (argsL := argsL) (rest := rest) (lenOf hpd hlen) hS (by show 2 * 0 + _ ≤ _; rw [hW]; omega) (hb W.bytes hd) (fun vm' q => ⟨rfl, W.heap, hV vm' q, hc, hs⟩)
  dsimp only [Pt.U, Pt.locs, Pt.cells, Pt.slots] at X' l1 y1 z1 st hQ h2 hg
  subst l1 y1 z1
  rw [W.heap] at hg
  exact (k T' T'.heap _ T'.vm v (W.onW X' h2 rfl hg (Nat.le_refl _) (W.fr.app hQ.2)) h2.1 hQ.1).imp fun t q => st.trans q
end CallsW
theorem w_acopy (W : Wk p l e R s vm0 m args below meth c Z own n0 B ML ret T h locs cells slots) {index : Nat} {a b : Addr} {k k' : ClassId} {ty : FieldType} {z z' sp dp nn : Int32} {vs vd us : List Value} {dv dd : Value} (w1 : (Jvm.Cond.methodLink own index Jvm.Stand.acN).before a0 Z = true) (w2 : (Jvm.Cond.native Jvm.Stand.acN).before a0 Z = true) (w3 : (Jvm.Cond.static Jvm.Stand.acN).before a0 Z = true) (w4 : (Jvm.Cond.initialized "java/lang/System").before a0 Z = true)
    (A : Arv Z h a k ty z vs dv) (D : Arv Z h b k' ty z' vd dd) (hty : refKind ty = false) (h1 : ¬ sp < 0) (h2 : ¬ dp < 0) (h3 : ¬ nn < 0) (h4 : sp.toNatClampNeg + nn.toNatClampNeg ≤ z.toNatClampNeg) (h5 : dp.toNatClampNeg + nn.toNatClampNeg ≤ z'.toNatClampNeg)
    (hus : us = (List.range nn.toNatClampNeg).map fun i => vs.getD (sp.toNatClampNeg + i) dv) (hl : dp.toNatClampNeg + nn.toNatClampNeg ≤ vd.length) (ge : n0 ≤ b) (Wd : Nat) (hW : (S.map fun v => v.category).sum = Wd) (hL : L.size = ML) (hf : 1 ≤ R.frames) (hlo : Wd + (nativeFrameWords "java/lang/System" "arraycopy" 5 + 11) ≤ R.locals) (hd : decode B pc = .ok (.invokestatic index, 3))
    (kk : ∀ T' h' locs', Wk p l e R s vm0 m args below meth c Z own n0 B ML ret T' h' locs' cells slots → Keep h h' [b] → Arv Z h' b k' ty z' (vd.take dp.toNatClampNeg ++ us ++ vd.drop (dp.toNatClampNeg + nn.toNatClampNeg)) dd → Wp p e below Post T' (mkF m (pc + 3) L S)) : Wp p e below Post T (mkF m pc L (.int nn :: .int dp :: .ref b :: .int sp :: .ref a :: S)) := by
  obtain ⟨T', h', L', X', e', N', K', A', st⟩ := cpA W.st W.exec W.wZ W.own' w1 w2 w3 w4 W.heap A D (Or.inl ⟨rfl, hty⟩) h1 h2 h3 h4 h5 hus hl W.fr ge (g := mkF m pc L (.int nn :: .int dp :: .ref b :: .int sp :: .ref a :: S)) rfl (hL.trans W.ml.symm) rfl (hb W.bytes hd) hf (W := Wd) (by show 2 * 0 + _ ≤ _; rw [hW]; omega) hlo
  exact (kk T' h' L' (W.on X' e' K'.1 N') K' A').imp st
/-- the same stand, seen from a higher or a lower bound -/
theorem Wk.hi {n1 : Nat} (W : Wk p l e R s vm0 m args below meth c Z own n0 B ML ret T h [] cells slots) : Wk p l e R s vm0 m args below meth c Z own n1 B ML ret T h [] cells slots := ⟨W.st, W.since, W.wZ, W.own', W.heap, Fr.nil n1, W.exec, W.bytes, W.ml, W.ret', W.lk⟩
theorem Wk.low {n1 : Nat} (W : Wk p l e R s vm0 m args below meth c Z own n1 B ML ret T h locs cells slots) (q : n0 ≤ n1) : Wk p l e R s vm0 m args below meth c Z own n0 B ML ret T h locs cells slots := ⟨W.st, W.since, W.wZ, W.own', W.heap, fun y hy => Nat.le_trans q (W.fr y hy), W.exec, W.bytes, W.ml, W.ret', W.lk⟩
end OwnKit4

/-! small naturals as ints; lists of values; what a String holds -/
theorem own_ltI {i j : Nat} (hi : i < 2147483648) (hj : j < 2147483648) : Int32.ofNat i < Int32.ofNat j ↔ i < j := by
  rw [Int32.lt_iff_toInt_lt, Int32.toInt_ofNat_of_lt (by omega), Int32.toInt_ofNat_of_lt (by omega)]; omega
theorem own_eqI {i j : Nat} (hi : i < 2147483648) (hj : j < 2147483648) : Int32.ofNat i = Int32.ofNat j ↔ i = j := by
  rw [← Int32.toInt_inj, Int32.toInt_ofNat_of_lt (by omega), Int32.toInt_ofNat_of_lt (by omega)]; omega
theorem own_nn0 {i : Nat} (hi : i < 2147483648) : ¬ Int32.ofNat i < 0 := by
  rw [Int32.lt_iff_toInt_lt, Int32.toInt_ofNat_of_lt (by omega)]; simp
theorem own_clamp {i : Nat} (hi : i < 2147483648) : (Int32.ofNat i).toNatClampNeg = i := by
  rw [Int32.toNatClampNeg, Int32.toInt_ofNat_of_lt (by omega)]; simp
theorem own_one (i : Nat) : Int32.ofNat i + (1 : Int32) = Int32.ofNat (i + 1) := (Int32.ofNat_add i 1).symm
def own_fill (f : Nat → Value) (n k : Nat) : List Value := (List.range n).map fun j => if j < k then f j else .int 0
theorem own_fill_len (f : Nat → Value) (n k : Nat) : (own_fill f n k).length = n := by simp [own_fill]
theorem own_fill_zero (f : Nat → Value) (n : Nat) : own_fill f n 0 = [] ++ List.replicate n (.int 0) := by
  apply List.ext_getElem
  · simp [own_fill]
  · intro i h1 h2; simp [own_fill]
theorem own_fill_set (f : Nat → Value) {n k : Nat} (hk : k < n) : (own_fill f n k).set k (f k) = own_fill f n (k + 1) := by
  apply List.ext_getElem
  · simp [own_fill]
  · intro i h1 h2
    simp only [own_fill, List.getElem_set, List.getElem_map, List.getElem_range]
    by_cases q : k = i
    · subst q; simp
    · rw [if_neg q]
      by_cases r : i < k
      · rw [if_pos r, if_pos (by omega)]
      · rw [if_neg r, if_neg (by omega)]
theorem own_fill_full (f : Nat → Value) (n : Nat) : own_fill f n n = (List.range n).map f := by
  simp only [own_fill]; apply List.map_congr_left; intro j hj; rw [if_pos (List.mem_range.mp hj)]
theorem own_range_map (cs : List Int32) (g : Int32 → Int32) : (List.range cs.length).map (fun j => Value.int (g (cs.getD j 0))) = (cs.map g).map Value.int := by
  apply List.ext_getElem
  · simp
  · intro i h1 h2
    have hi : i < cs.length := by simpa using h1
    simp [List.getD_eq_getElem?_getD, hi]
theorem own_getMap (us : List Int32) {j : Nat} (hj : j < us.length) (d : Value) : (us.map Value.int).getD j d = .int (us.getD j 0) := by
  simp [List.getD_eq_getElem?_getD, hj]
/-- a String: its coder and the bytes of its value -/
def Str (Z : State) (h : Heap) (a : Addr) (co : Int32) (us : List Int32) : Prop :=
  ∃ b k, Exa Z h a "java/lang/String" ∧ Fld Z h a "java/lang/String" "coder" "B" (.int co) ∧ Fld Z h a "java/lang/String" "value" "[B" (.ref b) ∧ Arv Z h b k .byte (Int32.ofNat us.length) (us.map Value.int) (.int 0)
theorem Str.ext {Z : State} {h h' : Heap} {a : Addr} {co : Int32} {us : List Int32} (F : Str Z h a co us) (E : Ext h h') : Str Z h' a co us := by
  obtain ⟨b, k, f1, f2, f3, f4⟩ := F
  exact ⟨b, k, f1.ext E, f2.ext E, f3.ext E, f4.ext E⟩
theorem Str.exa {Z : State} {h : Heap} {a : Addr} {co : Int32} {us : List Int32} (F : Str Z h a co us) : Exa Z h a "java/lang/String" := by
  obtain ⟨b, k, f1, -⟩ := F; exact f1
theorem own_arvUniq {Z : State} {h : Heap} {b : Addr} {k k' : ClassId} {ty : FieldType} {us ws : List Int32} (hu : us.length < 2147483648) (hw : ws.length < 2147483648) (F : Arv Z h b k ty (Int32.ofNat us.length) (us.map Value.int) (.int 0)) (G : Arv Z h b k' ty (Int32.ofNat ws.length) (ws.map Value.int) (.int 0)) : us = ws := by
  obtain ⟨c1, A1, -, s1, -, H1, -⟩ := F
  obtain ⟨c2, A2, -, s2, -, H2, -⟩ := G
  cases A1.1.symm.trans A2.1
  rw [own_clamp hu] at s1
  rw [own_clamp hw] at s2
  have el : us.length = ws.length := s1.symm.trans s2
  apply List.ext_getElem el
  intro i h1 h2
  have e1 := H1 i (by omega)
  have e2 := H2 i (by omega)
  rw [own_getMap us h1] at e1
  rw [own_getMap ws h2] at e2
  have := e1.symm.trans e2
  simp [List.getD_eq_getElem?_getD, h1, h2] at this
  exact this
theorem Str.uniq {Z : State} {h : Heap} {a : Addr} {co co' : Int32} {us ws : List Int32} (hu : us.length < 2147483648) (hw : ws.length < 2147483648) (F : Str Z h a co us) (G : Str Z h a co' ws) : us = ws := by
  obtain ⟨b, k, -, -, f3, f4⟩ := F
  obtain ⟨b', k', -, -, g3, g4⟩ := G
  have e : b = b' := by
    by_cases q : b = b'
    · exact q
    · exact absurd rfl (Fld.ne f3 g3 (fun r => q (Value.ref.inj r)))
  subst e
  exact own_arvUniq hu hw f4 g4
theorem own_staOld {Z : State} {n0 : Nat} {h : Heap} {C n d : String} {v : Value} (O : Old Z n0 h) (F : Sta Z Z.heap C n d v) : Sta Z h C n d v := by
  obtain ⟨cf, i, k, f, st, cell, h1, h2, h3, h4, h5, r⟩ := F
  exact ⟨cf, i, k, f, st, cell, h1, h2, h3, h4, O.2.2 _ _ h5, r⟩
theorem own_oldle {Z : State} {n0 : Nat} {h : Heap} (O : Old Z n0 h) : n0 ≤ h.size := by have h1 := O.1; have h2 := O.2.1; omega
theorem own_narb (x : Int32) : nar .byte (x.toInt8.toInt32) = nar .byte x := by
  show x.toInt8.toInt32.toInt8.toInt32 = x.toInt8.toInt32
  simp
theorem own_coder0 (z : Int32) : nar .byte (((z - z).toUInt32 >>> ((31 : Int32) &&& 31).toUInt32).toInt32).toInt8.toInt32 = 0 := by
  rw [Int32.sub_self]; decide
theorem own_takeS {us ws : List Int32} {i : Nat} (h1 : i < us.length) (h2 : i < ws.length) (hp : us.take i = ws.take i) (hc : us.getD i 0 = ws.getD i 0) : us.take (i + 1) = ws.take (i + 1) := by
  rw [List.take_succ_eq_append_getElem h1, List.take_succ_eq_append_getElem h2, hp]
  simp [List.getD_eq_getElem?_getD, h1, h2] at hc
  rw [hc]
theorem own_ite0 {P : Prop} [Decidable P] (h : (if P then (1 : Int32) else 0) = 0) : (some (Value.int 0)) = some (.int (if P then (1 : Int32) else 0)) := by rw [h]
theorem own_ite1 {P : Prop} [Decidable P] (h : ¬ ((if P then (1 : Int32) else 0) = 0)) : (some (Value.int 1)) = some (.int (if P then (1 : Int32) else 0)) := by
  by_cases q : P
  · rw [if_pos q]
  · rw [if_neg q] at h; exact absurd rfl h
theorem own_cw {Z : State} {a0 : Array Value} {cz : Int32} (G : Sta Z Z.heap "java/lang/String" "COMPACT_STRINGS" "Z" (.int cz)) (hcz : cz ≠ 0) : Jvm.Lit.compactW.before a0 Z = true := by
  have e : (Term.static "java/lang/String" "COMPACT_STRINGS" "Z").eval a0 Z none [] Z = some (.int cz) := Sta.fin (Vm.Alike.refl _) G
  exact Cond.before_iff.mpr (not_i (nay (Cond.eq_ints e (Term.int_eval 0)) hcz))

section OwnUtf
theorem own_ti {k : Nat} (hk : k < 2147483648) : (Int32.ofNat k).toInt = (k : Int) := Int32.toInt_ofNat_of_lt hk
/-- the j-th byte of the two-byte coding (low byte first) -/
def own_ub (cs : List Int32) (j : Nat) : Int32 := if j % 2 = 0 then nar .byte (cs.getD (j / 2) 0) else nar .byte ((cs.getD (j / 2) 0) >>> ((8 : Int32) &&& 31))
def own_u16 (cs : List Int32) : List Int32 := (List.range (2 * cs.length)).map (own_ub cs)
theorem own_u16_len (cs : List Int32) : (own_u16 cs).length = 2 * cs.length := by simp [own_u16]
theorem own_u16_get {cs : List Int32} {j : Nat} (hj : j < 2 * cs.length) : (own_u16 cs).getD j 0 = own_ub cs j := by simp [own_u16, List.getD_eq_getElem?_getD, hj]
theorem own_ub0 (cs : List Int32) (i : Nat) : own_ub cs (2 * i) = nar .byte (cs.getD i 0) := by
  unfold own_ub; rw [if_pos (by omega), show 2 * i / 2 = i by omega]
theorem own_ub1 (cs : List Int32) (i : Nat) : own_ub cs (2 * i + 1) = nar .byte ((cs.getD i 0) >>> ((8 : Int32) &&& 31)) := by
  unfold own_ub; rw [if_neg (by omega), show (2 * i + 1) / 2 = i by omega]
theorem own_dbl {i : Nat} (hi : i ≤ 8000) : Int32.ofNat i <<< ((1 : Int32) &&& 31) = Int32.ofNat (2 * i) := by
  apply Int32.toInt_inj.mp
  have q := c_ishl (Int32.ofNat i) 1 1 (by decide)
  have h1 := (Int32.ofNat i <<< ((1 : Int32) &&& 31)).le_toInt; have h2 := (Int32.ofNat i <<< ((1 : Int32) &&& 31)).toInt_lt
  rw [own_ti (by omega)] at q
  rw [own_ti (by omega)]
  generalize (Int32.ofNat i <<< ((1 : Int32) &&& 31)).toInt = z at *
  simp at q
  omega
theorem own_hlf {i : Nat} (hi : i ≤ 8000) : Int32.ofNat (2 * i) >>> ((1 : Int32) &&& 31) = Int32.ofNat i := by
  apply Int32.toInt_inj.mp
  rw [c_ishr (Int32.ofNat (2 * i)) 1 1 (by decide), own_ti (by omega), own_ti (by omega)]
  simp
theorem own_shr0 (x : Int32) : x >>> ((0 : Int32) &&& 31) = x := by
  apply Int32.toInt_inj.mp
  rw [c_ishr x 0 0 (by decide)]; simp
theorem own_narB (x : Int32) : ((nar .byte x).toInt - x.toInt) % 256 = 0 := (c_i2b x).1
theorem own_narC (x : Int32) : ((nar .char x).toInt - x.toInt) % 65536 = 0 ∧ 0 ≤ (nar .char x).toInt ∧ (nar .char x).toInt < 65536 := c_i2c x
theorem own_b255 (x : Int32) : (x &&& (255 : Int32)).toInt = x.toInt % 256 := c_mask x 255 8 (by decide) (by decide)
theorem own_gc {c : Int32} (h0 : 0 ≤ c.toInt) (h1 : c.toInt < 65536) : nar .char ((((nar .byte c &&& (255 : Int32)) <<< ((0 : Int32) &&& 31)) ||| ((nar .byte (c >>> ((8 : Int32) &&& 31)) &&& (255 : Int32)) <<< ((8 : Int32) &&& 31))).toUInt32.toUInt16.toUInt32.toInt32) = c := by
  have a1 : (nar .byte c &&& (255 : Int32)).toInt = c.toInt % 256 := by rw [own_b255]; have := own_narB c; omega
  have e8 : (c >>> ((8 : Int32) &&& 31)).toInt = c.toInt / 256 := c_ishr c 8 8 (by decide)
  have b1 : (nar .byte (c >>> ((8 : Int32) &&& 31)) &&& (255 : Int32)).toInt = c.toInt / 256 := by rw [own_b255]; have := own_narB (c >>> ((8 : Int32) &&& 31)); rw [e8] at this; omega
  generalize (nar .byte c &&& (255 : Int32)) = A at *
  generalize (nar .byte (c >>> ((8 : Int32) &&& 31)) &&& (255 : Int32)) = D at *
  have a2 : (A <<< ((0 : Int32) &&& 31)).toInt = c.toInt % 256 := by
    have q := c_ishl A 0 0 (by decide); have r1 := (A <<< ((0 : Int32) &&& 31)).le_toInt; have r2 := (A <<< ((0 : Int32) &&& 31)).toInt_lt
    rw [show ((2 ^ 0 : Nat) : Int) = 1 from rfl, Int.mul_one] at q; omega
  have b2 : (D <<< ((8 : Int32) &&& 31)).toInt = c.toInt / 256 * 256 := by
    have q := c_ishl D 8 8 (by decide); have r1 := (D <<< ((8 : Int32) &&& 31)).le_toInt; have r2 := (D <<< ((8 : Int32) &&& 31)).toInt_lt
    simp at q; omega
  generalize (A <<< ((0 : Int32) &&& 31)) = A' at *
  generalize (D <<< ((8 : Int32) &&& 31)) = D' at *
  have s1 : (A' ||| D').toInt = c.toInt := by
    have q := c_or' A' D' 8 (by decide) 256 (by decide) (by omega) (by omega) (by omega); have r1 := (A' ||| D').le_toInt; have r2 := (A' ||| D').toInt_lt
    omega
  generalize (A' ||| D') = O at *
  have t1 := c_i2c O
  have t2 := own_narC (O.toUInt32.toUInt16.toUInt32.toInt32)
  generalize O.toUInt32.toUInt16.toUInt32.toInt32 = P at *
  apply Int32.toInt_inj.mp; omega
theorem own_lc {c : Int32} (h0 : 0 ≤ c.toInt) (h1 : c.toInt < 256) : nar .char ((nar .byte c &&& (255 : Int32)).toUInt32.toUInt16.toUInt32.toInt32) = c := by
  have a1 : (nar .byte c &&& (255 : Int32)).toInt = c.toInt := by rw [own_b255]; have := own_narB c; omega
  generalize (nar .byte c &&& (255 : Int32)) = A at *
  have t1 := c_i2c A
  have t2 := own_narC (A.toUInt32.toUInt16.toUInt32.toInt32)
  generalize A.toUInt32.toUInt16.toUInt32.toInt32 = P at *
  apply Int32.toInt_inj.mp; omega
theorem own_coder1 {n : Nat} (h0 : 0 < n) (h1 : n ≤ 4000) : nar .byte (((Int32.ofNat n - Int32.ofNat (2 * n)).toUInt32 >>> ((31 : Int32) &&& 31).toUInt32).toInt32).toInt8.toInt32 = 1 := by
  have e : ((Int32.ofNat n - Int32.ofNat (2 * n)).toUInt32 >>> ((31 : Int32) &&& 31).toUInt32).toInt32 = 1 := by
    apply Int32.toInt_inj.mp
    rw [c_iushr (Int32.ofNat n - Int32.ofNat (2 * n)) 31 31 (by decide) (by decide)]
    have q := c_isub (Int32.ofNat n) (Int32.ofNat (2 * n)); rw [own_ti (by omega), own_ti (by omega)] at q
    have r1 := (Int32.ofNat n - Int32.ofNat (2 * n)).le_toInt; have r2 := (Int32.ofNat n - Int32.ofNat (2 * n)).toInt_lt
    generalize (Int32.ofNat n - Int32.ofNat (2 * n)).toInt = z at *
    show z % 4294967296 / 2147483648 = 1
    omega
  rw [e]; decide
/-- how a String holds these chars -/
def Enc (cs : List Int32) (co : Int32) (us : List Int32) : Prop := (co = 0 ∧ us = cs.map (nar .byte) ∧ ∀ c ∈ cs, ¬ ((255 : Int32) < c)) ∨ (co = 1 ∧ us = own_u16 cs ∧ 0 < cs.length)
theorem Enc.len {cs us : List Int32} {co : Int32} (e : Enc cs co us) : us.length ≤ 2 * cs.length := by
  rcases e with ⟨-, rfl, -⟩ | ⟨-, rfl, -⟩
  · rw [List.length_map]; omega
  · rw [own_u16_len]; omega
theorem own_encCoder {cs us : List Int32} {co : Int32} (hl : cs.length ≤ 4000) (e : Enc cs co us) : nar .byte (((Int32.ofNat cs.length - Int32.ofNat us.length).toUInt32 >>> ((31 : Int32) &&& 31).toUInt32).toInt32).toInt8.toInt32 = co := by
  rcases e with ⟨rfl, rfl, -⟩ | ⟨rfl, rfl, h⟩
  · rw [List.length_map]; exact own_coder0 _
  · rw [own_u16_len]; exact own_coder1 h hl
theorem own_encLen {cs us : List Int32} {co : Int32} (hl : cs.length ≤ 4000) (e : Enc cs co us) : Int32.ofNat us.length >>> (co &&& 31) = Int32.ofNat cs.length := by
  rcases e with ⟨rfl, rfl, -⟩ | ⟨rfl, rfl, h⟩
  · rw [List.length_map]; exact own_shr0 _
  · rw [own_u16_len]; exact own_hlf (by omega)
theorem own_encCo {cs us : List Int32} {co : Int32} (e : Enc cs co us) : co = 0 ∨ co = 1 := by
  rcases e with ⟨rfl, -⟩ | ⟨rfl, -⟩
  · exact Or.inl rfl
  · exact Or.inr rfl
theorem own_gmem {cs : List Int32} {i : Nat} (hi : i < cs.length) : cs.getD i 0 ∈ cs := by rw [List.getD_eq_getElem?_getD, List.getElem?_eq_getElem hi]; exact List.getElem_mem hi
/-- a char's bounds -/
def Chs (cs : List Int32) : Prop := ∀ c ∈ cs, 0 ≤ c.toInt ∧ c.toInt < 65536
theorem own_255 {c : Int32} : (255 : Int32) < c ↔ 255 < c.toInt := by rw [Int32.lt_iff_toInt_lt]; simp
theorem own_upto {P : Nat → Prop} {i : Nat} (h : ∀ j, j < i → P j) (q : P i) : ∀ j, j < i + 1 → P j := fun j hj => by
  rcases Nat.lt_or_ge j i with r | r
  · exact h j r
  · have : j = i := by omega
    subst this; exact q
theorem own_irr (x : Int32) : ¬ x < x := by rw [Int32.lt_iff_toInt_lt]; omega
theorem own_lt64k {c : Int32} (h : ¬ (255 : Int32) < c) : c < (65536 : Int32) := by
  rw [own_255] at h; rw [Int32.lt_iff_toInt_lt]; simp; omega
theorem own_neB {cs : List Int32} {i : Nat} {ch : Int32} (hi : i < cs.length) (hlat : ∀ c ∈ cs, ¬ ((255 : Int32) < c)) (hch : Chs cs) (h0 : ¬ ch < 0) (h1 : ¬ (255 : Int32) < ch) (hn : ∀ c ∈ cs, c ≠ ch) : ¬ ((cs.map (nar .byte)).getD i 0 = ch.toInt8.toInt32) := by
  have hm := own_gmem hi
  intro q
  have e : (cs.map (nar .byte)).getD i 0 = nar .byte (cs.getD i 0) := by simp [List.getD_eq_getElem?_getD, hi]
  rw [e] at q
  have a1 := own_narB (cs.getD i 0)
  have a2 := (c_i2b ch).1
  have a3 := hlat _ hm; rw [own_255] at a3
  have a4 := (hch _ hm).1
  rw [own_255] at h1
  rw [Int32.lt_iff_toInt_lt] at h0
  have z0 : (0 : Int32).toInt = 0 := rfl
  rw [z0] at h0
  rw [q] at a1
  exact hn _ hm (Int32.toInt_inj.mp (by omega))
theorem own_eqInt {t : Term} {k : Int32} {a0 : Array Value} {Z : State} (h : (Cond.eq t (Term.int k)).value a0 Z none Z [] = some true) : t.eval a0 Z none [] Z = some (.int k) := by
  cases hx : t.eval a0 Z none [] Z with
  | none => simp [Cond.value, hx] at h
  | some x => cases x <;> simp [Cond.value, hx, Term.eval] at h <;> rw [h]
theorem own_chn {a x : Int32} (h : a.toUInt32.toUInt16.toUInt32.toInt32 = x) : 0 ≤ x.toInt ∧ x.toInt < 65536 := h ▸ (c_i2c a).2
theorem own_ncx {x : Int32} (h : 0 ≤ x.toInt ∧ x.toInt < 65536) : nar .char x = x := by
  have q := own_narC x
  exact Int32.toInt_inj.mp (by omega)
end OwnUtf

section Own774
def own_pd (bs : List Int32) (cap : Nat) : List Value := (List.range cap).map fun j => Value.int (bs.getD j 0)
theorem own_pdLen (bs : List Int32) (cap : Nat) : (own_pd bs cap).length = cap := by simp [own_pd]
theorem own_pdGet {bs : List Int32} {cap j : Nat} (hj : j < cap) (d : Value) : (own_pd bs cap).getD j d = .int (bs.getD j 0) := by simp [own_pd, List.getD_eq_getElem?_getD, hj]
theorem own_pdAt {bs : List Int32} {cap j : Nat} (h : j < (own_pd bs cap).length) : (own_pd bs cap)[j] = .int (bs.getD j 0) := by simp [own_pd]
theorem own_pd0 (cap : Nat) : own_pd [] cap = [] ++ List.replicate cap (.int 0) := by
  apply List.ext_getElem
  · simp [own_pd]
  · intro i h1 h2; simp [own_pd]
theorem own_getApp (bs us : List Int32) (j : Nat) : (bs ++ us).getD j 0 = if j < bs.length then bs.getD j 0 else us.getD (j - bs.length) 0 := by
  simp only [List.getD_eq_getElem?_getD, List.getElem?_append]
  split <;> rfl
theorem own_getBig {bs : List Int32} {j : Nat} (h : bs.length ≤ j) : bs.getD j 0 = 0 := by simp [List.getD_eq_getElem?_getD, h]
theorem own_pdApp {bs us : List Int32} {cap : Nat} (h : bs.length + us.length ≤ cap) : (own_pd bs cap).take bs.length ++ us.map Value.int ++ (own_pd bs cap).drop (bs.length + us.length) = own_pd (bs ++ us) cap := by
  apply List.ext_getElem
  · simp [own_pd]; omega
  · intro i h1 h2
    have hi : i < cap := by simpa [own_pd] using h2
    have e2 : (own_pd (bs ++ us) cap)[i] = .int ((bs ++ us).getD i 0) := by simp [own_pd]
    rw [e2, own_getApp]
    by_cases c1 : i < bs.length
    · rw [if_pos c1, List.getElem_append_left (by simp [own_pd]; omega), List.getElem_append_left (by simp [own_pd]; omega), List.getElem_take]; simp [own_pd]
    · rw [if_neg c1]
      have l1 : ((own_pd bs cap).take bs.length).length = bs.length := by simp [own_pd]; omega
      by_cases c2 : i < bs.length + us.length
      · rw [List.getElem_append_left (by simp [own_pd]; omega), List.getElem_append_right (by omega)]
        have hk : i - bs.length < us.length := by omega
        simp [l1, List.getD_eq_getElem?_getD, hk]
      · rw [List.getElem_append_right (by simp [own_pd]; omega)]
        have l2 : ((own_pd bs cap).take bs.length ++ us.map Value.int).length = bs.length + us.length := by rw [List.length_append, l1, List.length_map]
        simp only [l2, List.getElem_drop]
        rw [own_pdAt]
        rw [own_getBig (by omega), own_getBig (by omega)]
theorem own_pdSet {bs : List Int32} {cap : Nat} {x : Int32} (h : bs.length < cap) : (own_pd bs cap).set bs.length (.int x) = own_pd (bs ++ [x]) cap := by
  apply List.ext_getElem
  · simp [own_pd]
  · intro i h1 h2
    have hi : i < cap := by simpa [own_pd] using h2
    rw [show (own_pd (bs ++ [x]) cap)[i] = .int ((bs ++ [x]).getD i 0) from by simp [own_pd], own_getApp, List.getElem_set]
    by_cases c1 : bs.length = i
    · subst c1; simp
    · rw [if_neg c1]
      by_cases c2 : i < bs.length
      · rw [if_pos c2]; simp [own_pd]
      · rw [if_neg c2, own_getBig (bs := [x]) (by simp; omega)]
        rw [own_pdAt, own_getBig (by omega)]
/-- what arraycopy takes -/
theorem own_cpS (us : List Int32) : us.map Value.int = (List.range us.length).map fun i => (us.map Value.int).getD (0 + i) (.int 0) := by
  apply List.ext_getElem
  · simp
  · intro i h1 h2
    have hi : i < us.length := by simpa using h1
    simp [List.getD_eq_getElem?_getD, hi]
theorem own_cpP (bs : List Int32) (cap n : Nat) (h : n ≤ cap) : own_pd bs n = (List.range n).map fun i => (own_pd bs cap).getD (0 + i) (.int 0) := by
  apply List.ext_getElem
  · simp [own_pd]
  · intro i h1 h2
    have hi : i < n := by simpa [own_pd] using h1
    have hi' : i < cap := by omega
    simp [own_pd, List.getD_eq_getElem?_getD, hi']
theorem own_pdFull (bs : List Int32) : own_pd bs bs.length = bs.map Value.int := by
  apply List.ext_getElem
  · simp [own_pd]
  · intro i h1 h2
    have hi : i < bs.length := by simpa [own_pd] using h1
    simp [own_pd, List.getD_eq_getElem?_getD, hi]
theorem own_pdGrow {bs : List Int32} {cap c2 : Nat} (h : bs.length ≤ cap) (h2 : cap ≤ c2) : ([] ++ List.replicate c2 (Value.int 0)).take 0 ++ own_pd bs cap ++ ([] ++ List.replicate c2 (Value.int 0)).drop (0 + cap) = own_pd bs c2 := by
  apply List.ext_getElem
  · simp [own_pd]; omega
  · intro i h1 h3
    have hi : i < c2 := by simpa [own_pd] using h3
    rw [show (own_pd bs c2)[i] = .int (bs.getD i 0) from by simp [own_pd]]
    by_cases c1 : i < cap
    · rw [List.getElem_append_left (by simp [own_pd]; omega)]; simp [own_pd]
    · rw [List.getElem_append_right (by simp [own_pd]; omega), own_getBig (by omega)]; simp
theorem own_cpEnd (us : List Value) (n : Nat) (h : us.length = n) : ([] ++ List.replicate n (Value.int 0)).take 0 ++ us ++ ([] ++ List.replicate n (Value.int 0)).drop (0 + n) = us := by simp
theorem own_addN {a b : Nat} : Int32.ofNat a + Int32.ofNat b = Int32.ofNat (a + b) := (Int32.ofNat_add a b).symm
theorem own_subN {a b : Nat} (h : b ≤ a) : Int32.ofNat a - Int32.ofNat b = Int32.ofNat (a - b) := by
  have e : a = (a - b) + b := by omega
  rw [e, Int32.ofNat_add]
  have : (a - b) + b - b = a - b := by omega
  rw [this]; exact Int32.add_sub_cancel _ _
theorem own_shl0 (x : Int32) : x <<< ((0 : Int32) &&& 31) = x := by
  apply Int32.toInt_inj.mp
  have q := c_ishl x 0 0 (by decide); have r1 := (x <<< ((0 : Int32) &&& 31)).le_toInt; have r2 := (x <<< ((0 : Int32) &&& 31)).toInt_lt; have r3 := x.le_toInt; have r4 := x.toInt_lt
  rw [show ((2 ^ 0 : Nat) : Int) = 1 from rfl, Int.mul_one] at q; omega
theorem own_le0 {q cap : Nat} (h1 : q ≤ cap) (h2 : cap ≤ 8000) : ¬ ((0 : Int32) < Int32.ofNat q - Int32.ofNat cap) := by
  rw [Int32.lt_iff_toInt_lt]
  have z0 : (0 : Int32).toInt = 0 := rfl
  have e := c_isub (Int32.ofNat q) (Int32.ofNat cap); rw [own_ti (by omega), own_ti (by omega)] at e
  have r1 := (Int32.ofNat q - Int32.ofNat cap).le_toInt; have r2 := (Int32.ofNat q - Int32.ofNat cap).toInt_lt
  rw [z0]; omega
theorem own_pos {q : Nat} (h : 0 < q) (h2 : q ≤ 100000) : (0 : Int32) < Int32.ofNat q := by
  rw [Int32.lt_iff_toInt_lt, own_ti (by omega)]; have z0 : (0 : Int32).toInt = 0 := rfl; rw [z0]; omega
theorem own_maxI {a b : Nat} (ha : a ≤ 8000) (hb : b ≤ 8000) (q : Int32.ofNat a < Int32.ofNat b) : some (Value.int (Int32.ofNat b)) = some (.int (Int32.ofNat (max a b))) := by
  rw [own_ltI (by omega) (by omega)] at q; rw [Nat.max_eq_right (by omega)]
theorem own_maxJ {a b : Nat} (ha : a ≤ 8000) (hb : b ≤ 8000) (q : ¬ (Int32.ofNat a < Int32.ofNat b)) : some (Value.int (Int32.ofNat a)) = some (.int (Int32.ofNat (max a b))) := by
  rw [own_ltI (by omega) (by omega)] at q; rw [Nat.max_eq_left (by omega)]
theorem own_minI {a b : Nat} (ha : a ≤ 8000) (hb : b ≤ 8000) (q : Int32.ofNat b < Int32.ofNat a) : some (Value.int (Int32.ofNat b)) = some (.int (Int32.ofNat (min a b))) := by
  rw [own_ltI (by omega) (by omega)] at q; rw [Nat.min_eq_right (by omega)]
theorem own_minJ {a b : Nat} (ha : a ≤ 8000) (hb : b ≤ 8000) (q : ¬ (Int32.ofNat b < Int32.ofNat a)) : some (Value.int (Int32.ofNat a)) = some (.int (Int32.ofNat (min a b))) := by
  rw [own_ltI (by omega) (by omega)] at q; rw [Nat.min_eq_left (by omega)]
theorem own_arvNe {Z : State} {h : Heap} {b1 b2 : Addr} {k1 k2 : ClassId} {t1 t2 : FieldType} {n1 n2 : Nat} {v1 v2 : List Value} {d1 d2 : Value} (F : Arv Z h b1 k1 t1 (Int32.ofNat n1) v1 d1) (G : Arv Z h b2 k2 t2 (Int32.ofNat n2) v2 d2) (h1 : n1 < 2147483648) (h2 : n2 < 2147483648) (hne : n1 ≠ n2) : b1 ≠ b2 := fun q => by
  subst q
  obtain ⟨c1, A1, -, s1, -⟩ := F
  obtain ⟨c2, A2, -, s2, -⟩ := G
  cases A1.1.symm.trans A2.1
  rw [own_clamp h1] at s1; rw [own_clamp h2] at s2
  omega
/-- a StringBuilder: its array, how much it holds, its bytes -/
def SB (Z : State) (n0 : Nat) (h : Heap) (x b : Addr) (cap : Nat) (bs : List Int32) : Prop :=
  Exa Z h x "java/lang/StringBuilder" ∧ Fld Z h x "java/lang/AbstractStringBuilder" "coder" "B" (.int 0) ∧ Fld Z h x "java/lang/AbstractStringBuilder" "count" "I" (.int (Int32.ofNat bs.length)) ∧ Fld Z h x "java/lang/AbstractStringBuilder" "value" "[B" (.ref b) ∧ n0 ≤ x ∧ n0 ≤ b ∧ bs.length ≤ cap ∧ cap ≤ 4000 ∧ ∃ k, Arv Z h b k .byte (Int32.ofNat cap) (own_pd bs cap) (.int 0)
theorem SB.ext {Z : State} {n0 : Nat} {h h' : Heap} {x b : Addr} {cap : Nat} {bs : List Int32} (F : SB Z n0 h x b cap bs) (E : Ext h h') : SB Z n0 h' x b cap bs := by
  obtain ⟨f1, f2, f3, f4, f5, f6, f7, f8, k, f9⟩ := F
  exact ⟨f1.ext E, f2.ext E, f3.ext E, f4.ext E, f5, f6, f7, f8, k, f9.ext E⟩
theorem SB.low {Z : State} {n0 n1 : Nat} {h : Heap} {x b : Addr} {cap : Nat} {bs : List Int32} (F : SB Z n0 h x b cap bs) (q : n1 ≤ n0) : SB Z n1 h x b cap bs := by
  obtain ⟨f1, f2, f3, f4, f5, f6, r⟩ := F
  exact ⟨f1, f2, f3, f4, Nat.le_trans q f5, Nat.le_trans q f6, r⟩
theorem SB.keep1 {Z : State} {n0 : Nat} {h h' : Heap} {x b y : Addr} {cap : Nat} {bs : List Int32} (F : SB Z n0 h x b cap bs) (K : Keep h h' [y]) (q1 : x ≠ y) (q2 : b ≠ y) : SB Z n0 h' x b cap bs := by
  obtain ⟨f1, f2, f3, f4, f5, f6, f7, f8, k, f9⟩ := F
  exact ⟨f1.keep K, f2.keep K (ninS q1 nin0), f3.keep K (ninS q1 nin0), f4.keep K (ninS q1 nin0), f5, f6, f7, f8, k, f9.keep K (ninS q2 nin0)⟩
theorem Str.keepSB {Z : State} {n0 : Nat} {h h' : Heap} {a0 : Array Value} {a x b : Addr} {cap : Nat} {us bs : List Int32} (F : Str Z h a 0 us) (G : SB Z n0 h x b cap bs) (hu : us.length ≤ 4000) (hne : us.length ≠ cap) (wS : (Jvm.Cond.instantiable "java/lang/String" 4).before a0 Z = true) (wB : (Jvm.Cond.instantiable "java/lang/StringBuilder" 4).before a0 Z = true) (K : Keep h h' [x, b]) : Str Z h' a 0 us := by
  obtain ⟨sb, k, f1, f2, f3, f4⟩ := F
  obtain ⟨g1, g2, g3, g4, g5, g6, g7, g8, k', g9⟩ := G
  have n1 : a ≠ x := Exa.ne f1 g1 (by decide)
  have n2 : a ≠ b := Exa.neArv f1 g9 wS
  have n3 : sb ≠ x := (Exa.neArv g1 f4 wB).symm
  have n4 : sb ≠ b := own_arvNe f4 g9 (by omega) (by omega) hne
  exact ⟨sb, k, f1.keep K, f2.keep K (ninS n1 (ninS n2 nin0)), f3.keep K (ninS n1 (ninS n2 nin0)), f4.keep K (ninS n3 (ninS n4 nin0))⟩
theorem own_keep2 {h h' : Heap} {x b : Addr} (K : Keep h h' [b]) : Keep h h' [x, b] := (Keep.refl h [x, b]).trans K (fun y hy => by cases List.mem_singleton.mp hy; exact Or.inl (List.mem_cons_of_mem _ (List.mem_cons_self ..)))
theorem own_keep1 {h h' : Heap} {x b : Addr} (K : Keep h h' [x]) : Keep h h' [x, b] := (Keep.refl h [x, b]).trans K (fun y hy => by cases List.mem_singleton.mp hy; exact Or.inl (List.mem_cons_self ..))
theorem own_keepT {h h1 h2 : Heap} {ws : List Addr} (K : Keep h h1 ws) (K' : Keep h1 h2 ws) : Keep h h2 ws := K.trans K' fun y hy => Or.inl hy
/-- all of a list's chars are below 256 -/
theorem own_alln : ∀ c ∈ ([] : List Int32), ¬ ((255 : Int32) < c) := fun c hc => by cases hc
theorem own_allc {x : Int32} {xs : List Int32} (h : ¬ ((255 : Int32) < x)) (r : ∀ c ∈ xs, ¬ ((255 : Int32) < c)) : ∀ c ∈ x :: xs, ¬ ((255 : Int32) < c) := fun c hc => by
  rcases List.mem_cons.mp hc with rfl | q
  · exact h
  · exact r c q
/-- the literal's bytes -/
def own_tB : List Int32 := [116, 114, 97, 99, 101, 59, 100, 101, 115, 99, 61, 34]
def own_cB : List Int32 := [44, 32]
/-- a literal of ServerTiming that has been loaded -/
def Ld (Z : State) (vm : Vm) (h : Heap) : Prop := ∃ a, Lit (Z.setVm vm) "com/example/phasescope/phasescope/ServerTiming" 35 a ∧ Str Z h a 0 own_tB
theorem own_ibWarm {Z s : State} {vm0 vm1 : Vm} {Ts : List String} (I : IB Z vm0 Ts) (hW : (s.setVm vm0).WarmedH vm1) : IB Z vm1 Ts := by
  obtain ⟨more, e, hm⟩ := I
  exact ⟨more, by rw [hW.interned_eq]; exact e, hm⟩
theorem own_byteN {a x : Int32} (h : ((a &&& (255 : Int32))).toUInt32.toUInt16.toUInt32.toInt32 = x) : ¬ ((255 : Int32) < x) ∧ nar .char x = x := by
  have e := own_chn h
  refine ⟨?_, own_ncx e⟩
  rw [own_255]
  have q := (c_i2c (a &&& (255 : Int32))).1; rw [h] at q
  have q2 := own_b255 a
  omega
end Own774

theorem own_wS {Z : State} {a0 : Array Value} (hw : ∀ d ∈ tables_1, d.before a0 Z = true) : ∀ a ∈ Bundle.stringAtoms, a.before a0 Z = true := by
  intro a ha
  simp only [Bundle.stringAtoms, Bundle.sN, List.mem_cons, List.not_mem_nil, or_false] at ha
  rcases ha with rfl | rfl | rfl | rfl | rfl | rfl | rfl
  · exact (hw _ (List.mem_of_getElem? (i := 2) rfl))
  · exact (hw _ (List.mem_of_getElem? (i := 1) rfl))
  · exact (hw _ (List.mem_of_getElem? (i := 19) rfl))
  · exact (hw _ (List.mem_of_getElem? (i := 29) rfl))
  · exact (hw _ (List.mem_of_getElem? (i := 27) rfl))
  · exact (hw _ (List.mem_of_getElem? (i := 93) rfl))
  · exact (hw _ (List.mem_of_getElem? (i := 94) rfl))
theorem ef_5_RIRII (m : MethodId) (x0 : Addr) (x1 : Int32) (x2 : Addr) (x3 : Int32) (x4 : Int32) : entryFrame m #[(.ref x0), (.int x1), (.ref x2), (.int x3), (.int x4)] 7 = mkF m 0 #[.val (.ref x0), .val (.int x1), .val (.ref x2), .val (.int x3), .val (.int x4), .unset, .unset] [] := by first | (simp [entryFrame, mkF, argsToLocals, Value.category]; done) | rfl
theorem d5_0 : decode jdk_52_method_21_code 0 = .ok (.iconst 0, 1) := by decide +kernel
theorem d5_1 : decode jdk_52_method_21_code 1 = .ok (.istore 5, 2) := by decide +kernel
theorem d5_3 : decode jdk_52_method_21_code 3 = .ok (.iload 5, 2) := by decide +kernel
theorem d5_5 : decode jdk_52_method_21_code 5 = .ok (.iload 4, 2) := by decide +kernel
theorem d5_7 : decode jdk_52_method_21_code 7 = .ok (.if_icmp .ge 37, 3) := by decide +kernel
theorem d5_44 : decode jdk_52_method_21_code 44 = .ok (.iload 4, 2) := by decide +kernel
theorem d5_46 : decode jdk_52_method_21_code 46 = .ok (.ireturn, 1) := by decide +kernel
theorem d5_10 : decode jdk_52_method_21_code 10 = .ok (.aload_n 0, 1) := by decide +kernel
theorem d5_11 : decode jdk_52_method_21_code 11 = .ok (.iload_n 1, 1) := by decide +kernel
theorem d5_12 : decode jdk_52_method_21_code 12 = .ok (.caload, 1) := by decide +kernel
theorem d5_13 : decode jdk_52_method_21_code 13 = .ok (.istore 6, 2) := by decide +kernel
theorem d5_15 : decode jdk_52_method_21_code 15 = .ok (.iload 6, 2) := by decide +kernel
theorem d5_17 : decode jdk_52_method_21_code 17 = .ok (.sipush 255, 3) := by decide +kernel
theorem d5_20 : decode jdk_52_method_21_code 20 = .ok (.if_icmp .le 6, 3) := by decide +kernel
theorem d5_26 : decode jdk_52_method_21_code 26 = .ok (.aload_n 2, 1) := by decide +kernel
theorem d5_27 : decode jdk_52_method_21_code 27 = .ok (.iload_n 3, 1) := by decide +kernel
theorem d5_28 : decode jdk_52_method_21_code 28 = .ok (.iload 6, 2) := by decide +kernel
theorem d5_30 : decode jdk_52_method_21_code 30 = .ok (.i2b, 1) := by decide +kernel
theorem d5_31 : decode jdk_52_method_21_code 31 = .ok (.bastore, 1) := by decide +kernel
theorem d5_32 : decode jdk_52_method_21_code 32 = .ok (.iinc 1 1, 3) := by decide +kernel
theorem d5_35 : decode jdk_52_method_21_code 35 = .ok (.iinc 3 1, 3) := by decide +kernel
theorem d5_38 : decode jdk_52_method_21_code 38 = .ok (.iinc 5 1, 3) := by decide +kernel
theorem d5_41 : decode jdk_52_method_21_code 41 = .ok (.goto (-38), 3) := by decide +kernel
theorem pn_java_lang_StringUTF16 : plainName "java/lang/StringUTF16" = true := by first | (simp [plainName, overriddenIn]; done) | decide +kernel
set_option maxRecDepth 65536 in
set_option maxHeartbeats 40000000 in
theorem ctCi (l : Launch) (Z : State) (a0 : Array Value) (hw : ∀ d ∈ tables_1, d.before a0 Z = true) (ca b : Addr) (kca kb : ClassId) (cs : List Int32) (h0 : Heap) (n0 : Nat) (hcs : cs.length ≤ 4000) (hlat : ∀ c ∈ cs, ¬ ((255 : Int32) < c)) (Ca : Arv Z h0 ca kca .char (Int32.ofNat cs.length) (cs.map Value.int) (.int 0)) (Cb : Arv Z h0 b kb .byte (Int32.ofNat cs.length) ([] ++ List.replicate cs.length (.int 0)) (.int 0)) (hne : ca ≠ b) (hnb : n0 ≤ b) :
    CtN l Z (⟨"java/lang/StringUTF16", "compress", "([CI[BII)I"⟩ : MethodName) jdk_52_method_21_code 7 (some .int) ({ frames := 0, cells := 0, slots := 0, locals := 0 } : Room) n0 #[(.ref ca), (.int (0 : Int32)), (.ref b), (.int (0 : Int32)), (.int (Int32.ofNat cs.length))] h0 (fun v h => v = some (.int (Int32.ofNat cs.length)) ∧ Keep h0 h [b] ∧ Arv Z h b kb .byte (Int32.ofNat cs.length) ((cs.map (nar .byte)).map Value.int) (.int 0)) := by
  refine CtN.of (plainFor_of_name pn_java_lang_StringUTF16) ?_
  intro p e s m below meth c T0 W0 hnm
  refine Wp.cast (ef_5_RIRII m ca (0 : Int32) b (0 : Int32) (Int32.ofNat cs.length)) ?_
  have loop : ∀ (r i : Nat) (T : State) (h : Heap) (locs : List Loc) (s6 : Slot) (W : Wk p l e ({ frames := 0, cells := 0, slots := 0, locals := 0 } : Room) s s.vm m #[(.ref ca), (.int (0 : Int32)), (.ref b), (.int (0 : Int32)), (.int (Int32.ofNat cs.length))] below meth c Z "java/lang/StringUTF16" n0 jdk_52_method_21_code 7 (some .int) T h locs 0 0) (hi : i + r = cs.length) (K : Keep h0 h [b]) (V : Arv Z h b kb .byte (Int32.ofNat cs.length) (own_fill (fun j => Value.int (nar .byte (cs.getD j 0))) cs.length i) (.int 0)) (hs6 : s6 = .unset ∨ ∃ w : Int32, s6 = .val (.int w)), Wp p e below (PoN n0 s 0 0 (fun v h => v = some (.int (Int32.ofNat cs.length)) ∧ Keep h0 h [b] ∧ Arv Z h b kb .byte (Int32.ofNat cs.length) ((cs.map (nar .byte)).map Value.int) (.int 0))) T (mkF m 3 #[.val (.ref ca), .val (.int (Int32.ofNat i)), .val (.ref b), .val (.int (Int32.ofNat i)), .val (.int (Int32.ofNat cs.length)), .val (.int (Int32.ofNat i)), s6] []) := by
    intro r
    induction r with
    | zero =>
      intro i T h locs s6 W hi K V hs6
      have hi' : i = cs.length := by omega
      subst hi'
      refine w_iload W d5_3 rfl ?_
      refine w_iload W d5_5 rfl ?_
      refine w_icmpge W (pc' := 44) d5_7 (by decide) (fun c7 => ?_) (fun c7 => ?_)
      · refine w_iload W d5_44 rfl ?_
        exact n_rI W rfl d5_46 (by decide) (by decide) ⟨rfl, K, by rw [own_fill_full, own_range_map] at V; exact V⟩
      · exact absurd c7 (fun q => by rw [own_ltI (by omega) (by omega)] at q; omega)
    | succ r ih =>
      intro i T h locs s6 W hi K V hs6
      have hil : i < cs.length := by omega
      have hc : ¬ ((255 : Int32) < cs.getD i 0) := hlat _ (by rw [List.getD_eq_getElem?_getD, List.getElem?_eq_getElem hil]; exact List.getElem_mem hil)
      refine w_iload W d5_3 rfl ?_
      refine w_iload W d5_5 rfl ?_
      refine w_icmpge W (pc' := 44) d5_7 (by decide) (fun c7 => ?_) (fun c7 => ?_)
      · exact absurd ((own_ltI (by omega) (by omega)).mpr hil) c7
      · refine w_aloadN W d5_10 rfl rfl ?_
        refine w_iloadN W d5_11 rfl ?_
        refine w_caload W (Ca.keep K (ninS hne nin0)) ⟨own_nn0 (by omega), (own_ltI (by omega) (by omega)).mpr hil⟩ (v := (.int (cs.getD i 0))) (by rw [own_clamp (by omega)]; exact own_getMap cs hil _) d5_12 ?_
        refine w_istore W (L' := #[.val (.ref ca), .val (.int (Int32.ofNat i)), .val (.ref b), .val (.int (Int32.ofNat i)), .val (.int (Int32.ofNat cs.length)), .val (.int (Int32.ofNat i)), .val (.int (cs.getD i 0))]) d5_13 (by rcases hs6 with rfl | ⟨w, rfl⟩ <;> rfl) ?_
        refine w_iload W d5_15 rfl ?_
        refine w_sipush W (z := (255 : Int32)) d5_17 (by rfl) ?_
        refine w_icmple W (pc' := 26) d5_20 (by decide) (fun c20 => ?_) (fun c20 => ?_)
        · refine w_aloadN W d5_26 rfl rfl ?_
          refine w_iloadN W d5_27 rfl ?_
          refine w_iload W d5_28 rfl ?_
          refine w_i2b W d5_30 rfl ?_
          refine w_bastore W V ⟨own_nn0 (by omega), (own_ltI (by omega) (by omega)).mpr hil⟩ i (own_clamp (by omega)) (by rw [own_fill_len]; exact hil) (x' := (nar .byte (cs.getD i 0))) (own_narb _) hnb d5_31 ?_
          intro T1 h1 l1 W1 Wr1 V1
          rw [own_fill_set (fun j => Value.int (nar .byte (cs.getD j 0))) hil] at V1
          have K' := K.wr Wr1 (Or.inl (List.mem_cons_self ..))
          refine w_iinc W1 (L' := #[.val (.ref ca), .val (.int ((Int32.ofNat i) + (1 : Int32))), .val (.ref b), .val (.int (Int32.ofNat i)), .val (.int (Int32.ofNat cs.length)), .val (.int (Int32.ofNat i)), .val (.int (cs.getD i 0))]) d5_32 rfl (z := ((Int32.ofNat i) + (1 : Int32))) (by rfl) rfl ?_
          refine w_iinc W1 (L' := #[.val (.ref ca), .val (.int ((Int32.ofNat i) + (1 : Int32))), .val (.ref b), .val (.int ((Int32.ofNat i) + (1 : Int32))), .val (.int (Int32.ofNat cs.length)), .val (.int (Int32.ofNat i)), .val (.int (cs.getD i 0))]) d5_35 rfl (z := ((Int32.ofNat i) + (1 : Int32))) (by rfl) rfl ?_
          refine w_iinc W1 (L' := #[.val (.ref ca), .val (.int ((Int32.ofNat i) + (1 : Int32))), .val (.ref b), .val (.int ((Int32.ofNat i) + (1 : Int32))), .val (.int (Int32.ofNat cs.length)), .val (.int ((Int32.ofNat i) + (1 : Int32))), .val (.int (cs.getD i 0))]) d5_38 rfl (z := ((Int32.ofNat i) + (1 : Int32))) (by rfl) rfl ?_
          refine w_goto W1 (pc' := 3) d5_41 (by decide) ?_
          simp only [own_one]
          exact ih (i + 1) _ _ _ _ W1 (by omega) K' V1 (Or.inr ⟨_, rfl⟩)
        · exact absurd c20 hc
  refine w_iconst W0 (z := (0 : Int32)) d5_0 (by rfl) ?_
  refine w_istore W0 (L' := #[.val (.ref ca), .val (.int (0 : Int32)), .val (.ref b), .val (.int (0 : Int32)), .val (.int (Int32.ofNat cs.length)), .val (.int (0 : Int32)), .unset]) d5_1 rfl ?_
  exact loop cs.length 0 _ _ _ _ W0 (by omega) (Keep.refl _ _) (by rw [own_fill_zero]; exact Cb.pad (fun _ => rfl)) (Or.inl rfl)
theorem ef_4_RII (m : MethodId) (x0 : Addr) (x1 : Int32) (x2 : Int32) : entryFrame m #[(.ref x0), (.int x1), (.int x2)] 6 = mkF m 0 #[.val (.ref x0), .val (.int x1), .val (.int x2), .unset, .unset, .unset] [] := by first | (simp [entryFrame, mkF, argsToLocals, Value.category]; done) | rfl
theorem d4_0 : decode jdk_52_method_16_code 0 = .ok (.iload_n 2, 1) := by decide +kernel
theorem d4_1 : decode jdk_52_method_16_code 1 = .ok (.newarray .byte, 2) := by decide +kernel
theorem d4_3 : decode jdk_52_method_16_code 3 = .ok (.astore_n 3, 1) := by decide +kernel
theorem d4_4 : decode jdk_52_method_16_code 4 = .ok (.aload_n 0, 1) := by decide +kernel
theorem d4_5 : decode jdk_52_method_16_code 5 = .ok (.iload_n 1, 1) := by decide +kernel
theorem d4_6 : decode jdk_52_method_16_code 6 = .ok (.aload_n 3, 1) := by decide +kernel
theorem d4_7 : decode jdk_52_method_16_code 7 = .ok (.iconst 0, 1) := by decide +kernel
theorem d4_8 : decode jdk_52_method_16_code 8 = .ok (.iload_n 2, 1) := by decide +kernel
theorem d4_9 : decode jdk_52_method_16_code 9 = .ok (.invokestatic 115, 3) := by decide +kernel
theorem pd_0 : parseMethodDescriptor "([CI[BII)I" = some ⟨[(.array .char), .int, (.array .byte), .int, .int], some .int⟩ := by decide +kernel
theorem d4_12 : decode jdk_52_method_16_code 12 = .ok (.istore 4, 2) := by decide +kernel
theorem d4_14 : decode jdk_52_method_16_code 14 = .ok (.iload 4, 2) := by decide +kernel
theorem d4_16 : decode jdk_52_method_16_code 16 = .ok (.iload_n 2, 1) := by decide +kernel
theorem d4_17 : decode jdk_52_method_16_code 17 = .ok (.if_icmp .eq 40, 3) := by decide +kernel
theorem d4_57 : decode jdk_52_method_16_code 57 = .ok (.aload_n 3, 1) := by decide +kernel
theorem d4_58 : decode jdk_52_method_16_code 58 = .ok (.areturn, 1) := by decide +kernel
set_option maxRecDepth 65536 in
set_option maxHeartbeats 40000000 in
theorem ctCo (l : Launch) (Z : State) (a0 : Array Value) (hw : ∀ d ∈ tables_1, d.before a0 Z = true) (ca : Addr) (kca : ClassId) (cs : List Int32) (h0 : Heap) (n0 : Nat) (hn0 : n0 ≤ h0.size) (hcs : cs.length ≤ 31) (hlat : ∀ c ∈ cs, ¬ ((255 : Int32) < c)) (Ca : Arv Z h0 ca kca .char (Int32.ofNat cs.length) (cs.map Value.int) (.int 0)) :
    CtN l Z (⟨"java/lang/StringUTF16", "compress", "([CII)[B"⟩ : MethodName) jdk_52_method_16_code 6 (some (.array .byte)) ({ frames := 1, cells := 1, slots := 31, locals := 18 } : Room) n0 #[(.ref ca), (.int (0 : Int32)), (.int (Int32.ofNat cs.length))] h0 (fun v h => ∃ b kb, v = some (.ref b) ∧ Ext h0 h ∧ h0.size ≤ b ∧ Arv Z h b kb .byte (Int32.ofNat cs.length) ((cs.map (nar .byte)).map Value.int) (.int 0)) := by
  refine CtN.of (plainFor_of_name pn_java_lang_StringUTF16) ?_
  intro p e s m below meth c T0 W0 hnm
  refine Wp.cast (ef_4_RII m ca (0 : Int32) (Int32.ofNat cs.length)) ?_
  refine w_iloadN W0 d4_0 rfl ?_
  refine w_newarr W0 (ty := .byte) (dv := (.int 0)) (hw _ (List.mem_of_getElem? (i := 19) rfl)) rfl rfl d4_1 (own_nn0 (by omega)) 31 (by rw [own_clamp (by omega)]; exact hcs) (by decide) (by decide) (by decide) ?_
  intro T1 h1 b k1 W1 E1 g1 V1
  have hb0 : n0 ≤ b := by rw [g1]; exact hn0
  have hne : ca ≠ b := own_ltNe Ca.lt (Nat.le_of_eq g1.symm)
  have V' := V1.pad (pad_rep [] (.int 0) cs.length)
  refine w_astoreN W1 (L' := #[.val (.ref ca), .val (.int (0 : Int32)), .val (.int (Int32.ofNat cs.length)), .val (.ref b), .unset, .unset]) d4_3 rfl rfl ?_
  refine w_aloadN W1 d4_4 rfl rfl ?_
  refine w_iloadN W1 d4_5 rfl ?_
  refine w_aloadN W1 d4_6 rfl rfl ?_
  refine w_iconst W1 (z := (0 : Int32)) d4_7 (by rfl) ?_
  refine w_iloadN W1 d4_8 rfl ?_
  refine w_callS W1 (ctCi l Z a0 hw ca b _ _ cs _ n0 (by omega) hlat (Ca.ext E1) V' hne hb0) (hw _ (List.mem_of_getElem? (i := 20) rfl)) (hw _ (List.mem_of_getElem? (i := 21) rfl)) (hw _ (List.mem_of_getElem? (i := 17) rfl)) (hw _ (List.mem_of_getElem? (i := 22) rfl)) (by decide) 0 (by decide) (by decide) (by decide) (by decide) (argsL := [(.ref ca), (.int (0 : Int32)), (.ref b), (.int (0 : Int32)), (.int (Int32.ofNat cs.length))]) (rest := []) pd_0 rfl rfl rfl rfl rfl d4_9 ?_
  rintro T2 h2 l2 _ W2 ⟨rfl, K, V⟩
  refine w_istore W2 (L' := #[.val (.ref ca), .val (.int (0 : Int32)), .val (.int (Int32.ofNat cs.length)), .val (.ref b), .val (.int (Int32.ofNat cs.length)), .unset]) d4_12 rfl ?_
  refine w_iload W2 d4_14 rfl ?_
  refine w_iloadN W2 d4_16 rfl ?_
  refine w_icmpeq W2 (pc' := 57) d4_17 (by decide) (fun c17 => ?_) (fun c17 => ?_)
  · refine w_aloadN W2 d4_57 rfl rfl ?_
    exact n_rA W2 rfl rfl rfl d4_58 (by decide) (by decide) ⟨b, _, rfl, own_extKeep E1 K (allS (Nat.le_of_eq g1.symm) all0), Nat.le_of_eq g1.symm, V⟩
  · exact absurd rfl c17
theorem ef_6_RI (m : MethodId) (x0 : Addr) (x1 : Int32) : entryFrame m #[(.ref x0), (.int x1)] 2 = mkF m 0 #[.val (.ref x0), .val (.int x1)] [] := by first | (simp [entryFrame, mkF, argsToLocals, Value.category]; done) | rfl
theorem d6_0 : decode jdk_52_method_15_code 0 = .ok (.iload_n 1, 1) := by decide +kernel
theorem d6_1 : decode jdk_52_method_15_code 1 = .ok (.aload_n 0, 1) := by decide +kernel
theorem d6_2 : decode jdk_52_method_15_code 2 = .ok (.arraylength, 1) := by decide +kernel
theorem d6_3 : decode jdk_52_method_15_code 3 = .ok (.isub, 1) := by decide +kernel
theorem d6_4 : decode jdk_52_method_15_code 4 = .ok (.bipush 31, 2) := by decide +kernel
theorem d6_6 : decode jdk_52_method_15_code 6 = .ok (.iushr, 1) := by decide +kernel
theorem d6_7 : decode jdk_52_method_15_code 7 = .ok (.i2b, 1) := by decide +kernel
theorem d6_8 : decode jdk_52_method_15_code 8 = .ok (.ireturn, 1) := by decide +kernel
set_option maxRecDepth 65536 in
set_option maxHeartbeats 40000000 in
theorem ctCf (l : Launch) (Z : State) (a0 : Array Value) (hw : ∀ d ∈ tables_1, d.before a0 Z = true) (b : Addr) (kb : ClassId) (z : Int32) (us : List Value) (h0 : Heap) (n0 : Nat) (Cb : Arv Z h0 b kb .byte z us (.int 0)) :
    CtN l Z (⟨"java/lang/StringUTF16", "coderFromArrayLen", "([BI)B"⟩ : MethodName) jdk_52_method_15_code 2 (some .byte) ({ frames := 0, cells := 0, slots := 0, locals := 0 } : Room) n0 #[(.ref b), (.int z)] h0 (fun v h => v = some (.int 0) ∧ h0 = h) := by
  refine CtN.of (plainFor_of_name pn_java_lang_StringUTF16) ?_
  intro p e s m below meth c T0 W0 hnm
  refine Wp.cast (ef_6_RI m b z) ?_
  refine w_iloadN W0 d6_0 rfl ?_
  refine w_aloadN W0 d6_1 rfl rfl ?_
  refine w_arrlen W0 Cb d6_2 ?_
  refine w_isub W0 d6_3 rfl ?_
  refine w_bipush W0 (z := (31 : Int32)) d6_4 (by rfl) ?_
  refine w_iushr W0 d6_6 rfl ?_
  refine w_i2b W0 d6_7 rfl ?_
  exact n_rN W0 rfl (by simp) (z' := (0 : Int32)) (own_coder0 z) d6_8 (by decide) (by decide) ⟨rfl, rfl⟩
theorem ef_2_RRIIn (m : MethodId) (x0 : Addr) (x1 : Addr) (x2 : Int32) (x3 : Int32) : entryFrame m #[(.ref x0), (.ref x1), (.int x2), (.int x3), .null] 6 = mkF m 0 #[.val (.ref x0), .val (.ref x1), .val (.int x2), .val (.int x3), .val .null, .unset] [] := by first | (simp [entryFrame, mkF, argsToLocals, Value.category]; done) | rfl
theorem d2_0 : decode jdk_42_method_149_code 0 = .ok (.aload_n 0, 1) := by decide +kernel
theorem d2_1 : decode jdk_42_method_149_code 1 = .ok (.invokespecial 1, 3) := by decide +kernel
theorem d2_4 : decode jdk_42_method_149_code 4 = .ok (.iload_n 3, 1) := by decide +kernel
theorem d2_5 : decode jdk_42_method_149_code 5 = .ok (.ifCond .ne 22, 3) := by decide +kernel
theorem d2_27 : decode jdk_42_method_149_code 27 = .ok (.getstatic 38, 3) := by decide +kernel
theorem d2_30 : decode jdk_42_method_149_code 30 = .ok (.ifCond .eq 28, 3) := by decide +kernel
theorem d2_33 : decode jdk_42_method_149_code 33 = .ok (.aload_n 1, 1) := by decide +kernel
theorem d2_34 : decode jdk_42_method_149_code 34 = .ok (.iload_n 2, 1) := by decide +kernel
theorem d2_35 : decode jdk_42_method_149_code 35 = .ok (.iload_n 3, 1) := by decide +kernel
theorem d2_36 : decode jdk_42_method_149_code 36 = .ok (.invokestatic 177, 3) := by decide +kernel
theorem pd_1 : parseMethodDescriptor "([CII)[B" = some ⟨[(.array .char), .int, .int], some (.array .byte)⟩ := by decide +kernel
theorem d2_39 : decode jdk_42_method_149_code 39 = .ok (.astore 5, 2) := by decide +kernel
theorem d2_41 : decode jdk_42_method_149_code 41 = .ok (.aload_n 0, 1) := by decide +kernel
theorem d2_42 : decode jdk_42_method_149_code 42 = .ok (.aload 5, 2) := by decide +kernel
theorem d2_44 : decode jdk_42_method_149_code 44 = .ok (.iload_n 3, 1) := by decide +kernel
theorem d2_45 : decode jdk_42_method_149_code 45 = .ok (.invokestatic 47, 3) := by decide +kernel
theorem pd_2 : parseMethodDescriptor "([BI)B" = some ⟨[(.array .byte), .int], some .byte⟩ := by decide +kernel
theorem d2_48 : decode jdk_42_method_149_code 48 = .ok (.putfield 15, 3) := by decide +kernel
theorem d2_51 : decode jdk_42_method_149_code 51 = .ok (.aload_n 0, 1) := by decide +kernel
theorem d2_52 : decode jdk_42_method_149_code 52 = .ok (.aload 5, 2) := by decide +kernel
theorem d2_54 : decode jdk_42_method_149_code 54 = .ok (.putfield 9, 3) := by decide +kernel
theorem d2_57 : decode jdk_42_method_149_code 57 = .ok (.return_, 1) := by decide +kernel
theorem pn_java_lang_String : plainName "java/lang/String" = true := by first | (simp [plainName, overriddenIn]; done) | decide +kernel
set_option maxRecDepth 65536 in
set_option maxHeartbeats 40000000 in
theorem ctS4 (l : Launch) (Z : State) (a0 : Array Value) (hw : ∀ d ∈ tables_1, d.before a0 Z = true) (cz : Int32) (x ca : Addr) (kca : ClassId) (cs : List Int32) (h0 : Heap) (n0 : Nat) (hcs : cs.length ≤ 31) (hlat : ∀ c ∈ cs, ¬ ((255 : Int32) < c)) (hne : 0 < cs.length) (O : Old Z n0 h0) (G : Sta Z Z.heap "java/lang/String" "COMPACT_STRINGS" "Z" (.int cz)) (hcz : cz ≠ 0) (Ex : Exa Z h0 x "java/lang/String") (Fv : Fld Z h0 x "java/lang/String" "value" "[B" .null) (Fc : Fld Z h0 x "java/lang/String" "coder" "B" (.int 0)) (hnx : n0 ≤ x) (Ca : Arv Z h0 ca kca .char (Int32.ofNat cs.length) (cs.map Value.int) (.int 0)) :
    CtN l Z (⟨"java/lang/String", "<init>", "([CIILjava/lang/Void;)V"⟩ : MethodName) jdk_42_method_149_code 6 none ({ frames := 2, cells := 1, slots := 31, locals := 35 } : Room) n0 #[(.ref x), (.ref ca), (.int (0 : Int32)), (.int (Int32.ofNat cs.length)), .null] h0 (fun v h => v = none ∧ Keep h0 h [x] ∧ Str Z h x 0 (cs.map (nar .byte))) := by
  refine CtN.of (plainFor_of_name pn_java_lang_String) ?_
  intro p e s m below meth c T0 W0 hnm
  refine Wp.cast (ef_2_RRIIn m x ca (0 : Int32) (Int32.ofNat cs.length)) ?_
  refine w_aloadN W0 d2_0 rfl rfl ?_
  refine w_initO W0 (hw _ (List.mem_of_getElem? (i := 11) rfl)) (hw _ (List.mem_of_getElem? (i := 12) rfl)) (hw _ (List.mem_of_getElem? (i := 13) rfl)) 0 rfl rfl (by decide) (by decide) d2_1 ?_
  intro T1 W1
  refine w_iloadN W1 d2_4 rfl ?_
  refine w_ifne W1 (pc' := 27) d2_5 (by decide) (fun c5 => ?_) (fun c5 => ?_)
  · refine w_gets W1 (host := "") (Or.inl (hw _ (List.mem_of_getElem? (i := 14) rfl))) Via.refl (own_staOld O G) d2_27 ?_
    intro T2 W2
    refine w_ifeq W2 (pc' := 58) d2_30 (by decide) (fun c30 => ?_) (fun c30 => ?_)
    · exact absurd c30 hcz
    · refine w_aloadN W2 d2_33 rfl rfl ?_
      refine w_iloadN W2 d2_34 rfl ?_
      refine w_iloadN W2 d2_35 rfl ?_
      refine w_callS W2 (ctCo l Z a0 hw ca _ cs _ n0 (own_oldle O) (by omega) hlat Ca) (hw _ (List.mem_of_getElem? (i := 15) rfl)) (hw _ (List.mem_of_getElem? (i := 16) rfl)) (hw _ (List.mem_of_getElem? (i := 17) rfl)) (hw _ (List.mem_of_getElem? (i := 18) rfl)) (by decide) 0 (by decide) (by decide) (by decide) (by decide) (argsL := [(.ref ca), (.int (0 : Int32)), (.int (Int32.ofNat cs.length))]) (rest := []) pd_1 rfl rfl rfl rfl rfl d2_36 ?_
      rintro T3 h3 l3 _ W3 ⟨b, kb, rfl, E, hb, V⟩
      refine w_astore W3 (L' := #[.val (.ref x), .val (.ref ca), .val (.int (0 : Int32)), .val (.int (Int32.ofNat cs.length)), .val .null, .val (.ref b)]) d2_39 rfl rfl ?_
      refine w_aloadN W3 d2_41 rfl rfl ?_
      refine w_aload W3 d2_42 rfl rfl ?_
      refine w_iloadN W3 d2_44 rfl ?_
      refine w_callS W3 (ctCf l Z a0 hw b _ (Int32.ofNat cs.length) _ _ n0 V) (hw _ (List.mem_of_getElem? (i := 23) rfl)) (hw _ (List.mem_of_getElem? (i := 24) rfl)) (hw _ (List.mem_of_getElem? (i := 17) rfl)) (hw _ (List.mem_of_getElem? (i := 25) rfl)) (by decide) 1 (by decide) (by decide) (by decide) (by decide) (argsL := [(.ref b), (.int (Int32.ofNat cs.length))]) (rest := [(.ref x)]) pd_2 rfl rfl rfl rfl rfl d2_45 ?_
      rintro T4 h4 l4 _ W4 ⟨rfl, rfl⟩
      refine w_putf W4 (hw _ (List.mem_of_getElem? (i := 26) rfl)) Via.refl (Fc.ext E) (Ex.ext E) (Or.inr ⟨(hw _ (List.mem_of_getElem? (i := 27) rfl)), rfl, hnm⟩) (hw _ (List.mem_of_getElem? (i := 1) rfl)) (ty := .byte) (v' := (.int (0 : Int32))) (by decide) (by rfl) (by decide) hnx d2_48 ?_
      intro T5 h5 l5 W5 Wr5
      refine w_aloadN W5 d2_51 rfl rfl ?_
      refine w_aload W5 d2_52 rfl rfl ?_
      have Fv1 : Fld Z h5 x "java/lang/String" "value" "[B" .null := (Fv.ext E).other Wr5 (Or.inr (slot_ne (Or.inr (hw _ (List.mem_of_getElem? (i := 29) rfl))) (Or.inr (hw _ (List.mem_of_getElem? (i := 27) rfl))) (by decide) (t := (.array .byte)) (t' := .byte) (by decide) (by decide)))
      have Fc1 := (Fc.ext E).same Wr5
      have hxb : x < b := Nat.lt_of_lt_of_le Ex.lt hb
      have V1 := V.other Wr5 (Nat.ne_of_gt hxb)
      refine w_putf W5 (hw _ (List.mem_of_getElem? (i := 28) rfl)) Via.refl Fv1 ((Ex.ext E).wr Wr5) (Or.inr ⟨(hw _ (List.mem_of_getElem? (i := 29) rfl)), rfl, hnm⟩) (hw _ (List.mem_of_getElem? (i := 1) rfl)) (ty := (.array .byte)) (v' := (.ref b)) (by decide) (by rfl) (rfl) hnx d2_54 ?_
      intro T6 h6 l6 W6 Wr6
      have Kx : Keep h0 h6 [x] := ((own_keepOf E).wr Wr5 (Or.inl (List.mem_cons_self ..))).wr Wr6 (Or.inl (List.mem_cons_self ..))
      have Sx : Str Z h6 x 0 (cs.map (nar .byte)) := ⟨b, kb, (((Ex.ext E).wr Wr5).wr Wr6), Fc1.other Wr6 (Or.inr (slot_ne (Or.inr (hw _ (List.mem_of_getElem? (i := 27) rfl))) (Or.inr (hw _ (List.mem_of_getElem? (i := 29) rfl))) (by decide) (t := .byte) (t' := (.array .byte)) (by decide) (by decide))), Fv1.same Wr6, by rw [List.length_map]; exact V1.other Wr6 (Nat.ne_of_gt hxb)⟩
      exact n_rV W6 rfl d2_57 (by decide) (by decide) ⟨rfl, Kx, Sx⟩
  · exact absurd (((own_eqI (j := 0) (by omega) (by omega)).mp c5)) (by omega)
theorem ef_1_RR (m : MethodId) (x0 : Addr) (x1 : Addr) : entryFrame m #[(.ref x0), (.ref x1)] 2 = mkF m 0 #[.val (.ref x0), .val (.ref x1)] [] := by first | (simp [entryFrame, mkF, argsToLocals, Value.category]; done) | rfl
theorem d1_0 : decode jdk_42_method_3_code 0 = .ok (.aload_n 0, 1) := by decide +kernel
theorem d1_1 : decode jdk_42_method_3_code 1 = .ok (.aload_n 1, 1) := by decide +kernel
theorem d1_2 : decode jdk_42_method_3_code 2 = .ok (.iconst 0, 1) := by decide +kernel
theorem d1_3 : decode jdk_42_method_3_code 3 = .ok (.aload_n 1, 1) := by decide +kernel
theorem d1_4 : decode jdk_42_method_3_code 4 = .ok (.arraylength, 1) := by decide +kernel
theorem d1_5 : decode jdk_42_method_3_code 5 = .ok (.aconst_null, 1) := by decide +kernel
theorem d1_6 : decode jdk_42_method_3_code 6 = .ok (.invokespecial 27, 3) := by decide +kernel
theorem pd_3 : parseMethodDescriptor "([CIILjava/lang/Void;)V" = some ⟨[(.array .char), .int, .int, (.object "java/lang/Void")], none⟩ := by decide +kernel
theorem d1_9 : decode jdk_42_method_3_code 9 = .ok (.return_, 1) := by decide +kernel
set_option maxRecDepth 65536 in
set_option maxHeartbeats 40000000 in
theorem ctS1 (l : Launch) (Z : State) (a0 : Array Value) (hw : ∀ d ∈ tables_1, d.before a0 Z = true) (cz : Int32) (x ca : Addr) (kca : ClassId) (cs : List Int32) (h0 : Heap) (n0 : Nat) (hcs : cs.length ≤ 31) (hlat : ∀ c ∈ cs, ¬ ((255 : Int32) < c)) (hne : 0 < cs.length) (O : Old Z n0 h0) (G : Sta Z Z.heap "java/lang/String" "COMPACT_STRINGS" "Z" (.int cz)) (hcz : cz ≠ 0) (Ex : Exa Z h0 x "java/lang/String") (Fv : Fld Z h0 x "java/lang/String" "value" "[B" .null) (Fc : Fld Z h0 x "java/lang/String" "coder" "B" (.int 0)) (hnx : n0 ≤ x) (Ca : Arv Z h0 ca kca .char (Int32.ofNat cs.length) (cs.map Value.int) (.int 0)) :
    CtN l Z (⟨"java/lang/String", "<init>", "([C)V"⟩ : MethodName) jdk_42_method_3_code 2 none ({ frames := 3, cells := 1, slots := 31, locals := 52 } : Room) n0 #[(.ref x), (.ref ca)] h0 (fun v h => v = none ∧ Keep h0 h [x] ∧ Str Z h x 0 (cs.map (nar .byte))) := by
  refine CtN.of (plainFor_of_name pn_java_lang_String) ?_
  intro p e s m below meth c T0 W0 hnm
  refine Wp.cast (ef_1_RR m x ca) ?_
  refine w_aloadN W0 d1_0 rfl rfl ?_
  refine w_aloadN W0 d1_1 rfl rfl ?_
  refine w_iconst W0 (z := (0 : Int32)) d1_2 (by rfl) ?_
  refine w_aloadN W0 d1_3 rfl rfl ?_
  refine w_arrlen W0 Ca d1_4 ?_
  refine w_aconstNull W0 d1_5 ?_
  refine w_special W0 (ctS4 l Z a0 hw cz x ca _ cs _ n0 hcs hlat hne O G hcz Ex Fv Fc hnx Ca) rfl (hw _ (List.mem_of_getElem? (i := 7) rfl)) (hw _ (List.mem_of_getElem? (i := 8) rfl)) (hw _ (List.mem_of_getElem? (i := 2) rfl)) (hw _ (List.mem_of_getElem? (i := 10) rfl)) (by decide) 0 (by decide) (by decide) (by decide) (by decide) (a := x) (argsL := [(.ref ca), (.int (0 : Int32)), (.int (Int32.ofNat cs.length)), .null]) (rest := []) pd_3 rfl rfl rfl rfl rfl d1_6 ?_
  rintro T1 h1 l1 _ W1 ⟨rfl, Kx, Sx⟩
  exact n_rV W1 rfl d1_9 (by decide) (by decide) ⟨rfl, Kx, Sx⟩
theorem ef_43_RR (m : MethodId) (x0 : Addr) (x1 : Addr) : entryFrame m #[(.ref x0), (.ref x1)] 3 = mkF m 0 #[.val (.ref x0), .val (.ref x1), .unset] [] := by first | (simp [entryFrame, mkF, argsToLocals, Value.category]; done) | rfl
theorem d43_0 : decode jdk_43_method_13_code 0 = .ok (.aload_n 0, 1) := by decide +kernel
theorem d43_1 : decode jdk_43_method_13_code 1 = .ok (.arraylength, 1) := by decide +kernel
theorem d43_2 : decode jdk_43_method_13_code 2 = .ok (.aload_n 1, 1) := by decide +kernel
theorem d43_3 : decode jdk_43_method_13_code 3 = .ok (.arraylength, 1) := by decide +kernel
theorem d43_4 : decode jdk_43_method_13_code 4 = .ok (.if_icmp .ne 30, 3) := by decide +kernel
theorem d43_34 : decode jdk_43_method_13_code 34 = .ok (.iconst 0, 1) := by decide +kernel
theorem d43_35 : decode jdk_43_method_13_code 35 = .ok (.ireturn, 1) := by decide +kernel
theorem d43_9 : decode jdk_43_method_13_code 9 = .ok (.iload_n 2, 1) := by decide +kernel
theorem d43_10 : decode jdk_43_method_13_code 10 = .ok (.aload_n 0, 1) := by decide +kernel
theorem d43_11 : decode jdk_43_method_13_code 11 = .ok (.arraylength, 1) := by decide +kernel
theorem d43_12 : decode jdk_43_method_13_code 12 = .ok (.if_icmp .ge 20, 3) := by decide +kernel
theorem d43_32 : decode jdk_43_method_13_code 32 = .ok (.iconst 1, 1) := by decide +kernel
theorem d43_33 : decode jdk_43_method_13_code 33 = .ok (.ireturn, 1) := by decide +kernel
theorem d43_15 : decode jdk_43_method_13_code 15 = .ok (.aload_n 0, 1) := by decide +kernel
theorem d43_16 : decode jdk_43_method_13_code 16 = .ok (.iload_n 2, 1) := by decide +kernel
theorem d43_17 : decode jdk_43_method_13_code 17 = .ok (.baload, 1) := by decide +kernel
theorem d43_18 : decode jdk_43_method_13_code 18 = .ok (.aload_n 1, 1) := by decide +kernel
theorem d43_19 : decode jdk_43_method_13_code 19 = .ok (.iload_n 2, 1) := by decide +kernel
theorem d43_20 : decode jdk_43_method_13_code 20 = .ok (.baload, 1) := by decide +kernel
theorem d43_21 : decode jdk_43_method_13_code 21 = .ok (.if_icmp .eq 5, 3) := by decide +kernel
theorem d43_26 : decode jdk_43_method_13_code 26 = .ok (.iinc 2 1, 3) := by decide +kernel
theorem d43_29 : decode jdk_43_method_13_code 29 = .ok (.goto (-20), 3) := by decide +kernel
theorem d43_24 : decode jdk_43_method_13_code 24 = .ok (.iconst 0, 1) := by decide +kernel
theorem d43_25 : decode jdk_43_method_13_code 25 = .ok (.ireturn, 1) := by decide +kernel
theorem d43_7 : decode jdk_43_method_13_code 7 = .ok (.iconst 0, 1) := by decide +kernel
theorem d43_8 : decode jdk_43_method_13_code 8 = .ok (.istore_n 2, 1) := by decide +kernel
theorem pn_java_lang_StringLatin1 : plainName "java/lang/StringLatin1" = true := by first | (simp [plainName, overriddenIn]; done) | decide +kernel
set_option maxRecDepth 65536 in
set_option maxHeartbeats 40000000 in
theorem ctLe (l : Launch) (Z : State) (a0 : Array Value) (hw : ∀ d ∈ tables_1, d.before a0 Z = true) (b1 b2 : Addr) (k1 k2 : ClassId) (us ws : List Int32) (h0 : Heap) (n0 : Nat) (hu : us.length ≤ 4000) (hw2 : ws.length ≤ 4000) (A1 : Arv Z h0 b1 k1 .byte (Int32.ofNat us.length) (us.map Value.int) (.int 0)) (A2 : Arv Z h0 b2 k2 .byte (Int32.ofNat ws.length) (ws.map Value.int) (.int 0)) :
    CtN l Z (⟨"java/lang/StringLatin1", "equals", "([B[B)Z"⟩ : MethodName) jdk_43_method_13_code 3 (some .boolean) ({ frames := 0, cells := 0, slots := 0, locals := 0 } : Room) n0 #[(.ref b1), (.ref b2)] h0 (fun v h => v = some (.int (if us = ws then (1 : Int32) else 0)) ∧ h0 = h) := by
  refine CtN.of (plainFor_of_name pn_java_lang_StringLatin1) ?_
  intro p e s m below meth c T0 W0 hnm
  refine Wp.cast (ef_43_RR m b1 b2) ?_
  refine w_aloadN W0 d43_0 rfl rfl ?_
  refine w_arrlen W0 A1 d43_1 ?_
  refine w_aloadN W0 d43_2 rfl rfl ?_
  refine w_arrlen W0 A2 d43_3 ?_
  refine w_icmpne W0 (pc' := 34) d43_4 (by decide) (fun c4 => ?_) (fun c4 => ?_)
  · have hne : us ≠ ws := fun q => c4 (by rw [q])
    refine w_iconst W0 (z := (0 : Int32)) d43_34 (by rfl) ?_
    exact n_rN W0 rfl (by simp) (z' := (0 : Int32)) (by rfl) d43_35 (by decide) (by decide) ⟨by rw [if_neg hne], rfl⟩
  · have hl : us.length = ws.length := (own_eqI (by omega) (by omega)).mp c4
    have loop : ∀ (r i : Nat) (T : State) (locs : List Loc) (W : Wk p l e ({ frames := 0, cells := 0, slots := 0, locals := 0 } : Room) s s.vm m #[(.ref b1), (.ref b2)] below meth c Z "java/lang/StringLatin1" n0 jdk_43_method_13_code 3 (some .boolean) T h0 locs 0 0) (hi : i + r = us.length) (hp : us.take i = ws.take i), Wp p e below (PoN n0 s 0 0 (fun v h => v = some (.int (if us = ws then (1 : Int32) else 0)) ∧ h0 = h)) T (mkF m 9 #[.val (.ref b1), .val (.ref b2), .val (.int (Int32.ofNat i))] []) := by
      intro r
      induction r with
      | zero =>
        intro i T locs W hi hp
        have heq : us = ws := by rw [List.take_of_length_le (by omega), List.take_of_length_le (by omega)] at hp; exact hp
        refine w_iloadN W d43_9 rfl ?_
        refine w_aloadN W d43_10 rfl rfl ?_
        refine w_arrlen W A1 d43_11 ?_
        refine w_icmpge W (pc' := 32) d43_12 (by decide) (fun c12 => ?_) (fun c12 => ?_)
        · refine w_iconst W (z := (1 : Int32)) d43_32 (by rfl) ?_
          exact n_rN W rfl (by simp) (z' := (1 : Int32)) (by rfl) d43_33 (by decide) (by decide) ⟨by rw [if_pos heq], rfl⟩
        · exact absurd c12 (fun q => by rw [own_ltI (by omega) (by omega)] at q; omega)
      | succ r ih =>
        intro i T locs W hi hp
        have hil : i < us.length := by omega
        have hil2 : i < ws.length := by omega
        have hj : ¬ Int32.ofNat i < 0 ∧ Int32.ofNat i < (Int32.ofNat us.length) := ⟨own_nn0 (by omega), (own_ltI (by omega) (by omega)).mpr hil⟩
        have hj2 : ¬ Int32.ofNat i < 0 ∧ Int32.ofNat i < (Int32.ofNat ws.length) := ⟨own_nn0 (by omega), (own_ltI (by omega) (by omega)).mpr hil2⟩
        refine w_iloadN W d43_9 rfl ?_
        refine w_aloadN W d43_10 rfl rfl ?_
        refine w_arrlen W A1 d43_11 ?_
        refine w_icmpge W (pc' := 32) d43_12 (by decide) (fun c12 => ?_) (fun c12 => ?_)
        · exact absurd hj.2 c12
        · refine w_aloadN W d43_15 rfl rfl ?_
          refine w_iloadN W d43_16 rfl ?_
          refine w_baload W A1 hj (v := (.int (us.getD i 0))) (by rw [own_clamp (by omega)]; exact own_getMap us hil _) d43_17 ?_
          refine w_aloadN W d43_18 rfl rfl ?_
          refine w_iloadN W d43_19 rfl ?_
          refine w_baload W A2 hj2 (v := (.int (ws.getD i 0))) (by rw [own_clamp (by omega)]; exact own_getMap ws hil2 _) d43_20 ?_
          refine w_icmpeq W (pc' := 26) d43_21 (by decide) (fun c21 => ?_) (fun c21 => ?_)
          · refine w_iinc W (L' := #[.val (.ref b1), .val (.ref b2), .val (.int ((Int32.ofNat i) + (1 : Int32)))]) d43_26 rfl (z := ((Int32.ofNat i) + (1 : Int32))) (by rfl) rfl ?_
            refine w_goto W (pc' := 9) d43_29 (by decide) ?_
            simp only [own_one]
            exact ih (i + 1) _ _ W (by omega) (own_takeS hil hil2 hp c21)
          · have hne : us ≠ ws := fun q => c21 (by rw [q])
            refine w_iconst W (z := (0 : Int32)) d43_24 (by rfl) ?_
            exact n_rN W rfl (by simp) (z' := (0 : Int32)) (by rfl) d43_25 (by decide) (by decide) ⟨by rw [if_neg hne], rfl⟩
    refine w_iconst W0 (z := (0 : Int32)) d43_7 (by rfl) ?_
    refine w_istoreN W0 (L' := #[.val (.ref b1), .val (.ref b2), .val (.int (0 : Int32))]) d43_8 rfl ?_
    exact loop us.length 0 _ _ W0 (by omega) rfl
theorem ef_42_RR (m : MethodId) (x0 : Addr) (x1 : Addr) : entryFrame m #[(.ref x0), (.ref x1)] 3 = mkF m 0 #[.val (.ref x0), .val (.ref x1), .unset] [] := by first | (simp [entryFrame, mkF, argsToLocals, Value.category]; done) | rfl
theorem d42_0 : decode jdk_42_method_66_code 0 = .ok (.aload_n 0, 1) := by decide +kernel
theorem d42_1 : decode jdk_42_method_66_code 1 = .ok (.aload_n 1, 1) := by decide +kernel
theorem d42_2 : decode jdk_42_method_66_code 2 = .ok (.if_acmp .ne 5, 3) := by decide +kernel
theorem d42_5 : decode jdk_42_method_66_code 5 = .ok (.iconst 1, 1) := by decide +kernel
theorem d42_6 : decode jdk_42_method_66_code 6 = .ok (.ireturn, 1) := by decide +kernel
theorem d42_7 : decode jdk_42_method_66_code 7 = .ok (.aload_n 1, 1) := by decide +kernel
theorem d42_8 : decode jdk_42_method_66_code 8 = .ok (.instanceof 10, 3) := by decide +kernel
theorem d42_11 : decode jdk_42_method_66_code 11 = .ok (.ifCond .eq 43, 3) := by decide +kernel
theorem d42_14 : decode jdk_42_method_66_code 14 = .ok (.aload_n 1, 1) := by decide +kernel
theorem d42_15 : decode jdk_42_method_66_code 15 = .ok (.checkcast 10, 3) := by decide +kernel
theorem d42_18 : decode jdk_42_method_66_code 18 = .ok (.astore_n 2, 1) := by decide +kernel
theorem d42_19 : decode jdk_42_method_66_code 19 = .ok (.getstatic 38, 3) := by decide +kernel
theorem d42_22 : decode jdk_42_method_66_code 22 = .ok (.ifCond .eq 14, 3) := by decide +kernel
theorem d42_25 : decode jdk_42_method_66_code 25 = .ok (.aload_n 0, 1) := by decide +kernel
theorem d42_26 : decode jdk_42_method_66_code 26 = .ok (.getfield 15, 3) := by decide +kernel
theorem d42_29 : decode jdk_42_method_66_code 29 = .ok (.aload_n 2, 1) := by decide +kernel
theorem d42_30 : decode jdk_42_method_66_code 30 = .ok (.getfield 15, 3) := by decide +kernel
theorem d42_33 : decode jdk_42_method_66_code 33 = .ok (.if_icmp .ne 21, 3) := by decide +kernel
theorem d42_36 : decode jdk_42_method_66_code 36 = .ok (.aload_n 0, 1) := by decide +kernel
theorem d42_37 : decode jdk_42_method_66_code 37 = .ok (.getfield 9, 3) := by decide +kernel
theorem d42_40 : decode jdk_42_method_66_code 40 = .ok (.aload_n 2, 1) := by decide +kernel
theorem d42_41 : decode jdk_42_method_66_code 41 = .ok (.getfield 9, 3) := by decide +kernel
theorem d42_44 : decode jdk_42_method_66_code 44 = .ok (.invokestatic 541, 3) := by decide +kernel
theorem pd_4 : parseMethodDescriptor "([B[B)Z" = some ⟨[(.array .byte), (.array .byte)], some .boolean⟩ := by decide +kernel
theorem d42_47 : decode jdk_42_method_66_code 47 = .ok (.ifCond .eq 7, 3) := by decide +kernel
theorem d42_54 : decode jdk_42_method_66_code 54 = .ok (.iconst 0, 1) := by decide +kernel
theorem d42_55 : decode jdk_42_method_66_code 55 = .ok (.ireturn, 1) := by decide +kernel
theorem d42_50 : decode jdk_42_method_66_code 50 = .ok (.iconst 1, 1) := by decide +kernel
theorem d42_51 : decode jdk_42_method_66_code 51 = .ok (.goto 4, 3) := by decide +kernel
set_option maxRecDepth 65536 in
set_option maxHeartbeats 40000000 in
theorem ctSe (l : Launch) (Z : State) (a0 : Array Value) (hw : ∀ d ∈ tables_1, d.before a0 Z = true) (cz : Int32) (x y : Addr) (us ws : List Int32) (h0 : Heap) (n0 : Nat) (hu : us.length ≤ 4000) (hw2 : ws.length ≤ 4000) (O : Old Z n0 h0) (G : Sta Z Z.heap "java/lang/String" "COMPACT_STRINGS" "Z" (.int cz)) (hcz : cz ≠ 0) (S1 : Str Z h0 x 0 us) (S2 : Str Z h0 y 0 ws) :
    CtN l Z (⟨"java/lang/String", "equals", "(Ljava/lang/Object;)Z"⟩ : MethodName) jdk_42_method_66_code 3 (some .boolean) ({ frames := 1, cells := 0, slots := 0, locals := 14 } : Room) n0 #[(.ref x), (.ref y)] h0 (fun v h => v = some (.int (if us = ws then (1 : Int32) else 0)) ∧ h0 = h) := by
  refine CtN.of (plainFor_of_name pn_java_lang_String) ?_
  intro p e s m below meth c T0 W0 hnm
  refine Wp.cast (ef_42_RR m x y) ?_
  obtain ⟨b1, k1, E1, C1, V1, A1⟩ := id S1
  obtain ⟨b2, k2, E2, C2, V2, A2⟩ := id S2
  refine w_aloadN W0 d42_0 rfl rfl ?_
  refine w_aloadN W0 d42_1 rfl rfl ?_
  by_cases hxy : x = y
  · have heq : us = ws := by subst hxy; exact Str.uniq (by omega) (by omega) S1 S2
    refine w_acmp W0 (pc' := 5) true rfl rfl d42_2 (decide_eq_true (congrArg Value.ref hxy)) (by decide) (by rfl) ?_
    refine w_iconst W0 (z := (1 : Int32)) d42_5 (by rfl) ?_
    exact n_rN W0 rfl (by simp) (z' := (1 : Int32)) (by rfl) d42_6 (by decide) (by decide) ⟨by rw [if_pos heq], rfl⟩
  · refine w_acmp W0 (pc' := 7) false rfl rfl d42_2 (decide_eq_false fun q => hxy (Value.ref.inj q)) (by decide) (by rfl) ?_
    refine w_aloadN W0 d42_7 rfl rfl ?_
    refine w_instY W0 (hw _ (List.mem_of_getElem? (i := 37) rfl)) (Ins.self E2) d42_8 ?_
    intro T1 W1
    refine w_ifeq W1 (pc' := 54) d42_11 (by decide) (fun c11 => absurd c11 (by decide)) (fun c11 => ?_)
    refine w_aloadN W1 d42_14 rfl rfl ?_
    refine w_cast W1 (hw _ (List.mem_of_getElem? (i := 37) rfl)) (Ins.self E2) d42_15 ?_
    intro T2 W2
    refine w_astoreN W2 (L' := #[.val (.ref x), .val (.ref y), .val (.ref y)]) d42_18 rfl rfl ?_
    refine w_gets W2 (host := "") (Or.inl (hw _ (List.mem_of_getElem? (i := 14) rfl))) Via.refl (own_staOld O G) d42_19 ?_
    intro T3 W3
    refine w_ifeq W3 (pc' := 36) d42_22 (by decide) (fun c22 => ?_) (fun c22 => ?_)
    · exact absurd c22 hcz
    · refine w_aloadN W3 d42_25 rfl rfl ?_
      refine w_getf W3 (host := "") (Or.inl (hw _ (List.mem_of_getElem? (i := 26) rfl))) Via.refl C1 d42_26 ?_
      intro T4 W4
      refine w_aloadN W4 d42_29 rfl rfl ?_
      refine w_getf W4 (host := "") (Or.inl (hw _ (List.mem_of_getElem? (i := 26) rfl))) Via.refl C2 d42_30 ?_
      intro T5 W5
      refine w_icmpne W5 (pc' := 54) d42_33 (by decide) (fun c33 => absurd c33 (by decide)) (fun c33 => ?_)
      refine w_aloadN W5 d42_36 rfl rfl ?_
      refine w_getf W5 (host := "") (Or.inl (hw _ (List.mem_of_getElem? (i := 28) rfl))) Via.refl V1 d42_37 ?_
      intro T6 W6
      refine w_aloadN W6 d42_40 rfl rfl ?_
      refine w_getf W6 (host := "") (Or.inl (hw _ (List.mem_of_getElem? (i := 28) rfl))) Via.refl V2 d42_41 ?_
      intro T7 W7
      refine w_callS W7 (ctLe l Z a0 hw b1 b2 _ _ us ws _ n0 hu hw2 A1 A2) (hw _ (List.mem_of_getElem? (i := 217) rfl)) (hw _ (List.mem_of_getElem? (i := 218) rfl)) (hw _ (List.mem_of_getElem? (i := 35) rfl)) (hw _ (List.mem_of_getElem? (i := 219) rfl)) (by decide) 0 (by decide) (by decide) (by decide) (by decide) (argsL := [(.ref b1), (.ref b2)]) (rest := []) pd_4 rfl rfl rfl rfl rfl d42_44 ?_
      rintro T8 h8 l8 _ W8 ⟨rfl, rfl⟩
      refine w_ifeq W8 (pc' := 54) d42_47 (by decide) (fun c47 => ?_) (fun c47 => ?_)
      · refine w_iconst W8 (z := (0 : Int32)) d42_54 (by rfl) ?_
        exact n_rN W8 rfl (by simp) (z' := (0 : Int32)) (by rfl) d42_55 (by decide) (by decide) ⟨own_ite0 c47, rfl⟩
      · refine w_iconst W8 (z := (1 : Int32)) d42_50 (by rfl) ?_
        refine w_goto W8 (pc' := 55) d42_51 (by decide) ?_
        exact n_rN W8 rfl (by simp) (z' := (1 : Int32)) (by rfl) d42_55 (by decide) (by decide) ⟨own_ite1 c47, rfl⟩
theorem ef_21_R (m : MethodId) (x0 : Addr) : entryFrame m #[(.ref x0)] 1 = mkF m 0 #[.val (.ref x0)] [] := by first | (simp [entryFrame, mkF, argsToLocals, Value.category]; done) | rfl
theorem d21_0 : decode jdk_42_method_152_code 0 = .ok (.getstatic 38, 3) := by decide +kernel
theorem d21_3 : decode jdk_42_method_152_code 3 = .ok (.ifCond .eq 10, 3) := by decide +kernel
theorem d21_6 : decode jdk_42_method_152_code 6 = .ok (.aload_n 0, 1) := by decide +kernel
theorem d21_7 : decode jdk_42_method_152_code 7 = .ok (.getfield 15, 3) := by decide +kernel
theorem d21_10 : decode jdk_42_method_152_code 10 = .ok (.goto 4, 3) := by decide +kernel
theorem d21_14 : decode jdk_42_method_152_code 14 = .ok (.ireturn, 1) := by decide +kernel
set_option maxRecDepth 65536 in
set_option maxHeartbeats 40000000 in
theorem ctCd (l : Launch) (Z : State) (a0 : Array Value) (hw : ∀ d ∈ tables_1, d.before a0 Z = true) (cz : Int32) (x : Addr) (us : List Int32) (h0 : Heap) (n0 : Nat) (O : Old Z n0 h0) (G : Sta Z Z.heap "java/lang/String" "COMPACT_STRINGS" "Z" (.int cz)) (hcz : cz ≠ 0) (S : Str Z h0 x 0 us) :
    CtN l Z (⟨"java/lang/String", "coder", "()B"⟩ : MethodName) jdk_42_method_152_code 1 (some .byte) ({ frames := 0, cells := 0, slots := 0, locals := 0 } : Room) n0 #[(.ref x)] h0 (fun v h => v = some (.int 0) ∧ h0 = h) := by
  refine CtN.of (plainFor_of_name pn_java_lang_String) ?_
  intro p e s m below meth c T0 W0 hnm
  refine Wp.cast (ef_21_R m x) ?_
  obtain ⟨b, kb, Ex, Cf, Vf, Ar⟩ := id S
  refine w_gets W0 (host := "") (Or.inl (hw _ (List.mem_of_getElem? (i := 14) rfl))) Via.refl (own_staOld O G) d21_0 ?_
  intro T1 W1
  refine w_ifeq W1 (pc' := 13) d21_3 (by decide) (fun c3 => ?_) (fun c3 => ?_)
  · exact absurd c3 hcz
  · refine w_aloadN W1 d21_6 rfl rfl ?_
    refine w_getf W1 (host := "") (Or.inl (hw _ (List.mem_of_getElem? (i := 26) rfl))) Via.refl Cf d21_7 ?_
    intro T2 W2
    refine w_goto W2 (pc' := 14) d21_10 (by decide) ?_
    exact n_rN W2 rfl (by simp) (z' := (0 : Int32)) (by rfl) d21_14 (by decide) (by decide) ⟨rfl, rfl⟩
theorem ef_20_R (m : MethodId) (x0 : Addr) : entryFrame m #[(.ref x0)] 1 = mkF m 0 #[.val (.ref x0)] [] := by first | (simp [entryFrame, mkF, argsToLocals, Value.category]; done) | rfl
theorem d20_0 : decode jdk_42_method_54_code 0 = .ok (.aload_n 0, 1) := by decide +kernel
theorem d20_1 : decode jdk_42_method_54_code 1 = .ok (.getfield 9, 3) := by decide +kernel
theorem d20_4 : decode jdk_42_method_54_code 4 = .ok (.arraylength, 1) := by decide +kernel
theorem d20_5 : decode jdk_42_method_54_code 5 = .ok (.aload_n 0, 1) := by decide +kernel
theorem d20_6 : decode jdk_42_method_54_code 6 = .ok (.invokevirtual 335, 3) := by decide +kernel
theorem pd_5 : parseMethodDescriptor "()B" = some ⟨[], some .byte⟩ := by decide +kernel
theorem d20_9 : decode jdk_42_method_54_code 9 = .ok (.ishr, 1) := by decide +kernel
theorem d20_10 : decode jdk_42_method_54_code 10 = .ok (.ireturn, 1) := by decide +kernel
set_option maxRecDepth 65536 in
set_option maxHeartbeats 40000000 in
theorem ctLn (l : Launch) (Z : State) (a0 : Array Value) (hw : ∀ d ∈ tables_1, d.before a0 Z = true) (cz : Int32) (x : Addr) (us : List Int32) (h0 : Heap) (n0 : Nat) (O : Old Z n0 h0) (G : Sta Z Z.heap "java/lang/String" "COMPACT_STRINGS" "Z" (.int cz)) (hcz : cz ≠ 0) (S : Str Z h0 x 0 us) :
    CtN l Z (⟨"java/lang/String", "length", "()I"⟩ : MethodName) jdk_42_method_54_code 1 (some .int) ({ frames := 1, cells := 0, slots := 0, locals := 13 } : Room) n0 #[(.ref x)] h0 (fun v h => v = some (.int (Int32.ofNat us.length)) ∧ h0 = h) := by
  refine CtN.of (plainFor_of_name pn_java_lang_String) ?_
  intro p e s m below meth c T0 W0 hnm
  refine Wp.cast (ef_20_R m x) ?_
  obtain ⟨b, kb, Ex, Cf, Vf, Ar⟩ := id S
  refine w_aloadN W0 d20_0 rfl rfl ?_
  refine w_getf W0 (host := "") (Or.inl (hw _ (List.mem_of_getElem? (i := 28) rfl))) Via.refl Vf d20_1 ?_
  intro T1 W1
  refine w_arrlen W1 Ar d20_4 ?_
  refine w_aloadN W1 d20_5 rfl rfl ?_
  refine w_virt W1 (ctCd l Z a0 hw cz x us _ n0 O G hcz S) (hw _ (List.mem_of_getElem? (i := 109) rfl)) (hw _ (List.mem_of_getElem? (i := 110) rfl)) (notFace_of_selects (args := #[]) (mvT W1.wZ (hw _ (List.mem_of_getElem? (i := 112) rfl)))) (hw _ (List.mem_of_getElem? (i := 112) rfl)) (hw _ (List.mem_of_getElem? (i := 111) rfl)) (hw _ (List.mem_of_getElem? (i := 2) rfl)) (hw _ (List.mem_of_getElem? (i := 113) rfl)) (by decide) 1 (by decide) (by decide) (by decide) (by decide) (a := x) Ex (argsL := []) (rest := [(.int (Int32.ofNat us.length))]) pd_5 rfl rfl rfl rfl rfl d20_6 ?_
  rintro T2 h2 l2 _ W2 ⟨rfl, rfl⟩
  refine w_ishr W2 d20_9 (own_shr0 _) ?_
  exact n_rI W2 rfl d20_10 (by decide) (by decide) ⟨rfl, rfl⟩
theorem ef_31_II (m : MethodId) (x0 : Int32) (x1 : Int32) : entryFrame m #[(.int x0), (.int x1)] 2 = mkF m 0 #[.val (.int x0), .val (.int x1)] [] := by first | (simp [entryFrame, mkF, argsToLocals, Value.category]; done) | rfl
theorem d31_0 : decode jdk_29_method_65_code 0 = .ok (.iload_n 0, 1) := by decide +kernel
theorem d31_1 : decode jdk_29_method_65_code 1 = .ok (.iload_n 1, 1) := by decide +kernel
theorem d31_2 : decode jdk_29_method_65_code 2 = .ok (.if_icmp .lt 7, 3) := by decide +kernel
theorem d31_9 : decode jdk_29_method_65_code 9 = .ok (.iload_n 1, 1) := by decide +kernel
theorem d31_10 : decode jdk_29_method_65_code 10 = .ok (.ireturn, 1) := by decide +kernel
theorem d31_5 : decode jdk_29_method_65_code 5 = .ok (.iload_n 0, 1) := by decide +kernel
theorem d31_6 : decode jdk_29_method_65_code 6 = .ok (.goto 4, 3) := by decide +kernel
set_option maxRecDepth 65536 in
set_option maxHeartbeats 40000000 in
theorem ctMx (l : Launch) (Z : State) (a0 : Array Value) (hw : ∀ d ∈ tables_1, d.before a0 Z = true) (n k : Nat) (h0 : Heap) (n0 : Nat) (hn : n ≤ 8000) (hk : k ≤ 8000) :
    CtN l Z (⟨"java/lang/Math", "max", "(II)I"⟩ : MethodName) jdk_29_method_65_code 2 (some .int) ({ frames := 0, cells := 0, slots := 0, locals := 0 } : Room) n0 #[(.int (Int32.ofNat n)), (.int (Int32.ofNat k))] h0 (fun v h => v = some (.int (Int32.ofNat (max n k))) ∧ h0 = h) := by
  refine CtN.of (Jvm.Free.JP.mathPlain rfl (by decide +kernel)) ?_
  intro p e s m below meth c T0 W0 hnm
  refine Wp.cast (ef_31_II m (Int32.ofNat n) (Int32.ofNat k)) ?_
  refine w_iloadN W0 d31_0 rfl ?_
  refine w_iloadN W0 d31_1 rfl ?_
  refine w_icmplt W0 (pc' := 9) d31_2 (by decide) (fun c2 => ?_) (fun c2 => ?_)
  · refine w_iloadN W0 d31_9 rfl ?_
    exact n_rI W0 rfl d31_10 (by decide) (by decide) ⟨own_maxI hn hk c2, rfl⟩
  · refine w_iloadN W0 d31_5 rfl ?_
    refine w_goto W0 (pc' := 10) d31_6 (by decide) ?_
    exact n_rI W0 rfl d31_10 (by decide) (by decide) ⟨own_maxJ hn hk c2, rfl⟩
theorem ef_33_II (m : MethodId) (x0 : Int32) (x1 : Int32) : entryFrame m #[(.int x0), (.int x1)] 2 = mkF m 0 #[.val (.int x0), .val (.int x1)] [] := by first | (simp [entryFrame, mkF, argsToLocals, Value.category]; done) | rfl
theorem d33_0 : decode jdk_29_method_69_code 0 = .ok (.iload_n 0, 1) := by decide +kernel
theorem d33_1 : decode jdk_29_method_69_code 1 = .ok (.iload_n 1, 1) := by decide +kernel
theorem d33_2 : decode jdk_29_method_69_code 2 = .ok (.if_icmp .gt 7, 3) := by decide +kernel
theorem d33_9 : decode jdk_29_method_69_code 9 = .ok (.iload_n 1, 1) := by decide +kernel
theorem d33_10 : decode jdk_29_method_69_code 10 = .ok (.ireturn, 1) := by decide +kernel
theorem d33_5 : decode jdk_29_method_69_code 5 = .ok (.iload_n 0, 1) := by decide +kernel
theorem d33_6 : decode jdk_29_method_69_code 6 = .ok (.goto 4, 3) := by decide +kernel
set_option maxRecDepth 65536 in
set_option maxHeartbeats 40000000 in
theorem ctMn (l : Launch) (Z : State) (a0 : Array Value) (hw : ∀ d ∈ tables_1, d.before a0 Z = true) (n k : Nat) (h0 : Heap) (n0 : Nat) (hn : n ≤ 8000) (hk : k ≤ 8000) :
    CtN l Z (⟨"java/lang/Math", "min", "(II)I"⟩ : MethodName) jdk_29_method_69_code 2 (some .int) ({ frames := 0, cells := 0, slots := 0, locals := 0 } : Room) n0 #[(.int (Int32.ofNat n)), (.int (Int32.ofNat k))] h0 (fun v h => v = some (.int (Int32.ofNat (min n k))) ∧ h0 = h) := by
  refine CtN.of (Jvm.Free.JP.mathPlain rfl (by decide +kernel)) ?_
  intro p e s m below meth c T0 W0 hnm
  refine Wp.cast (ef_33_II m (Int32.ofNat n) (Int32.ofNat k)) ?_
  refine w_iloadN W0 d33_0 rfl ?_
  refine w_iloadN W0 d33_1 rfl ?_
  refine w_icmpgt W0 (pc' := 9) d33_2 (by decide) (fun c2 => ?_) (fun c2 => ?_)
  · refine w_iloadN W0 d33_9 rfl ?_
    exact n_rI W0 rfl d33_10 (by decide) (by decide) ⟨own_minI hn hk c2, rfl⟩
  · refine w_iloadN W0 d33_5 rfl ?_
    refine w_goto W0 (pc' := 10) d33_6 (by decide) ?_
    exact n_rI W0 rfl d33_10 (by decide) (by decide) ⟨own_minJ hn hk c2, rfl⟩
theorem own_lt2 {a b : Int32} : a < b ↔ a.toInt < b.toInt := Int32.lt_iff_toInt_lt
theorem ef_30_III (m : MethodId) (x0 : Int32) (x1 : Int32) (x2 : Int32) : entryFrame m #[(.int x0), (.int x1), (.int x2)] 4 = mkF m 0 #[.val (.int x0), .val (.int x1), .val (.int x2), .unset] [] := by first | (simp [entryFrame, mkF, argsToLocals, Value.category]; done) | rfl
theorem d30_0 : decode jdk_48_method_27_code 0 = .ok (.iload_n 0, 1) := by decide +kernel
theorem d30_1 : decode jdk_48_method_27_code 1 = .ok (.iload_n 1, 1) := by decide +kernel
theorem d30_2 : decode jdk_48_method_27_code 2 = .ok (.iload_n 2, 1) := by decide +kernel
theorem d30_3 : decode jdk_48_method_27_code 3 = .ok (.invokestatic 194, 3) := by decide +kernel
theorem pd_6 : parseMethodDescriptor "(II)I" = some ⟨[.int, .int], some .int⟩ := by decide +kernel
theorem d30_6 : decode jdk_48_method_27_code 6 = .ok (.iadd, 1) := by decide +kernel
theorem d30_7 : decode jdk_48_method_27_code 7 = .ok (.istore_n 3, 1) := by decide +kernel
theorem d30_8 : decode jdk_48_method_27_code 8 = .ok (.iconst 0, 1) := by decide +kernel
theorem d30_9 : decode jdk_48_method_27_code 9 = .ok (.iload_n 3, 1) := by decide +kernel
theorem d30_10 : decode jdk_48_method_27_code 10 = .ok (.if_icmp .ge 11, 3) := by decide +kernel
theorem d30_13 : decode jdk_48_method_27_code 13 = .ok (.iload_n 3, 1) := by decide +kernel
theorem d30_14 : decode jdk_48_method_27_code 14 = .ok (.ldc 200, 2) := by decide +kernel
theorem d30_16 : decode jdk_48_method_27_code 16 = .ok (.if_icmp .gt 5, 3) := by decide +kernel
theorem d30_19 : decode jdk_48_method_27_code 19 = .ok (.iload_n 3, 1) := by decide +kernel
theorem d30_20 : decode jdk_48_method_27_code 20 = .ok (.ireturn, 1) := by decide +kernel
theorem pn_jdk_internal_util_ArraysSupport : plainName "jdk/internal/util/ArraysSupport" = true := by first | (simp [plainName, overriddenIn]; done) | decide +kernel
set_option maxRecDepth 65536 in
set_option maxHeartbeats 40000000 in
theorem ctNw (l : Launch) (Z : State) (a0 : Array Value) (hw : ∀ d ∈ tables_1, d.before a0 Z = true) (o n k : Nat) (h0 : Heap) (n0 : Nat) (ho : o ≤ 8000) (hn : n ≤ 8000) (hk : k ≤ 8000) (hp : 0 < o + max n k) :
    CtN l Z (⟨"jdk/internal/util/ArraysSupport", "newLength", "(III)I"⟩ : MethodName) jdk_48_method_27_code 4 (some .int) ({ frames := 1, cells := 0, slots := 0, locals := 14 } : Room) n0 #[(.int (Int32.ofNat o)), (.int (Int32.ofNat n)), (.int (Int32.ofNat k))] h0 (fun v h => v = some (.int (Int32.ofNat (o + max n k))) ∧ h0 = h) := by
  refine CtN.of (plainFor_of_name pn_jdk_internal_util_ArraysSupport) ?_
  intro p e s m below meth c T0 W0 hnm
  refine Wp.cast (ef_30_III m (Int32.ofNat o) (Int32.ofNat n) (Int32.ofNat k)) ?_
  refine w_iloadN W0 d30_0 rfl ?_
  refine w_iloadN W0 d30_1 rfl ?_
  refine w_iloadN W0 d30_2 rfl ?_
  refine w_callS W0 (ctMx l Z a0 hw n k _ n0 (by omega) (by omega)) (hw _ (List.mem_of_getElem? (i := 164) rfl)) (hw _ (List.mem_of_getElem? (i := 165) rfl)) (hw _ (List.mem_of_getElem? (i := 166) rfl)) (hw _ (List.mem_of_getElem? (i := 167) rfl)) (by decide) 1 (by decide) (by decide) (by decide) (by decide) (argsL := [(.int (Int32.ofNat n)), (.int (Int32.ofNat k))]) (rest := [(.int (Int32.ofNat o))]) pd_6 rfl rfl rfl rfl rfl d30_3 ?_
  rintro T1 h1 l1 _ W1 ⟨rfl, rfl⟩
  refine w_iadd W1 d30_6 own_addN ?_
  refine w_istoreN W1 (L' := #[.val (.int (Int32.ofNat o)), .val (.int (Int32.ofNat n)), .val (.int (Int32.ofNat k)), .val (.int (Int32.ofNat (o + max n k)))]) d30_7 rfl ?_
  refine w_iconst W1 (z := (0 : Int32)) d30_8 (by rfl) ?_
  refine w_iloadN W1 d30_9 rfl ?_
  refine w_icmpge W1 (pc' := 21) d30_10 (by decide) (fun c10 => ?_) (fun c10 => ?_)
  · exact absurd (own_pos (by omega) (by omega)) c10
  · refine w_iloadN W1 d30_13 rfl ?_
    refine w_ldcI W1 (hw _ (List.mem_of_getElem? (i := 168) rfl)) d30_14 ?_
    refine w_icmpgt W1 (pc' := 21) d30_16 (by decide) (fun c16 => ?_) (fun c16 => ?_)
    · exact absurd c16 (fun q => by rw [own_lt2, own_ti (by omega)] at q; have e : (2147483639 : Int32).toInt = 2147483639 := rfl; rw [e] at q; omega)
    · refine w_iloadN W1 d30_19 rfl ?_
      exact n_rI W1 rfl d30_20 (by decide) (by decide) ⟨rfl, rfl⟩
theorem ef_28_R (m : MethodId) (x0 : Addr) : entryFrame m #[(.ref x0)] 1 = mkF m 0 #[.val (.ref x0)] [] := by first | (simp [entryFrame, mkF, argsToLocals, Value.category]; done) | rfl
theorem d28_0 : decode jdk_68_method_68_code 0 = .ok (.getstatic 18, 3) := by decide +kernel
theorem d28_3 : decode jdk_68_method_68_code 3 = .ok (.ifCond .eq 14, 3) := by decide +kernel
theorem d28_6 : decode jdk_68_method_68_code 6 = .ok (.aload_n 0, 1) := by decide +kernel
theorem d28_7 : decode jdk_68_method_68_code 7 = .ok (.getfield 22, 3) := by decide +kernel
theorem d28_10 : decode jdk_68_method_68_code 10 = .ok (.ifCond .ne 7, 3) := by decide +kernel
theorem d28_13 : decode jdk_68_method_68_code 13 = .ok (.iconst 1, 1) := by decide +kernel
theorem d28_14 : decode jdk_68_method_68_code 14 = .ok (.goto 4, 3) := by decide +kernel
theorem d28_18 : decode jdk_68_method_68_code 18 = .ok (.ireturn, 1) := by decide +kernel
theorem pn_java_lang_AbstractStringBuilder : plainName "java/lang/AbstractStringBuilder" = true := by first | (simp [plainName, overriddenIn]; done) | decide +kernel
set_option maxRecDepth 65536 in
set_option maxHeartbeats 40000000 in
theorem ctAl1 (l : Launch) (Z : State) (a0 : Array Value) (hw : ∀ d ∈ tables_1, d.before a0 Z = true) (cz : Int32) (n1 : Nat) (x b : Addr) (cap : Nat) (bs : List Int32) (h0 : Heap) (n0 : Nat) (O : Old Z n0 h0) (G : Sta Z Z.heap "java/lang/String" "COMPACT_STRINGS" "Z" (.int cz)) (hcz : cz ≠ 0) (F : SB Z n1 h0 x b cap bs) :
    CtN l Z (⟨"java/lang/AbstractStringBuilder", "isLatin1", "()Z"⟩ : MethodName) jdk_68_method_68_code 1 (some .boolean) ({ frames := 0, cells := 0, slots := 0, locals := 0 } : Room) n0 #[(.ref x)] h0 (fun v h => v = some (.int 1) ∧ h0 = h) := by
  refine CtN.of (plainFor_of_name pn_java_lang_AbstractStringBuilder) ?_
  intro p e s m below meth c T0 W0 hnm
  refine Wp.cast (ef_28_R m x) ?_
  obtain ⟨Ex, Fc, Fn, Fv, hnx, hnb, hle, hcap, kb, Cb⟩ := id F
  refine w_gets W0 (host := "") (Or.inl (hw _ (List.mem_of_getElem? (i := 64) rfl))) Via.refl (own_staOld O G) d28_0 ?_
  intro T1 W1
  refine w_ifeq W1 (pc' := 17) d28_3 (by decide) (fun c3 => ?_) (fun c3 => ?_)
  · exact absurd c3 hcz
  · refine w_aloadN W1 d28_6 rfl rfl ?_
    refine w_getf W1 (host := "") (Or.inl (hw _ (List.mem_of_getElem? (i := 67) rfl))) Via.refl Fc d28_7 ?_
    intro T2 W2
    refine w_ifne W2 (pc' := 17) d28_10 (by decide) (fun c10 => absurd c10 (by decide)) (fun c10 => ?_)
    refine w_iconst W2 (z := (1 : Int32)) d28_13 (by rfl) ?_
    refine w_goto W2 (pc' := 18) d28_14 (by decide) ?_
    exact n_rN W2 rfl (by simp) (z' := (1 : Int32)) (by rfl) d28_18 (by decide) (by decide) ⟨rfl, rfl⟩
theorem ef_17_R (m : MethodId) (x0 : Addr) : entryFrame m #[(.ref x0)] 1 = mkF m 0 #[.val (.ref x0)] [] := by first | (simp [entryFrame, mkF, argsToLocals, Value.category]; done) | rfl
theorem d17_0 : decode jdk_68_method_6_code 0 = .ok (.aload_n 0, 1) := by decide +kernel
theorem d17_1 : decode jdk_68_method_6_code 1 = .ok (.getfield 79, 3) := by decide +kernel
theorem d17_4 : decode jdk_68_method_6_code 4 = .ok (.ireturn, 1) := by decide +kernel
set_option maxRecDepth 65536 in
set_option maxHeartbeats 40000000 in
theorem ctAl (l : Launch) (Z : State) (a0 : Array Value) (hw : ∀ d ∈ tables_1, d.before a0 Z = true) (n1 : Nat) (x b : Addr) (cap : Nat) (bs : List Int32) (h0 : Heap) (n0 : Nat) (F : SB Z n1 h0 x b cap bs) :
    CtN l Z (⟨"java/lang/AbstractStringBuilder", "length", "()I"⟩ : MethodName) jdk_68_method_6_code 1 (some .int) ({ frames := 0, cells := 0, slots := 0, locals := 0 } : Room) n0 #[(.ref x)] h0 (fun v h => v = some (.int (Int32.ofNat bs.length)) ∧ h0 = h) := by
  refine CtN.of (plainFor_of_name pn_java_lang_AbstractStringBuilder) ?_
  intro p e s m below meth c T0 W0 hnm
  refine Wp.cast (ef_17_R m x) ?_
  obtain ⟨Ex, Fc, Fn, Fv, hnx, hnb, hle, hcap, kb, Cb⟩ := id F
  refine w_aloadN W0 d17_0 rfl rfl ?_
  refine w_getf W0 (host := "") (Or.inl (hw _ (List.mem_of_getElem? (i := 90) rfl))) Via.refl Fn d17_1 ?_
  intro T1 W1
  exact n_rI W1 rfl d17_4 (by decide) (by decide) ⟨rfl, rfl⟩
theorem ef_16_R (m : MethodId) (x0 : Addr) : entryFrame m #[(.ref x0)] 1 = mkF m 0 #[.val (.ref x0)] [] := by first | (simp [entryFrame, mkF, argsToLocals, Value.category]; done) | rfl
theorem d16_0 : decode jdk_67_method_93_code 0 = .ok (.aload_n 0, 1) := by decide +kernel
theorem d16_1 : decode jdk_67_method_93_code 1 = .ok (.invokespecial 343, 3) := by decide +kernel
theorem pd_7 : parseMethodDescriptor "()I" = some ⟨[], some .int⟩ := by decide +kernel
theorem d16_4 : decode jdk_67_method_93_code 4 = .ok (.ireturn, 1) := by decide +kernel
theorem pn_java_lang_StringBuilder : plainName "java/lang/StringBuilder" = true := by first | (simp [plainName, overriddenIn]; done) | decide +kernel
set_option maxRecDepth 65536 in
set_option maxHeartbeats 40000000 in
theorem ctBl (l : Launch) (Z : State) (a0 : Array Value) (hw : ∀ d ∈ tables_1, d.before a0 Z = true) (n1 : Nat) (x b : Addr) (cap : Nat) (bs : List Int32) (h0 : Heap) (n0 : Nat) (F : SB Z n1 h0 x b cap bs) :
    CtN l Z (⟨"java/lang/StringBuilder", "length", "()I"⟩ : MethodName) jdk_67_method_93_code 1 (some .int) ({ frames := 1, cells := 0, slots := 0, locals := 12 } : Room) n0 #[(.ref x)] h0 (fun v h => v = some (.int (Int32.ofNat bs.length)) ∧ h0 = h) := by
  refine CtN.of (plainFor_of_name pn_java_lang_StringBuilder) ?_
  intro p e s m below meth c T0 W0 hnm
  refine Wp.cast (ef_16_R m x) ?_
  obtain ⟨Ex, Fc, Fn, Fv, hnx, hnb, hle, hcap, kb, Cb⟩ := id F
  refine w_aloadN W0 d16_0 rfl rfl ?_
  refine w_super W0 (ctAl l Z a0 hw n1 x b cap bs _ n0 F) (Cls.sel (z := ({ cls := "java/lang/AbstractStringBuilder", name := "ensureCapacityInternal", desc := "(I)V" } : Jvm.MethodName)) (hw _ (List.mem_of_getElem? (i := 117) rfl)) : Cls Z "java/lang/AbstractStringBuilder") (by decide) (hw _ (List.mem_of_getElem? (i := 85) rfl)) (hw _ (List.mem_of_getElem? (i := 86) rfl)) (hw _ (List.mem_of_getElem? (i := 87) rfl)) (hw _ (List.mem_of_getElem? (i := 61) rfl)) (hw _ (List.mem_of_getElem? (i := 89) rfl)) (by decide) 0 (by decide) (by decide) (by decide) (by decide) (a := x) (Ins.self Ex) (argsL := []) (rest := []) pd_7 rfl rfl rfl rfl rfl d16_1 ?_
  rintro T1 h1 l1 _ W1 ⟨rfl, rfl⟩
  exact n_rI W1 rfl d16_4 (by decide) (by decide) ⟨rfl, rfl⟩
theorem ef_38_R (m : MethodId) (x0 : Addr) : entryFrame m #[(.ref x0)] 1 = mkF m 0 #[.val (.ref x0)] [] := by first | (simp [entryFrame, mkF, argsToLocals, Value.category]; done) | rfl
theorem d38_0 : decode jdk_68_method_64_code 0 = .ok (.aload_n 0, 1) := by decide +kernel
theorem d38_1 : decode jdk_68_method_64_code 1 = .ok (.getfield 15, 3) := by decide +kernel
theorem d38_4 : decode jdk_68_method_64_code 4 = .ok (.areturn, 1) := by decide +kernel
set_option maxRecDepth 65536 in
set_option maxHeartbeats 40000000 in
theorem ctGv (l : Launch) (Z : State) (a0 : Array Value) (hw : ∀ d ∈ tables_1, d.before a0 Z = true) (n1 : Nat) (x b : Addr) (cap : Nat) (bs : List Int32) (h0 : Heap) (n0 : Nat) (F : SB Z n1 h0 x b cap bs) :
    CtN l Z (⟨"java/lang/AbstractStringBuilder", "getValue", "()[B"⟩ : MethodName) jdk_68_method_64_code 1 (some (.array .byte)) ({ frames := 0, cells := 0, slots := 0, locals := 0 } : Room) n0 #[(.ref x)] h0 (fun v h => v = some (.ref b) ∧ h0 = h) := by
  refine CtN.of (plainFor_of_name pn_java_lang_AbstractStringBuilder) ?_
  intro p e s m below meth c T0 W0 hnm
  refine Wp.cast (ef_38_R m x) ?_
  obtain ⟨Ex, Fc, Fn, Fv, hnx, hnb, hle, hcap, kb, Cb⟩ := id F
  refine w_aloadN W0 d38_0 rfl rfl ?_
  refine w_getf W0 (host := "") (Or.inl (hw _ (List.mem_of_getElem? (i := 65) rfl))) Via.refl Fv d38_1 ?_
  intro T1 W1
  exact n_rA W1 rfl rfl rfl d38_4 (by decide) (by decide) ⟨rfl, rfl⟩
theorem ef_29_RI (m : MethodId) (x0 : Addr) (x1 : Int32) : entryFrame m #[(.ref x0), (.int x1)] 6 = mkF m 0 #[.val (.ref x0), .val (.int x1), .unset, .unset, .unset, .unset] [] := by first | (simp [entryFrame, mkF, argsToLocals, Value.category]; done) | rfl
theorem d29_0 : decode jdk_68_method_10_code 0 = .ok (.aload_n 0, 1) := by decide +kernel
theorem d29_1 : decode jdk_68_method_10_code 1 = .ok (.getfield 15, 3) := by decide +kernel
theorem d29_4 : decode jdk_68_method_10_code 4 = .ok (.arraylength, 1) := by decide +kernel
theorem d29_5 : decode jdk_68_method_10_code 5 = .ok (.istore_n 2, 1) := by decide +kernel
theorem d29_6 : decode jdk_68_method_10_code 6 = .ok (.iload_n 1, 1) := by decide +kernel
theorem d29_7 : decode jdk_68_method_10_code 7 = .ok (.aload_n 0, 1) := by decide +kernel
theorem d29_8 : decode jdk_68_method_10_code 8 = .ok (.getfield 22, 3) := by decide +kernel
theorem d29_11 : decode jdk_68_method_10_code 11 = .ok (.ishl, 1) := by decide +kernel
theorem d29_12 : decode jdk_68_method_10_code 12 = .ok (.istore_n 3, 1) := by decide +kernel
theorem d29_13 : decode jdk_68_method_10_code 13 = .ok (.iload_n 3, 1) := by decide +kernel
theorem d29_14 : decode jdk_68_method_10_code 14 = .ok (.iload_n 2, 1) := by decide +kernel
theorem d29_15 : decode jdk_68_method_10_code 15 = .ok (.isub, 1) := by decide +kernel
theorem d29_16 : decode jdk_68_method_10_code 16 = .ok (.istore 4, 2) := by decide +kernel
theorem d29_18 : decode jdk_68_method_10_code 18 = .ok (.iload_n 2, 1) := by decide +kernel
theorem d29_19 : decode jdk_68_method_10_code 19 = .ok (.iload 4, 2) := by decide +kernel
theorem d29_21 : decode jdk_68_method_10_code 21 = .ok (.iload_n 2, 1) := by decide +kernel
theorem d29_22 : decode jdk_68_method_10_code 22 = .ok (.iconst 2, 1) := by decide +kernel
theorem d29_23 : decode jdk_68_method_10_code 23 = .ok (.aload_n 0, 1) := by decide +kernel
theorem d29_24 : decode jdk_68_method_10_code 24 = .ok (.getfield 22, 3) := by decide +kernel
theorem d29_27 : decode jdk_68_method_10_code 27 = .ok (.ishl, 1) := by decide +kernel
theorem d29_28 : decode jdk_68_method_10_code 28 = .ok (.iadd, 1) := by decide +kernel
theorem d29_29 : decode jdk_68_method_10_code 29 = .ok (.invokestatic 114, 3) := by decide +kernel
theorem pd_8 : parseMethodDescriptor "(III)I" = some ⟨[.int, .int, .int], some .int⟩ := by decide +kernel
theorem d29_32 : decode jdk_68_method_10_code 32 = .ok (.istore 5, 2) := by decide +kernel
theorem d29_34 : decode jdk_68_method_10_code 34 = .ok (.iload 5, 2) := by decide +kernel
theorem d29_36 : decode jdk_68_method_10_code 36 = .ok (.ldc 39, 2) := by decide +kernel
theorem d29_38 : decode jdk_68_method_10_code 38 = .ok (.if_icmp .ne 13, 3) := by decide +kernel
theorem d29_51 : decode jdk_68_method_10_code 51 = .ok (.iload 5, 2) := by decide +kernel
theorem d29_53 : decode jdk_68_method_10_code 53 = .ok (.aload_n 0, 1) := by decide +kernel
theorem d29_54 : decode jdk_68_method_10_code 54 = .ok (.getfield 22, 3) := by decide +kernel
theorem d29_57 : decode jdk_68_method_10_code 57 = .ok (.ishr, 1) := by decide +kernel
theorem d29_58 : decode jdk_68_method_10_code 58 = .ok (.ireturn, 1) := by decide +kernel
set_option maxRecDepth 65536 in
set_option maxHeartbeats 40000000 in
theorem ctNc (l : Launch) (Z : State) (a0 : Array Value) (hw : ∀ d ∈ tables_1, d.before a0 Z = true) (n1 : Nat) (x b : Addr) (cap : Nat) (bs : List Int32) (q : Nat) (h0 : Heap) (n0 : Nat) (hq : cap < q) (hq2 : q ≤ 4000) (F : SB Z n1 h0 x b cap bs) :
    CtN l Z (⟨"java/lang/AbstractStringBuilder", "newCapacity", "(I)I"⟩ : MethodName) jdk_68_method_10_code 6 (some .int) ({ frames := 2, cells := 0, slots := 0, locals := 29 } : Room) n0 #[(.ref x), (.int (Int32.ofNat q))] h0 (fun v h => v = some (.int (Int32.ofNat (cap + max (q - cap) (cap + 2)))) ∧ h0 = h) := by
  refine CtN.of (plainFor_of_name pn_java_lang_AbstractStringBuilder) ?_
  intro p e s m below meth c T0 W0 hnm
  refine Wp.cast (ef_29_RI m x (Int32.ofNat q)) ?_
  obtain ⟨Ex, Fc, Fn, Fv, hnx, hnb, hle, hcap, kb, Cb⟩ := id F
  refine w_aloadN W0 d29_0 rfl rfl ?_
  refine w_getf W0 (host := "") (Or.inl (hw _ (List.mem_of_getElem? (i := 65) rfl))) Via.refl Fv d29_1 ?_
  intro T1 W1
  refine w_arrlen W1 Cb d29_4 ?_
  refine w_istoreN W1 (L' := #[.val (.ref x), .val (.int (Int32.ofNat q)), .val (.int (Int32.ofNat cap)), .unset, .unset, .unset]) d29_5 rfl ?_
  refine w_iloadN W1 d29_6 rfl ?_
  refine w_aloadN W1 d29_7 rfl rfl ?_
  refine w_getf W1 (host := "") (Or.inl (hw _ (List.mem_of_getElem? (i := 67) rfl))) Via.refl Fc d29_8 ?_
  intro T2 W2
  refine w_ishl W2 d29_11 (own_shl0 _) ?_
  refine w_istoreN W2 (L' := #[.val (.ref x), .val (.int (Int32.ofNat q)), .val (.int (Int32.ofNat cap)), .val (.int (Int32.ofNat q)), .unset, .unset]) d29_12 rfl ?_
  refine w_iloadN W2 d29_13 rfl ?_
  refine w_iloadN W2 d29_14 rfl ?_
  refine w_isub W2 d29_15 (own_subN (by omega)) ?_
  refine w_istore W2 (L' := #[.val (.ref x), .val (.int (Int32.ofNat q)), .val (.int (Int32.ofNat cap)), .val (.int (Int32.ofNat q)), .val (.int (Int32.ofNat (q - cap))), .unset]) d29_16 rfl ?_
  refine w_iloadN W2 d29_18 rfl ?_
  refine w_iload W2 d29_19 rfl ?_
  refine w_iloadN W2 d29_21 rfl ?_
  refine w_iconst W2 (z := (2 : Int32)) d29_22 (by rfl) ?_
  refine w_aloadN W2 d29_23 rfl rfl ?_
  refine w_getf W2 (host := "") (Or.inl (hw _ (List.mem_of_getElem? (i := 67) rfl))) Via.refl Fc d29_24 ?_
  intro T3 W3
  refine w_ishl W3 d29_27 (own_shl0 _) ?_
  refine w_iadd W3 d29_28 own_addN ?_
  refine w_callS W3 (ctNw l Z a0 hw cap (q - cap) (cap + 2) _ n0 (by omega) (by omega) (by omega) (by omega)) (hw _ (List.mem_of_getElem? (i := 160) rfl)) (hw _ (List.mem_of_getElem? (i := 161) rfl)) (hw _ (List.mem_of_getElem? (i := 162) rfl)) (hw _ (List.mem_of_getElem? (i := 163) rfl)) (by decide) 0 (by decide) (by decide) (by decide) (by decide) (argsL := [(.int (Int32.ofNat cap)), (.int (Int32.ofNat (q - cap))), (.int (Int32.ofNat (cap + 2)))]) (rest := []) pd_8 rfl rfl rfl rfl rfl d29_29 ?_
  rintro T4 h4 l4 _ W4 ⟨rfl, rfl⟩
  refine w_istore W4 (L' := #[.val (.ref x), .val (.int (Int32.ofNat q)), .val (.int (Int32.ofNat cap)), .val (.int (Int32.ofNat q)), .val (.int (Int32.ofNat (q - cap))), .val (.int (Int32.ofNat (cap + max (q - cap) (cap + 2))))]) d29_32 rfl ?_
  refine w_iload W4 d29_34 rfl ?_
  refine w_ldcI W4 (hw _ (List.mem_of_getElem? (i := 169) rfl)) d29_36 ?_
  refine w_icmpne W4 (pc' := 51) d29_38 (by decide) (fun c38 => ?_) (fun c38 => ?_)
  · refine w_iload W4 d29_51 rfl ?_
    refine w_aloadN W4 d29_53 rfl rfl ?_
    refine w_getf W4 (host := "") (Or.inl (hw _ (List.mem_of_getElem? (i := 67) rfl))) Via.refl Fc d29_54 ?_
    intro T5 W5
    refine w_ishr W5 d29_57 (own_shr0 _) ?_
    exact n_rI W5 rfl d29_58 (by decide) (by decide) ⟨rfl, rfl⟩
  · exact absurd c38 (fun r => by have e := congrArg Int32.toInt r; rw [own_ti (by omega)] at e; have e2 : (2147483647 : Int32).toInt = 2147483647 := rfl; rw [e2] at e; omega)
theorem own_castMin {l : Launch} {Z : State} {y : MethodName} {B : ByteArray} {ML : Nat} {ret : Option FieldType} {rm : Room} {n0 : Nat} {as : Array Value} {h : Heap} {n k : Nat} (C : CtN l Z y B ML ret rm n0 as h (fun v h' => v = some (.int (Int32.ofNat (min n k))) ∧ h = h')) (q : n ≤ k) : CtN l Z y B ML ret rm n0 as h (fun v h' => v = some (.int (Int32.ofNat n)) ∧ h = h') := by rw [Nat.min_eq_left q] at C; exact C
theorem own_castMin2 {l : Launch} {Z : State} {y : MethodName} {B : ByteArray} {ML : Nat} {ret : Option FieldType} {rm : Room} {n0 : Nat} {as : Array Value} {h : Heap} {n k : Nat} (C : CtN l Z y B ML ret rm n0 as h (fun v h' => v = some (.int (Int32.ofNat (min n k))) ∧ h = h')) (q : k ≤ n) : CtN l Z y B ML ret rm n0 as h (fun v h' => v = some (.int (Int32.ofNat k)) ∧ h = h') := by rw [Nat.min_eq_right q] at C; exact C
theorem ef_32_RI (m : MethodId) (x0 : Addr) (x1 : Int32) : entryFrame m #[(.ref x0), (.int x1)] 3 = mkF m 0 #[.val (.ref x0), .val (.int x1), .unset] [] := by first | (simp [entryFrame, mkF, argsToLocals, Value.category]; done) | rfl
theorem d32_0 : decode jdk_65_method_121_code 0 = .ok (.iload_n 1, 1) := by decide +kernel
theorem d32_1 : decode jdk_65_method_121_code 1 = .ok (.aload_n 0, 1) := by decide +kernel
theorem d32_2 : decode jdk_65_method_121_code 2 = .ok (.arraylength, 1) := by decide +kernel
theorem d32_3 : decode jdk_65_method_121_code 3 = .ok (.if_icmp .ne 11, 3) := by decide +kernel
theorem d32_14 : decode jdk_65_method_121_code 14 = .ok (.iload_n 1, 1) := by decide +kernel
theorem d32_15 : decode jdk_65_method_121_code 15 = .ok (.newarray .byte, 2) := by decide +kernel
theorem d32_17 : decode jdk_65_method_121_code 17 = .ok (.astore_n 2, 1) := by decide +kernel
theorem d32_18 : decode jdk_65_method_121_code 18 = .ok (.aload_n 0, 1) := by decide +kernel
theorem d32_19 : decode jdk_65_method_121_code 19 = .ok (.iconst 0, 1) := by decide +kernel
theorem d32_20 : decode jdk_65_method_121_code 20 = .ok (.aload_n 2, 1) := by decide +kernel
theorem d32_21 : decode jdk_65_method_121_code 21 = .ok (.iconst 0, 1) := by decide +kernel
theorem d32_22 : decode jdk_65_method_121_code 22 = .ok (.aload_n 0, 1) := by decide +kernel
theorem d32_23 : decode jdk_65_method_121_code 23 = .ok (.arraylength, 1) := by decide +kernel
theorem d32_24 : decode jdk_65_method_121_code 24 = .ok (.iload_n 1, 1) := by decide +kernel
theorem d32_25 : decode jdk_65_method_121_code 25 = .ok (.invokestatic 304, 3) := by decide +kernel
theorem d32_28 : decode jdk_65_method_121_code 28 = .ok (.invokestatic 150, 3) := by decide +kernel
theorem d32_31 : decode jdk_65_method_121_code 31 = .ok (.aload_n 2, 1) := by decide +kernel
theorem d32_32 : decode jdk_65_method_121_code 32 = .ok (.areturn, 1) := by decide +kernel
theorem pn_java_util_Arrays : plainName "java/util/Arrays" = true := by first | (simp [plainName, overriddenIn]; done) | decide +kernel
set_option maxRecDepth 65536 in
set_option maxHeartbeats 40000000 in
theorem ctCy (l : Launch) (Z : State) (a0 : Array Value) (hw : ∀ d ∈ tables_1, d.before a0 Z = true) (b : Addr) (kb : ClassId) (cap c2 : Nat) (bs : List Int32) (h0 : Heap) (n0 : Nat) (hn0 : n0 ≤ h0.size) (hlt : cap < c2) (hc2 : c2 ≤ 34) (hle : bs.length ≤ cap) (Cb : Arv Z h0 b kb .byte (Int32.ofNat cap) (own_pd bs cap) (.int 0)) :
    CtN l Z (⟨"java/util/Arrays", "copyOf", "([BI)[B"⟩ : MethodName) jdk_65_method_121_code 3 (some (.array .byte)) ({ frames := 1, cells := 1, slots := 34, locals := 18 } : Room) n0 #[(.ref b), (.int (Int32.ofNat c2))] h0 (fun v h => ∃ nb kn, v = some (.ref nb) ∧ Ext h0 h ∧ h0.size ≤ nb ∧ Arv Z h nb kn .byte (Int32.ofNat c2) (own_pd bs c2) (.int 0)) := by
  refine CtN.of (plainFor_of_name pn_java_util_Arrays) ?_
  intro p e s m below meth c T0 W0 hnm
  refine Wp.cast (ef_32_RI m b (Int32.ofNat c2)) ?_
  refine w_iloadN W0 d32_0 rfl ?_
  refine w_aloadN W0 d32_1 rfl rfl ?_
  refine w_arrlen W0 Cb d32_2 ?_
  refine w_icmpne W0 (pc' := 14) d32_3 (by decide) (fun c3 => ?_) (fun c3 => ?_)
  · refine w_iloadN W0 d32_14 rfl ?_
    refine w_newarr W0 (ty := .byte) (dv := (.int 0)) (hw _ (List.mem_of_getElem? (i := 19) rfl)) rfl rfl d32_15 (own_nn0 (by omega)) 34 (by rw [own_clamp (by omega)]; exact hc2) (by decide) (by decide) (by decide) ?_
    intro T1 h1 nb k1 W1 E1 g1 V1
    have V0 := V1.pad (pad_rep [] (.int 0) c2)
    have hnb : n0 ≤ nb := by rw [g1]; exact hn0
    refine w_astoreN W1 (L' := #[.val (.ref b), .val (.int (Int32.ofNat c2)), .val (.ref nb)]) d32_17 rfl rfl ?_
    refine w_aloadN W1 d32_18 rfl rfl ?_
    refine w_iconst W1 (z := (0 : Int32)) d32_19 (by rfl) ?_
    refine w_aloadN W1 d32_20 rfl rfl ?_
    refine w_iconst W1 (z := (0 : Int32)) d32_21 (by rfl) ?_
    refine w_aloadN W1 d32_22 rfl rfl ?_
    refine w_arrlen W1 (Cb.ext E1) d32_23 ?_
    refine w_iloadN W1 d32_24 rfl ?_
    refine w_callS W1 (own_castMin (ctMn l Z a0 hw cap c2 _ n0 (by omega) (by omega)) (by omega)) (hw _ (List.mem_of_getElem? (i := 174) rfl)) (hw _ (List.mem_of_getElem? (i := 175) rfl)) (hw _ (List.mem_of_getElem? (i := 166) rfl)) (hw _ (List.mem_of_getElem? (i := 176) rfl)) (by decide) 4 (by decide) (by decide) (by decide) (by decide) (argsL := [(.int (Int32.ofNat cap)), (.int (Int32.ofNat c2))]) (rest := [(.int (0 : Int32)), (.ref nb), (.int (0 : Int32)), (.ref b)]) pd_6 rfl rfl rfl rfl rfl d32_25 ?_
    rintro T2 h2 l2 _ W2 ⟨rfl, rfl⟩
    refine w_acopy W2 (hw _ (List.mem_of_getElem? (i := 177) rfl)) (hw _ (List.mem_of_getElem? (i := 138) rfl)) (hw _ (List.mem_of_getElem? (i := 136) rfl)) (hw _ (List.mem_of_getElem? (i := 137) rfl)) (Cb.ext E1) V0 rfl (by decide) (by decide) (own_nn0 (by omega)) (by rw [own_clamp (by omega)]; simp) (by rw [own_clamp (by omega), own_clamp (by omega)]; simp; omega) (us := (own_pd bs cap)) (by rw [own_clamp (by omega)]; exact own_cpP bs cap cap (Nat.le_refl _)) (by rw [own_clamp (by omega)]; simp; omega) hnb 0 rfl rfl (by decide) (by decide) d32_28 ?_
    intro T3 h3 l3 W3 K3 V3
    have V2 : Arv Z h3 nb k1 .byte (Int32.ofNat c2) (own_pd bs c2) (.int 0) := by rw [← own_pdGrow hle (Nat.le_of_lt hlt)]; have q := V3; rw [own_clamp (by omega)] at q; exact q
    refine w_aloadN W3 d32_31 rfl rfl ?_
    exact n_rA W3 rfl rfl rfl d32_32 (by decide) (by decide) ⟨nb, _, rfl, own_extKeep E1 K3 (allS (Nat.le_of_eq g1.symm) all0), Nat.le_of_eq g1.symm, V2⟩
  · exact absurd ((own_eqI (by omega) (by omega)).mp c3) (by omega)
theorem ef_22_RI (m : MethodId) (x0 : Addr) (x1 : Int32) : entryFrame m #[(.ref x0), (.int x1)] 3 = mkF m 0 #[.val (.ref x0), .val (.int x1), .unset] [] := by first | (simp [entryFrame, mkF, argsToLocals, Value.category]; done) | rfl
theorem d22_0 : decode jdk_68_method_9_code 0 = .ok (.aload_n 0, 1) := by decide +kernel
theorem d22_1 : decode jdk_68_method_9_code 1 = .ok (.getfield 15, 3) := by decide +kernel
theorem d22_4 : decode jdk_68_method_9_code 4 = .ok (.arraylength, 1) := by decide +kernel
theorem d22_5 : decode jdk_68_method_9_code 5 = .ok (.aload_n 0, 1) := by decide +kernel
theorem d22_6 : decode jdk_68_method_9_code 6 = .ok (.getfield 22, 3) := by decide +kernel
theorem d22_9 : decode jdk_68_method_9_code 9 = .ok (.ishr, 1) := by decide +kernel
theorem d22_10 : decode jdk_68_method_9_code 10 = .ok (.istore_n 2, 1) := by decide +kernel
theorem d22_11 : decode jdk_68_method_9_code 11 = .ok (.iload_n 1, 1) := by decide +kernel
theorem d22_12 : decode jdk_68_method_9_code 12 = .ok (.iload_n 2, 1) := by decide +kernel
theorem d22_13 : decode jdk_68_method_9_code 13 = .ok (.isub, 1) := by decide +kernel
theorem d22_14 : decode jdk_68_method_9_code 14 = .ok (.ifCond .le 24, 3) := by decide +kernel
theorem d22_38 : decode jdk_68_method_9_code 38 = .ok (.return_, 1) := by decide +kernel
set_option maxRecDepth 65536 in
set_option maxHeartbeats 40000000 in
theorem ctEc (l : Launch) (Z : State) (a0 : Array Value) (hw : ∀ d ∈ tables_1, d.before a0 Z = true) (x b : Addr) (cap : Nat) (bs : List Int32) (q : Nat) (h0 : Heap) (n0 : Nat) (hq : q ≤ cap) (F : SB Z n0 h0 x b cap bs) :
    CtN l Z (⟨"java/lang/AbstractStringBuilder", "ensureCapacityInternal", "(I)V"⟩ : MethodName) jdk_68_method_9_code 3 none ({ frames := 0, cells := 0, slots := 0, locals := 0 } : Room) n0 #[(.ref x), (.int (Int32.ofNat q))] h0 (fun v h => v = none ∧ h0 = h) := by
  refine CtN.of (plainFor_of_name pn_java_lang_AbstractStringBuilder) ?_
  intro p e s m below meth c T0 W0 hnm
  refine Wp.cast (ef_22_RI m x (Int32.ofNat q)) ?_
  obtain ⟨Ex, Fc, Fn, Fv, hnx, hnb, hle, hcap, kb, Cb⟩ := id F
  refine w_aloadN W0 d22_0 rfl rfl ?_
  refine w_getf W0 (host := "") (Or.inl (hw _ (List.mem_of_getElem? (i := 65) rfl))) Via.refl Fv d22_1 ?_
  intro T1 W1
  refine w_arrlen W1 Cb d22_4 ?_
  refine w_aloadN W1 d22_5 rfl rfl ?_
  refine w_getf W1 (host := "") (Or.inl (hw _ (List.mem_of_getElem? (i := 67) rfl))) Via.refl Fc d22_6 ?_
  intro T2 W2
  refine w_ishr W2 d22_9 (own_shr0 _) ?_
  refine w_istoreN W2 (L' := #[.val (.ref x), .val (.int (Int32.ofNat q)), .val (.int (Int32.ofNat cap))]) d22_10 rfl ?_
  refine w_iloadN W2 d22_11 rfl ?_
  refine w_iloadN W2 d22_12 rfl ?_
  refine w_isub W2 d22_13 rfl ?_
  refine w_ifle W2 (pc' := 38) d22_14 (by decide) (fun c14 => ?_) (fun c14 => ?_)
  · exact n_rV W2 rfl d22_38 (by decide) (by decide) ⟨rfl, rfl⟩
  · exact absurd c14 (own_le0 hq (by omega))
theorem d22_17 : decode jdk_68_method_9_code 17 = .ok (.aload_n 0, 1) := by decide +kernel
theorem d22_18 : decode jdk_68_method_9_code 18 = .ok (.aload_n 0, 1) := by decide +kernel
theorem d22_19 : decode jdk_68_method_9_code 19 = .ok (.getfield 15, 3) := by decide +kernel
theorem d22_22 : decode jdk_68_method_9_code 22 = .ok (.aload_n 0, 1) := by decide +kernel
theorem d22_23 : decode jdk_68_method_9_code 23 = .ok (.iload_n 1, 1) := by decide +kernel
theorem d22_24 : decode jdk_68_method_9_code 24 = .ok (.invokevirtual 104, 3) := by decide +kernel
theorem pd_9 : parseMethodDescriptor "(I)I" = some ⟨[.int], some .int⟩ := by decide +kernel
theorem d22_27 : decode jdk_68_method_9_code 27 = .ok (.aload_n 0, 1) := by decide +kernel
theorem d22_28 : decode jdk_68_method_9_code 28 = .ok (.getfield 22, 3) := by decide +kernel
theorem d22_31 : decode jdk_68_method_9_code 31 = .ok (.ishl, 1) := by decide +kernel
theorem d22_32 : decode jdk_68_method_9_code 32 = .ok (.invokestatic 108, 3) := by decide +kernel
theorem pd_10 : parseMethodDescriptor "([BI)[B" = some ⟨[(.array .byte), .int], some (.array .byte)⟩ := by decide +kernel
theorem d22_35 : decode jdk_68_method_9_code 35 = .ok (.putfield 15, 3) := by decide +kernel
set_option maxRecDepth 65536 in
set_option maxHeartbeats 40000000 in
theorem ctEg (l : Launch) (Z : State) (a0 : Array Value) (hw : ∀ d ∈ tables_1, d.before a0 Z = true) (x b : Addr) (cap : Nat) (bs : List Int32) (q : Nat) (h0 : Heap) (n0 : Nat) (O : Old Z n0 h0) (hq : cap < q) (hq2 : q ≤ 4000) (hc2 : (cap + max (q - cap) (cap + 2)) ≤ 34) (F : SB Z n0 h0 x b cap bs) :
    CtN l Z (⟨"java/lang/AbstractStringBuilder", "ensureCapacityInternal", "(I)V"⟩ : MethodName) jdk_68_method_9_code 3 none ({ frames := 3, cells := 1, slots := 34, locals := 48 } : Room) n0 #[(.ref x), (.int (Int32.ofNat q))] h0 (fun v h => v = none ∧ Keep h0 h [x] ∧ ∃ nb, h0.size ≤ nb ∧ SB Z n0 h x nb (cap + max (q - cap) (cap + 2)) bs) := by
  refine CtN.of (plainFor_of_name pn_java_lang_AbstractStringBuilder) ?_
  intro p e s m below meth c T0 W0 hnm
  refine Wp.cast (ef_22_RI m x (Int32.ofNat q)) ?_
  obtain ⟨Ex, Fc, Fn, Fv, hnx, hnb, hle, hcap, kb, Cb⟩ := id F
  refine w_aloadN W0 d22_0 rfl rfl ?_
  refine w_getf W0 (host := "") (Or.inl (hw _ (List.mem_of_getElem? (i := 65) rfl))) Via.refl Fv d22_1 ?_
  intro T1 W1
  refine w_arrlen W1 Cb d22_4 ?_
  refine w_aloadN W1 d22_5 rfl rfl ?_
  refine w_getf W1 (host := "") (Or.inl (hw _ (List.mem_of_getElem? (i := 67) rfl))) Via.refl Fc d22_6 ?_
  intro T2 W2
  refine w_ishr W2 d22_9 (own_shr0 _) ?_
  refine w_istoreN W2 (L' := #[.val (.ref x), .val (.int (Int32.ofNat q)), .val (.int (Int32.ofNat cap))]) d22_10 rfl ?_
  refine w_iloadN W2 d22_11 rfl ?_
  refine w_iloadN W2 d22_12 rfl ?_
  refine w_isub W2 d22_13 (own_subN (by omega)) ?_
  refine w_ifle W2 (pc' := 38) d22_14 (by decide) (fun c14 => ?_) (fun c14 => ?_)
  · exact absurd (own_pos (by omega) (by omega)) c14
  · refine w_aloadN W2 d22_17 rfl rfl ?_
    refine w_aloadN W2 d22_18 rfl rfl ?_
    refine w_getf W2 (host := "") (Or.inl (hw _ (List.mem_of_getElem? (i := 65) rfl))) Via.refl Fv d22_19 ?_
    intro T3 W3
    refine w_aloadN W3 d22_22 rfl rfl ?_
    refine w_iloadN W3 d22_23 rfl ?_
    refine w_priv W3 (ctNc l Z a0 hw n0 x b cap bs q _ n0 hq hq2 F) (Cls.sel (z := ({ cls := "java/lang/AbstractStringBuilder", name := "ensureCapacityInternal", desc := "(I)V" } : Jvm.MethodName)) (hw _ (List.mem_of_getElem? (i := 117) rfl)) : Cls Z "java/lang/AbstractStringBuilder") (hw _ (List.mem_of_getElem? (i := 157) rfl)) (hw _ (List.mem_of_getElem? (i := 155) rfl)) (hw _ (List.mem_of_getElem? (i := 156) rfl)) (hw _ (List.mem_of_getElem? (i := 61) rfl)) (hw _ (List.mem_of_getElem? (i := 159) rfl)) (by decide) 2 (by decide) (by decide) (by decide) (by decide) (a := x) Ex (argsL := [(.int (Int32.ofNat q))]) (rest := [(.ref b), (.ref x)]) pd_9 rfl rfl rfl rfl rfl d22_24 ?_
    rintro T4 h4 l4 _ W4 ⟨rfl, rfl⟩
    refine w_aloadN W4 d22_27 rfl rfl ?_
    refine w_getf W4 (host := "") (Or.inl (hw _ (List.mem_of_getElem? (i := 67) rfl))) Via.refl Fc d22_28 ?_
    intro T5 W5
    refine w_ishl W5 d22_31 (own_shl0 _) ?_
    refine w_callS W5 (ctCy l Z a0 hw b kb cap (cap + max (q - cap) (cap + 2)) bs _ n0 (own_oldle O) (by omega) hc2 hle Cb) (hw _ (List.mem_of_getElem? (i := 170) rfl)) (hw _ (List.mem_of_getElem? (i := 171) rfl)) (hw _ (List.mem_of_getElem? (i := 172) rfl)) (hw _ (List.mem_of_getElem? (i := 173) rfl)) (by decide) 1 (by decide) (by decide) (by decide) (by decide) (argsL := [(.ref b), (.int (Int32.ofNat (cap + max (q - cap) (cap + 2))))]) (rest := [(.ref x)]) pd_10 rfl rfl rfl rfl rfl d22_32 ?_
    rintro T6 h6 l6 _ W6 ⟨nb, kn, rfl, E, hnb2, V⟩
    refine w_putf W6 (hw _ (List.mem_of_getElem? (i := 65) rfl)) Via.refl (Fv.ext E) (Ex.ext E) (Or.inl (hw _ (List.mem_of_getElem? (i := 66) rfl))) (hw _ (List.mem_of_getElem? (i := 52) rfl)) (ty := (.array .byte)) (v' := (.ref nb)) (by decide) (by rfl) (rfl) hnx d22_35 ?_
    intro T7 h7 l7 W7 Wr7
    have Kx : Keep h0 h7 [x] := (own_keepOf E).wr Wr7 (Or.inl (List.mem_cons_self ..))
    have F2 : SB Z n0 h7 x nb (cap + max (q - cap) (cap + 2)) bs := ⟨(Ex.ext E).wr Wr7, (Fc.ext E).other Wr7 (Or.inr (slot_ne (Or.inl (hw _ (List.mem_of_getElem? (i := 68) rfl))) (Or.inl (hw _ (List.mem_of_getElem? (i := 66) rfl))) (by decide) (t := .byte) (t' := (.array .byte)) (by decide) (by decide))), (Fn.ext E).other Wr7 (Or.inr (slot_ne (Or.inl (hw _ (List.mem_of_getElem? (i := 91) rfl))) (Or.inl (hw _ (List.mem_of_getElem? (i := 66) rfl))) (by decide) (t := .int) (t' := (.array .byte)) (by decide) (by decide))), (Fv.ext E).same Wr7, hnx, Nat.le_trans (own_oldle O) hnb2, by omega, by omega, kn, V.other Wr7 (Nat.ne_of_gt (Nat.lt_of_lt_of_le Ex.lt hnb2))⟩
    exact n_rV W7 rfl d22_38 (by decide) (by decide) ⟨rfl, Kx, nb, hnb2, F2⟩
theorem ef_25_RRII (m : MethodId) (x0 : Addr) (x1 : Addr) (x2 : Int32) (x3 : Int32) : entryFrame m #[(.ref x0), (.ref x1), (.int x2), (.int x3)] 4 = mkF m 0 #[.val (.ref x0), .val (.ref x1), .val (.int x2), .val (.int x3)] [] := by first | (simp [entryFrame, mkF, argsToLocals, Value.category]; done) | rfl
theorem d25_0 : decode jdk_42_method_147_code 0 = .ok (.aload_n 0, 1) := by decide +kernel
theorem d25_1 : decode jdk_42_method_147_code 1 = .ok (.invokevirtual 335, 3) := by decide +kernel
theorem d25_4 : decode jdk_42_method_147_code 4 = .ok (.iload_n 3, 1) := by decide +kernel
theorem d25_5 : decode jdk_42_method_147_code 5 = .ok (.if_icmp .ne 23, 3) := by decide +kernel
theorem d25_8 : decode jdk_42_method_147_code 8 = .ok (.aload_n 0, 1) := by decide +kernel
theorem d25_9 : decode jdk_42_method_147_code 9 = .ok (.getfield 9, 3) := by decide +kernel
theorem d25_12 : decode jdk_42_method_147_code 12 = .ok (.iconst 0, 1) := by decide +kernel
theorem d25_13 : decode jdk_42_method_147_code 13 = .ok (.aload_n 1, 1) := by decide +kernel
theorem d25_14 : decode jdk_42_method_147_code 14 = .ok (.iload_n 2, 1) := by decide +kernel
theorem d25_15 : decode jdk_42_method_147_code 15 = .ok (.iload_n 3, 1) := by decide +kernel
theorem d25_16 : decode jdk_42_method_147_code 16 = .ok (.ishl, 1) := by decide +kernel
theorem d25_17 : decode jdk_42_method_147_code 17 = .ok (.aload_n 0, 1) := by decide +kernel
theorem d25_18 : decode jdk_42_method_147_code 18 = .ok (.getfield 9, 3) := by decide +kernel
theorem d25_21 : decode jdk_42_method_147_code 21 = .ok (.arraylength, 1) := by decide +kernel
theorem d25_22 : decode jdk_42_method_147_code 22 = .ok (.invokestatic 212, 3) := by decide +kernel
theorem d25_25 : decode jdk_42_method_147_code 25 = .ok (.goto 18, 3) := by decide +kernel
theorem d25_43 : decode jdk_42_method_147_code 43 = .ok (.return_, 1) := by decide +kernel
set_option maxRecDepth 65536 in
set_option maxHeartbeats 40000000 in
theorem ctGb (l : Launch) (Z : State) (a0 : Array Value) (hw : ∀ d ∈ tables_1, d.before a0 Z = true) (cz : Int32) (x b : Addr) (kb : ClassId) (cap : Nat) (us bs : List Int32) (h0 : Heap) (n0 : Nat) (O : Old Z n0 h0) (G : Sta Z Z.heap "java/lang/String" "COMPACT_STRINGS" "Z" (.int cz)) (hcz : cz ≠ 0) (hcap : cap ≤ 4000) (hfit : bs.length + us.length ≤ cap) (hnb : n0 ≤ b) (S : Str Z h0 x 0 us) (Cb : Arv Z h0 b kb .byte (Int32.ofNat cap) (own_pd bs cap) (.int 0)) :
    CtN l Z (⟨"java/lang/String", "getBytes", "([BIB)V"⟩ : MethodName) jdk_42_method_147_code 4 none ({ frames := 1, cells := 0, slots := 0, locals := 18 } : Room) n0 #[(.ref x), (.ref b), (.int (Int32.ofNat bs.length)), (.int (0 : Int32))] h0 (fun v h => v = none ∧ Keep h0 h [b] ∧ Arv Z h b kb .byte (Int32.ofNat cap) (own_pd (bs ++ us) cap) (.int 0)) := by
  refine CtN.of (plainFor_of_name pn_java_lang_String) ?_
  intro p e s m below meth c T0 W0 hnm
  refine Wp.cast (ef_25_RRII m x b (Int32.ofNat bs.length) (0 : Int32)) ?_
  obtain ⟨sb, ks, Ex, Cf, Vf, Ar⟩ := id S
  refine w_aloadN W0 d25_0 rfl rfl ?_
  refine w_virt W0 (ctCd l Z a0 hw cz x us _ n0 O G hcz S) (hw _ (List.mem_of_getElem? (i := 109) rfl)) (hw _ (List.mem_of_getElem? (i := 110) rfl)) (notFace_of_selects (args := #[]) (mvT W0.wZ (hw _ (List.mem_of_getElem? (i := 112) rfl)))) (hw _ (List.mem_of_getElem? (i := 112) rfl)) (hw _ (List.mem_of_getElem? (i := 111) rfl)) (hw _ (List.mem_of_getElem? (i := 2) rfl)) (hw _ (List.mem_of_getElem? (i := 113) rfl)) (by decide) 0 (by decide) (by decide) (by decide) (by decide) (a := x) Ex (argsL := []) (rest := []) pd_5 rfl rfl rfl rfl rfl d25_1 ?_
  rintro T1 h1 l1 _ W1 ⟨rfl, rfl⟩
  refine w_iloadN W1 d25_4 rfl ?_
  refine w_icmpne W1 (pc' := 28) d25_5 (by decide) (fun c5 => absurd c5 (by decide)) (fun c5 => ?_)
  refine w_aloadN W1 d25_8 rfl rfl ?_
  refine w_getf W1 (host := "") (Or.inl (hw _ (List.mem_of_getElem? (i := 28) rfl))) Via.refl Vf d25_9 ?_
  intro T2 W2
  refine w_iconst W2 (z := (0 : Int32)) d25_12 (by rfl) ?_
  refine w_aloadN W2 d25_13 rfl rfl ?_
  refine w_iloadN W2 d25_14 rfl ?_
  refine w_iloadN W2 d25_15 rfl ?_
  refine w_ishl W2 d25_16 (own_shl0 _) ?_
  refine w_aloadN W2 d25_17 rfl rfl ?_
  refine w_getf W2 (host := "") (Or.inl (hw _ (List.mem_of_getElem? (i := 28) rfl))) Via.refl Vf d25_18 ?_
  intro T3 W3
  refine w_arrlen W3 Ar d25_21 ?_
  refine w_acopy W3 (hw _ (List.mem_of_getElem? (i := 135) rfl)) (hw _ (List.mem_of_getElem? (i := 138) rfl)) (hw _ (List.mem_of_getElem? (i := 136) rfl)) (hw _ (List.mem_of_getElem? (i := 137) rfl)) Ar Cb rfl (by decide) (own_nn0 (by omega)) (own_nn0 (by omega)) (by rw [own_clamp (by omega)]; simp) (by rw [own_clamp (by omega), own_clamp (by omega), own_clamp (by omega)]; exact hfit) (us := (us.map Value.int)) (by rw [own_clamp (by omega)]; exact own_cpS us) (by rw [own_pdLen, own_clamp (by omega), own_clamp (by omega)]; exact hfit) hnb 0 rfl rfl (by decide) (by decide) d25_22 ?_
  intro T4 h4 l4 W4 K4 V4
  have V2 : Arv Z h4 b kb .byte (Int32.ofNat cap) (own_pd (bs ++ us) cap) (.int 0) := by rw [← own_pdApp hfit]; have q := V4; rw [own_clamp (by omega), own_clamp (by omega)] at q; exact q
  refine w_goto W4 (pc' := 43) d25_25 (by decide) ?_
  exact n_rV W4 rfl d25_43 (by decide) (by decide) ⟨rfl, K4, V2⟩
theorem ef_24_RR (m : MethodId) (x0 : Addr) (x1 : Addr) : entryFrame m #[(.ref x0), (.ref x1)] 2 = mkF m 0 #[.val (.ref x0), .val (.ref x1)] [] := by first | (simp [entryFrame, mkF, argsToLocals, Value.category]; done) | rfl
theorem d24_0 : decode jdk_68_method_71_code 0 = .ok (.getstatic 18, 3) := by decide +kernel
theorem d24_3 : decode jdk_68_method_71_code 3 = .ok (.ifCond .eq 18, 3) := by decide +kernel
theorem d24_6 : decode jdk_68_method_71_code 6 = .ok (.aload_n 0, 1) := by decide +kernel
theorem d24_7 : decode jdk_68_method_71_code 7 = .ok (.getfield 22, 3) := by decide +kernel
theorem d24_10 : decode jdk_68_method_71_code 10 = .ok (.aload_n 1, 1) := by decide +kernel
theorem d24_11 : decode jdk_68_method_71_code 11 = .ok (.invokevirtual 40, 3) := by decide +kernel
theorem d24_14 : decode jdk_68_method_71_code 14 = .ok (.if_icmp .eq 7, 3) := by decide +kernel
theorem d24_21 : decode jdk_68_method_71_code 21 = .ok (.return_, 1) := by decide +kernel
set_option maxRecDepth 65536 in
set_option maxHeartbeats 40000000 in
theorem ctIf (l : Launch) (Z : State) (a0 : Array Value) (hw : ∀ d ∈ tables_1, d.before a0 Z = true) (cz : Int32) (x b : Addr) (cap : Nat) (bs : List Int32) (a : Addr) (us : List Int32) (h0 : Heap) (n0 : Nat) (O : Old Z n0 h0) (G : Sta Z Z.heap "java/lang/String" "COMPACT_STRINGS" "Z" (.int cz)) (hcz : cz ≠ 0) (F : SB Z n0 h0 x b cap bs) (S : Str Z h0 a 0 us) :
    CtN l Z (⟨"java/lang/AbstractStringBuilder", "inflateIfNeededFor", "(Ljava/lang/String;)V"⟩ : MethodName) jdk_68_method_71_code 2 none ({ frames := 1, cells := 0, slots := 0, locals := 13 } : Room) n0 #[(.ref x), (.ref a)] h0 (fun v h => v = none ∧ h0 = h) := by
  refine CtN.of (plainFor_of_name pn_java_lang_AbstractStringBuilder) ?_
  intro p e s m below meth c T0 W0 hnm
  refine Wp.cast (ef_24_RR m x a) ?_
  obtain ⟨Ex, Fc, Fn, Fv, hnx, hnb, hle, hcap, kb, Cb⟩ := id F
  have Ea := S.exa
  refine w_gets W0 (host := "") (Or.inl (hw _ (List.mem_of_getElem? (i := 64) rfl))) Via.refl (own_staOld O G) d24_0 ?_
  intro T1 W1
  refine w_ifeq W1 (pc' := 21) d24_3 (by decide) (fun c3 => ?_) (fun c3 => ?_)
  · exact absurd c3 hcz
  · refine w_aloadN W1 d24_6 rfl rfl ?_
    refine w_getf W1 (host := "") (Or.inl (hw _ (List.mem_of_getElem? (i := 67) rfl))) Via.refl Fc d24_7 ?_
    intro T2 W2
    refine w_aloadN W2 d24_10 rfl rfl ?_
    refine w_virt W2 (ctCd l Z a0 hw cz a us _ n0 O G hcz S) (hw _ (List.mem_of_getElem? (i := 129) rfl)) (hw _ (List.mem_of_getElem? (i := 110) rfl)) (notFace_of_selects (args := #[]) (mvT W2.wZ (hw _ (List.mem_of_getElem? (i := 112) rfl)))) (hw _ (List.mem_of_getElem? (i := 112) rfl)) (hw _ (List.mem_of_getElem? (i := 111) rfl)) (hw _ (List.mem_of_getElem? (i := 2) rfl)) (hw _ (List.mem_of_getElem? (i := 113) rfl)) (by decide) 1 (by decide) (by decide) (by decide) (by decide) (a := a) Ea (argsL := []) (rest := [(.int (0 : Int32))]) pd_5 rfl rfl rfl rfl rfl d24_11 ?_
    rintro T3 h3 l3 _ W3 ⟨rfl, rfl⟩
    refine w_icmpeq W3 (pc' := 21) d24_14 (by decide) (fun c14 => ?_) (fun c14 => absurd c14 (by decide))
    exact n_rV W3 rfl d24_21 (by decide) (by decide) ⟨rfl, rfl⟩
theorem ef_23_RIR (m : MethodId) (x0 : Addr) (x1 : Int32) (x2 : Addr) : entryFrame m #[(.ref x0), (.int x1), (.ref x2)] 3 = mkF m 0 #[.val (.ref x0), .val (.int x1), .val (.ref x2)] [] := by first | (simp [entryFrame, mkF, argsToLocals, Value.category]; done) | rfl
theorem d23_0 : decode jdk_68_method_73_code 0 = .ok (.aload_n 0, 1) := by decide +kernel
theorem d23_1 : decode jdk_68_method_73_code 1 = .ok (.aload_n 2, 1) := by decide +kernel
theorem d23_2 : decode jdk_68_method_73_code 2 = .ok (.invokevirtual 397, 3) := by decide +kernel
theorem pd_11 : parseMethodDescriptor "(Ljava/lang/String;)V" = some ⟨[(.object "java/lang/String")], none⟩ := by decide +kernel
theorem d23_5 : decode jdk_68_method_73_code 5 = .ok (.aload_n 2, 1) := by decide +kernel
theorem d23_6 : decode jdk_68_method_73_code 6 = .ok (.aload_n 0, 1) := by decide +kernel
theorem d23_7 : decode jdk_68_method_73_code 7 = .ok (.getfield 15, 3) := by decide +kernel
theorem d23_10 : decode jdk_68_method_73_code 10 = .ok (.iload_n 1, 1) := by decide +kernel
theorem d23_11 : decode jdk_68_method_73_code 11 = .ok (.aload_n 0, 1) := by decide +kernel
theorem d23_12 : decode jdk_68_method_73_code 12 = .ok (.getfield 22, 3) := by decide +kernel
theorem d23_15 : decode jdk_68_method_73_code 15 = .ok (.invokevirtual 399, 3) := by decide +kernel
theorem pd_12 : parseMethodDescriptor "([BIB)V" = some ⟨[(.array .byte), .int, .byte], none⟩ := by decide +kernel
theorem d23_18 : decode jdk_68_method_73_code 18 = .ok (.return_, 1) := by decide +kernel
set_option maxRecDepth 65536 in
set_option maxHeartbeats 40000000 in
theorem ctPs (l : Launch) (Z : State) (a0 : Array Value) (hw : ∀ d ∈ tables_1, d.before a0 Z = true) (cz : Int32) (x b : Addr) (cap : Nat) (bs : List Int32) (a : Addr) (us : List Int32) (h0 : Heap) (n0 : Nat) (hfit : bs.length + us.length ≤ cap) (O : Old Z n0 h0) (G : Sta Z Z.heap "java/lang/String" "COMPACT_STRINGS" "Z" (.int cz)) (hcz : cz ≠ 0) (F : SB Z n0 h0 x b cap bs) (S : Str Z h0 a 0 us) :
    CtN l Z (⟨"java/lang/AbstractStringBuilder", "putStringAt", "(ILjava/lang/String;)V"⟩ : MethodName) jdk_68_method_73_code 3 none ({ frames := 2, cells := 0, slots := 0, locals := 33 } : Room) n0 #[(.ref x), (.int (Int32.ofNat bs.length)), (.ref a)] h0 (fun v h => v = none ∧ Keep h0 h [b] ∧ ∃ k, Arv Z h b k .byte (Int32.ofNat cap) (own_pd (bs ++ us) cap) (.int 0)) := by
  refine CtN.of (plainFor_of_name pn_java_lang_AbstractStringBuilder) ?_
  intro p e s m below meth c T0 W0 hnm
  refine Wp.cast (ef_23_RIR m x (Int32.ofNat bs.length) a) ?_
  obtain ⟨Ex, Fc, Fn, Fv, hnx, hnb, hle, hcap, kb, Cb⟩ := id F
  have Ea := S.exa
  refine w_aloadN W0 d23_0 rfl rfl ?_
  refine w_aloadN W0 d23_1 rfl rfl ?_
  refine w_priv W0 (ctIf l Z a0 hw cz x b cap bs a us _ n0 O G hcz F S) (Cls.sel (z := ({ cls := "java/lang/AbstractStringBuilder", name := "ensureCapacityInternal", desc := "(I)V" } : Jvm.MethodName)) (hw _ (List.mem_of_getElem? (i := 117) rfl)) : Cls Z "java/lang/AbstractStringBuilder") (hw _ (List.mem_of_getElem? (i := 126) rfl)) (hw _ (List.mem_of_getElem? (i := 124) rfl)) (hw _ (List.mem_of_getElem? (i := 125) rfl)) (hw _ (List.mem_of_getElem? (i := 61) rfl)) (hw _ (List.mem_of_getElem? (i := 128) rfl)) (by decide) 0 (by decide) (by decide) (by decide) (by decide) (a := x) Ex (argsL := [(.ref a)]) (rest := []) pd_11 rfl rfl rfl rfl rfl d23_2 ?_
  rintro T1 h1 l1 _ W1 ⟨rfl, rfl⟩
  refine w_aloadN W1 d23_5 rfl rfl ?_
  refine w_aloadN W1 d23_6 rfl rfl ?_
  refine w_getf W1 (host := "") (Or.inl (hw _ (List.mem_of_getElem? (i := 65) rfl))) Via.refl Fv d23_7 ?_
  intro T2 W2
  refine w_iloadN W2 d23_10 rfl ?_
  refine w_aloadN W2 d23_11 rfl rfl ?_
  refine w_getf W2 (host := "") (Or.inl (hw _ (List.mem_of_getElem? (i := 67) rfl))) Via.refl Fc d23_12 ?_
  intro T3 W3
  refine w_virt W3 (ctGb l Z a0 hw cz a b kb cap us bs _ n0 O G hcz hcap hfit hnb S Cb) (hw _ (List.mem_of_getElem? (i := 130) rfl)) (hw _ (List.mem_of_getElem? (i := 131) rfl)) (notFace_of_selects (args := #[]) (mvT W3.wZ (hw _ (List.mem_of_getElem? (i := 133) rfl)))) (hw _ (List.mem_of_getElem? (i := 133) rfl)) (hw _ (List.mem_of_getElem? (i := 132) rfl)) (hw _ (List.mem_of_getElem? (i := 2) rfl)) (hw _ (List.mem_of_getElem? (i := 134) rfl)) (by decide) 0 (by decide) (by decide) (by decide) (by decide) (a := a) Ea (argsL := [(.ref b), (.int (Int32.ofNat bs.length)), (.int (0 : Int32))]) (rest := []) pd_12 rfl rfl rfl rfl rfl d23_15 ?_
  rintro T4 h4 l4 _ W4 ⟨rfl, K, V⟩
  exact n_rV W4 rfl d23_18 (by decide) (by decide) ⟨rfl, K, kb, V⟩
theorem ef_19_RR (m : MethodId) (x0 : Addr) (x1 : Addr) : entryFrame m #[(.ref x0), (.ref x1)] 3 = mkF m 0 #[.val (.ref x0), .val (.ref x1), .unset] [] := by first | (simp [entryFrame, mkF, argsToLocals, Value.category]; done) | rfl
theorem d19_0 : decode jdk_68_method_22_code 0 = .ok (.aload_n 1, 1) := by decide +kernel
theorem d19_1 : decode jdk_68_method_22_code 1 = .ok (.ifnonnull 8, 3) := by decide +kernel
theorem d19_9 : decode jdk_68_method_22_code 9 = .ok (.aload_n 1, 1) := by decide +kernel
theorem d19_10 : decode jdk_68_method_22_code 10 = .ok (.invokevirtual 32, 3) := by decide +kernel
theorem d19_13 : decode jdk_68_method_22_code 13 = .ok (.istore_n 2, 1) := by decide +kernel
theorem d19_14 : decode jdk_68_method_22_code 14 = .ok (.aload_n 0, 1) := by decide +kernel
theorem d19_15 : decode jdk_68_method_22_code 15 = .ok (.aload_n 0, 1) := by decide +kernel
theorem d19_16 : decode jdk_68_method_22_code 16 = .ok (.getfield 79, 3) := by decide +kernel
theorem d19_19 : decode jdk_68_method_22_code 19 = .ok (.iload_n 2, 1) := by decide +kernel
theorem d19_20 : decode jdk_68_method_22_code 20 = .ok (.iadd, 1) := by decide +kernel
theorem d19_21 : decode jdk_68_method_22_code 21 = .ok (.invokevirtual 100, 3) := by decide +kernel
theorem pd_13 : parseMethodDescriptor "(I)V" = some ⟨[.int], none⟩ := by decide +kernel
theorem d19_24 : decode jdk_68_method_22_code 24 = .ok (.aload_n 0, 1) := by decide +kernel
theorem d19_25 : decode jdk_68_method_22_code 25 = .ok (.aload_n 0, 1) := by decide +kernel
theorem d19_26 : decode jdk_68_method_22_code 26 = .ok (.getfield 79, 3) := by decide +kernel
theorem d19_29 : decode jdk_68_method_22_code 29 = .ok (.aload_n 1, 1) := by decide +kernel
theorem d19_30 : decode jdk_68_method_22_code 30 = .ok (.invokevirtual 208, 3) := by decide +kernel
theorem pd_14 : parseMethodDescriptor "(ILjava/lang/String;)V" = some ⟨[.int, (.object "java/lang/String")], none⟩ := by decide +kernel
theorem d19_33 : decode jdk_68_method_22_code 33 = .ok (.aload_n 0, 1) := by decide +kernel
theorem d19_34 : decode jdk_68_method_22_code 34 = .ok (.dup, 1) := by decide +kernel
theorem d19_35 : decode jdk_68_method_22_code 35 = .ok (.getfield 79, 3) := by decide +kernel
theorem d19_38 : decode jdk_68_method_22_code 38 = .ok (.iload_n 2, 1) := by decide +kernel
theorem d19_39 : decode jdk_68_method_22_code 39 = .ok (.iadd, 1) := by decide +kernel
theorem d19_40 : decode jdk_68_method_22_code 40 = .ok (.putfield 79, 3) := by decide +kernel
theorem d19_43 : decode jdk_68_method_22_code 43 = .ok (.aload_n 0, 1) := by decide +kernel
theorem d19_44 : decode jdk_68_method_22_code 44 = .ok (.areturn, 1) := by decide +kernel
set_option maxRecDepth 65536 in
set_option maxHeartbeats 40000000 in
theorem ctAs (l : Launch) (Z : State) (a0 : Array Value) (hw : ∀ d ∈ tables_1, d.before a0 Z = true) (cz : Int32) (x b : Addr) (cap : Nat) (bs : List Int32) (a : Addr) (us : List Int32) (h0 : Heap) (n0 : Nat) (hfit : bs.length + us.length ≤ cap) (O : Old Z n0 h0) (G : Sta Z Z.heap "java/lang/String" "COMPACT_STRINGS" "Z" (.int cz)) (hcz : cz ≠ 0) (F : SB Z n0 h0 x b cap bs) (S : Str Z h0 a 0 us) :
    CtN l Z (⟨"java/lang/AbstractStringBuilder", "append", "(Ljava/lang/String;)Ljava/lang/AbstractStringBuilder;"⟩ : MethodName) jdk_68_method_22_code 3 (some (.object "java/lang/AbstractStringBuilder")) ({ frames := 3, cells := 0, slots := 0, locals := 47 } : Room) n0 #[(.ref x), (.ref a)] h0 (fun v h => v = some (.ref x) ∧ Keep h0 h [x, b] ∧ SB Z n0 h x b cap (bs ++ us)) := by
  refine CtN.of (plainFor_of_name pn_java_lang_AbstractStringBuilder) ?_
  intro p e s m below meth c T0 W0 hnm
  refine Wp.cast (ef_19_RR m x a) ?_
  have Ea := S.exa
  obtain ⟨Ex, Fc, Fn, Fv, hnx, hnb, hle, hcap, kb, Cb⟩ := id F
  refine w_aloadN W0 d19_0 rfl rfl ?_
  refine w_ifnonnullY W0 (pc' := 9) d19_1 (by decide) ?_
  refine w_aloadN W0 d19_9 rfl rfl ?_
  refine w_virt W0 (ctLn l Z a0 hw cz a us _ n0 O G hcz S) (hw _ (List.mem_of_getElem? (i := 104) rfl)) (hw _ (List.mem_of_getElem? (i := 105) rfl)) (notFace_of_selects (args := #[]) (mvT W0.wZ (hw _ (List.mem_of_getElem? (i := 107) rfl)))) (hw _ (List.mem_of_getElem? (i := 107) rfl)) (hw _ (List.mem_of_getElem? (i := 106) rfl)) (hw _ (List.mem_of_getElem? (i := 2) rfl)) (hw _ (List.mem_of_getElem? (i := 108) rfl)) (by decide) 0 (by decide) (by decide) (by decide) (by decide) (a := a) Ea (argsL := []) (rest := []) pd_7 rfl rfl rfl rfl rfl d19_10 ?_
  rintro T1 h1 l1 _ W1 ⟨rfl, rfl⟩
  refine w_istoreN W1 (L' := #[.val (.ref x), .val (.ref a), .val (.int (Int32.ofNat us.length))]) d19_13 rfl ?_
  refine w_aloadN W1 d19_14 rfl rfl ?_
  refine w_aloadN W1 d19_15 rfl rfl ?_
  refine w_getf W1 (host := "") (Or.inl (hw _ (List.mem_of_getElem? (i := 90) rfl))) Via.refl Fn d19_16 ?_
  intro T2 W2
  refine w_iloadN W2 d19_19 rfl ?_
  refine w_iadd W2 d19_20 own_addN ?_
  refine w_priv W2 (ctEc l Z a0 hw x b cap bs (bs.length + us.length) _ n0 hfit F) (Cls.sel (z := ({ cls := "java/lang/AbstractStringBuilder", name := "ensureCapacityInternal", desc := "(I)V" } : Jvm.MethodName)) (hw _ (List.mem_of_getElem? (i := 117) rfl)) : Cls Z "java/lang/AbstractStringBuilder") (hw _ (List.mem_of_getElem? (i := 116) rfl)) (hw _ (List.mem_of_getElem? (i := 114) rfl)) (hw _ (List.mem_of_getElem? (i := 115) rfl)) (hw _ (List.mem_of_getElem? (i := 61) rfl)) (hw _ (List.mem_of_getElem? (i := 118) rfl)) (by decide) 0 (by decide) (by decide) (by decide) (by decide) (a := x) Ex (argsL := [(.int (Int32.ofNat (bs.length + us.length)))]) (rest := []) pd_13 rfl rfl rfl rfl rfl d19_21 ?_
  rintro T3 h3 l3 _ W3 ⟨rfl, rfl⟩
  refine w_aloadN W3 d19_24 rfl rfl ?_
  refine w_aloadN W3 d19_25 rfl rfl ?_
  refine w_getf W3 (host := "") (Or.inl (hw _ (List.mem_of_getElem? (i := 90) rfl))) Via.refl Fn d19_26 ?_
  intro T4 W4
  refine w_aloadN W4 d19_29 rfl rfl ?_
  refine w_priv W4 (ctPs l Z a0 hw cz x b cap bs a us _ n0 hfit O G hcz F S) (Cls.sel (z := ({ cls := "java/lang/AbstractStringBuilder", name := "ensureCapacityInternal", desc := "(I)V" } : Jvm.MethodName)) (hw _ (List.mem_of_getElem? (i := 117) rfl)) : Cls Z "java/lang/AbstractStringBuilder") (hw _ (List.mem_of_getElem? (i := 121) rfl)) (hw _ (List.mem_of_getElem? (i := 119) rfl)) (hw _ (List.mem_of_getElem? (i := 120) rfl)) (hw _ (List.mem_of_getElem? (i := 61) rfl)) (hw _ (List.mem_of_getElem? (i := 123) rfl)) (by decide) 0 (by decide) (by decide) (by decide) (by decide) (a := x) Ex (argsL := [(.int (Int32.ofNat bs.length)), (.ref a)]) (rest := []) pd_14 rfl rfl rfl rfl rfl d19_30 ?_
  rintro T5 h5 l5 _ W5 ⟨rfl, K2, k2, V2⟩
  have nxb : x ≠ b := Exa.neArv Ex Cb (hw _ (List.mem_of_getElem? (i := 52) rfl))
  have Ex2 := Ex.keep K2
  have Fc2 := Fc.keep K2 (ninS nxb nin0)
  have Fn2 := Fn.keep K2 (ninS nxb nin0)
  have Fv2 := Fv.keep K2 (ninS nxb nin0)
  refine w_aloadN W5 d19_33 rfl rfl ?_
  refine w_dup W5 d19_34 rfl ?_
  refine w_getf W5 (host := "") (Or.inl (hw _ (List.mem_of_getElem? (i := 90) rfl))) Via.refl Fn2 d19_35 ?_
  intro T6 W6
  refine w_iloadN W6 d19_38 rfl ?_
  refine w_iadd W6 d19_39 own_addN ?_
  refine w_putf W6 (hw _ (List.mem_of_getElem? (i := 90) rfl)) Via.refl Fn2 Ex2 (Or.inl (hw _ (List.mem_of_getElem? (i := 91) rfl))) (hw _ (List.mem_of_getElem? (i := 52) rfl)) (ty := .int) (v' := (.int (Int32.ofNat (bs.length + us.length)))) (by decide) (by rfl) (rfl) hnx d19_40 ?_
  intro T7 h7 l7 W7 Wr7
  have V3 := V2.other Wr7 nxb.symm
  have F3 : SB Z n0 h7 x b cap (bs ++ us) := ⟨Ex2.wr Wr7, Fc2.other Wr7 (Or.inr (slot_ne (Or.inl (hw _ (List.mem_of_getElem? (i := 68) rfl))) (Or.inl (hw _ (List.mem_of_getElem? (i := 91) rfl))) (by decide) (t := .byte) (t' := .int) (by decide) (by decide))), by have q := Fn2.same Wr7; rw [List.length_append]; exact q, Fv2.other Wr7 (Or.inr (slot_ne (Or.inl (hw _ (List.mem_of_getElem? (i := 66) rfl))) (Or.inl (hw _ (List.mem_of_getElem? (i := 91) rfl))) (by decide) (t := (.array .byte)) (t' := .int) (by decide) (by decide))), hnx, hnb, by rw [List.length_append]; omega, by omega, k2, V3⟩
  have Kx : Keep h0 h7 [x, b] := (own_keep2 K2).wr Wr7 (Or.inl (List.mem_cons_self ..))
  refine w_aloadN W7 d19_43 rfl rfl ?_
  exact n_rA W7 rfl rfl rfl d19_44 (by decide) (by decide) ⟨rfl, Kx, F3⟩
set_option maxRecDepth 65536 in
set_option maxHeartbeats 40000000 in
theorem ctAg (l : Launch) (Z : State) (a0 : Array Value) (hw : ∀ d ∈ tables_1, d.before a0 Z = true) (cz : Int32) (x b : Addr) (cap : Nat) (bs : List Int32) (a : Addr) (us : List Int32) (h0 : Heap) (n0 : Nat) (hu : us.length ≤ 4000) (hne : us.length ≠ cap) (hq : cap < (bs.length + us.length)) (hq2 : (bs.length + us.length) ≤ 4000) (hc2 : (cap + max ((bs.length + us.length) - cap) (cap + 2)) ≤ 34) (O : Old Z n0 h0) (G : Sta Z Z.heap "java/lang/String" "COMPACT_STRINGS" "Z" (.int cz)) (hcz : cz ≠ 0) (F : SB Z n0 h0 x b cap bs) (S : Str Z h0 a 0 us) :
    CtN l Z (⟨"java/lang/AbstractStringBuilder", "append", "(Ljava/lang/String;)Ljava/lang/AbstractStringBuilder;"⟩ : MethodName) jdk_68_method_22_code 3 (some (.object "java/lang/AbstractStringBuilder")) ({ frames := 4, cells := 1, slots := 34, locals := 62 } : Room) n0 #[(.ref x), (.ref a)] h0 (fun v h => v = some (.ref x) ∧ Keep h0 h [x, b] ∧ ∃ nb, h0.size ≤ nb ∧ SB Z n0 h x nb (cap + max ((bs.length + us.length) - cap) (cap + 2)) (bs ++ us)) := by
  refine CtN.of (plainFor_of_name pn_java_lang_AbstractStringBuilder) ?_
  intro p e s m below meth c T0 W0 hnm
  refine Wp.cast (ef_19_RR m x a) ?_
  have Ea := S.exa
  obtain ⟨Ex, Fc, Fn, Fv, hnx, hnb, hle, hcap, kb, Cb⟩ := id F
  refine w_aloadN W0 d19_0 rfl rfl ?_
  refine w_ifnonnullY W0 (pc' := 9) d19_1 (by decide) ?_
  refine w_aloadN W0 d19_9 rfl rfl ?_
  refine w_virt W0 (ctLn l Z a0 hw cz a us _ n0 O G hcz S) (hw _ (List.mem_of_getElem? (i := 104) rfl)) (hw _ (List.mem_of_getElem? (i := 105) rfl)) (notFace_of_selects (args := #[]) (mvT W0.wZ (hw _ (List.mem_of_getElem? (i := 107) rfl)))) (hw _ (List.mem_of_getElem? (i := 107) rfl)) (hw _ (List.mem_of_getElem? (i := 106) rfl)) (hw _ (List.mem_of_getElem? (i := 2) rfl)) (hw _ (List.mem_of_getElem? (i := 108) rfl)) (by decide) 0 (by decide) (by decide) (by decide) (by decide) (a := a) Ea (argsL := []) (rest := []) pd_7 rfl rfl rfl rfl rfl d19_10 ?_
  rintro T1 h1 l1 _ W1 ⟨rfl, rfl⟩
  refine w_istoreN W1 (L' := #[.val (.ref x), .val (.ref a), .val (.int (Int32.ofNat us.length))]) d19_13 rfl ?_
  refine w_aloadN W1 d19_14 rfl rfl ?_
  refine w_aloadN W1 d19_15 rfl rfl ?_
  refine w_getf W1 (host := "") (Or.inl (hw _ (List.mem_of_getElem? (i := 90) rfl))) Via.refl Fn d19_16 ?_
  intro T2 W2
  refine w_iloadN W2 d19_19 rfl ?_
  refine w_iadd W2 d19_20 own_addN ?_
  refine w_priv W2 (ctEg l Z a0 hw x b cap bs (bs.length + us.length) _ n0 O hq hq2 hc2 F) (Cls.sel (z := ({ cls := "java/lang/AbstractStringBuilder", name := "ensureCapacityInternal", desc := "(I)V" } : Jvm.MethodName)) (hw _ (List.mem_of_getElem? (i := 117) rfl)) : Cls Z "java/lang/AbstractStringBuilder") (hw _ (List.mem_of_getElem? (i := 116) rfl)) (hw _ (List.mem_of_getElem? (i := 114) rfl)) (hw _ (List.mem_of_getElem? (i := 115) rfl)) (hw _ (List.mem_of_getElem? (i := 61) rfl)) (hw _ (List.mem_of_getElem? (i := 118) rfl)) (by decide) 0 (by decide) (by decide) (by decide) (by decide) (a := x) Ex (argsL := [(.int (Int32.ofNat (bs.length + us.length)))]) (rest := []) pd_13 rfl rfl rfl rfl rfl d19_21 ?_
  rintro T3 h3 l3 _ W3 ⟨rfl, K1, nb, hnb2, F1⟩
  have S1 := S.keepSB F hu hne (hw _ (List.mem_of_getElem? (i := 1) rfl)) (hw _ (List.mem_of_getElem? (i := 52) rfl)) (own_keep1 K1)
  have O1 := O.keep K1 (allS hnx all0)
  obtain ⟨Ex1, Fc1, Fn1, Fv1, hnx1, hnb1, hle1, hcap1, kb1, Cb1⟩ := id F1
  refine w_aloadN W3 d19_24 rfl rfl ?_
  refine w_aloadN W3 d19_25 rfl rfl ?_
  refine w_getf W3 (host := "") (Or.inl (hw _ (List.mem_of_getElem? (i := 90) rfl))) Via.refl Fn1 d19_26 ?_
  intro T4 W4
  refine w_aloadN W4 d19_29 rfl rfl ?_
  refine w_priv W4 (ctPs l Z a0 hw cz x nb (cap + max ((bs.length + us.length) - cap) (cap + 2)) bs a us _ n0 (by omega) O1 G hcz F1 S1) (Cls.sel (z := ({ cls := "java/lang/AbstractStringBuilder", name := "ensureCapacityInternal", desc := "(I)V" } : Jvm.MethodName)) (hw _ (List.mem_of_getElem? (i := 117) rfl)) : Cls Z "java/lang/AbstractStringBuilder") (hw _ (List.mem_of_getElem? (i := 121) rfl)) (hw _ (List.mem_of_getElem? (i := 119) rfl)) (hw _ (List.mem_of_getElem? (i := 120) rfl)) (hw _ (List.mem_of_getElem? (i := 61) rfl)) (hw _ (List.mem_of_getElem? (i := 123) rfl)) (by decide) 0 (by decide) (by decide) (by decide) (by decide) (a := x) Ex1 (argsL := [(.int (Int32.ofNat bs.length)), (.ref a)]) (rest := []) pd_14 rfl rfl rfl rfl rfl d19_30 ?_
  rintro T5 h5 l5 _ W5 ⟨rfl, K2, k2, V2⟩
  have nxb : x ≠ nb := Exa.neArv Ex1 Cb1 (hw _ (List.mem_of_getElem? (i := 52) rfl))
  have Ex2 := Ex1.keep K2
  have Fc2 := Fc1.keep K2 (ninS nxb nin0)
  have Fn2 := Fn1.keep K2 (ninS nxb nin0)
  have Fv2 := Fv1.keep K2 (ninS nxb nin0)
  refine w_aloadN W5 d19_33 rfl rfl ?_
  refine w_dup W5 d19_34 rfl ?_
  refine w_getf W5 (host := "") (Or.inl (hw _ (List.mem_of_getElem? (i := 90) rfl))) Via.refl Fn2 d19_35 ?_
  intro T6 W6
  refine w_iloadN W6 d19_38 rfl ?_
  refine w_iadd W6 d19_39 own_addN ?_
  refine w_putf W6 (hw _ (List.mem_of_getElem? (i := 90) rfl)) Via.refl Fn2 Ex2 (Or.inl (hw _ (List.mem_of_getElem? (i := 91) rfl))) (hw _ (List.mem_of_getElem? (i := 52) rfl)) (ty := .int) (v' := (.int (Int32.ofNat (bs.length + us.length)))) (by decide) (by rfl) (rfl) hnx d19_40 ?_
  intro T7 h7 l7 W7 Wr7
  have V3 := V2.other Wr7 nxb.symm
  have F3 : SB Z n0 h7 x nb (cap + max ((bs.length + us.length) - cap) (cap + 2)) (bs ++ us) := ⟨Ex2.wr Wr7, Fc2.other Wr7 (Or.inr (slot_ne (Or.inl (hw _ (List.mem_of_getElem? (i := 68) rfl))) (Or.inl (hw _ (List.mem_of_getElem? (i := 91) rfl))) (by decide) (t := .byte) (t' := .int) (by decide) (by decide))), by have q := Fn2.same Wr7; rw [List.length_append]; exact q, Fv2.other Wr7 (Or.inr (slot_ne (Or.inl (hw _ (List.mem_of_getElem? (i := 66) rfl))) (Or.inl (hw _ (List.mem_of_getElem? (i := 91) rfl))) (by decide) (t := (.array .byte)) (t' := .int) (by decide) (by decide))), hnx, hnb1, by rw [List.length_append]; omega, by omega, k2, V3⟩
  have Kx : Keep h0 h7 [x, b] := ((own_keep1 K1).trans K2 (fun y hy => by cases List.mem_singleton.mp hy; exact Or.inr hnb2)).wr Wr7 (Or.inl (List.mem_cons_self ..))
  refine w_aloadN W7 d19_43 rfl rfl ?_
  exact n_rA W7 rfl rfl rfl d19_44 (by decide) (by decide) ⟨rfl, Kx, nb, hnb2, F3⟩
theorem ef_18_RR (m : MethodId) (x0 : Addr) (x1 : Addr) : entryFrame m #[(.ref x0), (.ref x1)] 2 = mkF m 0 #[.val (.ref x0), .val (.ref x1)] [] := by first | (simp [entryFrame, mkF, argsToLocals, Value.category]; done) | rfl
theorem d18_0 : decode jdk_67_method_7_code 0 = .ok (.aload_n 0, 1) := by decide +kernel
theorem d18_1 : decode jdk_67_method_7_code 1 = .ok (.aload_n 1, 1) := by decide +kernel
theorem d18_2 : decode jdk_67_method_7_code 2 = .ok (.invokespecial 29, 3) := by decide +kernel
theorem pd_15 : parseMethodDescriptor "(Ljava/lang/String;)Ljava/lang/AbstractStringBuilder;" = some ⟨[(.object "java/lang/String")], some (.object "java/lang/AbstractStringBuilder")⟩ := by decide +kernel
theorem d18_5 : decode jdk_67_method_7_code 5 = .ok (.pop, 1) := by decide +kernel
theorem d18_6 : decode jdk_67_method_7_code 6 = .ok (.aload_n 0, 1) := by decide +kernel
theorem d18_7 : decode jdk_67_method_7_code 7 = .ok (.areturn, 1) := by decide +kernel
set_option maxRecDepth 65536 in
set_option maxHeartbeats 40000000 in
theorem ctBs (l : Launch) (Z : State) (a0 : Array Value) (hw : ∀ d ∈ tables_1, d.before a0 Z = true) (cz : Int32) (x b : Addr) (cap : Nat) (bs : List Int32) (a : Addr) (us : List Int32) (h0 : Heap) (n0 : Nat) (hfit : bs.length + us.length ≤ cap) (O : Old Z n0 h0) (G : Sta Z Z.heap "java/lang/String" "COMPACT_STRINGS" "Z" (.int cz)) (hcz : cz ≠ 0) (F : SB Z n0 h0 x b cap bs) (S : Str Z h0 a 0 us) :
    CtN l Z (⟨"java/lang/StringBuilder", "append", "(Ljava/lang/String;)Ljava/lang/StringBuilder;"⟩ : MethodName) jdk_67_method_7_code 2 (some (.object "java/lang/StringBuilder")) ({ frames := 4, cells := 0, slots := 0, locals := 61 } : Room) n0 #[(.ref x), (.ref a)] h0 (fun v h => v = some (.ref x) ∧ Keep h0 h [x, b] ∧ SB Z n0 h x b cap (bs ++ us)) := by
  refine CtN.of (plainFor_of_name pn_java_lang_StringBuilder) ?_
  intro p e s m below meth c T0 W0 hnm
  refine Wp.cast (ef_18_RR m x a) ?_
  obtain ⟨Ex, Fc, Fn, Fv, hnx, hnb, hle, hcap, kb, Cb⟩ := id F
  refine w_aloadN W0 d18_0 rfl rfl ?_
  refine w_aloadN W0 d18_1 rfl rfl ?_
  refine w_super W0 (ctAs l Z a0 hw cz x b cap bs a us _ n0 hfit O G hcz F S) (Cls.sel (z := ({ cls := "java/lang/AbstractStringBuilder", name := "ensureCapacityInternal", desc := "(I)V" } : Jvm.MethodName)) (hw _ (List.mem_of_getElem? (i := 117) rfl)) : Cls Z "java/lang/AbstractStringBuilder") (by decide) (hw _ (List.mem_of_getElem? (i := 100) rfl)) (hw _ (List.mem_of_getElem? (i := 101) rfl)) (hw _ (List.mem_of_getElem? (i := 87) rfl)) (hw _ (List.mem_of_getElem? (i := 61) rfl)) (hw _ (List.mem_of_getElem? (i := 103) rfl)) (by decide) 0 (by decide) (by decide) (by decide) (by decide) (a := x) (Ins.self Ex) (argsL := [(.ref a)]) (rest := []) pd_15 rfl rfl rfl rfl rfl d18_2 ?_
  rintro T1 h1 l1 _ W1 ⟨rfl, K, R⟩
  refine w_pop W1 d18_5 rfl ?_
  refine w_aloadN W1 d18_6 rfl rfl ?_
  exact n_rA W1 rfl rfl rfl d18_7 (by decide) (by decide) ⟨rfl, K, R⟩
set_option maxRecDepth 65536 in
set_option maxHeartbeats 40000000 in
theorem ctBg (l : Launch) (Z : State) (a0 : Array Value) (hw : ∀ d ∈ tables_1, d.before a0 Z = true) (cz : Int32) (x b : Addr) (cap : Nat) (bs : List Int32) (a : Addr) (us : List Int32) (h0 : Heap) (n0 : Nat) (hu : us.length ≤ 4000) (hne : us.length ≠ cap) (hq : cap < (bs.length + us.length)) (hq2 : (bs.length + us.length) ≤ 4000) (hc2 : (cap + max ((bs.length + us.length) - cap) (cap + 2)) ≤ 34) (O : Old Z n0 h0) (G : Sta Z Z.heap "java/lang/String" "COMPACT_STRINGS" "Z" (.int cz)) (hcz : cz ≠ 0) (F : SB Z n0 h0 x b cap bs) (S : Str Z h0 a 0 us) :
    CtN l Z (⟨"java/lang/StringBuilder", "append", "(Ljava/lang/String;)Ljava/lang/StringBuilder;"⟩ : MethodName) jdk_67_method_7_code 2 (some (.object "java/lang/StringBuilder")) ({ frames := 5, cells := 1, slots := 34, locals := 76 } : Room) n0 #[(.ref x), (.ref a)] h0 (fun v h => v = some (.ref x) ∧ Keep h0 h [x, b] ∧ ∃ nb, h0.size ≤ nb ∧ SB Z n0 h x nb (cap + max ((bs.length + us.length) - cap) (cap + 2)) (bs ++ us)) := by
  refine CtN.of (plainFor_of_name pn_java_lang_StringBuilder) ?_
  intro p e s m below meth c T0 W0 hnm
  refine Wp.cast (ef_18_RR m x a) ?_
  obtain ⟨Ex, Fc, Fn, Fv, hnx, hnb, hle, hcap, kb, Cb⟩ := id F
  refine w_aloadN W0 d18_0 rfl rfl ?_
  refine w_aloadN W0 d18_1 rfl rfl ?_
  refine w_super W0 (ctAg l Z a0 hw cz x b cap bs a us _ n0 hu hne hq hq2 hc2 O G hcz F S) (Cls.sel (z := ({ cls := "java/lang/AbstractStringBuilder", name := "ensureCapacityInternal", desc := "(I)V" } : Jvm.MethodName)) (hw _ (List.mem_of_getElem? (i := 117) rfl)) : Cls Z "java/lang/AbstractStringBuilder") (by decide) (hw _ (List.mem_of_getElem? (i := 100) rfl)) (hw _ (List.mem_of_getElem? (i := 101) rfl)) (hw _ (List.mem_of_getElem? (i := 87) rfl)) (hw _ (List.mem_of_getElem? (i := 61) rfl)) (hw _ (List.mem_of_getElem? (i := 103) rfl)) (by decide) 0 (by decide) (by decide) (by decide) (by decide) (a := x) (Ins.self Ex) (argsL := [(.ref a)]) (rest := []) pd_15 rfl rfl rfl rfl rfl d18_2 ?_
  rintro T1 h1 l1 _ W1 ⟨rfl, K, R⟩
  refine w_pop W1 d18_5 rfl ?_
  refine w_aloadN W1 d18_6 rfl rfl ?_
  exact n_rA W1 rfl rfl rfl d18_7 (by decide) (by decide) ⟨rfl, K, R⟩
theorem ef_8_I (m : MethodId) (x0 : Int32) : entryFrame m #[(.int x0)] 1 = mkF m 0 #[.val (.int x0)] [] := by first | (simp [entryFrame, mkF, argsToLocals, Value.category]; done) | rfl
theorem d8_0 : decode jdk_43_method_3_code 0 = .ok (.iload_n 0, 1) := by decide +kernel
theorem d8_1 : decode jdk_43_method_3_code 1 = .ok (.sipush 255, 3) := by decide +kernel
theorem d8_4 : decode jdk_43_method_3_code 4 = .ok (.if_icmp .gt 7, 3) := by decide +kernel
theorem d8_7 : decode jdk_43_method_3_code 7 = .ok (.iconst 1, 1) := by decide +kernel
theorem d8_8 : decode jdk_43_method_3_code 8 = .ok (.goto 4, 3) := by decide +kernel
theorem d8_12 : decode jdk_43_method_3_code 12 = .ok (.ireturn, 1) := by decide +kernel
set_option maxRecDepth 65536 in
set_option maxHeartbeats 40000000 in
theorem ctCe (l : Launch) (Z : State) (a0 : Array Value) (hw : ∀ d ∈ tables_1, d.before a0 Z = true) (k : Int32) (h0 : Heap) (n0 : Nat) (hk : ¬ (255 : Int32) < k) :
    CtN l Z (⟨"java/lang/StringLatin1", "canEncode", "(C)Z"⟩ : MethodName) jdk_43_method_3_code 1 (some .boolean) ({ frames := 0, cells := 0, slots := 0, locals := 0 } : Room) n0 #[(.int k)] h0 (fun v h => v = some (.int 1) ∧ h0 = h) := by
  refine CtN.of (plainFor_of_name pn_java_lang_StringLatin1) ?_
  intro p e s m below meth c T0 W0 hnm
  refine Wp.cast (ef_8_I m k) ?_
  refine w_iloadN W0 d8_0 rfl ?_
  refine w_sipush W0 (z := (255 : Int32)) d8_1 (by rfl) ?_
  refine w_icmpgt W0 (pc' := 11) d8_4 (by decide) (fun c4 => ?_) (fun c4 => ?_)
  · exact absurd c4 hk
  · refine w_iconst W0 (z := (1 : Int32)) d8_7 (by rfl) ?_
    refine w_goto W0 (pc' := 12) d8_8 (by decide) ?_
    exact n_rN W0 rfl (by simp) (z' := (1 : Int32)) (by rfl) d8_12 (by decide) (by decide) ⟨rfl, rfl⟩
theorem ef_27_RI (m : MethodId) (x0 : Addr) (x1 : Int32) : entryFrame m #[(.ref x0), (.int x1)] 2 = mkF m 0 #[.val (.ref x0), .val (.int x1)] [] := by first | (simp [entryFrame, mkF, argsToLocals, Value.category]; done) | rfl
theorem d27_0 : decode jdk_68_method_31_code 0 = .ok (.aload_n 0, 1) := by decide +kernel
theorem d27_1 : decode jdk_68_method_31_code 1 = .ok (.aload_n 0, 1) := by decide +kernel
theorem d27_2 : decode jdk_68_method_31_code 2 = .ok (.getfield 79, 3) := by decide +kernel
theorem d27_5 : decode jdk_68_method_31_code 5 = .ok (.iconst 1, 1) := by decide +kernel
theorem d27_6 : decode jdk_68_method_31_code 6 = .ok (.iadd, 1) := by decide +kernel
theorem d27_7 : decode jdk_68_method_31_code 7 = .ok (.invokevirtual 100, 3) := by decide +kernel
theorem d27_10 : decode jdk_68_method_31_code 10 = .ok (.aload_n 0, 1) := by decide +kernel
theorem d27_11 : decode jdk_68_method_31_code 11 = .ok (.invokevirtual 83, 3) := by decide +kernel
theorem pd_16 : parseMethodDescriptor "()Z" = some ⟨[], some .boolean⟩ := by decide +kernel
theorem d27_14 : decode jdk_68_method_31_code 14 = .ok (.ifCond .eq 31, 3) := by decide +kernel
theorem d27_17 : decode jdk_68_method_31_code 17 = .ok (.iload_n 1, 1) := by decide +kernel
theorem d27_18 : decode jdk_68_method_31_code 18 = .ok (.invokestatic 191, 3) := by decide +kernel
theorem pd_17 : parseMethodDescriptor "(C)Z" = some ⟨[.char], some .boolean⟩ := by decide +kernel
theorem d27_21 : decode jdk_68_method_31_code 21 = .ok (.ifCond .eq 24, 3) := by decide +kernel
theorem d27_24 : decode jdk_68_method_31_code 24 = .ok (.aload_n 0, 1) := by decide +kernel
theorem d27_25 : decode jdk_68_method_31_code 25 = .ok (.getfield 15, 3) := by decide +kernel
theorem d27_28 : decode jdk_68_method_31_code 28 = .ok (.aload_n 0, 1) := by decide +kernel
theorem d27_29 : decode jdk_68_method_31_code 29 = .ok (.dup, 1) := by decide +kernel
theorem d27_30 : decode jdk_68_method_31_code 30 = .ok (.getfield 79, 3) := by decide +kernel
theorem d27_33 : decode jdk_68_method_31_code 33 = .ok (.dup_x1, 1) := by decide +kernel
theorem d27_34 : decode jdk_68_method_31_code 34 = .ok (.iconst 1, 1) := by decide +kernel
theorem d27_35 : decode jdk_68_method_31_code 35 = .ok (.iadd, 1) := by decide +kernel
theorem d27_36 : decode jdk_68_method_31_code 36 = .ok (.putfield 79, 3) := by decide +kernel
theorem d27_39 : decode jdk_68_method_31_code 39 = .ok (.iload_n 1, 1) := by decide +kernel
theorem d27_40 : decode jdk_68_method_31_code 40 = .ok (.i2b, 1) := by decide +kernel
theorem d27_41 : decode jdk_68_method_31_code 41 = .ok (.bastore, 1) := by decide +kernel
theorem d27_42 : decode jdk_68_method_31_code 42 = .ok (.goto 33, 3) := by decide +kernel
theorem d27_75 : decode jdk_68_method_31_code 75 = .ok (.aload_n 0, 1) := by decide +kernel
theorem d27_76 : decode jdk_68_method_31_code 76 = .ok (.areturn, 1) := by decide +kernel
set_option maxRecDepth 65536 in
set_option maxHeartbeats 40000000 in
theorem ctAc (l : Launch) (Z : State) (a0 : Array Value) (hw : ∀ d ∈ tables_1, d.before a0 Z = true) (cz : Int32) (x b : Addr) (cap : Nat) (bs : List Int32) (k : Int32) (h0 : Heap) (n0 : Nat) (hk : ¬ (255 : Int32) < k) (hfit : bs.length + 1 ≤ cap) (O : Old Z n0 h0) (G : Sta Z Z.heap "java/lang/String" "COMPACT_STRINGS" "Z" (.int cz)) (hcz : cz ≠ 0) (F : SB Z n0 h0 x b cap bs) :
    CtN l Z (⟨"java/lang/AbstractStringBuilder", "append", "(C)Ljava/lang/AbstractStringBuilder;"⟩ : MethodName) jdk_68_method_31_code 2 (some (.object "java/lang/AbstractStringBuilder")) ({ frames := 1, cells := 0, slots := 0, locals := 14 } : Room) n0 #[(.ref x), (.int k)] h0 (fun v h => v = some (.ref x) ∧ Keep h0 h [x, b] ∧ SB Z n0 h x b cap (bs ++ [nar .byte k])) := by
  refine CtN.of (plainFor_of_name pn_java_lang_AbstractStringBuilder) ?_
  intro p e s m below meth c T0 W0 hnm
  refine Wp.cast (ef_27_RI m x k) ?_
  obtain ⟨Ex, Fc, Fn, Fv, hnx, hnb, hle, hcap, kb, Cb⟩ := id F
  have nxb : x ≠ b := Exa.neArv Ex Cb (hw _ (List.mem_of_getElem? (i := 52) rfl))
  refine w_aloadN W0 d27_0 rfl rfl ?_
  refine w_aloadN W0 d27_1 rfl rfl ?_
  refine w_getf W0 (host := "") (Or.inl (hw _ (List.mem_of_getElem? (i := 90) rfl))) Via.refl Fn d27_2 ?_
  intro T1 W1
  refine w_iconst W1 (z := (1 : Int32)) d27_5 (by rfl) ?_
  refine w_iadd W1 d27_6 (own_one _) ?_
  refine w_priv W1 (ctEc l Z a0 hw x b cap bs (bs.length + 1) _ n0 hfit F) (Cls.sel (z := ({ cls := "java/lang/AbstractStringBuilder", name := "ensureCapacityInternal", desc := "(I)V" } : Jvm.MethodName)) (hw _ (List.mem_of_getElem? (i := 117) rfl)) : Cls Z "java/lang/AbstractStringBuilder") (hw _ (List.mem_of_getElem? (i := 116) rfl)) (hw _ (List.mem_of_getElem? (i := 114) rfl)) (hw _ (List.mem_of_getElem? (i := 115) rfl)) (hw _ (List.mem_of_getElem? (i := 61) rfl)) (hw _ (List.mem_of_getElem? (i := 118) rfl)) (by decide) 0 (by decide) (by decide) (by decide) (by decide) (a := x) Ex (argsL := [(.int (Int32.ofNat (bs.length + 1)))]) (rest := []) pd_13 rfl rfl rfl rfl rfl d27_7 ?_
  rintro T2 h2 l2 _ W2 ⟨rfl, rfl⟩
  refine w_aloadN W2 d27_10 rfl rfl ?_
  refine w_virt W2 (ctAl1 l Z a0 hw cz n0 x b cap bs _ n0 O G hcz F) (hw _ (List.mem_of_getElem? (i := 148) rfl)) (hw _ (List.mem_of_getElem? (i := 149) rfl)) (notFace_of_selects (args := #[]) (mvT W2.wZ (hw _ (List.mem_of_getElem? (i := 151) rfl)))) (hw _ (List.mem_of_getElem? (i := 151) rfl)) (hw _ (List.mem_of_getElem? (i := 150) rfl)) (hw _ (List.mem_of_getElem? (i := 61) rfl)) (hw _ (List.mem_of_getElem? (i := 152) rfl)) (by decide) 0 (by decide) (by decide) (by decide) (by decide) (a := x) Ex (argsL := []) (rest := []) pd_16 rfl rfl rfl rfl rfl d27_11 ?_
  rintro T3 h3 l3 _ W3 ⟨rfl, rfl⟩
  refine w_ifeq W3 (pc' := 45) d27_14 (by decide) (fun c14 => absurd c14 (by decide)) (fun c14 => ?_)
  refine w_iloadN W3 d27_17 rfl ?_
  refine w_callS W3 (ctCe l Z a0 hw k _ n0 hk) (hw _ (List.mem_of_getElem? (i := 153) rfl)) (hw _ (List.mem_of_getElem? (i := 34) rfl)) (hw _ (List.mem_of_getElem? (i := 35) rfl)) (hw _ (List.mem_of_getElem? (i := 36) rfl)) (by decide) 0 (by decide) (by decide) (by decide) (by decide) (argsL := [(.int k)]) (rest := []) pd_17 rfl rfl rfl rfl rfl d27_18 ?_
  rintro T4 h4 l4 _ W4 ⟨rfl, rfl⟩
  refine w_ifeq W4 (pc' := 45) d27_21 (by decide) (fun c21 => absurd c21 (by decide)) (fun c21 => ?_)
  refine w_aloadN W4 d27_24 rfl rfl ?_
  refine w_getf W4 (host := "") (Or.inl (hw _ (List.mem_of_getElem? (i := 65) rfl))) Via.refl Fv d27_25 ?_
  intro T5 W5
  refine w_aloadN W5 d27_28 rfl rfl ?_
  refine w_dup W5 d27_29 rfl ?_
  refine w_getf W5 (host := "") (Or.inl (hw _ (List.mem_of_getElem? (i := 90) rfl))) Via.refl Fn d27_30 ?_
  intro T6 W6
  refine w_dupX1 W6 d27_33 rfl rfl ?_
  refine w_iconst W6 (z := (1 : Int32)) d27_34 (by rfl) ?_
  refine w_iadd W6 d27_35 (own_one _) ?_
  refine w_putf W6 (hw _ (List.mem_of_getElem? (i := 90) rfl)) Via.refl Fn Ex (Or.inl (hw _ (List.mem_of_getElem? (i := 91) rfl))) (hw _ (List.mem_of_getElem? (i := 52) rfl)) (ty := .int) (v' := (.int (Int32.ofNat (bs.length + 1)))) (by decide) (by rfl) (rfl) hnx d27_36 ?_
  intro T7 h7 l7 W7 Wr7
  have Cb1 := Cb.other Wr7 nxb.symm
  refine w_iloadN W7 d27_39 rfl ?_
  refine w_i2b W7 d27_40 rfl ?_
  refine w_bastore W7 Cb1 ⟨own_nn0 (by omega), (own_ltI (by omega) (by omega)).mpr (by omega)⟩ bs.length (own_clamp (by omega)) (by rw [own_pdLen]; omega) (x' := (nar .byte k)) (own_narb _) hnb d27_41 ?_
  intro T8 h8 l8 W8 Wr8 V8
  have V3 : Arv Z h8 b kb .byte (Int32.ofNat cap) (own_pd (bs ++ [nar .byte k]) cap) (.int 0) := by rw [← own_pdSet (by omega)]; exact V8
  have Kb := Keep.of_wr Wr8
  have F3 : SB Z n0 h8 x b cap (bs ++ [nar .byte k]) := ⟨(Ex.wr Wr7).wr Wr8, (Fc.other Wr7 (Or.inr (slot_ne (Or.inl (hw _ (List.mem_of_getElem? (i := 68) rfl))) (Or.inl (hw _ (List.mem_of_getElem? (i := 91) rfl))) (by decide) (t := .byte) (t' := .int) (by decide) (by decide)))).keep Kb (ninS nxb nin0), by have q := (Fn.same Wr7).keep Kb (ninS nxb nin0); rw [List.length_append]; exact q, (Fv.other Wr7 (Or.inr (slot_ne (Or.inl (hw _ (List.mem_of_getElem? (i := 66) rfl))) (Or.inl (hw _ (List.mem_of_getElem? (i := 91) rfl))) (by decide) (t := (.array .byte)) (t' := .int) (by decide) (by decide)))).keep Kb (ninS nxb nin0), hnx, hnb, by rw [List.length_append]; exact hfit, hcap, kb, V3⟩
  have Kx : Keep h0 h8 [x, b] := ((Keep.refl h0 [x, b]).wr Wr7 (Or.inl (List.mem_cons_self ..))).wr Wr8 (Or.inl (List.mem_cons_of_mem _ (List.mem_cons_self ..)))
  refine w_goto W8 (pc' := 75) d27_42 (by decide) ?_
  refine w_aloadN W8 d27_75 rfl rfl ?_
  exact n_rA W8 rfl rfl rfl d27_76 (by decide) (by decide) ⟨rfl, Kx, F3⟩
theorem ef_26_RI (m : MethodId) (x0 : Addr) (x1 : Int32) : entryFrame m #[(.ref x0), (.int x1)] 2 = mkF m 0 #[.val (.ref x0), .val (.int x1)] [] := by first | (simp [entryFrame, mkF, argsToLocals, Value.category]; done) | rfl
theorem d26_0 : decode jdk_67_method_14_code 0 = .ok (.aload_n 0, 1) := by decide +kernel
theorem d26_1 : decode jdk_67_method_14_code 1 = .ok (.iload_n 1, 1) := by decide +kernel
theorem d26_2 : decode jdk_67_method_14_code 2 = .ok (.invokespecial 50, 3) := by decide +kernel
theorem pd_18 : parseMethodDescriptor "(C)Ljava/lang/AbstractStringBuilder;" = some ⟨[.char], some (.object "java/lang/AbstractStringBuilder")⟩ := by decide +kernel
theorem d26_5 : decode jdk_67_method_14_code 5 = .ok (.pop, 1) := by decide +kernel
theorem d26_6 : decode jdk_67_method_14_code 6 = .ok (.aload_n 0, 1) := by decide +kernel
theorem d26_7 : decode jdk_67_method_14_code 7 = .ok (.areturn, 1) := by decide +kernel
set_option maxRecDepth 65536 in
set_option maxHeartbeats 40000000 in
theorem ctBc (l : Launch) (Z : State) (a0 : Array Value) (hw : ∀ d ∈ tables_1, d.before a0 Z = true) (cz : Int32) (x b : Addr) (cap : Nat) (bs : List Int32) (k : Int32) (h0 : Heap) (n0 : Nat) (hk : ¬ (255 : Int32) < k) (hfit : bs.length + 1 ≤ cap) (O : Old Z n0 h0) (G : Sta Z Z.heap "java/lang/String" "COMPACT_STRINGS" "Z" (.int cz)) (hcz : cz ≠ 0) (F : SB Z n0 h0 x b cap bs) :
    CtN l Z (⟨"java/lang/StringBuilder", "append", "(C)Ljava/lang/StringBuilder;"⟩ : MethodName) jdk_67_method_14_code 2 (some (.object "java/lang/StringBuilder")) ({ frames := 2, cells := 0, slots := 0, locals := 27 } : Room) n0 #[(.ref x), (.int k)] h0 (fun v h => v = some (.ref x) ∧ Keep h0 h [x, b] ∧ SB Z n0 h x b cap (bs ++ [nar .byte k])) := by
  refine CtN.of (plainFor_of_name pn_java_lang_StringBuilder) ?_
  intro p e s m below meth c T0 W0 hnm
  refine Wp.cast (ef_26_RI m x k) ?_
  obtain ⟨Ex, Fc, Fn, Fv, hnx, hnb, hle, hcap, kb, Cb⟩ := id F
  refine w_aloadN W0 d26_0 rfl rfl ?_
  refine w_iloadN W0 d26_1 rfl ?_
  refine w_super W0 (ctAc l Z a0 hw cz x b cap bs k _ n0 hk hfit O G hcz F) (Cls.sel (z := ({ cls := "java/lang/AbstractStringBuilder", name := "ensureCapacityInternal", desc := "(I)V" } : Jvm.MethodName)) (hw _ (List.mem_of_getElem? (i := 117) rfl)) : Cls Z "java/lang/AbstractStringBuilder") (by decide) (hw _ (List.mem_of_getElem? (i := 144) rfl)) (hw _ (List.mem_of_getElem? (i := 145) rfl)) (hw _ (List.mem_of_getElem? (i := 87) rfl)) (hw _ (List.mem_of_getElem? (i := 61) rfl)) (hw _ (List.mem_of_getElem? (i := 147) rfl)) (by decide) 0 (by decide) (by decide) (by decide) (by decide) (a := x) (Ins.self Ex) (argsL := [(.int k)]) (rest := []) pd_18 rfl rfl rfl rfl rfl d26_2 ?_
  rintro T1 h1 l1 _ W1 ⟨rfl, K, R⟩
  refine w_pop W1 d26_5 rfl ?_
  refine w_aloadN W1 d26_6 rfl rfl ?_
  exact n_rA W1 rfl rfl rfl d26_7 (by decide) (by decide) ⟨rfl, K, R⟩
theorem ef_13_RI (m : MethodId) (x0 : Addr) (x1 : Int32) : entryFrame m #[(.ref x0), (.int x1)] 2 = mkF m 0 #[.val (.ref x0), .val (.int x1)] [] := by first | (simp [entryFrame, mkF, argsToLocals, Value.category]; done) | rfl
theorem d13_0 : decode jdk_68_method_2_code 0 = .ok (.aload_n 0, 1) := by decide +kernel
theorem d13_1 : decode jdk_68_method_2_code 1 = .ok (.invokespecial 3, 3) := by decide +kernel
theorem d13_4 : decode jdk_68_method_2_code 4 = .ok (.getstatic 18, 3) := by decide +kernel
theorem d13_7 : decode jdk_68_method_2_code 7 = .ok (.ifCond .eq 18, 3) := by decide +kernel
theorem d13_10 : decode jdk_68_method_2_code 10 = .ok (.aload_n 0, 1) := by decide +kernel
theorem d13_11 : decode jdk_68_method_2_code 11 = .ok (.iload_n 1, 1) := by decide +kernel
theorem d13_12 : decode jdk_68_method_2_code 12 = .ok (.newarray .byte, 2) := by decide +kernel
theorem d13_14 : decode jdk_68_method_2_code 14 = .ok (.putfield 15, 3) := by decide +kernel
theorem d13_17 : decode jdk_68_method_2_code 17 = .ok (.aload_n 0, 1) := by decide +kernel
theorem d13_18 : decode jdk_68_method_2_code 18 = .ok (.iconst 0, 1) := by decide +kernel
theorem d13_19 : decode jdk_68_method_2_code 19 = .ok (.putfield 22, 3) := by decide +kernel
theorem d13_22 : decode jdk_68_method_2_code 22 = .ok (.goto 16, 3) := by decide +kernel
theorem d13_38 : decode jdk_68_method_2_code 38 = .ok (.return_, 1) := by decide +kernel
set_option maxRecDepth 65536 in
set_option maxHeartbeats 40000000 in
theorem ctAi (l : Launch) (Z : State) (a0 : Array Value) (hw : ∀ d ∈ tables_1, d.before a0 Z = true) (cz : Int32) (x : Addr) (h0 : Heap) (n0 : Nat) (O : Old Z n0 h0) (G : Sta Z Z.heap "java/lang/String" "COMPACT_STRINGS" "Z" (.int cz)) (hcz : cz ≠ 0) (Ex : Exa Z h0 x "java/lang/StringBuilder") (Fv : Fld Z h0 x "java/lang/AbstractStringBuilder" "value" "[B" .null) (Fc : Fld Z h0 x "java/lang/AbstractStringBuilder" "coder" "B" (.int 0)) (Fn : Fld Z h0 x "java/lang/AbstractStringBuilder" "count" "I" (.int 0)) (hnx : n0 ≤ x) :
    CtN l Z (⟨"java/lang/AbstractStringBuilder", "<init>", "(I)V"⟩ : MethodName) jdk_68_method_2_code 2 none ({ frames := 1, cells := 1, slots := 16, locals := 12 } : Room) n0 #[(.ref x), (.int (16 : Int32))] h0 (fun v h => v = none ∧ Keep h0 h [x] ∧ ∃ b, h0.size ≤ b ∧ SB Z n0 h x b 16 []) := by
  refine CtN.of (plainFor_of_name pn_java_lang_AbstractStringBuilder) ?_
  intro p e s m below meth c T0 W0 hnm
  refine Wp.cast (ef_13_RI m x (16 : Int32)) ?_
  refine w_aloadN W0 d13_0 rfl rfl ?_
  refine w_initO W0 (hw _ (List.mem_of_getElem? (i := 63) rfl)) (hw _ (List.mem_of_getElem? (i := 12) rfl)) (hw _ (List.mem_of_getElem? (i := 13) rfl)) 0 rfl rfl (by decide) (by decide) d13_1 ?_
  intro T1 W1
  refine w_gets W1 (host := "") (Or.inl (hw _ (List.mem_of_getElem? (i := 64) rfl))) Via.refl (own_staOld O G) d13_4 ?_
  intro T2 W2
  refine w_ifeq W2 (pc' := 25) d13_7 (by decide) (fun c7 => ?_) (fun c7 => ?_)
  · exact absurd c7 hcz
  · refine w_aloadN W2 d13_10 rfl rfl ?_
    refine w_iloadN W2 d13_11 rfl ?_
    refine w_newarr W2 (ty := .byte) (dv := (.int 0)) (hw _ (List.mem_of_getElem? (i := 19) rfl)) rfl rfl d13_12 (by decide) 16 (by decide) (by decide) (by decide) (by decide) ?_
    intro T3 h3 b k3 W3 E3 g3 V3
    have E := E3
    have hb : h0.size ≤ b := Nat.le_of_eq g3.symm
    have V0 := V3.pad (pad_rep [] (.int 0) 16)
    have hxb : b ≠ x := Nat.ne_of_gt (Nat.lt_of_lt_of_le Ex.lt hb)
    refine w_putf W3 (hw _ (List.mem_of_getElem? (i := 65) rfl)) Via.refl (Fv.ext E) (Ex.ext E) (Or.inl (hw _ (List.mem_of_getElem? (i := 66) rfl))) (hw _ (List.mem_of_getElem? (i := 52) rfl)) (ty := (.array .byte)) (v' := (.ref b)) (by decide) (by rfl) (rfl) hnx d13_14 ?_
    intro T4 h4 l4 W4 Wr4
    refine w_aloadN W4 d13_17 rfl rfl ?_
    refine w_iconst W4 (z := (0 : Int32)) d13_18 (by rfl) ?_
    have Fc1 := (Fc.ext E).other Wr4 (Or.inr (slot_ne (Or.inl (hw _ (List.mem_of_getElem? (i := 68) rfl))) (Or.inl (hw _ (List.mem_of_getElem? (i := 66) rfl))) (by decide) (t := .byte) (t' := (.array .byte)) (by decide) (by decide)))
    refine w_putf W4 (hw _ (List.mem_of_getElem? (i := 67) rfl)) Via.refl Fc1 ((Ex.ext E).wr Wr4) (Or.inl (hw _ (List.mem_of_getElem? (i := 68) rfl))) (hw _ (List.mem_of_getElem? (i := 52) rfl)) (ty := .byte) (v' := (.int (0 : Int32))) (by decide) (by rfl) (by decide) hnx d13_19 ?_
    intro T5 h5 l5 W5 Wr5
    have F3 : SB Z n0 h5 x b 16 [] := ⟨((Ex.ext E).wr Wr4).wr Wr5, Fc1.same Wr5, ((Fn.ext E).other Wr4 (Or.inr (slot_ne (Or.inl (hw _ (List.mem_of_getElem? (i := 91) rfl))) (Or.inl (hw _ (List.mem_of_getElem? (i := 66) rfl))) (by decide) (t := .int) (t' := (.array .byte)) (by decide) (by decide)))).other Wr5 (Or.inr (slot_ne (Or.inl (hw _ (List.mem_of_getElem? (i := 91) rfl))) (Or.inl (hw _ (List.mem_of_getElem? (i := 68) rfl))) (by decide) (t := .int) (t' := .byte) (by decide) (by decide))), ((Fv.ext E).same Wr4).other Wr5 (Or.inr (slot_ne (Or.inl (hw _ (List.mem_of_getElem? (i := 66) rfl))) (Or.inl (hw _ (List.mem_of_getElem? (i := 68) rfl))) (by decide) (t := (.array .byte)) (t' := .byte) (by decide) (by decide))), hnx, Nat.le_trans (own_oldle O) hb, by simp, by decide, _, by rw [own_pd0]; exact (V0.other Wr4 hxb).other Wr5 hxb⟩
    have Kx : Keep h0 h5 [x] := ((own_keepOf E).wr Wr4 (Or.inl (List.mem_cons_self ..))).wr Wr5 (Or.inl (List.mem_cons_self ..))
    refine w_goto W5 (pc' := 38) d13_22 (by decide) ?_
    exact n_rV W5 rfl d13_38 (by decide) (by decide) ⟨rfl, Kx, b, hb, F3⟩
theorem ef_12_R (m : MethodId) (x0 : Addr) : entryFrame m #[(.ref x0)] 1 = mkF m 0 #[.val (.ref x0)] [] := by first | (simp [entryFrame, mkF, argsToLocals, Value.category]; done) | rfl
theorem d12_0 : decode jdk_67_method_1_code 0 = .ok (.aload_n 0, 1) := by decide +kernel
theorem d12_1 : decode jdk_67_method_1_code 1 = .ok (.bipush 16, 2) := by decide +kernel
theorem d12_3 : decode jdk_67_method_1_code 3 = .ok (.invokespecial 1, 3) := by decide +kernel
theorem d12_6 : decode jdk_67_method_1_code 6 = .ok (.return_, 1) := by decide +kernel
set_option maxRecDepth 65536 in
set_option maxHeartbeats 40000000 in
theorem ctBi (l : Launch) (Z : State) (a0 : Array Value) (hw : ∀ d ∈ tables_1, d.before a0 Z = true) (cz : Int32) (x : Addr) (h0 : Heap) (n0 : Nat) (O : Old Z n0 h0) (G : Sta Z Z.heap "java/lang/String" "COMPACT_STRINGS" "Z" (.int cz)) (hcz : cz ≠ 0) (Ex : Exa Z h0 x "java/lang/StringBuilder") (Fv : Fld Z h0 x "java/lang/AbstractStringBuilder" "value" "[B" .null) (Fc : Fld Z h0 x "java/lang/AbstractStringBuilder" "coder" "B" (.int 0)) (Fn : Fld Z h0 x "java/lang/AbstractStringBuilder" "count" "I" (.int 0)) (hnx : n0 ≤ x) :
    CtN l Z (⟨"java/lang/StringBuilder", "<init>", "()V"⟩ : MethodName) jdk_67_method_1_code 1 none ({ frames := 2, cells := 1, slots := 16, locals := 25 } : Room) n0 #[(.ref x)] h0 (fun v h => v = none ∧ Keep h0 h [x] ∧ ∃ b, h0.size ≤ b ∧ SB Z n0 h x b 16 []) := by
  refine CtN.of (plainFor_of_name pn_java_lang_StringBuilder) ?_
  intro p e s m below meth c T0 W0 hnm
  refine Wp.cast (ef_12_R m x) ?_
  refine w_aloadN W0 d12_0 rfl rfl ?_
  refine w_bipush W0 (z := (16 : Int32)) d12_1 (by rfl) ?_
  refine w_special W0 (ctAi l Z a0 hw cz x _ n0 O G hcz Ex Fv Fc Fn hnx) rfl (hw _ (List.mem_of_getElem? (i := 57) rfl)) (hw _ (List.mem_of_getElem? (i := 58) rfl)) (hw _ (List.mem_of_getElem? (i := 61) rfl)) (hw _ (List.mem_of_getElem? (i := 62) rfl)) (by decide) 0 (by decide) (by decide) (by decide) (by decide) (a := x) (argsL := [(.int (16 : Int32))]) (rest := []) pd_13 rfl rfl rfl rfl rfl d12_3 ?_
  rintro T1 h1 l1 _ W1 ⟨rfl, K, R⟩
  exact n_rV W1 rfl d12_6 (by decide) (by decide) ⟨rfl, K, R⟩
theorem ef_11_R (m : MethodId) (x0 : Addr) : entryFrame m #[(.ref x0)] 1 = mkF m 0 #[.val (.ref x0)] [] := by first | (simp [entryFrame, mkF, argsToLocals, Value.category]; done) | rfl
theorem d11_0 : decode prog_4_method_1_code 0 = .ok (.aload_n 0, 1) := by decide +kernel
theorem d11_1 : decode prog_4_method_1_code 1 = .ok (.invokespecial 1, 3) := by decide +kernel
theorem d11_4 : decode prog_4_method_1_code 4 = .ok (.aload_n 0, 1) := by decide +kernel
theorem d11_5 : decode prog_4_method_1_code 5 = .ok (.new 7, 3) := by decide +kernel
theorem d11_8 : decode prog_4_method_1_code 8 = .ok (.dup, 1) := by decide +kernel
theorem d11_9 : decode prog_4_method_1_code 9 = .ok (.invokespecial 9, 3) := by decide +kernel
theorem pd_19 : parseMethodDescriptor "()V" = some ⟨[], none⟩ := by decide +kernel
theorem d11_12 : decode prog_4_method_1_code 12 = .ok (.putfield 10, 3) := by decide +kernel
theorem d11_15 : decode prog_4_method_1_code 15 = .ok (.return_, 1) := by decide +kernel
theorem pn_com_example_phasescope_phasescope_ServerTiming : plainName "com/example/phasescope/phasescope/ServerTiming" = true := by first | (simp [plainName, overriddenIn]; done) | decide +kernel
set_option maxRecDepth 65536 in
set_option maxHeartbeats 40000000 in
theorem ctSi (l : Launch) (Z : State) (a0 : Array Value) (hw : ∀ d ∈ tables_1, d.before a0 Z = true) (cz : Int32) (x : Addr) (h0 : Heap) (n0 : Nat) (O : Old Z n0 h0) (G : Sta Z Z.heap "java/lang/String" "COMPACT_STRINGS" "Z" (.int cz)) (hcz : cz ≠ 0) (Ex : Exa Z h0 x "com/example/phasescope/phasescope/ServerTiming") (Fv : Fld Z h0 x "com/example/phasescope/phasescope/ServerTiming" "value" "Ljava/lang/StringBuilder;" .null) (hnx : n0 ≤ x) :
    CtN l Z (⟨"com/example/phasescope/phasescope/ServerTiming", "<init>", "()V"⟩ : MethodName) prog_4_method_1_code 1 none ({ frames := 3, cells := 2, slots := 20, locals := 39 } : Room) n0 #[(.ref x)] h0 (fun v h => v = none ∧ Keep h0 h [x] ∧ ∃ y b, h0.size ≤ y ∧ h0.size ≤ b ∧ Exa Z h x "com/example/phasescope/phasescope/ServerTiming" ∧ Fld Z h x "com/example/phasescope/phasescope/ServerTiming" "value" "Ljava/lang/StringBuilder;" (.ref y) ∧ SB Z n0 h y b 16 []) := by
  refine CtN.of (plainFor_of_name pn_com_example_phasescope_phasescope_ServerTiming) ?_
  intro p e s m below meth c T0 W0 hnm
  refine Wp.cast (ef_11_R m x) ?_
  refine w_aloadN W0 d11_0 rfl rfl ?_
  refine w_initO W0 (hw _ (List.mem_of_getElem? (i := 50) rfl)) (hw _ (List.mem_of_getElem? (i := 12) rfl)) (hw _ (List.mem_of_getElem? (i := 13) rfl)) 0 rfl rfl (by decide) (by decide) d11_1 ?_
  intro T1 W1
  refine w_aloadN W1 d11_4 rfl rfl ?_
  refine w_new W1 (hw _ (List.mem_of_getElem? (i := 51) rfl)) (hw _ (List.mem_of_getElem? (i := 52) rfl)) (hw _ (List.mem_of_getElem? (i := 53) rfl)) d11_5 (by decide) (by decide) ?_
  intro T2 h2 y W2 E2 g2 A2 D2
  have E := E2
  have hy : h0.size ≤ y := Nat.le_of_eq g2.symm
  have Gv := (D2 (Or.inl (hw _ (List.mem_of_getElem? (i := 66) rfl))) (ty := (.array .byte)) (by decide) : Fld Z h2 _ "java/lang/AbstractStringBuilder" "value" "[B" .null)
  have Gc := (D2 (Or.inl (hw _ (List.mem_of_getElem? (i := 68) rfl))) (ty := .byte) (by decide) : Fld Z h2 _ "java/lang/AbstractStringBuilder" "coder" "B" (.int 0))
  have Gn := (D2 (Or.inl (hw _ (List.mem_of_getElem? (i := 91) rfl))) (ty := .int) (by decide) : Fld Z h2 _ "java/lang/AbstractStringBuilder" "count" "I" (.int 0))
  refine w_dup W2 d11_8 rfl ?_
  refine w_special W2 (ctBi l Z a0 hw cz y _ n0 (O.ext E) G hcz A2 Gv Gc Gn (Nat.le_trans (own_oldle O) hy)) rfl (hw _ (List.mem_of_getElem? (i := 54) rfl)) (hw _ (List.mem_of_getElem? (i := 55) rfl)) (hw _ (List.mem_of_getElem? (i := 53) rfl)) (hw _ (List.mem_of_getElem? (i := 56) rfl)) (by decide) 2 (by decide) (by decide) (by decide) (by decide) (a := y) (argsL := []) (rest := [(.ref y), (.ref x)]) pd_19 rfl rfl rfl rfl rfl d11_9 ?_
  rintro T3 h3 l3 _ W3 ⟨rfl, K, b, hb, R⟩
  have E2 := own_extKeep E K (allS hy all0)
  refine w_putf W3 (hw _ (List.mem_of_getElem? (i := 69) rfl)) Via.refl (Fv.ext E2) (Ex.ext E2) (Or.inr ⟨(hw _ (List.mem_of_getElem? (i := 70) rfl)), rfl, hnm⟩) (hw _ (List.mem_of_getElem? (i := 45) rfl)) (ty := (.object "java/lang/StringBuilder")) (v' := (.ref y)) (by decide) (by rfl) (rfl) hnx d11_12 ?_
  intro T4 h4 l4 W4 Wr4
  have nxy : y ≠ x := Nat.ne_of_gt (Nat.lt_of_lt_of_le Ex.lt hy)
  have nxb : b ≠ x := Nat.ne_of_gt (Nat.lt_of_lt_of_le (Nat.lt_of_lt_of_le Ex.lt E.1) hb)
  exact n_rV W4 rfl d11_15 (by decide) (by decide) ⟨rfl, (own_keepOf E2).wr Wr4 (Or.inl (List.mem_cons_self ..)), y, b, hy, Nat.le_trans E.1 hb, (Ex.ext E2).wr Wr4, (Fv.ext E2).same Wr4, R.keep1 (Keep.of_wr Wr4) nxy nxb⟩
theorem ef_9_I (m : MethodId) (x0 : Int32) : entryFrame m #[(.int x0)] 1 = mkF m 0 #[.val (.int x0)] [] := by first | (simp [entryFrame, mkF, argsToLocals, Value.category]; done) | rfl
theorem d9_0 : decode jdk_43_method_46_code 0 = .ok (.iconst 1, 1) := by decide +kernel
theorem d9_1 : decode jdk_43_method_46_code 1 = .ok (.newarray .byte, 2) := by decide +kernel
theorem d9_3 : decode jdk_43_method_46_code 3 = .ok (.dup, 1) := by decide +kernel
theorem d9_4 : decode jdk_43_method_46_code 4 = .ok (.iconst 0, 1) := by decide +kernel
theorem d9_5 : decode jdk_43_method_46_code 5 = .ok (.iload_n 0, 1) := by decide +kernel
theorem d9_6 : decode jdk_43_method_46_code 6 = .ok (.i2b, 1) := by decide +kernel
theorem d9_7 : decode jdk_43_method_46_code 7 = .ok (.bastore, 1) := by decide +kernel
theorem d9_8 : decode jdk_43_method_46_code 8 = .ok (.areturn, 1) := by decide +kernel
set_option maxRecDepth 65536 in
set_option maxHeartbeats 40000000 in
theorem ctTb (l : Launch) (Z : State) (a0 : Array Value) (hw : ∀ d ∈ tables_1, d.before a0 Z = true) (k : Int32) (h0 : Heap) (n0 : Nat) (hn0 : n0 ≤ h0.size) :
    CtN l Z (⟨"java/lang/StringLatin1", "toBytes", "(C)[B"⟩ : MethodName) jdk_43_method_46_code 1 (some (.array .byte)) ({ frames := 0, cells := 1, slots := 1, locals := 0 } : Room) n0 #[(.int k)] h0 (fun v h => ∃ b kb, v = some (.ref b) ∧ Ext h0 h ∧ h0.size ≤ b ∧ Arv Z h b kb .byte (Int32.ofNat [nar .byte k].length) ([nar .byte k].map Value.int) (.int 0)) := by
  refine CtN.of (plainFor_of_name pn_java_lang_StringLatin1) ?_
  intro p e s m below meth c T0 W0 hnm
  refine Wp.cast (ef_9_I m k) ?_
  refine w_iconst W0 (z := (1 : Int32)) d9_0 (by rfl) ?_
  refine w_newarr W0 (ty := .byte) (dv := (.int 0)) (hw _ (List.mem_of_getElem? (i := 19) rfl)) rfl rfl d9_1 (by decide) 1 (by decide) (by decide) (by decide) (by decide) ?_
  intro T1 h1 b k1 W1 E1 g1 V1
  have V0 := V1.pad (pad_rep [] (.int 0) 1)
  have hnb : n0 ≤ b := by rw [g1]; exact hn0
  refine w_dup W1 d9_3 rfl ?_
  refine w_iconst W1 (z := (0 : Int32)) d9_4 (by rfl) ?_
  refine w_iloadN W1 d9_5 rfl ?_
  refine w_i2b W1 d9_6 rfl ?_
  refine w_bastore W1 V0 ⟨by decide, by decide⟩ 0 (by decide) (Nat.le_of_ble_eq_true rfl) (x' := (nar .byte k)) (own_narb _) hnb d9_7 ?_
  intro T2 h2 l2 W2 Wr2 V2
  exact n_rA W2 rfl rfl rfl d9_8 (by decide) (by decide) ⟨b, _, rfl, own_extWr E1 Wr2 (Nat.le_of_eq g1.symm), Nat.le_of_eq g1.symm, V2⟩
theorem ef_10_RRI (m : MethodId) (x0 : Addr) (x1 : Addr) (x2 : Int32) : entryFrame m #[(.ref x0), (.ref x1), (.int x2)] 3 = mkF m 0 #[.val (.ref x0), .val (.ref x1), .val (.int x2)] [] := by first | (simp [entryFrame, mkF, argsToLocals, Value.category]; done) | rfl
theorem d10_0 : decode jdk_42_method_151_code 0 = .ok (.aload_n 0, 1) := by decide +kernel
theorem d10_1 : decode jdk_42_method_151_code 1 = .ok (.invokespecial 1, 3) := by decide +kernel
theorem d10_4 : decode jdk_42_method_151_code 4 = .ok (.aload_n 0, 1) := by decide +kernel
theorem d10_5 : decode jdk_42_method_151_code 5 = .ok (.aload_n 1, 1) := by decide +kernel
theorem d10_6 : decode jdk_42_method_151_code 6 = .ok (.putfield 9, 3) := by decide +kernel
theorem d10_9 : decode jdk_42_method_151_code 9 = .ok (.aload_n 0, 1) := by decide +kernel
theorem d10_10 : decode jdk_42_method_151_code 10 = .ok (.iload_n 2, 1) := by decide +kernel
theorem d10_11 : decode jdk_42_method_151_code 11 = .ok (.putfield 15, 3) := by decide +kernel
theorem d10_14 : decode jdk_42_method_151_code 14 = .ok (.return_, 1) := by decide +kernel
set_option maxRecDepth 65536 in
set_option maxHeartbeats 40000000 in
theorem ctSb (l : Launch) (Z : State) (a0 : Array Value) (hw : ∀ d ∈ tables_1, d.before a0 Z = true) (x b : Addr) (kb : ClassId) (us : List Int32) (h0 : Heap) (n0 : Nat) (Ex : Exa Z h0 x "java/lang/String") (Fv : Fld Z h0 x "java/lang/String" "value" "[B" .null) (Fc : Fld Z h0 x "java/lang/String" "coder" "B" (.int 0)) (hnx : n0 ≤ x) (hne : b ≠ x) (Ca : Arv Z h0 b kb .byte (Int32.ofNat us.length) (us.map Value.int) (.int 0)) :
    CtN l Z (⟨"java/lang/String", "<init>", "([BB)V"⟩ : MethodName) jdk_42_method_151_code 3 none ({ frames := 1, cells := 0, slots := 0, locals := 12 } : Room) n0 #[(.ref x), (.ref b), (.int (0 : Int32))] h0 (fun v h => v = none ∧ Keep h0 h [x] ∧ Str Z h x 0 us) := by
  refine CtN.of (plainFor_of_name pn_java_lang_String) ?_
  intro p e s m below meth c T0 W0 hnm
  refine Wp.cast (ef_10_RRI m x b (0 : Int32)) ?_
  refine w_aloadN W0 d10_0 rfl rfl ?_
  refine w_initO W0 (hw _ (List.mem_of_getElem? (i := 11) rfl)) (hw _ (List.mem_of_getElem? (i := 12) rfl)) (hw _ (List.mem_of_getElem? (i := 13) rfl)) 0 rfl rfl (by decide) (by decide) d10_1 ?_
  intro T1 W1
  refine w_aloadN W1 d10_4 rfl rfl ?_
  refine w_aloadN W1 d10_5 rfl rfl ?_
  refine w_putf W1 (hw _ (List.mem_of_getElem? (i := 28) rfl)) Via.refl Fv Ex (Or.inr ⟨(hw _ (List.mem_of_getElem? (i := 29) rfl)), rfl, hnm⟩) (hw _ (List.mem_of_getElem? (i := 1) rfl)) (ty := (.array .byte)) (v' := (.ref b)) (by decide) (by rfl) (rfl) hnx d10_6 ?_
  intro T2 h2 l2 W2 Wr2
  refine w_aloadN W2 d10_9 rfl rfl ?_
  refine w_iloadN W2 d10_10 rfl ?_
  have Fc1 := Fc.other Wr2 (Or.inr (slot_ne (Or.inr (hw _ (List.mem_of_getElem? (i := 27) rfl))) (Or.inr (hw _ (List.mem_of_getElem? (i := 29) rfl))) (by decide) (t := .byte) (t' := (.array .byte)) (by decide) (by decide)))
  refine w_putf W2 (hw _ (List.mem_of_getElem? (i := 26) rfl)) Via.refl Fc1 (Ex.wr Wr2) (Or.inr ⟨(hw _ (List.mem_of_getElem? (i := 27) rfl)), rfl, hnm⟩) (hw _ (List.mem_of_getElem? (i := 1) rfl)) (ty := .byte) (v' := (.int (0 : Int32))) (by decide) (by rfl) (by decide) hnx d10_11 ?_
  intro T3 h3 l3 W3 Wr3
  exact n_rV W3 rfl d10_14 (by decide) (by decide) ⟨rfl, ((Keep.refl h0 [x]).wr Wr2 (Or.inl (List.mem_cons_self ..))).wr Wr3 (Or.inl (List.mem_cons_self ..)), ⟨b, kb, (Ex.wr Wr2).wr Wr3, Fc1.same Wr3, (Fv.same Wr2).other Wr3 (Or.inr (slot_ne (Or.inr (hw _ (List.mem_of_getElem? (i := 29) rfl))) (Or.inr (hw _ (List.mem_of_getElem? (i := 27) rfl))) (by decide) (t := (.array .byte)) (t' := .byte) (by decide) (by decide))), (Ca.other Wr2 hne).other Wr3 hne⟩⟩
theorem ef_7_I (m : MethodId) (x0 : Int32) : entryFrame m #[(.int x0)] 1 = mkF m 0 #[.val (.int x0)] [] := by first | (simp [entryFrame, mkF, argsToLocals, Value.category]; done) | rfl
theorem d7_0 : decode jdk_42_method_139_code 0 = .ok (.getstatic 38, 3) := by decide +kernel
theorem d7_3 : decode jdk_42_method_139_code 3 = .ok (.ifCond .eq 23, 3) := by decide +kernel
theorem d7_6 : decode jdk_42_method_139_code 6 = .ok (.iload_n 0, 1) := by decide +kernel
theorem d7_7 : decode jdk_42_method_139_code 7 = .ok (.invokestatic 1015, 3) := by decide +kernel
theorem d7_10 : decode jdk_42_method_139_code 10 = .ok (.ifCond .eq 16, 3) := by decide +kernel
theorem d7_13 : decode jdk_42_method_139_code 13 = .ok (.new 10, 3) := by decide +kernel
theorem d7_16 : decode jdk_42_method_139_code 16 = .ok (.dup, 1) := by decide +kernel
theorem d7_17 : decode jdk_42_method_139_code 17 = .ok (.iload_n 0, 1) := by decide +kernel
theorem d7_18 : decode jdk_42_method_139_code 18 = .ok (.invokestatic 1018, 3) := by decide +kernel
theorem pd_20 : parseMethodDescriptor "(C)[B" = some ⟨[.char], some (.array .byte)⟩ := by decide +kernel
theorem d7_21 : decode jdk_42_method_139_code 21 = .ok (.iconst 0, 1) := by decide +kernel
theorem d7_22 : decode jdk_42_method_139_code 22 = .ok (.invokespecial 209, 3) := by decide +kernel
theorem pd_21 : parseMethodDescriptor "([BB)V" = some ⟨[(.array .byte), .byte], none⟩ := by decide +kernel
theorem d7_25 : decode jdk_42_method_139_code 25 = .ok (.areturn, 1) := by decide +kernel
set_option maxRecDepth 65536 in
set_option maxHeartbeats 40000000 in
theorem ctVo (l : Launch) (Z : State) (a0 : Array Value) (hw : ∀ d ∈ tables_1, d.before a0 Z = true) (cz : Int32) (k : Int32) (h0 : Heap) (n0 : Nat) (hk : ¬ (255 : Int32) < k) (O : Old Z n0 h0) (G : Sta Z Z.heap "java/lang/String" "COMPACT_STRINGS" "Z" (.int cz)) (hcz : cz ≠ 0) :
    CtN l Z (⟨"java/lang/String", "valueOf", "(C)Ljava/lang/String;"⟩ : MethodName) jdk_42_method_139_code 1 (some (.object "java/lang/String")) ({ frames := 2, cells := 2, slots := 5, locals := 27 } : Room) n0 #[(.int k)] h0 (fun v h => ∃ a, v = some (.ref a) ∧ Ext h0 h ∧ h0.size ≤ a ∧ Str Z h a 0 [nar .byte k]) := by
  refine CtN.of (plainFor_of_name pn_java_lang_String) ?_
  intro p e s m below meth c T0 W0 hnm
  refine Wp.cast (ef_7_I m k) ?_
  refine w_gets W0 (host := "") (Or.inl (hw _ (List.mem_of_getElem? (i := 14) rfl))) Via.refl (own_staOld O G) d7_0 ?_
  intro T1 W1
  refine w_ifeq W1 (pc' := 26) d7_3 (by decide) (fun c3 => ?_) (fun c3 => ?_)
  · exact absurd c3 hcz
  · refine w_iloadN W1 d7_6 rfl ?_
    refine w_callS W1 (ctCe l Z a0 hw k _ n0 hk) (hw _ (List.mem_of_getElem? (i := 33) rfl)) (hw _ (List.mem_of_getElem? (i := 34) rfl)) (hw _ (List.mem_of_getElem? (i := 35) rfl)) (hw _ (List.mem_of_getElem? (i := 36) rfl)) (by decide) 0 (by decide) (by decide) (by decide) (by decide) (argsL := [(.int k)]) (rest := []) pd_17 rfl rfl rfl rfl rfl d7_7 ?_
    rintro T2 h2 l2 _ W2 ⟨rfl, rfl⟩
    refine w_ifeq W2 (pc' := 26) d7_10 (by decide) (fun c10 => absurd c10 (by decide)) (fun c10 => ?_)
    refine w_new W2 (hw _ (List.mem_of_getElem? (i := 37) rfl)) (hw _ (List.mem_of_getElem? (i := 1) rfl)) (hw _ (List.mem_of_getElem? (i := 2) rfl)) d7_13 (by decide) (by decide) ?_
    intro T3 h3 sa W3 E3 g3 A3 D3
    have E := E3
    have hsa : h0.size ≤ sa := Nat.le_of_eq g3.symm
    have Fv := (D3 (Or.inr (hw _ (List.mem_of_getElem? (i := 29) rfl))) (ty := (.array .byte)) (by decide) : Fld Z h3 _ "java/lang/String" "value" "[B" .null)
    have Fc := (D3 (Or.inr (hw _ (List.mem_of_getElem? (i := 27) rfl))) (ty := .byte) (by decide) : Fld Z h3 _ "java/lang/String" "coder" "B" (.int 0))
    refine w_dup W3 d7_16 rfl ?_
    refine w_iloadN W3 d7_17 rfl ?_
    refine w_callS W3 (ctTb l Z a0 hw k _ n0 (Nat.le_trans (own_oldle O) E.1)) (hw _ (List.mem_of_getElem? (i := 38) rfl)) (hw _ (List.mem_of_getElem? (i := 39) rfl)) (hw _ (List.mem_of_getElem? (i := 35) rfl)) (hw _ (List.mem_of_getElem? (i := 40) rfl)) (by decide) 2 (by decide) (by decide) (by decide) (by decide) (argsL := [(.int k)]) (rest := [(.ref sa), (.ref sa)]) pd_20 rfl rfl rfl rfl rfl d7_18 ?_
    rintro T4 h4 l4 _ W4 ⟨b, kb, rfl, E2, hb, Cb⟩
    refine w_iconst W4 (z := (0 : Int32)) d7_21 (by rfl) ?_
    refine w_special W4 (ctSb l Z a0 hw sa b _ [nar .byte k] _ n0 (A3.ext E2) (Fv.ext E2) (Fc.ext E2) (Nat.le_trans (own_oldle O) hsa) (Nat.ne_of_gt (Nat.lt_of_lt_of_le A3.lt hb)) Cb) rfl (hw _ (List.mem_of_getElem? (i := 41) rfl)) (hw _ (List.mem_of_getElem? (i := 42) rfl)) (hw _ (List.mem_of_getElem? (i := 2) rfl)) (hw _ (List.mem_of_getElem? (i := 43) rfl)) (by decide) 1 (by decide) (by decide) (by decide) (by decide) (a := sa) (argsL := [(.ref b), (.int (0 : Int32))]) (rest := [(.ref sa)]) pd_21 rfl rfl rfl rfl rfl d7_22 ?_
    rintro T5 h5 l5 _ W5 ⟨rfl, K, Sx⟩
    exact n_rA W5 rfl rfl rfl d7_25 (by decide) (by decide) ⟨sa, rfl, own_extKeep (own_extTrans E E2) K (allS hsa all0), hsa, Sx⟩
theorem ef_41_II (m : MethodId) (x0 : Int32) (x1 : Int32) : entryFrame m #[(.int x0), (.int x1)] 2 = mkF m 0 #[.val (.int x0), .val (.int x1)] [] := by first | (simp [entryFrame, mkF, argsToLocals, Value.category]; done) | rfl
theorem d41_0 : decode jdk_65_method_131_code 0 = .ok (.iload_n 1, 1) := by decide +kernel
theorem d41_1 : decode jdk_65_method_131_code 1 = .ok (.iload_n 0, 1) := by decide +kernel
theorem d41_2 : decode jdk_65_method_131_code 2 = .ok (.if_icmp .ge 35, 3) := by decide +kernel
theorem d41_37 : decode jdk_65_method_131_code 37 = .ok (.return_, 1) := by decide +kernel
set_option maxRecDepth 65536 in
set_option maxHeartbeats 40000000 in
theorem ctKl (l : Launch) (Z : State) (a0 : Array Value) (hw : ∀ d ∈ tables_1, d.before a0 Z = true) (n : Nat) (h0 : Heap) (n0 : Nat) (hn : n ≤ 4000) :
    CtN l Z (⟨"java/util/Arrays", "checkLength", "(II)V"⟩ : MethodName) jdk_65_method_131_code 2 none ({ frames := 0, cells := 0, slots := 0, locals := 0 } : Room) n0 #[(.int (0 : Int32)), (.int (Int32.ofNat n))] h0 (fun v h => v = none ∧ h0 = h) := by
  refine CtN.of (plainFor_of_name pn_java_util_Arrays) ?_
  intro p e s m below meth c T0 W0 hnm
  refine Wp.cast (ef_41_II m (0 : Int32) (Int32.ofNat n)) ?_
  refine w_iloadN W0 d41_0 rfl ?_
  refine w_iloadN W0 d41_1 rfl ?_
  refine w_icmpge W0 (pc' := 37) d41_2 (by decide) (fun c2 => ?_) (fun c2 => ?_)
  · exact n_rV W0 rfl d41_37 (by decide) (by decide) ⟨rfl, rfl⟩
  · exact absurd c2 (own_nn0 (by omega))
theorem ef_40_RII (m : MethodId) (x0 : Addr) (x1 : Int32) (x2 : Int32) : entryFrame m #[(.ref x0), (.int x1), (.int x2)] 5 = mkF m 0 #[.val (.ref x0), .val (.int x1), .val (.int x2), .unset, .unset] [] := by first | (simp [entryFrame, mkF, argsToLocals, Value.category]; done) | rfl
theorem d40_0 : decode jdk_65_method_133_code 0 = .ok (.iload_n 1, 1) := by decide +kernel
theorem d40_1 : decode jdk_65_method_133_code 1 = .ok (.iload_n 2, 1) := by decide +kernel
theorem d40_2 : decode jdk_65_method_133_code 2 = .ok (.invokestatic 343, 3) := by decide +kernel
theorem pd_22 : parseMethodDescriptor "(II)V" = some ⟨[.int, .int], none⟩ := by decide +kernel
theorem d40_5 : decode jdk_65_method_133_code 5 = .ok (.iload_n 2, 1) := by decide +kernel
theorem d40_6 : decode jdk_65_method_133_code 6 = .ok (.iload_n 1, 1) := by decide +kernel
theorem d40_7 : decode jdk_65_method_133_code 7 = .ok (.isub, 1) := by decide +kernel
theorem d40_8 : decode jdk_65_method_133_code 8 = .ok (.istore_n 3, 1) := by decide +kernel
theorem d40_9 : decode jdk_65_method_133_code 9 = .ok (.iload_n 3, 1) := by decide +kernel
theorem d40_10 : decode jdk_65_method_133_code 10 = .ok (.newarray .byte, 2) := by decide +kernel
theorem d40_12 : decode jdk_65_method_133_code 12 = .ok (.astore 4, 2) := by decide +kernel
theorem d40_14 : decode jdk_65_method_133_code 14 = .ok (.aload_n 0, 1) := by decide +kernel
theorem d40_15 : decode jdk_65_method_133_code 15 = .ok (.iload_n 1, 1) := by decide +kernel
theorem d40_16 : decode jdk_65_method_133_code 16 = .ok (.aload 4, 2) := by decide +kernel
theorem d40_18 : decode jdk_65_method_133_code 18 = .ok (.iconst 0, 1) := by decide +kernel
theorem d40_19 : decode jdk_65_method_133_code 19 = .ok (.aload_n 0, 1) := by decide +kernel
theorem d40_20 : decode jdk_65_method_133_code 20 = .ok (.arraylength, 1) := by decide +kernel
theorem d40_21 : decode jdk_65_method_133_code 21 = .ok (.iload_n 1, 1) := by decide +kernel
theorem d40_22 : decode jdk_65_method_133_code 22 = .ok (.isub, 1) := by decide +kernel
theorem d40_23 : decode jdk_65_method_133_code 23 = .ok (.iload_n 3, 1) := by decide +kernel
theorem d40_24 : decode jdk_65_method_133_code 24 = .ok (.invokestatic 304, 3) := by decide +kernel
theorem d40_27 : decode jdk_65_method_133_code 27 = .ok (.invokestatic 150, 3) := by decide +kernel
theorem d40_30 : decode jdk_65_method_133_code 30 = .ok (.aload 4, 2) := by decide +kernel
theorem d40_32 : decode jdk_65_method_133_code 32 = .ok (.areturn, 1) := by decide +kernel
set_option maxRecDepth 65536 in
set_option maxHeartbeats 40000000 in
theorem ctKb (l : Launch) (Z : State) (a0 : Array Value) (hw : ∀ d ∈ tables_1, d.before a0 Z = true) (b : Addr) (kb : ClassId) (cap : Nat) (bs : List Int32) (h0 : Heap) (n0 : Nat) (hn0 : n0 ≤ h0.size) (hcap : cap ≤ 4000) (hlt : bs.length < cap) (h31 : bs.length ≤ 31) (Cb : Arv Z h0 b kb .byte (Int32.ofNat cap) (own_pd bs cap) (.int 0)) :
    CtN l Z (⟨"java/util/Arrays", "copyOfRangeByte", "([BII)[B"⟩ : MethodName) jdk_65_method_133_code 5 (some (.array .byte)) ({ frames := 1, cells := 1, slots := 31, locals := 18 } : Room) n0 #[(.ref b), (.int (0 : Int32)), (.int (Int32.ofNat bs.length))] h0 (fun v h => ∃ nb kn, v = some (.ref nb) ∧ Ext h0 h ∧ h0.size ≤ nb ∧ Arv Z h nb kn .byte (Int32.ofNat bs.length) (bs.map Value.int) (.int 0)) := by
  refine CtN.of (plainFor_of_name pn_java_util_Arrays) ?_
  intro p e s m below meth c T0 W0 hnm
  refine Wp.cast (ef_40_RII m b (0 : Int32) (Int32.ofNat bs.length)) ?_
  refine w_iloadN W0 d40_0 rfl ?_
  refine w_iloadN W0 d40_1 rfl ?_
  refine w_callS W0 (ctKl l Z a0 hw bs.length _ n0 (by omega)) (hw _ (List.mem_of_getElem? (i := 209) rfl)) (hw _ (List.mem_of_getElem? (i := 210) rfl)) (hw _ (List.mem_of_getElem? (i := 172) rfl)) (hw _ (List.mem_of_getElem? (i := 211) rfl)) (by decide) 0 (by decide) (by decide) (by decide) (by decide) (argsL := [(.int (0 : Int32)), (.int (Int32.ofNat bs.length))]) (rest := []) pd_22 rfl rfl rfl rfl rfl d40_2 ?_
  rintro T1 h1 l1 _ W1 ⟨rfl, rfl⟩
  refine w_iloadN W1 d40_5 rfl ?_
  refine w_iloadN W1 d40_6 rfl ?_
  refine w_isub W1 d40_7 (Int32.sub_zero _) ?_
  refine w_istoreN W1 (L' := #[.val (.ref b), .val (.int (0 : Int32)), .val (.int (Int32.ofNat bs.length)), .val (.int (Int32.ofNat bs.length)), .unset]) d40_8 rfl ?_
  refine w_iloadN W1 d40_9 rfl ?_
  refine w_newarr W1 (ty := .byte) (dv := (.int 0)) (hw _ (List.mem_of_getElem? (i := 19) rfl)) rfl rfl d40_10 (own_nn0 (by omega)) 31 (by rw [own_clamp (by omega)]; exact h31) (by decide) (by decide) (by decide) ?_
  intro T2 h2 nb k2 W2 E2 g2 V2
  have V0 := V2.pad (pad_rep [] (.int 0) bs.length)
  have hnb : n0 ≤ nb := by rw [g2]; exact hn0
  refine w_astore W2 (L' := #[.val (.ref b), .val (.int (0 : Int32)), .val (.int (Int32.ofNat bs.length)), .val (.int (Int32.ofNat bs.length)), .val (.ref nb)]) d40_12 rfl rfl ?_
  refine w_aloadN W2 d40_14 rfl rfl ?_
  refine w_iloadN W2 d40_15 rfl ?_
  refine w_aload W2 d40_16 rfl rfl ?_
  refine w_iconst W2 (z := (0 : Int32)) d40_18 (by rfl) ?_
  refine w_aloadN W2 d40_19 rfl rfl ?_
  refine w_arrlen W2 (Cb.ext E2) d40_20 ?_
  refine w_iloadN W2 d40_21 rfl ?_
  refine w_isub W2 d40_22 (Int32.sub_zero _) ?_
  refine w_iloadN W2 d40_23 rfl ?_
  refine w_callS W2 (own_castMin2 (ctMn l Z a0 hw cap bs.length _ n0 (by omega) (by omega)) (by omega)) (hw _ (List.mem_of_getElem? (i := 174) rfl)) (hw _ (List.mem_of_getElem? (i := 175) rfl)) (hw _ (List.mem_of_getElem? (i := 166) rfl)) (hw _ (List.mem_of_getElem? (i := 176) rfl)) (by decide) 4 (by decide) (by decide) (by decide) (by decide) (argsL := [(.int (Int32.ofNat cap)), (.int (Int32.ofNat bs.length))]) (rest := [(.int (0 : Int32)), (.ref nb), (.int (0 : Int32)), (.ref b)]) pd_6 rfl rfl rfl rfl rfl d40_24 ?_
  rintro T3 h3 l3 _ W3 ⟨rfl, rfl⟩
  refine w_acopy W3 (hw _ (List.mem_of_getElem? (i := 177) rfl)) (hw _ (List.mem_of_getElem? (i := 138) rfl)) (hw _ (List.mem_of_getElem? (i := 136) rfl)) (hw _ (List.mem_of_getElem? (i := 137) rfl)) (Cb.ext E2) V0 rfl (by decide) (by decide) (own_nn0 (by omega)) (by rw [own_clamp (by omega), own_clamp (by omega)]; simp; omega) (by rw [own_clamp (by omega)]; simp) (us := (bs.map Value.int)) (by rw [own_clamp (by omega), ← own_pdFull]; exact own_cpP bs cap bs.length (Nat.le_of_lt hlt)) (by rw [own_clamp (by omega)]; simp) hnb 0 rfl rfl (by decide) (by decide) d40_27 ?_
  intro T4 h4 l4 W4 K4 V4
  have V2 : Arv Z h4 nb k2 .byte (Int32.ofNat bs.length) (bs.map Value.int) (.int 0) := by have q := V4; rw [own_clamp (by omega)] at q; rw [← own_cpEnd (bs.map Value.int) bs.length (by simp)]; exact q
  refine w_aload W4 d40_30 rfl rfl ?_
  exact n_rA W4 rfl rfl rfl d40_32 (by decide) (by decide) ⟨nb, _, rfl, own_extKeep E2 K4 (allS (Nat.le_of_eq g2.symm) all0), Nat.le_of_eq g2.symm, V2⟩
theorem ef_39_RII (m : MethodId) (x0 : Addr) (x1 : Int32) (x2 : Int32) : entryFrame m #[(.ref x0), (.int x1), (.int x2)] 3 = mkF m 0 #[.val (.ref x0), .val (.int x1), .val (.int x2)] [] := by first | (simp [entryFrame, mkF, argsToLocals, Value.category]; done) | rfl
theorem d39_0 : decode jdk_65_method_132_code 0 = .ok (.iload_n 1, 1) := by decide +kernel
theorem d39_1 : decode jdk_65_method_132_code 1 = .ok (.ifCond .ne 9, 3) := by decide +kernel
theorem d39_4 : decode jdk_65_method_132_code 4 = .ok (.iload_n 2, 1) := by decide +kernel
theorem d39_5 : decode jdk_65_method_132_code 5 = .ok (.aload_n 0, 1) := by decide +kernel
theorem d39_6 : decode jdk_65_method_132_code 6 = .ok (.arraylength, 1) := by decide +kernel
theorem d39_7 : decode jdk_65_method_132_code 7 = .ok (.if_icmp .eq 10, 3) := by decide +kernel
theorem d39_10 : decode jdk_65_method_132_code 10 = .ok (.aload_n 0, 1) := by decide +kernel
theorem d39_11 : decode jdk_65_method_132_code 11 = .ok (.iload_n 1, 1) := by decide +kernel
theorem d39_12 : decode jdk_65_method_132_code 12 = .ok (.iload_n 2, 1) := by decide +kernel
theorem d39_13 : decode jdk_65_method_132_code 13 = .ok (.invokestatic 339, 3) := by decide +kernel
theorem pd_23 : parseMethodDescriptor "([BII)[B" = some ⟨[(.array .byte), .int, .int], some (.array .byte)⟩ := by decide +kernel
theorem d39_16 : decode jdk_65_method_132_code 16 = .ok (.areturn, 1) := by decide +kernel
set_option maxRecDepth 65536 in
set_option maxHeartbeats 40000000 in
theorem ctKr (l : Launch) (Z : State) (a0 : Array Value) (hw : ∀ d ∈ tables_1, d.before a0 Z = true) (b : Addr) (kb : ClassId) (cap : Nat) (bs : List Int32) (h0 : Heap) (n0 : Nat) (hn0 : n0 ≤ h0.size) (hcap : cap ≤ 4000) (hlt : bs.length < cap) (h31 : bs.length ≤ 31) (Cb : Arv Z h0 b kb .byte (Int32.ofNat cap) (own_pd bs cap) (.int 0)) :
    CtN l Z (⟨"java/util/Arrays", "copyOfRange", "([BII)[B"⟩ : MethodName) jdk_65_method_132_code 3 (some (.array .byte)) ({ frames := 2, cells := 1, slots := 31, locals := 34 } : Room) n0 #[(.ref b), (.int (0 : Int32)), (.int (Int32.ofNat bs.length))] h0 (fun v h => ∃ nb kn, v = some (.ref nb) ∧ Ext h0 h ∧ h0.size ≤ nb ∧ Arv Z h nb kn .byte (Int32.ofNat bs.length) (bs.map Value.int) (.int 0)) := by
  refine CtN.of (plainFor_of_name pn_java_util_Arrays) ?_
  intro p e s m below meth c T0 W0 hnm
  refine Wp.cast (ef_39_RII m b (0 : Int32) (Int32.ofNat bs.length)) ?_
  refine w_iloadN W0 d39_0 rfl ?_
  refine w_ifne W0 (pc' := 10) d39_1 (by decide) (fun c1 => absurd c1 (by decide)) (fun c1 => ?_)
  refine w_iloadN W0 d39_4 rfl ?_
  refine w_aloadN W0 d39_5 rfl rfl ?_
  refine w_arrlen W0 Cb d39_6 ?_
  refine w_icmpeq W0 (pc' := 17) d39_7 (by decide) (fun c7 => ?_) (fun c7 => ?_)
  · exact absurd ((own_eqI (by omega) (by omega)).mp c7) (by omega)
  · refine w_aloadN W0 d39_10 rfl rfl ?_
    refine w_iloadN W0 d39_11 rfl ?_
    refine w_iloadN W0 d39_12 rfl ?_
    refine w_callS W0 (ctKb l Z a0 hw b kb cap bs _ n0 hn0 hcap hlt h31 Cb) (hw _ (List.mem_of_getElem? (i := 206) rfl)) (hw _ (List.mem_of_getElem? (i := 207) rfl)) (hw _ (List.mem_of_getElem? (i := 172) rfl)) (hw _ (List.mem_of_getElem? (i := 208) rfl)) (by decide) 0 (by decide) (by decide) (by decide) (by decide) (argsL := [(.ref b), (.int (0 : Int32)), (.int (Int32.ofNat bs.length))]) (rest := []) pd_23 rfl rfl rfl rfl rfl d39_13 ?_
    rintro T1 h1 l1 _ W1 ⟨nb, kn, rfl, E, hb, V⟩
    exact n_rA W1 rfl rfl rfl d39_16 (by decide) (by decide) ⟨nb, kn, rfl, E, hb, V⟩
theorem ef_37_RRn (m : MethodId) (x0 : Addr) (x1 : Addr) : entryFrame m #[(.ref x0), (.ref x1), .null] 5 = mkF m 0 #[.val (.ref x0), .val (.ref x1), .val .null, .unset, .unset] [] := by first | (simp [entryFrame, mkF, argsToLocals, Value.category]; done) | rfl
theorem d37_0 : decode jdk_42_method_150_code 0 = .ok (.aload_n 0, 1) := by decide +kernel
theorem d37_1 : decode jdk_42_method_150_code 1 = .ok (.invokespecial 1, 3) := by decide +kernel
theorem d37_4 : decode jdk_42_method_150_code 4 = .ok (.aload_n 1, 1) := by decide +kernel
theorem d37_5 : decode jdk_42_method_150_code 5 = .ok (.invokevirtual 552, 3) := by decide +kernel
theorem pd_24 : parseMethodDescriptor "()[B" = some ⟨[], some (.array .byte)⟩ := by decide +kernel
theorem d37_8 : decode jdk_42_method_150_code 8 = .ok (.astore_n 3, 1) := by decide +kernel
theorem d37_9 : decode jdk_42_method_150_code 9 = .ok (.aload_n 1, 1) := by decide +kernel
theorem d37_10 : decode jdk_42_method_150_code 10 = .ok (.invokevirtual 549, 3) := by decide +kernel
theorem d37_13 : decode jdk_42_method_150_code 13 = .ok (.istore 4, 2) := by decide +kernel
theorem d37_15 : decode jdk_42_method_150_code 15 = .ok (.aload_n 1, 1) := by decide +kernel
theorem d37_16 : decode jdk_42_method_150_code 16 = .ok (.invokevirtual 1047, 3) := by decide +kernel
theorem d37_19 : decode jdk_42_method_150_code 19 = .ok (.ifCond .eq 22, 3) := by decide +kernel
theorem d37_22 : decode jdk_42_method_150_code 22 = .ok (.aload_n 0, 1) := by decide +kernel
theorem d37_23 : decode jdk_42_method_150_code 23 = .ok (.iconst 0, 1) := by decide +kernel
theorem d37_24 : decode jdk_42_method_150_code 24 = .ok (.putfield 15, 3) := by decide +kernel
theorem d37_27 : decode jdk_42_method_150_code 27 = .ok (.aload_n 0, 1) := by decide +kernel
theorem d37_28 : decode jdk_42_method_150_code 28 = .ok (.aload_n 3, 1) := by decide +kernel
theorem d37_29 : decode jdk_42_method_150_code 29 = .ok (.iconst 0, 1) := by decide +kernel
theorem d37_30 : decode jdk_42_method_150_code 30 = .ok (.iload 4, 2) := by decide +kernel
theorem d37_32 : decode jdk_42_method_150_code 32 = .ok (.invokestatic 54, 3) := by decide +kernel
theorem d37_35 : decode jdk_42_method_150_code 35 = .ok (.putfield 9, 3) := by decide +kernel
theorem d37_38 : decode jdk_42_method_150_code 38 = .ok (.goto 59, 3) := by decide +kernel
theorem d37_97 : decode jdk_42_method_150_code 97 = .ok (.return_, 1) := by decide +kernel
set_option maxRecDepth 65536 in
set_option maxHeartbeats 40000000 in
theorem ctSa (l : Launch) (Z : State) (a0 : Array Value) (hw : ∀ d ∈ tables_1, d.before a0 Z = true) (cz : Int32) (x y b : Addr) (cap : Nat) (bs : List Int32) (h0 : Heap) (n0 : Nat) (O : Old Z n0 h0) (G : Sta Z Z.heap "java/lang/String" "COMPACT_STRINGS" "Z" (.int cz)) (hcz : cz ≠ 0) (hlt : bs.length < cap) (h31 : bs.length ≤ 31) (F : SB Z n0 h0 y b cap bs) (Ex : Exa Z h0 x "java/lang/String") (Fv : Fld Z h0 x "java/lang/String" "value" "[B" .null) (Fc : Fld Z h0 x "java/lang/String" "coder" "B" (.int 0)) (hnx : n0 ≤ x) :
    CtN l Z (⟨"java/lang/String", "<init>", "(Ljava/lang/AbstractStringBuilder;Ljava/lang/Void;)V"⟩ : MethodName) jdk_42_method_150_code 5 none ({ frames := 3, cells := 1, slots := 31, locals := 49 } : Room) n0 #[(.ref x), (.ref y), .null] h0 (fun v h => v = none ∧ Keep h0 h [x] ∧ Str Z h x 0 bs) := by
  refine CtN.of (plainFor_of_name pn_java_lang_String) ?_
  intro p e s m below meth c T0 W0 hnm
  refine Wp.cast (ef_37_RRn m x y) ?_
  obtain ⟨By, Bc, Bn, Bv, hby, hbb, hle, hcap, kb, Cb⟩ := id F
  refine w_aloadN W0 d37_0 rfl rfl ?_
  refine w_initO W0 (hw _ (List.mem_of_getElem? (i := 11) rfl)) (hw _ (List.mem_of_getElem? (i := 12) rfl)) (hw _ (List.mem_of_getElem? (i := 13) rfl)) 0 rfl rfl (by decide) (by decide) d37_1 ?_
  intro T1 W1
  refine w_aloadN W1 d37_4 rfl rfl ?_
  refine w_virt W1 (ctGv l Z a0 hw n0 y b cap bs _ n0 F) (hw _ (List.mem_of_getElem? (i := 195) rfl)) (hw _ (List.mem_of_getElem? (i := 196) rfl)) (notFace_of_selects (args := #[]) (mvT W1.wZ (hw _ (List.mem_of_getElem? (i := 198) rfl)))) (hw _ (List.mem_of_getElem? (i := 198) rfl)) (hw _ (List.mem_of_getElem? (i := 197) rfl)) (hw _ (List.mem_of_getElem? (i := 61) rfl)) (hw _ (List.mem_of_getElem? (i := 199) rfl)) (by decide) 0 (by decide) (by decide) (by decide) (by decide) (a := y) By (argsL := []) (rest := []) pd_24 rfl rfl rfl rfl rfl d37_5 ?_
  rintro T2 h2 l2 _ W2 ⟨rfl, rfl⟩
  refine w_astoreN W2 (L' := #[.val (.ref x), .val (.ref y), .val .null, .val (.ref b), .unset]) d37_8 rfl rfl ?_
  refine w_aloadN W2 d37_9 rfl rfl ?_
  refine w_virt W2 (ctBl l Z a0 hw n0 y b cap bs _ n0 F) (hw _ (List.mem_of_getElem? (i := 200) rfl)) (hw _ (List.mem_of_getElem? (i := 88) rfl)) (Cls.nf (Cls.sel (z := ({ cls := "java/lang/AbstractStringBuilder", name := "ensureCapacityInternal", desc := "(I)V" } : Jvm.MethodName)) (a0 := #[]) (mvT W2.wZ (hw _ (List.mem_of_getElem? (i := 117) rfl))) : Cls _ "java/lang/AbstractStringBuilder")) (hw _ (List.mem_of_getElem? (i := 201) rfl)) (hw _ (List.mem_of_getElem? (i := 82) rfl)) (hw _ (List.mem_of_getElem? (i := 53) rfl)) (hw _ (List.mem_of_getElem? (i := 84) rfl)) (by decide) 0 (by decide) (by decide) (by decide) (by decide) (a := y) By (argsL := []) (rest := []) pd_7 rfl rfl rfl rfl rfl d37_10 ?_
  rintro T3 h3 l3 _ W3 ⟨rfl, rfl⟩
  refine w_istore W3 (L' := #[.val (.ref x), .val (.ref y), .val .null, .val (.ref b), .val (.int (Int32.ofNat bs.length))]) d37_13 rfl ?_
  refine w_aloadN W3 d37_15 rfl rfl ?_
  refine w_virt W3 (ctAl1 l Z a0 hw cz n0 y b cap bs _ n0 O G hcz F) (hw _ (List.mem_of_getElem? (i := 202) rfl)) (hw _ (List.mem_of_getElem? (i := 149) rfl)) (notFace_of_selects (args := #[]) (mvT W3.wZ (hw _ (List.mem_of_getElem? (i := 151) rfl)))) (hw _ (List.mem_of_getElem? (i := 151) rfl)) (hw _ (List.mem_of_getElem? (i := 150) rfl)) (hw _ (List.mem_of_getElem? (i := 61) rfl)) (hw _ (List.mem_of_getElem? (i := 152) rfl)) (by decide) 0 (by decide) (by decide) (by decide) (by decide) (a := y) By (argsL := []) (rest := []) pd_16 rfl rfl rfl rfl rfl d37_16 ?_
  rintro T4 h4 l4 _ W4 ⟨rfl, rfl⟩
  refine w_ifeq W4 (pc' := 41) d37_19 (by decide) (fun c19 => absurd c19 (by decide)) (fun c19 => ?_)
  refine w_aloadN W4 d37_22 rfl rfl ?_
  refine w_iconst W4 (z := (0 : Int32)) d37_23 (by rfl) ?_
  refine w_putf W4 (hw _ (List.mem_of_getElem? (i := 26) rfl)) Via.refl Fc Ex (Or.inr ⟨(hw _ (List.mem_of_getElem? (i := 27) rfl)), rfl, hnm⟩) (hw _ (List.mem_of_getElem? (i := 1) rfl)) (ty := .byte) (v' := (.int (0 : Int32))) (by decide) (by rfl) (by decide) hnx d37_24 ?_
  intro T5 h5 l5 W5 Wr5
  have nbx : b ≠ x := (Exa.neArv Ex Cb (hw _ (List.mem_of_getElem? (i := 1) rfl))).symm
  have Cb1 := Cb.other Wr5 nbx
  have O1 := O.wr Wr5 hnx
  have Fv1 := Fv.other Wr5 (Or.inr (slot_ne (Or.inr (hw _ (List.mem_of_getElem? (i := 29) rfl))) (Or.inr (hw _ (List.mem_of_getElem? (i := 27) rfl))) (by decide) (t := (.array .byte)) (t' := .byte) (by decide) (by decide)))
  refine w_aloadN W5 d37_27 rfl rfl ?_
  refine w_aloadN W5 d37_28 rfl rfl ?_
  refine w_iconst W5 (z := (0 : Int32)) d37_29 (by rfl) ?_
  refine w_iload W5 d37_30 rfl ?_
  refine w_callS W5 (ctKr l Z a0 hw b kb cap bs _ n0 (own_oldle O1) hcap hlt h31 Cb1) (hw _ (List.mem_of_getElem? (i := 203) rfl)) (hw _ (List.mem_of_getElem? (i := 204) rfl)) (hw _ (List.mem_of_getElem? (i := 172) rfl)) (hw _ (List.mem_of_getElem? (i := 205) rfl)) (by decide) 1 (by decide) (by decide) (by decide) (by decide) (argsL := [(.ref b), (.int (0 : Int32)), (.int (Int32.ofNat bs.length))]) (rest := [(.ref x)]) pd_23 rfl rfl rfl rfl rfl d37_32 ?_
  rintro T6 h6 l6 _ W6 ⟨nb, kn, rfl, E, hb, V⟩
  refine w_putf W6 (hw _ (List.mem_of_getElem? (i := 28) rfl)) Via.refl (Fv1.ext E) ((Ex.wr Wr5).ext E) (Or.inr ⟨(hw _ (List.mem_of_getElem? (i := 29) rfl)), rfl, hnm⟩) (hw _ (List.mem_of_getElem? (i := 1) rfl)) (ty := (.array .byte)) (v' := (.ref nb)) (by decide) (by rfl) (rfl) hnx d37_35 ?_
  intro T7 h7 l7 W7 Wr7
  have hxb : nb ≠ x := Nat.ne_of_gt (Nat.lt_of_lt_of_le (Ex.wr Wr5).lt hb)
  refine w_goto W7 (pc' := 97) d37_38 (by decide) ?_
  exact n_rV W7 rfl d37_97 (by decide) (by decide) ⟨rfl, (((Keep.refl h0 [x]).wr Wr5 (Or.inl (List.mem_cons_self ..))).ext E).wr Wr7 (Or.inl (List.mem_cons_self ..)), ⟨nb, kn, ((Ex.wr Wr5).ext E).wr Wr7, ((Fc.same Wr5).ext E).other Wr7 (Or.inr (slot_ne (Or.inr (hw _ (List.mem_of_getElem? (i := 27) rfl))) (Or.inr (hw _ (List.mem_of_getElem? (i := 29) rfl))) (by decide) (t := .byte) (t' := (.array .byte)) (by decide) (by decide))), (Fv1.ext E).same Wr7, V.other Wr7 hxb⟩⟩
theorem ef_36_RR (m : MethodId) (x0 : Addr) (x1 : Addr) : entryFrame m #[(.ref x0), (.ref x1)] 2 = mkF m 0 #[.val (.ref x0), .val (.ref x1)] [] := by first | (simp [entryFrame, mkF, argsToLocals, Value.category]; done) | rfl
theorem d36_0 : decode jdk_42_method_53_code 0 = .ok (.aload_n 0, 1) := by decide +kernel
theorem d36_1 : decode jdk_42_method_53_code 1 = .ok (.aload_n 1, 1) := by decide +kernel
theorem d36_2 : decode jdk_42_method_53_code 2 = .ok (.aconst_null, 1) := by decide +kernel
theorem d36_3 : decode jdk_42_method_53_code 3 = .ok (.invokespecial 489, 3) := by decide +kernel
theorem pd_25 : parseMethodDescriptor "(Ljava/lang/AbstractStringBuilder;Ljava/lang/Void;)V" = some ⟨[(.object "java/lang/AbstractStringBuilder"), (.object "java/lang/Void")], none⟩ := by decide +kernel
theorem d36_6 : decode jdk_42_method_53_code 6 = .ok (.return_, 1) := by decide +kernel
set_option maxRecDepth 65536 in
set_option maxHeartbeats 40000000 in
theorem ctSx (l : Launch) (Z : State) (a0 : Array Value) (hw : ∀ d ∈ tables_1, d.before a0 Z = true) (cz : Int32) (x y b : Addr) (cap : Nat) (bs : List Int32) (h0 : Heap) (n0 : Nat) (O : Old Z n0 h0) (G : Sta Z Z.heap "java/lang/String" "COMPACT_STRINGS" "Z" (.int cz)) (hcz : cz ≠ 0) (hlt : bs.length < cap) (h31 : bs.length ≤ 31) (F : SB Z n0 h0 y b cap bs) (Ex : Exa Z h0 x "java/lang/String") (Fv : Fld Z h0 x "java/lang/String" "value" "[B" .null) (Fc : Fld Z h0 x "java/lang/String" "coder" "B" (.int 0)) (hnx : n0 ≤ x) :
    CtN l Z (⟨"java/lang/String", "<init>", "(Ljava/lang/StringBuilder;)V"⟩ : MethodName) jdk_42_method_53_code 2 none ({ frames := 4, cells := 1, slots := 31, locals := 65 } : Room) n0 #[(.ref x), (.ref y)] h0 (fun v h => v = none ∧ Keep h0 h [x] ∧ Str Z h x 0 bs) := by
  refine CtN.of (plainFor_of_name pn_java_lang_String) ?_
  intro p e s m below meth c T0 W0 hnm
  refine Wp.cast (ef_36_RR m x y) ?_
  refine w_aloadN W0 d36_0 rfl rfl ?_
  refine w_aloadN W0 d36_1 rfl rfl ?_
  refine w_aconstNull W0 d36_2 ?_
  refine w_special W0 (ctSa l Z a0 hw cz x y b cap bs _ n0 O G hcz hlt h31 F Ex Fv Fc hnx) rfl (hw _ (List.mem_of_getElem? (i := 192) rfl)) (hw _ (List.mem_of_getElem? (i := 193) rfl)) (hw _ (List.mem_of_getElem? (i := 2) rfl)) (hw _ (List.mem_of_getElem? (i := 194) rfl)) (by decide) 0 (by decide) (by decide) (by decide) (by decide) (a := x) (argsL := [(.ref y), .null]) (rest := []) pd_25 rfl rfl rfl rfl rfl d36_3 ?_
  rintro T1 h1 l1 _ W1 ⟨rfl, K, R⟩
  exact n_rV W1 rfl d36_6 (by decide) (by decide) ⟨rfl, K, R⟩
theorem ef_35_R (m : MethodId) (x0 : Addr) : entryFrame m #[(.ref x0)] 1 = mkF m 0 #[.val (.ref x0)] [] := by first | (simp [entryFrame, mkF, argsToLocals, Value.category]; done) | rfl
theorem d35_0 : decode jdk_67_method_42_code 0 = .ok (.new 18, 3) := by decide +kernel
theorem d35_3 : decode jdk_67_method_42_code 3 = .ok (.dup, 1) := by decide +kernel
theorem d35_4 : decode jdk_67_method_42_code 4 = .ok (.aload_n 0, 1) := by decide +kernel
theorem d35_5 : decode jdk_67_method_42_code 5 = .ok (.invokespecial 137, 3) := by decide +kernel
theorem pd_26 : parseMethodDescriptor "(Ljava/lang/StringBuilder;)V" = some ⟨[(.object "java/lang/StringBuilder")], none⟩ := by decide +kernel
theorem d35_8 : decode jdk_67_method_42_code 8 = .ok (.areturn, 1) := by decide +kernel
set_option maxRecDepth 65536 in
set_option maxHeartbeats 40000000 in
theorem ctTs (l : Launch) (Z : State) (a0 : Array Value) (hw : ∀ d ∈ tables_1, d.before a0 Z = true) (cz : Int32) (y b : Addr) (cap : Nat) (bs : List Int32) (h0 : Heap) (n0 : Nat) (O : Old Z n0 h0) (G : Sta Z Z.heap "java/lang/String" "COMPACT_STRINGS" "Z" (.int cz)) (hcz : cz ≠ 0) (hlt : bs.length < cap) (h31 : bs.length ≤ 31) (F : SB Z n0 h0 y b cap bs) :
    CtN l Z (⟨"java/lang/StringBuilder", "toString", "()Ljava/lang/String;"⟩ : MethodName) jdk_67_method_42_code 1 (some (.object "java/lang/String")) ({ frames := 5, cells := 2, slots := 35, locals := 79 } : Room) n0 #[(.ref y)] h0 (fun v h => ∃ a, v = some (.ref a) ∧ Ext h0 h ∧ h0.size ≤ a ∧ Str Z h a 0 bs) := by
  refine CtN.of (plainFor_of_name pn_java_lang_StringBuilder) ?_
  intro p e s m below meth c T0 W0 hnm
  refine Wp.cast (ef_35_R m y) ?_
  refine w_new W0 (hw _ (List.mem_of_getElem? (i := 188) rfl)) (hw _ (List.mem_of_getElem? (i := 1) rfl)) (hw _ (List.mem_of_getElem? (i := 2) rfl)) d35_0 (by decide) (by decide) ?_
  intro T1 h1 sa W1 E1 g1 A1 D1
  have E := E1
  have hsa : h0.size ≤ sa := Nat.le_of_eq g1.symm
  have Fv := (D1 (Or.inr (hw _ (List.mem_of_getElem? (i := 29) rfl))) (ty := (.array .byte)) (by decide) : Fld Z h1 _ "java/lang/String" "value" "[B" .null)
  have Fc := (D1 (Or.inr (hw _ (List.mem_of_getElem? (i := 27) rfl))) (ty := .byte) (by decide) : Fld Z h1 _ "java/lang/String" "coder" "B" (.int 0))
  refine w_dup W1 d35_3 rfl ?_
  refine w_aloadN W1 d35_4 rfl rfl ?_
  refine w_special W1 (ctSx l Z a0 hw cz sa y b cap bs _ n0 (O.ext E) G hcz hlt h31 (F.ext E) A1 Fv Fc (Nat.le_trans (own_oldle O) hsa)) rfl (hw _ (List.mem_of_getElem? (i := 189) rfl)) (hw _ (List.mem_of_getElem? (i := 190) rfl)) (hw _ (List.mem_of_getElem? (i := 2) rfl)) (hw _ (List.mem_of_getElem? (i := 191) rfl)) (by decide) 1 (by decide) (by decide) (by decide) (by decide) (a := sa) (argsL := [(.ref y)]) (rest := [(.ref sa)]) pd_26 rfl rfl rfl rfl rfl d35_5 ?_
  rintro T2 h2 l2 _ W2 ⟨rfl, K, Sx⟩
  exact n_rA W2 rfl rfl rfl d35_8 (by decide) (by decide) ⟨sa, rfl, own_extKeep E K (allS hsa all0), hsa, Sx⟩
theorem ef_34_R (m : MethodId) (x0 : Addr) : entryFrame m #[(.ref x0)] 1 = mkF m 0 #[.val (.ref x0)] [] := by first | (simp [entryFrame, mkF, argsToLocals, Value.category]; done) | rfl
theorem d34_0 : decode prog_4_method_5_code 0 = .ok (.aload_n 0, 1) := by decide +kernel
theorem d34_1 : decode prog_4_method_5_code 1 = .ok (.getfield 10, 3) := by decide +kernel
theorem d34_4 : decode prog_4_method_5_code 4 = .ok (.invokevirtual 44, 3) := by decide +kernel
theorem pd_27 : parseMethodDescriptor "()Ljava/lang/String;" = some ⟨[], some (.object "java/lang/String")⟩ := by decide +kernel
theorem d34_7 : decode prog_4_method_5_code 7 = .ok (.areturn, 1) := by decide +kernel
set_option maxRecDepth 65536 in
set_option maxHeartbeats 40000000 in
theorem ctTt (l : Launch) (Z : State) (a0 : Array Value) (hw : ∀ d ∈ tables_1, d.before a0 Z = true) (cz : Int32) (y b : Addr) (cap : Nat) (bs : List Int32) (t : Addr) (h0 : Heap) (n0 : Nat) (O : Old Z n0 h0) (G : Sta Z Z.heap "java/lang/String" "COMPACT_STRINGS" "Z" (.int cz)) (hcz : cz ≠ 0) (hlt : bs.length < cap) (h31 : bs.length ≤ 31) (F : SB Z n0 h0 y b cap bs) (Fv : Fld Z h0 t "com/example/phasescope/phasescope/ServerTiming" "value" "Ljava/lang/StringBuilder;" (.ref y)) :
    CtN l Z (⟨"com/example/phasescope/phasescope/ServerTiming", "toString", "()Ljava/lang/String;"⟩ : MethodName) prog_4_method_5_code 1 (some (.object "java/lang/String")) ({ frames := 6, cells := 2, slots := 35, locals := 91 } : Room) n0 #[(.ref t)] h0 (fun v h => ∃ a, v = some (.ref a) ∧ Ext h0 h ∧ h0.size ≤ a ∧ Str Z h a 0 bs) := by
  refine CtN.of (plainFor_of_name pn_com_example_phasescope_phasescope_ServerTiming) ?_
  intro p e s m below meth c T0 W0 hnm
  refine Wp.cast (ef_34_R m t) ?_
  have By := F.1
  refine w_aloadN W0 d34_0 rfl rfl ?_
  refine w_getf W0 (host := "") (Or.inl (hw _ (List.mem_of_getElem? (i := 69) rfl))) Via.refl Fv d34_1 ?_
  intro T1 W1
  refine w_virt W1 (ctTs l Z a0 hw cz y b cap bs _ n0 O G hcz hlt h31 F) (hw _ (List.mem_of_getElem? (i := 183) rfl)) (hw _ (List.mem_of_getElem? (i := 184) rfl)) (notFace_of_selects (args := #[]) (mvT W1.wZ (hw _ (List.mem_of_getElem? (i := 186) rfl)))) (hw _ (List.mem_of_getElem? (i := 186) rfl)) (hw _ (List.mem_of_getElem? (i := 185) rfl)) (hw _ (List.mem_of_getElem? (i := 53) rfl)) (hw _ (List.mem_of_getElem? (i := 187) rfl)) (by decide) 0 (by decide) (by decide) (by decide) (by decide) (a := y) By (argsL := []) (rest := []) pd_27 rfl rfl rfl rfl rfl d34_4 ?_
  rintro T2 h2 l2 _ W2 ⟨a, rfl, E, ha, R⟩
  exact n_rA W2 rfl rfl rfl d34_7 (by decide) (by decide) ⟨a, rfl, E, ha, R⟩
theorem ef_15_R (m : MethodId) (x0 : Addr) : entryFrame m #[(.ref x0)] 1 = mkF m 0 #[.val (.ref x0)] [] := by first | (simp [entryFrame, mkF, argsToLocals, Value.category]; done) | rfl
theorem d15_0 : decode prog_4_method_7_code 0 = .ok (.aload_n 0, 1) := by decide +kernel
theorem d15_1 : decode prog_4_method_7_code 1 = .ok (.getfield 10, 3) := by decide +kernel
theorem d15_4 : decode prog_4_method_7_code 4 = .ok (.invokevirtual 68, 3) := by decide +kernel
theorem d15_7 : decode prog_4_method_7_code 7 = .ok (.ifCond .ne 10, 3) := by decide +kernel
theorem d15_10 : decode prog_4_method_7_code 10 = .ok (.aload_n 0, 1) := by decide +kernel
theorem d15_11 : decode prog_4_method_7_code 11 = .ok (.getfield 10, 3) := by decide +kernel
theorem d15_14 : decode prog_4_method_7_code 14 = .ok (.goto 12, 3) := by decide +kernel
theorem d15_26 : decode prog_4_method_7_code 26 = .ok (.areturn, 1) := by decide +kernel
set_option maxRecDepth 65536 in
set_option maxHeartbeats 40000000 in
theorem ctN0 (l : Launch) (Z : State) (a0 : Array Value) (hw : ∀ d ∈ tables_1, d.before a0 Z = true) (n1 : Nat) (t y b : Addr) (cap : Nat) (h0 : Heap) (n0 : Nat) (Ft : Fld Z h0 t "com/example/phasescope/phasescope/ServerTiming" "value" "Ljava/lang/StringBuilder;" (.ref y)) (F : SB Z n1 h0 y b cap []) :
    CtN l Z (⟨"com/example/phasescope/phasescope/ServerTiming", "next", "()Ljava/lang/StringBuilder;"⟩ : MethodName) prog_4_method_7_code 1 (some (.object "java/lang/StringBuilder")) ({ frames := 2, cells := 0, slots := 0, locals := 24 } : Room) n0 #[(.ref t)] h0 (fun v h => v = some (.ref y) ∧ h0 = h) := by
  refine CtN.of (plainFor_of_name pn_com_example_phasescope_phasescope_ServerTiming) ?_
  intro p e s m below meth c T0 W0 hnm
  refine Wp.cast (ef_15_R m t) ?_
  have By := F.1
  refine w_aloadN W0 d15_0 rfl rfl ?_
  refine w_getf W0 (host := "") (Or.inl (hw _ (List.mem_of_getElem? (i := 69) rfl))) Via.refl Ft d15_1 ?_
  intro T1 W1
  refine w_virt W1 (ctBl l Z a0 hw n1 y b cap [] _ n0 F) (hw _ (List.mem_of_getElem? (i := 80) rfl)) (hw _ (List.mem_of_getElem? (i := 81) rfl)) (notFace_of_selects (args := #[]) (mvT W1.wZ (hw _ (List.mem_of_getElem? (i := 83) rfl)))) (hw _ (List.mem_of_getElem? (i := 83) rfl)) (hw _ (List.mem_of_getElem? (i := 82) rfl)) (hw _ (List.mem_of_getElem? (i := 53) rfl)) (hw _ (List.mem_of_getElem? (i := 84) rfl)) (by decide) 0 (by decide) (by decide) (by decide) (by decide) (a := y) By (argsL := []) (rest := []) pd_7 rfl rfl rfl rfl rfl d15_4 ?_
  rintro T2 h2 l2 _ W2 ⟨rfl, rfl⟩
  refine w_ifne W2 (pc' := 17) d15_7 (by decide) (fun c7 => absurd c7 (by decide)) (fun c7 => ?_)
  refine w_aloadN W2 d15_10 rfl rfl ?_
  refine w_getf W2 (host := "") (Or.inl (hw _ (List.mem_of_getElem? (i := 69) rfl))) Via.refl Ft d15_11 ?_
  intro T3 W3
  refine w_goto W3 (pc' := 26) d15_14 (by decide) ?_
  exact n_rA W3 rfl rfl rfl d15_26 (by decide) (by decide) ⟨rfl, rfl⟩
theorem own_litV {s Z : State} {vm1 : Vm} {C : String} {i : Nat} {a : Addr} (hW : s.Warmed39 vm1) (L : Lit (Z.setVm s.vm) C i a) : Lit (Z.setVm vm1) C i a := Lit.stays (s := s) (vm0 := s.vm) L hW
theorem own_ldWarm {Z s : State} {vm0 vm1 : Vm} {h : Heap} (F : Ld Z vm0 h) (hW : (s.setVm vm0).WarmedH vm1) : Ld Z vm1 h := by
  obtain ⟨a, L, S⟩ := F
  exact ⟨a, Lit.stays (s := s) L hW.wide, S⟩
theorem own_ldKeep {Z : State} {n0 : Nat} {vm : Vm} {h h' : Heap} {a0 : Array Value} {x b : Addr} {cap : Nat} {bs : List Int32} (F : Ld Z vm h) (G : SB Z n0 h x b cap bs) (hc : 12 < cap) (wS : (Jvm.Cond.instantiable "java/lang/String" 4).before a0 Z = true) (wB : (Jvm.Cond.instantiable "java/lang/StringBuilder" 4).before a0 Z = true) (K : Keep h h' [x, b]) : Ld Z vm h' := by
  obtain ⟨a, L, S⟩ := F
  exact ⟨a, L, S.keepSB G (by decide) (by show (12 : Nat) ≠ cap; omega) wS wB K⟩
theorem d15_17 : decode prog_4_method_7_code 17 = .ok (.aload_n 0, 1) := by decide +kernel
theorem d15_18 : decode prog_4_method_7_code 18 = .ok (.getfield 10, 3) := by decide +kernel
theorem d15_21 : decode prog_4_method_7_code 21 = .ok (.ldc 72, 2) := by decide +kernel
theorem d15_23 : decode prog_4_method_7_code 23 = .ok (.invokevirtual 37, 3) := by decide +kernel
theorem pd_28 : parseMethodDescriptor "(Ljava/lang/String;)Ljava/lang/StringBuilder;" = some ⟨[(.object "java/lang/String")], some (.object "java/lang/StringBuilder")⟩ := by decide +kernel
set_option maxRecDepth 65536 in
set_option maxHeartbeats 40000000 in
theorem ctN1 (l : Launch) (Z : State) (a0 : Array Value) (hw : ∀ d ∈ tables_1, d.before a0 Z = true) (cz : Int32) (t y b : Addr) (cap : Nat) (bs : List Int32) (h0 : Heap) (n0 : Nat) (hC72 : Jvm.Lit.constHeld Z "com/example/phasescope/phasescope/ServerTiming" 72) (O : Old Z n0 h0) (G : Sta Z Z.heap "java/lang/String" "COMPACT_STRINGS" "Z" (.int cz)) (hcz : cz ≠ 0) (Ft : Fld Z h0 t "com/example/phasescope/phasescope/ServerTiming" "value" "Ljava/lang/StringBuilder;" (.ref y)) (hpos : 0 < bs.length) (h12 : 12 < cap) (hfit : bs.length + own_cB.length ≤ cap) (F : SB Z n0 h0 y b cap bs) :
    CtW l Z (⟨"com/example/phasescope/phasescope/ServerTiming", "next", "()Ljava/lang/StringBuilder;"⟩ : MethodName) prog_4_method_7_code 1 (some (.object "java/lang/StringBuilder")) ({ frames := 5, cells := 2, slots := 12, locals := 74 } : Room) n0 #[(.ref t)] h0 (fun vm => Ld Z vm h0 ∧ IB Z vm ["trace;desc=\""]) (fun v h vm => v = some (.ref y) ∧ Keep h0 h [y, b] ∧ SB Z n0 h y b cap (bs ++ own_cB) ∧ Ld Z vm h) := by
  refine CtW.of (plainFor_of_name pn_com_example_phasescope_phasescope_ServerTiming) ?_
  intro p e s m below meth c T0 W0 hnm hs0 hV
  refine Wp.cast (ef_15_R m t) ?_
  have By := F.1
  have W0h := Wk.hi (n1 := h0.size) W0
  refine w_aloadN W0h d15_0 rfl rfl ?_
  refine w_getf W0h (host := "") (Or.inl (hw _ (List.mem_of_getElem? (i := 69) rfl))) Via.refl Ft d15_1 ?_
  intro T1 W1
  refine w_virt W1 (ctBl l Z a0 hw n0 y b cap bs _ h0.size F) (hw _ (List.mem_of_getElem? (i := 80) rfl)) (hw _ (List.mem_of_getElem? (i := 81) rfl)) (notFace_of_selects (args := #[]) (mvT W1.wZ (hw _ (List.mem_of_getElem? (i := 83) rfl)))) (hw _ (List.mem_of_getElem? (i := 83) rfl)) (hw _ (List.mem_of_getElem? (i := 82) rfl)) (hw _ (List.mem_of_getElem? (i := 53) rfl)) (hw _ (List.mem_of_getElem? (i := 84) rfl)) (by decide) 0 (by decide) (by decide) (by decide) (by decide) (a := y) By (argsL := []) (rest := []) pd_7 rfl rfl rfl rfl rfl d15_4 ?_
  rintro T2 h2 l2 _ W2 ⟨rfl, rfl⟩
  refine w_ifne W2 (pc' := 17) d15_7 (by decide) (fun c7 => ?_) (fun c7 => ?_)
  · refine w_aloadN W2 d15_17 rfl rfl ?_
    refine w_getf W2 (host := "") (Or.inl (hw _ (List.mem_of_getElem? (i := 69) rfl))) Via.refl Ft d15_18 ?_
    intro T3 W3
    refine w_ldcSV W3 (hw _ (List.mem_of_getElem? (i := 154) rfl)) (own_wS hw) (by rw [hs0]; exact W3.fr) (by rw [hs0]; exact O.2.2) hV.2 (by decide) hC72 (own_cw G hcz) (vs := own_cB.map Value.int) (z := Int32.ofNat own_cB.length) ⟨by decide, by rfl⟩ (by decide) (by decide) 8 (by decide) (by decide) (by decide) (by decide) d15_21 ?_
    intro T4 h4 vm4 la lb lk W4 E4 Ea Fca Fva Ar I4 Lt
    have Sl : Str Z h4 la 0 own_cB := ⟨lb, lk, Ea, Fca, Fva, Ar⟩
    have W4l := Wk.low (n0 := n0) W4 (own_oldle O)
    have Byl := By.ext E4
    have LD : Ld Z vm4 h4 := by obtain ⟨ta, q1, q2⟩ := hV.1; exact ⟨ta, own_litV W4.since.1 q1, q2.ext E4⟩
    refine w_virt W4l (ctBs l Z a0 hw cz y b cap bs la own_cB _ n0 hfit (O.ext E4) G hcz (F.ext E4) Sl) (hw _ (List.mem_of_getElem? (i := 95) rfl)) (hw _ (List.mem_of_getElem? (i := 96) rfl)) (notFace_of_selects (args := #[]) (mvT W4l.wZ (hw _ (List.mem_of_getElem? (i := 98) rfl)))) (hw _ (List.mem_of_getElem? (i := 98) rfl)) (hw _ (List.mem_of_getElem? (i := 97) rfl)) (hw _ (List.mem_of_getElem? (i := 53) rfl)) (hw _ (List.mem_of_getElem? (i := 99) rfl)) (by decide) 0 (by decide) (by decide) (by decide) (by decide) (a := y) Byl (argsL := [(.ref la)]) (rest := []) pd_28 rfl rfl rfl rfl rfl d15_23 ?_
    rintro T5 h5 l5 _ W5 ⟨rfl, K, R⟩
    exact x_rA W5 rfl rfl rfl d15_26 (by decide) (by decide) (fun vm' hvm' => ⟨rfl, (own_keepOf E4).trans K (fun q hq => Or.inl hq), R, own_ldKeep (own_ldWarm LD hvm') (F.ext E4) (by omega) (hw _ (List.mem_of_getElem? (i := 1) rfl)) (hw _ (List.mem_of_getElem? (i := 52) rfl)) K⟩)
  · exact absurd ((own_eqI (j := 0) (by have := F.2.2.2.2.2.2.2.1; have := F.2.2.2.2.2.2.1; omega) (by decide)).mp c7) (by omega)
theorem ef_14_RR (m : MethodId) (x0 : Addr) (x1 : Addr) : entryFrame m #[(.ref x0), (.ref x1)] 2 = mkF m 0 #[.val (.ref x0), .val (.ref x1)] [] := by first | (simp [entryFrame, mkF, argsToLocals, Value.category]; done) | rfl
theorem d14_0 : decode prog_4_method_4_code 0 = .ok (.aload_n 0, 1) := by decide +kernel
theorem d14_1 : decode prog_4_method_4_code 1 = .ok (.invokevirtual 31, 3) := by decide +kernel
theorem pd_29 : parseMethodDescriptor "()Ljava/lang/StringBuilder;" = some ⟨[], some (.object "java/lang/StringBuilder")⟩ := by decide +kernel
theorem d14_4 : decode prog_4_method_4_code 4 = .ok (.ldc 35, 2) := by decide +kernel
theorem d14_6 : decode prog_4_method_4_code 6 = .ok (.invokevirtual 37, 3) := by decide +kernel
theorem d14_9 : decode prog_4_method_4_code 9 = .ok (.aload_n 1, 1) := by decide +kernel
theorem d14_10 : decode prog_4_method_4_code 10 = .ok (.invokevirtual 37, 3) := by decide +kernel
theorem d14_13 : decode prog_4_method_4_code 13 = .ok (.bipush 34, 2) := by decide +kernel
theorem d14_15 : decode prog_4_method_4_code 15 = .ok (.invokevirtual 41, 3) := by decide +kernel
theorem pd_30 : parseMethodDescriptor "(C)Ljava/lang/StringBuilder;" = some ⟨[.char], some (.object "java/lang/StringBuilder")⟩ := by decide +kernel
theorem d14_18 : decode prog_4_method_4_code 18 = .ok (.pop, 1) := by decide +kernel
theorem d14_19 : decode prog_4_method_4_code 19 = .ok (.aload_n 0, 1) := by decide +kernel
theorem d14_20 : decode prog_4_method_4_code 20 = .ok (.areturn, 1) := by decide +kernel
set_option maxRecDepth 65536 in
set_option maxHeartbeats 40000000 in
theorem ctT0 (l : Launch) (Z : State) (a0 : Array Value) (hw : ∀ d ∈ tables_1, d.before a0 Z = true) (cz : Int32) (t y b a : Addr) (us : List Int32) (h0 : Heap) (n0 : Nat) (hC35 : Jvm.Lit.constHeld Z "com/example/phasescope/phasescope/ServerTiming" 35) (O : Old Z n0 h0) (G : Sta Z Z.heap "java/lang/String" "COMPACT_STRINGS" "Z" (.int cz)) (hcz : cz ≠ 0) (Et : Exa Z h0 t "com/example/phasescope/phasescope/ServerTiming") (Ft : Fld Z h0 t "com/example/phasescope/phasescope/ServerTiming" "value" "Ljava/lang/StringBuilder;" (.ref y)) (hu : us.length ≤ 3) (S : Str Z h0 a 0 us) (F : SB Z n0 h0 y b 16 []) :
    CtW l Z (⟨"com/example/phasescope/phasescope/ServerTiming", "trace", "(Ljava/lang/String;)Lcom/example/phasescope/phasescope/ServerTiming;"⟩ : MethodName) prog_4_method_4_code 2 (some (.object "com/example/phasescope/phasescope/ServerTiming")) ({ frames := 5, cells := 2, slots := 52, locals := 74 } : Room) n0 #[(.ref t), (.ref a)] h0 (fun vm => IB Z vm []) (fun v h vm => v = some (.ref t) ∧ Keep h0 h [y, b] ∧ SB Z n0 h y b 16 ((([] ++ own_tB) ++ us) ++ [nar .byte (34 : Int32)]) ∧ Ld Z vm h ∧ IB Z vm ["trace;desc=\""]) := by
  refine CtW.of (plainFor_of_name pn_com_example_phasescope_phasescope_ServerTiming) ?_
  intro p e s m below meth c T0 W0 hnm hs0 hV
  refine Wp.cast (ef_14_RR m t a) ?_
  have W0h := Wk.hi (n1 := h0.size) W0
  obtain ⟨By, Bc, Bn, Bv, hny, hnb, hle, hcap, kb, Cb⟩ := id F
  refine w_aloadN W0h d14_0 rfl rfl ?_
  refine w_priv W0h (ctN0 l Z a0 hw n0 t y b 16 _ h0.size Ft F) (Cls.inst (hw _ (List.mem_of_getElem? (i := 45) rfl))) (hw _ (List.mem_of_getElem? (i := 78) rfl)) (hw _ (List.mem_of_getElem? (i := 76) rfl)) (hw _ (List.mem_of_getElem? (i := 77) rfl)) (hw _ (List.mem_of_getElem? (i := 46) rfl)) (hw _ (List.mem_of_getElem? (i := 79) rfl)) (by decide) 0 (by decide) (by decide) (by decide) (by decide) (a := t) Et (argsL := []) (rest := []) pd_29 rfl rfl rfl rfl rfl d14_1 ?_
  rintro T1 h1 l1 _ W1 ⟨rfl, rfl⟩
  refine w_ldcSV W1 (hw _ (List.mem_of_getElem? (i := 92) rfl)) (own_wS hw) (by rw [hs0]; exact W1.fr) (by rw [hs0]; exact O.2.2) hV (by simp) hC35 (own_cw G hcz) (vs := own_tB.map Value.int) (z := Int32.ofNat own_tB.length) ⟨by decide, by rfl⟩ (by decide) (by decide) 48 (by decide) (by decide) (by decide) (by decide) d14_4 ?_
  intro T2 h2 vm2 la lb lk W2 E2 Ea Fca Fva Ar I2 Lt
  have Sl : Str Z h2 la 0 own_tB := ⟨lb, lk, Ea, Fca, Fva, Ar⟩
  have W2l := Wk.low (n0 := n0) W2 (own_oldle O)
  have E := E2
  have By0 := By.ext E
  have LD : Ld Z vm2 h2 := ⟨la, Lt, Sl⟩
  refine w_virt W2l (ctBs l Z a0 hw cz y b 16 [] la own_tB _ n0 (by decide) (O.ext E) G hcz (F.ext E) Sl) (hw _ (List.mem_of_getElem? (i := 95) rfl)) (hw _ (List.mem_of_getElem? (i := 96) rfl)) (notFace_of_selects (args := #[]) (mvT W2l.wZ (hw _ (List.mem_of_getElem? (i := 98) rfl)))) (hw _ (List.mem_of_getElem? (i := 98) rfl)) (hw _ (List.mem_of_getElem? (i := 97) rfl)) (hw _ (List.mem_of_getElem? (i := 53) rfl)) (hw _ (List.mem_of_getElem? (i := 99) rfl)) (by decide) 0 (by decide) (by decide) (by decide) (by decide) (a := y) By0 (argsL := [(.ref la)]) (rest := []) pd_28 rfl rfl rfl rfl rfl d14_6 ?_
  rintro T3 h3 l3 _ W3 ⟨rfl, K1, R1⟩
  have S1 := (S.ext E).keepSB (F.ext E) (by omega) (by omega) (hw _ (List.mem_of_getElem? (i := 1) rfl)) (hw _ (List.mem_of_getElem? (i := 52) rfl)) K1
  have O1 := (O.ext E).keep K1 (allS hny (allS hnb all0))
  have LD1 := own_ldKeep LD (F.ext E) (by decide) (hw _ (List.mem_of_getElem? (i := 1) rfl)) (hw _ (List.mem_of_getElem? (i := 52) rfl)) K1
  have By1 := R1.1
  refine w_aloadN W3 d14_9 rfl rfl ?_
  refine w_virt W3 (ctBs l Z a0 hw cz y b 16 ([] ++ own_tB) a us _ n0 (by show 12 + us.length ≤ 16; omega) O1 G hcz R1 S1) (hw _ (List.mem_of_getElem? (i := 95) rfl)) (hw _ (List.mem_of_getElem? (i := 96) rfl)) (notFace_of_selects (args := #[]) (mvT W3.wZ (hw _ (List.mem_of_getElem? (i := 98) rfl)))) (hw _ (List.mem_of_getElem? (i := 98) rfl)) (hw _ (List.mem_of_getElem? (i := 97) rfl)) (hw _ (List.mem_of_getElem? (i := 53) rfl)) (hw _ (List.mem_of_getElem? (i := 99) rfl)) (by decide) 0 (by decide) (by decide) (by decide) (by decide) (a := y) By1 (argsL := [(.ref a)]) (rest := []) pd_28 rfl rfl rfl rfl rfl d14_10 ?_
  rintro T4 h4 l4 _ W4 ⟨rfl, K2, R2⟩
  have O2 := O1.keep K2 (allS hny (allS hnb all0))
  have LD2 := own_ldKeep LD1 R1 (by decide) (hw _ (List.mem_of_getElem? (i := 1) rfl)) (hw _ (List.mem_of_getElem? (i := 52) rfl)) K2
  have By2 := R2.1
  refine w_bipush W4 (z := (34 : Int32)) d14_13 (by rfl) ?_
  refine w_virt W4 (ctBc l Z a0 hw cz y b 16 (([] ++ own_tB) ++ us) 34 _ n0 (by decide) (by rw [List.length_append]; show 12 + us.length + 1 ≤ 16; omega) O2 G hcz R2) (hw _ (List.mem_of_getElem? (i := 139) rfl)) (hw _ (List.mem_of_getElem? (i := 140) rfl)) (notFace_of_selects (args := #[]) (mvT W4.wZ (hw _ (List.mem_of_getElem? (i := 142) rfl)))) (hw _ (List.mem_of_getElem? (i := 142) rfl)) (hw _ (List.mem_of_getElem? (i := 141) rfl)) (hw _ (List.mem_of_getElem? (i := 53) rfl)) (hw _ (List.mem_of_getElem? (i := 143) rfl)) (by decide) 0 (by decide) (by decide) (by decide) (by decide) (a := y) By2 (argsL := [(.int (34 : Int32))]) (rest := []) pd_30 rfl rfl rfl rfl rfl d14_15 ?_
  rintro T5 h5 l5 _ W5 ⟨rfl, K3, R3⟩
  have LD3 := own_ldKeep LD2 R2 (by decide) (hw _ (List.mem_of_getElem? (i := 1) rfl)) (hw _ (List.mem_of_getElem? (i := 52) rfl)) K3
  refine w_pop W5 d14_18 rfl ?_
  refine w_aloadN W5 d14_19 rfl rfl ?_
  exact x_rA W5 rfl rfl rfl d14_20 (by decide) (by decide) (fun vm' hvm' => ⟨rfl, own_keepT (own_keepT ((own_keepOf E).trans K1 (fun q hq => Or.inl hq)) K2) K3, R3, own_ldWarm LD3 hvm', own_ibWarm I2 hvm'⟩)
set_option maxRecDepth 65536 in
set_option maxHeartbeats 40000000 in
theorem ctT1 (l : Launch) (Z : State) (a0 : Array Value) (hw : ∀ d ∈ tables_1, d.before a0 Z = true) (cz : Int32) (t y b a : Addr) (us bs : List Int32) (h0 : Heap) (n0 : Nat) (hC72 : Jvm.Lit.constHeld Z "com/example/phasescope/phasescope/ServerTiming" 72) (O : Old Z n0 h0) (G : Sta Z Z.heap "java/lang/String" "COMPACT_STRINGS" "Z" (.int cz)) (hcz : cz ≠ 0) (Et : Exa Z h0 t "com/example/phasescope/phasescope/ServerTiming") (Ft : Fld Z h0 t "com/example/phasescope/phasescope/ServerTiming" "value" "Ljava/lang/StringBuilder;" (.ref y)) (hu : us.length ≤ 3) (S : Str Z h0 a 0 us) (hbs : bs.length = 14) (F : SB Z n0 h0 y b 16 bs) :
    CtW l Z (⟨"com/example/phasescope/phasescope/ServerTiming", "trace", "(Ljava/lang/String;)Lcom/example/phasescope/phasescope/ServerTiming;"⟩ : MethodName) prog_4_method_4_code 2 (some (.object "com/example/phasescope/phasescope/ServerTiming")) ({ frames := 6, cells := 3, slots := 46, locals := 89 } : Room) n0 #[(.ref t), (.ref a)] h0 (fun vm => Ld Z vm h0 ∧ IB Z vm ["trace;desc=\""]) (fun v h vm => v = some (.ref t) ∧ Keep h0 h [y, b] ∧ ∃ nb, h0.size ≤ nb ∧ SB Z n0 h y nb 34 ((((bs ++ own_cB) ++ own_tB) ++ us) ++ [nar .byte (34 : Int32)])) := by
  refine CtW.of (plainFor_of_name pn_com_example_phasescope_phasescope_ServerTiming) ?_
  intro p e s m below meth c T0 W0 hnm hs0 hV
  refine Wp.cast (ef_14_RR m t a) ?_
  obtain ⟨By, Bc, Bn, Bv, hny, hnb, hle, hcap, kb, Cb⟩ := id F
  refine w_aloadN W0 d14_0 rfl rfl ?_
  refine w_privW W0 (ctN1 l Z a0 hw cz t y b 16 bs _ n0 hC72 O G hcz Ft (by omega) (by decide) (by rw [hbs]; decide) F) (fun vm' q => ⟨own_ldWarm hV.1 q, own_ibWarm hV.2 q⟩) (Cls.inst (hw _ (List.mem_of_getElem? (i := 45) rfl))) (hw _ (List.mem_of_getElem? (i := 78) rfl)) (hw _ (List.mem_of_getElem? (i := 76) rfl)) (hw _ (List.mem_of_getElem? (i := 77) rfl)) (hw _ (List.mem_of_getElem? (i := 46) rfl)) (hw _ (List.mem_of_getElem? (i := 79) rfl)) (by decide) 0 (by decide) (by decide) (by decide) (by decide) (a := t) Et (argsL := []) (rest := []) pd_29 rfl rfl rfl rfl rfl d14_1 ?_
  rintro T1 h1 l1 vm1 _ W1 hw1 ⟨rfl, K1, R1, LD1⟩
  have S1 := S.keepSB F (by omega) (by omega) (hw _ (List.mem_of_getElem? (i := 1) rfl)) (hw _ (List.mem_of_getElem? (i := 52) rfl)) K1
  have O1 := O.keep K1 (allS hny (allS hnb all0))
  have By1 := R1.1
  obtain ⟨la, Lt, Sl⟩ := id LD1
  refine w_ldcAgain W1 (hw _ (List.mem_of_getElem? (i := 92) rfl)) Lt d14_4 ?_
  have e16 : (bs ++ own_cB).length = 16 := by rw [List.length_append, hbs]; rfl
  have e12 : own_tB.length = 12 := rfl
  refine w_virt W1 (ctBg l Z a0 hw cz y b 16 (bs ++ own_cB) la own_tB _ n0 (by decide) (by decide) (by omega) (by omega) (by omega) O1 G hcz R1 Sl) (hw _ (List.mem_of_getElem? (i := 95) rfl)) (hw _ (List.mem_of_getElem? (i := 96) rfl)) (notFace_of_selects (args := #[]) (mvT W1.wZ (hw _ (List.mem_of_getElem? (i := 98) rfl)))) (hw _ (List.mem_of_getElem? (i := 98) rfl)) (hw _ (List.mem_of_getElem? (i := 97) rfl)) (hw _ (List.mem_of_getElem? (i := 53) rfl)) (hw _ (List.mem_of_getElem? (i := 99) rfl)) (by decide) 0 (by decide) (by decide) (by decide) (by decide) (a := y) By1 (argsL := [(.ref la)]) (rest := []) pd_28 rfl rfl rfl rfl rfl d14_6 ?_
  rintro T2 h2 l2 _ W2 ⟨rfl, K2, nb, hnb2, R2⟩
  rw [show (16 + max ((bs ++ own_cB).length + own_tB.length - 16) (16 + 2)) = 34 by omega] at R2
  have S2 := S1.keepSB R1 (by omega) (by omega) (hw _ (List.mem_of_getElem? (i := 1) rfl)) (hw _ (List.mem_of_getElem? (i := 52) rfl)) K2
  have O2 := O1.keep K2 (allS hny (allS hnb all0))
  have By2 := R2.1
  have hnn : n0 ≤ nb := Nat.le_trans (own_oldle O1) hnb2
  have hn2 : h0.size ≤ nb := Nat.le_trans K1.1 hnb2
  have e28 : ((bs ++ own_cB) ++ own_tB).length = 28 := by rw [List.length_append, e16, e12]
  refine w_aloadN W2 d14_9 rfl rfl ?_
  refine w_virt W2 (ctBs l Z a0 hw cz y nb 34 ((bs ++ own_cB) ++ own_tB) a us _ n0 (by omega) O2 G hcz R2 S2) (hw _ (List.mem_of_getElem? (i := 95) rfl)) (hw _ (List.mem_of_getElem? (i := 96) rfl)) (notFace_of_selects (args := #[]) (mvT W2.wZ (hw _ (List.mem_of_getElem? (i := 98) rfl)))) (hw _ (List.mem_of_getElem? (i := 98) rfl)) (hw _ (List.mem_of_getElem? (i := 97) rfl)) (hw _ (List.mem_of_getElem? (i := 53) rfl)) (hw _ (List.mem_of_getElem? (i := 99) rfl)) (by decide) 0 (by decide) (by decide) (by decide) (by decide) (a := y) By2 (argsL := [(.ref a)]) (rest := []) pd_28 rfl rfl rfl rfl rfl d14_10 ?_
  rintro T3 h3 l3 _ W3 ⟨rfl, K3, R3⟩
  have O3 := O2.keep K3 (allS hny (allS hnn all0))
  have By3 := R3.1
  refine w_bipush W3 (z := (34 : Int32)) d14_13 (by rfl) ?_
  refine w_virt W3 (ctBc l Z a0 hw cz y nb 34 (((bs ++ own_cB) ++ own_tB) ++ us) 34 _ n0 (by decide) (by rw [List.length_append, e28]; omega) O3 G hcz R3) (hw _ (List.mem_of_getElem? (i := 139) rfl)) (hw _ (List.mem_of_getElem? (i := 140) rfl)) (notFace_of_selects (args := #[]) (mvT W3.wZ (hw _ (List.mem_of_getElem? (i := 142) rfl)))) (hw _ (List.mem_of_getElem? (i := 142) rfl)) (hw _ (List.mem_of_getElem? (i := 141) rfl)) (hw _ (List.mem_of_getElem? (i := 53) rfl)) (hw _ (List.mem_of_getElem? (i := 143) rfl)) (by decide) 0 (by decide) (by decide) (by decide) (by decide) (a := y) By3 (argsL := [(.int (34 : Int32))]) (rest := []) pd_30 rfl rfl rfl rfl rfl d14_15 ?_
  rintro T4 h4 l4 _ W4 ⟨rfl, K4, R4⟩
  refine w_pop W4 d14_18 rfl ?_
  refine w_aloadN W4 d14_19 rfl rfl ?_
  exact x_rA W4 rfl rfl rfl d14_20 (by decide) (by decide) (fun vm' hvm' => ⟨rfl, (own_keepT K1 K2).trans (own_keepT K3 K4) (fun q hq => by rcases List.mem_cons.mp hq with rfl | r; exact Or.inl (List.mem_cons_self ..); cases List.mem_singleton.mp r; exact Or.inr hn2), nb, hn2, R4⟩)
theorem own_eqOne {l : Launch} {Z : State} {y : MethodName} {B : ByteArray} {ML : Nat} {ret : Option FieldType} {rm : Room} {n0 : Nat} {as : Array Value} {h : Heap} {us ws : List Int32} (C : CtN l Z y B ML ret rm n0 as h (fun v h' => v = some (.int (if us = ws then (1 : Int32) else 0)) ∧ h = h')) (q : us = ws) : CtN l Z y B ML ret rm n0 as h (fun v h' => v = some (.int 1) ∧ h = h') := by rw [if_pos q] at C; exact C
theorem ef_0_IIII (m : MethodId) (x0 : Int32) (x1 : Int32) (x2 : Int32) (x3 : Int32) : entryFrame m #[(.int x0), (.int x1), (.int x2), (.int x3)] maxLocals = mkF m 0 #[.val (.int x0), .val (.int x1), .val (.int x2), .val (.int x3), .unset, .unset, .unset, .unset, .unset, .unset, .unset, .unset, .unset, .unset, .unset] [] := by first | (simp [entryFrame, mkF, argsToLocals, Value.category, maxLocals]; done) | rfl
theorem pd_31 : parseMethodDescriptor "([C)V" = some ⟨[(.array .char)], none⟩ := by decide +kernel
theorem pd_32 : parseMethodDescriptor "(C)Ljava/lang/String;" = some ⟨[.char], some (.object "java/lang/String")⟩ := by decide +kernel
theorem pd_33 : parseMethodDescriptor "(Ljava/lang/String;)Lcom/example/phasescope/phasescope/ServerTiming;" = some ⟨[(.object "java/lang/String")], some (.object "com/example/phasescope/phasescope/ServerTiming")⟩ := by decide +kernel
theorem pd_34 : parseMethodDescriptor "(Ljava/lang/Object;)Z" = some ⟨[(.object "java/lang/Object")], some .boolean⟩ := by decide +kernel
theorem pn_com_example_phasescope_phasescope_ServerTimingTracePinLaw : plainName "com/example/phasescope/phasescope/ServerTimingTracePinLaw" = true := by first | (simp [plainName, overriddenIn]; done) | decide +kernel
set_option maxRecDepth 65536 in
set_option maxHeartbeats 40000000 in
theorem ctLaw (l : Launch) (Z : State) (a0 : Array Value) (hw : ∀ d ∈ tables_1, d.before a0 Z = true) (cz : Int32) (ra rb rc rf : Int32) (h0 : Heap) (n0 : Nat) (hC35 : Jvm.Lit.constHeld Z "com/example/phasescope/phasescope/ServerTiming" 35) (hC72 : Jvm.Lit.constHeld Z "com/example/phasescope/phasescope/ServerTiming" 72) (O : Old Z n0 h0) (G : Sta Z Z.heap "java/lang/String" "COMPACT_STRINGS" "Z" (.int cz)) (hcz : cz ≠ 0) :
    CtW l Z x code maxLocals ret room_1 n0 #[(.int ra), (.int rb), (.int rc), (.int rf)] h0 (fun vm => IB Z vm []) (fun v _ _ => v = some (.int 1)) := by
  refine CtW.of (plainFor_of_name pn_com_example_phasescope_phasescope_ServerTimingTracePinLaw) ?_
  intro p e s m below meth c T0 W0 hnm hs0 hV
  refine Wp.cast (ef_0_IIII m ra rb rc rf) ?_
  refine w_iloadN W0 at_0 rfl ?_
  refine w_sipush W0 (z := (255 : Int32)) at_1 (by rfl) ?_
  refine w_iand W0 at_4 rfl ?_
  obtain ⟨ca, hca⟩ : ∃ z : Int32, ((ra &&& (255 : Int32)).toUInt32.toUInt16.toUInt32.toInt32) = z := ⟨_, rfl⟩
  refine w_i2c W0 at_5 hca ?_
  refine w_istore W0 (L' := #[.val (.int ra), .val (.int rb), .val (.int rc), .val (.int rf), .val (.int ca), .unset, .unset, .unset, .unset, .unset, .unset, .unset, .unset, .unset, .unset]) at_6 rfl ?_
  refine w_iloadN W0 at_8 rfl ?_
  refine w_sipush W0 (z := (255 : Int32)) at_9 (by rfl) ?_
  refine w_iand W0 at_12 rfl ?_
  obtain ⟨cb, hcb⟩ : ∃ z : Int32, ((rb &&& (255 : Int32)).toUInt32.toUInt16.toUInt32.toInt32) = z := ⟨_, rfl⟩
  refine w_i2c W0 at_13 hcb ?_
  refine w_istore W0 (L' := #[.val (.int ra), .val (.int rb), .val (.int rc), .val (.int rf), .val (.int ca), .val (.int cb), .unset, .unset, .unset, .unset, .unset, .unset, .unset, .unset, .unset]) at_14 rfl ?_
  refine w_iloadN W0 at_16 rfl ?_
  refine w_sipush W0 (z := (255 : Int32)) at_17 (by rfl) ?_
  refine w_iand W0 at_20 rfl ?_
  obtain ⟨cc, hcc⟩ : ∃ z : Int32, ((rc &&& (255 : Int32)).toUInt32.toUInt16.toUInt32.toInt32) = z := ⟨_, rfl⟩
  refine w_i2c W0 at_21 hcc ?_
  refine w_istore W0 (L' := #[.val (.int ra), .val (.int rb), .val (.int rc), .val (.int rf), .val (.int ca), .val (.int cb), .val (.int cc), .unset, .unset, .unset, .unset, .unset, .unset, .unset, .unset]) at_22 rfl ?_
  refine w_iloadN W0 at_24 rfl ?_
  refine w_iconst W0 (z := (1 : Int32)) at_25 (by rfl) ?_
  refine w_iand W0 at_26 rfl ?_
  refine w_ifeq W0 (pc' := 34) at_27 (by decide) (fun c27 => ?_) (fun c27 => ?_)
  · refine w_iconst W0 (z := (0 : Int32)) at_34 (by rfl) ?_
    refine w_istore W0 (L' := #[.val (.int ra), .val (.int rb), .val (.int rc), .val (.int rf), .val (.int ca), .val (.int cb), .val (.int cc), .val (.int (0 : Int32)), .unset, .unset, .unset, .unset, .unset, .unset, .unset]) at_35 rfl ?_
    obtain ⟨nca, qca⟩ := own_byteN hca
    obtain ⟨ncb, qcb⟩ := own_byteN hcb
    obtain ⟨ncc, qcc⟩ := own_byteN hcc
    refine w_new W0 (hw _ (List.mem_of_getElem? (i := 0) rfl)) (hw _ (List.mem_of_getElem? (i := 1) rfl)) (hw _ (List.mem_of_getElem? (i := 2) rfl)) at_37 (by decide) (by decide) ?_
    intro T1 h1 sI W1 E1 g1 A1 D1
    have EI := E1
    have hsI : h0.size ≤ sI := Nat.le_of_eq g1.symm
    have FvI := (D1 (Or.inr (hw _ (List.mem_of_getElem? (i := 29) rfl))) (ty := (.array .byte)) (by decide) : Fld Z h1 _ "java/lang/String" "value" "[B" .null)
    have FcI := (D1 (Or.inr (hw _ (List.mem_of_getElem? (i := 27) rfl))) (ty := .byte) (by decide) : Fld Z h1 _ "java/lang/String" "coder" "B" (.int 0))
    have AI := A1
    refine w_dup W1 at_40 rfl ?_
    refine w_iconst W1 (z := (2 : Int32)) at_41 (by rfl) ?_
    refine w_newarr W1 (ty := .char) (dv := (.int 0)) (hw _ (List.mem_of_getElem? (i := 3) rfl)) rfl rfl at_42 (by decide) 2 (by decide) (by decide) (by decide) (by decide) ?_
    intro T2 h2 aI k2 W2 E2 g2 V2
    have g_aI : n0 ≤ aI := by rw [g2]; exact own_oldle (O.ext EI)
    have V_aI_0 : Arv Z h2 aI k2 .char (Int32.ofNat 2) ([(0 : Int32), (0 : Int32)].map Value.int) (.int 0) := V2.pad (pad_rep [] (.int 0) 2)
    refine w_dup W2 at_44 rfl ?_
    refine w_iconst W2 (z := (0 : Int32)) at_45 (by rfl) ?_
    refine w_iload W2 at_46 rfl ?_
    refine w_castore W2 V_aI_0 ⟨by decide, by decide⟩ 0 (by decide) (Nat.le_of_ble_eq_true rfl) (x' := ca) (qca) g_aI at_48 ?_
    intro T3 h3 l3 W3 Wr3 V3
    have V_aI_1 : Arv Z h3 aI k2 .char (Int32.ofNat 2) ([ca, (0 : Int32)].map Value.int) (.int 0) := V3
    have X3 := own_extWr E2 Wr3 (Nat.le_of_eq g2.symm)
    refine w_dup W3 at_49 rfl ?_
    refine w_iconst W3 (z := (1 : Int32)) at_50 (by rfl) ?_
    refine w_iload W3 at_51 rfl ?_
    refine w_castore W3 V_aI_1 ⟨by decide, by decide⟩ 1 (by decide) (Nat.le_of_ble_eq_true rfl) (x' := cb) (qcb) g_aI at_53 ?_
    intro T4 h4 l4 W4 Wr4 V4
    have V_aI_2 : Arv Z h4 aI k2 .char (Int32.ofNat 2) ([ca, cb].map Value.int) (.int 0) := V4
    have X4 := own_extWr X3 Wr4 (Nat.le_of_eq g2.symm)
    have XI := own_extTrans EI X4
    refine w_special W4 (ctS1 l Z a0 hw cz sI aI _ [ca, cb] _ n0 (Nat.le_of_ble_eq_true rfl) (own_allc nca (own_allc ncb own_alln)) (Nat.le_of_ble_eq_true rfl) (O.ext XI) G hcz (AI.ext X4) (FvI.ext X4) (FcI.ext X4) (Nat.le_trans (own_oldle O) hsI) V_aI_2) rfl (hw _ (List.mem_of_getElem? (i := 4) rfl)) (hw _ (List.mem_of_getElem? (i := 5) rfl)) (hw _ (List.mem_of_getElem? (i := 2) rfl)) (hw _ (List.mem_of_getElem? (i := 6) rfl)) (by decide) 1 (by decide) (by decide) (by decide) (by decide) (a := sI) (argsL := [(.ref aI)]) (rest := [(.ref sI)]) pd_31 rfl rfl rfl rfl rfl at_54 ?_
    rintro T5 h5 l5 _ W5 ⟨rfl, KI, SI⟩
    have YI := own_extKeep XI KI (allS hsI all0)
    refine w_astore W5 (L' := #[.val (.int ra), .val (.int rb), .val (.int rc), .val (.int rf), .val (.int ca), .val (.int cb), .val (.int cc), .val (.int (0 : Int32)), .val (.ref sI), .unset, .unset, .unset, .unset, .unset, .unset]) at_57 rfl rfl ?_
    refine w_iload W5 at_59 rfl ?_
    refine w_callS W5 (ctVo l Z a0 hw cz cc _ n0 ncc (O.ext YI) G hcz) (hw _ (List.mem_of_getElem? (i := 30) rfl)) (hw _ (List.mem_of_getElem? (i := 31) rfl)) (hw _ (List.mem_of_getElem? (i := 2) rfl)) (hw _ (List.mem_of_getElem? (i := 32) rfl)) (by decide) 0 (by decide) (by decide) (by decide) (by decide) (argsL := [(.int cc)]) (rest := []) pd_32 rfl rfl rfl rfl rfl at_61 ?_
    rintro T6 h6 l6 _ W6 ⟨sF, rfl, EF, hsF, SF⟩
    have SI1 := SI.ext EF
    have Y1 := own_extTrans YI EF
    have O1 := O.ext Y1
    refine w_astore W6 (L' := #[.val (.int ra), .val (.int rb), .val (.int rc), .val (.int rf), .val (.int ca), .val (.int cb), .val (.int cc), .val (.int (0 : Int32)), .val (.ref sI), .val (.ref sF), .unset, .unset, .unset, .unset, .unset]) at_64 rfl rfl ?_
    refine w_bipush W6 (z := (15 : Int32)) at_66 (by rfl) ?_
    refine w_newarr W6 (ty := .char) (dv := (.int 0)) (hw _ (List.mem_of_getElem? (i := 3) rfl)) rfl rfl at_68 (by decide) 15 (by decide) (by decide) (by decide) (by decide) ?_
    intro T7 h7 a1 k7 W7 E7 g7 V7
    have g_a1 : n0 ≤ a1 := by rw [g7]; exact own_oldle O1
    have V_a1_0 : Arv Z h7 a1 k7 .char (Int32.ofNat 15) ([(0 : Int32), (0 : Int32), (0 : Int32), (0 : Int32), (0 : Int32), (0 : Int32), (0 : Int32), (0 : Int32), (0 : Int32), (0 : Int32), (0 : Int32), (0 : Int32), (0 : Int32), (0 : Int32), (0 : Int32)].map Value.int) (.int 0) := V7.pad (pad_rep [] (.int 0) 15)
    refine w_dup W7 at_70 rfl ?_
    refine w_iconst W7 (z := (0 : Int32)) at_71 (by rfl) ?_
    refine w_bipush W7 (z := (116 : Int32)) at_72 (by rfl) ?_
    refine w_castore W7 V_a1_0 ⟨by decide, by decide⟩ 0 (by decide) (Nat.le_of_ble_eq_true rfl) (x' := (116 : Int32)) (by rfl) g_a1 at_74 ?_
    intro T8 h8 l8 W8 Wr8 V8
    have V_a1_1 : Arv Z h8 a1 k7 .char (Int32.ofNat 15) ([(116 : Int32), (0 : Int32), (0 : Int32), (0 : Int32), (0 : Int32), (0 : Int32), (0 : Int32), (0 : Int32), (0 : Int32), (0 : Int32), (0 : Int32), (0 : Int32), (0 : Int32), (0 : Int32), (0 : Int32)].map Value.int) (.int 0) := V8
    have X8 := own_extWr E7 Wr8 (Nat.le_of_eq g7.symm)
    refine w_dup W8 at_75 rfl ?_
    refine w_iconst W8 (z := (1 : Int32)) at_76 (by rfl) ?_
    refine w_bipush W8 (z := (114 : Int32)) at_77 (by rfl) ?_
    refine w_castore W8 V_a1_1 ⟨by decide, by decide⟩ 1 (by decide) (Nat.le_of_ble_eq_true rfl) (x' := (114 : Int32)) (by rfl) g_a1 at_79 ?_
    intro T9 h9 l9 W9 Wr9 V9
    have V_a1_2 : Arv Z h9 a1 k7 .char (Int32.ofNat 15) ([(116 : Int32), (114 : Int32), (0 : Int32), (0 : Int32), (0 : Int32), (0 : Int32), (0 : Int32), (0 : Int32), (0 : Int32), (0 : Int32), (0 : Int32), (0 : Int32), (0 : Int32), (0 : Int32), (0 : Int32)].map Value.int) (.int 0) := V9
    have X9 := own_extWr X8 Wr9 (Nat.le_of_eq g7.symm)
    refine w_dup W9 at_80 rfl ?_
    refine w_iconst W9 (z := (2 : Int32)) at_81 (by rfl) ?_
    refine w_bipush W9 (z := (97 : Int32)) at_82 (by rfl) ?_
    refine w_castore W9 V_a1_2 ⟨by decide, by decide⟩ 2 (by decide) (Nat.le_of_ble_eq_true rfl) (x' := (97 : Int32)) (by rfl) g_a1 at_84 ?_
    intro T10 h10 l10 W10 Wr10 V10
    have V_a1_3 : Arv Z h10 a1 k7 .char (Int32.ofNat 15) ([(116 : Int32), (114 : Int32), (97 : Int32), (0 : Int32), (0 : Int32), (0 : Int32), (0 : Int32), (0 : Int32), (0 : Int32), (0 : Int32), (0 : Int32), (0 : Int32), (0 : Int32), (0 : Int32), (0 : Int32)].map Value.int) (.int 0) := V10
    have X10 := own_extWr X9 Wr10 (Nat.le_of_eq g7.symm)
    refine w_dup W10 at_85 rfl ?_
    refine w_iconst W10 (z := (3 : Int32)) at_86 (by rfl) ?_
    refine w_bipush W10 (z := (99 : Int32)) at_87 (by rfl) ?_
    refine w_castore W10 V_a1_3 ⟨by decide, by decide⟩ 3 (by decide) (Nat.le_of_ble_eq_true rfl) (x' := (99 : Int32)) (by rfl) g_a1 at_89 ?_
    intro T11 h11 l11 W11 Wr11 V11
    have V_a1_4 : Arv Z h11 a1 k7 .char (Int32.ofNat 15) ([(116 : Int32), (114 : Int32), (97 : Int32), (99 : Int32), (0 : Int32), (0 : Int32), (0 : Int32), (0 : Int32), (0 : Int32), (0 : Int32), (0 : Int32), (0 : Int32), (0 : Int32), (0 : Int32), (0 : Int32)].map Value.int) (.int 0) := V11
    have X11 := own_extWr X10 Wr11 (Nat.le_of_eq g7.symm)
    refine w_dup W11 at_90 rfl ?_
    refine w_iconst W11 (z := (4 : Int32)) at_91 (by rfl) ?_
    refine w_bipush W11 (z := (101 : Int32)) at_92 (by rfl) ?_
    refine w_castore W11 V_a1_4 ⟨by decide, by decide⟩ 4 (by decide) (Nat.le_of_ble_eq_true rfl) (x' := (101 : Int32)) (by rfl) g_a1 at_94 ?_
    intro T12 h12 l12 W12 Wr12 V12
    have V_a1_5 : Arv Z h12 a1 k7 .char (Int32.ofNat 15) ([(116 : Int32), (114 : Int32), (97 : Int32), (99 : Int32), (101 : Int32), (0 : Int32), (0 : Int32), (0 : Int32), (0 : Int32), (0 : Int32), (0 : Int32), (0 : Int32), (0 : Int32), (0 : Int32), (0 : Int32)].map Value.int) (.int 0) := V12
    have X12 := own_extWr X11 Wr12 (Nat.le_of_eq g7.symm)
    refine w_dup W12 at_95 rfl ?_
    refine w_iconst W12 (z := (5 : Int32)) at_96 (by rfl) ?_
    refine w_bipush W12 (z := (59 : Int32)) at_97 (by rfl) ?_
    refine w_castore W12 V_a1_5 ⟨by decide, by decide⟩ 5 (by decide) (Nat.le_of_ble_eq_true rfl) (x' := (59 : Int32)) (by rfl) g_a1 at_99 ?_
    intro T13 h13 l13 W13 Wr13 V13
    have V_a1_6 : Arv Z h13 a1 k7 .char (Int32.ofNat 15) ([(116 : Int32), (114 : Int32), (97 : Int32), (99 : Int32), (101 : Int32), (59 : Int32), (0 : Int32), (0 : Int32), (0 : Int32), (0 : Int32), (0 : Int32), (0 : Int32), (0 : Int32), (0 : Int32), (0 : Int32)].map Value.int) (.int 0) := V13
    have X13 := own_extWr X12 Wr13 (Nat.le_of_eq g7.symm)
    refine w_dup W13 at_100 rfl ?_
    refine w_bipush W13 (z := (6 : Int32)) at_101 (by rfl) ?_
    refine w_bipush W13 (z := (100 : Int32)) at_103 (by rfl) ?_
    refine w_castore W13 V_a1_6 ⟨by decide, by decide⟩ 6 (by decide) (Nat.le_of_ble_eq_true rfl) (x' := (100 : Int32)) (by rfl) g_a1 at_105 ?_
    intro T14 h14 l14 W14 Wr14 V14
    have V_a1_7 : Arv Z h14 a1 k7 .char (Int32.ofNat 15) ([(116 : Int32), (114 : Int32), (97 : Int32), (99 : Int32), (101 : Int32), (59 : Int32), (100 : Int32), (0 : Int32), (0 : Int32), (0 : Int32), (0 : Int32), (0 : Int32), (0 : Int32), (0 : Int32), (0 : Int32)].map Value.int) (.int 0) := V14
    have X14 := own_extWr X13 Wr14 (Nat.le_of_eq g7.symm)
    refine w_dup W14 at_106 rfl ?_
    refine w_bipush W14 (z := (7 : Int32)) at_107 (by rfl) ?_
    refine w_bipush W14 (z := (101 : Int32)) at_109 (by rfl) ?_
    refine w_castore W14 V_a1_7 ⟨by decide, by decide⟩ 7 (by decide) (Nat.le_of_ble_eq_true rfl) (x' := (101 : Int32)) (by rfl) g_a1 at_111 ?_
    intro T15 h15 l15 W15 Wr15 V15
    have V_a1_8 : Arv Z h15 a1 k7 .char (Int32.ofNat 15) ([(116 : Int32), (114 : Int32), (97 : Int32), (99 : Int32), (101 : Int32), (59 : Int32), (100 : Int32), (101 : Int32), (0 : Int32), (0 : Int32), (0 : Int32), (0 : Int32), (0 : Int32), (0 : Int32), (0 : Int32)].map Value.int) (.int 0) := V15
    have X15 := own_extWr X14 Wr15 (Nat.le_of_eq g7.symm)
    refine w_dup W15 at_112 rfl ?_
    refine w_bipush W15 (z := (8 : Int32)) at_113 (by rfl) ?_
    refine w_bipush W15 (z := (115 : Int32)) at_115 (by rfl) ?_
    refine w_castore W15 V_a1_8 ⟨by decide, by decide⟩ 8 (by decide) (Nat.le_of_ble_eq_true rfl) (x' := (115 : Int32)) (by rfl) g_a1 at_117 ?_
    intro T16 h16 l16 W16 Wr16 V16
    have V_a1_9 : Arv Z h16 a1 k7 .char (Int32.ofNat 15) ([(116 : Int32), (114 : Int32), (97 : Int32), (99 : Int32), (101 : Int32), (59 : Int32), (100 : Int32), (101 : Int32), (115 : Int32), (0 : Int32), (0 : Int32), (0 : Int32), (0 : Int32), (0 : Int32), (0 : Int32)].map Value.int) (.int 0) := V16
    have X16 := own_extWr X15 Wr16 (Nat.le_of_eq g7.symm)
    refine w_dup W16 at_118 rfl ?_
    refine w_bipush W16 (z := (9 : Int32)) at_119 (by rfl) ?_
    refine w_bipush W16 (z := (99 : Int32)) at_121 (by rfl) ?_
    refine w_castore W16 V_a1_9 ⟨by decide, by decide⟩ 9 (by decide) (Nat.le_of_ble_eq_true rfl) (x' := (99 : Int32)) (by rfl) g_a1 at_123 ?_
    intro T17 h17 l17 W17 Wr17 V17
    have V_a1_10 : Arv Z h17 a1 k7 .char (Int32.ofNat 15) ([(116 : Int32), (114 : Int32), (97 : Int32), (99 : Int32), (101 : Int32), (59 : Int32), (100 : Int32), (101 : Int32), (115 : Int32), (99 : Int32), (0 : Int32), (0 : Int32), (0 : Int32), (0 : Int32), (0 : Int32)].map Value.int) (.int 0) := V17
    have X17 := own_extWr X16 Wr17 (Nat.le_of_eq g7.symm)
    refine w_dup W17 at_124 rfl ?_
    refine w_bipush W17 (z := (10 : Int32)) at_125 (by rfl) ?_
    refine w_bipush W17 (z := (61 : Int32)) at_127 (by rfl) ?_
    refine w_castore W17 V_a1_10 ⟨by decide, by decide⟩ 10 (by decide) (Nat.le_of_ble_eq_true rfl) (x' := (61 : Int32)) (by rfl) g_a1 at_129 ?_
    intro T18 h18 l18 W18 Wr18 V18
    have V_a1_11 : Arv Z h18 a1 k7 .char (Int32.ofNat 15) ([(116 : Int32), (114 : Int32), (97 : Int32), (99 : Int32), (101 : Int32), (59 : Int32), (100 : Int32), (101 : Int32), (115 : Int32), (99 : Int32), (61 : Int32), (0 : Int32), (0 : Int32), (0 : Int32), (0 : Int32)].map Value.int) (.int 0) := V18
    have X18 := own_extWr X17 Wr18 (Nat.le_of_eq g7.symm)
    refine w_dup W18 at_130 rfl ?_
    refine w_bipush W18 (z := (11 : Int32)) at_131 (by rfl) ?_
    refine w_bipush W18 (z := (34 : Int32)) at_133 (by rfl) ?_
    refine w_castore W18 V_a1_11 ⟨by decide, by decide⟩ 11 (by decide) (Nat.le_of_ble_eq_true rfl) (x' := (34 : Int32)) (by rfl) g_a1 at_135 ?_
    intro T19 h19 l19 W19 Wr19 V19
    have V_a1_12 : Arv Z h19 a1 k7 .char (Int32.ofNat 15) ([(116 : Int32), (114 : Int32), (97 : Int32), (99 : Int32), (101 : Int32), (59 : Int32), (100 : Int32), (101 : Int32), (115 : Int32), (99 : Int32), (61 : Int32), (34 : Int32), (0 : Int32), (0 : Int32), (0 : Int32)].map Value.int) (.int 0) := V19
    have X19 := own_extWr X18 Wr19 (Nat.le_of_eq g7.symm)
    refine w_dup W19 at_136 rfl ?_
    refine w_bipush W19 (z := (12 : Int32)) at_137 (by rfl) ?_
    refine w_iload W19 at_139 rfl ?_
    refine w_castore W19 V_a1_12 ⟨by decide, by decide⟩ 12 (by decide) (Nat.le_of_ble_eq_true rfl) (x' := ca) (qca) g_a1 at_141 ?_
    intro T20 h20 l20 W20 Wr20 V20
    have V_a1_13 : Arv Z h20 a1 k7 .char (Int32.ofNat 15) ([(116 : Int32), (114 : Int32), (97 : Int32), (99 : Int32), (101 : Int32), (59 : Int32), (100 : Int32), (101 : Int32), (115 : Int32), (99 : Int32), (61 : Int32), (34 : Int32), ca, (0 : Int32), (0 : Int32)].map Value.int) (.int 0) := V20
    have X20 := own_extWr X19 Wr20 (Nat.le_of_eq g7.symm)
    refine w_dup W20 at_142 rfl ?_
    refine w_bipush W20 (z := (13 : Int32)) at_143 (by rfl) ?_
    refine w_iload W20 at_145 rfl ?_
    refine w_castore W20 V_a1_13 ⟨by decide, by decide⟩ 13 (by decide) (Nat.le_of_ble_eq_true rfl) (x' := cb) (qcb) g_a1 at_147 ?_
    intro T21 h21 l21 W21 Wr21 V21
    have V_a1_14 : Arv Z h21 a1 k7 .char (Int32.ofNat 15) ([(116 : Int32), (114 : Int32), (97 : Int32), (99 : Int32), (101 : Int32), (59 : Int32), (100 : Int32), (101 : Int32), (115 : Int32), (99 : Int32), (61 : Int32), (34 : Int32), ca, cb, (0 : Int32)].map Value.int) (.int 0) := V21
    have X21 := own_extWr X20 Wr21 (Nat.le_of_eq g7.symm)
    refine w_dup W21 at_148 rfl ?_
    refine w_bipush W21 (z := (14 : Int32)) at_149 (by rfl) ?_
    refine w_bipush W21 (z := (34 : Int32)) at_151 (by rfl) ?_
    refine w_castore W21 V_a1_14 ⟨by decide, by decide⟩ 14 (by decide) (Nat.le_of_ble_eq_true rfl) (x' := (34 : Int32)) (by rfl) g_a1 at_153 ?_
    intro T22 h22 l22 W22 Wr22 V22
    have V_a1_15 : Arv Z h22 a1 k7 .char (Int32.ofNat 15) ([(116 : Int32), (114 : Int32), (97 : Int32), (99 : Int32), (101 : Int32), (59 : Int32), (100 : Int32), (101 : Int32), (115 : Int32), (99 : Int32), (61 : Int32), (34 : Int32), ca, cb, (34 : Int32)].map Value.int) (.int 0) := V22
    have X22 := own_extWr X21 Wr22 (Nat.le_of_eq g7.symm)
    refine w_astore W22 (L' := #[.val (.int ra), .val (.int rb), .val (.int rc), .val (.int rf), .val (.int ca), .val (.int cb), .val (.int cc), .val (.int (0 : Int32)), .val (.ref sI), .val (.ref sF), .val (.ref a1), .unset, .unset, .unset, .unset]) at_154 rfl rfl ?_
    have C1 := V_a1_15
    have X1 := X22
    have O2 := O1.ext X1
    refine w_bipush W22 (z := (31 : Int32)) at_156 (by rfl) ?_
    refine w_newarr W22 (ty := .char) (dv := (.int 0)) (hw _ (List.mem_of_getElem? (i := 3) rfl)) rfl rfl at_158 (by decide) 31 (by decide) (by decide) (by decide) (by decide) ?_
    intro T23 h23 a2 k23 W23 E23 g23 V23
    have g_a2 : n0 ≤ a2 := by rw [g23]; exact own_oldle O2
    have V_a2_0 : Arv Z h23 a2 k23 .char (Int32.ofNat 31) ([(0 : Int32), (0 : Int32), (0 : Int32), (0 : Int32), (0 : Int32), (0 : Int32), (0 : Int32), (0 : Int32), (0 : Int32), (0 : Int32), (0 : Int32), (0 : Int32), (0 : Int32), (0 : Int32), (0 : Int32), (0 : Int32), (0 : Int32), (0 : Int32), (0 : Int32), (0 : Int32), (0 : Int32), (0 : Int32), (0 : Int32), (0 : Int32), (0 : Int32), (0 : Int32), (0 : Int32), (0 : Int32), (0 : Int32), (0 : Int32), (0 : Int32)].map Value.int) (.int 0) := V23.pad (pad_rep [] (.int 0) 31)
    refine w_dup W23 at_160 rfl ?_
    refine w_iconst W23 (z := (0 : Int32)) at_161 (by rfl) ?_
    refine w_bipush W23 (z := (116 : Int32)) at_162 (by rfl) ?_
    refine w_castore W23 V_a2_0 ⟨by decide, by decide⟩ 0 (by decide) (Nat.le_of_ble_eq_true rfl) (x' := (116 : Int32)) (by rfl) g_a2 at_164 ?_
    intro T24 h24 l24 W24 Wr24 V24
    have V_a2_1 : Arv Z h24 a2 k23 .char (Int32.ofNat 31) ([(116 : Int32), (0 : Int32), (0 : Int32), (0 : Int32), (0 : Int32), (0 : Int32), (0 : Int32), (0 : Int32), (0 : Int32), (0 : Int32), (0 : Int32), (0 : Int32), (0 : Int32), (0 : Int32), (0 : Int32), (0 : Int32), (0 : Int32), (0 : Int32), (0 : Int32), (0 : Int32), (0 : Int32), (0 : Int32), (0 : Int32), (0 : Int32), (0 : Int32), (0 : Int32), (0 : Int32), (0 : Int32), (0 : Int32), (0 : Int32), (0 : Int32)].map Value.int) (.int 0) := V24
    have X24 := own_extWr E23 Wr24 (Nat.le_of_eq g23.symm)
    refine w_dup W24 at_165 rfl ?_
    refine w_iconst W24 (z := (1 : Int32)) at_166 (by rfl) ?_
    refine w_bipush W24 (z := (114 : Int32)) at_167 (by rfl) ?_
    refine w_castore W24 V_a2_1 ⟨by decide, by decide⟩ 1 (by decide) (Nat.le_of_ble_eq_true rfl) (x' := (114 : Int32)) (by rfl) g_a2 at_169 ?_
    intro T25 h25 l25 W25 Wr25 V25
    have V_a2_2 : Arv Z h25 a2 k23 .char (Int32.ofNat 31) ([(116 : Int32), (114 : Int32), (0 : Int32), (0 : Int32), (0 : Int32), (0 : Int32), (0 : Int32), (0 : Int32), (0 : Int32), (0 : Int32), (0 : Int32), (0 : Int32), (0 : Int32), (0 : Int32), (0 : Int32), (0 : Int32), (0 : Int32), (0 : Int32), (0 : Int32), (0 : Int32), (0 : Int32), (0 : Int32), (0 : Int32), (0 : Int32), (0 : Int32), (0 : Int32), (0 : Int32), (0 : Int32), (0 : Int32), (0 : Int32), (0 : Int32)].map Value.int) (.int 0) := V25
    have X25 := own_extWr X24 Wr25 (Nat.le_of_eq g23.symm)
    refine w_dup W25 at_170 rfl ?_
    refine w_iconst W25 (z := (2 : Int32)) at_171 (by rfl) ?_
    refine w_bipush W25 (z := (97 : Int32)) at_172 (by rfl) ?_
    refine w_castore W25 V_a2_2 ⟨by decide, by decide⟩ 2 (by decide) (Nat.le_of_ble_eq_true rfl) (x' := (97 : Int32)) (by rfl) g_a2 at_174 ?_
    intro T26 h26 l26 W26 Wr26 V26
    have V_a2_3 : Arv Z h26 a2 k23 .char (Int32.ofNat 31) ([(116 : Int32), (114 : Int32), (97 : Int32), (0 : Int32), (0 : Int32), (0 : Int32), (0 : Int32), (0 : Int32), (0 : Int32), (0 : Int32), (0 : Int32), (0 : Int32), (0 : Int32), (0 : Int32), (0 : Int32), (0 : Int32), (0 : Int32), (0 : Int32), (0 : Int32), (0 : Int32), (0 : Int32), (0 : Int32), (0 : Int32), (0 : Int32), (0 : Int32), (0 : Int32), (0 : Int32), (0 : Int32), (0 : Int32), (0 : Int32), (0 : Int32)].map Value.int) (.int 0) := V26
    have X26 := own_extWr X25 Wr26 (Nat.le_of_eq g23.symm)
    refine w_dup W26 at_175 rfl ?_
    refine w_iconst W26 (z := (3 : Int32)) at_176 (by rfl) ?_
    refine w_bipush W26 (z := (99 : Int32)) at_177 (by rfl) ?_
    refine w_castore W26 V_a2_3 ⟨by decide, by decide⟩ 3 (by decide) (Nat.le_of_ble_eq_true rfl) (x' := (99 : Int32)) (by rfl) g_a2 at_179 ?_
    intro T27 h27 l27 W27 Wr27 V27
    have V_a2_4 : Arv Z h27 a2 k23 .char (Int32.ofNat 31) ([(116 : Int32), (114 : Int32), (97 : Int32), (99 : Int32), (0 : Int32), (0 : Int32), (0 : Int32), (0 : Int32), (0 : Int32), (0 : Int32), (0 : Int32), (0 : Int32), (0 : Int32), (0 : Int32), (0 : Int32), (0 : Int32), (0 : Int32), (0 : Int32), (0 : Int32), (0 : Int32), (0 : Int32), (0 : Int32), (0 : Int32), (0 : Int32), (0 : Int32), (0 : Int32), (0 : Int32), (0 : Int32), (0 : Int32), (0 : Int32), (0 : Int32)].map Value.int) (.int 0) := V27
    have X27 := own_extWr X26 Wr27 (Nat.le_of_eq g23.symm)
    refine w_dup W27 at_180 rfl ?_
    refine w_iconst W27 (z := (4 : Int32)) at_181 (by rfl) ?_
    refine w_bipush W27 (z := (101 : Int32)) at_182 (by rfl) ?_
    refine w_castore W27 V_a2_4 ⟨by decide, by decide⟩ 4 (by decide) (Nat.le_of_ble_eq_true rfl) (x' := (101 : Int32)) (by rfl) g_a2 at_184 ?_
    intro T28 h28 l28 W28 Wr28 V28
    have V_a2_5 : Arv Z h28 a2 k23 .char (Int32.ofNat 31) ([(116 : Int32), (114 : Int32), (97 : Int32), (99 : Int32), (101 : Int32), (0 : Int32), (0 : Int32), (0 : Int32), (0 : Int32), (0 : Int32), (0 : Int32), (0 : Int32), (0 : Int32), (0 : Int32), (0 : Int32), (0 : Int32), (0 : Int32), (0 : Int32), (0 : Int32), (0 : Int32), (0 : Int32), (0 : Int32), (0 : Int32), (0 : Int32), (0 : Int32), (0 : Int32), (0 : Int32), (0 : Int32), (0 : Int32), (0 : Int32), (0 : Int32)].map Value.int) (.int 0) := V28
    have X28 := own_extWr X27 Wr28 (Nat.le_of_eq g23.symm)
    refine w_dup W28 at_185 rfl ?_
    refine w_iconst W28 (z := (5 : Int32)) at_186 (by rfl) ?_
    refine w_bipush W28 (z := (59 : Int32)) at_187 (by rfl) ?_
    refine w_castore W28 V_a2_5 ⟨by decide, by decide⟩ 5 (by decide) (Nat.le_of_ble_eq_true rfl) (x' := (59 : Int32)) (by rfl) g_a2 at_189 ?_
    intro T29 h29 l29 W29 Wr29 V29
    have V_a2_6 : Arv Z h29 a2 k23 .char (Int32.ofNat 31) ([(116 : Int32), (114 : Int32), (97 : Int32), (99 : Int32), (101 : Int32), (59 : Int32), (0 : Int32), (0 : Int32), (0 : Int32), (0 : Int32), (0 : Int32), (0 : Int32), (0 : Int32), (0 : Int32), (0 : Int32), (0 : Int32), (0 : Int32), (0 : Int32), (0 : Int32), (0 : Int32), (0 : Int32), (0 : Int32), (0 : Int32), (0 : Int32), (0 : Int32), (0 : Int32), (0 : Int32), (0 : Int32), (0 : Int32), (0 : Int32), (0 : Int32)].map Value.int) (.int 0) := V29
    have X29 := own_extWr X28 Wr29 (Nat.le_of_eq g23.symm)
    refine w_dup W29 at_190 rfl ?_
    refine w_bipush W29 (z := (6 : Int32)) at_191 (by rfl) ?_
    refine w_bipush W29 (z := (100 : Int32)) at_193 (by rfl) ?_
    refine w_castore W29 V_a2_6 ⟨by decide, by decide⟩ 6 (by decide) (Nat.le_of_ble_eq_true rfl) (x' := (100 : Int32)) (by rfl) g_a2 at_195 ?_
    intro T30 h30 l30 W30 Wr30 V30
    have V_a2_7 : Arv Z h30 a2 k23 .char (Int32.ofNat 31) ([(116 : Int32), (114 : Int32), (97 : Int32), (99 : Int32), (101 : Int32), (59 : Int32), (100 : Int32), (0 : Int32), (0 : Int32), (0 : Int32), (0 : Int32), (0 : Int32), (0 : Int32), (0 : Int32), (0 : Int32), (0 : Int32), (0 : Int32), (0 : Int32), (0 : Int32), (0 : Int32), (0 : Int32), (0 : Int32), (0 : Int32), (0 : Int32), (0 : Int32), (0 : Int32), (0 : Int32), (0 : Int32), (0 : Int32), (0 : Int32), (0 : Int32)].map Value.int) (.int 0) := V30
    have X30 := own_extWr X29 Wr30 (Nat.le_of_eq g23.symm)
    refine w_dup W30 at_196 rfl ?_
    refine w_bipush W30 (z := (7 : Int32)) at_197 (by rfl) ?_
    refine w_bipush W30 (z := (101 : Int32)) at_199 (by rfl) ?_
    refine w_castore W30 V_a2_7 ⟨by decide, by decide⟩ 7 (by decide) (Nat.le_of_ble_eq_true rfl) (x' := (101 : Int32)) (by rfl) g_a2 at_201 ?_
    intro T31 h31 l31 W31 Wr31 V31
    have V_a2_8 : Arv Z h31 a2 k23 .char (Int32.ofNat 31) ([(116 : Int32), (114 : Int32), (97 : Int32), (99 : Int32), (101 : Int32), (59 : Int32), (100 : Int32), (101 : Int32), (0 : Int32), (0 : Int32), (0 : Int32), (0 : Int32), (0 : Int32), (0 : Int32), (0 : Int32), (0 : Int32), (0 : Int32), (0 : Int32), (0 : Int32), (0 : Int32), (0 : Int32), (0 : Int32), (0 : Int32), (0 : Int32), (0 : Int32), (0 : Int32), (0 : Int32), (0 : Int32), (0 : Int32), (0 : Int32), (0 : Int32)].map Value.int) (.int 0) := V31
    have X31 := own_extWr X30 Wr31 (Nat.le_of_eq g23.symm)
    refine w_dup W31 at_202 rfl ?_
    refine w_bipush W31 (z := (8 : Int32)) at_203 (by rfl) ?_
    refine w_bipush W31 (z := (115 : Int32)) at_205 (by rfl) ?_
    refine w_castore W31 V_a2_8 ⟨by decide, by decide⟩ 8 (by decide) (Nat.le_of_ble_eq_true rfl) (x' := (115 : Int32)) (by rfl) g_a2 at_207 ?_
    intro T32 h32 l32 W32 Wr32 V32
    have V_a2_9 : Arv Z h32 a2 k23 .char (Int32.ofNat 31) ([(116 : Int32), (114 : Int32), (97 : Int32), (99 : Int32), (101 : Int32), (59 : Int32), (100 : Int32), (101 : Int32), (115 : Int32), (0 : Int32), (0 : Int32), (0 : Int32), (0 : Int32), (0 : Int32), (0 : Int32), (0 : Int32), (0 : Int32), (0 : Int32), (0 : Int32), (0 : Int32), (0 : Int32), (0 : Int32), (0 : Int32), (0 : Int32), (0 : Int32), (0 : Int32), (0 : Int32), (0 : Int32), (0 : Int32), (0 : Int32), (0 : Int32)].map Value.int) (.int 0) := V32
    have X32 := own_extWr X31 Wr32 (Nat.le_of_eq g23.symm)
    refine w_dup W32 at_208 rfl ?_
    refine w_bipush W32 (z := (9 : Int32)) at_209 (by rfl) ?_
    refine w_bipush W32 (z := (99 : Int32)) at_211 (by rfl) ?_
    refine w_castore W32 V_a2_9 ⟨by decide, by decide⟩ 9 (by decide) (Nat.le_of_ble_eq_true rfl) (x' := (99 : Int32)) (by rfl) g_a2 at_213 ?_
    intro T33 h33 l33 W33 Wr33 V33
    have V_a2_10 : Arv Z h33 a2 k23 .char (Int32.ofNat 31) ([(116 : Int32), (114 : Int32), (97 : Int32), (99 : Int32), (101 : Int32), (59 : Int32), (100 : Int32), (101 : Int32), (115 : Int32), (99 : Int32), (0 : Int32), (0 : Int32), (0 : Int32), (0 : Int32), (0 : Int32), (0 : Int32), (0 : Int32), (0 : Int32), (0 : Int32), (0 : Int32), (0 : Int32), (0 : Int32), (0 : Int32), (0 : Int32), (0 : Int32), (0 : Int32), (0 : Int32), (0 : Int32), (0 : Int32), (0 : Int32), (0 : Int32)].map Value.int) (.int 0) := V33
    have X33 := own_extWr X32 Wr33 (Nat.le_of_eq g23.symm)
    refine w_dup W33 at_214 rfl ?_
    refine w_bipush W33 (z := (10 : Int32)) at_215 (by rfl) ?_
    refine w_bipush W33 (z := (61 : Int32)) at_217 (by rfl) ?_
    refine w_castore W33 V_a2_10 ⟨by decide, by decide⟩ 10 (by decide) (Nat.le_of_ble_eq_true rfl) (x' := (61 : Int32)) (by rfl) g_a2 at_219 ?_
    intro T34 h34 l34 W34 Wr34 V34
    have V_a2_11 : Arv Z h34 a2 k23 .char (Int32.ofNat 31) ([(116 : Int32), (114 : Int32), (97 : Int32), (99 : Int32), (101 : Int32), (59 : Int32), (100 : Int32), (101 : Int32), (115 : Int32), (99 : Int32), (61 : Int32), (0 : Int32), (0 : Int32), (0 : Int32), (0 : Int32), (0 : Int32), (0 : Int32), (0 : Int32), (0 : Int32), (0 : Int32), (0 : Int32), (0 : Int32), (0 : Int32), (0 : Int32), (0 : Int32), (0 : Int32), (0 : Int32), (0 : Int32), (0 : Int32), (0 : Int32), (0 : Int32)].map Value.int) (.int 0) := V34
    have X34 := own_extWr X33 Wr34 (Nat.le_of_eq g23.symm)
    refine w_dup W34 at_220 rfl ?_
    refine w_bipush W34 (z := (11 : Int32)) at_221 (by rfl) ?_
    refine w_bipush W34 (z := (34 : Int32)) at_223 (by rfl) ?_
    refine w_castore W34 V_a2_11 ⟨by decide, by decide⟩ 11 (by decide) (Nat.le_of_ble_eq_true rfl) (x' := (34 : Int32)) (by rfl) g_a2 at_225 ?_
    intro T35 h35 l35 W35 Wr35 V35
    have V_a2_12 : Arv Z h35 a2 k23 .char (Int32.ofNat 31) ([(116 : Int32), (114 : Int32), (97 : Int32), (99 : Int32), (101 : Int32), (59 : Int32), (100 : Int32), (101 : Int32), (115 : Int32), (99 : Int32), (61 : Int32), (34 : Int32), (0 : Int32), (0 : Int32), (0 : Int32), (0 : Int32), (0 : Int32), (0 : Int32), (0 : Int32), (0 : Int32), (0 : Int32), (0 : Int32), (0 : Int32), (0 : Int32), (0 : Int32), (0 : Int32), (0 : Int32), (0 : Int32), (0 : Int32), (0 : Int32), (0 : Int32)].map Value.int) (.int 0) := V35
    have X35 := own_extWr X34 Wr35 (Nat.le_of_eq g23.symm)
    refine w_dup W35 at_226 rfl ?_
    refine w_bipush W35 (z := (12 : Int32)) at_227 (by rfl) ?_
    refine w_iload W35 at_229 rfl ?_
    refine w_castore W35 V_a2_12 ⟨by decide, by decide⟩ 12 (by decide) (Nat.le_of_ble_eq_true rfl) (x' := cc) (qcc) g_a2 at_231 ?_
    intro T36 h36 l36 W36 Wr36 V36
    have V_a2_13 : Arv Z h36 a2 k23 .char (Int32.ofNat 31) ([(116 : Int32), (114 : Int32), (97 : Int32), (99 : Int32), (101 : Int32), (59 : Int32), (100 : Int32), (101 : Int32), (115 : Int32), (99 : Int32), (61 : Int32), (34 : Int32), cc, (0 : Int32), (0 : Int32), (0 : Int32), (0 : Int32), (0 : Int32), (0 : Int32), (0 : Int32), (0 : Int32), (0 : Int32), (0 : Int32), (0 : Int32), (0 : Int32), (0 : Int32), (0 : Int32), (0 : Int32), (0 : Int32), (0 : Int32), (0 : Int32)].map Value.int) (.int 0) := V36
    have X36 := own_extWr X35 Wr36 (Nat.le_of_eq g23.symm)
    refine w_dup W36 at_232 rfl ?_
    refine w_bipush W36 (z := (13 : Int32)) at_233 (by rfl) ?_
    refine w_bipush W36 (z := (34 : Int32)) at_235 (by rfl) ?_
    refine w_castore W36 V_a2_13 ⟨by decide, by decide⟩ 13 (by decide) (Nat.le_of_ble_eq_true rfl) (x' := (34 : Int32)) (by rfl) g_a2 at_237 ?_
    intro T37 h37 l37 W37 Wr37 V37
    have V_a2_14 : Arv Z h37 a2 k23 .char (Int32.ofNat 31) ([(116 : Int32), (114 : Int32), (97 : Int32), (99 : Int32), (101 : Int32), (59 : Int32), (100 : Int32), (101 : Int32), (115 : Int32), (99 : Int32), (61 : Int32), (34 : Int32), cc, (34 : Int32), (0 : Int32), (0 : Int32), (0 : Int32), (0 : Int32), (0 : Int32), (0 : Int32), (0 : Int32), (0 : Int32), (0 : Int32), (0 : Int32), (0 : Int32), (0 : Int32), (0 : Int32), (0 : Int32), (0 : Int32), (0 : Int32), (0 : Int32)].map Value.int) (.int 0) := V37
    have X37 := own_extWr X36 Wr37 (Nat.le_of_eq g23.symm)
    refine w_dup W37 at_238 rfl ?_
    refine w_bipush W37 (z := (14 : Int32)) at_239 (by rfl) ?_
    refine w_bipush W37 (z := (44 : Int32)) at_241 (by rfl) ?_
    refine w_castore W37 V_a2_14 ⟨by decide, by decide⟩ 14 (by decide) (Nat.le_of_ble_eq_true rfl) (x' := (44 : Int32)) (by rfl) g_a2 at_243 ?_
    intro T38 h38 l38 W38 Wr38 V38
    have V_a2_15 : Arv Z h38 a2 k23 .char (Int32.ofNat 31) ([(116 : Int32), (114 : Int32), (97 : Int32), (99 : Int32), (101 : Int32), (59 : Int32), (100 : Int32), (101 : Int32), (115 : Int32), (99 : Int32), (61 : Int32), (34 : Int32), cc, (34 : Int32), (44 : Int32), (0 : Int32), (0 : Int32), (0 : Int32), (0 : Int32), (0 : Int32), (0 : Int32), (0 : Int32), (0 : Int32), (0 : Int32), (0 : Int32), (0 : Int32), (0 : Int32), (0 : Int32), (0 : Int32), (0 : Int32), (0 : Int32)].map Value.int) (.int 0) := V38
    have X38 := own_extWr X37 Wr38 (Nat.le_of_eq g23.symm)
    refine w_dup W38 at_244 rfl ?_
    refine w_bipush W38 (z := (15 : Int32)) at_245 (by rfl) ?_
    refine w_bipush W38 (z := (32 : Int32)) at_247 (by rfl) ?_
    refine w_castore W38 V_a2_15 ⟨by decide, by decide⟩ 15 (by decide) (Nat.le_of_ble_eq_true rfl) (x' := (32 : Int32)) (by rfl) g_a2 at_249 ?_
    intro T39 h39 l39 W39 Wr39 V39
    have V_a2_16 : Arv Z h39 a2 k23 .char (Int32.ofNat 31) ([(116 : Int32), (114 : Int32), (97 : Int32), (99 : Int32), (101 : Int32), (59 : Int32), (100 : Int32), (101 : Int32), (115 : Int32), (99 : Int32), (61 : Int32), (34 : Int32), cc, (34 : Int32), (44 : Int32), (32 : Int32), (0 : Int32), (0 : Int32), (0 : Int32), (0 : Int32), (0 : Int32), (0 : Int32), (0 : Int32), (0 : Int32), (0 : Int32), (0 : Int32), (0 : Int32), (0 : Int32), (0 : Int32), (0 : Int32), (0 : Int32)].map Value.int) (.int 0) := V39
    have X39 := own_extWr X38 Wr39 (Nat.le_of_eq g23.symm)
    refine w_dup W39 at_250 rfl ?_
    refine w_bipush W39 (z := (16 : Int32)) at_251 (by rfl) ?_
    refine w_bipush W39 (z := (116 : Int32)) at_253 (by rfl) ?_
    refine w_castore W39 V_a2_16 ⟨by decide, by decide⟩ 16 (by decide) (Nat.le_of_ble_eq_true rfl) (x' := (116 : Int32)) (by rfl) g_a2 at_255 ?_
    intro T40 h40 l40 W40 Wr40 V40
    have V_a2_17 : Arv Z h40 a2 k23 .char (Int32.ofNat 31) ([(116 : Int32), (114 : Int32), (97 : Int32), (99 : Int32), (101 : Int32), (59 : Int32), (100 : Int32), (101 : Int32), (115 : Int32), (99 : Int32), (61 : Int32), (34 : Int32), cc, (34 : Int32), (44 : Int32), (32 : Int32), (116 : Int32), (0 : Int32), (0 : Int32), (0 : Int32), (0 : Int32), (0 : Int32), (0 : Int32), (0 : Int32), (0 : Int32), (0 : Int32), (0 : Int32), (0 : Int32), (0 : Int32), (0 : Int32), (0 : Int32)].map Value.int) (.int 0) := V40
    have X40 := own_extWr X39 Wr40 (Nat.le_of_eq g23.symm)
    refine w_dup W40 at_256 rfl ?_
    refine w_bipush W40 (z := (17 : Int32)) at_257 (by rfl) ?_
    refine w_bipush W40 (z := (114 : Int32)) at_259 (by rfl) ?_
    refine w_castore W40 V_a2_17 ⟨by decide, by decide⟩ 17 (by decide) (Nat.le_of_ble_eq_true rfl) (x' := (114 : Int32)) (by rfl) g_a2 at_261 ?_
    intro T41 h41 l41 W41 Wr41 V41
    have V_a2_18 : Arv Z h41 a2 k23 .char (Int32.ofNat 31) ([(116 : Int32), (114 : Int32), (97 : Int32), (99 : Int32), (101 : Int32), (59 : Int32), (100 : Int32), (101 : Int32), (115 : Int32), (99 : Int32), (61 : Int32), (34 : Int32), cc, (34 : Int32), (44 : Int32), (32 : Int32), (116 : Int32), (114 : Int32), (0 : Int32), (0 : Int32), (0 : Int32), (0 : Int32), (0 : Int32), (0 : Int32), (0 : Int32), (0 : Int32), (0 : Int32), (0 : Int32), (0 : Int32), (0 : Int32), (0 : Int32)].map Value.int) (.int 0) := V41
    have X41 := own_extWr X40 Wr41 (Nat.le_of_eq g23.symm)
    refine w_dup W41 at_262 rfl ?_
    refine w_bipush W41 (z := (18 : Int32)) at_263 (by rfl) ?_
    refine w_bipush W41 (z := (97 : Int32)) at_265 (by rfl) ?_
    refine w_castore W41 V_a2_18 ⟨by decide, by decide⟩ 18 (by decide) (Nat.le_of_ble_eq_true rfl) (x' := (97 : Int32)) (by rfl) g_a2 at_267 ?_
    intro T42 h42 l42 W42 Wr42 V42
    have V_a2_19 : Arv Z h42 a2 k23 .char (Int32.ofNat 31) ([(116 : Int32), (114 : Int32), (97 : Int32), (99 : Int32), (101 : Int32), (59 : Int32), (100 : Int32), (101 : Int32), (115 : Int32), (99 : Int32), (61 : Int32), (34 : Int32), cc, (34 : Int32), (44 : Int32), (32 : Int32), (116 : Int32), (114 : Int32), (97 : Int32), (0 : Int32), (0 : Int32), (0 : Int32), (0 : Int32), (0 : Int32), (0 : Int32), (0 : Int32), (0 : Int32), (0 : Int32), (0 : Int32), (0 : Int32), (0 : Int32)].map Value.int) (.int 0) := V42
    have X42 := own_extWr X41 Wr42 (Nat.le_of_eq g23.symm)
    refine w_dup W42 at_268 rfl ?_
    refine w_bipush W42 (z := (19 : Int32)) at_269 (by rfl) ?_
    refine w_bipush W42 (z := (99 : Int32)) at_271 (by rfl) ?_
    refine w_castore W42 V_a2_19 ⟨by decide, by decide⟩ 19 (by decide) (Nat.le_of_ble_eq_true rfl) (x' := (99 : Int32)) (by rfl) g_a2 at_273 ?_
    intro T43 h43 l43 W43 Wr43 V43
    have V_a2_20 : Arv Z h43 a2 k23 .char (Int32.ofNat 31) ([(116 : Int32), (114 : Int32), (97 : Int32), (99 : Int32), (101 : Int32), (59 : Int32), (100 : Int32), (101 : Int32), (115 : Int32), (99 : Int32), (61 : Int32), (34 : Int32), cc, (34 : Int32), (44 : Int32), (32 : Int32), (116 : Int32), (114 : Int32), (97 : Int32), (99 : Int32), (0 : Int32), (0 : Int32), (0 : Int32), (0 : Int32), (0 : Int32), (0 : Int32), (0 : Int32), (0 : Int32), (0 : Int32), (0 : Int32), (0 : Int32)].map Value.int) (.int 0) := V43
    have X43 := own_extWr X42 Wr43 (Nat.le_of_eq g23.symm)
    refine w_dup W43 at_274 rfl ?_
    refine w_bipush W43 (z := (20 : Int32)) at_275 (by rfl) ?_
    refine w_bipush W43 (z := (101 : Int32)) at_277 (by rfl) ?_
    refine w_castore W43 V_a2_20 ⟨by decide, by decide⟩ 20 (by decide) (Nat.le_of_ble_eq_true rfl) (x' := (101 : Int32)) (by rfl) g_a2 at_279 ?_
    intro T44 h44 l44 W44 Wr44 V44
    have V_a2_21 : Arv Z h44 a2 k23 .char (Int32.ofNat 31) ([(116 : Int32), (114 : Int32), (97 : Int32), (99 : Int32), (101 : Int32), (59 : Int32), (100 : Int32), (101 : Int32), (115 : Int32), (99 : Int32), (61 : Int32), (34 : Int32), cc, (34 : Int32), (44 : Int32), (32 : Int32), (116 : Int32), (114 : Int32), (97 : Int32), (99 : Int32), (101 : Int32), (0 : Int32), (0 : Int32), (0 : Int32), (0 : Int32), (0 : Int32), (0 : Int32), (0 : Int32), (0 : Int32), (0 : Int32), (0 : Int32)].map Value.int) (.int 0) := V44
    have X44 := own_extWr X43 Wr44 (Nat.le_of_eq g23.symm)
    refine w_dup W44 at_280 rfl ?_
    refine w_bipush W44 (z := (21 : Int32)) at_281 (by rfl) ?_
    refine w_bipush W44 (z := (59 : Int32)) at_283 (by rfl) ?_
    refine w_castore W44 V_a2_21 ⟨by decide, by decide⟩ 21 (by decide) (Nat.le_of_ble_eq_true rfl) (x' := (59 : Int32)) (by rfl) g_a2 at_285 ?_
    intro T45 h45 l45 W45 Wr45 V45
    have V_a2_22 : Arv Z h45 a2 k23 .char (Int32.ofNat 31) ([(116 : Int32), (114 : Int32), (97 : Int32), (99 : Int32), (101 : Int32), (59 : Int32), (100 : Int32), (101 : Int32), (115 : Int32), (99 : Int32), (61 : Int32), (34 : Int32), cc, (34 : Int32), (44 : Int32), (32 : Int32), (116 : Int32), (114 : Int32), (97 : Int32), (99 : Int32), (101 : Int32), (59 : Int32), (0 : Int32), (0 : Int32), (0 : Int32), (0 : Int32), (0 : Int32), (0 : Int32), (0 : Int32), (0 : Int32), (0 : Int32)].map Value.int) (.int 0) := V45
    have X45 := own_extWr X44 Wr45 (Nat.le_of_eq g23.symm)
    refine w_dup W45 at_286 rfl ?_
    refine w_bipush W45 (z := (22 : Int32)) at_287 (by rfl) ?_
    refine w_bipush W45 (z := (100 : Int32)) at_289 (by rfl) ?_
    refine w_castore W45 V_a2_22 ⟨by decide, by decide⟩ 22 (by decide) (Nat.le_of_ble_eq_true rfl) (x' := (100 : Int32)) (by rfl) g_a2 at_291 ?_
    intro T46 h46 l46 W46 Wr46 V46
    have V_a2_23 : Arv Z h46 a2 k23 .char (Int32.ofNat 31) ([(116 : Int32), (114 : Int32), (97 : Int32), (99 : Int32), (101 : Int32), (59 : Int32), (100 : Int32), (101 : Int32), (115 : Int32), (99 : Int32), (61 : Int32), (34 : Int32), cc, (34 : Int32), (44 : Int32), (32 : Int32), (116 : Int32), (114 : Int32), (97 : Int32), (99 : Int32), (101 : Int32), (59 : Int32), (100 : Int32), (0 : Int32), (0 : Int32), (0 : Int32), (0 : Int32), (0 : Int32), (0 : Int32), (0 : Int32), (0 : Int32)].map Value.int) (.int 0) := V46
    have X46 := own_extWr X45 Wr46 (Nat.le_of_eq g23.symm)
    refine w_dup W46 at_292 rfl ?_
    refine w_bipush W46 (z := (23 : Int32)) at_293 (by rfl) ?_
    refine w_bipush W46 (z := (101 : Int32)) at_295 (by rfl) ?_
    refine w_castore W46 V_a2_23 ⟨by decide, by decide⟩ 23 (by decide) (Nat.le_of_ble_eq_true rfl) (x' := (101 : Int32)) (by rfl) g_a2 at_297 ?_
    intro T47 h47 l47 W47 Wr47 V47
    have V_a2_24 : Arv Z h47 a2 k23 .char (Int32.ofNat 31) ([(116 : Int32), (114 : Int32), (97 : Int32), (99 : Int32), (101 : Int32), (59 : Int32), (100 : Int32), (101 : Int32), (115 : Int32), (99 : Int32), (61 : Int32), (34 : Int32), cc, (34 : Int32), (44 : Int32), (32 : Int32), (116 : Int32), (114 : Int32), (97 : Int32), (99 : Int32), (101 : Int32), (59 : Int32), (100 : Int32), (101 : Int32), (0 : Int32), (0 : Int32), (0 : Int32), (0 : Int32), (0 : Int32), (0 : Int32), (0 : Int32)].map Value.int) (.int 0) := V47
    have X47 := own_extWr X46 Wr47 (Nat.le_of_eq g23.symm)
    refine w_dup W47 at_298 rfl ?_
    refine w_bipush W47 (z := (24 : Int32)) at_299 (by rfl) ?_
    refine w_bipush W47 (z := (115 : Int32)) at_301 (by rfl) ?_
    refine w_castore W47 V_a2_24 ⟨by decide, by decide⟩ 24 (by decide) (Nat.le_of_ble_eq_true rfl) (x' := (115 : Int32)) (by rfl) g_a2 at_303 ?_
    intro T48 h48 l48 W48 Wr48 V48
    have V_a2_25 : Arv Z h48 a2 k23 .char (Int32.ofNat 31) ([(116 : Int32), (114 : Int32), (97 : Int32), (99 : Int32), (101 : Int32), (59 : Int32), (100 : Int32), (101 : Int32), (115 : Int32), (99 : Int32), (61 : Int32), (34 : Int32), cc, (34 : Int32), (44 : Int32), (32 : Int32), (116 : Int32), (114 : Int32), (97 : Int32), (99 : Int32), (101 : Int32), (59 : Int32), (100 : Int32), (101 : Int32), (115 : Int32), (0 : Int32), (0 : Int32), (0 : Int32), (0 : Int32), (0 : Int32), (0 : Int32)].map Value.int) (.int 0) := V48
    have X48 := own_extWr X47 Wr48 (Nat.le_of_eq g23.symm)
    refine w_dup W48 at_304 rfl ?_
    refine w_bipush W48 (z := (25 : Int32)) at_305 (by rfl) ?_
    refine w_bipush W48 (z := (99 : Int32)) at_307 (by rfl) ?_
    refine w_castore W48 V_a2_25 ⟨by decide, by decide⟩ 25 (by decide) (Nat.le_of_ble_eq_true rfl) (x' := (99 : Int32)) (by rfl) g_a2 at_309 ?_
    intro T49 h49 l49 W49 Wr49 V49
    have V_a2_26 : Arv Z h49 a2 k23 .char (Int32.ofNat 31) ([(116 : Int32), (114 : Int32), (97 : Int32), (99 : Int32), (101 : Int32), (59 : Int32), (100 : Int32), (101 : Int32), (115 : Int32), (99 : Int32), (61 : Int32), (34 : Int32), cc, (34 : Int32), (44 : Int32), (32 : Int32), (116 : Int32), (114 : Int32), (97 : Int32), (99 : Int32), (101 : Int32), (59 : Int32), (100 : Int32), (101 : Int32), (115 : Int32), (99 : Int32), (0 : Int32), (0 : Int32), (0 : Int32), (0 : Int32), (0 : Int32)].map Value.int) (.int 0) := V49
    have X49 := own_extWr X48 Wr49 (Nat.le_of_eq g23.symm)
    refine w_dup W49 at_310 rfl ?_
    refine w_bipush W49 (z := (26 : Int32)) at_311 (by rfl) ?_
    refine w_bipush W49 (z := (61 : Int32)) at_313 (by rfl) ?_
    refine w_castore W49 V_a2_26 ⟨by decide, by decide⟩ 26 (by decide) (Nat.le_of_ble_eq_true rfl) (x' := (61 : Int32)) (by rfl) g_a2 at_315 ?_
    intro T50 h50 l50 W50 Wr50 V50
    have V_a2_27 : Arv Z h50 a2 k23 .char (Int32.ofNat 31) ([(116 : Int32), (114 : Int32), (97 : Int32), (99 : Int32), (101 : Int32), (59 : Int32), (100 : Int32), (101 : Int32), (115 : Int32), (99 : Int32), (61 : Int32), (34 : Int32), cc, (34 : Int32), (44 : Int32), (32 : Int32), (116 : Int32), (114 : Int32), (97 : Int32), (99 : Int32), (101 : Int32), (59 : Int32), (100 : Int32), (101 : Int32), (115 : Int32), (99 : Int32), (61 : Int32), (0 : Int32), (0 : Int32), (0 : Int32), (0 : Int32)].map Value.int) (.int 0) := V50
    have X50 := own_extWr X49 Wr50 (Nat.le_of_eq g23.symm)
    refine w_dup W50 at_316 rfl ?_
    refine w_bipush W50 (z := (27 : Int32)) at_317 (by rfl) ?_
    refine w_bipush W50 (z := (34 : Int32)) at_319 (by rfl) ?_
    refine w_castore W50 V_a2_27 ⟨by decide, by decide⟩ 27 (by decide) (Nat.le_of_ble_eq_true rfl) (x' := (34 : Int32)) (by rfl) g_a2 at_321 ?_
    intro T51 h51 l51 W51 Wr51 V51
    have V_a2_28 : Arv Z h51 a2 k23 .char (Int32.ofNat 31) ([(116 : Int32), (114 : Int32), (97 : Int32), (99 : Int32), (101 : Int32), (59 : Int32), (100 : Int32), (101 : Int32), (115 : Int32), (99 : Int32), (61 : Int32), (34 : Int32), cc, (34 : Int32), (44 : Int32), (32 : Int32), (116 : Int32), (114 : Int32), (97 : Int32), (99 : Int32), (101 : Int32), (59 : Int32), (100 : Int32), (101 : Int32), (115 : Int32), (99 : Int32), (61 : Int32), (34 : Int32), (0 : Int32), (0 : Int32), (0 : Int32)].map Value.int) (.int 0) := V51
    have X51 := own_extWr X50 Wr51 (Nat.le_of_eq g23.symm)
    refine w_dup W51 at_322 rfl ?_
    refine w_bipush W51 (z := (28 : Int32)) at_323 (by rfl) ?_
    refine w_iload W51 at_325 rfl ?_
    refine w_castore W51 V_a2_28 ⟨by decide, by decide⟩ 28 (by decide) (Nat.le_of_ble_eq_true rfl) (x' := ca) (qca) g_a2 at_327 ?_
    intro T52 h52 l52 W52 Wr52 V52
    have V_a2_29 : Arv Z h52 a2 k23 .char (Int32.ofNat 31) ([(116 : Int32), (114 : Int32), (97 : Int32), (99 : Int32), (101 : Int32), (59 : Int32), (100 : Int32), (101 : Int32), (115 : Int32), (99 : Int32), (61 : Int32), (34 : Int32), cc, (34 : Int32), (44 : Int32), (32 : Int32), (116 : Int32), (114 : Int32), (97 : Int32), (99 : Int32), (101 : Int32), (59 : Int32), (100 : Int32), (101 : Int32), (115 : Int32), (99 : Int32), (61 : Int32), (34 : Int32), ca, (0 : Int32), (0 : Int32)].map Value.int) (.int 0) := V52
    have X52 := own_extWr X51 Wr52 (Nat.le_of_eq g23.symm)
    refine w_dup W52 at_328 rfl ?_
    refine w_bipush W52 (z := (29 : Int32)) at_329 (by rfl) ?_
    refine w_iload W52 at_331 rfl ?_
    refine w_castore W52 V_a2_29 ⟨by decide, by decide⟩ 29 (by decide) (Nat.le_of_ble_eq_true rfl) (x' := cb) (qcb) g_a2 at_333 ?_
    intro T53 h53 l53 W53 Wr53 V53
    have V_a2_30 : Arv Z h53 a2 k23 .char (Int32.ofNat 31) ([(116 : Int32), (114 : Int32), (97 : Int32), (99 : Int32), (101 : Int32), (59 : Int32), (100 : Int32), (101 : Int32), (115 : Int32), (99 : Int32), (61 : Int32), (34 : Int32), cc, (34 : Int32), (44 : Int32), (32 : Int32), (116 : Int32), (114 : Int32), (97 : Int32), (99 : Int32), (101 : Int32), (59 : Int32), (100 : Int32), (101 : Int32), (115 : Int32), (99 : Int32), (61 : Int32), (34 : Int32), ca, cb, (0 : Int32)].map Value.int) (.int 0) := V53
    have X53 := own_extWr X52 Wr53 (Nat.le_of_eq g23.symm)
    refine w_dup W53 at_334 rfl ?_
    refine w_bipush W53 (z := (30 : Int32)) at_335 (by rfl) ?_
    refine w_bipush W53 (z := (34 : Int32)) at_337 (by rfl) ?_
    refine w_castore W53 V_a2_30 ⟨by decide, by decide⟩ 30 (by decide) (Nat.le_of_ble_eq_true rfl) (x' := (34 : Int32)) (by rfl) g_a2 at_339 ?_
    intro T54 h54 l54 W54 Wr54 V54
    have V_a2_31 : Arv Z h54 a2 k23 .char (Int32.ofNat 31) ([(116 : Int32), (114 : Int32), (97 : Int32), (99 : Int32), (101 : Int32), (59 : Int32), (100 : Int32), (101 : Int32), (115 : Int32), (99 : Int32), (61 : Int32), (34 : Int32), cc, (34 : Int32), (44 : Int32), (32 : Int32), (116 : Int32), (114 : Int32), (97 : Int32), (99 : Int32), (101 : Int32), (59 : Int32), (100 : Int32), (101 : Int32), (115 : Int32), (99 : Int32), (61 : Int32), (34 : Int32), ca, cb, (34 : Int32)].map Value.int) (.int 0) := V54
    have X54 := own_extWr X53 Wr54 (Nat.le_of_eq g23.symm)
    refine w_astore W54 (L' := #[.val (.int ra), .val (.int rb), .val (.int rc), .val (.int rf), .val (.int ca), .val (.int cb), .val (.int cc), .val (.int (0 : Int32)), .val (.ref sI), .val (.ref sF), .val (.ref a1), .val (.ref a2), .unset, .unset, .unset]) at_340 rfl rfl ?_
    have C2 := V_a2_31
    have X2 := X54
    have O3 := O2.ext X2
    have X12 := own_extTrans X1 X2
    refine w_new W54 (hw _ (List.mem_of_getElem? (i := 44) rfl)) (hw _ (List.mem_of_getElem? (i := 45) rfl)) (hw _ (List.mem_of_getElem? (i := 46) rfl)) at_342 (by decide) (by decide) ?_
    intro T55 h55 t W55 E55 g55 A55 D55
    have ET := E55
    have Ft0 := (D55 (Or.inr (hw _ (List.mem_of_getElem? (i := 70) rfl))) (ty := (.object "java/lang/StringBuilder")) (by decide) : Fld Z h55 _ "com/example/phasescope/phasescope/ServerTiming" "value" "Ljava/lang/StringBuilder;" .null)
    have ht : n0 ≤ t := by rw [g55]; exact own_oldle O3
    have gT := Nat.le_of_eq g55.symm
    refine w_dup W55 at_345 rfl ?_
    refine w_special W55 (ctSi l Z a0 hw cz t _ n0 (O3.ext ET) G hcz A55 Ft0 ht) rfl (hw _ (List.mem_of_getElem? (i := 47) rfl)) (hw _ (List.mem_of_getElem? (i := 48) rfl)) (hw _ (List.mem_of_getElem? (i := 46) rfl)) (hw _ (List.mem_of_getElem? (i := 49) rfl)) (by decide) 1 (by decide) (by decide) (by decide) (by decide) (a := t) (argsL := []) (rest := [(.ref t)]) pd_19 rfl rfl rfl rfl rfl at_346 ?_
    rintro T56 h56 l56 _ W56 ⟨rfl, KT, y, b, hy, hb, Et4, Ft4, F4⟩
    have Z4 := own_extKeep ET KT (allS gT all0)
    have X4 := own_extTrans X12 Z4
    have SI4 := SI1.ext X4
    have SF4 := SF.ext X4
    have O4 := O3.ext Z4
    have C1_4 := C1.ext (own_extTrans X2 Z4)
    have C2_4 := C2.ext Z4
    refine w_astore W56 (L' := #[.val (.int ra), .val (.int rb), .val (.int rc), .val (.int rf), .val (.int ca), .val (.int cb), .val (.int cc), .val (.int (0 : Int32)), .val (.ref sI), .val (.ref sF), .val (.ref a1), .val (.ref a2), .val (.ref t), .unset, .unset]) at_349 rfl rfl ?_
    refine w_iload W56 at_351 rfl ?_
    refine w_ifeq W56 (pc' := 370) at_353 (by decide) (fun c353 => ?_) (fun c353 => absurd c353 (by decide))
    refine w_aload W56 at_370 rfl rfl ?_
    refine w_aload W56 at_372 rfl rfl ?_
    refine w_virtW W56 (ctT0 l Z a0 hw cz t y b sI _ _ n0 hC35 O4 G hcz Et4 Ft4 (Nat.le_of_ble_eq_true rfl) SI4 F4) (fun vm' q => own_ibWarm hV q) (hw _ (List.mem_of_getElem? (i := 71) rfl)) (hw _ (List.mem_of_getElem? (i := 72) rfl)) (notFace_of_selects (args := #[]) (mvT W56.wZ (hw _ (List.mem_of_getElem? (i := 74) rfl)))) (hw _ (List.mem_of_getElem? (i := 74) rfl)) (hw _ (List.mem_of_getElem? (i := 73) rfl)) (hw _ (List.mem_of_getElem? (i := 46) rfl)) (hw _ (List.mem_of_getElem? (i := 75) rfl)) (by decide) 0 (by decide) (by decide) (by decide) (by decide) (a := t) Et4 (argsL := [(.ref sI)]) (rest := []) pd_33 rfl rfl rfl rfl rfl at_374 ?_
    rintro T57 h57 l57 vm57 _ W57 hw57 ⟨rfl, K6, F6, LD6, I6⟩
    have SI6 := SI4.keepSB F4 (Nat.le_of_ble_eq_true rfl) (Nat.ne_of_beq_eq_false rfl) (hw _ (List.mem_of_getElem? (i := 1) rfl)) (hw _ (List.mem_of_getElem? (i := 52) rfl)) K6
    have Et6 := Et4.keep K6
    have nty6 : t ≠ y := Exa.ne Et4 F4.1 (by decide)
    have ntb6 : t ≠ b := by obtain ⟨_, _, _, _, _, _, _, _, kq, Cq⟩ := F4; exact Exa.neArv Et4 Cq (hw _ (List.mem_of_getElem? (i := 45) rfl))
    have Ft6 := Ft4.keep K6 (ninS nty6 (ninS ntb6 nin0))
    have O6 := O4.keep K6 (allS F4.2.2.2.2.1 (allS F4.2.2.2.2.2.1 all0))
    have C1_6 := C1_4.keep K6 (ninS (Exa.neArv F4.1 C1_4 (hw _ (List.mem_of_getElem? (i := 52) rfl))).symm (ninS (by obtain ⟨_, _, _, _, _, _, _, _, kq, Cq⟩ := F4; exact own_arvNe C1_4 Cq (by decide) (by decide) (by decide)) nin0))
    have C2_6 := C2_4.keep K6 (ninS (Exa.neArv F4.1 C2_4 (hw _ (List.mem_of_getElem? (i := 52) rfl))).symm (ninS (by obtain ⟨_, _, _, _, _, _, _, _, kq, Cq⟩ := F4; exact own_arvNe C2_4 Cq (by decide) (by decide) (by decide)) nin0))
    refine w_astore W57 (L' := #[.val (.int ra), .val (.int rb), .val (.int rc), .val (.int rf), .val (.int ca), .val (.int cb), .val (.int cc), .val (.int (0 : Int32)), .val (.ref sI), .val (.ref sF), .val (.ref a1), .val (.ref a2), .val (.ref t), .val (.ref t), .unset]) at_377 rfl rfl ?_
    refine w_aload W57 at_379 rfl rfl ?_
    refine w_aload W57 at_381 rfl rfl ?_
    refine w_acmp W57 (pc' := 388) true rfl rfl at_383 (decide_eq_true rfl) (by decide) (by rfl) ?_
    refine w_aload W57 at_388 rfl rfl ?_
    refine w_virt W57 (ctTt l Z a0 hw cz y b 16 _ t _ n0 O6 G hcz (Nat.le_of_ble_eq_true rfl) (Nat.le_of_ble_eq_true rfl) F6 Ft6) (hw _ (List.mem_of_getElem? (i := 178) rfl)) (hw _ (List.mem_of_getElem? (i := 179) rfl)) (notFace_of_selects (args := #[]) (mvT W57.wZ (hw _ (List.mem_of_getElem? (i := 181) rfl)))) (hw _ (List.mem_of_getElem? (i := 181) rfl)) (hw _ (List.mem_of_getElem? (i := 180) rfl)) (hw _ (List.mem_of_getElem? (i := 46) rfl)) (hw _ (List.mem_of_getElem? (i := 182) rfl)) (by decide) 0 (by decide) (by decide) (by decide) (by decide) (a := t) Et6 (argsL := []) (rest := []) pd_27 rfl rfl rfl rfl rfl at_390 ?_
    rintro T58 h58 l58 _ W58 ⟨gs, rfl, E7, hgs, S7⟩
    have O7 := O6.ext E7
    have C1_7 := C1_6.ext E7
    have C2_7 := C2_6.ext E7
    refine w_astore W58 (L' := #[.val (.int ra), .val (.int rb), .val (.int rc), .val (.int rf), .val (.int ca), .val (.int cb), .val (.int cc), .val (.int (0 : Int32)), .val (.ref sI), .val (.ref sF), .val (.ref a1), .val (.ref a2), .val (.ref t), .val (.ref t), .val (.ref gs)]) at_393 rfl rfl ?_
    refine w_aload W58 at_395 rfl rfl ?_
    refine w_new W58 (hw _ (List.mem_of_getElem? (i := 0) rfl)) (hw _ (List.mem_of_getElem? (i := 1) rfl)) (hw _ (List.mem_of_getElem? (i := 2) rfl)) at_397 (by decide) (by decide) ?_
    intro T59 h59 sE W59 E59 g59 A59 D59
    have E8 := E59
    have FvE := (D59 (Or.inr (hw _ (List.mem_of_getElem? (i := 29) rfl))) (ty := (.array .byte)) (by decide) : Fld Z h59 _ "java/lang/String" "value" "[B" .null)
    have FcE := (D59 (Or.inr (hw _ (List.mem_of_getElem? (i := 27) rfl))) (ty := .byte) (by decide) : Fld Z h59 _ "java/lang/String" "coder" "B" (.int 0))
    have AE := A59
    have gE := Nat.le_of_eq g59.symm
    have hsE : h0.size ≤ sE := by have q := O7.2.1; have q1 := O.1; have q2 := O7.1; have q3 := (own_extTrans Y1 (own_extTrans X12 Z4)).1; have q4 := K6.1; have q5 := E7.1; omega
    refine w_dup W59 at_400 rfl ?_
    refine w_iload W59 at_401 rfl ?_
    refine w_ifeq W59 (pc' := 411) at_403 (by decide) (fun c403 => ?_) (fun c403 => absurd c403 (by decide))
    refine w_aload W59 at_411 rfl rfl ?_
    refine w_special W59 (ctS1 l Z a0 hw cz sE a1 _ [(116 : Int32), (114 : Int32), (97 : Int32), (99 : Int32), (101 : Int32), (59 : Int32), (100 : Int32), (101 : Int32), (115 : Int32), (99 : Int32), (61 : Int32), (34 : Int32), ca, cb, (34 : Int32)] _ n0 (Nat.le_of_ble_eq_true rfl) (own_allc (by decide) (own_allc (by decide) (own_allc (by decide) (own_allc (by decide) (own_allc (by decide) (own_allc (by decide) (own_allc (by decide) (own_allc (by decide) (own_allc (by decide) (own_allc (by decide) (own_allc (by decide) (own_allc (by decide) (own_allc nca (own_allc ncb (own_allc (by decide) own_alln))))))))))))))) (Nat.le_of_ble_eq_true rfl) (O7.ext E8) G hcz AE FvE FcE (Nat.le_trans (own_oldle O) hsE) (C1_7.ext E8)) rfl (hw _ (List.mem_of_getElem? (i := 4) rfl)) (hw _ (List.mem_of_getElem? (i := 5) rfl)) (hw _ (List.mem_of_getElem? (i := 2) rfl)) (hw _ (List.mem_of_getElem? (i := 6) rfl)) (by decide) 2 (by decide) (by decide) (by decide) (by decide) (a := sE) (argsL := [(.ref a1)]) (rest := [(.ref sE), (.ref gs)]) pd_31 rfl rfl rfl rfl rfl at_413 ?_
    rintro T60 h60 l60 _ W60 ⟨rfl, KE, SE⟩
    have Z9 := own_extKeep E8 KE (allS gE all0)
    have S9 := S7.ext Z9
    have O9 := O7.ext Z9
    have Ex9 := S9.exa
    refine w_virt W60 (own_eqOne (ctSe l Z a0 hw cz gs sE _ _ _ n0 (Nat.le_of_ble_eq_true rfl) (Nat.le_of_ble_eq_true rfl) O9 G hcz S9 SE) (by rfl)) (hw _ (List.mem_of_getElem? (i := 212) rfl)) (hw _ (List.mem_of_getElem? (i := 213) rfl)) (notFace_of_selects (args := #[]) (mvT W60.wZ (hw _ (List.mem_of_getElem? (i := 215) rfl)))) (hw _ (List.mem_of_getElem? (i := 215) rfl)) (hw _ (List.mem_of_getElem? (i := 214) rfl)) (hw _ (List.mem_of_getElem? (i := 2) rfl)) (hw _ (List.mem_of_getElem? (i := 216) rfl)) (by decide) 0 (by decide) (by decide) (by decide) (by decide) (a := gs) Ex9 (argsL := [(.ref sE)]) (rest := []) pd_34 rfl rfl rfl rfl rfl at_416 ?_
    rintro T61 h61 l61 _ W61 ⟨rfl, rfl⟩
    exact x_rN W61 rfl (by simp) (z' := (1 : Int32)) (by rfl) at_419 (by decide) (by decide) (fun vm' hvm' => rfl)
  · refine w_iconst W0 (z := (1 : Int32)) at_30 (by rfl) ?_
    refine w_goto W0 (pc' := 35) at_31 (by decide) ?_
    refine w_istore W0 (L' := #[.val (.int ra), .val (.int rb), .val (.int rc), .val (.int rf), .val (.int ca), .val (.int cb), .val (.int cc), .val (.int (1 : Int32)), .unset, .unset, .unset, .unset, .unset, .unset, .unset]) at_35 rfl ?_
    obtain ⟨nca, qca⟩ := own_byteN hca
    obtain ⟨ncb, qcb⟩ := own_byteN hcb
    obtain ⟨ncc, qcc⟩ := own_byteN hcc
    refine w_new W0 (hw _ (List.mem_of_getElem? (i := 0) rfl)) (hw _ (List.mem_of_getElem? (i := 1) rfl)) (hw _ (List.mem_of_getElem? (i := 2) rfl)) at_37 (by decide) (by decide) ?_
    intro T62 h62 sI W62 E62 g62 A62 D62
    have EI := E62
    have hsI : h0.size ≤ sI := Nat.le_of_eq g62.symm
    have FvI := (D62 (Or.inr (hw _ (List.mem_of_getElem? (i := 29) rfl))) (ty := (.array .byte)) (by decide) : Fld Z h62 _ "java/lang/String" "value" "[B" .null)
    have FcI := (D62 (Or.inr (hw _ (List.mem_of_getElem? (i := 27) rfl))) (ty := .byte) (by decide) : Fld Z h62 _ "java/lang/String" "coder" "B" (.int 0))
    have AI := A62
    refine w_dup W62 at_40 rfl ?_
    refine w_iconst W62 (z := (2 : Int32)) at_41 (by rfl) ?_
    refine w_newarr W62 (ty := .char) (dv := (.int 0)) (hw _ (List.mem_of_getElem? (i := 3) rfl)) rfl rfl at_42 (by decide) 2 (by decide) (by decide) (by decide) (by decide) ?_
    intro T63 h63 aI k63 W63 E63 g63 V63
    have g_aI : n0 ≤ aI := by rw [g63]; exact own_oldle (O.ext EI)
    have V_aI_0 : Arv Z h63 aI k63 .char (Int32.ofNat 2) ([(0 : Int32), (0 : Int32)].map Value.int) (.int 0) := V63.pad (pad_rep [] (.int 0) 2)
    refine w_dup W63 at_44 rfl ?_
    refine w_iconst W63 (z := (0 : Int32)) at_45 (by rfl) ?_
    refine w_iload W63 at_46 rfl ?_
    refine w_castore W63 V_aI_0 ⟨by decide, by decide⟩ 0 (by decide) (Nat.le_of_ble_eq_true rfl) (x' := ca) (qca) g_aI at_48 ?_
    intro T64 h64 l64 W64 Wr64 V64
    have V_aI_1 : Arv Z h64 aI k63 .char (Int32.ofNat 2) ([ca, (0 : Int32)].map Value.int) (.int 0) := V64
    have X64 := own_extWr E63 Wr64 (Nat.le_of_eq g63.symm)
    refine w_dup W64 at_49 rfl ?_
    refine w_iconst W64 (z := (1 : Int32)) at_50 (by rfl) ?_
    refine w_iload W64 at_51 rfl ?_
    refine w_castore W64 V_aI_1 ⟨by decide, by decide⟩ 1 (by decide) (Nat.le_of_ble_eq_true rfl) (x' := cb) (qcb) g_aI at_53 ?_
    intro T65 h65 l65 W65 Wr65 V65
    have V_aI_2 : Arv Z h65 aI k63 .char (Int32.ofNat 2) ([ca, cb].map Value.int) (.int 0) := V65
    have X65 := own_extWr X64 Wr65 (Nat.le_of_eq g63.symm)
    have XI := own_extTrans EI X65
    refine w_special W65 (ctS1 l Z a0 hw cz sI aI _ [ca, cb] _ n0 (Nat.le_of_ble_eq_true rfl) (own_allc nca (own_allc ncb own_alln)) (Nat.le_of_ble_eq_true rfl) (O.ext XI) G hcz (AI.ext X65) (FvI.ext X65) (FcI.ext X65) (Nat.le_trans (own_oldle O) hsI) V_aI_2) rfl (hw _ (List.mem_of_getElem? (i := 4) rfl)) (hw _ (List.mem_of_getElem? (i := 5) rfl)) (hw _ (List.mem_of_getElem? (i := 2) rfl)) (hw _ (List.mem_of_getElem? (i := 6) rfl)) (by decide) 1 (by decide) (by decide) (by decide) (by decide) (a := sI) (argsL := [(.ref aI)]) (rest := [(.ref sI)]) pd_31 rfl rfl rfl rfl rfl at_54 ?_
    rintro T66 h66 l66 _ W66 ⟨rfl, KI, SI⟩
    have YI := own_extKeep XI KI (allS hsI all0)
    refine w_astore W66 (L' := #[.val (.int ra), .val (.int rb), .val (.int rc), .val (.int rf), .val (.int ca), .val (.int cb), .val (.int cc), .val (.int (1 : Int32)), .val (.ref sI), .unset, .unset, .unset, .unset, .unset, .unset]) at_57 rfl rfl ?_
    refine w_iload W66 at_59 rfl ?_
    refine w_callS W66 (ctVo l Z a0 hw cz cc _ n0 ncc (O.ext YI) G hcz) (hw _ (List.mem_of_getElem? (i := 30) rfl)) (hw _ (List.mem_of_getElem? (i := 31) rfl)) (hw _ (List.mem_of_getElem? (i := 2) rfl)) (hw _ (List.mem_of_getElem? (i := 32) rfl)) (by decide) 0 (by decide) (by decide) (by decide) (by decide) (argsL := [(.int cc)]) (rest := []) pd_32 rfl rfl rfl rfl rfl at_61 ?_
    rintro T67 h67 l67 _ W67 ⟨sF, rfl, EF, hsF, SF⟩
    have SI1 := SI.ext EF
    have Y1 := own_extTrans YI EF
    have O1 := O.ext Y1
    refine w_astore W67 (L' := #[.val (.int ra), .val (.int rb), .val (.int rc), .val (.int rf), .val (.int ca), .val (.int cb), .val (.int cc), .val (.int (1 : Int32)), .val (.ref sI), .val (.ref sF), .unset, .unset, .unset, .unset, .unset]) at_64 rfl rfl ?_
    refine w_bipush W67 (z := (15 : Int32)) at_66 (by rfl) ?_
    refine w_newarr W67 (ty := .char) (dv := (.int 0)) (hw _ (List.mem_of_getElem? (i := 3) rfl)) rfl rfl at_68 (by decide) 15 (by decide) (by decide) (by decide) (by decide) ?_
    intro T68 h68 a1 k68 W68 E68 g68 V68
    have g_a1 : n0 ≤ a1 := by rw [g68]; exact own_oldle O1
    have V_a1_0 : Arv Z h68 a1 k68 .char (Int32.ofNat 15) ([(0 : Int32), (0 : Int32), (0 : Int32), (0 : Int32), (0 : Int32), (0 : Int32), (0 : Int32), (0 : Int32), (0 : Int32), (0 : Int32), (0 : Int32), (0 : Int32), (0 : Int32), (0 : Int32), (0 : Int32)].map Value.int) (.int 0) := V68.pad (pad_rep [] (.int 0) 15)
    refine w_dup W68 at_70 rfl ?_
    refine w_iconst W68 (z := (0 : Int32)) at_71 (by rfl) ?_
    refine w_bipush W68 (z := (116 : Int32)) at_72 (by rfl) ?_
    refine w_castore W68 V_a1_0 ⟨by decide, by decide⟩ 0 (by decide) (Nat.le_of_ble_eq_true rfl) (x' := (116 : Int32)) (by rfl) g_a1 at_74 ?_
    intro T69 h69 l69 W69 Wr69 V69
    have V_a1_1 : Arv Z h69 a1 k68 .char (Int32.ofNat 15) ([(116 : Int32), (0 : Int32), (0 : Int32), (0 : Int32), (0 : Int32), (0 : Int32), (0 : Int32), (0 : Int32), (0 : Int32), (0 : Int32), (0 : Int32), (0 : Int32), (0 : Int32), (0 : Int32), (0 : Int32)].map Value.int) (.int 0) := V69
    have X69 := own_extWr E68 Wr69 (Nat.le_of_eq g68.symm)
    refine w_dup W69 at_75 rfl ?_
    refine w_iconst W69 (z := (1 : Int32)) at_76 (by rfl) ?_
    refine w_bipush W69 (z := (114 : Int32)) at_77 (by rfl) ?_
    refine w_castore W69 V_a1_1 ⟨by decide, by decide⟩ 1 (by decide) (Nat.le_of_ble_eq_true rfl) (x' := (114 : Int32)) (by rfl) g_a1 at_79 ?_
    intro T70 h70 l70 W70 Wr70 V70
    have V_a1_2 : Arv Z h70 a1 k68 .char (Int32.ofNat 15) ([(116 : Int32), (114 : Int32), (0 : Int32), (0 : Int32), (0 : Int32), (0 : Int32), (0 : Int32), (0 : Int32), (0 : Int32), (0 : Int32), (0 : Int32), (0 : Int32), (0 : Int32), (0 : Int32), (0 : Int32)].map Value.int) (.int 0) := V70
    have X70 := own_extWr X69 Wr70 (Nat.le_of_eq g68.symm)
    refine w_dup W70 at_80 rfl ?_
    refine w_iconst W70 (z := (2 : Int32)) at_81 (by rfl) ?_
    refine w_bipush W70 (z := (97 : Int32)) at_82 (by rfl) ?_
    refine w_castore W70 V_a1_2 ⟨by decide, by decide⟩ 2 (by decide) (Nat.le_of_ble_eq_true rfl) (x' := (97 : Int32)) (by rfl) g_a1 at_84 ?_
    intro T71 h71 l71 W71 Wr71 V71
    have V_a1_3 : Arv Z h71 a1 k68 .char (Int32.ofNat 15) ([(116 : Int32), (114 : Int32), (97 : Int32), (0 : Int32), (0 : Int32), (0 : Int32), (0 : Int32), (0 : Int32), (0 : Int32), (0 : Int32), (0 : Int32), (0 : Int32), (0 : Int32), (0 : Int32), (0 : Int32)].map Value.int) (.int 0) := V71
    have X71 := own_extWr X70 Wr71 (Nat.le_of_eq g68.symm)
    refine w_dup W71 at_85 rfl ?_
    refine w_iconst W71 (z := (3 : Int32)) at_86 (by rfl) ?_
    refine w_bipush W71 (z := (99 : Int32)) at_87 (by rfl) ?_
    refine w_castore W71 V_a1_3 ⟨by decide, by decide⟩ 3 (by decide) (Nat.le_of_ble_eq_true rfl) (x' := (99 : Int32)) (by rfl) g_a1 at_89 ?_
    intro T72 h72 l72 W72 Wr72 V72
    have V_a1_4 : Arv Z h72 a1 k68 .char (Int32.ofNat 15) ([(116 : Int32), (114 : Int32), (97 : Int32), (99 : Int32), (0 : Int32), (0 : Int32), (0 : Int32), (0 : Int32), (0 : Int32), (0 : Int32), (0 : Int32), (0 : Int32), (0 : Int32), (0 : Int32), (0 : Int32)].map Value.int) (.int 0) := V72
    have X72 := own_extWr X71 Wr72 (Nat.le_of_eq g68.symm)
    refine w_dup W72 at_90 rfl ?_
    refine w_iconst W72 (z := (4 : Int32)) at_91 (by rfl) ?_
    refine w_bipush W72 (z := (101 : Int32)) at_92 (by rfl) ?_
    refine w_castore W72 V_a1_4 ⟨by decide, by decide⟩ 4 (by decide) (Nat.le_of_ble_eq_true rfl) (x' := (101 : Int32)) (by rfl) g_a1 at_94 ?_
    intro T73 h73 l73 W73 Wr73 V73
    have V_a1_5 : Arv Z h73 a1 k68 .char (Int32.ofNat 15) ([(116 : Int32), (114 : Int32), (97 : Int32), (99 : Int32), (101 : Int32), (0 : Int32), (0 : Int32), (0 : Int32), (0 : Int32), (0 : Int32), (0 : Int32), (0 : Int32), (0 : Int32), (0 : Int32), (0 : Int32)].map Value.int) (.int 0) := V73
    have X73 := own_extWr X72 Wr73 (Nat.le_of_eq g68.symm)
    refine w_dup W73 at_95 rfl ?_
    refine w_iconst W73 (z := (5 : Int32)) at_96 (by rfl) ?_
    refine w_bipush W73 (z := (59 : Int32)) at_97 (by rfl) ?_
    refine w_castore W73 V_a1_5 ⟨by decide, by decide⟩ 5 (by decide) (Nat.le_of_ble_eq_true rfl) (x' := (59 : Int32)) (by rfl) g_a1 at_99 ?_
    intro T74 h74 l74 W74 Wr74 V74
    have V_a1_6 : Arv Z h74 a1 k68 .char (Int32.ofNat 15) ([(116 : Int32), (114 : Int32), (97 : Int32), (99 : Int32), (101 : Int32), (59 : Int32), (0 : Int32), (0 : Int32), (0 : Int32), (0 : Int32), (0 : Int32), (0 : Int32), (0 : Int32), (0 : Int32), (0 : Int32)].map Value.int) (.int 0) := V74
    have X74 := own_extWr X73 Wr74 (Nat.le_of_eq g68.symm)
    refine w_dup W74 at_100 rfl ?_
    refine w_bipush W74 (z := (6 : Int32)) at_101 (by rfl) ?_
    refine w_bipush W74 (z := (100 : Int32)) at_103 (by rfl) ?_
    refine w_castore W74 V_a1_6 ⟨by decide, by decide⟩ 6 (by decide) (Nat.le_of_ble_eq_true rfl) (x' := (100 : Int32)) (by rfl) g_a1 at_105 ?_
    intro T75 h75 l75 W75 Wr75 V75
    have V_a1_7 : Arv Z h75 a1 k68 .char (Int32.ofNat 15) ([(116 : Int32), (114 : Int32), (97 : Int32), (99 : Int32), (101 : Int32), (59 : Int32), (100 : Int32), (0 : Int32), (0 : Int32), (0 : Int32), (0 : Int32), (0 : Int32), (0 : Int32), (0 : Int32), (0 : Int32)].map Value.int) (.int 0) := V75
    have X75 := own_extWr X74 Wr75 (Nat.le_of_eq g68.symm)
    refine w_dup W75 at_106 rfl ?_
    refine w_bipush W75 (z := (7 : Int32)) at_107 (by rfl) ?_
    refine w_bipush W75 (z := (101 : Int32)) at_109 (by rfl) ?_
    refine w_castore W75 V_a1_7 ⟨by decide, by decide⟩ 7 (by decide) (Nat.le_of_ble_eq_true rfl) (x' := (101 : Int32)) (by rfl) g_a1 at_111 ?_
    intro T76 h76 l76 W76 Wr76 V76
    have V_a1_8 : Arv Z h76 a1 k68 .char (Int32.ofNat 15) ([(116 : Int32), (114 : Int32), (97 : Int32), (99 : Int32), (101 : Int32), (59 : Int32), (100 : Int32), (101 : Int32), (0 : Int32), (0 : Int32), (0 : Int32), (0 : Int32), (0 : Int32), (0 : Int32), (0 : Int32)].map Value.int) (.int 0) := V76
    have X76 := own_extWr X75 Wr76 (Nat.le_of_eq g68.symm)
    refine w_dup W76 at_112 rfl ?_
    refine w_bipush W76 (z := (8 : Int32)) at_113 (by rfl) ?_
    refine w_bipush W76 (z := (115 : Int32)) at_115 (by rfl) ?_
    refine w_castore W76 V_a1_8 ⟨by decide, by decide⟩ 8 (by decide) (Nat.le_of_ble_eq_true rfl) (x' := (115 : Int32)) (by rfl) g_a1 at_117 ?_
    intro T77 h77 l77 W77 Wr77 V77
    have V_a1_9 : Arv Z h77 a1 k68 .char (Int32.ofNat 15) ([(116 : Int32), (114 : Int32), (97 : Int32), (99 : Int32), (101 : Int32), (59 : Int32), (100 : Int32), (101 : Int32), (115 : Int32), (0 : Int32), (0 : Int32), (0 : Int32), (0 : Int32), (0 : Int32), (0 : Int32)].map Value.int) (.int 0) := V77
    have X77 := own_extWr X76 Wr77 (Nat.le_of_eq g68.symm)
    refine w_dup W77 at_118 rfl ?_
    refine w_bipush W77 (z := (9 : Int32)) at_119 (by rfl) ?_
    refine w_bipush W77 (z := (99 : Int32)) at_121 (by rfl) ?_
    refine w_castore W77 V_a1_9 ⟨by decide, by decide⟩ 9 (by decide) (Nat.le_of_ble_eq_true rfl) (x' := (99 : Int32)) (by rfl) g_a1 at_123 ?_
    intro T78 h78 l78 W78 Wr78 V78
    have V_a1_10 : Arv Z h78 a1 k68 .char (Int32.ofNat 15) ([(116 : Int32), (114 : Int32), (97 : Int32), (99 : Int32), (101 : Int32), (59 : Int32), (100 : Int32), (101 : Int32), (115 : Int32), (99 : Int32), (0 : Int32), (0 : Int32), (0 : Int32), (0 : Int32), (0 : Int32)].map Value.int) (.int 0) := V78
    have X78 := own_extWr X77 Wr78 (Nat.le_of_eq g68.symm)
    refine w_dup W78 at_124 rfl ?_
    refine w_bipush W78 (z := (10 : Int32)) at_125 (by rfl) ?_
    refine w_bipush W78 (z := (61 : Int32)) at_127 (by rfl) ?_
    refine w_castore W78 V_a1_10 ⟨by decide, by decide⟩ 10 (by decide) (Nat.le_of_ble_eq_true rfl) (x' := (61 : Int32)) (by rfl) g_a1 at_129 ?_
    intro T79 h79 l79 W79 Wr79 V79
    have V_a1_11 : Arv Z h79 a1 k68 .char (Int32.ofNat 15) ([(116 : Int32), (114 : Int32), (97 : Int32), (99 : Int32), (101 : Int32), (59 : Int32), (100 : Int32), (101 : Int32), (115 : Int32), (99 : Int32), (61 : Int32), (0 : Int32), (0 : Int32), (0 : Int32), (0 : Int32)].map Value.int) (.int 0) := V79
    have X79 := own_extWr X78 Wr79 (Nat.le_of_eq g68.symm)
    refine w_dup W79 at_130 rfl ?_
    refine w_bipush W79 (z := (11 : Int32)) at_131 (by rfl) ?_
    refine w_bipush W79 (z := (34 : Int32)) at_133 (by rfl) ?_
    refine w_castore W79 V_a1_11 ⟨by decide, by decide⟩ 11 (by decide) (Nat.le_of_ble_eq_true rfl) (x' := (34 : Int32)) (by rfl) g_a1 at_135 ?_
    intro T80 h80 l80 W80 Wr80 V80
    have V_a1_12 : Arv Z h80 a1 k68 .char (Int32.ofNat 15) ([(116 : Int32), (114 : Int32), (97 : Int32), (99 : Int32), (101 : Int32), (59 : Int32), (100 : Int32), (101 : Int32), (115 : Int32), (99 : Int32), (61 : Int32), (34 : Int32), (0 : Int32), (0 : Int32), (0 : Int32)].map Value.int) (.int 0) := V80
    have X80 := own_extWr X79 Wr80 (Nat.le_of_eq g68.symm)
    refine w_dup W80 at_136 rfl ?_
    refine w_bipush W80 (z := (12 : Int32)) at_137 (by rfl) ?_
    refine w_iload W80 at_139 rfl ?_
    refine w_castore W80 V_a1_12 ⟨by decide, by decide⟩ 12 (by decide) (Nat.le_of_ble_eq_true rfl) (x' := ca) (qca) g_a1 at_141 ?_
    intro T81 h81 l81 W81 Wr81 V81
    have V_a1_13 : Arv Z h81 a1 k68 .char (Int32.ofNat 15) ([(116 : Int32), (114 : Int32), (97 : Int32), (99 : Int32), (101 : Int32), (59 : Int32), (100 : Int32), (101 : Int32), (115 : Int32), (99 : Int32), (61 : Int32), (34 : Int32), ca, (0 : Int32), (0 : Int32)].map Value.int) (.int 0) := V81
    have X81 := own_extWr X80 Wr81 (Nat.le_of_eq g68.symm)
    refine w_dup W81 at_142 rfl ?_
    refine w_bipush W81 (z := (13 : Int32)) at_143 (by rfl) ?_
    refine w_iload W81 at_145 rfl ?_
    refine w_castore W81 V_a1_13 ⟨by decide, by decide⟩ 13 (by decide) (Nat.le_of_ble_eq_true rfl) (x' := cb) (qcb) g_a1 at_147 ?_
    intro T82 h82 l82 W82 Wr82 V82
    have V_a1_14 : Arv Z h82 a1 k68 .char (Int32.ofNat 15) ([(116 : Int32), (114 : Int32), (97 : Int32), (99 : Int32), (101 : Int32), (59 : Int32), (100 : Int32), (101 : Int32), (115 : Int32), (99 : Int32), (61 : Int32), (34 : Int32), ca, cb, (0 : Int32)].map Value.int) (.int 0) := V82
    have X82 := own_extWr X81 Wr82 (Nat.le_of_eq g68.symm)
    refine w_dup W82 at_148 rfl ?_
    refine w_bipush W82 (z := (14 : Int32)) at_149 (by rfl) ?_
    refine w_bipush W82 (z := (34 : Int32)) at_151 (by rfl) ?_
    refine w_castore W82 V_a1_14 ⟨by decide, by decide⟩ 14 (by decide) (Nat.le_of_ble_eq_true rfl) (x' := (34 : Int32)) (by rfl) g_a1 at_153 ?_
    intro T83 h83 l83 W83 Wr83 V83
    have V_a1_15 : Arv Z h83 a1 k68 .char (Int32.ofNat 15) ([(116 : Int32), (114 : Int32), (97 : Int32), (99 : Int32), (101 : Int32), (59 : Int32), (100 : Int32), (101 : Int32), (115 : Int32), (99 : Int32), (61 : Int32), (34 : Int32), ca, cb, (34 : Int32)].map Value.int) (.int 0) := V83
    have X83 := own_extWr X82 Wr83 (Nat.le_of_eq g68.symm)
    refine w_astore W83 (L' := #[.val (.int ra), .val (.int rb), .val (.int rc), .val (.int rf), .val (.int ca), .val (.int cb), .val (.int cc), .val (.int (1 : Int32)), .val (.ref sI), .val (.ref sF), .val (.ref a1), .unset, .unset, .unset, .unset]) at_154 rfl rfl ?_
    have C1 := V_a1_15
    have X1 := X83
    have O2 := O1.ext X1
    refine w_bipush W83 (z := (31 : Int32)) at_156 (by rfl) ?_
    refine w_newarr W83 (ty := .char) (dv := (.int 0)) (hw _ (List.mem_of_getElem? (i := 3) rfl)) rfl rfl at_158 (by decide) 31 (by decide) (by decide) (by decide) (by decide) ?_
    intro T84 h84 a2 k84 W84 E84 g84 V84
    have g_a2 : n0 ≤ a2 := by rw [g84]; exact own_oldle O2
    have V_a2_0 : Arv Z h84 a2 k84 .char (Int32.ofNat 31) ([(0 : Int32), (0 : Int32), (0 : Int32), (0 : Int32), (0 : Int32), (0 : Int32), (0 : Int32), (0 : Int32), (0 : Int32), (0 : Int32), (0 : Int32), (0 : Int32), (0 : Int32), (0 : Int32), (0 : Int32), (0 : Int32), (0 : Int32), (0 : Int32), (0 : Int32), (0 : Int32), (0 : Int32), (0 : Int32), (0 : Int32), (0 : Int32), (0 : Int32), (0 : Int32), (0 : Int32), (0 : Int32), (0 : Int32), (0 : Int32), (0 : Int32)].map Value.int) (.int 0) := V84.pad (pad_rep [] (.int 0) 31)
    refine w_dup W84 at_160 rfl ?_
    refine w_iconst W84 (z := (0 : Int32)) at_161 (by rfl) ?_
    refine w_bipush W84 (z := (116 : Int32)) at_162 (by rfl) ?_
    refine w_castore W84 V_a2_0 ⟨by decide, by decide⟩ 0 (by decide) (Nat.le_of_ble_eq_true rfl) (x' := (116 : Int32)) (by rfl) g_a2 at_164 ?_
    intro T85 h85 l85 W85 Wr85 V85
    have V_a2_1 : Arv Z h85 a2 k84 .char (Int32.ofNat 31) ([(116 : Int32), (0 : Int32), (0 : Int32), (0 : Int32), (0 : Int32), (0 : Int32), (0 : Int32), (0 : Int32), (0 : Int32), (0 : Int32), (0 : Int32), (0 : Int32), (0 : Int32), (0 : Int32), (0 : Int32), (0 : Int32), (0 : Int32), (0 : Int32), (0 : Int32), (0 : Int32), (0 : Int32), (0 : Int32), (0 : Int32), (0 : Int32), (0 : Int32), (0 : Int32), (0 : Int32), (0 : Int32), (0 : Int32), (0 : Int32), (0 : Int32)].map Value.int) (.int 0) := V85
    have X85 := own_extWr E84 Wr85 (Nat.le_of_eq g84.symm)
    refine w_dup W85 at_165 rfl ?_
    refine w_iconst W85 (z := (1 : Int32)) at_166 (by rfl) ?_
    refine w_bipush W85 (z := (114 : Int32)) at_167 (by rfl) ?_
    refine w_castore W85 V_a2_1 ⟨by decide, by decide⟩ 1 (by decide) (Nat.le_of_ble_eq_true rfl) (x' := (114 : Int32)) (by rfl) g_a2 at_169 ?_
    intro T86 h86 l86 W86 Wr86 V86
    have V_a2_2 : Arv Z h86 a2 k84 .char (Int32.ofNat 31) ([(116 : Int32), (114 : Int32), (0 : Int32), (0 : Int32), (0 : Int32), (0 : Int32), (0 : Int32), (0 : Int32), (0 : Int32), (0 : Int32), (0 : Int32), (0 : Int32), (0 : Int32), (0 : Int32), (0 : Int32), (0 : Int32), (0 : Int32), (0 : Int32), (0 : Int32), (0 : Int32), (0 : Int32), (0 : Int32), (0 : Int32), (0 : Int32), (0 : Int32), (0 : Int32), (0 : Int32), (0 : Int32), (0 : Int32), (0 : Int32), (0 : Int32)].map Value.int) (.int 0) := V86
    have X86 := own_extWr X85 Wr86 (Nat.le_of_eq g84.symm)
    refine w_dup W86 at_170 rfl ?_
    refine w_iconst W86 (z := (2 : Int32)) at_171 (by rfl) ?_
    refine w_bipush W86 (z := (97 : Int32)) at_172 (by rfl) ?_
    refine w_castore W86 V_a2_2 ⟨by decide, by decide⟩ 2 (by decide) (Nat.le_of_ble_eq_true rfl) (x' := (97 : Int32)) (by rfl) g_a2 at_174 ?_
    intro T87 h87 l87 W87 Wr87 V87
    have V_a2_3 : Arv Z h87 a2 k84 .char (Int32.ofNat 31) ([(116 : Int32), (114 : Int32), (97 : Int32), (0 : Int32), (0 : Int32), (0 : Int32), (0 : Int32), (0 : Int32), (0 : Int32), (0 : Int32), (0 : Int32), (0 : Int32), (0 : Int32), (0 : Int32), (0 : Int32), (0 : Int32), (0 : Int32), (0 : Int32), (0 : Int32), (0 : Int32), (0 : Int32), (0 : Int32), (0 : Int32), (0 : Int32), (0 : Int32), (0 : Int32), (0 : Int32), (0 : Int32), (0 : Int32), (0 : Int32), (0 : Int32)].map Value.int) (.int 0) := V87
    have X87 := own_extWr X86 Wr87 (Nat.le_of_eq g84.symm)
    refine w_dup W87 at_175 rfl ?_
    refine w_iconst W87 (z := (3 : Int32)) at_176 (by rfl) ?_
    refine w_bipush W87 (z := (99 : Int32)) at_177 (by rfl) ?_
    refine w_castore W87 V_a2_3 ⟨by decide, by decide⟩ 3 (by decide) (Nat.le_of_ble_eq_true rfl) (x' := (99 : Int32)) (by rfl) g_a2 at_179 ?_
    intro T88 h88 l88 W88 Wr88 V88
    have V_a2_4 : Arv Z h88 a2 k84 .char (Int32.ofNat 31) ([(116 : Int32), (114 : Int32), (97 : Int32), (99 : Int32), (0 : Int32), (0 : Int32), (0 : Int32), (0 : Int32), (0 : Int32), (0 : Int32), (0 : Int32), (0 : Int32), (0 : Int32), (0 : Int32), (0 : Int32), (0 : Int32), (0 : Int32), (0 : Int32), (0 : Int32), (0 : Int32), (0 : Int32), (0 : Int32), (0 : Int32), (0 : Int32), (0 : Int32), (0 : Int32), (0 : Int32), (0 : Int32), (0 : Int32), (0 : Int32), (0 : Int32)].map Value.int) (.int 0) := V88
    have X88 := own_extWr X87 Wr88 (Nat.le_of_eq g84.symm)
    refine w_dup W88 at_180 rfl ?_
    refine w_iconst W88 (z := (4 : Int32)) at_181 (by rfl) ?_
    refine w_bipush W88 (z := (101 : Int32)) at_182 (by rfl) ?_
    refine w_castore W88 V_a2_4 ⟨by decide, by decide⟩ 4 (by decide) (Nat.le_of_ble_eq_true rfl) (x' := (101 : Int32)) (by rfl) g_a2 at_184 ?_
    intro T89 h89 l89 W89 Wr89 V89
    have V_a2_5 : Arv Z h89 a2 k84 .char (Int32.ofNat 31) ([(116 : Int32), (114 : Int32), (97 : Int32), (99 : Int32), (101 : Int32), (0 : Int32), (0 : Int32), (0 : Int32), (0 : Int32), (0 : Int32), (0 : Int32), (0 : Int32), (0 : Int32), (0 : Int32), (0 : Int32), (0 : Int32), (0 : Int32), (0 : Int32), (0 : Int32), (0 : Int32), (0 : Int32), (0 : Int32), (0 : Int32), (0 : Int32), (0 : Int32), (0 : Int32), (0 : Int32), (0 : Int32), (0 : Int32), (0 : Int32), (0 : Int32)].map Value.int) (.int 0) := V89
    have X89 := own_extWr X88 Wr89 (Nat.le_of_eq g84.symm)
    refine w_dup W89 at_185 rfl ?_
    refine w_iconst W89 (z := (5 : Int32)) at_186 (by rfl) ?_
    refine w_bipush W89 (z := (59 : Int32)) at_187 (by rfl) ?_
    refine w_castore W89 V_a2_5 ⟨by decide, by decide⟩ 5 (by decide) (Nat.le_of_ble_eq_true rfl) (x' := (59 : Int32)) (by rfl) g_a2 at_189 ?_
    intro T90 h90 l90 W90 Wr90 V90
    have V_a2_6 : Arv Z h90 a2 k84 .char (Int32.ofNat 31) ([(116 : Int32), (114 : Int32), (97 : Int32), (99 : Int32), (101 : Int32), (59 : Int32), (0 : Int32), (0 : Int32), (0 : Int32), (0 : Int32), (0 : Int32), (0 : Int32), (0 : Int32), (0 : Int32), (0 : Int32), (0 : Int32), (0 : Int32), (0 : Int32), (0 : Int32), (0 : Int32), (0 : Int32), (0 : Int32), (0 : Int32), (0 : Int32), (0 : Int32), (0 : Int32), (0 : Int32), (0 : Int32), (0 : Int32), (0 : Int32), (0 : Int32)].map Value.int) (.int 0) := V90
    have X90 := own_extWr X89 Wr90 (Nat.le_of_eq g84.symm)
    refine w_dup W90 at_190 rfl ?_
    refine w_bipush W90 (z := (6 : Int32)) at_191 (by rfl) ?_
    refine w_bipush W90 (z := (100 : Int32)) at_193 (by rfl) ?_
    refine w_castore W90 V_a2_6 ⟨by decide, by decide⟩ 6 (by decide) (Nat.le_of_ble_eq_true rfl) (x' := (100 : Int32)) (by rfl) g_a2 at_195 ?_
    intro T91 h91 l91 W91 Wr91 V91
    have V_a2_7 : Arv Z h91 a2 k84 .char (Int32.ofNat 31) ([(116 : Int32), (114 : Int32), (97 : Int32), (99 : Int32), (101 : Int32), (59 : Int32), (100 : Int32), (0 : Int32), (0 : Int32), (0 : Int32), (0 : Int32), (0 : Int32), (0 : Int32), (0 : Int32), (0 : Int32), (0 : Int32), (0 : Int32), (0 : Int32), (0 : Int32), (0 : Int32), (0 : Int32), (0 : Int32), (0 : Int32), (0 : Int32), (0 : Int32), (0 : Int32), (0 : Int32), (0 : Int32), (0 : Int32), (0 : Int32), (0 : Int32)].map Value.int) (.int 0) := V91
    have X91 := own_extWr X90 Wr91 (Nat.le_of_eq g84.symm)
    refine w_dup W91 at_196 rfl ?_
    refine w_bipush W91 (z := (7 : Int32)) at_197 (by rfl) ?_
    refine w_bipush W91 (z := (101 : Int32)) at_199 (by rfl) ?_
    refine w_castore W91 V_a2_7 ⟨by decide, by decide⟩ 7 (by decide) (Nat.le_of_ble_eq_true rfl) (x' := (101 : Int32)) (by rfl) g_a2 at_201 ?_
    intro T92 h92 l92 W92 Wr92 V92
    have V_a2_8 : Arv Z h92 a2 k84 .char (Int32.ofNat 31) ([(116 : Int32), (114 : Int32), (97 : Int32), (99 : Int32), (101 : Int32), (59 : Int32), (100 : Int32), (101 : Int32), (0 : Int32), (0 : Int32), (0 : Int32), (0 : Int32), (0 : Int32), (0 : Int32), (0 : Int32), (0 : Int32), (0 : Int32), (0 : Int32), (0 : Int32), (0 : Int32), (0 : Int32), (0 : Int32), (0 : Int32), (0 : Int32), (0 : Int32), (0 : Int32), (0 : Int32), (0 : Int32), (0 : Int32), (0 : Int32), (0 : Int32)].map Value.int) (.int 0) := V92
    have X92 := own_extWr X91 Wr92 (Nat.le_of_eq g84.symm)
    refine w_dup W92 at_202 rfl ?_
    refine w_bipush W92 (z := (8 : Int32)) at_203 (by rfl) ?_
    refine w_bipush W92 (z := (115 : Int32)) at_205 (by rfl) ?_
    refine w_castore W92 V_a2_8 ⟨by decide, by decide⟩ 8 (by decide) (Nat.le_of_ble_eq_true rfl) (x' := (115 : Int32)) (by rfl) g_a2 at_207 ?_
    intro T93 h93 l93 W93 Wr93 V93
    have V_a2_9 : Arv Z h93 a2 k84 .char (Int32.ofNat 31) ([(116 : Int32), (114 : Int32), (97 : Int32), (99 : Int32), (101 : Int32), (59 : Int32), (100 : Int32), (101 : Int32), (115 : Int32), (0 : Int32), (0 : Int32), (0 : Int32), (0 : Int32), (0 : Int32), (0 : Int32), (0 : Int32), (0 : Int32), (0 : Int32), (0 : Int32), (0 : Int32), (0 : Int32), (0 : Int32), (0 : Int32), (0 : Int32), (0 : Int32), (0 : Int32), (0 : Int32), (0 : Int32), (0 : Int32), (0 : Int32), (0 : Int32)].map Value.int) (.int 0) := V93
    have X93 := own_extWr X92 Wr93 (Nat.le_of_eq g84.symm)
    refine w_dup W93 at_208 rfl ?_
    refine w_bipush W93 (z := (9 : Int32)) at_209 (by rfl) ?_
    refine w_bipush W93 (z := (99 : Int32)) at_211 (by rfl) ?_
    refine w_castore W93 V_a2_9 ⟨by decide, by decide⟩ 9 (by decide) (Nat.le_of_ble_eq_true rfl) (x' := (99 : Int32)) (by rfl) g_a2 at_213 ?_
    intro T94 h94 l94 W94 Wr94 V94
    have V_a2_10 : Arv Z h94 a2 k84 .char (Int32.ofNat 31) ([(116 : Int32), (114 : Int32), (97 : Int32), (99 : Int32), (101 : Int32), (59 : Int32), (100 : Int32), (101 : Int32), (115 : Int32), (99 : Int32), (0 : Int32), (0 : Int32), (0 : Int32), (0 : Int32), (0 : Int32), (0 : Int32), (0 : Int32), (0 : Int32), (0 : Int32), (0 : Int32), (0 : Int32), (0 : Int32), (0 : Int32), (0 : Int32), (0 : Int32), (0 : Int32), (0 : Int32), (0 : Int32), (0 : Int32), (0 : Int32), (0 : Int32)].map Value.int) (.int 0) := V94
    have X94 := own_extWr X93 Wr94 (Nat.le_of_eq g84.symm)
    refine w_dup W94 at_214 rfl ?_
    refine w_bipush W94 (z := (10 : Int32)) at_215 (by rfl) ?_
    refine w_bipush W94 (z := (61 : Int32)) at_217 (by rfl) ?_
    refine w_castore W94 V_a2_10 ⟨by decide, by decide⟩ 10 (by decide) (Nat.le_of_ble_eq_true rfl) (x' := (61 : Int32)) (by rfl) g_a2 at_219 ?_
    intro T95 h95 l95 W95 Wr95 V95
    have V_a2_11 : Arv Z h95 a2 k84 .char (Int32.ofNat 31) ([(116 : Int32), (114 : Int32), (97 : Int32), (99 : Int32), (101 : Int32), (59 : Int32), (100 : Int32), (101 : Int32), (115 : Int32), (99 : Int32), (61 : Int32), (0 : Int32), (0 : Int32), (0 : Int32), (0 : Int32), (0 : Int32), (0 : Int32), (0 : Int32), (0 : Int32), (0 : Int32), (0 : Int32), (0 : Int32), (0 : Int32), (0 : Int32), (0 : Int32), (0 : Int32), (0 : Int32), (0 : Int32), (0 : Int32), (0 : Int32), (0 : Int32)].map Value.int) (.int 0) := V95
    have X95 := own_extWr X94 Wr95 (Nat.le_of_eq g84.symm)
    refine w_dup W95 at_220 rfl ?_
    refine w_bipush W95 (z := (11 : Int32)) at_221 (by rfl) ?_
    refine w_bipush W95 (z := (34 : Int32)) at_223 (by rfl) ?_
    refine w_castore W95 V_a2_11 ⟨by decide, by decide⟩ 11 (by decide) (Nat.le_of_ble_eq_true rfl) (x' := (34 : Int32)) (by rfl) g_a2 at_225 ?_
    intro T96 h96 l96 W96 Wr96 V96
    have V_a2_12 : Arv Z h96 a2 k84 .char (Int32.ofNat 31) ([(116 : Int32), (114 : Int32), (97 : Int32), (99 : Int32), (101 : Int32), (59 : Int32), (100 : Int32), (101 : Int32), (115 : Int32), (99 : Int32), (61 : Int32), (34 : Int32), (0 : Int32), (0 : Int32), (0 : Int32), (0 : Int32), (0 : Int32), (0 : Int32), (0 : Int32), (0 : Int32), (0 : Int32), (0 : Int32), (0 : Int32), (0 : Int32), (0 : Int32), (0 : Int32), (0 : Int32), (0 : Int32), (0 : Int32), (0 : Int32), (0 : Int32)].map Value.int) (.int 0) := V96
    have X96 := own_extWr X95 Wr96 (Nat.le_of_eq g84.symm)
    refine w_dup W96 at_226 rfl ?_
    refine w_bipush W96 (z := (12 : Int32)) at_227 (by rfl) ?_
    refine w_iload W96 at_229 rfl ?_
    refine w_castore W96 V_a2_12 ⟨by decide, by decide⟩ 12 (by decide) (Nat.le_of_ble_eq_true rfl) (x' := cc) (qcc) g_a2 at_231 ?_
    intro T97 h97 l97 W97 Wr97 V97
    have V_a2_13 : Arv Z h97 a2 k84 .char (Int32.ofNat 31) ([(116 : Int32), (114 : Int32), (97 : Int32), (99 : Int32), (101 : Int32), (59 : Int32), (100 : Int32), (101 : Int32), (115 : Int32), (99 : Int32), (61 : Int32), (34 : Int32), cc, (0 : Int32), (0 : Int32), (0 : Int32), (0 : Int32), (0 : Int32), (0 : Int32), (0 : Int32), (0 : Int32), (0 : Int32), (0 : Int32), (0 : Int32), (0 : Int32), (0 : Int32), (0 : Int32), (0 : Int32), (0 : Int32), (0 : Int32), (0 : Int32)].map Value.int) (.int 0) := V97
    have X97 := own_extWr X96 Wr97 (Nat.le_of_eq g84.symm)
    refine w_dup W97 at_232 rfl ?_
    refine w_bipush W97 (z := (13 : Int32)) at_233 (by rfl) ?_
    refine w_bipush W97 (z := (34 : Int32)) at_235 (by rfl) ?_
    refine w_castore W97 V_a2_13 ⟨by decide, by decide⟩ 13 (by decide) (Nat.le_of_ble_eq_true rfl) (x' := (34 : Int32)) (by rfl) g_a2 at_237 ?_
    intro T98 h98 l98 W98 Wr98 V98
    have V_a2_14 : Arv Z h98 a2 k84 .char (Int32.ofNat 31) ([(116 : Int32), (114 : Int32), (97 : Int32), (99 : Int32), (101 : Int32), (59 : Int32), (100 : Int32), (101 : Int32), (115 : Int32), (99 : Int32), (61 : Int32), (34 : Int32), cc, (34 : Int32), (0 : Int32), (0 : Int32), (0 : Int32), (0 : Int32), (0 : Int32), (0 : Int32), (0 : Int32), (0 : Int32), (0 : Int32), (0 : Int32), (0 : Int32), (0 : Int32), (0 : Int32), (0 : Int32), (0 : Int32), (0 : Int32), (0 : Int32)].map Value.int) (.int 0) := V98
    have X98 := own_extWr X97 Wr98 (Nat.le_of_eq g84.symm)
    refine w_dup W98 at_238 rfl ?_
    refine w_bipush W98 (z := (14 : Int32)) at_239 (by rfl) ?_
    refine w_bipush W98 (z := (44 : Int32)) at_241 (by rfl) ?_
    refine w_castore W98 V_a2_14 ⟨by decide, by decide⟩ 14 (by decide) (Nat.le_of_ble_eq_true rfl) (x' := (44 : Int32)) (by rfl) g_a2 at_243 ?_
    intro T99 h99 l99 W99 Wr99 V99
    have V_a2_15 : Arv Z h99 a2 k84 .char (Int32.ofNat 31) ([(116 : Int32), (114 : Int32), (97 : Int32), (99 : Int32), (101 : Int32), (59 : Int32), (100 : Int32), (101 : Int32), (115 : Int32), (99 : Int32), (61 : Int32), (34 : Int32), cc, (34 : Int32), (44 : Int32), (0 : Int32), (0 : Int32), (0 : Int32), (0 : Int32), (0 : Int32), (0 : Int32), (0 : Int32), (0 : Int32), (0 : Int32), (0 : Int32), (0 : Int32), (0 : Int32), (0 : Int32), (0 : Int32), (0 : Int32), (0 : Int32)].map Value.int) (.int 0) := V99
    have X99 := own_extWr X98 Wr99 (Nat.le_of_eq g84.symm)
    refine w_dup W99 at_244 rfl ?_
    refine w_bipush W99 (z := (15 : Int32)) at_245 (by rfl) ?_
    refine w_bipush W99 (z := (32 : Int32)) at_247 (by rfl) ?_
    refine w_castore W99 V_a2_15 ⟨by decide, by decide⟩ 15 (by decide) (Nat.le_of_ble_eq_true rfl) (x' := (32 : Int32)) (by rfl) g_a2 at_249 ?_
    intro T100 h100 l100 W100 Wr100 V100
    have V_a2_16 : Arv Z h100 a2 k84 .char (Int32.ofNat 31) ([(116 : Int32), (114 : Int32), (97 : Int32), (99 : Int32), (101 : Int32), (59 : Int32), (100 : Int32), (101 : Int32), (115 : Int32), (99 : Int32), (61 : Int32), (34 : Int32), cc, (34 : Int32), (44 : Int32), (32 : Int32), (0 : Int32), (0 : Int32), (0 : Int32), (0 : Int32), (0 : Int32), (0 : Int32), (0 : Int32), (0 : Int32), (0 : Int32), (0 : Int32), (0 : Int32), (0 : Int32), (0 : Int32), (0 : Int32), (0 : Int32)].map Value.int) (.int 0) := V100
    have X100 := own_extWr X99 Wr100 (Nat.le_of_eq g84.symm)
    refine w_dup W100 at_250 rfl ?_
    refine w_bipush W100 (z := (16 : Int32)) at_251 (by rfl) ?_
    refine w_bipush W100 (z := (116 : Int32)) at_253 (by rfl) ?_
    refine w_castore W100 V_a2_16 ⟨by decide, by decide⟩ 16 (by decide) (Nat.le_of_ble_eq_true rfl) (x' := (116 : Int32)) (by rfl) g_a2 at_255 ?_
    intro T101 h101 l101 W101 Wr101 V101
    have V_a2_17 : Arv Z h101 a2 k84 .char (Int32.ofNat 31) ([(116 : Int32), (114 : Int32), (97 : Int32), (99 : Int32), (101 : Int32), (59 : Int32), (100 : Int32), (101 : Int32), (115 : Int32), (99 : Int32), (61 : Int32), (34 : Int32), cc, (34 : Int32), (44 : Int32), (32 : Int32), (116 : Int32), (0 : Int32), (0 : Int32), (0 : Int32), (0 : Int32), (0 : Int32), (0 : Int32), (0 : Int32), (0 : Int32), (0 : Int32), (0 : Int32), (0 : Int32), (0 : Int32), (0 : Int32), (0 : Int32)].map Value.int) (.int 0) := V101
    have X101 := own_extWr X100 Wr101 (Nat.le_of_eq g84.symm)
    refine w_dup W101 at_256 rfl ?_
    refine w_bipush W101 (z := (17 : Int32)) at_257 (by rfl) ?_
    refine w_bipush W101 (z := (114 : Int32)) at_259 (by rfl) ?_
    refine w_castore W101 V_a2_17 ⟨by decide, by decide⟩ 17 (by decide) (Nat.le_of_ble_eq_true rfl) (x' := (114 : Int32)) (by rfl) g_a2 at_261 ?_
    intro T102 h102 l102 W102 Wr102 V102
    have V_a2_18 : Arv Z h102 a2 k84 .char (Int32.ofNat 31) ([(116 : Int32), (114 : Int32), (97 : Int32), (99 : Int32), (101 : Int32), (59 : Int32), (100 : Int32), (101 : Int32), (115 : Int32), (99 : Int32), (61 : Int32), (34 : Int32), cc, (34 : Int32), (44 : Int32), (32 : Int32), (116 : Int32), (114 : Int32), (0 : Int32), (0 : Int32), (0 : Int32), (0 : Int32), (0 : Int32), (0 : Int32), (0 : Int32), (0 : Int32), (0 : Int32), (0 : Int32), (0 : Int32), (0 : Int32), (0 : Int32)].map Value.int) (.int 0) := V102
    have X102 := own_extWr X101 Wr102 (Nat.le_of_eq g84.symm)
    refine w_dup W102 at_262 rfl ?_
    refine w_bipush W102 (z := (18 : Int32)) at_263 (by rfl) ?_
    refine w_bipush W102 (z := (97 : Int32)) at_265 (by rfl) ?_
    refine w_castore W102 V_a2_18 ⟨by decide, by decide⟩ 18 (by decide) (Nat.le_of_ble_eq_true rfl) (x' := (97 : Int32)) (by rfl) g_a2 at_267 ?_
    intro T103 h103 l103 W103 Wr103 V103
    have V_a2_19 : Arv Z h103 a2 k84 .char (Int32.ofNat 31) ([(116 : Int32), (114 : Int32), (97 : Int32), (99 : Int32), (101 : Int32), (59 : Int32), (100 : Int32), (101 : Int32), (115 : Int32), (99 : Int32), (61 : Int32), (34 : Int32), cc, (34 : Int32), (44 : Int32), (32 : Int32), (116 : Int32), (114 : Int32), (97 : Int32), (0 : Int32), (0 : Int32), (0 : Int32), (0 : Int32), (0 : Int32), (0 : Int32), (0 : Int32), (0 : Int32), (0 : Int32), (0 : Int32), (0 : Int32), (0 : Int32)].map Value.int) (.int 0) := V103
    have X103 := own_extWr X102 Wr103 (Nat.le_of_eq g84.symm)
    refine w_dup W103 at_268 rfl ?_
    refine w_bipush W103 (z := (19 : Int32)) at_269 (by rfl) ?_
    refine w_bipush W103 (z := (99 : Int32)) at_271 (by rfl) ?_
    refine w_castore W103 V_a2_19 ⟨by decide, by decide⟩ 19 (by decide) (Nat.le_of_ble_eq_true rfl) (x' := (99 : Int32)) (by rfl) g_a2 at_273 ?_
    intro T104 h104 l104 W104 Wr104 V104
    have V_a2_20 : Arv Z h104 a2 k84 .char (Int32.ofNat 31) ([(116 : Int32), (114 : Int32), (97 : Int32), (99 : Int32), (101 : Int32), (59 : Int32), (100 : Int32), (101 : Int32), (115 : Int32), (99 : Int32), (61 : Int32), (34 : Int32), cc, (34 : Int32), (44 : Int32), (32 : Int32), (116 : Int32), (114 : Int32), (97 : Int32), (99 : Int32), (0 : Int32), (0 : Int32), (0 : Int32), (0 : Int32), (0 : Int32), (0 : Int32), (0 : Int32), (0 : Int32), (0 : Int32), (0 : Int32), (0 : Int32)].map Value.int) (.int 0) := V104
    have X104 := own_extWr X103 Wr104 (Nat.le_of_eq g84.symm)
    refine w_dup W104 at_274 rfl ?_
    refine w_bipush W104 (z := (20 : Int32)) at_275 (by rfl) ?_
    refine w_bipush W104 (z := (101 : Int32)) at_277 (by rfl) ?_
    refine w_castore W104 V_a2_20 ⟨by decide, by decide⟩ 20 (by decide) (Nat.le_of_ble_eq_true rfl) (x' := (101 : Int32)) (by rfl) g_a2 at_279 ?_
    intro T105 h105 l105 W105 Wr105 V105
    have V_a2_21 : Arv Z h105 a2 k84 .char (Int32.ofNat 31) ([(116 : Int32), (114 : Int32), (97 : Int32), (99 : Int32), (101 : Int32), (59 : Int32), (100 : Int32), (101 : Int32), (115 : Int32), (99 : Int32), (61 : Int32), (34 : Int32), cc, (34 : Int32), (44 : Int32), (32 : Int32), (116 : Int32), (114 : Int32), (97 : Int32), (99 : Int32), (101 : Int32), (0 : Int32), (0 : Int32), (0 : Int32), (0 : Int32), (0 : Int32), (0 : Int32), (0 : Int32), (0 : Int32), (0 : Int32), (0 : Int32)].map Value.int) (.int 0) := V105
    have X105 := own_extWr X104 Wr105 (Nat.le_of_eq g84.symm)
    refine w_dup W105 at_280 rfl ?_
    refine w_bipush W105 (z := (21 : Int32)) at_281 (by rfl) ?_
    refine w_bipush W105 (z := (59 : Int32)) at_283 (by rfl) ?_
    refine w_castore W105 V_a2_21 ⟨by decide, by decide⟩ 21 (by decide) (Nat.le_of_ble_eq_true rfl) (x' := (59 : Int32)) (by rfl) g_a2 at_285 ?_
    intro T106 h106 l106 W106 Wr106 V106
    have V_a2_22 : Arv Z h106 a2 k84 .char (Int32.ofNat 31) ([(116 : Int32), (114 : Int32), (97 : Int32), (99 : Int32), (101 : Int32), (59 : Int32), (100 : Int32), (101 : Int32), (115 : Int32), (99 : Int32), (61 : Int32), (34 : Int32), cc, (34 : Int32), (44 : Int32), (32 : Int32), (116 : Int32), (114 : Int32), (97 : Int32), (99 : Int32), (101 : Int32), (59 : Int32), (0 : Int32), (0 : Int32), (0 : Int32), (0 : Int32), (0 : Int32), (0 : Int32), (0 : Int32), (0 : Int32), (0 : Int32)].map Value.int) (.int 0) := V106
    have X106 := own_extWr X105 Wr106 (Nat.le_of_eq g84.symm)
    refine w_dup W106 at_286 rfl ?_
    refine w_bipush W106 (z := (22 : Int32)) at_287 (by rfl) ?_
    refine w_bipush W106 (z := (100 : Int32)) at_289 (by rfl) ?_
    refine w_castore W106 V_a2_22 ⟨by decide, by decide⟩ 22 (by decide) (Nat.le_of_ble_eq_true rfl) (x' := (100 : Int32)) (by rfl) g_a2 at_291 ?_
    intro T107 h107 l107 W107 Wr107 V107
    have V_a2_23 : Arv Z h107 a2 k84 .char (Int32.ofNat 31) ([(116 : Int32), (114 : Int32), (97 : Int32), (99 : Int32), (101 : Int32), (59 : Int32), (100 : Int32), (101 : Int32), (115 : Int32), (99 : Int32), (61 : Int32), (34 : Int32), cc, (34 : Int32), (44 : Int32), (32 : Int32), (116 : Int32), (114 : Int32), (97 : Int32), (99 : Int32), (101 : Int32), (59 : Int32), (100 : Int32), (0 : Int32), (0 : Int32), (0 : Int32), (0 : Int32), (0 : Int32), (0 : Int32), (0 : Int32), (0 : Int32)].map Value.int) (.int 0) := V107
    have X107 := own_extWr X106 Wr107 (Nat.le_of_eq g84.symm)
    refine w_dup W107 at_292 rfl ?_
    refine w_bipush W107 (z := (23 : Int32)) at_293 (by rfl) ?_
    refine w_bipush W107 (z := (101 : Int32)) at_295 (by rfl) ?_
    refine w_castore W107 V_a2_23 ⟨by decide, by decide⟩ 23 (by decide) (Nat.le_of_ble_eq_true rfl) (x' := (101 : Int32)) (by rfl) g_a2 at_297 ?_
    intro T108 h108 l108 W108 Wr108 V108
    have V_a2_24 : Arv Z h108 a2 k84 .char (Int32.ofNat 31) ([(116 : Int32), (114 : Int32), (97 : Int32), (99 : Int32), (101 : Int32), (59 : Int32), (100 : Int32), (101 : Int32), (115 : Int32), (99 : Int32), (61 : Int32), (34 : Int32), cc, (34 : Int32), (44 : Int32), (32 : Int32), (116 : Int32), (114 : Int32), (97 : Int32), (99 : Int32), (101 : Int32), (59 : Int32), (100 : Int32), (101 : Int32), (0 : Int32), (0 : Int32), (0 : Int32), (0 : Int32), (0 : Int32), (0 : Int32), (0 : Int32)].map Value.int) (.int 0) := V108
    have X108 := own_extWr X107 Wr108 (Nat.le_of_eq g84.symm)
    refine w_dup W108 at_298 rfl ?_
    refine w_bipush W108 (z := (24 : Int32)) at_299 (by rfl) ?_
    refine w_bipush W108 (z := (115 : Int32)) at_301 (by rfl) ?_
    refine w_castore W108 V_a2_24 ⟨by decide, by decide⟩ 24 (by decide) (Nat.le_of_ble_eq_true rfl) (x' := (115 : Int32)) (by rfl) g_a2 at_303 ?_
    intro T109 h109 l109 W109 Wr109 V109
    have V_a2_25 : Arv Z h109 a2 k84 .char (Int32.ofNat 31) ([(116 : Int32), (114 : Int32), (97 : Int32), (99 : Int32), (101 : Int32), (59 : Int32), (100 : Int32), (101 : Int32), (115 : Int32), (99 : Int32), (61 : Int32), (34 : Int32), cc, (34 : Int32), (44 : Int32), (32 : Int32), (116 : Int32), (114 : Int32), (97 : Int32), (99 : Int32), (101 : Int32), (59 : Int32), (100 : Int32), (101 : Int32), (115 : Int32), (0 : Int32), (0 : Int32), (0 : Int32), (0 : Int32), (0 : Int32), (0 : Int32)].map Value.int) (.int 0) := V109
    have X109 := own_extWr X108 Wr109 (Nat.le_of_eq g84.symm)
    refine w_dup W109 at_304 rfl ?_
    refine w_bipush W109 (z := (25 : Int32)) at_305 (by rfl) ?_
    refine w_bipush W109 (z := (99 : Int32)) at_307 (by rfl) ?_
    refine w_castore W109 V_a2_25 ⟨by decide, by decide⟩ 25 (by decide) (Nat.le_of_ble_eq_true rfl) (x' := (99 : Int32)) (by rfl) g_a2 at_309 ?_
    intro T110 h110 l110 W110 Wr110 V110
    have V_a2_26 : Arv Z h110 a2 k84 .char (Int32.ofNat 31) ([(116 : Int32), (114 : Int32), (97 : Int32), (99 : Int32), (101 : Int32), (59 : Int32), (100 : Int32), (101 : Int32), (115 : Int32), (99 : Int32), (61 : Int32), (34 : Int32), cc, (34 : Int32), (44 : Int32), (32 : Int32), (116 : Int32), (114 : Int32), (97 : Int32), (99 : Int32), (101 : Int32), (59 : Int32), (100 : Int32), (101 : Int32), (115 : Int32), (99 : Int32), (0 : Int32), (0 : Int32), (0 : Int32), (0 : Int32), (0 : Int32)].map Value.int) (.int 0) := V110
    have X110 := own_extWr X109 Wr110 (Nat.le_of_eq g84.symm)
    refine w_dup W110 at_310 rfl ?_
    refine w_bipush W110 (z := (26 : Int32)) at_311 (by rfl) ?_
    refine w_bipush W110 (z := (61 : Int32)) at_313 (by rfl) ?_
    refine w_castore W110 V_a2_26 ⟨by decide, by decide⟩ 26 (by decide) (Nat.le_of_ble_eq_true rfl) (x' := (61 : Int32)) (by rfl) g_a2 at_315 ?_
    intro T111 h111 l111 W111 Wr111 V111
    have V_a2_27 : Arv Z h111 a2 k84 .char (Int32.ofNat 31) ([(116 : Int32), (114 : Int32), (97 : Int32), (99 : Int32), (101 : Int32), (59 : Int32), (100 : Int32), (101 : Int32), (115 : Int32), (99 : Int32), (61 : Int32), (34 : Int32), cc, (34 : Int32), (44 : Int32), (32 : Int32), (116 : Int32), (114 : Int32), (97 : Int32), (99 : Int32), (101 : Int32), (59 : Int32), (100 : Int32), (101 : Int32), (115 : Int32), (99 : Int32), (61 : Int32), (0 : Int32), (0 : Int32), (0 : Int32), (0 : Int32)].map Value.int) (.int 0) := V111
    have X111 := own_extWr X110 Wr111 (Nat.le_of_eq g84.symm)
    refine w_dup W111 at_316 rfl ?_
    refine w_bipush W111 (z := (27 : Int32)) at_317 (by rfl) ?_
    refine w_bipush W111 (z := (34 : Int32)) at_319 (by rfl) ?_
    refine w_castore W111 V_a2_27 ⟨by decide, by decide⟩ 27 (by decide) (Nat.le_of_ble_eq_true rfl) (x' := (34 : Int32)) (by rfl) g_a2 at_321 ?_
    intro T112 h112 l112 W112 Wr112 V112
    have V_a2_28 : Arv Z h112 a2 k84 .char (Int32.ofNat 31) ([(116 : Int32), (114 : Int32), (97 : Int32), (99 : Int32), (101 : Int32), (59 : Int32), (100 : Int32), (101 : Int32), (115 : Int32), (99 : Int32), (61 : Int32), (34 : Int32), cc, (34 : Int32), (44 : Int32), (32 : Int32), (116 : Int32), (114 : Int32), (97 : Int32), (99 : Int32), (101 : Int32), (59 : Int32), (100 : Int32), (101 : Int32), (115 : Int32), (99 : Int32), (61 : Int32), (34 : Int32), (0 : Int32), (0 : Int32), (0 : Int32)].map Value.int) (.int 0) := V112
    have X112 := own_extWr X111 Wr112 (Nat.le_of_eq g84.symm)
    refine w_dup W112 at_322 rfl ?_
    refine w_bipush W112 (z := (28 : Int32)) at_323 (by rfl) ?_
    refine w_iload W112 at_325 rfl ?_
    refine w_castore W112 V_a2_28 ⟨by decide, by decide⟩ 28 (by decide) (Nat.le_of_ble_eq_true rfl) (x' := ca) (qca) g_a2 at_327 ?_
    intro T113 h113 l113 W113 Wr113 V113
    have V_a2_29 : Arv Z h113 a2 k84 .char (Int32.ofNat 31) ([(116 : Int32), (114 : Int32), (97 : Int32), (99 : Int32), (101 : Int32), (59 : Int32), (100 : Int32), (101 : Int32), (115 : Int32), (99 : Int32), (61 : Int32), (34 : Int32), cc, (34 : Int32), (44 : Int32), (32 : Int32), (116 : Int32), (114 : Int32), (97 : Int32), (99 : Int32), (101 : Int32), (59 : Int32), (100 : Int32), (101 : Int32), (115 : Int32), (99 : Int32), (61 : Int32), (34 : Int32), ca, (0 : Int32), (0 : Int32)].map Value.int) (.int 0) := V113
    have X113 := own_extWr X112 Wr113 (Nat.le_of_eq g84.symm)
    refine w_dup W113 at_328 rfl ?_
    refine w_bipush W113 (z := (29 : Int32)) at_329 (by rfl) ?_
    refine w_iload W113 at_331 rfl ?_
    refine w_castore W113 V_a2_29 ⟨by decide, by decide⟩ 29 (by decide) (Nat.le_of_ble_eq_true rfl) (x' := cb) (qcb) g_a2 at_333 ?_
    intro T114 h114 l114 W114 Wr114 V114
    have V_a2_30 : Arv Z h114 a2 k84 .char (Int32.ofNat 31) ([(116 : Int32), (114 : Int32), (97 : Int32), (99 : Int32), (101 : Int32), (59 : Int32), (100 : Int32), (101 : Int32), (115 : Int32), (99 : Int32), (61 : Int32), (34 : Int32), cc, (34 : Int32), (44 : Int32), (32 : Int32), (116 : Int32), (114 : Int32), (97 : Int32), (99 : Int32), (101 : Int32), (59 : Int32), (100 : Int32), (101 : Int32), (115 : Int32), (99 : Int32), (61 : Int32), (34 : Int32), ca, cb, (0 : Int32)].map Value.int) (.int 0) := V114
    have X114 := own_extWr X113 Wr114 (Nat.le_of_eq g84.symm)
    refine w_dup W114 at_334 rfl ?_
    refine w_bipush W114 (z := (30 : Int32)) at_335 (by rfl) ?_
    refine w_bipush W114 (z := (34 : Int32)) at_337 (by rfl) ?_
    refine w_castore W114 V_a2_30 ⟨by decide, by decide⟩ 30 (by decide) (Nat.le_of_ble_eq_true rfl) (x' := (34 : Int32)) (by rfl) g_a2 at_339 ?_
    intro T115 h115 l115 W115 Wr115 V115
    have V_a2_31 : Arv Z h115 a2 k84 .char (Int32.ofNat 31) ([(116 : Int32), (114 : Int32), (97 : Int32), (99 : Int32), (101 : Int32), (59 : Int32), (100 : Int32), (101 : Int32), (115 : Int32), (99 : Int32), (61 : Int32), (34 : Int32), cc, (34 : Int32), (44 : Int32), (32 : Int32), (116 : Int32), (114 : Int32), (97 : Int32), (99 : Int32), (101 : Int32), (59 : Int32), (100 : Int32), (101 : Int32), (115 : Int32), (99 : Int32), (61 : Int32), (34 : Int32), ca, cb, (34 : Int32)].map Value.int) (.int 0) := V115
    have X115 := own_extWr X114 Wr115 (Nat.le_of_eq g84.symm)
    refine w_astore W115 (L' := #[.val (.int ra), .val (.int rb), .val (.int rc), .val (.int rf), .val (.int ca), .val (.int cb), .val (.int cc), .val (.int (1 : Int32)), .val (.ref sI), .val (.ref sF), .val (.ref a1), .val (.ref a2), .unset, .unset, .unset]) at_340 rfl rfl ?_
    have C2 := V_a2_31
    have X2 := X115
    have O3 := O2.ext X2
    have X12 := own_extTrans X1 X2
    refine w_new W115 (hw _ (List.mem_of_getElem? (i := 44) rfl)) (hw _ (List.mem_of_getElem? (i := 45) rfl)) (hw _ (List.mem_of_getElem? (i := 46) rfl)) at_342 (by decide) (by decide) ?_
    intro T116 h116 t W116 E116 g116 A116 D116
    have ET := E116
    have Ft0 := (D116 (Or.inr (hw _ (List.mem_of_getElem? (i := 70) rfl))) (ty := (.object "java/lang/StringBuilder")) (by decide) : Fld Z h116 _ "com/example/phasescope/phasescope/ServerTiming" "value" "Ljava/lang/StringBuilder;" .null)
    have ht : n0 ≤ t := by rw [g116]; exact own_oldle O3
    have gT := Nat.le_of_eq g116.symm
    refine w_dup W116 at_345 rfl ?_
    refine w_special W116 (ctSi l Z a0 hw cz t _ n0 (O3.ext ET) G hcz A116 Ft0 ht) rfl (hw _ (List.mem_of_getElem? (i := 47) rfl)) (hw _ (List.mem_of_getElem? (i := 48) rfl)) (hw _ (List.mem_of_getElem? (i := 46) rfl)) (hw _ (List.mem_of_getElem? (i := 49) rfl)) (by decide) 1 (by decide) (by decide) (by decide) (by decide) (a := t) (argsL := []) (rest := [(.ref t)]) pd_19 rfl rfl rfl rfl rfl at_346 ?_
    rintro T117 h117 l117 _ W117 ⟨rfl, KT, y, b, hy, hb, Et4, Ft4, F4⟩
    have Z4 := own_extKeep ET KT (allS gT all0)
    have X4 := own_extTrans X12 Z4
    have SI4 := SI1.ext X4
    have SF4 := SF.ext X4
    have O4 := O3.ext Z4
    have C1_4 := C1.ext (own_extTrans X2 Z4)
    have C2_4 := C2.ext Z4
    refine w_astore W117 (L' := #[.val (.int ra), .val (.int rb), .val (.int rc), .val (.int rf), .val (.int ca), .val (.int cb), .val (.int cc), .val (.int (1 : Int32)), .val (.ref sI), .val (.ref sF), .val (.ref a1), .val (.ref a2), .val (.ref t), .unset, .unset]) at_349 rfl rfl ?_
    refine w_iload W117 at_351 rfl ?_
    refine w_ifeq W117 (pc' := 370) at_353 (by decide) (fun c353 => absurd c353 (by decide)) (fun c353 => ?_)
    refine w_aload W117 at_356 rfl rfl ?_
    refine w_aload W117 at_358 rfl rfl ?_
    refine w_virtW W117 (ctT0 l Z a0 hw cz t y b sF _ _ n0 hC35 O4 G hcz Et4 Ft4 (Nat.le_of_ble_eq_true rfl) SF4 F4) (fun vm' q => own_ibWarm hV q) (hw _ (List.mem_of_getElem? (i := 71) rfl)) (hw _ (List.mem_of_getElem? (i := 72) rfl)) (notFace_of_selects (args := #[]) (mvT W117.wZ (hw _ (List.mem_of_getElem? (i := 74) rfl)))) (hw _ (List.mem_of_getElem? (i := 74) rfl)) (hw _ (List.mem_of_getElem? (i := 73) rfl)) (hw _ (List.mem_of_getElem? (i := 46) rfl)) (hw _ (List.mem_of_getElem? (i := 75) rfl)) (by decide) 0 (by decide) (by decide) (by decide) (by decide) (a := t) Et4 (argsL := [(.ref sF)]) (rest := []) pd_33 rfl rfl rfl rfl rfl at_360 ?_
    rintro T118 h118 l118 vm118 _ W118 hw118 ⟨rfl, K5, F5, LD5, I5⟩
    have SI5 := SI4.keepSB F4 (Nat.le_of_ble_eq_true rfl) (Nat.ne_of_beq_eq_false rfl) (hw _ (List.mem_of_getElem? (i := 1) rfl)) (hw _ (List.mem_of_getElem? (i := 52) rfl)) K5
    have Et5 := Et4.keep K5
    have nty5 : t ≠ y := Exa.ne Et4 F4.1 (by decide)
    have ntb5 : t ≠ b := by obtain ⟨_, _, _, _, _, _, _, _, kq, Cq⟩ := F4; exact Exa.neArv Et4 Cq (hw _ (List.mem_of_getElem? (i := 45) rfl))
    have Ft5 := Ft4.keep K5 (ninS nty5 (ninS ntb5 nin0))
    have O5 := O4.keep K5 (allS F4.2.2.2.2.1 (allS F4.2.2.2.2.2.1 all0))
    have C1_5 := C1_4.keep K5 (ninS (Exa.neArv F4.1 C1_4 (hw _ (List.mem_of_getElem? (i := 52) rfl))).symm (ninS (by obtain ⟨_, _, _, _, _, _, _, _, kq, Cq⟩ := F4; exact own_arvNe C1_4 Cq (by decide) (by decide) (by decide)) nin0))
    have C2_5 := C2_4.keep K5 (ninS (Exa.neArv F4.1 C2_4 (hw _ (List.mem_of_getElem? (i := 52) rfl))).symm (ninS (by obtain ⟨_, _, _, _, _, _, _, _, kq, Cq⟩ := F4; exact own_arvNe C2_4 Cq (by decide) (by decide) (by decide)) nin0))
    refine w_aload W118 at_363 rfl rfl ?_
    refine w_acmp W118 (pc' := 370) true rfl rfl at_365 (decide_eq_true rfl) (by decide) (by rfl) ?_
    refine w_aload W118 at_370 rfl rfl ?_
    refine w_aload W118 at_372 rfl rfl ?_
    refine w_virtW W118 (ctT1 l Z a0 hw cz t y b sI _ _ _ n0 hC72 O5 G hcz Et5 Ft5 (Nat.le_of_ble_eq_true rfl) SI5 (by rfl) F5) (fun vm' q => ⟨own_ldWarm LD5 q, own_ibWarm I5 q⟩) (hw _ (List.mem_of_getElem? (i := 71) rfl)) (hw _ (List.mem_of_getElem? (i := 72) rfl)) (notFace_of_selects (args := #[]) (mvT W118.wZ (hw _ (List.mem_of_getElem? (i := 74) rfl)))) (hw _ (List.mem_of_getElem? (i := 74) rfl)) (hw _ (List.mem_of_getElem? (i := 73) rfl)) (hw _ (List.mem_of_getElem? (i := 46) rfl)) (hw _ (List.mem_of_getElem? (i := 75) rfl)) (by decide) 0 (by decide) (by decide) (by decide) (by decide) (a := t) Et5 (argsL := [(.ref sI)]) (rest := []) pd_33 rfl rfl rfl rfl rfl at_374 ?_
    rintro T119 h119 l119 vm119 _ W119 hw119 ⟨rfl, K6, nb, hnb6, F6⟩
    have SI6 := SI5.keepSB F5 (Nat.le_of_ble_eq_true rfl) (Nat.ne_of_beq_eq_false rfl) (hw _ (List.mem_of_getElem? (i := 1) rfl)) (hw _ (List.mem_of_getElem? (i := 52) rfl)) K6
    have Et6 := Et5.keep K6
    have nty6 : t ≠ y := Exa.ne Et5 F5.1 (by decide)
    have ntb6 : t ≠ b := by obtain ⟨_, _, _, _, _, _, _, _, kq, Cq⟩ := F5; exact Exa.neArv Et5 Cq (hw _ (List.mem_of_getElem? (i := 45) rfl))
    have Ft6 := Ft5.keep K6 (ninS nty6 (ninS ntb6 nin0))
    have O6 := O5.keep K6 (allS F5.2.2.2.2.1 (allS F5.2.2.2.2.2.1 all0))
    have C1_6 := C1_5.keep K6 (ninS (Exa.neArv F5.1 C1_5 (hw _ (List.mem_of_getElem? (i := 52) rfl))).symm (ninS (by obtain ⟨_, _, _, _, _, _, _, _, kq, Cq⟩ := F5; exact own_arvNe C1_5 Cq (by decide) (by decide) (by decide)) nin0))
    have C2_6 := C2_5.keep K6 (ninS (Exa.neArv F5.1 C2_5 (hw _ (List.mem_of_getElem? (i := 52) rfl))).symm (ninS (by obtain ⟨_, _, _, _, _, _, _, _, kq, Cq⟩ := F5; exact own_arvNe C2_5 Cq (by decide) (by decide) (by decide)) nin0))
    refine w_astore W119 (L' := #[.val (.int ra), .val (.int rb), .val (.int rc), .val (.int rf), .val (.int ca), .val (.int cb), .val (.int cc), .val (.int (1 : Int32)), .val (.ref sI), .val (.ref sF), .val (.ref a1), .val (.ref a2), .val (.ref t), .val (.ref t), .unset]) at_377 rfl rfl ?_
    refine w_aload W119 at_379 rfl rfl ?_
    refine w_aload W119 at_381 rfl rfl ?_
    refine w_acmp W119 (pc' := 388) true rfl rfl at_383 (decide_eq_true rfl) (by decide) (by rfl) ?_
    refine w_aload W119 at_388 rfl rfl ?_
    refine w_virt W119 (ctTt l Z a0 hw cz y nb 34 _ t _ n0 O6 G hcz (Nat.le_of_ble_eq_true rfl) (Nat.le_of_ble_eq_true rfl) F6 Ft6) (hw _ (List.mem_of_getElem? (i := 178) rfl)) (hw _ (List.mem_of_getElem? (i := 179) rfl)) (notFace_of_selects (args := #[]) (mvT W119.wZ (hw _ (List.mem_of_getElem? (i := 181) rfl)))) (hw _ (List.mem_of_getElem? (i := 181) rfl)) (hw _ (List.mem_of_getElem? (i := 180) rfl)) (hw _ (List.mem_of_getElem? (i := 46) rfl)) (hw _ (List.mem_of_getElem? (i := 182) rfl)) (by decide) 0 (by decide) (by decide) (by decide) (by decide) (a := t) Et6 (argsL := []) (rest := []) pd_27 rfl rfl rfl rfl rfl at_390 ?_
    rintro T120 h120 l120 _ W120 ⟨gs, rfl, E7, hgs, S7⟩
    have O7 := O6.ext E7
    have C1_7 := C1_6.ext E7
    have C2_7 := C2_6.ext E7
    refine w_astore W120 (L' := #[.val (.int ra), .val (.int rb), .val (.int rc), .val (.int rf), .val (.int ca), .val (.int cb), .val (.int cc), .val (.int (1 : Int32)), .val (.ref sI), .val (.ref sF), .val (.ref a1), .val (.ref a2), .val (.ref t), .val (.ref t), .val (.ref gs)]) at_393 rfl rfl ?_
    refine w_aload W120 at_395 rfl rfl ?_
    refine w_new W120 (hw _ (List.mem_of_getElem? (i := 0) rfl)) (hw _ (List.mem_of_getElem? (i := 1) rfl)) (hw _ (List.mem_of_getElem? (i := 2) rfl)) at_397 (by decide) (by decide) ?_
    intro T121 h121 sE W121 E121 g121 A121 D121
    have E8 := E121
    have FvE := (D121 (Or.inr (hw _ (List.mem_of_getElem? (i := 29) rfl))) (ty := (.array .byte)) (by decide) : Fld Z h121 _ "java/lang/String" "value" "[B" .null)
    have FcE := (D121 (Or.inr (hw _ (List.mem_of_getElem? (i := 27) rfl))) (ty := .byte) (by decide) : Fld Z h121 _ "java/lang/String" "coder" "B" (.int 0))
    have AE := A121
    have gE := Nat.le_of_eq g121.symm
    have hsE : h0.size ≤ sE := by have q := O7.2.1; have q1 := O.1; have q2 := O7.1; have q3 := (own_extTrans Y1 (own_extTrans X12 Z4)).1; have q4 := K5.1; have q6 := K6.1; have q5 := E7.1; omega
    refine w_dup W121 at_400 rfl ?_
    refine w_iload W121 at_401 rfl ?_
    refine w_ifeq W121 (pc' := 411) at_403 (by decide) (fun c403 => absurd c403 (by decide)) (fun c403 => ?_)
    refine w_aload W121 at_406 rfl rfl ?_
    refine w_goto W121 (pc' := 413) at_408 (by decide) ?_
    refine w_special W121 (ctS1 l Z a0 hw cz sE a2 _ [(116 : Int32), (114 : Int32), (97 : Int32), (99 : Int32), (101 : Int32), (59 : Int32), (100 : Int32), (101 : Int32), (115 : Int32), (99 : Int32), (61 : Int32), (34 : Int32), cc, (34 : Int32), (44 : Int32), (32 : Int32), (116 : Int32), (114 : Int32), (97 : Int32), (99 : Int32), (101 : Int32), (59 : Int32), (100 : Int32), (101 : Int32), (115 : Int32), (99 : Int32), (61 : Int32), (34 : Int32), ca, cb, (34 : Int32)] _ n0 (Nat.le_of_ble_eq_true rfl) (own_allc (by decide) (own_allc (by decide) (own_allc (by decide) (own_allc (by decide) (own_allc (by decide) (own_allc (by decide) (own_allc (by decide) (own_allc (by decide) (own_allc (by decide) (own_allc (by decide) (own_allc (by decide) (own_allc (by decide) (own_allc ncc (own_allc (by decide) (own_allc (by decide) (own_allc (by decide) (own_allc (by decide) (own_allc (by decide) (own_allc (by decide) (own_allc (by decide) (own_allc (by decide) (own_allc (by decide) (own_allc (by decide) (own_allc (by decide) (own_allc (by decide) (own_allc (by decide) (own_allc (by decide) (own_allc (by decide) (own_allc nca (own_allc ncb (own_allc (by decide) own_alln))))))))))))))))))))))))))))))) (Nat.le_of_ble_eq_true rfl) (O7.ext E8) G hcz AE FvE FcE (Nat.le_trans (own_oldle O) hsE) (C2_7.ext E8)) rfl (hw _ (List.mem_of_getElem? (i := 4) rfl)) (hw _ (List.mem_of_getElem? (i := 5) rfl)) (hw _ (List.mem_of_getElem? (i := 2) rfl)) (hw _ (List.mem_of_getElem? (i := 6) rfl)) (by decide) 2 (by decide) (by decide) (by decide) (by decide) (a := sE) (argsL := [(.ref a2)]) (rest := [(.ref sE), (.ref gs)]) pd_31 rfl rfl rfl rfl rfl at_413 ?_
    rintro T122 h122 l122 _ W122 ⟨rfl, KE, SE⟩
    have Z9 := own_extKeep E8 KE (allS gE all0)
    have S9 := S7.ext Z9
    have O9 := O7.ext Z9
    have Ex9 := S9.exa
    refine w_virt W122 (own_eqOne (ctSe l Z a0 hw cz gs sE _ _ _ n0 (Nat.le_of_ble_eq_true rfl) (Nat.le_of_ble_eq_true rfl) O9 G hcz S9 SE) (by rfl)) (hw _ (List.mem_of_getElem? (i := 212) rfl)) (hw _ (List.mem_of_getElem? (i := 213) rfl)) (notFace_of_selects (args := #[]) (mvT W122.wZ (hw _ (List.mem_of_getElem? (i := 215) rfl)))) (hw _ (List.mem_of_getElem? (i := 215) rfl)) (hw _ (List.mem_of_getElem? (i := 214) rfl)) (hw _ (List.mem_of_getElem? (i := 2) rfl)) (hw _ (List.mem_of_getElem? (i := 216) rfl)) (by decide) 0 (by decide) (by decide) (by decide) (by decide) (a := gs) Ex9 (argsL := [(.ref sE)]) (rest := []) pd_34 rfl rfl rfl rfl rfl at_416 ?_
    rintro T123 h123 l123 _ W123 ⟨rfl, rfl⟩
    exact x_rN W123 rfl (by simp) (z' := (1 : Int32)) (by rfl) at_419 (by decide) (by decide) (fun vm' hvm' => rfl)
set_option maxRecDepth 65536 in
set_option maxHeartbeats 40000000 in
theorem comes_1 {Post : Tables → Env → Array Value → State → Outcome → State → Prop} (hpost : ∀ tb e args s v u, (limb_1_1.after args s (.returned v) u = true ∧ limb_1_2.after args s (.returned v) u = true ∧ True) → ReturnedEndW s (.returned v) u (Jvm.fieldLocs frame_1_writes args s ++ Jvm.arrayLocs frame_1_arrays args s ++ Jvm.staticLocs frame_1_statics s) 48 2496 → Post tb e args s (.returned v) u) :
    ArmFor flags0 classFile x code maxLocals ret World_1 tables_1 room_1 Calls_1 rest_1 Pre_1 Post := by
  intro l hfl _ _ p e ha hc hk s m args below hf hA hF happ hP
  obtain ⟨hcalls, hrest, hpre⟩ := hP
  obtain ⟨-, -, -, hnamed, -, -, -, hat⟩ := (Spec.applies_iff hf).mp happ
  obtain ⟨hg, hn⟩ := and_e (Cond.before_iff.mp (show (Jvm.Cond.and given_1 narrow_1).before args s = true from hpre))
  obtain ⟨g0, r0⟩ := and_e hg
  obtain ⟨g1, r1⟩ := and_e r0
  obtain ⟨g2, r2⟩ := and_e r1
  obtain ⟨g3, r3⟩ := and_e r2
  obtain ⟨w0, w1, w2, w3, rfl⟩ : ∃ w0 w1 w2 w3 : Value, args = #[w0, w1, w2, w3] := by
    have hs : args.size = 4 := by simpa [Cond.value, given_1] using g0
    obtain ⟨L⟩ := args
    match L, hs with
    | [w0, w1, w2, w3], _ => exact ⟨w0, w1, w2, w3, rfl⟩
  have hw := fun d (hd : d ∈ tables_1) => atoms_spec (ws := Jvm.Cond.code x code maxLocals ret :: tables_1) hat d (List.mem_cons_of_mem _ hd)
  obtain ⟨i0, ei0⟩ := is_v g1
  obtain rfl : w0 = (.int i0) := Option.some.inj ei0
  obtain ⟨i1, ei1⟩ := is_v g2
  obtain rfl : w1 = (.int i1) := Option.some.inj ei1
  obtain ⟨i2, ei2⟩ := is_v g3
  obtain rfl : w2 = (.int i2) := Option.some.inj ei2
  obtain ⟨i3, ei3⟩ := is_v r3
  obtain rfl : w3 = (.int i3) := Option.some.inj ei3
  obtain ⟨hsets, hown0⟩ := atoms_of _ (rest_1_c_eq ▸ (show rest_1_c.before _ s = true from hrest))
  have n3 := not_v (Cond.before_iff.mp (hsets _ (List.mem_of_getElem? (i := 2) rfl)))
  obtain ⟨cz, e6⟩ := is_v (Cond.before_iff.mp (hsets _ (List.mem_of_getElem? (i := 1) rfl)))
  have G : Sta s s.heap "java/lang/String" "COMPACT_STRINGS" "Z" (.int cz) := Sta.start e6 (Or.inl (hsets _ (List.mem_of_getElem? (i := 0) rfl)))
  have hcz : ¬ (cz = (0 : Int32)) := gotF (Cond.eq_ints e6 (Term.int_eval (0))) n3
  have hC35 : Jvm.Lit.constHeld s "com/example/phasescope/phasescope/ServerTiming" 35 := hcalls.1 ("com/example/phasescope/phasescope/ServerTiming", 35) (by simp [consts_1])
  have hC72 : Jvm.Lit.constHeld s "com/example/phasescope/phasescope/ServerTiming" 72 := hcalls.1 ("com/example/phasescope/phasescope/ServerTiming", 72) (by simp [consts_1])
  obtain ⟨n, o, h1, h2, h3, _, L, rfl, ⟨rfl, N⟩, hq⟩ := ctLaw l s _ hw cz i0 i1 i2 i3 s.heap s.heap.size hC35 hC72 (Old.start s) G hcz tables_1 p e ha hc hk s m _ below hf ((Spec.applies_iff_loose hf).mp happ).1 ⟨rfl, State.Warmed39.refl s, rfl, IB.start⟩ trivial
  refine ⟨n, _, h1, h2, h3, hpost _ _ _ _ _ _ ⟨Cond.after_iff.mpr rfl, Cond.after_iff.mpr (eq_i res_at (Term.int_eval (1)) rfl), trivial⟩ ⟨hq.1, hq.2.1, hq.2.2.1, (hq.2.2.2.sift fun y hy => Or.inr (N y hy)).mono (by decide) (by decide)⟩⟩
theorem main_1_1 : Claimed_1_1 := comes_1 fun _ _ _ _ _ _ h hF => ⟨h.1, hF⟩
theorem main_1_2 : Claimed_1_2 := comes_1 fun _ _ _ _ _ _ h hF => ⟨h.2.1, hF⟩
end Jvm.Pilot.@@N@@
namespace Jvm.Pilot.@@N@@
open Jvm Jvm.ClassFile Sem Op Lib Jvm.Free Jvm.Stand Jvm.Pilot.@@N@@.Jvm.D
/-! MADE BY PROGRAM (witnessworld.py) out of the Statement's table words and the real class files: 26 classes; the members and pool entries that the words name. The judged class is class 1, her method 1. -/
namespace start1
open Jvm.ClassFile
def u (s : String) : CpInfo := .utf8 (stringToUtf16 s)
/-- a pool by its gaps: so many unusable entries, then the entry; so many at the end -/
def gap : Nat → List CpInfo → List CpInfo
  | 0, r => r
  | n + 1, r => .unusable :: gap n r
def poolList (es : List (Nat × CpInfo)) (last : Nat) : List CpInfo := es.foldr (fun e r => gap e.1 (e.2 :: r)) (gap last [])
def pool (es : List (Nat × CpInfo)) (last : Nat) : Array CpInfo := ⟨poolList es last⟩
def fileOf (pool : Array CpInfo) (this : Nat) (attrs : Array Attribute := #[]) (ms : Array MethodInfo := #[]) (fl : Nat := 33) (sup : Nat := 0) (ifs : Array Nat := #[]) (fds : Array FieldInfo := #[]) : ClassFile where
  minorVersion := 0
  majorVersion := 65
  constantPool := pool
  accessFlags := fl
  thisClass := this
  superClass := sup
  interfaces := ifs
  fields := fds
  methods := ms
  attributes := attrs
def plain (name : String) (sup : Option ClassId) : Class where
  name := name
  kind := .ordinary
  loader := none
  accessFlags := 33
  super := sup
  interfaces := #[]
  cf := none
  fields := #[]
  methods := #[]
  instanceTypes := #[]
  staticTypes := #[]
  resolved := #[]
  callSites := []
  init := .initialized
  statics := none
  mirror := none

def pool0 : Array CpInfo := pool [(5, u "<init>"), (0, u "()V"), (1, .class_ 10), (1, u "java/lang/Object")] 113

def k0c0 : Code := { maxStack := 0, maxLocals := 1, code := object_method_1_code, exceptionTable := #[], attributes := #[] }
def k0m0 : Method := { name := "<init>", desc := "()V", sig := { parameters := [], returnType := none }, accessFlags := 1, code := some k0c0 }
/-- java/lang/Object -/
def k0 : Class := { plain "java/lang/Object" none with
  accessFlags := 33
  interfaces := #[]
  cf := some (fileOf pool0 8 #[] #[{ accessFlags := 1, nameIndex := 5, descriptorIndex := 6, attributes := #[] }] 33 0 #[] #[])
  fields := #[]
  methods := #[k0m0]
  instanceTypes := #[]
  staticTypes := #[]
  resolved := Array.replicate 124 none
  statics := none }

def pool1 : Array CpInfo := pool [(2, .class_ 4), (0, .nameAndType 5 6), (0, u "java/lang/Object"), (0, u "<init>"), (0, u "()V"), (0, .class_ 8), (0, u "java/lang/String"), (0, .methodref 7 10), (0, .nameAndType 5 11), (0, u "([C)V"), (0, .methodref 7 13), (0, .nameAndType 14 15), (0, u "valueOf"), (0, u "(C)Ljava/lang/String;"), (0, .class_ 17), (0, u "com/example/phasescope/phasescope/ServerTiming"), (0, .methodref 16 3), (0, .methodref 16 20), (0, .nameAndType 21 22), (0, u "trace"), (0, u "(Ljava/lang/String;)Lcom/example/phasescope/phasescope/ServerTiming;"), (0, .methodref 16 24), (0, .nameAndType 25 26), (0, u "toString"), (0, u "()Ljava/lang/String;"), (0, .methodref 7 28), (0, .nameAndType 29 30), (0, u "equals"), (0, u "(Ljava/lang/Object;)Z"), (0, .class_ 32), (0, u "com/example/phasescope/phasescope/ServerTimingTracePinLaw"), (2, u "law"), (0, u "(IIII)Z")] 5

def k1m0 : Method := { name := "<init>", desc := "()V", sig := { parameters := [], returnType := none }, accessFlags := 1, code := none }
def k1c1 : Code := { maxStack := 6, maxLocals := 15, code := code, exceptionTable := #[], attributes := #[] }
def k1m1 : Method := { name := "law", desc := "(IIII)Z", sig := { parameters := [.int, .int, .int, .int], returnType := some .boolean }, accessFlags := 9, code := some k1c1 }
/-- com/example/phasescope/phasescope/ServerTimingTracePinLaw -/
def k1 : Class := { plain "com/example/phasescope/phasescope/ServerTimingTracePinLaw" (some 0) with
  accessFlags := 49
  interfaces := #[]
  cf := some (fileOf pool1 31 #[] #[{ accessFlags := 1, nameIndex := 5, descriptorIndex := 6, attributes := #[] }, { accessFlags := 9, nameIndex := 35, descriptorIndex := 36, attributes := #[] }] 49 2 #[] #[])
  fields := #[]
  methods := #[k1m0, k1m1]
  instanceTypes := #[]
  staticTypes := #[]
  resolved := Array.replicate 42 none
  statics := none }

def pool2 : Array CpInfo := pool [(1, .class_ 2), (0, u "java/io/Serializable"), (0, .class_ 4), (0, u "java/lang/Object")] 2

/-- java/io/Serializable -/
def k2 : Class := { plain "java/io/Serializable" (some 0) with
  accessFlags := 1537
  interfaces := #[]
  cf := some (fileOf pool2 1 #[] #[] 1537 3 #[] #[])
  fields := #[]
  methods := #[]
  instanceTypes := #[]
  staticTypes := #[]
  resolved := Array.replicate 7 none
  statics := none }

def pool3 : Array CpInfo := pool [(1, .class_ 2), (0, u "java/lang/Comparable"), (0, .class_ 4), (0, u "java/lang/Object")] 7

/-- java/lang/Comparable -/
def k3 : Class := { plain "java/lang/Comparable" (some 0) with
  accessFlags := 1537
  interfaces := #[]
  cf := some (fileOf pool3 1 #[] #[] 1537 3 #[] #[])
  fields := #[]
  methods := #[]
  instanceTypes := #[]
  staticTypes := #[]
  resolved := Array.replicate 12 none
  statics := none }

def pool4 : Array CpInfo := pool [(2, .class_ 4), (1, u "java/lang/CharSequence"), (42, .class_ 48), (0, u "java/lang/CharSequence$1CodePointIterator"), (10, .class_ 60), (0, u "java/lang/CharSequence$1CharIterator"), (5, .class_ 67), (0, u "java/lang/Object")] 63

/-- java/lang/CharSequence -/
def k4 : Class := { plain "java/lang/CharSequence" (some 0) with
  accessFlags := 1537
  interfaces := #[]
  cf := some (fileOf pool4 2 #[.nestMembers #[47, 59]] #[] 1537 66 #[] #[])
  fields := #[]
  methods := #[]
  instanceTypes := #[]
  staticTypes := #[]
  resolved := Array.replicate 131 none
  statics := none }

def pool5 : Array CpInfo := pool [(1, .class_ 2), (0, u "java/lang/constant/Constable"), (0, .class_ 4), (0, u "java/lang/Object")] 6

/-- java/lang/constant/Constable -/
def k5 : Class := { plain "java/lang/constant/Constable" (some 0) with
  accessFlags := 1537
  interfaces := #[]
  cf := some (fileOf pool5 1 #[] #[] 1537 3 #[] #[])
  fields := #[]
  methods := #[]
  instanceTypes := #[]
  staticTypes := #[]
  resolved := Array.replicate 11 none
  statics := none }

def pool6 : Array CpInfo := pool [(1, .class_ 2), (0, u "java/lang/constant/ConstantDesc"), (0, .class_ 4), (0, u "java/lang/Object")] 32

/-- java/lang/constant/ConstantDesc -/
def k6 : Class := { plain "java/lang/constant/ConstantDesc" (some 0) with
  accessFlags := 1537
  interfaces := #[]
  cf := some (fileOf pool6 1 #[] #[] 1537 3 #[] #[])
  fields := #[]
  methods := #[]
  instanceTypes := #[]
  staticTypes := #[]
  resolved := Array.replicate 37 none
  statics := none }

def pool7 : Array CpInfo := pool [(1, .methodref 2 3), (0, .class_ 4), (0, .nameAndType 5 6), (0, u "java/lang/Object"), (0, u "<init>"), (0, u "()V"), (2, .fieldref 10 11), (0, .class_ 12), (0, .nameAndType 13 14), (0, u "java/lang/String"), (0, u "value"), (0, u "[B"), (0, .fieldref 10 16), (0, .nameAndType 17 18), (0, u "coder"), (0, u "B"), (2, u "hash"), (0, u "I"), (2, u "hashIsZero"), (0, u "Z"), (0, .methodref 10 28), (0, .nameAndType 5 29), (0, u "([CIILjava/lang/Void;)V"), (8, .fieldref 10 39), (0, .nameAndType 40 26), (0, u "COMPACT_STRINGS"), (1, .class_ 44), (1, u "java/lang/StringUTF16"), (0, u "compress"), (1, .methodref 42 48), (0, .nameAndType 49 50), (0, u "coderFromArrayLen"), (0, u "([BI)B"), (2, u "toBytes"), (0, .methodref 55 56), (0, .class_ 57), (0, .nameAndType 58 59), (0, u "java/util/Arrays"), (0, u "copyOfRange"), (0, u "([BII)[B"), (47, .class_ 109), (1, u "java/lang/StringLatin1"), (32, u "()Z"), (34, .methodref 42 178), (0, .nameAndType 45 179), (0, u "([CII)[B"), (13, .class_ 195), (1, u "java/lang/System"), (13, .methodref 10 210), (0, .nameAndType 5 211), (0, u "([BB)V"), (0, .methodref 193 213), (0, .nameAndType 214 215), (0, u "arraycopy"), (0, u "(Ljava/lang/Object;ILjava/lang/Object;II)V"), (118, u "()I"), (0, .methodref 10 336), (0, .nameAndType 17 337), (0, u "()B"), (2, u "()[B"), (28, u "(C)Z"), (119, .methodref 10 490), (0, .nameAndType 5 491), (0, u "(Ljava/lang/AbstractStringBuilder;Ljava/lang/Void;)V"), (1, .nameAndType 494 142), (0, u "isLatin1"), (11, .nameAndType 507 334), (0, u "length"), (24, u "getBytes"), (8, .methodref 107 542), (0, .nameAndType 543 544), (0, u "equals"), (0, u "([B[B)Z"), (4, .methodref 550 506), (0, .class_ 551), (0, u "java/lang/AbstractStringBuilder"), (0, .methodref 550 553), (0, .nameAndType 554 340), (0, u "getValue"), (18, u "(Ljava/lang/Object;)Z"), (1, .class_ 576), (0, u "java/lang/CharSequence"), (22, u "CASE_INSENSITIVE_ORDER"), (0, u "Ljava/util/Comparator;"), (181, u "valueOf"), (0, u "(C)Ljava/lang/String;"), (37, u "([BIB)V"), (188, u "([C)V"), (4, .methodref 107 1016), (0, .nameAndType 1017 369), (0, u "canEncode"), (0, .methodref 107 1019), (0, .nameAndType 53 1020), (0, u "(C)[B"), (26, .methodref 550 493), (53, u "serialPersistentFields"), (0, u "[Ljava/io/ObjectStreamField;"), (0, .class_ 1104), (0, u "java/lang/String$CaseInsensitiveComparator"), (1, .class_ 1107), (0, u "java/io/Serializable"), (0, .class_ 1109), (0, u "java/lang/Comparable"), (0, .class_ 1111), (0, u "java/lang/constant/Constable"), (0, .class_ 1113), (0, u "java/lang/constant/ConstantDesc"), (2, u "serialVersionUID"), (0, u "J"), (3, u "REPL"), (0, u "C"), (2, u "LATIN1"), (1, u "UTF16"), (105, u "(Ljava/lang/StringBuilder;)V")] 217

def k7m0 : Method := { name := "<init>", desc := "()V", sig := { parameters := [], returnType := none }, accessFlags := 1, code := none }
def k7c1 : Code := { maxStack := 5, maxLocals := 2, code := jdk_42_method_3_code, exceptionTable := #[], attributes := #[] }
def k7m1 : Method := { name := "<init>", desc := "([C)V", sig := { parameters := [(.array .char)], returnType := none }, accessFlags := 1, code := some k7c1 }
def k7c2 : Code := { maxStack := 3, maxLocals := 2, code := jdk_42_method_53_code, exceptionTable := #[], attributes := #[] }
def k7m2 : Method := { name := "<init>", desc := "(Ljava/lang/StringBuilder;)V", sig := { parameters := [(.object "java/lang/StringBuilder")], returnType := none }, accessFlags := 1, code := some k7c2 }
def k7c3 : Code := { maxStack := 2, maxLocals := 1, code := jdk_42_method_54_code, exceptionTable := #[], attributes := #[] }
def k7m3 : Method := { name := "length", desc := "()I", sig := { parameters := [], returnType := some .int }, accessFlags := 1, code := some k7c3 }
def k7c4 : Code := { maxStack := 2, maxLocals := 3, code := jdk_42_method_66_code, exceptionTable := #[], attributes := #[] }
def k7m4 : Method := { name := "equals", desc := "(Ljava/lang/Object;)Z", sig := { parameters := [(.object "java/lang/Object")], returnType := some .boolean }, accessFlags := 1, code := some k7c4 }
def k7c5 : Code := { maxStack := 4, maxLocals := 1, code := jdk_42_method_139_code, exceptionTable := #[], attributes := #[] }
def k7m5 : Method := { name := "valueOf", desc := "(C)Ljava/lang/String;", sig := { parameters := [.char], returnType := some (.object "java/lang/String") }, accessFlags := 9, code := some k7c5 }
def k7c6 : Code := { maxStack := 5, maxLocals := 4, code := jdk_42_method_147_code, exceptionTable := #[], attributes := #[] }
def k7m6 : Method := { name := "getBytes", desc := "([BIB)V", sig := { parameters := [(.array .byte), .int, .byte], returnType := none }, accessFlags := 0, code := some k7c6 }
def k7c7 : Code := { maxStack := 4, maxLocals := 6, code := jdk_42_method_149_code, exceptionTable := #[], attributes := #[] }
def k7m7 : Method := { name := "<init>", desc := "([CIILjava/lang/Void;)V", sig := { parameters := [(.array .char), .int, .int, (.object "java/lang/Void")], returnType := none }, accessFlags := 2, code := some k7c7 }
def k7c8 : Code := { maxStack := 5, maxLocals := 5, code := jdk_42_method_150_code, exceptionTable := #[], attributes := #[] }
def k7m8 : Method := { name := "<init>", desc := "(Ljava/lang/AbstractStringBuilder;Ljava/lang/Void;)V", sig := { parameters := [(.object "java/lang/AbstractStringBuilder"), (.object "java/lang/Void")], returnType := none }, accessFlags := 0, code := some k7c8 }
def k7c9 : Code := { maxStack := 2, maxLocals := 3, code := jdk_42_method_151_code, exceptionTable := #[], attributes := #[] }
def k7m9 : Method := { name := "<init>", desc := "([BB)V", sig := { parameters := [(.array .byte), .byte], returnType := none }, accessFlags := 0, code := some k7c9 }
def k7c10 : Code := { maxStack := 1, maxLocals := 1, code := jdk_42_method_152_code, exceptionTable := #[], attributes := #[] }
def k7m10 : Method := { name := "coder", desc := "()B", sig := { parameters := [], returnType := some .byte }, accessFlags := 0, code := some k7c10 }
/-- java/lang/String -/
def k7 : Class := { plain "java/lang/String" (some 0) with
  accessFlags := 49
  interfaces := #[2, 3, 4, 5, 6]
  cf := some (fileOf pool7 10 #[.nestMembers #[1103]] #[{ accessFlags := 1, nameIndex := 5, descriptorIndex := 6, attributes := #[] }, { accessFlags := 1, nameIndex := 5, descriptorIndex := 1010, attributes := #[] }, { accessFlags := 1, nameIndex := 5, descriptorIndex := 1233, attributes := #[] }, { accessFlags := 1, nameIndex := 507, descriptorIndex := 334, attributes := #[] }, { accessFlags := 1, nameIndex := 543, descriptorIndex := 573, attributes := #[] }, { accessFlags := 9, nameIndex := 782, descriptorIndex := 783, attributes := #[] }, { accessFlags := 0, nameIndex := 532, descriptorIndex := 821, attributes := #[] }, { accessFlags := 2, nameIndex := 5, descriptorIndex := 29, attributes := #[] }, { accessFlags := 0, nameIndex := 5, descriptorIndex := 491, attributes := #[] }, { accessFlags := 0, nameIndex := 5, descriptorIndex := 211, attributes := #[] }, { accessFlags := 0, nameIndex := 17, descriptorIndex := 337, attributes := #[] }] 49 2 #[1106, 1108, 575, 1110, 1112] #[{ accessFlags := 18, nameIndex := 13, descriptorIndex := 14, attributes := #[] }, { accessFlags := 18, nameIndex := 17, descriptorIndex := 18, attributes := #[] }, { accessFlags := 2, nameIndex := 21, descriptorIndex := 22, attributes := #[] }, { accessFlags := 2, nameIndex := 25, descriptorIndex := 26, attributes := #[] }, { accessFlags := 26, nameIndex := 1116, descriptorIndex := 1117, attributes := #[] }, { accessFlags := 24, nameIndex := 40, descriptorIndex := 26, attributes := #[] }, { accessFlags := 26, nameIndex := 1101, descriptorIndex := 1102, attributes := #[] }, { accessFlags := 26, nameIndex := 1121, descriptorIndex := 1122, attributes := #[] }, { accessFlags := 25, nameIndex := 599, descriptorIndex := 600, attributes := #[] }, { accessFlags := 24, nameIndex := 1125, descriptorIndex := 18, attributes := #[] }, { accessFlags := 24, nameIndex := 1127, descriptorIndex := 18, attributes := #[] }])
  fields := #[{ name := "value", type := (.array .byte), accessFlags := 18, slot := 0, constantValue := 0 }, { name := "coder", type := .byte, accessFlags := 18, slot := 1, constantValue := 0 }, { name := "hash", type := .int, accessFlags := 2, slot := 2, constantValue := 0 }, { name := "hashIsZero", type := .boolean, accessFlags := 2, slot := 3, constantValue := 0 }, { name := "serialVersionUID", type := .long, accessFlags := 26, slot := 0, constantValue := 0 }, { name := "COMPACT_STRINGS", type := .boolean, accessFlags := 24, slot := 1, constantValue := 0 }, { name := "serialPersistentFields", type := (.array (.object "java/io/ObjectStreamField")), accessFlags := 26, slot := 2, constantValue := 0 }, { name := "REPL", type := .char, accessFlags := 26, slot := 3, constantValue := 0 }, { name := "CASE_INSENSITIVE_ORDER", type := (.object "java/util/Comparator"), accessFlags := 25, slot := 4, constantValue := 0 }, { name := "LATIN1", type := .byte, accessFlags := 24, slot := 5, constantValue := 0 }, { name := "UTF16", type := .byte, accessFlags := 24, slot := 6, constantValue := 0 }]
  methods := #[k7m0, k7m1, k7m2, k7m3, k7m4, k7m5, k7m6, k7m7, k7m8, k7m9, k7m10]
  instanceTypes := #[(.array .byte), .byte, .int, .boolean]
  staticTypes := #[.long, .boolean, (.array (.object "java/io/ObjectStreamField")), .char, (.object "java/util/Comparator"), .byte, .byte]
  resolved := Array.replicate 1451 none
  statics := some 0 }

def pool8 : Array CpInfo := pool [(6, .class_ 8), (1, u "java/lang/Object"), (0, u "<init>"), (0, u "()V"), (1, .class_ 14), (1, u "java/lang/StringUTF16"), (31, u "$assertionsDisabled"), (0, u "Z"), (13, u "HI_BYTE_SHIFT"), (0, u "I"), (2, u "LO_BYTE_SHIFT"), (49, .methodref 12 116), (0, .nameAndType 117 118), (0, u "compress"), (0, u "([CI[BII)I"), (3, u "([CII)[B"), (138, u "coderFromArrayLen"), (0, u "([BI)B"), (106, .class_ 371), (1, u "java/lang/StringUTF16$LinesSpliterator"), (58, u "MAX_LENGTH"), (196, .class_ 628), (0, u "java/lang/StringUTF16$CodePointsSpliterator"), (0, .class_ 630), (0, u "java/lang/StringUTF16$CharsSpliterator")] 4

def k8m0 : Method := { name := "<init>", desc := "()V", sig := { parameters := [], returnType := none }, accessFlags := 0, code := none }
def k8c1 : Code := { maxStack := 2, maxLocals := 2, code := jdk_52_method_15_code, exceptionTable := #[], attributes := #[] }
def k8m1 : Method := { name := "coderFromArrayLen", desc := "([BI)B", sig := { parameters := [(.array .byte), .int], returnType := some .byte }, accessFlags := 8, code := some k8c1 }
def k8c2 : Code := { maxStack := 5, maxLocals := 6, code := jdk_52_method_16_code, exceptionTable := #[], attributes := #[] }
def k8m2 : Method := { name := "compress", desc := "([CII)[B", sig := { parameters := [(.array .char), .int, .int], returnType := some (.array .byte) }, accessFlags := 9, code := some k8c2 }
def k8c3 : Code := { maxStack := 3, maxLocals := 7, code := jdk_52_method_21_code, exceptionTable := #[], attributes := #[] }
def k8m3 : Method := { name := "compress", desc := "([CI[BII)I", sig := { parameters := [(.array .char), .int, (.array .byte), .int, .int], returnType := some .int }, accessFlags := 9, code := some k8c3 }
/-- java/lang/StringUTF16 -/
def k8 : Class := { plain "java/lang/StringUTF16" (some 0) with
  accessFlags := 48
  interfaces := #[]
  cf := some (fileOf pool8 12 #[.nestMembers #[627, 629, 369]] #[{ accessFlags := 0, nameIndex := 9, descriptorIndex := 10, attributes := #[] }, { accessFlags := 8, nameIndex := 261, descriptorIndex := 262, attributes := #[] }, { accessFlags := 9, nameIndex := 117, descriptorIndex := 122, attributes := #[] }, { accessFlags := 9, nameIndex := 117, descriptorIndex := 118, attributes := #[] }] 48 6 #[] #[{ accessFlags := 26, nameIndex := 61, descriptorIndex := 62, attributes := #[] }, { accessFlags := 26, nameIndex := 65, descriptorIndex := 62, attributes := #[] }, { accessFlags := 24, nameIndex := 430, descriptorIndex := 62, attributes := #[] }, { accessFlags := 4120, nameIndex := 46, descriptorIndex := 47, attributes := #[] }])
  fields := #[{ name := "HI_BYTE_SHIFT", type := .int, accessFlags := 26, slot := 0, constantValue := 0 }, { name := "LO_BYTE_SHIFT", type := .int, accessFlags := 26, slot := 1, constantValue := 0 }, { name := "MAX_LENGTH", type := .int, accessFlags := 24, slot := 2, constantValue := 0 }, { name := "$assertionsDisabled", type := .boolean, accessFlags := 4120, slot := 3, constantValue := 0 }]
  methods := #[k8m0, k8m1, k8m2, k8m3]
  instanceTypes := #[]
  staticTypes := #[.int, .int, .int, .boolean]
  resolved := Array.replicate 635 none
  statics := none }

def pool9 : Array CpInfo := pool [(4, .class_ 6), (1, u "java/lang/Object"), (0, u "<init>"), (0, u "()V"), (5, .class_ 16), (1, u "java/lang/StringLatin1"), (73, u "canEncode"), (14, u "(C)Z"), (15, u "$assertionsDisabled"), (0, u "Z"), (98, .class_ 223), (1, u "java/lang/StringLatin1$LinesSpliterator"), (57, u "equals"), (0, u "([B[B)Z"), (97, u "toBytes"), (1, u "(C)[B"), (7, .class_ 391), (0, u "java/lang/StringLatin1$CharsSpliterator")] 3

def k9m0 : Method := { name := "<init>", desc := "()V", sig := { parameters := [], returnType := none }, accessFlags := 0, code := none }
def k9c1 : Code := { maxStack := 2, maxLocals := 1, code := jdk_43_method_3_code, exceptionTable := #[], attributes := #[] }
def k9m1 : Method := { name := "canEncode", desc := "(C)Z", sig := { parameters := [.char], returnType := some .boolean }, accessFlags := 9, code := some k9c1 }
def k9c2 : Code := { maxStack := 3, maxLocals := 3, code := jdk_43_method_13_code, exceptionTable := #[], attributes := #[] }
def k9m2 : Method := { name := "equals", desc := "([B[B)Z", sig := { parameters := [(.array .byte), (.array .byte)], returnType := some .boolean }, accessFlags := 9, code := some k9c2 }
def k9c3 : Code := { maxStack := 4, maxLocals := 1, code := jdk_43_method_46_code, exceptionTable := #[], attributes := #[] }
def k9m3 : Method := { name := "toBytes", desc := "(C)[B", sig := { parameters := [.char], returnType := some (.array .byte) }, accessFlags := 9, code := some k9c3 }
/-- java/lang/StringLatin1 -/
def k9 : Class := { plain "java/lang/StringLatin1" (some 0) with
  accessFlags := 48
  interfaces := #[]
  cf := some (fileOf pool9 14 #[.nestMembers #[390, 221]] #[{ accessFlags := 0, nameIndex := 7, descriptorIndex := 8, attributes := #[] }, { accessFlags := 9, nameIndex := 90, descriptorIndex := 105, attributes := #[] }, { accessFlags := 9, nameIndex := 281, descriptorIndex := 282, attributes := #[] }, { accessFlags := 9, nameIndex := 380, descriptorIndex := 382, attributes := #[] }] 48 4 #[] #[{ accessFlags := 4120, nameIndex := 121, descriptorIndex := 122, attributes := #[] }])
  fields := #[{ name := "$assertionsDisabled", type := .boolean, accessFlags := 4120, slot := 0, constantValue := 0 }]
  methods := #[k9m0, k9m1, k9m2, k9m3]
  instanceTypes := #[]
  staticTypes := #[.boolean]
  resolved := Array.replicate 395 none
  statics := none }

def pool10 : Array CpInfo := pool [(1, .methodref 2 3), (0, .class_ 4), (0, .nameAndType 5 6), (0, u "java/lang/Object"), (0, u "<init>"), (0, u "()V"), (0, .class_ 8), (0, u "java/lang/StringBuilder"), (0, .methodref 7 3), (0, .fieldref 11 12), (0, .class_ 13), (0, .nameAndType 14 15), (0, u "com/example/phasescope/phasescope/ServerTiming"), (0, u "value"), (0, u "Ljava/lang/StringBuilder;"), (2, u "PHASE_NAMES"), (0, u "[Ljava/lang/String;"), (2, u "PHASE_DESCRIPTIONS"), (8, .methodref 11 32), (0, .nameAndType 33 34), (0, u "next"), (0, u "()Ljava/lang/StringBuilder;"), (0, .string 36), (0, u "trace;desc=\""), (0, .methodref 7 38), (0, .nameAndType 39 40), (0, u "append"), (0, u "(Ljava/lang/String;)Ljava/lang/StringBuilder;"), (0, .methodref 7 42), (0, .nameAndType 39 43), (0, u "(C)Ljava/lang/StringBuilder;"), (0, .methodref 7 45), (0, .nameAndType 46 47), (0, u "toString"), (0, u "()Ljava/lang/String;"), (20, .methodref 7 69), (0, .nameAndType 70 71), (0, u "length"), (0, u "()I"), (0, .string 73), (0, u ", "), (24, u "HEADER"), (0, u "Ljava/lang/String;"), (8, u "trace"), (0, u "(Ljava/lang/String;)Lcom/example/phasescope/phasescope/ServerTiming;")] 4

def k10c0 : Code := { maxStack := 3, maxLocals := 1, code := prog_4_method_1_code, exceptionTable := #[], attributes := #[] }
def k10m0 : Method := { name := "<init>", desc := "()V", sig := { parameters := [], returnType := none }, accessFlags := 0, code := some k10c0 }
def k10c1 : Code := { maxStack := 2, maxLocals := 2, code := prog_4_method_4_code, exceptionTable := #[], attributes := #[] }
def k10m1 : Method := { name := "trace", desc := "(Ljava/lang/String;)Lcom/example/phasescope/phasescope/ServerTiming;", sig := { parameters := [(.object "java/lang/String")], returnType := some (.object "com/example/phasescope/phasescope/ServerTiming") }, accessFlags := 0, code := some k10c1 }
def k10c2 : Code := { maxStack := 1, maxLocals := 1, code := prog_4_method_5_code, exceptionTable := #[], attributes := #[] }
def k10m2 : Method := { name := "toString", desc := "()Ljava/lang/String;", sig := { parameters := [], returnType := some (.object "java/lang/String") }, accessFlags := 1, code := some k10c2 }
def k10c3 : Code := { maxStack := 2, maxLocals := 1, code := prog_4_method_7_code, exceptionTable := #[], attributes := #[] }
def k10m3 : Method := { name := "next", desc := "()Ljava/lang/StringBuilder;", sig := { parameters := [], returnType := some (.object "java/lang/StringBuilder") }, accessFlags := 2, code := some k10c3 }
/-- com/example/phasescope/phasescope/ServerTiming -/
def k10 : Class := { plain "com/example/phasescope/phasescope/ServerTiming" (some 0) with
  accessFlags := 48
  interfaces := #[]
  cf := some (fileOf pool10 11 #[] #[{ accessFlags := 0, nameIndex := 5, descriptorIndex := 6, attributes := #[] }, { accessFlags := 0, nameIndex := 108, descriptorIndex := 109, attributes := #[] }, { accessFlags := 1, nameIndex := 46, descriptorIndex := 47, attributes := #[] }, { accessFlags := 2, nameIndex := 33, descriptorIndex := 34, attributes := #[] }] 48 2 #[] #[{ accessFlags := 24, nameIndex := 98, descriptorIndex := 99, attributes := #[] }, { accessFlags := 26, nameIndex := 18, descriptorIndex := 19, attributes := #[] }, { accessFlags := 26, nameIndex := 22, descriptorIndex := 19, attributes := #[] }, { accessFlags := 18, nameIndex := 14, descriptorIndex := 15, attributes := #[] }])
  fields := #[{ name := "HEADER", type := (.object "java/lang/String"), accessFlags := 24, slot := 0, constantValue := 0 }, { name := "PHASE_NAMES", type := (.array (.object "java/lang/String")), accessFlags := 26, slot := 1, constantValue := 0 }, { name := "PHASE_DESCRIPTIONS", type := (.array (.object "java/lang/String")), accessFlags := 26, slot := 2, constantValue := 0 }, { name := "value", type := (.object "java/lang/StringBuilder"), accessFlags := 18, slot := 0, constantValue := 0 }]
  methods := #[k10m0, k10m1, k10m2, k10m3]
  instanceTypes := #[(.object "java/lang/StringBuilder")]
  staticTypes := #[(.object "java/lang/String"), (.array (.object "java/lang/String")), (.array (.object "java/lang/String"))]
  resolved := Array.replicate 114 none
  statics := none }

def pool11 : Array CpInfo := pool [(1, .class_ 2), (0, u "java/lang/Appendable"), (0, .class_ 4), (0, u "java/lang/Object")] 9

/-- java/lang/Appendable -/
def k11 : Class := { plain "java/lang/Appendable" (some 0) with
  accessFlags := 1537
  interfaces := #[]
  cf := some (fileOf pool11 1 #[] #[] 1537 3 #[] #[])
  fields := #[]
  methods := #[]
  instanceTypes := #[]
  staticTypes := #[]
  resolved := Array.replicate 14 none
  statics := none }

def pool12 : Array CpInfo := pool [(1, .class_ 2), (0, u "java/lang/String"), (0, .methodref 4 5), (0, .class_ 6), (0, .nameAndType 7 8), (0, u "java/lang/Object"), (0, u "<init>"), (0, u "()V"), (1, .class_ 12), (1, u "java/lang/AbstractStringBuilder"), (0, u "EMPTYVALUE"), (0, u "[B"), (0, .fieldref 10 16), (0, .nameAndType 17 14), (0, u "value"), (0, .fieldref 1 19), (0, .nameAndType 20 21), (0, u "COMPACT_STRINGS"), (0, u "Z"), (0, .fieldref 10 23), (0, .nameAndType 24 25), (0, u "coder"), (0, u "B"), (6, .methodref 1 33), (0, .nameAndType 34 35), (0, u "length"), (0, u "()I"), (3, .integer 2147483647), (0, .methodref 1 41), (0, .nameAndType 24 42), (0, u "()B"), (2, u "append"), (0, u "(Ljava/lang/String;)Ljava/lang/AbstractStringBuilder;"), (1, .class_ 49), (0, u "java/lang/CharSequence"), (19, u "(Ljava/lang/String;)V"), (5, u "maybeLatin1"), (3, .fieldref 10 80), (0, .nameAndType 81 82), (0, u "count"), (0, u "I"), (0, .methodref 10 84), (0, .nameAndType 85 86), (0, u "isLatin1"), (0, u "()Z"), (1, .class_ 90), (1, u "java/lang/StringLatin1"), (9, .methodref 10 101), (0, .nameAndType 102 103), (0, u "ensureCapacityInternal"), (0, u "(I)V"), (0, .methodref 10 105), (0, .nameAndType 106 107), (0, u "newCapacity"), (0, u "(I)I"), (0, .methodref 109 110), (0, .class_ 111), (0, .nameAndType 112 113), (0, u "java/util/Arrays"), (0, u "copyOf"), (0, u "([BI)[B"), (0, .methodref 115 116), (0, .class_ 117), (0, .nameAndType 118 119), (0, u "jdk/internal/util/ArraysSupport"), (0, u "newLength"), (0, u "(III)I"), (71, .methodref 88 192), (0, .nameAndType 193 194), (0, u "canEncode"), (0, u "(C)Z"), (13, .methodref 10 209), (0, .nameAndType 210 211), (0, u "putStringAt"), (0, u "(ILjava/lang/String;)V"), (5, u "inflateIfNeededFor"), (2, .nameAndType 221 222), (0, u "getBytes"), (0, u "([BIB)V"), (69, u "(C)Ljava/lang/AbstractStringBuilder;"), (104, .methodref 10 398), (0, .nameAndType 217 69), (0, .methodref 1 220), (3, u "()[B"), (40, .class_ 445), (0, u "java/lang/Appendable"), (106, u "getValue")] 56

def k12m0 : Method := { name := "<init>", desc := "()V", sig := { parameters := [], returnType := none }, accessFlags := 0, code := none }
def k12c1 : Code := { maxStack := 2, maxLocals := 2, code := jdk_68_method_2_code, exceptionTable := #[], attributes := #[] }
def k12m1 : Method := { name := "<init>", desc := "(I)V", sig := { parameters := [.int], returnType := none }, accessFlags := 0, code := some k12c1 }
def k12c2 : Code := { maxStack := 1, maxLocals := 1, code := jdk_68_method_6_code, exceptionTable := #[], attributes := #[] }
def k12m2 : Method := { name := "length", desc := "()I", sig := { parameters := [], returnType := some .int }, accessFlags := 1, code := some k12c2 }
def k12c3 : Code := { maxStack := 4, maxLocals := 3, code := jdk_68_method_9_code, exceptionTable := #[], attributes := #[] }
def k12m3 : Method := { name := "ensureCapacityInternal", desc := "(I)V", sig := { parameters := [.int], returnType := none }, accessFlags := 2, code := some k12c3 }
def k12c4 : Code := { maxStack := 5, maxLocals := 6, code := jdk_68_method_10_code, exceptionTable := #[], attributes := #[] }
def k12m4 : Method := { name := "newCapacity", desc := "(I)I", sig := { parameters := [.int], returnType := some .int }, accessFlags := 2, code := some k12c4 }
def k12c5 : Code := { maxStack := 3, maxLocals := 3, code := jdk_68_method_22_code, exceptionTable := #[], attributes := #[] }
def k12m5 : Method := { name := "append", desc := "(Ljava/lang/String;)Ljava/lang/AbstractStringBuilder;", sig := { parameters := [(.object "java/lang/String")], returnType := some (.object "java/lang/AbstractStringBuilder") }, accessFlags := 1, code := some k12c5 }
def k12c6 : Code := { maxStack := 5, maxLocals := 2, code := jdk_68_method_31_code, exceptionTable := #[], attributes := #[] }
def k12m6 : Method := { name := "append", desc := "(C)Ljava/lang/AbstractStringBuilder;", sig := { parameters := [.char], returnType := some (.object "java/lang/AbstractStringBuilder") }, accessFlags := 1, code := some k12c6 }
def k12c7 : Code := { maxStack := 1, maxLocals := 1, code := jdk_68_method_64_code, exceptionTable := #[], attributes := #[] }
def k12m7 : Method := { name := "getValue", desc := "()[B", sig := { parameters := [], returnType := some (.array .byte) }, accessFlags := 16, code := some k12c7 }
def k12c8 : Code := { maxStack := 1, maxLocals := 1, code := jdk_68_method_68_code, exceptionTable := #[], attributes := #[] }
def k12m8 : Method := { name := "isLatin1", desc := "()Z", sig := { parameters := [], returnType := some .boolean }, accessFlags := 16, code := some k12c8 }
def k12c9 : Code := { maxStack := 2, maxLocals := 2, code := jdk_68_method_71_code, exceptionTable := #[], attributes := #[] }
def k12m9 : Method := { name := "inflateIfNeededFor", desc := "(Ljava/lang/String;)V", sig := { parameters := [(.object "java/lang/String")], returnType := none }, accessFlags := 2, code := some k12c9 }
def k12c10 : Code := { maxStack := 4, maxLocals := 3, code := jdk_68_method_73_code, exceptionTable := #[], attributes := #[] }
def k12m10 : Method := { name := "putStringAt", desc := "(ILjava/lang/String;)V", sig := { parameters := [.int, (.object "java/lang/String")], returnType := none }, accessFlags := 2, code := some k12c10 }
/-- java/lang/AbstractStringBuilder -/
def k12 : Class := { plain "java/lang/AbstractStringBuilder" (some 0) with
  accessFlags := 1056
  interfaces := #[11, 4]
  cf := some (fileOf pool12 10 #[] #[{ accessFlags := 0, nameIndex := 7, descriptorIndex := 8, attributes := #[] }, { accessFlags := 0, nameIndex := 7, descriptorIndex := 103, attributes := #[] }, { accessFlags := 1, nameIndex := 34, descriptorIndex := 35, attributes := #[] }, { accessFlags := 2, nameIndex := 102, descriptorIndex := 103, attributes := #[] }, { accessFlags := 2, nameIndex := 106, descriptorIndex := 107, attributes := #[] }, { accessFlags := 1, nameIndex := 45, descriptorIndex := 46, attributes := #[] }, { accessFlags := 1, nameIndex := 45, descriptorIndex := 292, attributes := #[] }, { accessFlags := 16, nameIndex := 552, descriptorIndex := 403, attributes := #[] }, { accessFlags := 16, nameIndex := 85, descriptorIndex := 86, attributes := #[] }, { accessFlags := 2, nameIndex := 217, descriptorIndex := 69, attributes := #[] }, { accessFlags := 2, nameIndex := 210, descriptorIndex := 211, attributes := #[] }] 1056 4 #[444, 48] #[{ accessFlags := 0, nameIndex := 17, descriptorIndex := 14, attributes := #[] }, { accessFlags := 0, nameIndex := 24, descriptorIndex := 25, attributes := #[] }, { accessFlags := 0, nameIndex := 75, descriptorIndex := 21, attributes := #[] }, { accessFlags := 0, nameIndex := 81, descriptorIndex := 82, attributes := #[] }, { accessFlags := 26, nameIndex := 13, descriptorIndex := 14, attributes := #[] }])
  fields := #[{ name := "value", type := (.array .byte), accessFlags := 0, slot := 0, constantValue := 0 }, { name := "coder", type := .byte, accessFlags := 0, slot := 1, constantValue := 0 }, { name := "maybeLatin1", type := .boolean, accessFlags := 0, slot := 2, constantValue := 0 }, { name := "count", type := .int, accessFlags := 0, slot := 3, constantValue := 0 }, { name := "EMPTYVALUE", type := (.array .byte), accessFlags := 26, slot := 0, constantValue := 0 }]
  methods := #[k12m0, k12m1, k12m2, k12m3, k12m4, k12m5, k12m6, k12m7, k12m8, k12m9, k12m10]
  instanceTypes := #[(.array .byte), .byte, .boolean, .int]
  staticTypes := #[(.array .byte)]
  resolved := Array.replicate 609 none
  statics := none }

def pool13 : Array CpInfo := pool [(1, .methodref 2 3), (0, .class_ 4), (0, .nameAndType 5 6), (0, u "java/lang/AbstractStringBuilder"), (0, u "<init>"), (0, u "(I)V"), (11, .class_ 20), (1, u "java/lang/String"), (3, .class_ 26), (1, u "java/lang/StringBuilder"), (0, u "append"), (0, u "(Ljava/lang/String;)Ljava/lang/StringBuilder;"), (0, .methodref 2 30), (0, .nameAndType 27 31), (0, u "(Ljava/lang/String;)Ljava/lang/AbstractStringBuilder;"), (18, .methodref 2 51), (0, .nameAndType 27 52), (0, u "(C)Ljava/lang/AbstractStringBuilder;"), (84, .methodref 18 138), (0, .nameAndType 5 139), (0, u "(Ljava/lang/StringBuilder;)V"), (5, u "()V"), (10, u "()I"), (129, u "(C)Ljava/lang/StringBuilder;"), (56, .methodref 2 344), (0, .nameAndType 345 156), (0, u "length"), (3, .class_ 350), (0, u "java/lang/Appendable"), (0, .class_ 352), (0, u "java/io/Serializable"), (0, .class_ 354), (0, u "java/lang/Comparable"), (0, .class_ 356), (0, u "java/lang/CharSequence"), (0, u "serialVersionUID"), (0, u "J"), (40, u "toString"), (0, u "()Ljava/lang/String;")] 21

def k13c0 : Code := { maxStack := 2, maxLocals := 1, code := jdk_67_method_1_code, exceptionTable := #[], attributes := #[] }
def k13m0 : Method := { name := "<init>", desc := "()V", sig := { parameters := [], returnType := none }, accessFlags := 1, code := some k13c0 }
def k13c1 : Code := { maxStack := 2, maxLocals := 2, code := jdk_67_method_7_code, exceptionTable := #[], attributes := #[] }
def k13m1 : Method := { name := "append", desc := "(Ljava/lang/String;)Ljava/lang/StringBuilder;", sig := { parameters := [(.object "java/lang/String")], returnType := some (.object "java/lang/StringBuilder") }, accessFlags := 1, code := some k13c1 }
def k13c2 : Code := { maxStack := 2, maxLocals := 2, code := jdk_67_method_14_code, exceptionTable := #[], attributes := #[] }
def k13m2 : Method := { name := "append", desc := "(C)Ljava/lang/StringBuilder;", sig := { parameters := [.char], returnType := some (.object "java/lang/StringBuilder") }, accessFlags := 1, code := some k13c2 }
def k13c3 : Code := { maxStack := 3, maxLocals := 1, code := jdk_67_method_42_code, exceptionTable := #[], attributes := #[] }
def k13m3 : Method := { name := "toString", desc := "()Ljava/lang/String;", sig := { parameters := [], returnType := some (.object "java/lang/String") }, accessFlags := 1, code := some k13c3 }
def k13c4 : Code := { maxStack := 1, maxLocals := 1, code := jdk_67_method_93_code, exceptionTable := #[], attributes := #[] }
def k13m4 : Method := { name := "length", desc := "()I", sig := { parameters := [], returnType := some .int }, accessFlags := 4161, code := some k13c4 }
/-- java/lang/StringBuilder -/
def k13 : Class := { plain "java/lang/StringBuilder" (some 12) with
  accessFlags := 49
  interfaces := #[11, 2, 3, 4]
  cf := some (fileOf pool13 24 #[] #[{ accessFlags := 1, nameIndex := 5, descriptorIndex := 145, attributes := #[] }, { accessFlags := 1, nameIndex := 27, descriptorIndex := 28, attributes := #[] }, { accessFlags := 1, nameIndex := 27, descriptorIndex := 286, attributes := #[] }, { accessFlags := 1, nameIndex := 399, descriptorIndex := 400, attributes := #[] }, { accessFlags := 4161, nameIndex := 345, descriptorIndex := 156, attributes := #[] }] 49 2 #[349, 351, 353, 355] #[{ accessFlags := 24, nameIndex := 357, descriptorIndex := 358, attributes := #[] }])
  fields := #[{ name := "serialVersionUID", type := .long, accessFlags := 24, slot := 0, constantValue := 0 }]
  methods := #[k13m0, k13m1, k13m2, k13m3, k13m4]
  instanceTypes := #[(.array .byte), .byte, .boolean, .int]
  staticTypes := #[.long]
  resolved := Array.replicate 422 none
  statics := none }

def pool14 : Array CpInfo := pool [(2, .class_ 4), (1, u "java/lang/Object"), (0, u "<init>"), (0, u "()V"), (1, .class_ 10), (1, u "java/lang/System"), (0, u "allowSecurityManager"), (0, u "I"), (16, u "cons"), (0, u "Ljava/io/Console;"), (77, .class_ 110), (1, u "java/lang/System$CallersHolder"), (43, u "initialErrStream"), (0, u "Ljava/io/PrintStream;"), (19, u "security"), (0, u "Ljava/lang/SecurityManager;"), (31, .class_ 209), (0, u "java/lang/System$1"), (7, u "props"), (0, u "Ljava/util/Properties;"), (2, u "lineSeparator"), (0, u "Ljava/lang/String;"), (96, .class_ 321), (1, u "java/lang/System$LoggerFinder"), (5, .class_ 328), (0, u "java/lang/System$Logger"), (67, u "err"), (2, u "out"), (91, u "notSupportedJnuEncoding"), (15, u "in"), (17, u "initialIn"), (0, u "Ljava/io/InputStream;"), (35, u "bootLayer"), (0, u "Ljava/lang/ModuleLayer;"), (99, .class_ 664), (0, u "java/lang/System$2"), (9, u "NEVER"), (2, u "MAYBE"), (49, u "arraycopy"), (0, u "(Ljava/lang/Object;ILjava/lang/Object;II)V"), (72, .class_ 802), (0, u "java/lang/System$Logger$Level")] 31

def k14m0 : Method := { name := "<init>", desc := "()V", sig := { parameters := [], returnType := none }, accessFlags := 2, code := none }
def k14m1 : Method := { name := "arraycopy", desc := "(Ljava/lang/Object;ILjava/lang/Object;II)V", sig := { parameters := [(.object "java/lang/Object"), .int, (.object "java/lang/Object"), .int, .int], returnType := none }, accessFlags := 265, code := none }
/-- java/lang/System -/
def k14 : Class := { plain "java/lang/System" (some 0) with
  accessFlags := 49
  interfaces := #[]
  cf := some (fileOf pool14 8 #[.nestMembers #[319, 327, 801, 108, 663, 208]] #[{ accessFlags := 2, nameIndex := 5, descriptorIndex := 6, attributes := #[] }, { accessFlags := 265, nameIndex := 727, descriptorIndex := 728, attributes := #[] }] 49 2 #[] #[{ accessFlags := 25, nameIndex := 507, descriptorIndex := 526, attributes := #[] }, { accessFlags := 25, nameIndex := 399, descriptorIndex := 155, attributes := #[] }, { accessFlags := 25, nameIndex := 396, descriptorIndex := 155, attributes := #[] }, { accessFlags := 10, nameIndex := 525, descriptorIndex := 526, attributes := #[] }, { accessFlags := 26, nameIndex := 674, descriptorIndex := 12, attributes := #[] }, { accessFlags := 26, nameIndex := 677, descriptorIndex := 12, attributes := #[] }, { accessFlags := 10, nameIndex := 11, descriptorIndex := 12, attributes := #[] }, { accessFlags := 74, nameIndex := 175, descriptorIndex := 176, attributes := #[] }, { accessFlags := 10, nameIndex := 491, descriptorIndex := 222, attributes := #[] }, { accessFlags := 74, nameIndex := 29, descriptorIndex := 30, attributes := #[] }, { accessFlags := 74, nameIndex := 154, descriptorIndex := 155, attributes := #[] }, { accessFlags := 10, nameIndex := 217, descriptorIndex := 218, attributes := #[] }, { accessFlags := 10, nameIndex := 221, descriptorIndex := 222, attributes := #[] }, { accessFlags := 8, nameIndex := 562, descriptorIndex := 563, attributes := #[] }])
  fields := #[{ name := "in", type := (.object "java/io/InputStream"), accessFlags := 25, slot := 0, constantValue := 0 }, { name := "out", type := (.object "java/io/PrintStream"), accessFlags := 25, slot := 1, constantValue := 0 }, { name := "err", type := (.object "java/io/PrintStream"), accessFlags := 25, slot := 2, constantValue := 0 }, { name := "initialIn", type := (.object "java/io/InputStream"), accessFlags := 10, slot := 3, constantValue := 0 }, { name := "NEVER", type := .int, accessFlags := 26, slot := 4, constantValue := 0 }, { name := "MAYBE", type := .int, accessFlags := 26, slot := 5, constantValue := 0 }, { name := "allowSecurityManager", type := .int, accessFlags := 10, slot := 6, constantValue := 0 }, { name := "security", type := (.object "java/lang/SecurityManager"), accessFlags := 74, slot := 7, constantValue := 0 }, { name := "notSupportedJnuEncoding", type := (.object "java/lang/String"), accessFlags := 10, slot := 8, constantValue := 0 }, { name := "cons", type := (.object "java/io/Console"), accessFlags := 74, slot := 9, constantValue := 0 }, { name := "initialErrStream", type := (.object "java/io/PrintStream"), accessFlags := 74, slot := 10, constantValue := 0 }, { name := "props", type := (.object "java/util/Properties"), accessFlags := 10, slot := 11, constantValue := 0 }, { name := "lineSeparator", type := (.object "java/lang/String"), accessFlags := 10, slot := 12, constantValue := 0 }, { name := "bootLayer", type := (.object "java/lang/ModuleLayer"), accessFlags := 8, slot := 13, constantValue := 0 }]
  methods := #[k14m0, k14m1]
  instanceTypes := #[]
  staticTypes := #[(.object "java/io/InputStream"), (.object "java/io/PrintStream"), (.object "java/io/PrintStream"), (.object "java/io/InputStream"), .int, .int, .int, (.object "java/lang/SecurityManager"), (.object "java/lang/String"), (.object "java/io/Console"), (.object "java/io/PrintStream"), (.object "java/util/Properties"), (.object "java/lang/String"), (.object "java/lang/ModuleLayer")]
  resolved := Array.replicate 834 none
  statics := none }

def pool15 : Array CpInfo := pool [(9, u "<init>"), (6, .class_ 18), (1, u "java/lang/Object"), (0, u "()V"), (1, .class_ 23), (1, u "jdk/internal/util/ArraysSupport"), (0, u "LOG2_ARRAY_LONG_INDEX_SCALE"), (0, u "I"), (2, u "U"), (0, u "Ljdk/internal/misc/Unsafe;"), (8, u "BIG_ENDIAN"), (0, u "Z"), (8, u "LOG2_BYTE_BIT_SIZE"), (4, u "LOG2_ARRAY_INT_INDEX_SCALE"), (54, u "JLA"), (0, u "Ljdk/internal/access/JavaLangAccess;"), (11, u "LOG2_ARRAY_BOOLEAN_INDEX_SCALE"), (9, u "LOG2_ARRAY_BYTE_INDEX_SCALE"), (5, u "LOG2_ARRAY_CHAR_INDEX_SCALE"), (5, u "LOG2_ARRAY_SHORT_INDEX_SCALE"), (18, u "LOG2_ARRAY_FLOAT_INDEX_SCALE"), (24, u "LOG2_ARRAY_DOUBLE_INDEX_SCALE"), (6, .methodref 195 196), (0, .class_ 197), (0, .nameAndType 198 199), (0, u "java/lang/Math"), (0, u "max"), (0, u "(II)I"), (0, .integer 2147483639), (76, u "T_BOOLEAN"), (2, u "T_CHAR"), (1, u "T_FLOAT"), (1, u "T_DOUBLE"), (1, u "T_BYTE"), (1, u "T_SHORT"), (1, u "T_INT"), (1, u "T_LONG"), (1, u "SOFT_MAX_ARRAY_LENGTH"), (56, u "newLength"), (0, u "(III)I")] 25

def k15m0 : Method := { name := "<init>", desc := "()V", sig := { parameters := [], returnType := none }, accessFlags := 2, code := none }
def k15c1 : Code := { maxStack := 3, maxLocals := 4, code := jdk_48_method_27_code, exceptionTable := #[], attributes := #[] }
def k15m1 : Method := { name := "newLength", desc := "(III)I", sig := { parameters := [.int, .int, .int], returnType := some .int }, accessFlags := 9, code := some k15c1 }
/-- jdk/internal/util/ArraysSupport -/
def k15 : Class := { plain "jdk/internal/util/ArraysSupport" (some 0) with
  accessFlags := 33
  interfaces := #[]
  cf := some (fileOf pool15 21 #[] #[{ accessFlags := 2, nameIndex := 9, descriptorIndex := 19, attributes := #[] }, { accessFlags := 9, nameIndex := 351, descriptorIndex := 352, attributes := #[] }] 33 16 #[] #[{ accessFlags := 24, nameIndex := 28, descriptorIndex := 29, attributes := #[] }, { accessFlags := 26, nameIndex := 38, descriptorIndex := 39, attributes := #[] }, { accessFlags := 25, nameIndex := 121, descriptorIndex := 25, attributes := #[] }, { accessFlags := 25, nameIndex := 131, descriptorIndex := 25, attributes := #[] }, { accessFlags := 25, nameIndex := 137, descriptorIndex := 25, attributes := #[] }, { accessFlags := 25, nameIndex := 143, descriptorIndex := 25, attributes := #[] }, { accessFlags := 25, nameIndex := 53, descriptorIndex := 25, attributes := #[] }, { accessFlags := 25, nameIndex := 24, descriptorIndex := 25, attributes := #[] }, { accessFlags := 25, nameIndex := 162, descriptorIndex := 25, attributes := #[] }, { accessFlags := 25, nameIndex := 187, descriptorIndex := 25, attributes := #[] }, { accessFlags := 26, nameIndex := 48, descriptorIndex := 25, attributes := #[] }, { accessFlags := 25, nameIndex := 277, descriptorIndex := 25, attributes := #[] }, { accessFlags := 25, nameIndex := 280, descriptorIndex := 25, attributes := #[] }, { accessFlags := 25, nameIndex := 282, descriptorIndex := 25, attributes := #[] }, { accessFlags := 25, nameIndex := 284, descriptorIndex := 25, attributes := #[] }, { accessFlags := 25, nameIndex := 286, descriptorIndex := 25, attributes := #[] }, { accessFlags := 25, nameIndex := 288, descriptorIndex := 25, attributes := #[] }, { accessFlags := 25, nameIndex := 290, descriptorIndex := 25, attributes := #[] }, { accessFlags := 25, nameIndex := 292, descriptorIndex := 25, attributes := #[] }, { accessFlags := 26, nameIndex := 108, descriptorIndex := 109, attributes := #[] }, { accessFlags := 25, nameIndex := 294, descriptorIndex := 25, attributes := #[] }])
  fields := #[{ name := "U", type := (.object "jdk/internal/misc/Unsafe"), accessFlags := 24, slot := 0, constantValue := 0 }, { name := "BIG_ENDIAN", type := .boolean, accessFlags := 26, slot := 1, constantValue := 0 }, { name := "LOG2_ARRAY_BOOLEAN_INDEX_SCALE", type := .int, accessFlags := 25, slot := 2, constantValue := 0 }, { name := "LOG2_ARRAY_BYTE_INDEX_SCALE", type := .int, accessFlags := 25, slot := 3, constantValue := 0 }, { name := "LOG2_ARRAY_CHAR_INDEX_SCALE", type := .int, accessFlags := 25, slot := 4, constantValue := 0 }, { name := "LOG2_ARRAY_SHORT_INDEX_SCALE", type := .int, accessFlags := 25, slot := 5, constantValue := 0 }, { name := "LOG2_ARRAY_INT_INDEX_SCALE", type := .int, accessFlags := 25, slot := 6, constantValue := 0 }, { name := "LOG2_ARRAY_LONG_INDEX_SCALE", type := .int, accessFlags := 25, slot := 7, constantValue := 0 }, { name := "LOG2_ARRAY_FLOAT_INDEX_SCALE", type := .int, accessFlags := 25, slot := 8, constantValue := 0 }, { name := "LOG2_ARRAY_DOUBLE_INDEX_SCALE", type := .int, accessFlags := 25, slot := 9, constantValue := 0 }, { name := "LOG2_BYTE_BIT_SIZE", type := .int, accessFlags := 26, slot := 10, constantValue := 0 }, { name := "T_BOOLEAN", type := .int, accessFlags := 25, slot := 11, constantValue := 0 }, { name := "T_CHAR", type := .int, accessFlags := 25, slot := 12, constantValue := 0 }, { name := "T_FLOAT", type := .int, accessFlags := 25, slot := 13, constantValue := 0 }, { name := "T_DOUBLE", type := .int, accessFlags := 25, slot := 14, constantValue := 0 }, { name := "T_BYTE", type := .int, accessFlags := 25, slot := 15, constantValue := 0 }, { name := "T_SHORT", type := .int, accessFlags := 25, slot := 16, constantValue := 0 }, { name := "T_INT", type := .int, accessFlags := 25, slot := 17, constantValue := 0 }, { name := "T_LONG", type := .int, accessFlags := 25, slot := 18, constantValue := 0 }, { name := "JLA", type := (.object "jdk/internal/access/JavaLangAccess"), accessFlags := 26, slot := 19, constantValue := 0 }, { name := "SOFT_MAX_ARRAY_LENGTH", type := .int, accessFlags := 25, slot := 20, constantValue := 0 }]
  methods := #[k15m0, k15m1]
  instanceTypes := #[]
  staticTypes := #[(.object "jdk/internal/misc/Unsafe"), .boolean, .int, .int, .int, .int, .int, .int, .int, .int, .int, .int, .int, .int, .int, .int, .int, .int, .int, (.object "jdk/internal/access/JavaLangAccess"), .int]
  resolved := Array.replicate 378 none
  statics := none }

def pool16 : Array CpInfo := pool [(1, .class_ 2), (0, u "java/lang/Math"), (1, .class_ 6), (1, u "java/lang/Object"), (0, u "<init>"), (0, u "()V"), (89, .class_ 100), (1, u "java/lang/Math$RandomNumberGeneratorHolder"), (71, u "negativeZeroFloatBits"), (0, u "J"), (2, u "negativeZeroDoubleBits"), (21, u "max"), (2, u "min"), (43, u "$assertionsDisabled"), (0, u "Z"), (88, u "(II)I"), (2, u "twoToTheDoubleScaleDown"), (0, u "D"), (4, u "twoToTheDoubleScaleUp"), (9, u "E"), (3, u "PI"), (2, u "TAU"), (2, u "DEGREES_TO_RADIANS"), (0, u "RADIANS_TO_DEGREES")] 94

def k16m0 : Method := { name := "<init>", desc := "()V", sig := { parameters := [], returnType := none }, accessFlags := 2, code := none }
def k16c1 : Code := { maxStack := 2, maxLocals := 2, code := jdk_29_method_65_code, exceptionTable := #[], attributes := #[] }
def k16m1 : Method := { name := "max", desc := "(II)I", sig := { parameters := [.int, .int], returnType := some .int }, accessFlags := 9, code := some k16c1 }
def k16c2 : Code := { maxStack := 2, maxLocals := 2, code := jdk_29_method_69_code, exceptionTable := #[], attributes := #[] }
def k16m2 : Method := { name := "min", desc := "(II)I", sig := { parameters := [.int, .int], returnType := some .int }, accessFlags := 9, code := some k16c2 }
/-- java/lang/Math -/
def k16 : Class := { plain "java/lang/Math" (some 0) with
  accessFlags := 49
  interfaces := #[]
  cf := some (fileOf pool16 1 #[.nestMembers #[98]] #[{ accessFlags := 2, nameIndex := 7, descriptorIndex := 8, attributes := #[] }, { accessFlags := 9, nameIndex := 198, descriptorIndex := 335, attributes := #[] }, { accessFlags := 9, nameIndex := 201, descriptorIndex := 335, attributes := #[] }] 49 4 #[] #[{ accessFlags := 25, nameIndex := 354, descriptorIndex := 339, attributes := #[] }, { accessFlags := 25, nameIndex := 358, descriptorIndex := 339, attributes := #[] }, { accessFlags := 25, nameIndex := 361, descriptorIndex := 339, attributes := #[] }, { accessFlags := 26, nameIndex := 364, descriptorIndex := 339, attributes := #[] }, { accessFlags := 26, nameIndex := 365, descriptorIndex := 339, attributes := #[] }, { accessFlags := 26, nameIndex := 172, descriptorIndex := 173, attributes := #[] }, { accessFlags := 26, nameIndex := 176, descriptorIndex := 173, attributes := #[] }, { accessFlags := 8, nameIndex := 344, descriptorIndex := 339, attributes := #[] }, { accessFlags := 8, nameIndex := 338, descriptorIndex := 339, attributes := #[] }, { accessFlags := 4120, nameIndex := 245, descriptorIndex := 246, attributes := #[] }])
  fields := #[{ name := "E", type := .double, accessFlags := 25, slot := 0, constantValue := 0 }, { name := "PI", type := .double, accessFlags := 25, slot := 1, constantValue := 0 }, { name := "TAU", type := .double, accessFlags := 25, slot := 2, constantValue := 0 }, { name := "DEGREES_TO_RADIANS", type := .double, accessFlags := 26, slot := 3, constantValue := 0 }, { name := "RADIANS_TO_DEGREES", type := .double, accessFlags := 26, slot := 4, constantValue := 0 }, { name := "negativeZeroFloatBits", type := .long, accessFlags := 26, slot := 5, constantValue := 0 }, { name := "negativeZeroDoubleBits", type := .long, accessFlags := 26, slot := 6, constantValue := 0 }, { name := "twoToTheDoubleScaleUp", type := .double, accessFlags := 8, slot := 7, constantValue := 0 }, { name := "twoToTheDoubleScaleDown", type := .double, accessFlags := 8, slot := 8, constantValue := 0 }, { name := "$assertionsDisabled", type := .boolean, accessFlags := 4120, slot := 9, constantValue := 0 }]
  methods := #[k16m0, k16m1, k16m2]
  instanceTypes := #[]
  staticTypes := #[.double, .double, .double, .double, .double, .long, .long, .double, .double, .boolean]
  resolved := Array.replicate 460 none
  statics := none }

def pool17 : Array CpInfo := pool [(2, .class_ 4), (1, u "java/lang/Object"), (0, u "<init>"), (0, u "()V"), (7, .class_ 16), (1, u "java/util/Arrays"), (57, .class_ 76), (1, u "java/util/Arrays$NaturalOrder"), (36, .class_ 115), (1, u "java/util/Arrays$LegacyMergeSort"), (1, u "Z"), (21, u "copyOfRange"), (10, .methodref 151 152), (0, .class_ 153), (0, .nameAndType 154 155), (0, u "java/lang/System"), (0, u "arraycopy"), (0, u "(Ljava/lang/Object;ILjava/lang/Object;II)V"), (146, u "copyOf"), (1, .methodref 305 306), (0, .class_ 307), (0, .nameAndType 308 309), (0, u "java/lang/Math"), (0, u "min"), (0, u "(II)I"), (29, .methodref 14 340), (0, .nameAndType 341 342), (0, u "copyOfRangeByte"), (0, u "([BII)[B"), (0, .methodref 14 344), (0, .nameAndType 345 346), (0, u "checkLength"), (0, u "(II)V"), (28, .class_ 376), (0, u "java/util/Arrays$ArrayList"), (68, u "$assertionsDisabled"), (269, u "MIN_ARRAY_SORT_GRAN"), (0, u "I"), (2, u "INSERTIONSORT_THRESHOLD"), (149, u "([BI)[B"), (105, .class_ 976), (0, u "java/util/Arrays$ArrayItr")] 52

def k17m0 : Method := { name := "<init>", desc := "()V", sig := { parameters := [], returnType := none }, accessFlags := 2, code := none }
def k17c1 : Code := { maxStack := 6, maxLocals := 3, code := jdk_65_method_121_code, exceptionTable := #[], attributes := #[] }
def k17m1 : Method := { name := "copyOf", desc := "([BI)[B", sig := { parameters := [(.array .byte), .int], returnType := some (.array .byte) }, accessFlags := 9, code := some k17c1 }
def k17c2 : Code := { maxStack := 4, maxLocals := 2, code := jdk_65_method_131_code, exceptionTable := #[], attributes := #[] }
def k17m2 : Method := { name := "checkLength", desc := "(II)V", sig := { parameters := [.int, .int], returnType := none }, accessFlags := 10, code := some k17c2 }
def k17c3 : Code := { maxStack := 3, maxLocals := 3, code := jdk_65_method_132_code, exceptionTable := #[], attributes := #[] }
def k17m3 : Method := { name := "copyOfRange", desc := "([BII)[B", sig := { parameters := [(.array .byte), .int, .int], returnType := some (.array .byte) }, accessFlags := 9, code := some k17c3 }
def k17c4 : Code := { maxStack := 6, maxLocals := 5, code := jdk_65_method_133_code, exceptionTable := #[], attributes := #[] }
def k17m4 : Method := { name := "copyOfRangeByte", desc := "([BII)[B", sig := { parameters := [(.array .byte), .int, .int], returnType := some (.array .byte) }, accessFlags := 10, code := some k17c4 }
/-- java/util/Arrays -/
def k17 : Class := { plain "java/util/Arrays" (some 0) with
  accessFlags := 49
  interfaces := #[]
  cf := some (fileOf pool17 14 #[.nestMembers #[975, 375, 113, 74]] #[{ accessFlags := 2, nameIndex := 5, descriptorIndex := 6, attributes := #[] }, { accessFlags := 9, nameIndex := 302, descriptorIndex := 869, attributes := #[] }, { accessFlags := 10, nameIndex := 345, descriptorIndex := 346, attributes := #[] }, { accessFlags := 9, nameIndex := 139, descriptorIndex := 342, attributes := #[] }, { accessFlags := 10, nameIndex := 341, descriptorIndex := 342, attributes := #[] }] 49 2 #[] #[{ accessFlags := 26, nameIndex := 715, descriptorIndex := 716, attributes := #[] }, { accessFlags := 26, nameIndex := 719, descriptorIndex := 716, attributes := #[] }, { accessFlags := 4120, nameIndex := 445, descriptorIndex := 117, attributes := #[] }])
  fields := #[{ name := "MIN_ARRAY_SORT_GRAN", type := .int, accessFlags := 26, slot := 0, constantValue := 0 }, { name := "INSERTIONSORT_THRESHOLD", type := .int, accessFlags := 26, slot := 1, constantValue := 0 }, { name := "$assertionsDisabled", type := .boolean, accessFlags := 4120, slot := 2, constantValue := 0 }]
  methods := #[k17m0, k17m1, k17m2, k17m3, k17m4]
  instanceTypes := #[]
  staticTypes := #[.int, .int, .boolean]
  resolved := Array.replicate 1029 none
  statics := none }

def pool18 : Array CpInfo := pool [(2, .class_ 4), (1, u "java/lang/Object"), (0, u "<init>"), (0, u "()V"), (17, .class_ 26), (1, u "jdk/internal/util/Preconditions"), (28, .class_ 56), (0, u "jdk/internal/util/Preconditions$4"), (57, .class_ 115), (0, u "jdk/internal/util/Preconditions$1"), (7, u "SIOOBE_FORMATTER"), (0, u "Ljava/util/function/BiFunction;"), (0, .class_ 126), (0, u "jdk/internal/util/Preconditions$2"), (3, u "AIOOBE_FORMATTER"), (0, .class_ 132), (0, u "jdk/internal/util/Preconditions$3"), (3, u "IOOBE_FORMATTER")] 57

def k18m0 : Method := { name := "<init>", desc := "()V", sig := { parameters := [], returnType := none }, accessFlags := 1, code := none }
/-- jdk/internal/util/Preconditions -/
def k18 : Class := { plain "jdk/internal/util/Preconditions" (some 0) with
  accessFlags := 33
  interfaces := #[]
  cf := some (fileOf pool18 24 #[.nestMembers #[55, 131, 125, 114]] #[{ accessFlags := 1, nameIndex := 5, descriptorIndex := 6, attributes := #[] }] 33 2 #[] #[{ accessFlags := 25, nameIndex := 123, descriptorIndex := 124, attributes := #[] }, { accessFlags := 25, nameIndex := 130, descriptorIndex := 124, attributes := #[] }, { accessFlags := 25, nameIndex := 136, descriptorIndex := 124, attributes := #[] }])
  fields := #[{ name := "SIOOBE_FORMATTER", type := (.object "java/util/function/BiFunction"), accessFlags := 25, slot := 0, constantValue := 0 }, { name := "AIOOBE_FORMATTER", type := (.object "java/util/function/BiFunction"), accessFlags := 25, slot := 1, constantValue := 0 }, { name := "IOOBE_FORMATTER", type := (.object "java/util/function/BiFunction"), accessFlags := 25, slot := 2, constantValue := 0 }]
  methods := #[k18m0]
  instanceTypes := #[]
  staticTypes := #[(.object "java/util/function/BiFunction"), (.object "java/util/function/BiFunction"), (.object "java/util/function/BiFunction")]
  resolved := Array.replicate 194 none
  statics := some 1 }

def pool19 : Array CpInfo := pool [(1, u "java/lang/Cloneable"), (0, .class_ 1), (0, u "java/lang/Object"), (0, .class_ 3)] 3

/-- java/lang/Cloneable -/
def k19 : Class := { plain "java/lang/Cloneable" (some 0) with
  accessFlags := 1537
  interfaces := #[]
  cf := some (fileOf pool19 2 #[] #[] 1537 4 #[] #[])
  fields := #[]
  methods := #[]
  instanceTypes := #[]
  staticTypes := #[]
  resolved := Array.replicate 8 none
  statics := none }

/-- the primitive byte -/
def k20 : Class := { plain "byte" none with kind := .primitive 'B', accessFlags := 0x411 }
/-- [B -/
def k21 : Class := { plain "[B" (some 0) with kind := .array 20 .byte, interfaces := #[19, 2], accessFlags := 1041 }

/-- the primitive char -/
def k22 : Class := { plain "char" none with kind := .primitive 'C', accessFlags := 0x411 }
/-- [C -/
def k23 : Class := { plain "[C" (some 0) with kind := .array 22 .char, interfaces := #[19, 2], accessFlags := 1041 }

/-- the primitive int -/
def k24 : Class := { plain "int" none with kind := .primitive 'I', accessFlags := 0x411 }
/-- [I -/
def k25 : Class := { plain "[I" (some 0) with kind := .array 24 .int, interfaces := #[19, 2], accessFlags := 1041 }

def heap : Heap := #[{ cls := 7, slots := #[.long 0, .int 1, .null, .int 0, .null, .int 0, .int 0], vm := .statics 7 },
  { cls := 18, slots := #[.null, .null, .null], vm := .statics 18 }]
def classes : Array Class := #[k0, k1, k2, k3, k4, k5, k6, k7, k8, k9, k10, k11, k12, k13, k14, k15, k16, k17, k18, k19, k20, k21, k22, k23, k24, k25]
def interned : List (Array UInt16 × Addr) := []
def slotsUsed : Nat := 10
def theMethod : MethodId := ⟨1, 1⟩
def args0 : Array Value := #[.int 65, .int 66, .int 67, .int 0]
def aboutOver (below : List Frame) : State where
  vm := { classes := classes, interned := interned.toArray }
  heap := heap
  slotsUsed := slotsUsed
  threads := #[{ frames := .invoking theMethod args0 :: below }]
def below0 : List Frame := [.native { method := ⟨0, 0⟩, args := #[] }]
def about1 : State := aboutOver below0
def p0 : Program := .bare "" "" ""
def e0 : Env := launch0.env 0 0 0
theorem w_frames : about1.frames = Frame.invoking theMethod args0 :: below0 := rfl
set_option maxRecDepth 65536 in
theorem w_args : argsFit about1.vm theMethod args0 = true := by decide +kernel
set_option maxRecDepth 65536 in
theorem w_heap : heapFits about1 = true := by decide +kernel
set_option maxRecDepth 65536 in
theorem w_runnable : about1.curStatus? = some .runnable := by decide +kernel
set_option maxRecDepth 65536 in
theorem w_alone : about1.alone = true := by decide +kernel
set_option maxRecDepth 65536 in
theorem w_named : about1.methodNamed? x = some theMethod := by decide +kernel
set_option maxRecDepth 65536 in
theorem w_hears : about1.hears theMethod below0 = true := by decide +kernel
set_option maxRecDepth 65536 in
theorem w_ripe : about1.ripe theMethod args0 below0 = true := by decide +kernel
theorem w_running : about1.status = .running := rfl
set_option maxRecDepth 65536 in
theorem w_room : about1.hasRoom e0.platform room_1 = true :=
  launch0.hasRoom_least _ room_1 (by decide +kernel) (by decide +kernel) (by decide +kernel) (by decide +kernel) (by decide +kernel) (by decide +kernel)
theorem allAtoms_all (ts : List Jvm.Cond) (a : Array Jvm.Value) (st : Jvm.State) : (allAtoms ts).before a st = ts.all (fun c => c.before a st) := by
  induction ts with
  | nil => rfl
  | cons c t ih =>
    show (Jvm.Cond.and c (allAtoms t)).before a st = _
    rw [Jvm.Cond.before_and, ih, List.all_cons]
def words1 : List Jvm.Cond := Jvm.Cond.code x code maxLocals ret :: tables_1
/-- a 'code' word, met by the world's own term for the bytes: nothing is compared byte by byte -/
theorem code_word {y : MethodName} {bytes : ByteArray} {mx : Nat} {rt : Option FieldType} {a : Array Value} {s : State} {m : MethodId} {meth : Method} {c : Code} (h1 : s.methodNamed? y = some m) (h2 : s.vm.method? m = some meth) (h3 : meth.code = some c) (h4 : c.code = bytes)
    (h5 : (c.maxLocals == mx && c.exceptionTable.isEmpty && decide (c.maxStack ≤ mostOperands) && decide (meth.sig.returnType = rt) && !meth.locks && decide (parseMethodDescriptor y.desc = some meth.sig)) = true) : (Jvm.Cond.code y bytes mx rt).before a s = true := by
  simp only [Bool.and_eq_true, beq_iff_eq, Bool.not_eq_true', decide_eq_true_eq] at h5
  obtain ⟨⟨⟨⟨⟨g1, g2⟩, g3⟩, g4⟩, g5⟩, g6⟩ := h5
  simp [Cond.before, Cond.holds, Cond.value, h1, h2, h3, h4, g1, g2, g3, g4, g5, g6]
def isCode : Jvm.Cond → Bool
  | .code _ _ _ _ => true
  | _ => false
theorem all_split {L : List Jvm.Cond} {P : Jvm.Cond → Bool} (h1 : L.all (fun c => isCode c || P c) = true) (h2 : ∀ c ∈ L.filter isCode, P c = true) : L.all P = true := by
  refine List.all_eq_true.mpr fun c hc => ?_
  have h := List.all_eq_true.mp h1 c hc
  rcases Bool.eq_false_or_eq_true (isCode c) with hi | hi
  · exact h2 c (List.mem_filter.mpr ⟨hc, hi⟩)
  · simpa [hi] using h
set_option maxRecDepth 65536 in
theorem w_c0 : (Jvm.Cond.code x code maxLocals ret).before args0 about1 = true := code_word (m := ⟨1, 1⟩) (meth := k1m1) (c := k1c1) (by decide +kernel) rfl rfl rfl (by decide +kernel)
set_option maxRecDepth 65536 in
theorem w_c1 : (Jvm.Cond.code ({ cls := "java/lang/String", name := "<init>", desc := "([C)V" } : Jvm.MethodName) jdk_42_method_3_code (2 : Nat) (Option.none : Option Jvm.ClassFile.FieldType)).before args0 about1 = true := code_word (m := ⟨7, 1⟩) (meth := k7m1) (c := k7c1) (by decide +kernel) rfl rfl rfl (by decide +kernel)
set_option maxRecDepth 65536 in
theorem w_c2 : (Jvm.Cond.code ({ cls := "java/lang/String", name := "<init>", desc := "([CIILjava/lang/Void;)V" } : Jvm.MethodName) jdk_42_method_149_code (6 : Nat) (Option.none : Option Jvm.ClassFile.FieldType)).before args0 about1 = true := code_word (m := ⟨7, 7⟩) (meth := k7m7) (c := k7c7) (by decide +kernel) rfl rfl rfl (by decide +kernel)
set_option maxRecDepth 65536 in
theorem w_c3 : (Jvm.Cond.code ({ cls := "java/lang/Object", name := "<init>", desc := "()V" } : Jvm.MethodName) object_method_1_code (1 : Nat) (Option.none : Option Jvm.ClassFile.FieldType)).before args0 about1 = true := code_word (m := ⟨0, 0⟩) (meth := k0m0) (c := k0c0) (by decide +kernel) rfl rfl rfl (by decide +kernel)
set_option maxRecDepth 65536 in
theorem w_c4 : (Jvm.Cond.code ({ cls := "java/lang/StringUTF16", name := "compress", desc := "([CII)[B" } : Jvm.MethodName) jdk_52_method_16_code (6 : Nat) (Option.some (Jvm.ClassFile.FieldType.array Jvm.ClassFile.FieldType.byte))).before args0 about1 = true := code_word (m := ⟨8, 2⟩) (meth := k8m2) (c := k8c2) (by decide +kernel) rfl rfl rfl (by decide +kernel)
set_option maxRecDepth 65536 in
theorem w_c5 : (Jvm.Cond.code ({ cls := "java/lang/StringUTF16", name := "compress", desc := "([CI[BII)I" } : Jvm.MethodName) jdk_52_method_21_code (7 : Nat) (Option.some Jvm.ClassFile.FieldType.int)).before args0 about1 = true := code_word (m := ⟨8, 3⟩) (meth := k8m3) (c := k8c3) (by decide +kernel) rfl rfl rfl (by decide +kernel)
set_option maxRecDepth 65536 in
theorem w_c6 : (Jvm.Cond.code ({ cls := "java/lang/StringUTF16", name := "coderFromArrayLen", desc := "([BI)B" } : Jvm.MethodName) jdk_52_method_15_code (2 : Nat) (Option.some Jvm.ClassFile.FieldType.byte)).before args0 about1 = true := code_word (m := ⟨8, 1⟩) (meth := k8m1) (c := k8c1) (by decide +kernel) rfl rfl rfl (by decide +kernel)
set_option maxRecDepth 65536 in
theorem w_c7 : (Jvm.Cond.code ({ cls := "java/lang/String", name := "valueOf", desc := "(C)Ljava/lang/String;" } : Jvm.MethodName) jdk_42_method_139_code (1 : Nat) (Option.some (Jvm.ClassFile.FieldType.object "java/lang/String"))).before args0 about1 = true := code_word (m := ⟨7, 5⟩) (meth := k7m5) (c := k7c5) (by decide +kernel) rfl rfl rfl (by decide +kernel)
set_option maxRecDepth 65536 in
theorem w_c8 : (Jvm.Cond.code ({ cls := "java/lang/StringLatin1", name := "canEncode", desc := "(C)Z" } : Jvm.MethodName) jdk_43_method_3_code (1 : Nat) (Option.some Jvm.ClassFile.FieldType.boolean)).before args0 about1 = true := code_word (m := ⟨9, 1⟩) (meth := k9m1) (c := k9c1) (by decide +kernel) rfl rfl rfl (by decide +kernel)
set_option maxRecDepth 65536 in
theorem w_c9 : (Jvm.Cond.code ({ cls := "java/lang/StringLatin1", name := "toBytes", desc := "(C)[B" } : Jvm.MethodName) jdk_43_method_46_code (1 : Nat) (Option.some (Jvm.ClassFile.FieldType.array Jvm.ClassFile.FieldType.byte))).before args0 about1 = true := code_word (m := ⟨9, 3⟩) (meth := k9m3) (c := k9c3) (by decide +kernel) rfl rfl rfl (by decide +kernel)
set_option maxRecDepth 65536 in
theorem w_c10 : (Jvm.Cond.code ({ cls := "java/lang/String", name := "<init>", desc := "([BB)V" } : Jvm.MethodName) jdk_42_method_151_code (3 : Nat) (Option.none : Option Jvm.ClassFile.FieldType)).before args0 about1 = true := code_word (m := ⟨7, 9⟩) (meth := k7m9) (c := k7c9) (by decide +kernel) rfl rfl rfl (by decide +kernel)
set_option maxRecDepth 65536 in
theorem w_c11 : (Jvm.Cond.code ({ cls := "com/example/phasescope/phasescope/ServerTiming", name := "<init>", desc := "()V" } : Jvm.MethodName) prog_4_method_1_code (1 : Nat) (Option.none : Option Jvm.ClassFile.FieldType)).before args0 about1 = true := code_word (m := ⟨10, 0⟩) (meth := k10m0) (c := k10c0) (by decide +kernel) rfl rfl rfl (by decide +kernel)
set_option maxRecDepth 65536 in
theorem w_c12 : (Jvm.Cond.code ({ cls := "java/lang/StringBuilder", name := "<init>", desc := "()V" } : Jvm.MethodName) jdk_67_method_1_code (1 : Nat) (Option.none : Option Jvm.ClassFile.FieldType)).before args0 about1 = true := code_word (m := ⟨13, 0⟩) (meth := k13m0) (c := k13c0) (by decide +kernel) rfl rfl rfl (by decide +kernel)
set_option maxRecDepth 65536 in
theorem w_c13 : (Jvm.Cond.code ({ cls := "java/lang/AbstractStringBuilder", name := "<init>", desc := "(I)V" } : Jvm.MethodName) jdk_68_method_2_code (2 : Nat) (Option.none : Option Jvm.ClassFile.FieldType)).before args0 about1 = true := code_word (m := ⟨12, 1⟩) (meth := k12m1) (c := k12c1) (by decide +kernel) rfl rfl rfl (by decide +kernel)
set_option maxRecDepth 65536 in
theorem w_c14 : (Jvm.Cond.code ({ cls := "com/example/phasescope/phasescope/ServerTiming", name := "trace", desc := "(Ljava/lang/String;)Lcom/example/phasescope/phasescope/ServerTiming;" } : Jvm.MethodName) prog_4_method_4_code (2 : Nat) (Option.some (Jvm.ClassFile.FieldType.object "com/example/phasescope/phasescope/ServerTiming"))).before args0 about1 = true := code_word (m := ⟨10, 1⟩) (meth := k10m1) (c := k10c1) (by decide +kernel) rfl rfl rfl (by decide +kernel)
set_option maxRecDepth 65536 in
theorem w_c15 : (Jvm.Cond.code ({ cls := "com/example/phasescope/phasescope/ServerTiming", name := "next", desc := "()Ljava/lang/StringBuilder;" } : Jvm.MethodName) prog_4_method_7_code (1 : Nat) (Option.some (Jvm.ClassFile.FieldType.object "java/lang/StringBuilder"))).before args0 about1 = true := code_word (m := ⟨10, 3⟩) (meth := k10m3) (c := k10c3) (by decide +kernel) rfl rfl rfl (by decide +kernel)
set_option maxRecDepth 65536 in
theorem w_c16 : (Jvm.Cond.code ({ cls := "java/lang/StringBuilder", name := "length", desc := "()I" } : Jvm.MethodName) jdk_67_method_93_code (1 : Nat) (Option.some Jvm.ClassFile.FieldType.int)).before args0 about1 = true := code_word (m := ⟨13, 4⟩) (meth := k13m4) (c := k13c4) (by decide +kernel) rfl rfl rfl (by decide +kernel)
set_option maxRecDepth 65536 in
theorem w_c17 : (Jvm.Cond.code ({ cls := "java/lang/AbstractStringBuilder", name := "length", desc := "()I" } : Jvm.MethodName) jdk_68_method_6_code (1 : Nat) (Option.some Jvm.ClassFile.FieldType.int)).before args0 about1 = true := code_word (m := ⟨12, 2⟩) (meth := k12m2) (c := k12c2) (by decide +kernel) rfl rfl rfl (by decide +kernel)
set_option maxRecDepth 65536 in
theorem w_c18 : (Jvm.Cond.code ({ cls := "java/lang/StringBuilder", name := "append", desc := "(Ljava/lang/String;)Ljava/lang/StringBuilder;" } : Jvm.MethodName) jdk_67_method_7_code (2 : Nat) (Option.some (Jvm.ClassFile.FieldType.object "java/lang/StringBuilder"))).before args0 about1 = true := code_word (m := ⟨13, 1⟩) (meth := k13m1) (c := k13c1) (by decide +kernel) rfl rfl rfl (by decide +kernel)
set_option maxRecDepth 65536 in
theorem w_c19 : (Jvm.Cond.code ({ cls := "java/lang/AbstractStringBuilder", name := "append", desc := "(Ljava/lang/String;)Ljava/lang/AbstractStringBuilder;" } : Jvm.MethodName) jdk_68_method_22_code (3 : Nat) (Option.some (Jvm.ClassFile.FieldType.object "java/lang/AbstractStringBuilder"))).before args0 about1 = true := code_word (m := ⟨12, 5⟩) (meth := k12m5) (c := k12c5) (by decide +kernel) rfl rfl rfl (by decide +kernel)
set_option maxRecDepth 65536 in
theorem w_c20 : (Jvm.Cond.code ({ cls := "java/lang/String", name := "length", desc := "()I" } : Jvm.MethodName) jdk_42_method_54_code (1 : Nat) (Option.some Jvm.ClassFile.FieldType.int)).before args0 about1 = true := code_word (m := ⟨7, 3⟩) (meth := k7m3) (c := k7c3) (by decide +kernel) rfl rfl rfl (by decide +kernel)
set_option maxRecDepth 65536 in
theorem w_c21 : (Jvm.Cond.code ({ cls := "java/lang/String", name := "coder", desc := "()B" } : Jvm.MethodName) jdk_42_method_152_code (1 : Nat) (Option.some Jvm.ClassFile.FieldType.byte)).before args0 about1 = true := code_word (m := ⟨7, 10⟩) (meth := k7m10) (c := k7c10) (by decide +kernel) rfl rfl rfl (by decide +kernel)
set_option maxRecDepth 65536 in
theorem w_c22 : (Jvm.Cond.code ({ cls := "java/lang/AbstractStringBuilder", name := "ensureCapacityInternal", desc := "(I)V" } : Jvm.MethodName) jdk_68_method_9_code (3 : Nat) (Option.none : Option Jvm.ClassFile.FieldType)).before args0 about1 = true := code_word (m := ⟨12, 3⟩) (meth := k12m3) (c := k12c3) (by decide +kernel) rfl rfl rfl (by decide +kernel)
set_option maxRecDepth 65536 in
theorem w_c23 : (Jvm.Cond.code ({ cls := "java/lang/AbstractStringBuilder", name := "putStringAt", desc := "(ILjava/lang/String;)V" } : Jvm.MethodName) jdk_68_method_73_code (3 : Nat) (Option.none : Option Jvm.ClassFile.FieldType)).before args0 about1 = true := code_word (m := ⟨12, 10⟩) (meth := k12m10) (c := k12c10) (by decide +kernel) rfl rfl rfl (by decide +kernel)
set_option maxRecDepth 65536 in
theorem w_c24 : (Jvm.Cond.code ({ cls := "java/lang/AbstractStringBuilder", name := "inflateIfNeededFor", desc := "(Ljava/lang/String;)V" } : Jvm.MethodName) jdk_68_method_71_code (2 : Nat) (Option.none : Option Jvm.ClassFile.FieldType)).before args0 about1 = true := code_word (m := ⟨12, 9⟩) (meth := k12m9) (c := k12c9) (by decide +kernel) rfl rfl rfl (by decide +kernel)
set_option maxRecDepth 65536 in
theorem w_c25 : (Jvm.Cond.code ({ cls := "java/lang/String", name := "getBytes", desc := "([BIB)V" } : Jvm.MethodName) jdk_42_method_147_code (4 : Nat) (Option.none : Option Jvm.ClassFile.FieldType)).before args0 about1 = true := code_word (m := ⟨7, 6⟩) (meth := k7m6) (c := k7c6) (by decide +kernel) rfl rfl rfl (by decide +kernel)
set_option maxRecDepth 65536 in
theorem w_c26 : (Jvm.Cond.code ({ cls := "java/lang/StringBuilder", name := "append", desc := "(C)Ljava/lang/StringBuilder;" } : Jvm.MethodName) jdk_67_method_14_code (2 : Nat) (Option.some (Jvm.ClassFile.FieldType.object "java/lang/StringBuilder"))).before args0 about1 = true := code_word (m := ⟨13, 2⟩) (meth := k13m2) (c := k13c2) (by decide +kernel) rfl rfl rfl (by decide +kernel)
set_option maxRecDepth 65536 in
theorem w_c27 : (Jvm.Cond.code ({ cls := "java/lang/AbstractStringBuilder", name := "append", desc := "(C)Ljava/lang/AbstractStringBuilder;" } : Jvm.MethodName) jdk_68_method_31_code (2 : Nat) (Option.some (Jvm.ClassFile.FieldType.object "java/lang/AbstractStringBuilder"))).before args0 about1 = true := code_word (m := ⟨12, 6⟩) (meth := k12m6) (c := k12c6) (by decide +kernel) rfl rfl rfl (by decide +kernel)
set_option maxRecDepth 65536 in
theorem w_c28 : (Jvm.Cond.code ({ cls := "java/lang/AbstractStringBuilder", name := "isLatin1", desc := "()Z" } : Jvm.MethodName) jdk_68_method_68_code (1 : Nat) (Option.some Jvm.ClassFile.FieldType.boolean)).before args0 about1 = true := code_word (m := ⟨12, 8⟩) (meth := k12m8) (c := k12c8) (by decide +kernel) rfl rfl rfl (by decide +kernel)
set_option maxRecDepth 65536 in
theorem w_c29 : (Jvm.Cond.code ({ cls := "java/lang/AbstractStringBuilder", name := "newCapacity", desc := "(I)I" } : Jvm.MethodName) jdk_68_method_10_code (6 : Nat) (Option.some Jvm.ClassFile.FieldType.int)).before args0 about1 = true := code_word (m := ⟨12, 4⟩) (meth := k12m4) (c := k12c4) (by decide +kernel) rfl rfl rfl (by decide +kernel)
set_option maxRecDepth 65536 in
theorem w_c30 : (Jvm.Cond.code ({ cls := "jdk/internal/util/ArraysSupport", name := "newLength", desc := "(III)I" } : Jvm.MethodName) jdk_48_method_27_code (4 : Nat) (Option.some Jvm.ClassFile.FieldType.int)).before args0 about1 = true := code_word (m := ⟨15, 1⟩) (meth := k15m1) (c := k15c1) (by decide +kernel) rfl rfl rfl (by decide +kernel)
set_option maxRecDepth 65536 in
theorem w_c31 : (Jvm.Cond.code ({ cls := "java/lang/Math", name := "max", desc := "(II)I" } : Jvm.MethodName) jdk_29_method_65_code (2 : Nat) (Option.some Jvm.ClassFile.FieldType.int)).before args0 about1 = true := code_word (m := ⟨16, 1⟩) (meth := k16m1) (c := k16c1) (by decide +kernel) rfl rfl rfl (by decide +kernel)
set_option maxRecDepth 65536 in
theorem w_c32 : (Jvm.Cond.code ({ cls := "java/util/Arrays", name := "copyOf", desc := "([BI)[B" } : Jvm.MethodName) jdk_65_method_121_code (3 : Nat) (Option.some (Jvm.ClassFile.FieldType.array Jvm.ClassFile.FieldType.byte))).before args0 about1 = true := code_word (m := ⟨17, 1⟩) (meth := k17m1) (c := k17c1) (by decide +kernel) rfl rfl rfl (by decide +kernel)
set_option maxRecDepth 65536 in
theorem w_c33 : (Jvm.Cond.code ({ cls := "java/lang/Math", name := "min", desc := "(II)I" } : Jvm.MethodName) jdk_29_method_69_code (2 : Nat) (Option.some Jvm.ClassFile.FieldType.int)).before args0 about1 = true := code_word (m := ⟨16, 2⟩) (meth := k16m2) (c := k16c2) (by decide +kernel) rfl rfl rfl (by decide +kernel)
set_option maxRecDepth 65536 in
theorem w_c34 : (Jvm.Cond.code ({ cls := "com/example/phasescope/phasescope/ServerTiming", name := "toString", desc := "()Ljava/lang/String;" } : Jvm.MethodName) prog_4_method_5_code (1 : Nat) (Option.some (Jvm.ClassFile.FieldType.object "java/lang/String"))).before args0 about1 = true := code_word (m := ⟨10, 2⟩) (meth := k10m2) (c := k10c2) (by decide +kernel) rfl rfl rfl (by decide +kernel)
set_option maxRecDepth 65536 in
theorem w_c35 : (Jvm.Cond.code ({ cls := "java/lang/StringBuilder", name := "toString", desc := "()Ljava/lang/String;" } : Jvm.MethodName) jdk_67_method_42_code (1 : Nat) (Option.some (Jvm.ClassFile.FieldType.object "java/lang/String"))).before args0 about1 = true := code_word (m := ⟨13, 3⟩) (meth := k13m3) (c := k13c3) (by decide +kernel) rfl rfl rfl (by decide +kernel)
set_option maxRecDepth 65536 in
theorem w_c36 : (Jvm.Cond.code ({ cls := "java/lang/String", name := "<init>", desc := "(Ljava/lang/StringBuilder;)V" } : Jvm.MethodName) jdk_42_method_53_code (2 : Nat) (Option.none : Option Jvm.ClassFile.FieldType)).before args0 about1 = true := code_word (m := ⟨7, 2⟩) (meth := k7m2) (c := k7c2) (by decide +kernel) rfl rfl rfl (by decide +kernel)
set_option maxRecDepth 65536 in
theorem w_c37 : (Jvm.Cond.code ({ cls := "java/lang/String", name := "<init>", desc := "(Ljava/lang/AbstractStringBuilder;Ljava/lang/Void;)V" } : Jvm.MethodName) jdk_42_method_150_code (5 : Nat) (Option.none : Option Jvm.ClassFile.FieldType)).before args0 about1 = true := code_word (m := ⟨7, 8⟩) (meth := k7m8) (c := k7c8) (by decide +kernel) rfl rfl rfl (by decide +kernel)
set_option maxRecDepth 65536 in
theorem w_c38 : (Jvm.Cond.code ({ cls := "java/lang/AbstractStringBuilder", name := "getValue", desc := "()[B" } : Jvm.MethodName) jdk_68_method_64_code (1 : Nat) (Option.some (Jvm.ClassFile.FieldType.array Jvm.ClassFile.FieldType.byte))).before args0 about1 = true := code_word (m := ⟨12, 7⟩) (meth := k12m7) (c := k12c7) (by decide +kernel) rfl rfl rfl (by decide +kernel)
set_option maxRecDepth 65536 in
theorem w_c39 : (Jvm.Cond.code ({ cls := "java/util/Arrays", name := "copyOfRange", desc := "([BII)[B" } : Jvm.MethodName) jdk_65_method_132_code (3 : Nat) (Option.some (Jvm.ClassFile.FieldType.array Jvm.ClassFile.FieldType.byte))).before args0 about1 = true := code_word (m := ⟨17, 3⟩) (meth := k17m3) (c := k17c3) (by decide +kernel) rfl rfl rfl (by decide +kernel)
set_option maxRecDepth 65536 in
theorem w_c40 : (Jvm.Cond.code ({ cls := "java/util/Arrays", name := "copyOfRangeByte", desc := "([BII)[B" } : Jvm.MethodName) jdk_65_method_133_code (5 : Nat) (Option.some (Jvm.ClassFile.FieldType.array Jvm.ClassFile.FieldType.byte))).before args0 about1 = true := code_word (m := ⟨17, 4⟩) (meth := k17m4) (c := k17c4) (by decide +kernel) rfl rfl rfl (by decide +kernel)
set_option maxRecDepth 65536 in
theorem w_c41 : (Jvm.Cond.code ({ cls := "java/util/Arrays", name := "checkLength", desc := "(II)V" } : Jvm.MethodName) jdk_65_method_131_code (2 : Nat) (Option.none : Option Jvm.ClassFile.FieldType)).before args0 about1 = true := code_word (m := ⟨17, 2⟩) (meth := k17m2) (c := k17c2) (by decide +kernel) rfl rfl rfl (by decide +kernel)
set_option maxRecDepth 65536 in
theorem w_c42 : (Jvm.Cond.code ({ cls := "java/lang/String", name := "equals", desc := "(Ljava/lang/Object;)Z" } : Jvm.MethodName) jdk_42_method_66_code (3 : Nat) (Option.some Jvm.ClassFile.FieldType.boolean)).before args0 about1 = true := code_word (m := ⟨7, 4⟩) (meth := k7m4) (c := k7c4) (by decide +kernel) rfl rfl rfl (by decide +kernel)
set_option maxRecDepth 65536 in
theorem w_c43 : (Jvm.Cond.code ({ cls := "java/lang/StringLatin1", name := "equals", desc := "([B[B)Z" } : Jvm.MethodName) jdk_43_method_13_code (3 : Nat) (Option.some Jvm.ClassFile.FieldType.boolean)).before args0 about1 = true := code_word (m := ⟨9, 2⟩) (meth := k9m2) (c := k9c2) (by decide +kernel) rfl rfl rfl (by decide +kernel)
def codes1 : List Jvm.Cond := [Jvm.Cond.code x code maxLocals ret, Jvm.Cond.code ({ cls := "java/lang/String", name := "<init>", desc := "([C)V" } : Jvm.MethodName) jdk_42_method_3_code (2 : Nat) (Option.none : Option Jvm.ClassFile.FieldType), Jvm.Cond.code ({ cls := "java/lang/String", name := "<init>", desc := "([CIILjava/lang/Void;)V" } : Jvm.MethodName) jdk_42_method_149_code (6 : Nat) (Option.none : Option Jvm.ClassFile.FieldType), Jvm.Cond.code ({ cls := "java/lang/Object", name := "<init>", desc := "()V" } : Jvm.MethodName) object_method_1_code (1 : Nat) (Option.none : Option Jvm.ClassFile.FieldType), Jvm.Cond.code ({ cls := "java/lang/StringUTF16", name := "compress", desc := "([CII)[B" } : Jvm.MethodName) jdk_52_method_16_code (6 : Nat) (Option.some (Jvm.ClassFile.FieldType.array Jvm.ClassFile.FieldType.byte)), Jvm.Cond.code ({ cls := "java/lang/StringUTF16", name := "compress", desc := "([CI[BII)I" } : Jvm.MethodName) jdk_52_method_21_code (7 : Nat) (Option.some Jvm.ClassFile.FieldType.int), Jvm.Cond.code ({ cls := "java/lang/StringUTF16", name := "coderFromArrayLen", desc := "([BI)B" } : Jvm.MethodName) jdk_52_method_15_code (2 : Nat) (Option.some Jvm.ClassFile.FieldType.byte), Jvm.Cond.code ({ cls := "java/lang/String", name := "valueOf", desc := "(C)Ljava/lang/String;" } : Jvm.MethodName) jdk_42_method_139_code (1 : Nat) (Option.some (Jvm.ClassFile.FieldType.object "java/lang/String")), Jvm.Cond.code ({ cls := "java/lang/StringLatin1", name := "canEncode", desc := "(C)Z" } : Jvm.MethodName) jdk_43_method_3_code (1 : Nat) (Option.some Jvm.ClassFile.FieldType.boolean), Jvm.Cond.code ({ cls := "java/lang/StringLatin1", name := "toBytes", desc := "(C)[B" } : Jvm.MethodName) jdk_43_method_46_code (1 : Nat) (Option.some (Jvm.ClassFile.FieldType.array Jvm.ClassFile.FieldType.byte)), Jvm.Cond.code ({ cls := "java/lang/String", name := "<init>", desc := "([BB)V" } : Jvm.MethodName) jdk_42_method_151_code (3 : Nat) (Option.none : Option Jvm.ClassFile.FieldType), Jvm.Cond.code ({ cls := "com/example/phasescope/phasescope/ServerTiming", name := "<init>", desc := "()V" } : Jvm.MethodName) prog_4_method_1_code (1 : Nat) (Option.none : Option Jvm.ClassFile.FieldType), Jvm.Cond.code ({ cls := "java/lang/StringBuilder", name := "<init>", desc := "()V" } : Jvm.MethodName) jdk_67_method_1_code (1 : Nat) (Option.none : Option Jvm.ClassFile.FieldType), Jvm.Cond.code ({ cls := "java/lang/AbstractStringBuilder", name := "<init>", desc := "(I)V" } : Jvm.MethodName) jdk_68_method_2_code (2 : Nat) (Option.none : Option Jvm.ClassFile.FieldType), Jvm.Cond.code ({ cls := "com/example/phasescope/phasescope/ServerTiming", name := "trace", desc := "(Ljava/lang/String;)Lcom/example/phasescope/phasescope/ServerTiming;" } : Jvm.MethodName) prog_4_method_4_code (2 : Nat) (Option.some (Jvm.ClassFile.FieldType.object "com/example/phasescope/phasescope/ServerTiming")), Jvm.Cond.code ({ cls := "com/example/phasescope/phasescope/ServerTiming", name := "next", desc := "()Ljava/lang/StringBuilder;" } : Jvm.MethodName) prog_4_method_7_code (1 : Nat) (Option.some (Jvm.ClassFile.FieldType.object "java/lang/StringBuilder")), Jvm.Cond.code ({ cls := "java/lang/StringBuilder", name := "length", desc := "()I" } : Jvm.MethodName) jdk_67_method_93_code (1 : Nat) (Option.some Jvm.ClassFile.FieldType.int), Jvm.Cond.code ({ cls := "java/lang/AbstractStringBuilder", name := "length", desc := "()I" } : Jvm.MethodName) jdk_68_method_6_code (1 : Nat) (Option.some Jvm.ClassFile.FieldType.int), Jvm.Cond.code ({ cls := "java/lang/StringBuilder", name := "append", desc := "(Ljava/lang/String;)Ljava/lang/StringBuilder;" } : Jvm.MethodName) jdk_67_method_7_code (2 : Nat) (Option.some (Jvm.ClassFile.FieldType.object "java/lang/StringBuilder")), Jvm.Cond.code ({ cls := "java/lang/AbstractStringBuilder", name := "append", desc := "(Ljava/lang/String;)Ljava/lang/AbstractStringBuilder;" } : Jvm.MethodName) jdk_68_method_22_code (3 : Nat) (Option.some (Jvm.ClassFile.FieldType.object "java/lang/AbstractStringBuilder")), Jvm.Cond.code ({ cls := "java/lang/String", name := "length", desc := "()I" } : Jvm.MethodName) jdk_42_method_54_code (1 : Nat) (Option.some Jvm.ClassFile.FieldType.int), Jvm.Cond.code ({ cls := "java/lang/String", name := "coder", desc := "()B" } : Jvm.MethodName) jdk_42_method_152_code (1 : Nat) (Option.some Jvm.ClassFile.FieldType.byte), Jvm.Cond.code ({ cls := "java/lang/AbstractStringBuilder", name := "ensureCapacityInternal", desc := "(I)V" } : Jvm.MethodName) jdk_68_method_9_code (3 : Nat) (Option.none : Option Jvm.ClassFile.FieldType), Jvm.Cond.code ({ cls := "java/lang/AbstractStringBuilder", name := "putStringAt", desc := "(ILjava/lang/String;)V" } : Jvm.MethodName) jdk_68_method_73_code (3 : Nat) (Option.none : Option Jvm.ClassFile.FieldType), Jvm.Cond.code ({ cls := "java/lang/AbstractStringBuilder", name := "inflateIfNeededFor", desc := "(Ljava/lang/String;)V" } : Jvm.MethodName) jdk_68_method_71_code (2 : Nat) (Option.none : Option Jvm.ClassFile.FieldType), Jvm.Cond.code ({ cls := "java/lang/String", name := "getBytes", desc := "([BIB)V" } : Jvm.MethodName) jdk_42_method_147_code (4 : Nat) (Option.none : Option Jvm.ClassFile.FieldType), Jvm.Cond.code ({ cls := "java/lang/StringBuilder", name := "append", desc := "(C)Ljava/lang/StringBuilder;" } : Jvm.MethodName) jdk_67_method_14_code (2 : Nat) (Option.some (Jvm.ClassFile.FieldType.object "java/lang/StringBuilder")), Jvm.Cond.code ({ cls := "java/lang/AbstractStringBuilder", name := "append", desc := "(C)Ljava/lang/AbstractStringBuilder;" } : Jvm.MethodName) jdk_68_method_31_code (2 : Nat) (Option.some (Jvm.ClassFile.FieldType.object "java/lang/AbstractStringBuilder")), Jvm.Cond.code ({ cls := "java/lang/AbstractStringBuilder", name := "isLatin1", desc := "()Z" } : Jvm.MethodName) jdk_68_method_68_code (1 : Nat) (Option.some Jvm.ClassFile.FieldType.boolean), Jvm.Cond.code ({ cls := "java/lang/AbstractStringBuilder", name := "newCapacity", desc := "(I)I" } : Jvm.MethodName) jdk_68_method_10_code (6 : Nat) (Option.some Jvm.ClassFile.FieldType.int), Jvm.Cond.code ({ cls := "jdk/internal/util/ArraysSupport", name := "newLength", desc := "(III)I" } : Jvm.MethodName) jdk_48_method_27_code (4 : Nat) (Option.some Jvm.ClassFile.FieldType.int), Jvm.Cond.code ({ cls := "java/lang/Math", name := "max", desc := "(II)I" } : Jvm.MethodName) jdk_29_method_65_code (2 : Nat) (Option.some Jvm.ClassFile.FieldType.int), Jvm.Cond.code ({ cls := "java/util/Arrays", name := "copyOf", desc := "([BI)[B" } : Jvm.MethodName) jdk_65_method_121_code (3 : Nat) (Option.some (Jvm.ClassFile.FieldType.array Jvm.ClassFile.FieldType.byte)), Jvm.Cond.code ({ cls := "java/lang/Math", name := "min", desc := "(II)I" } : Jvm.MethodName) jdk_29_method_69_code (2 : Nat) (Option.some Jvm.ClassFile.FieldType.int), Jvm.Cond.code ({ cls := "com/example/phasescope/phasescope/ServerTiming", name := "toString", desc := "()Ljava/lang/String;" } : Jvm.MethodName) prog_4_method_5_code (1 : Nat) (Option.some (Jvm.ClassFile.FieldType.object "java/lang/String")), Jvm.Cond.code ({ cls := "java/lang/StringBuilder", name := "toString", desc := "()Ljava/lang/String;" } : Jvm.MethodName) jdk_67_method_42_code (1 : Nat) (Option.some (Jvm.ClassFile.FieldType.object "java/lang/String")), Jvm.Cond.code ({ cls := "java/lang/String", name := "<init>", desc := "(Ljava/lang/StringBuilder;)V" } : Jvm.MethodName) jdk_42_method_53_code (2 : Nat) (Option.none : Option Jvm.ClassFile.FieldType), Jvm.Cond.code ({ cls := "java/lang/String", name := "<init>", desc := "(Ljava/lang/AbstractStringBuilder;Ljava/lang/Void;)V" } : Jvm.MethodName) jdk_42_method_150_code (5 : Nat) (Option.none : Option Jvm.ClassFile.FieldType), Jvm.Cond.code ({ cls := "java/lang/AbstractStringBuilder", name := "getValue", desc := "()[B" } : Jvm.MethodName) jdk_68_method_64_code (1 : Nat) (Option.some (Jvm.ClassFile.FieldType.array Jvm.ClassFile.FieldType.byte)), Jvm.Cond.code ({ cls := "java/util/Arrays", name := "copyOfRange", desc := "([BII)[B" } : Jvm.MethodName) jdk_65_method_132_code (3 : Nat) (Option.some (Jvm.ClassFile.FieldType.array Jvm.ClassFile.FieldType.byte)), Jvm.Cond.code ({ cls := "java/util/Arrays", name := "copyOfRangeByte", desc := "([BII)[B" } : Jvm.MethodName) jdk_65_method_133_code (5 : Nat) (Option.some (Jvm.ClassFile.FieldType.array Jvm.ClassFile.FieldType.byte)), Jvm.Cond.code ({ cls := "java/util/Arrays", name := "checkLength", desc := "(II)V" } : Jvm.MethodName) jdk_65_method_131_code (2 : Nat) (Option.none : Option Jvm.ClassFile.FieldType), Jvm.Cond.code ({ cls := "java/lang/String", name := "equals", desc := "(Ljava/lang/Object;)Z" } : Jvm.MethodName) jdk_42_method_66_code (3 : Nat) (Option.some Jvm.ClassFile.FieldType.boolean), Jvm.Cond.code ({ cls := "java/lang/StringLatin1", name := "equals", desc := "([B[B)Z" } : Jvm.MethodName) jdk_43_method_13_code (3 : Nat) (Option.some Jvm.ClassFile.FieldType.boolean)]
set_option maxRecDepth 65536 in
theorem codes_eq : words1.filter isCode = codes1 := rfl
theorem w_codes : ∀ c ∈ words1.filter isCode, c.before args0 about1 = true := by
  rw [codes_eq]
  intro c hc
  simp only [codes1, List.mem_cons, List.not_mem_nil, or_false] at hc
  rcases hc with rfl | rfl | rfl | rfl | rfl | rfl | rfl | rfl | rfl | rfl | rfl | rfl | rfl | rfl | rfl | rfl | rfl | rfl | rfl | rfl | rfl | rfl | rfl | rfl | rfl | rfl | rfl | rfl | rfl | rfl | rfl | rfl | rfl | rfl | rfl | rfl | rfl | rfl | rfl | rfl | rfl | rfl | rfl | rfl
  · exact w_c0
  · exact w_c1
  · exact w_c2
  · exact w_c3
  · exact w_c4
  · exact w_c5
  · exact w_c6
  · exact w_c7
  · exact w_c8
  · exact w_c9
  · exact w_c10
  · exact w_c11
  · exact w_c12
  · exact w_c13
  · exact w_c14
  · exact w_c15
  · exact w_c16
  · exact w_c17
  · exact w_c18
  · exact w_c19
  · exact w_c20
  · exact w_c21
  · exact w_c22
  · exact w_c23
  · exact w_c24
  · exact w_c25
  · exact w_c26
  · exact w_c27
  · exact w_c28
  · exact w_c29
  · exact w_c30
  · exact w_c31
  · exact w_c32
  · exact w_c33
  · exact w_c34
  · exact w_c35
  · exact w_c36
  · exact w_c37
  · exact w_c38
  · exact w_c39
  · exact w_c40
  · exact w_c41
  · exact w_c42
  · exact w_c43
set_option maxRecDepth 65536 in
theorem w_t1 : (words1.take 24).all (fun c => isCode c || c.before args0 about1) = true := by decide +kernel
set_option maxRecDepth 65536 in
theorem w_t2 : ((words1.drop 24).take 24).all (fun c => isCode c || c.before args0 about1) = true := by decide +kernel
set_option maxRecDepth 65536 in
theorem w_t3 : (((words1.drop 24).drop 24).take 24).all (fun c => isCode c || c.before args0 about1) = true := by decide +kernel
set_option maxRecDepth 65536 in
theorem w_t4 : ((((words1.drop 24).drop 24).drop 24).take 24).all (fun c => isCode c || c.before args0 about1) = true := by decide +kernel
set_option maxRecDepth 65536 in
theorem w_t5 : (((((words1.drop 24).drop 24).drop 24).drop 24).take 24).all (fun c => isCode c || c.before args0 about1) = true := by decide +kernel
set_option maxRecDepth 65536 in
theorem w_t6 : ((((((words1.drop 24).drop 24).drop 24).drop 24).drop 24).take 24).all (fun c => isCode c || c.before args0 about1) = true := by decide +kernel
set_option maxRecDepth 65536 in
theorem w_t7 : (((((((words1.drop 24).drop 24).drop 24).drop 24).drop 24).drop 24).take 24).all (fun c => isCode c || c.before args0 about1) = true := by decide +kernel
set_option maxRecDepth 65536 in
theorem w_t8 : ((((((((words1.drop 24).drop 24).drop 24).drop 24).drop 24).drop 24).drop 24).take 24).all (fun c => isCode c || c.before args0 about1) = true := by decide +kernel
set_option maxRecDepth 65536 in
theorem w_t9 : (((((((((words1.drop 24).drop 24).drop 24).drop 24).drop 24).drop 24).drop 24).drop 24).take 24).all (fun c => isCode c || c.before args0 about1) = true := by decide +kernel
set_option maxRecDepth 65536 in
theorem w_t10 : (((((((((words1.drop 24).drop 24).drop 24).drop 24).drop 24).drop 24).drop 24).drop 24).drop 24).all (fun c => isCode c || c.before args0 about1) = true := by decide +kernel
theorem w_tables : (allAtoms (Jvm.Cond.code x code maxLocals ret :: tables_1)).before args0 about1 = true := by
  rw [allAtoms_all]
  show words1.all (fun c => c.before args0 about1) = true
  refine all_split ?_ w_codes
  rw [← List.take_append_drop 24 words1, List.all_append, w_t1, ← List.take_append_drop 24 (words1.drop 24), List.all_append, w_t2, ← List.take_append_drop 24 ((words1.drop 24).drop 24), List.all_append, w_t3, ← List.take_append_drop 24 (((words1.drop 24).drop 24).drop 24), List.all_append, w_t4, ← List.take_append_drop 24 ((((words1.drop 24).drop 24).drop 24).drop 24), List.all_append, w_t5, ← List.take_append_drop 24 (((((words1.drop 24).drop 24).drop 24).drop 24).drop 24), List.all_append, w_t6, ← List.take_append_drop 24 ((((((words1.drop 24).drop 24).drop 24).drop 24).drop 24).drop 24), List.all_append, w_t7, ← List.take_append_drop 24 (((((((words1.drop 24).drop 24).drop 24).drop 24).drop 24).drop 24).drop 24), List.all_append, w_t8, ← List.take_append_drop 24 ((((((((words1.drop 24).drop 24).drop 24).drop 24).drop 24).drop 24).drop 24).drop 24), List.all_append, w_t9, w_t10]
  rfl
set_option maxRecDepth 65536 in
theorem w_rest : rest_1_c.before args0 about1 = true := by decide +kernel
set_option maxRecDepth 65536 in
theorem w_case : (Jvm.Cond.and given_1 narrow_1).before args0 about1 = true := by decide +kernel
set_option maxRecDepth 65536 in
theorem w_consts : constsHeld consts_1 about1 := Jvm.Lit.constsHeldB_iff.mp (by decide +kernel)
theorem w_applies : (headSpec (Jvm.Cond.code x code maxLocals ret :: tables_1) room_1).applies x e0.platform about1 = true :=
  (Spec.applies_iff w_frames).mpr ⟨w_running, w_runnable, w_alone, w_named, w_hears, w_ripe, w_room, w_tables⟩
theorem atStart : AtStart classFile x code maxLocals ret World_1 tables_1 room_1 Calls_1 rest_1 Pre_1 launch0 p0 e0 about1 theMethod args0 below0 :=
  ⟨lists_1, trivial, launch0.admits_env _ _ _, launch0.least_env, fairChoices_fair.cas, fairChoices_fair.clock, w_frames, w_args, w_heap, w_applies, ⟨w_consts, trivial⟩, w_rest, w_case⟩
end start1
theorem witness_1 : WitnessClaimed_1 := ⟨start1.p0, start1.e0, start1.about1, start1.theMethod, start1.args0, start1.below0, start1.atStart⟩
end Jvm.Pilot.@@N@@
