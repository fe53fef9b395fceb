import JvmDerived
import JvmDerived.Pilot.@@N@@Statement
import JvmDerived.Pilot.@@N@@Code
set_option linter.unusedVariables false
set_option linter.unusedSimpArgs false
namespace Jvm.Pilot.@@N@@
open Jvm Jvm.ClassFile Sem Op Lib Jvm.Free Jvm.Stand Jvm.LawKit Jvm.RoadKit Bundle Jvm.Pilot.@@N@@.Jvm.D
/-! OwnKit: one predicate for where a walk stands (Wk), one for what is still to be shown (Wp), and a lemma a step, in continuation form. -/
section OwnKit
variable {p : Program} {l : Launch} {e : Env} {R : Room} {s : State} {vm0 : Vm} {m : MethodId} {args : Array Value} {below : List Frame} {meth : Method} {c : Code} {Z : State} {own : String} {n0 : Nat} {B : ByteArray} {ML : Nat} {ret : Option FieldType} {T : State} {h : Heap} {locs : List Loc} {cells slots : Nat} {a0 : Array Value} {Post : Outcome → State → Prop} {pc : Nat} {L : Array Slot} {S : List Value}
/-- where a walk stands -/
def Wk (p : Program) (l : Launch) (e : Env) (R : Room) (s : State) (vm0 : Vm) (m : MethodId) (args : Array Value) (below : List Frame) (meth : Method) (c : Code) (Z : State) (own : String) (n0 : Nat) (B : ByteArray) (ML : Nat) (ret : Option FieldType) (T : State) (h : Heap) (locs : List Loc) (cells slots : Nat) : Prop :=
  Stand p l e R (s.setVm vm0) m args below meth c T locs cells slots ∧ s.Since vm0 h.size ∧ Z.Warmed39 vm0 ∧ vm0.findClass own = some m.cls ∧ T.heap = h ∧ Fr n0 locs ∧ p.tables.exec = Jvm.exec ∧ c.code = B ∧ c.maxLocals = ML ∧ meth.sig.returnType = ret ∧ meth.locks = false
/-- what is still to be shown -/
def Wp (p : Program) (e : Env) (below : List Frame) (Post : Outcome → State → Prop) (T : State) (g : JFrame) : Prop :=
  ∃ s₂ o, Steps p.tables e below (T.setTop g) s₂ ∧ s₂.status = .running ∧ Ended s₂ below o ∧ Post o s₂
theorem Wp.imp {T' : State} {g g' : JFrame} (w : Wp p e below Post T' g') (k : ∀ t, Steps p.tables e below (T'.setTop g') t → Steps p.tables e below (T.setTop g) t) : Wp p e below Post T g := by
  obtain ⟨s₂, o, h1, r⟩ := w
  exact ⟨s₂, o, k _ h1, r⟩
theorem Wk.st (W : Wk p l e R s vm0 m args below meth c Z own n0 B ML ret T h locs cells slots) : Stand p l e R (s.setVm vm0) m args below meth c T locs cells slots := W.1
theorem Wk.here (W : Wk p l e R s vm0 m args below meth c Z own n0 B ML ret T h locs cells slots) : At T m c below := W.1.here
theorem Wk.since (W : Wk p l e R s vm0 m args below meth c Z own n0 B ML ret T h locs cells slots) : s.Since vm0 h.size := W.2.1
theorem Wk.wZ (W : Wk p l e R s vm0 m args below meth c Z own n0 B ML ret T h locs cells slots) : Z.Warmed39 (s.setVm vm0).vm := W.2.2.1
theorem Wk.own' (W : Wk p l e R s vm0 m args below meth c Z own n0 B ML ret T h locs cells slots) : (s.setVm vm0).vm.findClass own = some m.cls := W.2.2.2.1
theorem Wk.heap (W : Wk p l e R s vm0 m args below meth c Z own n0 B ML ret T h locs cells slots) : T.heap = h := W.2.2.2.2.1
theorem Wk.fr (W : Wk p l e R s vm0 m args below meth c Z own n0 B ML ret T h locs cells slots) : Fr n0 locs := W.2.2.2.2.2.1
theorem Wk.exec (W : Wk p l e R s vm0 m args below meth c Z own n0 B ML ret T h locs cells slots) : p.tables.exec = Jvm.exec := W.2.2.2.2.2.2.1
theorem Wk.bytes (W : Wk p l e R s vm0 m args below meth c Z own n0 B ML ret T h locs cells slots) : c.code = B := W.2.2.2.2.2.2.2.1
theorem Wk.ml (W : Wk p l e R s vm0 m args below meth c Z own n0 B ML ret T h locs cells slots) : c.maxLocals = ML := W.2.2.2.2.2.2.2.2.1
theorem Wk.ret' (W : Wk p l e R s vm0 m args below meth c Z own n0 B ML ret T h locs cells slots) : meth.sig.returnType = ret := W.2.2.2.2.2.2.2.2.2.1
theorem Wk.lk (W : Wk p l e R s vm0 m args below meth c Z own n0 B ML ret T h locs cells slots) : meth.locks = false := W.2.2.2.2.2.2.2.2.2.2
/-- on to a later state, the tables' base as it was -/
theorem Wk.on {T' : State} {h' : Heap} {locs' : List Loc} {cells' slots' : Nat} (W : Wk p l e R s vm0 m args below meth c Z own n0 B ML ret T h locs cells slots) (X : Stand p l e R (s.setVm vm0) m args below meth c T' locs' cells' slots') (e' : T'.heap = h') (g : h.size ≤ h'.size) (N : Fr n0 locs') : Wk p l e R s vm0 m args below meth c Z own n0 B ML ret T' h' locs' cells' slots' :=
  ⟨X, ⟨W.since.1, W.since.2.mono g⟩, W.wZ, W.own', e', N, W.exec, W.bytes, W.ml, W.ret', W.lk⟩
/-- fewer cells and slots than are booked -/
theorem Wk.mono {cells' slots' : Nat} (W : Wk p l e R s vm0 m args below meth c Z own n0 B ML ret T h locs cells slots) (hc : cells ≤ cells') (hn : slots ≤ slots') : Wk p l e R s vm0 m args below meth c Z own n0 B ML ret T h locs cells' slots' := W.on (W.st.mono hc hn) W.heap (Nat.le_refl _) W.fr

theorem w_iload (W : Wk p l e R s vm0 m args below meth c Z own n0 B ML ret T h locs cells slots) {k : Nat} {v : Int32} (hd : decode B pc = .ok (.iload k, 2)) (hl : L[k]? = some (.val (.int v))) (hr : Wp p e below Post T (mkF m (pc + 2) L (.int v :: S))) : Wp p e below Post T (mkF m pc L S) :=
  hr.imp fun t q => XS.iload W.here W.exec rfl (hb W.bytes hd) hl q
theorem w_iloadN (W : Wk p l e R s vm0 m args below meth c Z own n0 B ML ret T h locs cells slots) {k : Fin 4} {v : Int32} (hd : decode B pc = .ok (.iload_n k, 1)) (hl : L[k.val]? = some (.val (.int v))) (hr : Wp p e below Post T (mkF m (pc + 1) L (.int v :: S))) : Wp p e below Post T (mkF m pc L S) :=
  hr.imp fun t q => XS.iloadN W.here W.exec rfl (hb W.bytes hd) hl q
theorem w_istore (W : Wk p l e R s vm0 m args below meth c Z own n0 B ML ret T h locs cells slots) {k : Nat} {v : Int32} {L' : Array Slot} (hd : decode B pc = .ok (.istore k, 2)) (hl : storeLocals L k (.int v) = some L') (hr : Wp p e below Post T (mkF m (pc + 2) L' S)) : Wp p e below Post T (mkF m pc L (.int v :: S)) :=
  hr.imp fun t q => XS.istore W.here W.exec rfl (hb W.bytes hd) rfl hl q
theorem w_istoreN (W : Wk p l e R s vm0 m args below meth c Z own n0 B ML ret T h locs cells slots) {k : Fin 4} {v : Int32} {L' : Array Slot} (hd : decode B pc = .ok (.istore_n k, 1)) (hl : storeLocals L k.val (.int v) = some L') (hr : Wp p e below Post T (mkF m (pc + 1) L' S)) : Wp p e below Post T (mkF m pc L (.int v :: S)) :=
  hr.imp fun t q => XS.istoreN W.here W.exec rfl (hb W.bytes hd) rfl hl q
theorem w_lload (W : Wk p l e R s vm0 m args below meth c Z own n0 B ML ret T h locs cells slots) {k : Nat} {v : Int64} (hd : decode B pc = .ok (.lload k, 2)) (hl : L[k]? = some (.val (.long v))) (hr : Wp p e below Post T (mkF m (pc + 2) L (.long v :: S))) : Wp p e below Post T (mkF m pc L S) :=
  hr.imp fun t q => XS.lload W.here W.exec rfl (hb W.bytes hd) hl q
theorem w_lloadN (W : Wk p l e R s vm0 m args below meth c Z own n0 B ML ret T h locs cells slots) {k : Fin 4} {v : Int64} (hd : decode B pc = .ok (.lload_n k, 1)) (hl : L[k.val]? = some (.val (.long v))) (hr : Wp p e below Post T (mkF m (pc + 1) L (.long v :: S))) : Wp p e below Post T (mkF m pc L S) :=
  hr.imp fun t q => XS.lloadN W.here W.exec rfl (hb W.bytes hd) hl q
theorem w_lstore (W : Wk p l e R s vm0 m args below meth c Z own n0 B ML ret T h locs cells slots) {k : Nat} {v : Int64} {L' : Array Slot} (hd : decode B pc = .ok (.lstore k, 2)) (hl : storeLocals L k (.long v) = some L') (hr : Wp p e below Post T (mkF m (pc + 2) L' S)) : Wp p e below Post T (mkF m pc L (.long v :: S)) :=
  hr.imp fun t q => XS.lstore W.here W.exec rfl (hb W.bytes hd) rfl hl q
theorem w_lstoreN (W : Wk p l e R s vm0 m args below meth c Z own n0 B ML ret T h locs cells slots) {k : Fin 4} {v : Int64} {L' : Array Slot} (hd : decode B pc = .ok (.lstore_n k, 1)) (hl : storeLocals L k.val (.long v) = some L') (hr : Wp p e below Post T (mkF m (pc + 1) L' S)) : Wp p e below Post T (mkF m pc L (.long v :: S)) :=
  hr.imp fun t q => XS.lstoreN W.here W.exec rfl (hb W.bytes hd) rfl hl q
theorem w_aload (W : Wk p l e R s vm0 m args below meth c Z own n0 B ML ret T h locs cells slots) {k : Nat} {v : Value} (hd : decode B pc = .ok (.aload k, 2)) (hl : L[k]? = some (.val v)) (hv : v.isRef = true) (hr : Wp p e below Post T (mkF m (pc + 2) L (v :: S))) : Wp p e below Post T (mkF m pc L S) :=
  hr.imp fun t q => XS.aload W.here W.exec rfl (hb W.bytes hd) hl hv q
theorem w_aloadN (W : Wk p l e R s vm0 m args below meth c Z own n0 B ML ret T h locs cells slots) {k : Fin 4} {v : Value} (hd : decode B pc = .ok (.aload_n k, 1)) (hl : L[k.val]? = some (.val v)) (hv : v.isRef = true) (hr : Wp p e below Post T (mkF m (pc + 1) L (v :: S))) : Wp p e below Post T (mkF m pc L S) :=
  hr.imp fun t q => XS.aloadN W.here W.exec rfl (hb W.bytes hd) hl hv q
theorem w_astore (W : Wk p l e R s vm0 m args below meth c Z own n0 B ML ret T h locs cells slots) {k : Nat} {v : Value} {L' : Array Slot} (hd : decode B pc = .ok (.astore k, 2)) (hv : v.isRef = true) (hl : storeLocals L k v = some L') (hr : Wp p e below Post T (mkF m (pc + 2) L' S)) : Wp p e below Post T (mkF m pc L (v :: S)) :=
  hr.imp fun t q => XS.astore W.here W.exec rfl (hb W.bytes hd) rfl hv hl q
theorem w_astoreN (W : Wk p l e R s vm0 m args below meth c Z own n0 B ML ret T h locs cells slots) {k : Fin 4} {v : Value} {L' : Array Slot} (hd : decode B pc = .ok (.astore_n k, 1)) (hv : v.isRef = true) (hl : storeLocals L k.val v = some L') (hr : Wp p e below Post T (mkF m (pc + 1) L' S)) : Wp p e below Post T (mkF m pc L (v :: S)) :=
  hr.imp fun t q => XS.astoreN W.here W.exec rfl (hb W.bytes hd) rfl hv hl q
theorem w_iconst (W : Wk p l e R s vm0 m args below meth c Z own n0 B ML ret T h locs cells slots) {i : Int} {z : Int32} (hd : decode B pc = .ok (.iconst i, 1)) (hz : Int32.ofInt i = z) (hr : Wp p e below Post T (mkF m (pc + 1) L (.int z :: S))) : Wp p e below Post T (mkF m pc L S) := by
  subst hz; exact hr.imp fun t q => XS.iconst W.here W.exec rfl (hb W.bytes hd)  q
theorem w_bipush (W : Wk p l e R s vm0 m args below meth c Z own n0 B ML ret T h locs cells slots) {i : Int} {z : Int32} (hd : decode B pc = .ok (.bipush i, 2)) (hz : (Int8.ofInt i).toInt32 = z) (hr : Wp p e below Post T (mkF m (pc + 2) L (.int z :: S))) : Wp p e below Post T (mkF m pc L S) := by
  subst hz; exact hr.imp fun t q => XS.bipush W.here W.exec rfl (hb W.bytes hd)  q
theorem w_sipush (W : Wk p l e R s vm0 m args below meth c Z own n0 B ML ret T h locs cells slots) {i : Int} {z : Int32} (hd : decode B pc = .ok (.sipush i, 3)) (hz : (Int16.ofInt i).toInt32 = z) (hr : Wp p e below Post T (mkF m (pc + 3) L (.int z :: S))) : Wp p e below Post T (mkF m pc L S) := by
  subst hz; exact hr.imp fun t q => XS.sipush W.here W.exec rfl (hb W.bytes hd)  q
theorem w_iadd (W : Wk p l e R s vm0 m args below meth c Z own n0 B ML ret T h locs cells slots) {x y : Int32} {z : Int32} (hd : decode B pc = .ok (.iadd, 1)) (hz : x + y = z) (hr : Wp p e below Post T (mkF m (pc + 1) L (.int z :: S))) : Wp p e below Post T (mkF m pc L (.int y :: .int x :: S)) := by
  subst hz; exact hr.imp fun t q => XS.iadd W.here W.exec rfl (hb W.bytes hd) rfl q
theorem w_isub (W : Wk p l e R s vm0 m args below meth c Z own n0 B ML ret T h locs cells slots) {x y : Int32} {z : Int32} (hd : decode B pc = .ok (.isub, 1)) (hz : x - y = z) (hr : Wp p e below Post T (mkF m (pc + 1) L (.int z :: S))) : Wp p e below Post T (mkF m pc L (.int y :: .int x :: S)) := by
  subst hz; exact hr.imp fun t q => XS.isub W.here W.exec rfl (hb W.bytes hd) rfl q
theorem w_imul (W : Wk p l e R s vm0 m args below meth c Z own n0 B ML ret T h locs cells slots) {x y : Int32} {z : Int32} (hd : decode B pc = .ok (.imul, 1)) (hz : x * y = z) (hr : Wp p e below Post T (mkF m (pc + 1) L (.int z :: S))) : Wp p e below Post T (mkF m pc L (.int y :: .int x :: S)) := by
  subst hz; exact hr.imp fun t q => XS.imul W.here W.exec rfl (hb W.bytes hd) rfl q
theorem w_iand (W : Wk p l e R s vm0 m args below meth c Z own n0 B ML ret T h locs cells slots) {x y : Int32} {z : Int32} (hd : decode B pc = .ok (.iand, 1)) (hz : x &&& y = z) (hr : Wp p e below Post T (mkF m (pc + 1) L (.int z :: S))) : Wp p e below Post T (mkF m pc L (.int y :: .int x :: S)) := by
  subst hz; exact hr.imp fun t q => XS.iand W.here W.exec rfl (hb W.bytes hd) rfl q
theorem w_ior (W : Wk p l e R s vm0 m args below meth c Z own n0 B ML ret T h locs cells slots) {x y : Int32} {z : Int32} (hd : decode B pc = .ok (.ior, 1)) (hz : x ||| y = z) (hr : Wp p e below Post T (mkF m (pc + 1) L (.int z :: S))) : Wp p e below Post T (mkF m pc L (.int y :: .int x :: S)) := by
  subst hz; exact hr.imp fun t q => XS.ior W.here W.exec rfl (hb W.bytes hd) rfl q
theorem w_ixor (W : Wk p l e R s vm0 m args below meth c Z own n0 B ML ret T h locs cells slots) {x y : Int32} {z : Int32} (hd : decode B pc = .ok (.ixor, 1)) (hz : x ^^^ y = z) (hr : Wp p e below Post T (mkF m (pc + 1) L (.int z :: S))) : Wp p e below Post T (mkF m pc L (.int y :: .int x :: S)) := by
  subst hz; exact hr.imp fun t q => XS.ixor W.here W.exec rfl (hb W.bytes hd) rfl q
theorem w_ladd (W : Wk p l e R s vm0 m args below meth c Z own n0 B ML ret T h locs cells slots) {x y : Int64} {z : Int64} (hd : decode B pc = .ok (.ladd, 1)) (hz : x + y = z) (hr : Wp p e below Post T (mkF m (pc + 1) L (.long z :: S))) : Wp p e below Post T (mkF m pc L (.long y :: .long x :: S)) := by
  subst hz; exact hr.imp fun t q => XS.ladd W.here W.exec rfl (hb W.bytes hd) rfl q
theorem w_lsub (W : Wk p l e R s vm0 m args below meth c Z own n0 B ML ret T h locs cells slots) {x y : Int64} {z : Int64} (hd : decode B pc = .ok (.lsub, 1)) (hz : x - y = z) (hr : Wp p e below Post T (mkF m (pc + 1) L (.long z :: S))) : Wp p e below Post T (mkF m pc L (.long y :: .long x :: S)) := by
  subst hz; exact hr.imp fun t q => XS.lsub W.here W.exec rfl (hb W.bytes hd) rfl q
theorem w_lmul (W : Wk p l e R s vm0 m args below meth c Z own n0 B ML ret T h locs cells slots) {x y : Int64} {z : Int64} (hd : decode B pc = .ok (.lmul, 1)) (hz : x * y = z) (hr : Wp p e below Post T (mkF m (pc + 1) L (.long z :: S))) : Wp p e below Post T (mkF m pc L (.long y :: .long x :: S)) := by
  subst hz; exact hr.imp fun t q => XS.lmul W.here W.exec rfl (hb W.bytes hd) rfl q
theorem w_land (W : Wk p l e R s vm0 m args below meth c Z own n0 B ML ret T h locs cells slots) {x y : Int64} {z : Int64} (hd : decode B pc = .ok (.land, 1)) (hz : x &&& y = z) (hr : Wp p e below Post T (mkF m (pc + 1) L (.long z :: S))) : Wp p e below Post T (mkF m pc L (.long y :: .long x :: S)) := by
  subst hz; exact hr.imp fun t q => XS.land W.here W.exec rfl (hb W.bytes hd) rfl q
theorem w_lor (W : Wk p l e R s vm0 m args below meth c Z own n0 B ML ret T h locs cells slots) {x y : Int64} {z : Int64} (hd : decode B pc = .ok (.lor, 1)) (hz : x ||| y = z) (hr : Wp p e below Post T (mkF m (pc + 1) L (.long z :: S))) : Wp p e below Post T (mkF m pc L (.long y :: .long x :: S)) := by
  subst hz; exact hr.imp fun t q => XS.lor W.here W.exec rfl (hb W.bytes hd) rfl q
theorem w_lxor (W : Wk p l e R s vm0 m args below meth c Z own n0 B ML ret T h locs cells slots) {x y : Int64} {z : Int64} (hd : decode B pc = .ok (.lxor, 1)) (hz : x ^^^ y = z) (hr : Wp p e below Post T (mkF m (pc + 1) L (.long z :: S))) : Wp p e below Post T (mkF m pc L (.long y :: .long x :: S)) := by
  subst hz; exact hr.imp fun t q => XS.lxor W.here W.exec rfl (hb W.bytes hd) rfl q
theorem w_ishl (W : Wk p l e R s vm0 m args below meth c Z own n0 B ML ret T h locs cells slots) {x y : Int32} {z : Int32} (hd : decode B pc = .ok (.ishl, 1)) (hz : x <<< (y &&& 31) = z) (hr : Wp p e below Post T (mkF m (pc + 1) L (.int z :: S))) : Wp p e below Post T (mkF m pc L (.int y :: .int x :: S)) := by
  subst hz; exact hr.imp fun t q => XS.ishl W.here W.exec rfl (hb W.bytes hd) rfl q
theorem w_ishr (W : Wk p l e R s vm0 m args below meth c Z own n0 B ML ret T h locs cells slots) {x y : Int32} {z : Int32} (hd : decode B pc = .ok (.ishr, 1)) (hz : x >>> (y &&& 31) = z) (hr : Wp p e below Post T (mkF m (pc + 1) L (.int z :: S))) : Wp p e below Post T (mkF m pc L (.int y :: .int x :: S)) := by
  subst hz; exact hr.imp fun t q => XS.ishr W.here W.exec rfl (hb W.bytes hd) rfl q
theorem w_iushr (W : Wk p l e R s vm0 m args below meth c Z own n0 B ML ret T h locs cells slots) {x y : Int32} {z : Int32} (hd : decode B pc = .ok (.iushr, 1)) (hz : (x.toUInt32 >>> (y &&& 31).toUInt32).toInt32 = z) (hr : Wp p e below Post T (mkF m (pc + 1) L (.int z :: S))) : Wp p e below Post T (mkF m pc L (.int y :: .int x :: S)) := by
  subst hz; exact hr.imp fun t q => XS.iushr W.here W.exec rfl (hb W.bytes hd) rfl q
theorem w_lshl (W : Wk p l e R s vm0 m args below meth c Z own n0 B ML ret T h locs cells slots) {x : Int64} {y : Int32} {z : Int64} (hd : decode B pc = .ok (.lshl, 1)) (hz : x <<< (y &&& 0x3f).toInt64 = z) (hr : Wp p e below Post T (mkF m (pc + 1) L (.long z :: S))) : Wp p e below Post T (mkF m pc L (.int y :: .long x :: S)) := by
  subst hz; exact hr.imp fun t q => XS.lshl W.here W.exec rfl (hb W.bytes hd) rfl q
theorem w_lshr (W : Wk p l e R s vm0 m args below meth c Z own n0 B ML ret T h locs cells slots) {x : Int64} {y : Int32} {z : Int64} (hd : decode B pc = .ok (.lshr, 1)) (hz : x >>> (y &&& 0x3f).toInt64 = z) (hr : Wp p e below Post T (mkF m (pc + 1) L (.long z :: S))) : Wp p e below Post T (mkF m pc L (.int y :: .long x :: S)) := by
  subst hz; exact hr.imp fun t q => XS.lshr W.here W.exec rfl (hb W.bytes hd) rfl q
theorem w_lushr (W : Wk p l e R s vm0 m args below meth c Z own n0 B ML ret T h locs cells slots) {x : Int64} {y : Int32} {z : Int64} (hd : decode B pc = .ok (.lushr, 1)) (hz : (x.toUInt64 >>> (y &&& 0x3f).toInt64.toUInt64).toInt64 = z) (hr : Wp p e below Post T (mkF m (pc + 1) L (.long z :: S))) : Wp p e below Post T (mkF m pc L (.int y :: .long x :: S)) := by
  subst hz; exact hr.imp fun t q => XS.lushr W.here W.exec rfl (hb W.bytes hd) rfl q
theorem w_ineg (W : Wk p l e R s vm0 m args below meth c Z own n0 B ML ret T h locs cells slots) {x : Int32} {z : Int32} (hd : decode B pc = .ok (.ineg, 1)) (hz : -x = z) (hr : Wp p e below Post T (mkF m (pc + 1) L (.int z :: S))) : Wp p e below Post T (mkF m pc L (.int x :: S)) := by
  subst hz; exact hr.imp fun t q => XS.ineg W.here W.exec rfl (hb W.bytes hd) rfl q
theorem w_lneg (W : Wk p l e R s vm0 m args below meth c Z own n0 B ML ret T h locs cells slots) {x : Int64} {z : Int64} (hd : decode B pc = .ok (.lneg, 1)) (hz : -x = z) (hr : Wp p e below Post T (mkF m (pc + 1) L (.long z :: S))) : Wp p e below Post T (mkF m pc L (.long x :: S)) := by
  subst hz; exact hr.imp fun t q => XS.lneg W.here W.exec rfl (hb W.bytes hd) rfl q
theorem w_i2l (W : Wk p l e R s vm0 m args below meth c Z own n0 B ML ret T h locs cells slots) {x : Int32} {z : Int64} (hd : decode B pc = .ok (.i2l, 1)) (hz : x.toInt64 = z) (hr : Wp p e below Post T (mkF m (pc + 1) L (.long z :: S))) : Wp p e below Post T (mkF m pc L (.int x :: S)) := by
  subst hz; exact hr.imp fun t q => XS.i2l W.here W.exec rfl (hb W.bytes hd) rfl q
theorem w_l2i (W : Wk p l e R s vm0 m args below meth c Z own n0 B ML ret T h locs cells slots) {x : Int64} {z : Int32} (hd : decode B pc = .ok (.l2i, 1)) (hz : x.toInt32 = z) (hr : Wp p e below Post T (mkF m (pc + 1) L (.int z :: S))) : Wp p e below Post T (mkF m pc L (.long x :: S)) := by
  subst hz; exact hr.imp fun t q => XS.l2i W.here W.exec rfl (hb W.bytes hd) rfl q
theorem w_i2b (W : Wk p l e R s vm0 m args below meth c Z own n0 B ML ret T h locs cells slots) {x : Int32} {z : Int32} (hd : decode B pc = .ok (.i2b, 1)) (hz : x.toInt8.toInt32 = z) (hr : Wp p e below Post T (mkF m (pc + 1) L (.int z :: S))) : Wp p e below Post T (mkF m pc L (.int x :: S)) := by
  subst hz; exact hr.imp fun t q => XS.i2b W.here W.exec rfl (hb W.bytes hd) rfl q
theorem w_i2c (W : Wk p l e R s vm0 m args below meth c Z own n0 B ML ret T h locs cells slots) {x : Int32} {z : Int32} (hd : decode B pc = .ok (.i2c, 1)) (hz : x.toUInt32.toUInt16.toUInt32.toInt32 = z) (hr : Wp p e below Post T (mkF m (pc + 1) L (.int z :: S))) : Wp p e below Post T (mkF m pc L (.int x :: S)) := by
  subst hz; exact hr.imp fun t q => XS.i2c W.here W.exec rfl (hb W.bytes hd) rfl q
theorem w_i2s (W : Wk p l e R s vm0 m args below meth c Z own n0 B ML ret T h locs cells slots) {x : Int32} {z : Int32} (hd : decode B pc = .ok (.i2s, 1)) (hz : x.toInt16.toInt32 = z) (hr : Wp p e below Post T (mkF m (pc + 1) L (.int z :: S))) : Wp p e below Post T (mkF m pc L (.int x :: S)) := by
  subst hz; exact hr.imp fun t q => XS.i2s W.here W.exec rfl (hb W.bytes hd) rfl q
theorem w_lcmp (W : Wk p l e R s vm0 m args below meth c Z own n0 B ML ret T h locs cells slots) {x y : Int64} {z : Int32} (hd : decode B pc = .ok (.lcmp, 1)) (hz : lcmpW x y = z) (hr : Wp p e below Post T (mkF m (pc + 1) L (.int z :: S))) : Wp p e below Post T (mkF m pc L (.long y :: .long x :: S)) := by
  subst hz; exact hr.imp fun t q => XS.lcmp W.here W.exec rfl (hb W.bytes hd) rfl q
theorem w_idiv (W : Wk p l e R s vm0 m args below meth c Z own n0 B ML ret T h locs cells slots) {x y : Int32} {z : Int32} (hd : decode B pc = .ok (.idiv, 1)) (hy : y ≠ 0) (hz : x / y = z) (hr : Wp p e below Post T (mkF m (pc + 1) L (.int z :: S))) : Wp p e below Post T (mkF m pc L (.int y :: .int x :: S)) := by
  subst hz; exact hr.imp fun t q => XS.idiv W.here W.exec rfl (hb W.bytes hd) rfl hy q
theorem w_irem (W : Wk p l e R s vm0 m args below meth c Z own n0 B ML ret T h locs cells slots) {x y z : Int32} (hd : decode B pc = .ok (.irem, 1)) (hy : y ≠ 0) (hz : x % y = z) (hr : Wp p e below Post T (mkF m (pc + 1) L (.int z :: S))) : Wp p e below Post T (mkF m pc L (.int y :: .int x :: S)) := by
  subst hz; exact hr.imp fun t q => iremM W.st W.exec rfl (hb W.bytes hd) rfl hy q
theorem w_lconst (W : Wk p l e R s vm0 m args below meth c Z own n0 B ML ret T h locs cells slots) {k : Fin 2} {z : Int64} (hd : decode B pc = .ok (.lconst k, 1)) (hz : (Int64.ofNat k.val) = z) (hr : Wp p e below Post T (mkF m (pc + 1) L (.long z :: S))) : Wp p e below Post T (mkF m pc L S) := by
  subst hz; exact hr.imp fun t q => XS.lconst W.here W.exec rfl (hb W.bytes hd) q
theorem w_aconstNull (W : Wk p l e R s vm0 m args below meth c Z own n0 B ML ret T h locs cells slots)  (hd : decode B pc = .ok (.aconst_null, 1)) (hr : Wp p e below Post T (mkF m (pc + 1) L (.null :: S))) : Wp p e below Post T (mkF m pc L S) :=
  hr.imp fun t q => XS.aconstNull W.here W.exec rfl (hb W.bytes hd)  q
theorem w_dup (W : Wk p l e R s vm0 m args below meth c Z own n0 B ML ret T h locs cells slots) {v : Value} (hd : decode B pc = .ok (.dup, 1)) (hc : v.category = 1) (hr : Wp p e below Post T (mkF m (pc + 1) L (v :: v :: S))) : Wp p e below Post T (mkF m pc L (v :: S)) :=
  hr.imp fun t q => XS.dup W.here W.exec rfl (hb W.bytes hd) rfl hc q
theorem w_pop (W : Wk p l e R s vm0 m args below meth c Z own n0 B ML ret T h locs cells slots) {v : Value} (hd : decode B pc = .ok (.pop, 1)) (hc : v.category = 1) (hr : Wp p e below Post T (mkF m (pc + 1) L S)) : Wp p e below Post T (mkF m pc L (v :: S)) :=
  hr.imp fun t q => XS.pop W.here W.exec rfl (hb W.bytes hd) rfl hc q
theorem w_dupX1 (W : Wk p l e R s vm0 m args below meth c Z own n0 B ML ret T h locs cells slots) {v w : Value} (hd : decode B pc = .ok (.dup_x1, 1)) (hc : v.category = 1) (hc' : w.category = 1) (hr : Wp p e below Post T (mkF m (pc + 1) L (v :: w :: v :: S))) : Wp p e below Post T (mkF m pc L (v :: w :: S)) :=
  hr.imp fun t q => XS.dupX1 W.here W.exec rfl (hb W.bytes hd) rfl hc hc' q
theorem w_dup2 (W : Wk p l e R s vm0 m args below meth c Z own n0 B ML ret T h locs cells slots) {v w : Value} (hd : decode B pc = .ok (.dup2, 1)) (hc : v.category = 1) (hc' : w.category = 1) (hr : Wp p e below Post T (mkF m (pc + 1) L (v :: w :: v :: w :: S))) : Wp p e below Post T (mkF m pc L (v :: w :: S)) :=
  hr.imp fun t q => XT.dup2 W.here W.exec rfl (hb W.bytes hd) rfl hc hc' q
theorem w_iinc (W : Wk p l e R s vm0 m args below meth c Z own n0 B ML ret T h locs cells slots) {k : Nat} {cst : Int} {x z : Int32} {L' : Array Slot} (hd : decode B pc = .ok (.iinc k cst, 3)) (hl : L[k]? = some (.val (.int x))) (hz : x + Int32.ofInt cst = z) (hl' : storeLocals L k (.int z) = some L') (hr : Wp p e below Post T (mkF m (pc + 3) L' S)) : Wp p e below Post T (mkF m pc L S) := by
  subst hz; exact hr.imp fun t q => XS.iinc W.here W.exec rfl (hb W.bytes hd) hl hl' q
theorem w_goto (W : Wk p l e R s vm0 m args below meth c Z own n0 B ML ret T h locs cells slots) {o : Int} {pc' : Nat} (hd : decode B pc = .ok (.goto o, 3)) (hp : (pc : Int) + o = (pc' : Int)) (hr : Wp p e below Post T (mkF m pc' L S)) : Wp p e below Post T (mkF m pc L S) :=
  hr.imp fun t q => XS.goto W.here W.exec rfl (pc0 := pc) rfl (hb W.bytes hd) (by omega) (by omega) q
theorem w_icmpeq (W : Wk p l e R s vm0 m args below meth c Z own n0 B ML ret T h locs cells slots) {x y : Int32} {o : Int} {pc' : Nat} (hd : decode B pc = .ok (.if_icmp .eq o, 3)) (hp : (pc : Int) + o = (pc' : Int)) (k1 : x = y → Wp p e below Post T (mkF m pc' L S)) (k2 : ¬ (x = y) → Wp p e below Post T (mkF m (pc + 3) L S)) : Wp p e below Post T (mkF m pc L (.int y :: .int x :: S)) := by
  by_cases hq : x = y
  · exact (k1 hq).imp fun t q => XS.icmpYes W.here W.exec rfl (pc0 := pc) rfl (hb W.bytes hd) rfl (teq hq).1 (by omega) (by omega) q
  · exact (k2 hq).imp fun t q => XS.icmpNo W.here W.exec rfl (hb W.bytes hd) rfl (feq hq).1 q
theorem w_ifeq (W : Wk p l e R s vm0 m args below meth c Z own n0 B ML ret T h locs cells slots) {x : Int32} {o : Int} {pc' : Nat} (hd : decode B pc = .ok (.ifCond .eq o, 3)) (hp : (pc : Int) + o = (pc' : Int)) (k1 : x = 0 → Wp p e below Post T (mkF m pc' L S)) (k2 : ¬ (x = 0) → Wp p e below Post T (mkF m (pc + 3) L S)) : Wp p e below Post T (mkF m pc L (.int x :: S)) := by
  by_cases hq : x = 0
  · exact (k1 hq).imp fun t q => XS.ifYes W.here W.exec rfl (pc0 := pc) rfl (hb W.bytes hd) rfl ((if0 _ _).trans (teq hq).1) (by omega) (by omega) q
  · exact (k2 hq).imp fun t q => XS.ifNo W.here W.exec rfl (hb W.bytes hd) rfl ((if0 _ _).trans (feq hq).1) q
theorem w_icmpne (W : Wk p l e R s vm0 m args below meth c Z own n0 B ML ret T h locs cells slots) {x y : Int32} {o : Int} {pc' : Nat} (hd : decode B pc = .ok (.if_icmp .ne o, 3)) (hp : (pc : Int) + o = (pc' : Int)) (k1 : ¬ (x = y) → Wp p e below Post T (mkF m pc' L S)) (k2 : x = y → Wp p e below Post T (mkF m (pc + 3) L S)) : Wp p e below Post T (mkF m pc L (.int y :: .int x :: S)) := by
  by_cases hq : x = y
  · exact (k2 hq).imp fun t q => XS.icmpNo W.here W.exec rfl (hb W.bytes hd) rfl (teq hq).2 q
  · exact (k1 hq).imp fun t q => XS.icmpYes W.here W.exec rfl (pc0 := pc) rfl (hb W.bytes hd) rfl (feq hq).2 (by omega) (by omega) q
theorem w_ifne (W : Wk p l e R s vm0 m args below meth c Z own n0 B ML ret T h locs cells slots) {x : Int32} {o : Int} {pc' : Nat} (hd : decode B pc = .ok (.ifCond .ne o, 3)) (hp : (pc : Int) + o = (pc' : Int)) (k1 : ¬ (x = 0) → Wp p e below Post T (mkF m pc' L S)) (k2 : x = 0 → Wp p e below Post T (mkF m (pc + 3) L S)) : Wp p e below Post T (mkF m pc L (.int x :: S)) := by
  by_cases hq : x = 0
  · exact (k2 hq).imp fun t q => XS.ifNo W.here W.exec rfl (hb W.bytes hd) rfl ((if0 _ _).trans (teq hq).2) q
  · exact (k1 hq).imp fun t q => XS.ifYes W.here W.exec rfl (pc0 := pc) rfl (hb W.bytes hd) rfl ((if0 _ _).trans (feq hq).2) (by omega) (by omega) q
theorem w_icmplt (W : Wk p l e R s vm0 m args below meth c Z own n0 B ML ret T h locs cells slots) {x y : Int32} {o : Int} {pc' : Nat} (hd : decode B pc = .ok (.if_icmp .lt o, 3)) (hp : (pc : Int) + o = (pc' : Int)) (k1 : x < y → Wp p e below Post T (mkF m pc' L S)) (k2 : ¬ (x < y) → Wp p e below Post T (mkF m (pc + 3) L S)) : Wp p e below Post T (mkF m pc L (.int y :: .int x :: S)) := by
  by_cases hq : x < y
  · exact (k1 hq).imp fun t q => XS.icmpYes W.here W.exec rfl (pc0 := pc) rfl (hb W.bytes hd) rfl (tlt hq).1 (by omega) (by omega) q
  · exact (k2 hq).imp fun t q => XS.icmpNo W.here W.exec rfl (hb W.bytes hd) rfl (flt hq).1 q
theorem w_iflt (W : Wk p l e R s vm0 m args below meth c Z own n0 B ML ret T h locs cells slots) {x : Int32} {o : Int} {pc' : Nat} (hd : decode B pc = .ok (.ifCond .lt o, 3)) (hp : (pc : Int) + o = (pc' : Int)) (k1 : x < 0 → Wp p e below Post T (mkF m pc' L S)) (k2 : ¬ (x < 0) → Wp p e below Post T (mkF m (pc + 3) L S)) : Wp p e below Post T (mkF m pc L (.int x :: S)) := by
  by_cases hq : x < 0
  · exact (k1 hq).imp fun t q => XS.ifYes W.here W.exec rfl (pc0 := pc) rfl (hb W.bytes hd) rfl ((if0 _ _).trans (tlt hq).1) (by omega) (by omega) q
  · exact (k2 hq).imp fun t q => XS.ifNo W.here W.exec rfl (hb W.bytes hd) rfl ((if0 _ _).trans (flt hq).1) q
theorem w_icmpge (W : Wk p l e R s vm0 m args below meth c Z own n0 B ML ret T h locs cells slots) {x y : Int32} {o : Int} {pc' : Nat} (hd : decode B pc = .ok (.if_icmp .ge o, 3)) (hp : (pc : Int) + o = (pc' : Int)) (k1 : ¬ (x < y) → Wp p e below Post T (mkF m pc' L S)) (k2 : x < y → Wp p e below Post T (mkF m (pc + 3) L S)) : Wp p e below Post T (mkF m pc L (.int y :: .int x :: S)) := by
  by_cases hq : x < y
  · exact (k2 hq).imp fun t q => XS.icmpNo W.here W.exec rfl (hb W.bytes hd) rfl (tlt hq).2.1 q
  · exact (k1 hq).imp fun t q => XS.icmpYes W.here W.exec rfl (pc0 := pc) rfl (hb W.bytes hd) rfl (flt hq).2.1 (by omega) (by omega) q
theorem w_ifge (W : Wk p l e R s vm0 m args below meth c Z own n0 B ML ret T h locs cells slots) {x : Int32} {o : Int} {pc' : Nat} (hd : decode B pc = .ok (.ifCond .ge o, 3)) (hp : (pc : Int) + o = (pc' : Int)) (k1 : ¬ (x < 0) → Wp p e below Post T (mkF m pc' L S)) (k2 : x < 0 → Wp p e below Post T (mkF m (pc + 3) L S)) : Wp p e below Post T (mkF m pc L (.int x :: S)) := by
  by_cases hq : x < 0
  · exact (k2 hq).imp fun t q => XS.ifNo W.here W.exec rfl (hb W.bytes hd) rfl ((if0 _ _).trans (tlt hq).2.1) q
  · exact (k1 hq).imp fun t q => XS.ifYes W.here W.exec rfl (pc0 := pc) rfl (hb W.bytes hd) rfl ((if0 _ _).trans (flt hq).2.1) (by omega) (by omega) q
theorem w_icmpgt (W : Wk p l e R s vm0 m args below meth c Z own n0 B ML ret T h locs cells slots) {x y : Int32} {o : Int} {pc' : Nat} (hd : decode B pc = .ok (.if_icmp .gt o, 3)) (hp : (pc : Int) + o = (pc' : Int)) (k1 : y < x → Wp p e below Post T (mkF m pc' L S)) (k2 : ¬ (y < x) → Wp p e below Post T (mkF m (pc + 3) L S)) : Wp p e below Post T (mkF m pc L (.int y :: .int x :: S)) := by
  by_cases hq : y < x
  · exact (k1 hq).imp fun t q => XS.icmpYes W.here W.exec rfl (pc0 := pc) rfl (hb W.bytes hd) rfl (tlt hq).2.2.1 (by omega) (by omega) q
  · exact (k2 hq).imp fun t q => XS.icmpNo W.here W.exec rfl (hb W.bytes hd) rfl (flt hq).2.2.1 q
theorem w_ifgt (W : Wk p l e R s vm0 m args below meth c Z own n0 B ML ret T h locs cells slots) {x : Int32} {o : Int} {pc' : Nat} (hd : decode B pc = .ok (.ifCond .gt o, 3)) (hp : (pc : Int) + o = (pc' : Int)) (k1 : 0 < x → Wp p e below Post T (mkF m pc' L S)) (k2 : ¬ (0 < x) → Wp p e below Post T (mkF m (pc + 3) L S)) : Wp p e below Post T (mkF m pc L (.int x :: S)) := by
  by_cases hq : 0 < x
  · exact (k1 hq).imp fun t q => XS.ifYes W.here W.exec rfl (pc0 := pc) rfl (hb W.bytes hd) rfl ((if0 _ _).trans (tlt hq).2.2.1) (by omega) (by omega) q
  · exact (k2 hq).imp fun t q => XS.ifNo W.here W.exec rfl (hb W.bytes hd) rfl ((if0 _ _).trans (flt hq).2.2.1) q
theorem w_icmple (W : Wk p l e R s vm0 m args below meth c Z own n0 B ML ret T h locs cells slots) {x y : Int32} {o : Int} {pc' : Nat} (hd : decode B pc = .ok (.if_icmp .le o, 3)) (hp : (pc : Int) + o = (pc' : Int)) (k1 : ¬ (y < x) → Wp p e below Post T (mkF m pc' L S)) (k2 : y < x → Wp p e below Post T (mkF m (pc + 3) L S)) : Wp p e below Post T (mkF m pc L (.int y :: .int x :: S)) := by
  by_cases hq : y < x
  · exact (k2 hq).imp fun t q => XS.icmpNo W.here W.exec rfl (hb W.bytes hd) rfl (tlt hq).2.2.2 q
  · exact (k1 hq).imp fun t q => XS.icmpYes W.here W.exec rfl (pc0 := pc) rfl (hb W.bytes hd) rfl (flt hq).2.2.2 (by omega) (by omega) q
theorem w_ifle (W : Wk p l e R s vm0 m args below meth c Z own n0 B ML ret T h locs cells slots) {x : Int32} {o : Int} {pc' : Nat} (hd : decode B pc = .ok (.ifCond .le o, 3)) (hp : (pc : Int) + o = (pc' : Int)) (k1 : ¬ (0 < x) → Wp p e below Post T (mkF m pc' L S)) (k2 : 0 < x → Wp p e below Post T (mkF m (pc + 3) L S)) : Wp p e below Post T (mkF m pc L (.int x :: S)) := by
  by_cases hq : 0 < x
  · exact (k2 hq).imp fun t q => XS.ifNo W.here W.exec rfl (hb W.bytes hd) rfl ((if0 _ _).trans (tlt hq).2.2.2) q
  · exact (k1 hq).imp fun t q => XS.ifYes W.here W.exec rfl (pc0 := pc) rfl (hb W.bytes hd) rfl ((if0 _ _).trans (flt hq).2.2.2) (by omega) (by omega) q
theorem w_ifnullY (W : Wk p l e R s vm0 m args below meth c Z own n0 B ML ret T h locs cells slots) {b : Addr} {o : Int} {pc' : Nat} (hd : decode B pc = .ok (.ifnull o, 3)) (hp : (pc : Int) + o = (pc' : Int)) (hr : Wp p e below Post T (mkF m pc' L S)) : Wp p e below Post T (mkF m pc L (.null :: S)) :=
  hr.imp fun t q => XS.ifnullYes W.here W.exec rfl (pc0 := pc) rfl (hb W.bytes hd) rfl (by omega) (by omega) q
theorem w_ifnullN (W : Wk p l e R s vm0 m args below meth c Z own n0 B ML ret T h locs cells slots) {b : Addr} {o : Int} (hd : decode B pc = .ok (.ifnull o, 3)) (hr : Wp p e below Post T (mkF m (pc + 3) L S)) : Wp p e below Post T (mkF m pc L (.ref b :: S)) :=
  hr.imp fun t q => XS.ifnullNo W.here W.exec rfl (hb W.bytes hd) rfl q
theorem w_ifnonnullY (W : Wk p l e R s vm0 m args below meth c Z own n0 B ML ret T h locs cells slots) {b : Addr} {o : Int} {pc' : Nat} (hd : decode B pc = .ok (.ifnonnull o, 3)) (hp : (pc : Int) + o = (pc' : Int)) (hr : Wp p e below Post T (mkF m pc' L S)) : Wp p e below Post T (mkF m pc L (.ref b :: S)) :=
  hr.imp fun t q => XS.ifnonnullYes W.here W.exec rfl (pc0 := pc) rfl (hb W.bytes hd) rfl (by omega) (by omega) q
theorem w_ifnonnullN (W : Wk p l e R s vm0 m args below meth c Z own n0 B ML ret T h locs cells slots) {b : Addr} {o : Int} (hd : decode B pc = .ok (.ifnonnull o, 3)) (hr : Wp p e below Post T (mkF m (pc + 3) L S)) : Wp p e below Post T (mkF m pc L (.null :: S)) :=
  hr.imp fun t q => XS.ifnonnullNo W.here W.exec rfl (hb W.bytes hd) rfl q
theorem w_acmp (W : Wk p l e R s vm0 m args below meth c Z own n0 B ML ret T h locs cells slots) {cd : ACond} {x y : Value} {o : Int} {pc' : Nat} (same : Bool) (h1 : x.isRef = true) (h2 : y.isRef = true) (hd : decode B pc = .ok (.if_acmp cd o, 3)) (hq : decide (x = y) = same) (ho : 0 ≤ (pc : Int) + o) (hp : pc' = if acV cd same = true then ((pc : Int) + o).toNat else pc + 3) (hr : Wp p e below Post T (mkF m pc' L S)) : Wp p e below Post T (mkF m pc L (y :: x :: S)) :=
  hr.imp fun t q => Jvm.RoadKit.acmp (g := mkF m pc L (y :: x :: S)) W.st W.exec rfl h1 h2 (pc0 := pc) rfl (hb W.bytes hd) rfl hq ho hp q
theorem w_ldcI (W : Wk p l e R s vm0 m args below meth c Z own n0 B ML ret T h locs cells slots) {index : Nat} {v : Int32} (w : (Jvm.Cond.constant own index v).before a0 Z = true) (hd : decode B pc = .ok (.ldc index, 2)) (hr : Wp p e below Post T (mkF m (pc + 2) L (.int v :: S))) : Wp p e below Post T (mkF m pc L S) :=
  hr.imp fun t q => W.st.ldcInt W.exec W.own' (mvT W.wZ w) (g := mkF m pc L S) rfl (hb W.bytes hd) t q
theorem w_ldc2L (W : Wk p l e R s vm0 m args below meth c Z own n0 B ML ret T h locs cells slots) {index : Nat} {v : Int64} (w : (Jvm.Cond.constantLong own index v).before a0 Z = true) (hd : decode B pc = .ok (.ldc2_w index, 3)) (hr : Wp p e below Post T (mkF m (pc + 3) L (.long v :: S))) : Wp p e below Post T (mkF m pc L S) :=
  hr.imp fun t q => W.st.ldc2Long W.exec W.own' (mvT W.wZ w) (g := mkF m pc L S) rfl (hb W.bytes hd) t q
/-! the ends -/
/-- what a body that interns nothing leaves -/
def PoN (n0 : Nat) (s : State) (kc ks : Nat) (Q : Option Value → Heap → Prop) (o : Outcome) (t : State) : Prop := ∃ v Ls, o = .returned v ∧ (Q v t.heap ∧ Fr n0 Ls) ∧ FrameEnd s o t Ls kc ks
theorem endN {kc ks : Nat} {Q : Option Value → Heap → Prop} (W : Wk p l e R s s.vm m args below meth c Z own n0 B ML ret T h locs cells slots) {v : Option Value} {g : JFrame} (hv : ret = none → v = none) (hc : cells ≤ kc) (hk : slots ≤ ks) (hq : Q v h)
    (k : ∀ fs, (∀ (f : JFrame) (acts : List Action), f.method = m → f.locked = none → f.entered = [] → (doReturn e (T.setTop f) acts v).1 = T.setFrames fs) → Steps p.tables e below (T.setTop g) (T.setFrames fs)) : Wp p e below (PoN n0 s kc ks Q) T g := by
  have hlk := W.lk
  obtain ⟨fs, hr, hrun, hended, hW, hsame⟩ := W.st.leave (v := v) (fun q => hv (W.ret'.symm.trans q))
  have hh : (T.setFrames fs).heap = h := W.heap
  exact ⟨_, _, k fs hr, hrun, hended, v, locs, rfl, ⟨by rw [hh]; exact hq, W.fr⟩, ⟨_, rfl⟩, hW, hsame.mono hc hk⟩
theorem rV (W : Wk p l e R s vm0 m args below meth c Z own n0 B ML ret T h locs cells slots) (hret : ret = none) (hd : decode B pc = .ok (.return_, 1)) {fs : List Frame} (hr : ∀ (f : JFrame) (acts : List Action), f.method = m → f.locked = none → f.entered = [] → (doReturn e (T.setTop f) acts none).1 = T.setFrames fs) : Steps p.tables e below (T.setTop (mkF m pc L [])) (T.setFrames fs) :=
  W.st.returnOut W.exec (W.ret'.trans hret) (hb W.bytes hd) hr
theorem rI {z : Int32} (W : Wk p l e R s vm0 m args below meth c Z own n0 B ML ret T h locs cells slots) (hret : ret = some .int) (hd : decode B pc = .ok (.ireturn, 1)) {fs : List Frame} (hr : ∀ (f : JFrame) (acts : List Action), f.method = m → f.locked = none → f.entered = [] → (doReturn e (T.setTop f) acts (some (.int z))).1 = T.setFrames fs) : Steps p.tables e below (T.setTop (mkF m pc L (.int z :: S))) (T.setFrames fs) :=
  retOut W.st W.exec (W.ret'.trans hret) rfl (Or.inl ⟨rfl, Or.inl rfl, z, rfl⟩) (hb W.bytes hd) hr
theorem rL {z : Int64} (W : Wk p l e R s vm0 m args below meth c Z own n0 B ML ret T h locs cells slots) (hret : ret = some .long) (hd : decode B pc = .ok (.lreturn, 1)) {fs : List Frame} (hr : ∀ (f : JFrame) (acts : List Action), f.method = m → f.locked = none → f.entered = [] → (doReturn e (T.setTop f) acts (some (.long z))).1 = T.setFrames fs) : Steps p.tables e below (T.setTop (mkF m pc L (.long z :: S))) (T.setFrames fs) :=
  retOut W.st W.exec (W.ret'.trans hret) rfl (Or.inr (Or.inl ⟨rfl, rfl, z, rfl⟩)) (hb W.bytes hd) hr
theorem rA {v : Value} {t : FieldType} (W : Wk p l e R s vm0 m args below meth c Z own n0 B ML ret T h locs cells slots) (hret : ret = some t) (ht : t.isReference = true) (hv : v.isRef = true) (hd : decode B pc = .ok (.areturn, 1)) {fs : List Frame} (hr : ∀ (f : JFrame) (acts : List Action), f.method = m → f.locked = none → f.entered = [] → (doReturn e (T.setTop f) acts (some v)).1 = T.setFrames fs) : Steps p.tables e below (T.setTop (mkF m pc L (v :: S))) (T.setFrames fs) :=
  retOut W.st W.exec (W.ret'.trans hret) (by cases v <;> cases t <;> first | rfl | (simp [Value.isRef] at hv) | (simp [FieldType.isReference] at ht)) (Or.inr (Or.inr (Or.inr (Or.inr ⟨rfl, ht, hv⟩)))) (hb W.bytes hd) hr
theorem rN {z z' : Int32} {t : FieldType} (W : Wk p l e R s vm0 m args below meth c Z own n0 B ML ret T h locs cells slots) (hret : ret = some t) (ht : t = .boolean ∨ t = .byte ∨ t = .char ∨ t = .short) (hz : nar t z = z') (hd : decode B pc = .ok (.ireturn, 1)) {fs : List Frame} (hr : ∀ (f : JFrame) (acts : List Action), f.method = m → f.locked = none → f.entered = [] → (doReturn e (T.setTop f) acts (some (.int z'))).1 = T.setFrames fs) : Steps p.tables e below (T.setTop (mkF m pc L (.int z :: S))) (T.setFrames fs) := by
  subst hz; exact retN W.st W.exec (W.ret'.trans hret) ht (hb W.bytes hd) hr
/-! a contract of a body that interns nothing; its entry; a call by it -/
def CtN (l : Launch) (Z : State) (y : MethodName) (B : ByteArray) (ML : Nat) (ret : Option FieldType) (rm : Room) (n0 : Nat) (as : Array Value) (h : Heap) (Q : Option Value → Heap → Prop) : Prop :=
  ∀ ws : List Jvm.Cond, MetFree l y (head1 (Jvm.Cond.code y B ML ret :: ws) rm) (fun a U => a = as ∧ Z.Warmed39 U.vm ∧ U.heap = h) (fun _ _ _ _ _ => True) (fun _ U o U' => ∃ v Ls, o = .returned v ∧ (Q v U'.heap ∧ Fr n0 Ls) ∧ FrameEnd U o U' Ls rm.cells rm.slots)
theorem CtN.of {y : MethodName} {rm : Room} {as : Array Value} {Q : Option Value → Heap → Prop} (hpl : plainFor y = true)
    (k : ∀ p e s m below meth c T, Wk p l e rm s s.vm m as below meth c Z y.cls n0 B ML ret T h [] 0 0 → meth.name = y.name → Wp p e below (PoN n0 s rm.cells rm.slots Q) T (entryFrame m as ML)) : CtN l Z y B ML ret rm n0 as h Q := by
  intro ws
  refine MetFree.of_bodySF hpl hisR ?_
  intro p e s m args below meth c s₁ Bd hml0 hP hK
  obtain ⟨rfl, hZ, hh⟩ := hP
  have hown : s.vm.findClass y.cls = some m.cls := findClass_of_methodNamed Bd.named
  have hnm := (name_of_methodNamed Bd.named Bd.method).1
  have X0 : Stand p l e rm s m args below meth c s₁ [] 0 0 := Stand.of_body Bd
  have e0 : s₁.heap = h := by rw [← hh, Bd.state]; rfl
  exact k p e s m below meth c s₁ ⟨X0, (State.WarmedH.refl s).since h.size, hZ, hown, e0, Fr.nil n0, Bd.exec, Bd.bytes, hml0, Bd.returns, Bd.notSynchronized⟩ hnm
theorem CtN.grow {y : MethodName} {rm : Room} {as : Array Value} {Q : Option Value → Heap → Prop} (C : CtN l Z y B ML ret rm n0 as h Q) : CtN l Z y B ML ret rm n0 as h (fun v h' => Q v h' ∧ h.size ≤ h'.size) := by
  intro ws p e ha hc hk s m args below hf happ hP hK
  obtain ⟨n, o, h1, h2, h3, v, Ls, e1, ⟨q1, q2⟩, fe⟩ := C ws p e ha hc hk s m args below hf happ hP hK
  exact ⟨n, o, h1, h2, h3, v, Ls, e1, ⟨⟨q1, by rw [← hP.2.2]; exact fe.2.2.2.1⟩, q2⟩, fe⟩
theorem CtN.imp {y : MethodName} {rm : Room} {as : Array Value} {Q Q' : Option Value → Heap → Prop} (C : CtN l Z y B ML ret rm n0 as h Q) (k : ∀ v h', Q v h' → Q' v h') : CtN l Z y B ML ret rm n0 as h Q' := by
  intro ws p e ha hc hk s m args below hf happ hP hK
  obtain ⟨n, o, h1, h2, h3, v, Ls, e1, ⟨q1, q2⟩, fe⟩ := C ws p e ha hc hk s m args below hf happ hP hK
  exact ⟨n, o, h1, h2, h3, v, Ls, e1, ⟨k _ _ q1, q2⟩, fe⟩
theorem w_callS {y : MethodName} {yB : ByteArray} {yML : Nat} {yret : Option FieldType} {rm : Room} {as : Array Value} {Q : Option Value → Heap → Prop} (W : Wk p l e R s vm0 m args below meth c Z own n0 B ML ret T h locs cells slots) {index : Nat} (C : CtN l Z y yB yML yret rm n0 as h Q)
    (w1 : (Jvm.Cond.methodLink own index y).before a0 Z = true) (w2 : (Jvm.Cond.static y).before a0 Z = true) (w3 : (Jvm.Cond.initialized y.cls).before a0 Z = true) (w4 : (Jvm.Cond.code y yB yML yret).before a0 Z = true)
    (hy : y.cls ≠ "java/lang/invoke/MethodHandle" ∧ y.cls ≠ "java/lang/invoke/VarHandle") (Wd : Nat) (hf : rm.frames + 1 ≤ R.frames) (hl : Wd + (yML + 11) + rm.locals ≤ R.locals) (hc : cells + rm.cells ≤ R.cells) (hs : slots + rm.slots ≤ R.slots)
    {argsL rest : List Value} {ps : List FieldType} {r : Option FieldType} (hpd : parseMethodDescriptor y.desc = some ⟨ps, r⟩) (hlen : argsL.length = ps.length) (has : as = argsL.toArray) (hS : S = argsL.reverse ++ rest) (hW : (rest.map fun v => v.category).sum = Wd) (hL : L.size = ML)
    (hd : decode B pc = .ok (.invokestatic index, 3))
    (k : ∀ T' h' locs' v, Wk p l e R s vm0 m args below meth c Z own n0 B ML ret T' h' locs' (cells + rm.cells) (slots + rm.slots) → Q v h' → Wp p e below Post T' (mkF m (pc + 3) L (v.toList ++ rest))) : Wp p e below Post T (mkF m pc L S) := by
  subst has
  have hZ := W.wZ
  obtain ⟨v, vm₁, ⟨T', L', k', n'⟩, -, X', ⟨Lc, hQ, l1, y1, z1⟩, st⟩ := Jvm.LawKit.callS W.st W.exec (y := y) W.own' (mvT hZ w1) (mvT hZ w2) (mvT hZ w3) (mvT hZ w4) hy (backOf (W := Wd) (Q := fun v h' Ls => (Q v h' ∧ h.size ≤ h'.size) ∧ Fr n0 Ls) (C.grow []) hZ w4 w3 hf hl) (g := mkF m pc L S) rfl (hL.trans W.ml.symm) (argsL := argsL) (rest := rest) (lenOf hpd hlen) hS (by show 2 * 0 + _ ≤ _; rw [hW]; omega) (hb W.bytes hd) (fun _ _ => ⟨rfl, W.heap, hc, hs⟩)
  dsimp only [Pt.U, Pt.locs, Pt.cells, Pt.slots] at X' l1 y1 z1 st hQ
  subst l1 y1 z1
  exact (k T' T'.heap _ v (W.on X' rfl hQ.1.2 (W.fr.app hQ.2)) hQ.1.1).imp fun t q => st t q
theorem Wp.cast {g g' : JFrame} (q : g = g') (w : Wp p e below Post T g') : Wp p e below Post T g := q ▸ w
theorem n_rV {kc ks : Nat} {Q : Option Value → Heap → Prop} (W : Wk p l e R s s.vm m args below meth c Z own n0 B ML ret T h locs cells slots) (hret : ret = none) (hd : decode B pc = .ok (.return_, 1)) (hc : cells ≤ kc) (hk : slots ≤ ks) (hq : Q none h) : Wp p e below (PoN n0 s kc ks Q) T (mkF m pc L []) := endN W (fun _ => rfl) hc hk hq fun fs hr => rV W hret hd hr
theorem n_rI {kc ks : Nat} {Q : Option Value → Heap → Prop} {z : Int32} (W : Wk p l e R s s.vm m args below meth c Z own n0 B ML ret T h locs cells slots) (hret : ret = some .int) (hd : decode B pc = .ok (.ireturn, 1)) (hc : cells ≤ kc) (hk : slots ≤ ks) (hq : Q (some (.int z)) h) : Wp p e below (PoN n0 s kc ks Q) T (mkF m pc L (.int z :: S)) := endN W (fun q => by rw [hret] at q; cases q) hc hk hq fun fs hr => rI W hret hd hr
theorem n_rL {kc ks : Nat} {Q : Option Value → Heap → Prop} {z : Int64} (W : Wk p l e R s s.vm m args below meth c Z own n0 B ML ret T h locs cells slots) (hret : ret = some .long) (hd : decode B pc = .ok (.lreturn, 1)) (hc : cells ≤ kc) (hk : slots ≤ ks) (hq : Q (some (.long z)) h) : Wp p e below (PoN n0 s kc ks Q) T (mkF m pc L (.long z :: S)) := endN W (fun q => by rw [hret] at q; cases q) hc hk hq fun fs hr => rL W hret hd hr
theorem n_rA {kc ks : Nat} {Q : Option Value → Heap → Prop} {v : Value} {t : FieldType} (W : Wk p l e R s s.vm m args below meth c Z own n0 B ML ret T h locs cells slots) (hret : ret = some t) (ht : t.isReference = true) (hv : v.isRef = true) (hd : decode B pc = .ok (.areturn, 1)) (hc : cells ≤ kc) (hk : slots ≤ ks) (hq : Q (some v) h) : Wp p e below (PoN n0 s kc ks Q) T (mkF m pc L (v :: S)) := endN W (fun q => by rw [hret] at q; cases q) hc hk hq fun fs hr => rA W hret ht hv hd hr
theorem n_rN {kc ks : Nat} {Q : Option Value → Heap → Prop} {z z' : Int32} {t : FieldType} (W : Wk p l e R s s.vm m args below meth c Z own n0 B ML ret T h locs cells slots) (hret : ret = some t) (ht : t = .boolean ∨ t = .byte ∨ t = .char ∨ t = .short) (hz : nar t z = z') (hd : decode B pc = .ok (.ireturn, 1)) (hc : cells ≤ kc) (hk : slots ≤ ks) (hq : Q (some (.int z')) h) : Wp p e below (PoN n0 s kc ks Q) T (mkF m pc L (.int z :: S)) := endN W (fun q => by rw [hret] at q; cases q) hc hk hq fun fs hr => rN W hret ht hz hd hr

end OwnKit

/-! OwnKit, second part: the heap, calls of constructors and instance methods, literals -/
section OwnKit2
variable {p : Program} {l : Launch} {e : Env} {R : Room} {s : State} {vm0 : Vm} {m : MethodId} {args : Array Value} {below : List Frame} {meth : Method} {c : Code} {Z : State} {own : String} {n0 : Nat} {B : ByteArray} {ML : Nat} {ret : Option FieldType} {T : State} {h : Heap} {locs : List Loc} {cells slots : Nat} {a0 : Array Value} {Post : Outcome → State → Prop} {pc : Nat} {L : Array Slot} {S : List Value}
theorem w_getf (W : Wk p l e R s vm0 m args below meth c Z own n0 B ML ret T h locs cells slots) {R0 O n d host : String} {index : Nat} {a : Addr} {v : Value} (w : (Jvm.Cond.fieldLink own index R0 n d).before a0 Z = true ∨ (Jvm.Cond.fieldLinkNest own index R0 n d host).before a0 Z = true) (via : Via Z R0 O n d) (F : Fld Z h a O n d v) (hd : decode B pc = .ok (.getfield index, 3))
    (k : ∀ T', Wk p l e R s vm0 m args below meth c Z own n0 B ML ret T' h locs cells slots → Wp p e below Post T' (mkF m (pc + 3) L (v :: S))) : Wp p e below Post T (mkF m pc L (.ref a :: S)) := by
  obtain ⟨T', X', e', st⟩ := getF W.st W.exec W.wZ W.own' w via W.heap F (g := mkF m pc L (.ref a :: S)) rfl rfl (hb W.bytes hd)
  exact (k T' (W.on X' e' (Nat.le_refl _) W.fr)).imp st
theorem w_gets (W : Wk p l e R s vm0 m args below meth c Z own n0 B ML ret T h locs cells slots) {R0 O n d host : String} {index : Nat} {v : Value} (w : (Jvm.Cond.fieldLink own index R0 n d).before a0 Z = true ∨ (Jvm.Cond.fieldLinkNest own index R0 n d host).before a0 Z = true) (via : Via Z R0 O n d) (F : Sta Z h O n d v) (hd : decode B pc = .ok (.getstatic index, 3))
    (k : ∀ T', Wk p l e R s vm0 m args below meth c Z own n0 B ML ret T' h locs cells slots → Wp p e below Post T' (mkF m (pc + 3) L (v :: S))) : Wp p e below Post T (mkF m pc L S) := by
  obtain ⟨T', X', e', st⟩ := getS2 W.st W.exec W.wZ W.own' w via W.heap F (g := mkF m pc L S) rfl (hb W.bytes hd)
  exact (k T' (W.on X' e' (Nat.le_refl _) W.fr)).imp st
theorem w_putf (W : Wk p l e R s vm0 m args below meth c Z own n0 B ML ret T h locs cells slots) {R0 O n d C : String} {index kk : Nat} {ty : FieldType} {a : Addr} {v v' old : Value} (w : (Jvm.Cond.fieldLink own index R0 n d).before a0 Z = true) (via : Via Z R0 O n d) (F : Fld Z h a O n d old) (E : Exa Z h a C) (Lw : (Jvm.Cond.lays C O n d).before a0 Z = true ∨ ((Jvm.Cond.laysFinal C O n d).before a0 Z = true ∧ own = O ∧ meth.name = "<init>")) (wi : (Jvm.Cond.instantiable C kk).before a0 Z = true)
    (hty : parseFieldDescriptor d = some ty) (hn : narrow ty v = v') (hf : fits ty v' = true) (hna : n0 ≤ a) (hd : decode B pc = .ok (.putfield index, 3))
    (k : ∀ T' h' locs', Wk p l e R s vm0 m args below meth c Z own n0 B ML ret T' h' locs' cells slots → Wr h h' a (Jvm.RoadKit.slotOf Z O n d) v' → Wp p e below Post T' (mkF m (pc + 3) L S)) : Wp p e below Post T (mkF m pc L (v :: .ref a :: S)) := by
  obtain ⟨T', h', X', e', Wr', st⟩ := putFN W.st W.exec W.wZ W.own' w via W.heap F E Lw wi hty hn hf (g := mkF m pc L (v :: .ref a :: S)) rfl rfl (hb W.bytes hd)
  exact (k T' h' _ (W.on X' e' (Nat.le_of_eq Wr'.size.symm) (Fr.snoc X' W.fr hna)) Wr').imp st
theorem w_new (W : Wk p l e R s vm0 m args below meth c Z own n0 B ML ret T h locs cells slots) {C : String} {index n : Nat} (w : (Jvm.Cond.classLink own index C).before a0 Z = true) (wi : (Jvm.Cond.instantiable C n).before a0 Z = true) (wz : (Jvm.Cond.initialized C).before a0 Z = true) (hd : decode B pc = .ok (.new index, 3)) (hc : cells + 1 ≤ R.cells) (hl : slots + n ≤ R.slots)
    (k : ∀ T' h' a, Wk p l e R s vm0 m args below meth c Z own n0 B ML ret T' h' locs (cells + 1) (slots + n) → Ext h h' → a = h.size → Exa Z h' a C → (∀ {O nm d : String} {ty : FieldType}, Laid Z a0 C O nm d → parseFieldDescriptor d = some ty → Fld Z h' a O nm d (defaultValue ty)) → Wp p e below Post T' (mkF m (pc + 3) L (.ref a :: S))) : Wp p e below Post T (mkF m pc L S) := by
  obtain ⟨T', h', X', e', E', A', D', -, st⟩ := newO W.st W.exec W.wZ W.own' w wi wz W.heap (g := mkF m pc L S) rfl (hb W.bytes hd) hc hl
  exact (k T' h' h.size (W.on X' e' E'.1 W.fr) E' rfl A' D').imp st
theorem w_newarr (W : Wk p l e R s vm0 m args below meth c Z own n0 B ML ret T h locs cells slots) {aty : ArrayType} {ty : FieldType} {dv : Value} (w : (Jvm.Cond.arrayClass ty).before a0 Z = true) (hty : newarray.typeOf aty = ty) (hdv : defaultValue ty = dv) {n : Int32} (hd : decode B pc = .ok (.newarray aty, 2)) (hn : ¬ n < 0) (cap : Nat) (hcap : n.toNatClampNeg ≤ cap) (hb8 : cap * 8 ≤ 536870912) (hc : cells + 1 ≤ R.cells) (hl : slots + cap ≤ R.slots)
    (k : ∀ T' h' a kc, Wk p l e R s vm0 m args below meth c Z own n0 B ML ret T' h' locs (cells + 1) (slots + cap) → Ext h h' → a = h.size → Arv Z h' a kc ty n [] dv → Wp p e below Post T' (mkF m (pc + 2) L (.ref a :: S))) : Wp p e below Post T (mkF m pc L (.int n :: S)) := by
  subst hty hdv
  obtain ⟨T', h', kc, X', e', E', A', st⟩ := newP W.st W.exec W.wZ w W.heap (g := mkF m pc L (.int n :: S)) rfl (hb W.bytes hd) rfl hn hcap hb8 hc hl
  exact (k T' h' h.size kc (W.on X' e' E'.1 W.fr) E' rfl (Arv.new A' hn)).imp st
theorem w_arrlen (W : Wk p l e R s vm0 m args below meth c Z own n0 B ML ret T h locs cells slots) {a : Addr} {kc : ClassId} {ty : FieldType} {z : Int32} {vs : List Value} {dv : Value} (F : Arv Z h a kc ty z vs dv) (hd : decode B pc = .ok (.arraylength, 1)) (hr : Wp p e below Post T (mkF m (pc + 1) L (.int z :: S))) : Wp p e below Post T (mkF m pc L (.ref a :: S)) := by
  obtain ⟨cl, Ar, -, S1, N1, -, -⟩ := F
  exact hr.imp fun t q => W.st.arraylength W.exec (by rw [W.heap]; exact Ar.1) (State.isArrayOf_alike W.wZ.alike Ar.2.1) (g := mkF m pc L (.ref a :: S)) rfl rfl (hb W.bytes hd) t (by rw [len_of S1 N1]; exact q)
theorem w_caload (W : Wk p l e R s vm0 m args below meth c Z own n0 B ML ret T h locs cells slots) {a : Addr} {kc : ClassId} {z j : Int32} {vs : List Value} {dv v : Value} (F : Arv Z h a kc .char z vs dv) (hj : ¬ j < 0 ∧ j < z) (hv : vs.getD j.toNatClampNeg dv = v) (hd : decode B pc = .ok (.caload, 1)) (hr : Wp p e below Post T (mkF m (pc + 1) L (v :: S))) : Wp p e below Post T (mkF m pc L (.int j :: .ref a :: S)) := by
  obtain ⟨cl, Ar, -, S1, N1, H1, -⟩ := F
  have hin := inb_of S1 hj
  exact hr.imp fun t q => W.st.caload W.exec (j := j) (v := v) (by rw [W.heap]; exact Ar.1) (State.isArrayOf_alike W.wZ.alike Ar.2.1) Ar.2.2 hin (Has.at H1 hin hv) (g := mkF m pc L (.int j :: .ref a :: S)) rfl rfl (hb W.bytes hd) t q
theorem w_baload (W : Wk p l e R s vm0 m args below meth c Z own n0 B ML ret T h locs cells slots) {a : Addr} {kc : ClassId} {z j : Int32} {vs : List Value} {dv v : Value} (F : Arv Z h a kc .byte z vs dv) (hj : ¬ j < 0 ∧ j < z) (hv : vs.getD j.toNatClampNeg dv = v) (hd : decode B pc = .ok (.baload, 1)) (hr : Wp p e below Post T (mkF m (pc + 1) L (v :: S))) : Wp p e below Post T (mkF m pc L (.int j :: .ref a :: S)) := by
  obtain ⟨cl, Ar, -, S1, N1, H1, -⟩ := F
  have hin := inb_of S1 hj
  exact hr.imp fun t q => W.st.baloadBytes W.exec (j := j) (v := v) (by rw [W.heap]; exact Ar.1) (State.isArrayOf_alike W.wZ.alike Ar.2.1) Ar.2.2 hin (Has.at H1 hin hv) (g := mkF m pc L (.int j :: .ref a :: S)) rfl rfl (hb W.bytes hd) t q
theorem w_iaload (W : Wk p l e R s vm0 m args below meth c Z own n0 B ML ret T h locs cells slots) {a : Addr} {kc : ClassId} {z j : Int32} {vs : List Value} {dv v : Value} (F : Arv Z h a kc .int z vs dv) (hj : ¬ j < 0 ∧ j < z) (hv : vs.getD j.toNatClampNeg dv = v) (hd : decode B pc = .ok (.iaload, 1)) (hr : Wp p e below Post T (mkF m (pc + 1) L (v :: S))) : Wp p e below Post T (mkF m pc L (.int j :: .ref a :: S)) := by
  obtain ⟨cl, Ar, -, S1, N1, H1, -⟩ := F
  have hin := inb_of S1 hj
  exact hr.imp fun t q => W.st.iaload W.exec (j := j) (v := v) (by rw [W.heap]; exact Ar.1) (State.isArrayOf_alike W.wZ.alike Ar.2.1) Ar.2.2 hin (Has.at H1 hin hv) (g := mkF m pc L (.int j :: .ref a :: S)) rfl rfl (hb W.bytes hd) t q
theorem w_castore (W : Wk p l e R s vm0 m args below meth c Z own n0 B ML ret T h locs cells slots) {a : Addr} {kc : ClassId} {z j x x' : Int32} {vs : List Value} {dv : Value} (F : Arv Z h a kc .char z vs dv) (hj : ¬ j < 0 ∧ j < z) (i : Nat) (hi : j.toNatClampNeg = i) (hl : i < vs.length) (hx' : nar .char x = x') (hna : n0 ≤ a) (hd : decode B pc = .ok (.castore, 1))
    (k : ∀ T' h' locs', Wk p l e R s vm0 m args below meth c Z own n0 B ML ret T' h' locs' cells slots → Wr h h' a i (.int x') → Arv Z h' a kc .char z (vs.set i (.int x')) dv → Wp p e below Post T' (mkF m (pc + 1) L S)) : Wp p e below Post T (mkF m pc L (.int x :: .int j :: .ref a :: S)) := by
  subst hx' hi
  obtain ⟨cl, Ar, q1, S1, N1, H1, G1⟩ := F
  have hin := inb_of S1 hj
  obtain ⟨T', h', X', e', Wr', st⟩ := stC W.st W.exec W.wZ W.heap Ar (j := j) hin (g := mkF m pc L (.int x :: .int j :: .ref a :: S)) rfl rfl (hb W.bytes hd)
  exact (k T' h' _ (W.on X' e' (Nat.le_of_eq Wr'.size.symm) (Fr.snoc X' W.fr hna)) Wr' (Arv.set Ar q1 S1 N1 H1 G1 (fits_nar_char _) Wr' _ rfl hl)).imp st
theorem w_bastore (W : Wk p l e R s vm0 m args below meth c Z own n0 B ML ret T h locs cells slots) {a : Addr} {kc : ClassId} {z j x x' : Int32} {vs : List Value} {dv : Value} (F : Arv Z h a kc .byte z vs dv) (hj : ¬ j < 0 ∧ j < z) (i : Nat) (hi : j.toNatClampNeg = i) (hl : i < vs.length) (hx' : nar .byte x = x') (hna : n0 ≤ a) (hd : decode B pc = .ok (.bastore, 1))
    (k : ∀ T' h' locs', Wk p l e R s vm0 m args below meth c Z own n0 B ML ret T' h' locs' cells slots → Wr h h' a i (.int x') → Arv Z h' a kc .byte z (vs.set i (.int x')) dv → Wp p e below Post T' (mkF m (pc + 1) L S)) : Wp p e below Post T (mkF m pc L (.int x :: .int j :: .ref a :: S)) := by
  subst hx' hi
  obtain ⟨cl, Ar, q1, S1, N1, H1, G1⟩ := F
  have hin := inb_of S1 hj
  obtain ⟨T', h', X', e', Wr', st⟩ := stB W.st W.exec W.wZ W.heap Ar (j := j) hin (g := mkF m pc L (.int x :: .int j :: .ref a :: S)) rfl rfl (hb W.bytes hd)
  exact (k T' h' _ (W.on X' e' (Nat.le_of_eq Wr'.size.symm) (Fr.snoc X' W.fr hna)) Wr' (Arv.set Ar q1 S1 N1 H1 G1 (fits_nar_byte _) Wr' _ rfl hl)).imp st
theorem w_cast (W : Wk p l e R s vm0 m args below meth c Z own n0 B ML ret T h locs cells slots) {K : String} {index : Nat} {a : Addr} (w : (Jvm.Cond.classLink own index K).before a0 Z = true) (F : Ins Z h a K true) (hd : decode B pc = .ok (.checkcast index, 3))
    (k : ∀ T', Wk p l e R s vm0 m args below meth c Z own n0 B ML ret T' h locs cells slots → Wp p e below Post T' (mkF m (pc + 3) L (.ref a :: S))) : Wp p e below Post T (mkF m pc L (.ref a :: S)) := by
  obtain ⟨T', X', e', st⟩ := castY W.st W.exec W.wZ W.own' w W.heap F (g := mkF m pc L (.ref a :: S)) rfl rfl (hb W.bytes hd)
  exact (k T' (W.on X' e' (Nat.le_refl _) W.fr)).imp st
theorem w_instY (W : Wk p l e R s vm0 m args below meth c Z own n0 B ML ret T h locs cells slots) {K : String} {index : Nat} {a : Addr} (w : (Jvm.Cond.classLink own index K).before a0 Z = true) (F : Ins Z h a K true) (hd : decode B pc = .ok (.instanceof index, 3))
    (k : ∀ T', Wk p l e R s vm0 m args below meth c Z own n0 B ML ret T' h locs cells slots → Wp p e below Post T' (mkF m (pc + 3) L (.int 1 :: S))) : Wp p e below Post T (mkF m pc L (.ref a :: S)) := by
  obtain ⟨T', X', e', st⟩ := instY W.st W.exec W.wZ W.own' w W.heap F (g := mkF m pc L (.ref a :: S)) rfl rfl (hb W.bytes hd)
  exact (k T' (W.on X' e' (Nat.le_refl _) W.fr)).imp st
theorem w_instNo (W : Wk p l e R s vm0 m args below meth c Z own n0 B ML ret T h locs cells slots) {K C : String} {index : Nat} {a : Addr} (w : (Jvm.Cond.classLink own index K).before a0 Z = true) (E : Exa Z h a C) (F : ∃ c t, Z.vm.findClass C = some c ∧ Z.vm.findClass K = some t ∧ Z.vm.assignable c t = false) (hd : decode B pc = .ok (.instanceof index, 3))
    (k : ∀ T', Wk p l e R s vm0 m args below meth c Z own n0 B ML ret T' h locs cells slots → Wp p e below Post T' (mkF m (pc + 3) L (.int 0 :: S))) : Wp p e below Post T (mkF m pc L (.ref a :: S)) := by
  obtain ⟨T', X', e', st⟩ := instNo W.st W.exec W.wZ W.own' w W.heap E F (g := mkF m pc L (.ref a :: S)) rfl rfl (hb W.bytes hd)
  exact (k T' (W.on X' e' (Nat.le_refl _) W.fr)).imp st
theorem w_instNull (W : Wk p l e R s vm0 m args below meth c Z own n0 B ML ret T h locs cells slots) {index : Nat} (hd : decode B pc = .ok (.instanceof index, 3)) (hr : Wp p e below Post T (mkF m (pc + 3) L (.int 0 :: S))) : Wp p e below Post T (mkF m pc L (.null :: S)) :=
  hr.imp fun t q => W.st.instanceofNull W.exec (g := mkF m pc L (.null :: S)) rfl rfl (hb W.bytes hd) t q
theorem w_castNull (W : Wk p l e R s vm0 m args below meth c Z own n0 B ML ret T h locs cells slots) {index : Nat} (hd : decode B pc = .ok (.checkcast index, 3)) (hr : Wp p e below Post T (mkF m (pc + 3) L (.null :: S))) : Wp p e below Post T (mkF m pc L (.null :: S)) :=
  hr.imp fun t q => W.st.checkcastNull W.exec (g := mkF m pc L (.null :: S)) rfl rfl (hb W.bytes hd) t q
theorem w_initO (W : Wk p l e R s vm0 m args below meth c Z own n0 B ML ret T h locs cells slots) {index : Nat} {a : Addr} (w1 : (Jvm.Cond.methodLink own index Lib.objectInit).before a0 Z = true) (w2 : (Jvm.Cond.instanceMethod Lib.objectInit).before a0 Z = true) (w3 : (Jvm.Cond.code Lib.objectInit ⟨#[0xb1]⟩ 1 none).before a0 Z = true) (Wd : Nat) (hW : (S.map fun v => v.category).sum = Wd) (hL : L.size = ML) (hf : 1 ≤ R.frames) (hl : Wd + 12 ≤ R.locals) (hd : decode B pc = .ok (.invokespecial index, 3))
    (k : ∀ T', Wk p l e R s vm0 m args below meth c Z own n0 B ML ret T' h locs cells slots → Wp p e below Post T' (mkF m (pc + 3) L S)) : Wp p e below Post T (mkF m pc L (.ref a :: S)) := by
  obtain ⟨T', X', e', st⟩ := initO W.st W.exec W.wZ W.own' w1 w2 w3 W.heap (g := mkF m pc L (.ref a :: S)) rfl (hL.trans W.ml.symm) rfl (hb W.bytes hd) hf (W := Wd) (by show 2 * 0 + _ ≤ _; rw [hW]; omega) hl
  exact (k T' (W.on X' e' (Nat.le_refl _) W.fr)).imp st
/-! calls by a contract of a body that interns nothing -/
section CallsN
variable {y z : MethodName} {yB : ByteArray} {yML : Nat} {yret : Option FieldType} {rm : Room} {as : Array Value} {Q : Option Value → Heap → Prop} {index : Nat}
theorem w_special (W : Wk p l e R s vm0 m args below meth c Z own n0 B ML ret T h locs cells slots) (C : CtN l Z y yB yML none rm n0 as h Q) (hy1 : y.name = "<init>")
    (w1 : (Jvm.Cond.methodLink own index y).before a0 Z = true) (w2 : (Jvm.Cond.instanceMethod y).before a0 Z = true) (w3 : (Jvm.Cond.initialized y.cls).before a0 Z = true) (w4 : (Jvm.Cond.code y yB yML none).before a0 Z = true)
    (hy : y.cls ≠ "java/lang/invoke/MethodHandle" ∧ y.cls ≠ "java/lang/invoke/VarHandle") (Wd : Nat) (hf : rm.frames + 1 ≤ R.frames) (hl : Wd + (yML + 11) + rm.locals ≤ R.locals) (hc : cells + rm.cells ≤ R.cells) (hs : slots + rm.slots ≤ R.slots)
    {a : Addr} {argsL rest : List Value} {ps : List FieldType} {r : Option FieldType} (hpd : parseMethodDescriptor y.desc = some ⟨ps, r⟩) (hlen : argsL.length = ps.length) (has : as = (.ref a :: argsL).toArray) (hS : S = argsL.reverse ++ .ref a :: rest) (hW : (rest.map fun v => v.category).sum = Wd) (hL : L.size = ML)
    (hd : decode B pc = .ok (.invokespecial index, 3))
    (k : ∀ T' h' locs' v, Wk p l e R s vm0 m args below meth c Z own n0 B ML ret T' h' locs' (cells + rm.cells) (slots + rm.slots) → Q v h' → Wp p e below Post T' (mkF m (pc + 3) L (v.toList ++ rest))) : Wp p e below Post T (mkF m pc L S) := by
  subst has
  have hZ := W.wZ
  obtain ⟨v, vm₁, ⟨T', L', k', n'⟩, -, X', ⟨Lc, hQ, l1, y1, z1⟩, st⟩ := W.st.specialBack W.exec (y := y) hy1 W.own' (mvT hZ w1) (mvT hZ w2) (mvT hZ w4) hy (backOf (W := Wd) (Q := fun v h' Ls => (Q v h' ∧ h.size ≤ h'.size) ∧ Fr n0 Ls) (C.grow []) hZ w4 w3 hf hl) (g := mkF m pc L S) rfl (hL.trans W.ml.symm) (Steps.refl _) (a := a) (argsL := argsL) (rest := rest) (lenOf hpd hlen) hS (by show 2 * 0 + _ ≤ _; rw [hW]; omega) (hb W.bytes hd) (fun _ _ => ⟨rfl, W.heap, hc, hs⟩)
  dsimp only [Pt.U, Pt.locs, Pt.cells, Pt.slots] at X' l1 y1 z1 st hQ
  subst l1 y1 z1
  exact (k T' T'.heap _ v (W.on X' rfl hQ.1.2 (W.fr.app hQ.2)) hQ.1.1).imp fun t q => st.trans q
theorem w_virt (W : Wk p l e R s vm0 m args below meth c Z own n0 B ML ret T h locs cells slots) {C' : String} (C : CtN l Z z yB yML yret rm n0 as h Q)
    (w1 : (Jvm.Cond.methodLink own index y).before a0 Z = true) (w2 : (Jvm.Cond.declares y).before a0 Z = true) (hnf : NotFace (s.setVm vm0) y) (w3 : (Jvm.Cond.selects C' y z).before a0 Z = true) (w4 : (Jvm.Cond.instanceMethod z).before a0 Z = true) (w5 : (Jvm.Cond.initialized z.cls).before a0 Z = true) (w6 : (Jvm.Cond.code z yB yML yret).before a0 Z = true)
    (hy : y.cls ≠ "java/lang/invoke/MethodHandle" ∧ y.cls ≠ "java/lang/invoke/VarHandle") (Wd : Nat) (hf : rm.frames + 1 ≤ R.frames) (hl : Wd + (yML + 11) + rm.locals ≤ R.locals) (hc : cells + rm.cells ≤ R.cells) (hs : slots + rm.slots ≤ R.slots)
    {a : Addr} (E : Exa Z h a C') {argsL rest : List Value} {ps : List FieldType} {r : Option FieldType} (hpd : parseMethodDescriptor y.desc = some ⟨ps, r⟩) (hlen : argsL.length = ps.length) (has : as = (.ref a :: argsL).toArray) (hS : S = argsL.reverse ++ .ref a :: rest) (hW : (rest.map fun v => v.category).sum = Wd) (hL : L.size = ML)
    (hd : decode B pc = .ok (.invokevirtual index, 3))
    (k : ∀ T' h' locs' v, Wk p l e R s vm0 m args below meth c Z own n0 B ML ret T' h' locs' (cells + rm.cells) (slots + rm.slots) → Q v h' → Wp p e below Post T' (mkF m (pc + 3) L (v.toList ++ rest))) : Wp p e below Post T (mkF m pc L S) := by
  subst has
  have hZ := W.wZ
  obtain ⟨cq, kq, qa, qb, qc⟩ := isOf hZ W.heap E
  obtain ⟨v, vm₁, ⟨T', L', k', n'⟩, -, X', ⟨Lc, hQ, l1, y1, z1⟩, st⟩ := W.st.virtualBack W.exec (y := y) (z := z) W.own' (mvT hZ w1) (mvT hZ w2) hnf (mvT hZ w3) (mvT hZ w4) hy (backOf (W := Wd) (Q := fun v h' Ls => (Q v h' ∧ h.size ≤ h'.size) ∧ Fr n0 Ls) (C.grow []) hZ w6 w5 hf hl) qa qc (g := mkF m pc L S) rfl (hL.trans W.ml.symm) (Steps.refl _) (argsL := argsL) (rest := rest) (lenOf hpd hlen) hS (by show 2 * 0 + _ ≤ _; rw [hW]; omega) (hb W.bytes hd) (fun _ _ => ⟨rfl, W.heap, hc, hs⟩)
  dsimp only [Pt.U, Pt.locs, Pt.cells, Pt.slots] at X' l1 y1 z1 st hQ
  subst l1 y1 z1
  exact (k T' T'.heap _ v (W.on X' rfl hQ.1.2 (W.fr.app hQ.2)) hQ.1.1).imp fun t q => st.trans q
theorem w_face (W : Wk p l e R s vm0 m args below meth c Z own n0 B ML ret T h locs cells slots) {C' : String} {count : Nat} (C : CtN l Z z yB yML yret rm n0 as h Q)
    (w1 : (Jvm.Cond.methodLink own index y).before a0 Z = true) (w2 : (Jvm.Cond.declares y).before a0 Z = true) (w2' : (Jvm.Cond.interfaceMethod y.cls y.cls y.name y.desc).before args (s.setVm vm0) = true) (w3 : (Jvm.Cond.selects C' y z).before a0 Z = true) (w4 : (Jvm.Cond.instanceMethod z).before a0 Z = true) (w7 : (Jvm.Cond.publicMethod z).before a0 Z = true) (w8 : (Jvm.Cond.unhidden C' y.name y.desc).before a0 Z = true) (w9 : (Jvm.Cond.castable C' y.cls).before a0 Z = true) (w5 : (Jvm.Cond.initialized z.cls).before a0 Z = true) (w6 : (Jvm.Cond.code z yB yML yret).before a0 Z = true)
    (hy : y.cls ≠ "java/lang/invoke/MethodHandle" ∧ y.cls ≠ "java/lang/invoke/VarHandle") (Wd : Nat) (hf : rm.frames + 1 ≤ R.frames) (hl : Wd + (yML + 11) + rm.locals ≤ R.locals) (hc : cells + rm.cells ≤ R.cells) (hs : slots + rm.slots ≤ R.slots)
    {a : Addr} (E : Exa Z h a C') {argsL rest : List Value} {ps : List FieldType} {r : Option FieldType} (hpd : parseMethodDescriptor y.desc = some ⟨ps, r⟩) (hlen : argsL.length = ps.length) (has : as = (.ref a :: argsL).toArray) (hS : S = argsL.reverse ++ .ref a :: rest) (hW : (rest.map fun v => v.category).sum = Wd) (hL : L.size = ML)
    (hd : decode B pc = .ok (.invokeinterface index count, 5))
    (k : ∀ T' h' locs' v, Wk p l e R s vm0 m args below meth c Z own n0 B ML ret T' h' locs' (cells + rm.cells) (slots + rm.slots) → Q v h' → Wp p e below Post T' (mkF m (pc + 5) L (v.toList ++ rest))) : Wp p e below Post T (mkF m pc L S) := by
  subst has
  have hZ := W.wZ
  obtain ⟨cq, kq, qa, qb, qc⟩ := isOf hZ W.heap E
  obtain ⟨v, vm₁, ⟨T', L', k', n'⟩, -, X', ⟨Lc, hQ, l1, y1, z1⟩, st⟩ := W.st.interfaceBack W.exec (xi := y) (y := z) W.own' (mvT hZ w1) (mvT hZ w2) w2' (mvT hZ w3) (mvT hZ w4) (mvT hZ w7) (mvT hZ w8) (mvT hZ w9) hy (backOf (W := Wd) (Q := fun v h' Ls => (Q v h' ∧ h.size ≤ h'.size) ∧ Fr n0 Ls) (C.grow []) hZ w6 w5 hf hl) qa qb qc (g := mkF m pc L S) rfl (hL.trans W.ml.symm) (Steps.refl _) (argsL := argsL) (rest := rest) (lenOf hpd hlen) hS (by show 2 * 0 + _ ≤ _; rw [hW]; omega) (hb W.bytes hd) (fun _ _ => ⟨rfl, W.heap, hc, hs⟩)
  dsimp only [Pt.U, Pt.locs, Pt.cells, Pt.slots] at X' l1 y1 z1 st hQ
  subst l1 y1 z1
  exact (k T' T'.heap _ v (W.on X' rfl hQ.1.2 (W.fr.app hQ.2)) hQ.1.1).imp fun t q => st.trans q
end CallsN
/-! bodies that may intern -/
def PoW (n0 : Nat) (s : State) (kc ks : Nat) (Q : Option Value → Heap → Vm → Prop) (o : Outcome) (t : State) : Prop := ∃ v Ls, o = .returned v ∧ (Q v t.heap t.vm ∧ Fr n0 Ls) ∧ ReturnedEndW s o t Ls kc ks
theorem endW {kc ks : Nat} {Q : Option Value → Heap → Vm → Prop} (W : Wk p l e R s vm0 m args below meth c Z own n0 B ML ret T h locs cells slots) {v : Option Value} {g : JFrame} (hv : ret = none → v = none) (hc : cells ≤ kc) (hk : slots ≤ ks) (hq : ∀ vm', (s.setVm vm0).WarmedH vm' → Q v h vm')
    (k : ∀ fs, (∀ (f : JFrame) (acts : List Action), f.method = m → f.locked = none → f.entered = [] → (doReturn e (T.setTop f) acts v).1 = T.setFrames fs) → Steps p.tables e below (T.setTop g) (T.setFrames fs)) : Wp p e below (PoW n0 s kc ks Q) T g := by
  have hlk := W.lk
  obtain ⟨fs, hr, hrun, hended, hend⟩ := (W.st.mono hc hk).leaveW W.since (Nat.le_of_eq (congrArg Array.size W.heap).symm) (v := v) (fun q => hv (W.ret'.symm.trans q))
  have hh : (T.setFrames fs).heap = h := W.heap
  exact ⟨_, _, k fs hr, hrun, hended, v, locs, rfl, ⟨by rw [hh]; exact hq _ W.st.warmed, W.fr⟩, hend⟩
theorem x_rV {kc ks : Nat} {Q : Option Value → Heap → Vm → Prop} (W : Wk p l e R s vm0 m args below meth c Z own n0 B ML ret T h locs cells slots) (hret : ret = none) (hd : decode B pc = .ok (.return_, 1)) (hc : cells ≤ kc) (hk : slots ≤ ks) (hq : ∀ vm', (s.setVm vm0).WarmedH vm' → Q none h vm') : Wp p e below (PoW n0 s kc ks Q) T (mkF m pc L []) := endW W (fun _ => rfl) hc hk hq fun fs hr => rV W hret hd hr
theorem x_rI {kc ks : Nat} {Q : Option Value → Heap → Vm → Prop} {z : Int32} (W : Wk p l e R s vm0 m args below meth c Z own n0 B ML ret T h locs cells slots) (hret : ret = some .int) (hd : decode B pc = .ok (.ireturn, 1)) (hc : cells ≤ kc) (hk : slots ≤ ks) (hq : ∀ vm', (s.setVm vm0).WarmedH vm' → Q (some (.int z)) h vm') : Wp p e below (PoW n0 s kc ks Q) T (mkF m pc L (.int z :: S)) := endW W (fun q => by rw [hret] at q; cases q) hc hk hq fun fs hr => rI W hret hd hr
theorem x_rA {kc ks : Nat} {Q : Option Value → Heap → Vm → Prop} {v : Value} {t : FieldType} (W : Wk p l e R s vm0 m args below meth c Z own n0 B ML ret T h locs cells slots) (hret : ret = some t) (ht : t.isReference = true) (hv : v.isRef = true) (hd : decode B pc = .ok (.areturn, 1)) (hc : cells ≤ kc) (hk : slots ≤ ks) (hq : ∀ vm', (s.setVm vm0).WarmedH vm' → Q (some v) h vm') : Wp p e below (PoW n0 s kc ks Q) T (mkF m pc L (v :: S)) := endW W (fun q => by rw [hret] at q; cases q) hc hk hq fun fs hr => rA W hret ht hv hd hr
theorem x_rN {kc ks : Nat} {Q : Option Value → Heap → Vm → Prop} {z z' : Int32} {t : FieldType} (W : Wk p l e R s vm0 m args below meth c Z own n0 B ML ret T h locs cells slots) (hret : ret = some t) (ht : t = .boolean ∨ t = .byte ∨ t = .char ∨ t = .short) (hz : nar t z = z') (hd : decode B pc = .ok (.ireturn, 1)) (hc : cells ≤ kc) (hk : slots ≤ ks) (hq : ∀ vm', (s.setVm vm0).WarmedH vm' → Q (some (.int z')) h vm') : Wp p e below (PoW n0 s kc ks Q) T (mkF m pc L (.int z :: S)) := endW W (fun q => by rw [hret] at q; cases q) hc hk hq fun fs hr => rN W hret ht hz hd hr
/-- a contract of a body that may intern: Vp is asked of the tables at its start, Q tells of those at its end -/
def CtW (l : Launch) (Z : State) (y : MethodName) (B : ByteArray) (ML : Nat) (ret : Option FieldType) (rm : Room) (n0 : Nat) (as : Array Value) (h : Heap) (Vp : Vm → Prop) (Q : Option Value → Heap → Vm → Prop) : Prop :=
  ∀ ws : List Jvm.Cond, MetFree l y (head1 (Jvm.Cond.code y B ML ret :: ws) rm) (fun a U => a = as ∧ Z.Warmed39 U.vm ∧ U.heap = h ∧ Vp U.vm) (fun _ _ _ _ _ => True) (fun _ U o U' => ∃ v Ls, o = .returned v ∧ (Q v U'.heap U'.vm ∧ Fr n0 Ls) ∧ ReturnedEndW U o U' Ls rm.cells rm.slots)
theorem CtW.of {y : MethodName} {rm : Room} {as : Array Value} {Vp : Vm → Prop} {Q : Option Value → Heap → Vm → Prop} (hpl : plainFor y = true)
    (k : ∀ p e s m below meth c T, Wk p l e rm s s.vm m as below meth c Z y.cls n0 B ML ret T h [] 0 0 → meth.name = y.name → s.heap = h → Vp s.vm → Wp p e below (PoW n0 s rm.cells rm.slots Q) T (entryFrame m as ML)) : CtW l Z y B ML ret rm n0 as h Vp Q := by
  intro ws
  refine MetFree.of_bodySF hpl hisR ?_
  intro p e s m args below meth c s₁ Bd hml0 hP hK
  obtain ⟨rfl, hZ, hh, hV⟩ := hP
  have hown : s.vm.findClass y.cls = some m.cls := findClass_of_methodNamed Bd.named
  have hnm := (name_of_methodNamed Bd.named Bd.method).1
  have X0 : Stand p l e rm s m args below meth c s₁ [] 0 0 := Stand.of_body Bd
  have e0 : s₁.heap = h := by rw [← hh, Bd.state]; rfl
  exact k p e s m below meth c s₁ ⟨X0, (State.WarmedH.refl s).since h.size, hZ, hown, e0, Fr.nil n0, Bd.exec, Bd.bytes, hml0, Bd.returns, Bd.notSynchronized⟩ hnm hh hV
theorem CtW.back {y : MethodName} {rm : Room} {as : Array Value} {Vp : Vm → Prop} {Q : Option Value → Heap → Vm → Prop} {len Wd : Nat} (C : CtW l Z y B ML ret rm n0 as h Vp Q)
    (hZ : Z.Warmed39 s.vm) (wc : (Jvm.Cond.code y B ML ret).before a0 Z = true) (wz : (Jvm.Cond.initialized y.cls).before a0 Z = true) (hf : rm.frames + 1 ≤ R.frames) (hl : Wd + (ML + 11) + rm.locals ≤ R.locals) :
    BackS l R p e below s args y len Wd (fun A a => a = as ∧ A.U.heap = h ∧ Vp A.U.vm ∧ A.cells + rm.cells ≤ R.cells ∧ A.slots + rm.slots ≤ R.slots)
      (fun A _ v Bt => ∃ Ls, (Q v Bt.U.heap Bt.U.vm ∧ Fr n0 Ls) ∧ Bt.locs = A.locs ++ Ls ∧ Bt.cells = A.cells + rm.cells ∧ Bt.slots = A.slots + rm.slots) :=
  BackS.of_freeW (bytes := B) (maxL := ML) (ret := ret) (E := fun _ _ o t Ls k n => k = rm.cells ∧ n = rm.slots ∧ ∃ v, o = .returned v ∧ (Q v t.heap t.vm ∧ Fr n0 Ls)) (C []) hf hl
    (fun m meth c A a Y hp => have hU : Z.Warmed39 A.U.vm := wtrans hZ Y.warmed
      ⟨by show (Jvm.Cond.and _ .tt).before a A.U = true; rw [Cond.before_and, mv hU wc]; rfl, mv hU wc, mv hU wz, hp.2.2.2.1, hp.2.2.2.2⟩)
    (fun m meth c A a g mk Y hp => ⟨hp.1, wtrans hZ Y.warmed, hp.2.1, hp.2.2.1⟩) (fun _ _ _ _ _ _ _ _ _ => trivial)
    (fun _ _ _ _ ⟨v, Ls, h1, h2, h3⟩ => ⟨Ls, _, _, h3, rfl, rfl, v, h1, h2⟩)
    (fun m meth c A a g mk v t Ls k n Y hp _ _ ⟨e1, e2, v', e3, e4⟩ => by cases e3; subst e1 e2; exact ⟨Ls, e4, rfl, rfl, rfl⟩)
/-- behind a step that may have interned -/
theorem Wk.onW {vm1 : Vm} {T' : State} {h' : Heap} {locs' : List Loc} {cells' slots' n : Nat} (W : Wk p l e R s vm0 m args below meth c Z own n0 B ML ret T h locs cells slots) (X : Stand p l e R ((s.setVm vm0).setVm vm1) m args below meth c T' locs' cells' slots') (h2 : (s.setVm vm0).Since vm1 n) (e' : T'.heap = h') (g : h.size ≤ n) (g' : n ≤ h'.size) (N : Fr n0 locs') : Wk p l e R s vm1 m args below meth c Z own n0 B ML ret T' h' locs' cells' slots' := by
  have q := W.since.trans h2 g
  exact ⟨X, ⟨q.1, q.2.mono g'⟩, State.Warmed39.trans W.wZ h2.1, (h2.1.alike.findClass _ _).trans W.own', e', N, W.exec, W.bytes, W.ml, W.ret', W.lk⟩
section CallsW
variable {y z : MethodName} {yB : ByteArray} {yML : Nat} {yret : Option FieldType} {rm : Room} {as : Array Value} {Vp : Vm → Prop} {Q : Option Value → Heap → Vm → Prop} {index : Nat}
theorem w_callSW (W : Wk p l e R s vm0 m args below meth c Z own n0 B ML ret T h locs cells slots) (C : CtW l Z y yB yML yret rm n0 as h Vp Q) (hV : ∀ vm', (s.setVm vm0).WarmedH vm' → Vp vm')
    (w1 : (Jvm.Cond.methodLink own index y).before a0 Z = true) (w2 : (Jvm.Cond.static y).before a0 Z = true) (w3 : (Jvm.Cond.initialized y.cls).before a0 Z = true) (w4 : (Jvm.Cond.code y yB yML yret).before a0 Z = true)
    (hy : y.cls ≠ "java/lang/invoke/MethodHandle" ∧ y.cls ≠ "java/lang/invoke/VarHandle") (Wd : Nat) (hf : rm.frames + 1 ≤ R.frames) (hl : Wd + (yML + 11) + rm.locals ≤ R.locals) (hc : cells + rm.cells ≤ R.cells) (hs : slots + rm.slots ≤ R.slots)
    {argsL rest : List Value} {ps : List FieldType} {r : Option FieldType} (hpd : parseMethodDescriptor y.desc = some ⟨ps, r⟩) (hlen : argsL.length = ps.length) (has : as = argsL.toArray) (hS : S = argsL.reverse ++ rest) (hW : (rest.map fun v => v.category).sum = Wd) (hL : L.size = ML)
    (hd : decode B pc = .ok (.invokestatic index, 3))
    (k : ∀ T' h' locs' vm1 v, Wk p l e R s vm1 m args below meth c Z own n0 B ML ret T' h' locs' (cells + rm.cells) (slots + rm.slots) → (s.setVm vm0).Warmed39 vm1 → Q v h' vm1 → Wp p e below Post T' (mkF m (pc + 3) L (v.toList ++ rest))) : Wp p e below Post T (mkF m pc L S) := by
  subst has
  have hZ := W.wZ
  obtain ⟨v, vm₁, ⟨T', L', k', n'⟩, -, X', h2, hg, ⟨Lc, hQ, l1, y1, z1⟩, st⟩ := callSS W.st W.exec (y := y) W.own' (mvT hZ w1) (mvT hZ w2) (mvT hZ w3) (mvT hZ w4) hy (CtW.back (Wd := Wd) C hZ w4 w3 hf hl) (g := mkF m pc L S) rfl (hL.trans W.ml.symm) (argsL := argsL) (rest := rest) (lenOf hpd hlen) hS (by show 2 * 0 + _ ≤ _; rw [hW]; omega) (hb W.bytes hd) (fun vm' q => ⟨rfl, W.heap, hV vm' q, hc, hs⟩)
  dsimp only [Pt.U, Pt.locs, Pt.cells, Pt.slots] at X' l1 y1 z1 st hQ h2 hg
  subst l1 y1 z1
  rw [W.heap] at hg
  exact (k T' T'.heap _ T'.vm v (W.onW X' h2 rfl hg (Nat.le_refl _) (W.fr.app hQ.2)) h2.1 hQ.1).imp fun t q => st.trans q
theorem w_specialW (W : Wk p l e R s vm0 m args below meth c Z own n0 B ML ret T h locs cells slots) (C : CtW l Z y yB yML none rm n0 as h Vp Q) (hV : ∀ vm', (s.setVm vm0).WarmedH vm' → Vp vm') (hy1 : y.name = "<init>")
    (w1 : (Jvm.Cond.methodLink own index y).before a0 Z = true) (w2 : (Jvm.Cond.instanceMethod y).before a0 Z = true) (w3 : (Jvm.Cond.initialized y.cls).before a0 Z = true) (w4 : (Jvm.Cond.code y yB yML none).before a0 Z = true)
    (hy : y.cls ≠ "java/lang/invoke/MethodHandle" ∧ y.cls ≠ "java/lang/invoke/VarHandle") (Wd : Nat) (hf : rm.frames + 1 ≤ R.frames) (hl : Wd + (yML + 11) + rm.locals ≤ R.locals) (hc : cells + rm.cells ≤ R.cells) (hs : slots + rm.slots ≤ R.slots)
    {a : Addr} {argsL rest : List Value} {ps : List FieldType} {r : Option FieldType} (hpd : parseMethodDescriptor y.desc = some ⟨ps, r⟩) (hlen : argsL.length = ps.length) (has : as = (.ref a :: argsL).toArray) (hS : S = argsL.reverse ++ .ref a :: rest) (hW : (rest.map fun v => v.category).sum = Wd) (hL : L.size = ML)
    (hd : decode B pc = .ok (.invokespecial index, 3))
    (k : ∀ T' h' locs' vm1 v, Wk p l e R s vm1 m args below meth c Z own n0 B ML ret T' h' locs' (cells + rm.cells) (slots + rm.slots) → (s.setVm vm0).Warmed39 vm1 → Q v h' vm1 → Wp p e below Post T' (mkF m (pc + 3) L (v.toList ++ rest))) : Wp p e below Post T (mkF m pc L S) := by
  subst has
  have hZ := W.wZ
  obtain ⟨v, vm₁, ⟨T', L', k', n'⟩, -, X', h2, hg, ⟨Lc, hQ, l1, y1, z1⟩, st⟩ := W.st.specialBackS W.exec (y := y) hy1 W.own' (mvT hZ w1) (mvT hZ w2) (mvT hZ w4) hy (CtW.back (Wd := Wd) C hZ w4 w3 hf hl) (g := mkF m pc L S) rfl (hL.trans W.ml.symm) (Steps.refl _) (a := a) (argsL := argsL) (rest := rest) (lenOf hpd hlen) hS (by show 2 * 0 + _ ≤ _; rw [hW]; omega) (hb W.bytes hd) (fun vm' q => ⟨rfl, W.heap, hV vm' q, hc, hs⟩)
  dsimp only [Pt.U, Pt.locs, Pt.cells, Pt.slots] at X' l1 y1 z1 st hQ h2 hg
  subst l1 y1 z1
  rw [W.heap] at hg
  exact (k T' T'.heap _ T'.vm v (W.onW X' h2 rfl hg (Nat.le_refl _) (W.fr.app hQ.2)) h2.1 hQ.1).imp fun t q => st.trans q
theorem w_virtW (W : Wk p l e R s vm0 m args below meth c Z own n0 B ML ret T h locs cells slots) {C' : String} (C : CtW l Z z yB yML yret rm n0 as h Vp Q) (hV : ∀ vm', (s.setVm vm0).WarmedH vm' → Vp vm')
    (w1 : (Jvm.Cond.methodLink own index y).before a0 Z = true) (w2 : (Jvm.Cond.declares y).before a0 Z = true) (hnf : NotFace (s.setVm vm0) y) (w3 : (Jvm.Cond.selects C' y z).before a0 Z = true) (w4 : (Jvm.Cond.instanceMethod z).before a0 Z = true) (w5 : (Jvm.Cond.initialized z.cls).before a0 Z = true) (w6 : (Jvm.Cond.code z yB yML yret).before a0 Z = true)
    (hy : y.cls ≠ "java/lang/invoke/MethodHandle" ∧ y.cls ≠ "java/lang/invoke/VarHandle") (Wd : Nat) (hf : rm.frames + 1 ≤ R.frames) (hl : Wd + (yML + 11) + rm.locals ≤ R.locals) (hc : cells + rm.cells ≤ R.cells) (hs : slots + rm.slots ≤ R.slots)
    {a : Addr} (E : Exa Z h a C') {argsL rest : List Value} {ps : List FieldType} {r : Option FieldType} (hpd : parseMethodDescriptor y.desc = some ⟨ps, r⟩) (hlen : argsL.length = ps.length) (has : as = (.ref a :: argsL).toArray) (hS : S = argsL.reverse ++ .ref a :: rest) (hW : (rest.map fun v => v.category).sum = Wd) (hL : L.size = ML)
    (hd : decode B pc = .ok (.invokevirtual index, 3))
    (k : ∀ T' h' locs' vm1 v, Wk p l e R s vm1 m args below meth c Z own n0 B ML ret T' h' locs' (cells + rm.cells) (slots + rm.slots) → (s.setVm vm0).Warmed39 vm1 → Q v h' vm1 → Wp p e below Post T' (mkF m (pc + 3) L (v.toList ++ rest))) : Wp p e below Post T (mkF m pc L S) := by
  subst has
  have hZ := W.wZ
  obtain ⟨cq, kq, qa, qb, qc⟩ := isOf hZ W.heap E
  obtain ⟨v, vm₁, ⟨T', L', k', n'⟩, -, X', h2, hg, ⟨Lc, hQ, l1, y1, z1⟩, st⟩ := W.st.virtualBackS W.exec (y := y) (z := z) W.own' (mvT hZ w1) (mvT hZ w2) hnf (mvT hZ w3) (mvT hZ w4) hy (CtW.back (Wd := Wd) C hZ w6 w5 hf hl) qa qc (g := mkF m pc L S) rfl (hL.trans W.ml.symm) (Steps.refl _) (argsL := argsL) (rest := rest) (lenOf hpd hlen) hS (by show 2 * 0 + _ ≤ _; rw [hW]; omega) (hb W.bytes hd) (fun vm' q => ⟨rfl, W.heap, hV vm' q, hc, hs⟩)
  dsimp only [Pt.U, Pt.locs, Pt.cells, Pt.slots] at X' l1 y1 z1 st hQ h2 hg
  subst l1 y1 z1
  rw [W.heap] at hg
  exact (k T' T'.heap _ T'.vm v (W.onW X' h2 rfl hg (Nat.le_refl _) (W.fr.app hQ.2)) h2.1 hQ.1).imp fun t q => st.trans q
end CallsW
/-- a literal, whatever it spells -/
theorem w_ldcS (W : Wk p l e R s vm0 m args below meth c Z own n0 B ML ret T h locs cells slots) {index : Nat} {text : String} (w : (Jvm.Cond.stringLink own index text).before a0 Z = true) (wS : ∀ a ∈ Bundle.stringAtoms, a.before a0 Z = true) (n : Nat) (hn : 4 * text.toList.length ≤ n) (hbig : n ≤ 536870912) (hc : cells + 2 ≤ R.cells) (hl : slots + (n + 4) ≤ R.slots) (hd : decode B pc = .ok (.ldc index, 2))
    (k : ∀ T' h' vm1 a, Wk p l e R s vm1 m args below meth c Z own n0 B ML ret T' h' locs (cells + 2) (slots + (n + 4)) → Ext h h' → Wp p e below Post T' (mkF m (pc + 2) L (.ref a :: S))) : Wp p e below Post T (mkF m pc L S) := by
  obtain ⟨a, T', h', k1, X', e', E', hS', hk', hZ', ho', st⟩ := ldcS W.st W.exec W.wZ W.own' w wS W.heap W.since (Nat.le_refl _) (g := mkF m pc L S) rfl (hb W.bytes hd) hn hbig hc hl
  exact (k T' h' T'.vm a ⟨X', ⟨hS'.1, hS'.2.mono hk'⟩, hZ', ho', e', W.fr, W.exec, W.bytes, W.ml, W.ret', W.lk⟩ E').imp st
/-- a literal not yet loaded since the case's start, and what it spells -/
theorem w_ldcSV (W : Wk p l e R s vm0 m args below meth c Z own n0 B ML ret T h locs cells slots) {index : Nat} {text : String} {Ts : List String} (w : (Jvm.Cond.stringLink own index text).before a0 Z = true) (wS : ∀ a ∈ Bundle.stringAtoms, a.before a0 Z = true) (N : Fr s.heap.size locs) (hkeep : ∀ (b : Addr) (cl : Cell), Z.heap[b]? = some cl → s.heap[b]? = some cl) (I : IB Z vm0 Ts) (hnot : text ∉ Ts) (hh : Jvm.Lit.constHeld Z own index) (hcw : Jvm.Lit.compactW.before a0 Z = true)
    {vs : List Value} {z : Int32} (ht : (∀ c ∈ text.toList, c.toNat < 256) ∧ text.toList.map (fun c => Value.int (Jvm.Lit.byteI c.toNat.toUInt16)) = vs) (hz : ¬ z < 0) (hlz : z.toNatClampNeg = vs.length) (n : Nat) (hn : 4 * text.toList.length ≤ n) (hbig : n ≤ 536870912) (hc : cells + 2 ≤ R.cells) (hl : slots + (n + 4) ≤ R.slots) (hd : decode B pc = .ok (.ldc index, 2))
    (k : ∀ T' h' vm1 a b kc, Wk p l e R s vm1 m args below meth c Z own n0 B ML ret T' h' locs (cells + 2) (slots + (n + 4)) → Ext h h' → Exa Z h' a "java/lang/String" → Fld Z h' a "java/lang/String" "coder" "B" (.int 0) → Fld Z h' a "java/lang/String" "value" "[B" (.ref b) → Arv Z h' b kc .byte z vs (.int 0) → IB Z vm1 (text :: Ts) → Lit (s.setVm vm1) own index a → Wp p e below Post T' (mkF m (pc + 2) L (.ref a :: S))) : Wp p e below Post T (mkF m pc L S) := by
  obtain ⟨a, T', h', k1, b, kc, X', e', E', hS', hk', hZ', ho', f1, f2, f3, f4, -, -, f5, f6, st⟩ := ldcSVL W.st W.exec W.wZ W.own' w wS W.heap W.since (Nat.le_refl _) N hkeep I hnot hh hcw ht hz hlz (g := mkF m pc L S) rfl (hb W.bytes hd) hn hbig hc hl
  exact (k T' h' T'.vm a b kc ⟨X', ⟨hS'.1, hS'.2.mono hk'⟩, hZ', ho', e', W.fr, W.exec, W.bytes, W.ml, W.ret', W.lk⟩ E' f1 f2 f3 f4 f5 f6).imp st
theorem w_ldcAgain (W : Wk p l e R s vm0 m args below meth c Z own n0 B ML ret T h locs cells slots) {index : Nat} {text : String} {a : Addr} (w : (Jvm.Cond.stringLink own index text).before a0 Z = true) (Lt : Lit (s.setVm vm0) own index a) (hd : decode B pc = .ok (.ldc index, 2)) (hr : Wp p e below Post T (mkF m (pc + 2) L (.ref a :: S))) : Wp p e below Post T (mkF m pc L S) :=
  hr.imp fun t q => ldcAgain W.st W.exec W.wZ W.own' w Lt (g := mkF m pc L S) rfl (hb W.bytes hd) t q
/-! small facts on heaps -/
theorem own_extKeep {h1 h2 h3 : Heap} {ws : List Addr} (E : Ext h1 h2) (K : Keep h2 h3 ws) (q : ∀ x ∈ ws, h1.size ≤ x) : Ext h1 h3 :=
  ⟨Nat.le_trans E.1 K.1, fun a c hc => K.2.1 a c (E.2 a c hc) fun hm => absurd (Array.getElem?_eq_some_iff.mp hc).1 (Nat.not_lt.mpr (q a hm))⟩
theorem own_extRefl (h1 : Heap) : Ext h1 h1 := ⟨Nat.le_refl _, fun _ _ q => q⟩
theorem own_extTrans {h1 h2 h3 : Heap} (E : Ext h1 h2) (E' : Ext h2 h3) : Ext h1 h3 := ⟨Nat.le_trans E.1 E'.1, fun a c q => E'.2 a c (E.2 a c q)⟩
theorem own_extWr {h1 h2 h3 : Heap} {a : Addr} {sl : Nat} {v : Value} (E : Ext h1 h2) (W : Wr h2 h3 a sl v) (q : h1.size ≤ a) : Ext h1 h3 := own_extKeep E (Keep.of_wr W) (allS q all0)
theorem own_keepOf {h1 h2 : Heap} {ws : List Addr} (E : Ext h1 h2) : Keep h1 h2 ws := (Keep.refl h1 ws).ext E
theorem own_ltNe {a b n : Nat} (q : a < n) (r : n ≤ b) : a ≠ b := Nat.ne_of_lt (Nat.lt_of_lt_of_le q r)
end OwnKit2

/-! small naturals as ints; lists of values; what a String holds -/
theorem own_ltI {i j : Nat} (hi : i < 2147483648) (hj : j < 2147483648) : Int32.ofNat i < Int32.ofNat j ↔ i < j := by
  rw [Int32.lt_iff_toInt_lt, Int32.toInt_ofNat_of_lt (by omega), Int32.toInt_ofNat_of_lt (by omega)]; omega
theorem own_eqI {i j : Nat} (hi : i < 2147483648) (hj : j < 2147483648) : Int32.ofNat i = Int32.ofNat j ↔ i = j := by
  rw [← Int32.toInt_inj, Int32.toInt_ofNat_of_lt (by omega), Int32.toInt_ofNat_of_lt (by omega)]; omega
theorem own_nn0 {i : Nat} (hi : i < 2147483648) : ¬ Int32.ofNat i < 0 := by
  rw [Int32.lt_iff_toInt_lt, Int32.toInt_ofNat_of_lt (by omega)]; simp
theorem own_clamp {i : Nat} (hi : i < 2147483648) : (Int32.ofNat i).toNatClampNeg = i := by
  rw [Int32.toNatClampNeg, Int32.toInt_ofNat_of_lt (by omega)]; simp
theorem own_one (i : Nat) : Int32.ofNat i + (1 : Int32) = Int32.ofNat (i + 1) := (Int32.ofNat_add i 1).symm
def own_fill (f : Nat → Value) (n k : Nat) : List Value := (List.range n).map fun j => if j < k then f j else .int 0
theorem own_fill_len (f : Nat → Value) (n k : Nat) : (own_fill f n k).length = n := by simp [own_fill]
theorem own_fill_zero (f : Nat → Value) (n : Nat) : own_fill f n 0 = [] ++ List.replicate n (.int 0) := by
  apply List.ext_getElem
  · simp [own_fill]
  · intro i h1 h2; simp [own_fill]
theorem own_fill_set (f : Nat → Value) {n k : Nat} (hk : k < n) : (own_fill f n k).set k (f k) = own_fill f n (k + 1) := by
  apply List.ext_getElem
  · simp [own_fill]
  · intro i h1 h2
    simp only [own_fill, List.getElem_set, List.getElem_map, List.getElem_range]
    by_cases q : k = i
    · subst q; simp
    · rw [if_neg q]
      by_cases r : i < k
      · rw [if_pos r, if_pos (by omega)]
      · rw [if_neg r, if_neg (by omega)]
theorem own_fill_full (f : Nat → Value) (n : Nat) : own_fill f n n = (List.range n).map f := by
  simp only [own_fill]; apply List.map_congr_left; intro j hj; rw [if_pos (List.mem_range.mp hj)]
theorem own_range_map (cs : List Int32) (g : Int32 → Int32) : (List.range cs.length).map (fun j => Value.int (g (cs.getD j 0))) = (cs.map g).map Value.int := by
  apply List.ext_getElem
  · simp
  · intro i h1 h2
    have hi : i < cs.length := by simpa using h1
    simp [List.getD_eq_getElem?_getD, hi]
theorem own_getMap (us : List Int32) {j : Nat} (hj : j < us.length) (d : Value) : (us.map Value.int).getD j d = .int (us.getD j 0) := by
  simp [List.getD_eq_getElem?_getD, hj]
/-- a String: its coder and the bytes of its value -/
def Str (Z : State) (h : Heap) (a : Addr) (co : Int32) (us : List Int32) : Prop :=
  ∃ b k, Exa Z h a "java/lang/String" ∧ Fld Z h a "java/lang/String" "coder" "B" (.int co) ∧ Fld Z h a "java/lang/String" "value" "[B" (.ref b) ∧ Arv Z h b k .byte (Int32.ofNat us.length) (us.map Value.int) (.int 0)
theorem Str.ext {Z : State} {h h' : Heap} {a : Addr} {co : Int32} {us : List Int32} (F : Str Z h a co us) (E : Ext h h') : Str Z h' a co us := by
  obtain ⟨b, k, f1, f2, f3, f4⟩ := F
  exact ⟨b, k, f1.ext E, f2.ext E, f3.ext E, f4.ext E⟩
theorem Str.exa {Z : State} {h : Heap} {a : Addr} {co : Int32} {us : List Int32} (F : Str Z h a co us) : Exa Z h a "java/lang/String" := by
  obtain ⟨b, k, f1, -⟩ := F; exact f1
theorem own_arvUniq {Z : State} {h : Heap} {b : Addr} {k k' : ClassId} {ty : FieldType} {us ws : List Int32} (hu : us.length < 2147483648) (hw : ws.length < 2147483648) (F : Arv Z h b k ty (Int32.ofNat us.length) (us.map Value.int) (.int 0)) (G : Arv Z h b k' ty (Int32.ofNat ws.length) (ws.map Value.int) (.int 0)) : us = ws := by
  obtain ⟨c1, A1, -, s1, -, H1, -⟩ := F
  obtain ⟨c2, A2, -, s2, -, H2, -⟩ := G
  cases A1.1.symm.trans A2.1
  rw [own_clamp hu] at s1
  rw [own_clamp hw] at s2
  have el : us.length = ws.length := s1.symm.trans s2
  apply List.ext_getElem el
  intro i h1 h2
  have e1 := H1 i (by omega)
  have e2 := H2 i (by omega)
  rw [own_getMap us h1] at e1
  rw [own_getMap ws h2] at e2
  have := e1.symm.trans e2
  simp [List.getD_eq_getElem?_getD, h1, h2] at this
  exact this
theorem Str.uniq {Z : State} {h : Heap} {a : Addr} {co co' : Int32} {us ws : List Int32} (hu : us.length < 2147483648) (hw : ws.length < 2147483648) (F : Str Z h a co us) (G : Str Z h a co' ws) : us = ws := by
  obtain ⟨b, k, -, -, f3, f4⟩ := F
  obtain ⟨b', k', -, -, g3, g4⟩ := G
  have e : b = b' := by
    by_cases q : b = b'
    · exact q
    · exact absurd rfl (Fld.ne f3 g3 (fun r => q (Value.ref.inj r)))
  subst e
  exact own_arvUniq hu hw f4 g4
theorem own_staOld {Z : State} {n0 : Nat} {h : Heap} {C n d : String} {v : Value} (O : Old Z n0 h) (F : Sta Z Z.heap C n d v) : Sta Z h C n d v := by
  obtain ⟨cf, i, k, f, st, cell, h1, h2, h3, h4, h5, r⟩ := F
  exact ⟨cf, i, k, f, st, cell, h1, h2, h3, h4, O.2.2 _ _ h5, r⟩
theorem own_oldle {Z : State} {n0 : Nat} {h : Heap} (O : Old Z n0 h) : n0 ≤ h.size := by have h1 := O.1; have h2 := O.2.1; omega
theorem own_narb (x : Int32) : nar .byte (x.toInt8.toInt32) = nar .byte x := by
  show x.toInt8.toInt32.toInt8.toInt32 = x.toInt8.toInt32
  simp
theorem own_coder0 (z : Int32) : nar .byte (((z - z).toUInt32 >>> ((31 : Int32) &&& 31).toUInt32).toInt32).toInt8.toInt32 = 0 := by
  rw [Int32.sub_self]; decide
theorem own_takeS {us ws : List Int32} {i : Nat} (h1 : i < us.length) (h2 : i < ws.length) (hp : us.take i = ws.take i) (hc : us.getD i 0 = ws.getD i 0) : us.take (i + 1) = ws.take (i + 1) := by
  rw [List.take_succ_eq_append_getElem h1, List.take_succ_eq_append_getElem h2, hp]
  simp [List.getD_eq_getElem?_getD, h1, h2] at hc
  rw [hc]
theorem own_ite0 {P : Prop} [Decidable P] (h : (if P then (1 : Int32) else 0) = 0) : (some (Value.int 0)) = some (.int (if P then (1 : Int32) else 0)) := by rw [h]
theorem own_ite1 {P : Prop} [Decidable P] (h : ¬ ((if P then (1 : Int32) else 0) = 0)) : (some (Value.int 1)) = some (.int (if P then (1 : Int32) else 0)) := by
  by_cases q : P
  · rw [if_pos q]
  · rw [if_neg q] at h; exact absurd rfl h
theorem own_cw {Z : State} {a0 : Array Value} {cz : Int32} (G : Sta Z Z.heap "java/lang/String" "COMPACT_STRINGS" "Z" (.int cz)) (hcz : cz ≠ 0) : Jvm.Lit.compactW.before a0 Z = true := by
  have e : (Term.static "java/lang/String" "COMPACT_STRINGS" "Z").eval a0 Z none [] Z = some (.int cz) := Sta.fin (Vm.Alike.refl _) G
  exact Cond.before_iff.mpr (not_i (nay (Cond.eq_ints e (Term.int_eval 0)) hcz))

/-! the literal "" of String's own pool: already loaded (and known), or untouched since the case's start -/
def St (Z : State) (vm : Vm) (h : Heap) : Prop :=
  (∃ a b k, Lit (Z.setVm vm) "java/lang/String" 7 a ∧ Exa Z h a "java/lang/String" ∧ Fld Z h a "java/lang/String" "coder" "B" (.int 0) ∧ Fld Z h a "java/lang/String" "value" "[B" (.ref b) ∧ Arv Z h b k .byte (0 : Int32) [] (.int 0)) ∨ ∃ Ts, IB Z vm Ts ∧ "" ∉ Ts
theorem St.start (Z : State) : St Z Z.vm Z.heap := Or.inr ⟨[], IB.start, by simp⟩
theorem St.warm {Z s : State} {vm0 vm1 : Vm} {h : Heap} (F : St Z vm0 h) (hW : (s.setVm vm0).WarmedH vm1) : St Z vm1 h := by
  rcases F with ⟨a, b, k, L, r⟩ | ⟨Ts, ⟨more, e, hm⟩, hn⟩
  · exact Or.inl ⟨a, b, k, Lit.stays (s := s) L hW.wide, r⟩
  · exact Or.inr ⟨Ts, ⟨more, by rw [hW.interned_eq]; exact e, hm⟩, hn⟩
theorem St.ext {Z : State} {vm : Vm} {h h' : Heap} (F : St Z vm h) (E : Ext h h') : St Z vm h' := by
  rcases F with ⟨a, b, k, L, f1, f2, f3, f4⟩ | q
  · exact Or.inl ⟨a, b, k, L, f1.ext E, f2.ext E, f3.ext E, f4.ext E⟩
  · exact Or.inr q
theorem St.keep {Z : State} {vm : Vm} {h h' : Heap} {a0 : Array Value} {x : Addr} (F : St Z vm h) (K : Keep h h' [x]) (wi : (Jvm.Cond.instantiable "java/lang/String" 4).before a0 Z = true) (Ex : Exa Z h x "java/lang/String") (Fx : Fld Z h x "java/lang/String" "value" "[B" .null) : St Z vm h' := by
  rcases F with ⟨a, b, k, L, f1, f2, f3, f4⟩ | q
  · have n1 : a ≠ x := Fld.ne f3 Fx (fun r => by cases r)
    have n2 : b ≠ x := (Exa.neArv Ex f4 wi).symm
    exact Or.inl ⟨a, b, k, L, f1.keep K, f2.keep K (ninS n1 nin0), f3.keep K (ninS n1 nin0), f4.keep K (ninS n2 nin0)⟩
  · exact Or.inr q

section OwnUtf
theorem own_ti {k : Nat} (hk : k < 2147483648) : (Int32.ofNat k).toInt = (k : Int) := Int32.toInt_ofNat_of_lt hk
/-- the j-th byte of the two-byte coding (low byte first) -/
def own_ub (cs : List Int32) (j : Nat) : Int32 := if j % 2 = 0 then nar .byte (cs.getD (j / 2) 0) else nar .byte ((cs.getD (j / 2) 0) >>> ((8 : Int32) &&& 31))
def own_u16 (cs : List Int32) : List Int32 := (List.range (2 * cs.length)).map (own_ub cs)
theorem own_u16_len (cs : List Int32) : (own_u16 cs).length = 2 * cs.length := by simp [own_u16]
theorem own_u16_get {cs : List Int32} {j : Nat} (hj : j < 2 * cs.length) : (own_u16 cs).getD j 0 = own_ub cs j := by simp [own_u16, List.getD_eq_getElem?_getD, hj]
theorem own_ub0 (cs : List Int32) (i : Nat) : own_ub cs (2 * i) = nar .byte (cs.getD i 0) := by
  unfold own_ub; rw [if_pos (by omega), show 2 * i / 2 = i by omega]
theorem own_ub1 (cs : List Int32) (i : Nat) : own_ub cs (2 * i + 1) = nar .byte ((cs.getD i 0) >>> ((8 : Int32) &&& 31)) := by
  unfold own_ub; rw [if_neg (by omega), show (2 * i + 1) / 2 = i by omega]
theorem own_dbl {i : Nat} (hi : i ≤ 8000) : Int32.ofNat i <<< ((1 : Int32) &&& 31) = Int32.ofNat (2 * i) := by
  apply Int32.toInt_inj.mp
  have q := c_ishl (Int32.ofNat i) 1 1 (by decide)
  have h1 := (Int32.ofNat i <<< ((1 : Int32) &&& 31)).le_toInt; have h2 := (Int32.ofNat i <<< ((1 : Int32) &&& 31)).toInt_lt
  rw [own_ti (by omega)] at q
  rw [own_ti (by omega)]
  generalize (Int32.ofNat i <<< ((1 : Int32) &&& 31)).toInt = z at *
  simp at q
  omega
theorem own_hlf {i : Nat} (hi : i ≤ 8000) : Int32.ofNat (2 * i) >>> ((1 : Int32) &&& 31) = Int32.ofNat i := by
  apply Int32.toInt_inj.mp
  rw [c_ishr (Int32.ofNat (2 * i)) 1 1 (by decide), own_ti (by omega), own_ti (by omega)]
  simp
theorem own_shr0 (x : Int32) : x >>> ((0 : Int32) &&& 31) = x := by
  apply Int32.toInt_inj.mp
  rw [c_ishr x 0 0 (by decide)]; simp
theorem own_narB (x : Int32) : ((nar .byte x).toInt - x.toInt) % 256 = 0 := (c_i2b x).1
theorem own_narC (x : Int32) : ((nar .char x).toInt - x.toInt) % 65536 = 0 ∧ 0 ≤ (nar .char x).toInt ∧ (nar .char x).toInt < 65536 := c_i2c x
theorem own_b255 (x : Int32) : (x &&& (255 : Int32)).toInt = x.toInt % 256 := c_mask x 255 8 (by decide) (by decide)
theorem own_gc {c : Int32} (h0 : 0 ≤ c.toInt) (h1 : c.toInt < 65536) : nar .char ((((nar .byte c &&& (255 : Int32)) <<< ((0 : Int32) &&& 31)) ||| ((nar .byte (c >>> ((8 : Int32) &&& 31)) &&& (255 : Int32)) <<< ((8 : Int32) &&& 31))).toUInt32.toUInt16.toUInt32.toInt32) = c := by
  have a1 : (nar .byte c &&& (255 : Int32)).toInt = c.toInt % 256 := by rw [own_b255]; have := own_narB c; omega
  have e8 : (c >>> ((8 : Int32) &&& 31)).toInt = c.toInt / 256 := c_ishr c 8 8 (by decide)
  have b1 : (nar .byte (c >>> ((8 : Int32) &&& 31)) &&& (255 : Int32)).toInt = c.toInt / 256 := by rw [own_b255]; have := own_narB (c >>> ((8 : Int32) &&& 31)); rw [e8] at this; omega
  generalize (nar .byte c &&& (255 : Int32)) = A at *
  generalize (nar .byte (c >>> ((8 : Int32) &&& 31)) &&& (255 : Int32)) = D at *
  have a2 : (A <<< ((0 : Int32) &&& 31)).toInt = c.toInt % 256 := by
    have q := c_ishl A 0 0 (by decide); have r1 := (A <<< ((0 : Int32) &&& 31)).le_toInt; have r2 := (A <<< ((0 : Int32) &&& 31)).toInt_lt
    rw [show ((2 ^ 0 : Nat) : Int) = 1 from rfl, Int.mul_one] at q; omega
  have b2 : (D <<< ((8 : Int32) &&& 31)).toInt = c.toInt / 256 * 256 := by
    have q := c_ishl D 8 8 (by decide); have r1 := (D <<< ((8 : Int32) &&& 31)).le_toInt; have r2 := (D <<< ((8 : Int32) &&& 31)).toInt_lt
    simp at q; omega
  generalize (A <<< ((0 : Int32) &&& 31)) = A' at *
  generalize (D <<< ((8 : Int32) &&& 31)) = D' at *
  have s1 : (A' ||| D').toInt = c.toInt := by
    have q := c_or' A' D' 8 (by decide) 256 (by decide) (by omega) (by omega) (by omega); have r1 := (A' ||| D').le_toInt; have r2 := (A' ||| D').toInt_lt
    omega
  generalize (A' ||| D') = O at *
  have t1 := c_i2c O
  have t2 := own_narC (O.toUInt32.toUInt16.toUInt32.toInt32)
  generalize O.toUInt32.toUInt16.toUInt32.toInt32 = P at *
  apply Int32.toInt_inj.mp; omega
theorem own_lc {c : Int32} (h0 : 0 ≤ c.toInt) (h1 : c.toInt < 256) : nar .char ((nar .byte c &&& (255 : Int32)).toUInt32.toUInt16.toUInt32.toInt32) = c := by
  have a1 : (nar .byte c &&& (255 : Int32)).toInt = c.toInt := by rw [own_b255]; have := own_narB c; omega
  generalize (nar .byte c &&& (255 : Int32)) = A at *
  have t1 := c_i2c A
  have t2 := own_narC (A.toUInt32.toUInt16.toUInt32.toInt32)
  generalize A.toUInt32.toUInt16.toUInt32.toInt32 = P at *
  apply Int32.toInt_inj.mp; omega
theorem own_coder1 {n : Nat} (h0 : 0 < n) (h1 : n ≤ 4000) : nar .byte (((Int32.ofNat n - Int32.ofNat (2 * n)).toUInt32 >>> ((31 : Int32) &&& 31).toUInt32).toInt32).toInt8.toInt32 = 1 := by
  have e : ((Int32.ofNat n - Int32.ofNat (2 * n)).toUInt32 >>> ((31 : Int32) &&& 31).toUInt32).toInt32 = 1 := by
    apply Int32.toInt_inj.mp
    rw [c_iushr (Int32.ofNat n - Int32.ofNat (2 * n)) 31 31 (by decide) (by decide)]
    have q := c_isub (Int32.ofNat n) (Int32.ofNat (2 * n)); rw [own_ti (by omega), own_ti (by omega)] at q
    have r1 := (Int32.ofNat n - Int32.ofNat (2 * n)).le_toInt; have r2 := (Int32.ofNat n - Int32.ofNat (2 * n)).toInt_lt
    generalize (Int32.ofNat n - Int32.ofNat (2 * n)).toInt = z at *
    show z % 4294967296 / 2147483648 = 1
    omega
  rw [e]; decide
/-- how a String holds these chars -/
def Enc (cs : List Int32) (co : Int32) (us : List Int32) : Prop := (co = 0 ∧ us = cs.map (nar .byte) ∧ ∀ c ∈ cs, ¬ ((255 : Int32) < c)) ∨ (co = 1 ∧ us = own_u16 cs ∧ 0 < cs.length)
theorem Enc.len {cs us : List Int32} {co : Int32} (e : Enc cs co us) : us.length ≤ 2 * cs.length := by
  rcases e with ⟨-, rfl, -⟩ | ⟨-, rfl, -⟩
  · rw [List.length_map]; omega
  · rw [own_u16_len]; omega
theorem own_encCoder {cs us : List Int32} {co : Int32} (hl : cs.length ≤ 4000) (e : Enc cs co us) : nar .byte (((Int32.ofNat cs.length - Int32.ofNat us.length).toUInt32 >>> ((31 : Int32) &&& 31).toUInt32).toInt32).toInt8.toInt32 = co := by
  rcases e with ⟨rfl, rfl, -⟩ | ⟨rfl, rfl, h⟩
  · rw [List.length_map]; exact own_coder0 _
  · rw [own_u16_len]; exact own_coder1 h hl
theorem own_encLen {cs us : List Int32} {co : Int32} (hl : cs.length ≤ 4000) (e : Enc cs co us) : Int32.ofNat us.length >>> (co &&& 31) = Int32.ofNat cs.length := by
  rcases e with ⟨rfl, rfl, -⟩ | ⟨rfl, rfl, h⟩
  · rw [List.length_map]; exact own_shr0 _
  · rw [own_u16_len]; exact own_hlf (by omega)
theorem own_encCo {cs us : List Int32} {co : Int32} (e : Enc cs co us) : co = 0 ∨ co = 1 := by
  rcases e with ⟨rfl, -⟩ | ⟨rfl, -⟩
  · exact Or.inl rfl
  · exact Or.inr rfl
theorem own_gmem {cs : List Int32} {i : Nat} (hi : i < cs.length) : cs.getD i 0 ∈ cs := by rw [List.getD_eq_getElem?_getD, List.getElem?_eq_getElem hi]; exact List.getElem_mem hi
/-- a char's bounds -/
def Chs (cs : List Int32) : Prop := ∀ c ∈ cs, 0 ≤ c.toInt ∧ c.toInt < 65536
theorem own_255 {c : Int32} : (255 : Int32) < c ↔ 255 < c.toInt := by rw [Int32.lt_iff_toInt_lt]; simp
theorem own_upto {P : Nat → Prop} {i : Nat} (h : ∀ j, j < i → P j) (q : P i) : ∀ j, j < i + 1 → P j := fun j hj => by
  rcases Nat.lt_or_ge j i with r | r
  · exact h j r
  · have : j = i := by omega
    subst this; exact q
theorem own_irr (x : Int32) : ¬ x < x := by rw [Int32.lt_iff_toInt_lt]; omega
theorem own_lt64k {c : Int32} (h : ¬ (255 : Int32) < c) : c < (65536 : Int32) := by
  rw [own_255] at h; rw [Int32.lt_iff_toInt_lt]; simp; omega
theorem own_neB {cs : List Int32} {i : Nat} {ch : Int32} (hi : i < cs.length) (hlat : ∀ c ∈ cs, ¬ ((255 : Int32) < c)) (hch : Chs cs) (h0 : ¬ ch < 0) (h1 : ¬ (255 : Int32) < ch) (hn : ∀ c ∈ cs, c ≠ ch) : ¬ ((cs.map (nar .byte)).getD i 0 = ch.toInt8.toInt32) := by
  have hm := own_gmem hi
  intro q
  have e : (cs.map (nar .byte)).getD i 0 = nar .byte (cs.getD i 0) := by simp [List.getD_eq_getElem?_getD, hi]
  rw [e] at q
  have a1 := own_narB (cs.getD i 0)
  have a2 := (c_i2b ch).1
  have a3 := hlat _ hm; rw [own_255] at a3
  have a4 := (hch _ hm).1
  rw [own_255] at h1
  rw [Int32.lt_iff_toInt_lt] at h0
  have z0 : (0 : Int32).toInt = 0 := rfl
  rw [z0] at h0
  rw [q] at a1
  exact hn _ hm (Int32.toInt_inj.mp (by omega))
theorem own_eqInt {t : Term} {k : Int32} {a0 : Array Value} {Z : State} (h : (Cond.eq t (Term.int k)).value a0 Z none Z [] = some true) : t.eval a0 Z none [] Z = some (.int k) := by
  cases hx : t.eval a0 Z none [] Z with
  | none => simp [Cond.value, hx] at h
  | some x => cases x <;> simp [Cond.value, hx, Term.eval] at h <;> rw [h]
theorem own_chn {a x : Int32} (h : a.toUInt32.toUInt16.toUInt32.toInt32 = x) : 0 ≤ x.toInt ∧ x.toInt < 65536 := h ▸ (c_i2c a).2
theorem own_ncx {x : Int32} (h : 0 ≤ x.toInt ∧ x.toInt < 65536) : nar .char x = x := by
  have q := own_narC x
  exact Int32.toInt_inj.mp (by omega)
end OwnUtf

section Own810
def own_rank (k : Int32) : Int := if 57344 ≤ k.toInt then k.toInt - 2048 else if 55296 ≤ k.toInt then k.toInt + 8192 else k.toInt
def own_grp (k : Int32) : Int := if 55296 ≤ k.toInt ∧ k.toInt ≤ 57343 then 2 else if 57344 ≤ k.toInt then 1 else 0
def own_sg (z : Int) : Int := if z < 0 then -1 else if 0 < z then 1 else 0
def own_cmp : List Int32 → List Int32 → Int
  | x :: xs, y :: ys => if x = y then own_cmp xs ys else own_rank x - own_rank y
  | [], ys => -(ys.length : Int)
  | xs, [] => xs.length
theorem own_cmpNil (zs : List Int32) : own_cmp zs [] = zs.length := by cases zs <;> simp [own_cmp]
theorem own_cmpNil' (zs : List Int32) : own_cmp [] zs = -(zs.length : Int) := by cases zs <;> simp [own_cmp]
theorem own_cmpAnti : ∀ xs ys : List Int32, own_cmp ys xs = -own_cmp xs ys
  | [], ys => by rw [own_cmpNil, own_cmpNil']; omega
  | x :: xs, [] => by rw [own_cmpNil, own_cmpNil']
  | x :: xs, y :: ys => by
    unfold own_cmp
    by_cases h : x = y
    · rw [if_pos h, if_pos h.symm]; exact own_cmpAnti xs ys
    · rw [if_neg h, if_neg (fun q => h q.symm)]; omega
theorem own_sgNeg (z : Int) : own_sg (-z) = -own_sg z := by unfold own_sg; split <;> split <;> (try split) <;> (try split) <;> omega
theorem own_dropC {cs : List Int32} {i : Nat} (h : i < cs.length) : cs.drop i = cs.getD i 0 :: cs.drop (i + 1) := by
  rw [List.drop_eq_getElem_cons h]; simp [List.getD_eq_getElem?_getD, h]
theorem own_cmpEq {xs ys : List Int32} {i : Nat} (h1 : i < xs.length) (h2 : i < ys.length) (q : xs.getD i 0 = ys.getD i 0) : own_cmp (xs.drop i) (ys.drop i) = own_cmp (xs.drop (i + 1)) (ys.drop (i + 1)) := by
  rw [own_dropC h1, own_dropC h2]; simp only [own_cmp]; rw [if_pos q]
theorem own_cmpNe {xs ys : List Int32} {i : Nat} (h1 : i < xs.length) (h2 : i < ys.length) (q : ¬ (xs.getD i 0 = ys.getD i 0)) : own_cmp (xs.drop i) (ys.drop i) = own_rank (xs.getD i 0) - own_rank (ys.getD i 0) := by
  rw [own_dropC h1, own_dropC h2]; simp only [own_cmp]; rw [if_neg q]
theorem own_cmpEnd {xs ys : List Int32} {i : Nat} (h : i = min xs.length ys.length) : own_cmp (xs.drop i) (ys.drop i) = (xs.length : Int) - ys.length := by
  rcases Nat.le_total xs.length ys.length with q | q
  · have e : i = xs.length := by omega
    subst e
    rw [List.drop_of_length_le (Nat.le_refl _), own_cmpNil', List.length_drop]; omega
  · have e : i = ys.length := by omega
    subst e
    rw [List.drop_of_length_le (l := ys) (Nat.le_refl _), own_cmpNil, List.length_drop]; omega
theorem own_minI {a b : Nat} (ha : a ≤ 4000) (hb : b ≤ 4000) (q : Int32.ofNat b < Int32.ofNat a) : some (Value.int (Int32.ofNat b)) = some (.int (Int32.ofNat (min a b))) := by
  rw [own_ltI (by omega) (by omega)] at q; rw [Nat.min_eq_right (by omega)]
theorem own_minJ {a b : Nat} (ha : a ≤ 4000) (hb : b ≤ 4000) (q : ¬ (Int32.ofNat b < Int32.ofNat a)) : some (Value.int (Int32.ofNat a)) = some (.int (Int32.ofNat (min a b))) := by
  rw [own_ltI (by omega) (by omega)] at q; rw [Nat.min_eq_left (by omega)]
theorem own_lt2 {a b : Int32} : a < b ↔ a.toInt < b.toInt := Int32.lt_iff_toInt_lt
theorem own_subI {a b : Int32} {A B : Int} (ha : a.toInt = A) (hb : b.toInt = B) (h1 : -1000000 ≤ A - B) (h2 : A - B ≤ 1000000) : (a - b).toInt = A - B := by
  rw [Int32.toInt_sub, ha, hb]; exact Int.bmod_eq_of_le (by omega) (by omega)
theorem own_rankB {k : Int32} (h : 0 ≤ k.toInt ∧ k.toInt < 65536) : 0 ≤ own_rank k ∧ own_rank k < 65536 := by unfold own_rank; split <;> (try split) <;> omega
theorem own_rk1 {k : Int32} (h : 0 ≤ k.toInt ∧ k.toInt < 65536) (q : ¬ (k < (57344 : Int32))) : (k - (2048 : Int32)).toInt = own_rank k := by
  rw [own_lt2] at q; have e : (57344 : Int32).toInt = 57344 := rfl; rw [e] at q
  unfold own_rank; rw [if_pos (by omega)]; exact own_subI rfl rfl (by have : (2048 : Int32).toInt = 2048 := rfl; omega) (by have : (2048 : Int32).toInt = 2048 := rfl; omega)
theorem own_rk2 {k : Int32} (h : 0 ≤ k.toInt ∧ k.toInt < 65536) (q : k < (57344 : Int32)) (r : ¬ (k < (55296 : Int32))) : (k + (8192 : Int32)).toInt = own_rank k := by
  rw [own_lt2] at q r; have e : (57344 : Int32).toInt = 57344 := rfl; have e' : (55296 : Int32).toInt = 55296 := rfl; rw [e] at q; rw [e'] at r
  unfold own_rank; rw [if_neg (by omega), if_pos (by omega), Int32.toInt_add]; have e2 : (8192 : Int32).toInt = 8192 := rfl; rw [e2]; exact Int.bmod_eq_of_le (by omega) (by omega)
theorem own_rk3 {k : Int32} (q : k < (57344 : Int32)) (r : k < (55296 : Int32)) : k.toInt = own_rank k := by
  rw [own_lt2] at q r; have e : (57344 : Int32).toInt = 57344 := rfl; have e' : (55296 : Int32).toInt = 55296 := rfl; rw [e] at q; rw [e'] at r
  unfold own_rank; rw [if_neg (by omega), if_neg (by omega)]
theorem own_gr2 {k : Int32} (q : ¬ (k < (55296 : Int32))) (r : ¬ ((57343 : Int32) < k)) : (2 : Int32).toInt = own_grp k := by
  rw [own_lt2] at q r; have e : (55296 : Int32).toInt = 55296 := rfl; have e' : (57343 : Int32).toInt = 57343 := rfl; rw [e] at q; rw [e'] at r
  unfold own_grp; rw [if_pos (by omega)]; rfl
theorem own_gr1 {k : Int32} (r : ¬ (k < (57344 : Int32))) : (1 : Int32).toInt = own_grp k := by
  rw [own_lt2] at r; have e' : (57344 : Int32).toInt = 57344 := rfl; rw [e'] at r
  unfold own_grp; rw [if_neg (by omega), if_pos (by omega)]; rfl
theorem own_gr0 {k : Int32} (q : k < (55296 : Int32) ∨ (57343 : Int32) < k) (r : k < (57344 : Int32)) : (0 : Int32).toInt = own_grp k := by
  rw [own_lt2, own_lt2] at q; rw [own_lt2] at r; have e : (55296 : Int32).toInt = 55296 := rfl; have e' : (57344 : Int32).toInt = 57344 := rfl; have e2 : (57343 : Int32).toInt = 57343 := rfl; rw [e, e2] at q; rw [e'] at r
  unfold own_grp; rw [if_neg (by omega), if_neg (by omega)]; rfl
theorem own_uc1 {x y g g' : Int32} (hx : 0 ≤ x.toInt ∧ x.toInt < 65536) (hy : 0 ≤ y.toInt ∧ y.toInt < 65536) (e : g.toInt = own_grp x) (e' : g'.toInt = own_grp y) (q : ¬ (g = g')) (r : g < g') : (-1 : Int32).toInt = own_sg (own_rank x - own_rank y) := by
  rw [own_lt2, e, e'] at r
  show (-1 : Int) = _
  have : own_rank x < own_rank y := by unfold own_grp at r; unfold own_rank; split at r <;> split at r <;> (try split at r) <;> (try split at r) <;> (try split) <;> (try split) <;> (try split) <;> (try split) <;> omega
  unfold own_sg; rw [if_pos (by omega)]
theorem own_uc2 {x y g g' : Int32} (hx : 0 ≤ x.toInt ∧ x.toInt < 65536) (hy : 0 ≤ y.toInt ∧ y.toInt < 65536) (e : g.toInt = own_grp x) (e' : g'.toInt = own_grp y) (q : ¬ (g = g')) (r : ¬ (g < g')) : (1 : Int32).toInt = own_sg (own_rank x - own_rank y) := by
  have q' : ¬ (g.toInt = g'.toInt) := fun z => q (Int32.toInt_inj.mp z)
  rw [own_lt2, e, e'] at r; rw [e, e'] at q'
  show (1 : Int) = _
  have : own_rank y < own_rank x := by unfold own_grp at r q'; unfold own_rank; split at r <;> split at r <;> (try split at r) <;> (try split at r) <;> (try split) <;> (try split) <;> (try split) <;> (try split) <;> simp_all <;> omega
  unfold own_sg; rw [if_neg (by omega), if_pos (by omega)]
theorem own_ucG {x y g g' : Int32} (hx : 0 ≤ x.toInt ∧ x.toInt < 65536) (hy : 0 ≤ y.toInt ∧ y.toInt < 65536) (e : g.toInt = own_grp x) (e' : g'.toInt = own_grp y) (q : g = g') : (x.toInt < y.toInt → own_rank x < own_rank y) ∧ (y.toInt < x.toInt → own_rank y < own_rank x) ∧ (x.toInt = y.toInt → own_rank x = own_rank y) := by
  have q' : own_grp x = own_grp y := by rw [← e, ← e', q]
  refine ⟨fun h => ?_, fun h => ?_, fun h => by unfold own_rank; rw [h]⟩
  · unfold own_grp at q'; unfold own_rank; split at q' <;> split at q' <;> (try split at q') <;> (try split at q') <;> (try split) <;> (try split) <;> (try split) <;> (try split) <;> simp_all <;> omega
  · unfold own_grp at q'; unfold own_rank; split at q' <;> split at q' <;> (try split at q') <;> (try split at q') <;> (try split) <;> (try split) <;> (try split) <;> (try split) <;> simp_all <;> omega
theorem own_uc3 {x y g g' : Int32} (hx : 0 ≤ x.toInt ∧ x.toInt < 65536) (hy : 0 ≤ y.toInt ∧ y.toInt < 65536) (e : g.toInt = own_grp x) (e' : g'.toInt = own_grp y) (q : g = g') (r : x < y) : (-1 : Int32).toInt = own_sg (own_rank x - own_rank y) := by
  have := (own_ucG hx hy e e' q).1 (own_lt2.mp r)
  show (-1 : Int) = _
  unfold own_sg; rw [if_pos (by omega)]
theorem own_uc4 {x y g g' : Int32} (hx : 0 ≤ x.toInt ∧ x.toInt < 65536) (hy : 0 ≤ y.toInt ∧ y.toInt < 65536) (e : g.toInt = own_grp x) (e' : g'.toInt = own_grp y) (q : g = g') (r : y < x) : (1 : Int32).toInt = own_sg (own_rank x - own_rank y) := by
  have := (own_ucG hx hy e e' q).2.1 (own_lt2.mp r)
  show (1 : Int) = _
  unfold own_sg; rw [if_neg (by omega), if_pos (by omega)]
theorem own_uc5 {x y g g' : Int32} (hx : 0 ≤ x.toInt ∧ x.toInt < 65536) (hy : 0 ≤ y.toInt ∧ y.toInt < 65536) (e : g.toInt = own_grp x) (e' : g'.toInt = own_grp y) (q : g = g') (r : ¬ (x < y)) (r' : ¬ (y < x)) : (0 : Int32).toInt = own_sg (own_rank x - own_rank y) := by
  rw [own_lt2] at r r'
  have := (own_ucG hx hy e e' q).2.2 (by omega)
  show (0 : Int) = _
  unfold own_sg; rw [if_neg (by omega), if_neg (by omega)]
theorem own_sg1 {a : Int32} (q : a < 0) : (-1 : Int32).toInt = own_sg a.toInt := by
  rw [own_lt2] at q; have z0 : (0 : Int32).toInt = 0 := rfl; rw [z0] at q; show (-1 : Int) = _; unfold own_sg; rw [if_pos q]
theorem own_sg2 {a : Int32} (q : ¬ (a < 0)) (r : 0 < a) : (1 : Int32).toInt = own_sg a.toInt := by
  rw [own_lt2] at q r; have z0 : (0 : Int32).toInt = 0 := rfl; rw [z0] at q r; show (1 : Int) = _; unfold own_sg; rw [if_neg q, if_pos r]
theorem own_sg3 {a : Int32} (q : ¬ (a < 0)) (r : ¬ (0 < a)) : (0 : Int32).toInt = own_sg a.toInt := by
  rw [own_lt2] at q r; have z0 : (0 : Int32).toInt = 0 := rfl; rw [z0] at q r; show (0 : Int) = _; unfold own_sg; rw [if_neg q, if_neg r]
/-- the chars of a String that the law makes -/
def own_mk (n k0 k1 : Int32) : List Int32 := if n = 0 then [] else if n = 1 then [k0] else [k0, k1]
def T3 (n : Int32) : Prop := n = 0 ∨ n = 1 ∨ n = 2
theorem own_t3 {x n : Int32} (h : (x &&& (2147483647 : Int32)) % (3 : Int32) = n) : T3 n := by
  have e := c_mask x 2147483647 31 (by decide) (by decide)
  have h1 := Int.emod_nonneg x.toInt (b := ((2 ^ 31 : Nat) : Int)) (by decide)
  have q := (c_irem (x &&& (2147483647 : Int32)) 3 3 rfl).1 (by rw [e]; exact h1)
  rw [h] at q
  have r : n.toInt = 0 ∨ n.toInt = 1 ∨ n.toInt = 2 := by omega
  rcases r with r | r | r
  · exact Or.inl (Int32.toInt_inj.mp r)
  · exact Or.inr (Or.inl (Int32.toInt_inj.mp r))
  · exact Or.inr (Or.inr (Int32.toInt_inj.mp r))
theorem own_mkLen {n : Int32} (k0 k1 : Int32) : (own_mk n k0 k1).length ≤ 2 := by unfold own_mk; split <;> (try split) <;> simp
theorem own_mkCh {n k0 k1 : Int32} (h0 : 0 ≤ k0.toInt ∧ k0.toInt < 65536) (h1 : 0 ≤ k1.toInt ∧ k1.toInt < 65536) : Chs (own_mk n k0 k1) := by
  intro c hc
  unfold own_mk at hc
  split at hc
  · cases hc
  · split at hc
    · simp at hc; subst hc; exact h0
    · simp at hc; rcases hc with rfl | rfl
      · exact h0
      · exact h1
theorem own_refA {la lb x0 x1 y0 y1 : Int32} {u : Int} (ha : T3 la) (hb : T3 lb) (c1 : ¬ (la < 1)) (c2 : ¬ (lb < 1)) (c3 : ¬ (x0 = y0)) (hu : u = own_sg (own_rank x0 - own_rank y0)) : u = own_sg (own_cmp (own_mk la x0 x1) (own_mk lb y0 y1)) := by
  rw [hu]
  rcases ha with rfl | rfl | rfl <;> rcases hb with rfl | rfl | rfl <;> first | exact absurd (by decide) c1 | exact absurd (by decide) c2 | simp [own_mk, own_cmp, c3]
theorem own_refB {la lb x0 x1 y0 y1 : Int32} {u : Int} (ha : T3 la) (hb : T3 lb) (c0 : la < 1 ∨ lb < 1 ∨ x0 = y0) (c1 : ¬ (la < 2)) (c2 : ¬ (lb < 2)) (c3 : ¬ (x1 = y1)) (hu : u = own_sg (own_rank x1 - own_rank y1)) : u = own_sg (own_cmp (own_mk la x0 x1) (own_mk lb y0 y1)) := by
  rw [hu]
  rcases ha with rfl | rfl | rfl <;> rcases hb with rfl | rfl | rfl <;> first | exact absurd (by decide) c1 | exact absurd (by decide) c2 | skip
  have e : x0 = y0 := by rcases c0 with q | q | q; exact absurd q (by decide); exact absurd q (by decide); exact q
  simp [own_mk, own_cmp, c3, e]
set_option maxRecDepth 65536 in
theorem own_refC {la lb x0 x1 y0 y1 : Int32} {u : Int} (ha : T3 la) (hb : T3 lb) (c0 : la < 1 ∨ lb < 1 ∨ x0 = y0) (c1 : la < 2 ∨ lb < 2 ∨ x1 = y1) (hu : u = own_sg (la - lb).toInt) : u = own_sg (own_cmp (own_mk la x0 x1) (own_mk lb y0 y1)) := by
  rw [hu]
  rcases ha with rfl | rfl | rfl <;> rcases hb with rfl | rfl | rfl
  · first | (simp [own_mk, own_cmp]; done) | (simp [own_mk, own_cmp]; decide)
  · first | (simp [own_mk, own_cmp]; done) | (simp [own_mk, own_cmp]; decide)
  · first | (simp [own_mk, own_cmp]; done) | (simp [own_mk, own_cmp]; decide)
  · first | (simp [own_mk, own_cmp]; done) | (simp [own_mk, own_cmp]; decide)
  · have e : x0 = y0 := by rcases c0 with q | q | q; exact absurd q (by decide); exact absurd q (by decide); exact q
    simp [own_mk, own_cmp, e]
  · have e : x0 = y0 := by rcases c0 with q | q | q; exact absurd q (by decide); exact absurd q (by decide); exact q
    first | (simp [own_mk, own_cmp, e]; done) | (simp [own_mk, own_cmp, e]; decide)
  · first | (simp [own_mk, own_cmp]; done) | (simp [own_mk, own_cmp]; decide)
  · have e : x0 = y0 := by rcases c0 with q | q | q; exact absurd q (by decide); exact absurd q (by decide); exact q
    first | (simp [own_mk, own_cmp, e]; done) | (simp [own_mk, own_cmp, e]; decide)
  · have e : x0 = y0 := by rcases c0 with q | q | q; exact absurd q (by decide); exact absurd q (by decide); exact q
    have e' : x1 = y1 := by rcases c1 with q | q | q; exact absurd q (by decide); exact absurd q (by decide); exact q
    simp [own_mk, own_cmp, e, e']
theorem own_end1 {ab sa ref : Int32} {A : Int} (h : ab.toInt = A) (hs : sa.toInt = own_sg ab.toInt) (hr : ref.toInt = own_sg A) : sa = ref := Int32.toInt_inj.mp (by rw [hs, hr, h])
theorem own_end2 {ba sb ref : Int32} {xs ys : List Int32} (h : ba.toInt = own_cmp ys xs) (hs : sb.toInt = own_sg ba.toInt) (hr : ref.toInt = own_sg (own_cmp xs ys)) : sb = -ref := by
  apply Int32.toInt_inj.mp
  have q : (-ref).toInt = -ref.toInt := by
    rw [Int32.toInt_neg]
    have : ref.toInt = -1 ∨ ref.toInt = 1 ∨ ref.toInt = 0 := by rw [hr]; unfold own_sg; split <;> (try split) <;> simp
    rcases this with q | q | q <;> rw [q] <;> decide
  rw [q, hs, hr, h, own_cmpAnti xs ys, own_sgNeg]
end Own810

theorem own_wS {Z : State} {a0 : Array Value} (hw : ∀ d ∈ tables_1, d.before a0 Z = true) : ∀ a ∈ Bundle.stringAtoms, a.before a0 Z = true := by
  intro a ha
  simp only [Bundle.stringAtoms, Bundle.sN, List.mem_cons, List.not_mem_nil, or_false] at ha
  rcases ha with rfl | rfl | rfl | rfl | rfl | rfl | rfl
  · exact (hw _ (List.mem_of_getElem? (i := 7) rfl))
  · exact (hw _ (List.mem_of_getElem? (i := 6) rfl))
  · exact (hw _ (List.mem_of_getElem? (i := 20) rfl))
  · exact (hw _ (List.mem_of_getElem? (i := 21) rfl))
  · exact (hw _ (List.mem_of_getElem? (i := 22) rfl))
  · exact (hw _ (List.mem_of_getElem? (i := 23) rfl))
  · exact (hw _ (List.mem_of_getElem? (i := 24) rfl))
theorem ef_11_RIRII (m : MethodId) (x0 : Addr) (x1 : Int32) (x2 : Addr) (x3 : Int32) (x4 : Int32) : entryFrame m #[(.ref x0), (.int x1), (.ref x2), (.int x3), (.int x4)] 7 = mkF m 0 #[.val (.ref x0), .val (.int x1), .val (.ref x2), .val (.int x3), .val (.int x4), .unset, .unset] [] := by first | (simp [entryFrame, mkF, argsToLocals, Value.category]; done) | rfl
theorem d11_0 : decode jdk_52_method_21_code 0 = .ok (.iconst 0, 1) := by decide +kernel
theorem d11_1 : decode jdk_52_method_21_code 1 = .ok (.istore 5, 2) := by decide +kernel
theorem d11_3 : decode jdk_52_method_21_code 3 = .ok (.iload 5, 2) := by decide +kernel
theorem d11_5 : decode jdk_52_method_21_code 5 = .ok (.iload 4, 2) := by decide +kernel
theorem d11_7 : decode jdk_52_method_21_code 7 = .ok (.if_icmp .ge 37, 3) := by decide +kernel
theorem d11_44 : decode jdk_52_method_21_code 44 = .ok (.iload 4, 2) := by decide +kernel
theorem d11_46 : decode jdk_52_method_21_code 46 = .ok (.ireturn, 1) := by decide +kernel
theorem d11_10 : decode jdk_52_method_21_code 10 = .ok (.aload_n 0, 1) := by decide +kernel
theorem d11_11 : decode jdk_52_method_21_code 11 = .ok (.iload_n 1, 1) := by decide +kernel
theorem d11_12 : decode jdk_52_method_21_code 12 = .ok (.caload, 1) := by decide +kernel
theorem d11_13 : decode jdk_52_method_21_code 13 = .ok (.istore 6, 2) := by decide +kernel
theorem d11_15 : decode jdk_52_method_21_code 15 = .ok (.iload 6, 2) := by decide +kernel
theorem d11_17 : decode jdk_52_method_21_code 17 = .ok (.sipush 255, 3) := by decide +kernel
theorem d11_20 : decode jdk_52_method_21_code 20 = .ok (.if_icmp .le 6, 3) := by decide +kernel
theorem d11_26 : decode jdk_52_method_21_code 26 = .ok (.aload_n 2, 1) := by decide +kernel
theorem d11_27 : decode jdk_52_method_21_code 27 = .ok (.iload_n 3, 1) := by decide +kernel
theorem d11_28 : decode jdk_52_method_21_code 28 = .ok (.iload 6, 2) := by decide +kernel
theorem d11_30 : decode jdk_52_method_21_code 30 = .ok (.i2b, 1) := by decide +kernel
theorem d11_31 : decode jdk_52_method_21_code 31 = .ok (.bastore, 1) := by decide +kernel
theorem d11_32 : decode jdk_52_method_21_code 32 = .ok (.iinc 1 1, 3) := by decide +kernel
theorem d11_35 : decode jdk_52_method_21_code 35 = .ok (.iinc 3 1, 3) := by decide +kernel
theorem d11_38 : decode jdk_52_method_21_code 38 = .ok (.iinc 5 1, 3) := by decide +kernel
theorem d11_41 : decode jdk_52_method_21_code 41 = .ok (.goto (-38), 3) := by decide +kernel
theorem pn_java_lang_StringUTF16 : plainName "java/lang/StringUTF16" = true := by first | (simp [plainName, overriddenIn]; done) | decide +kernel
set_option maxRecDepth 65536 in
set_option maxHeartbeats 40000000 in
theorem ctCi (l : Launch) (Z : State) (a0 : Array Value) (hw : ∀ d ∈ tables_1, d.before a0 Z = true) (ca b : Addr) (kca kb : ClassId) (cs : List Int32) (h0 : Heap) (n0 : Nat) (hcs : cs.length ≤ 4000) (hlat : ∀ c ∈ cs, ¬ ((255 : Int32) < c)) (Ca : Arv Z h0 ca kca .char (Int32.ofNat cs.length) (cs.map Value.int) (.int 0)) (Cb : Arv Z h0 b kb .byte (Int32.ofNat cs.length) ([] ++ List.replicate cs.length (.int 0)) (.int 0)) (hne : ca ≠ b) (hnb : n0 ≤ b) :
    CtN l Z (⟨"java/lang/StringUTF16", "compress", "([CI[BII)I"⟩ : MethodName) jdk_52_method_21_code 7 (some .int) ({ frames := 0, cells := 0, slots := 0, locals := 0 } : Room) n0 #[(.ref ca), (.int (0 : Int32)), (.ref b), (.int (0 : Int32)), (.int (Int32.ofNat cs.length))] h0 (fun v h => v = some (.int (Int32.ofNat cs.length)) ∧ Keep h0 h [b] ∧ Arv Z h b kb .byte (Int32.ofNat cs.length) ((cs.map (nar .byte)).map Value.int) (.int 0)) := by
  refine CtN.of (plainFor_of_name pn_java_lang_StringUTF16) ?_
  intro p e s m below meth c T0 W0 hnm
  refine Wp.cast (ef_11_RIRII m ca (0 : Int32) b (0 : Int32) (Int32.ofNat cs.length)) ?_
  have loop : ∀ (r i : Nat) (T : State) (h : Heap) (locs : List Loc) (s6 : Slot) (W : Wk p l e ({ frames := 0, cells := 0, slots := 0, locals := 0 } : Room) s s.vm m #[(.ref ca), (.int (0 : Int32)), (.ref b), (.int (0 : Int32)), (.int (Int32.ofNat cs.length))] below meth c Z "java/lang/StringUTF16" n0 jdk_52_method_21_code 7 (some .int) T h locs 0 0) (hi : i + r = cs.length) (K : Keep h0 h [b]) (V : Arv Z h b kb .byte (Int32.ofNat cs.length) (own_fill (fun j => Value.int (nar .byte (cs.getD j 0))) cs.length i) (.int 0)) (hs6 : s6 = .unset ∨ ∃ w : Int32, s6 = .val (.int w)), Wp p e below (PoN n0 s 0 0 (fun v h => v = some (.int (Int32.ofNat cs.length)) ∧ Keep h0 h [b] ∧ Arv Z h b kb .byte (Int32.ofNat cs.length) ((cs.map (nar .byte)).map Value.int) (.int 0))) T (mkF m 3 #[.val (.ref ca), .val (.int (Int32.ofNat i)), .val (.ref b), .val (.int (Int32.ofNat i)), .val (.int (Int32.ofNat cs.length)), .val (.int (Int32.ofNat i)), s6] []) := by
    intro r
    induction r with
    | zero =>
      intro i T h locs s6 W hi K V hs6
      have hi' : i = cs.length := by omega
      subst hi'
      refine w_iload W d11_3 rfl ?_
      refine w_iload W d11_5 rfl ?_
      refine w_icmpge W (pc' := 44) d11_7 (by decide) (fun c7 => ?_) (fun c7 => ?_)
      · refine w_iload W d11_44 rfl ?_
        exact n_rI W rfl d11_46 (by decide) (by decide) ⟨rfl, K, by rw [own_fill_full, own_range_map] at V; exact V⟩
      · exact absurd c7 (fun q => by rw [own_ltI (by omega) (by omega)] at q; omega)
    | succ r ih =>
      intro i T h locs s6 W hi K V hs6
      have hil : i < cs.length := by omega
      have hc : ¬ ((255 : Int32) < cs.getD i 0) := hlat _ (by rw [List.getD_eq_getElem?_getD, List.getElem?_eq_getElem hil]; exact List.getElem_mem hil)
      refine w_iload W d11_3 rfl ?_
      refine w_iload W d11_5 rfl ?_
      refine w_icmpge W (pc' := 44) d11_7 (by decide) (fun c7 => ?_) (fun c7 => ?_)
      · exact absurd ((own_ltI (by omega) (by omega)).mpr hil) c7
      · refine w_aloadN W d11_10 rfl rfl ?_
        refine w_iloadN W d11_11 rfl ?_
        refine w_caload W (Ca.keep K (ninS hne nin0)) ⟨own_nn0 (by omega), (own_ltI (by omega) (by omega)).mpr hil⟩ (v := (.int (cs.getD i 0))) (by rw [own_clamp (by omega)]; exact own_getMap cs hil _) d11_12 ?_
        refine w_istore W (L' := #[.val (.ref ca), .val (.int (Int32.ofNat i)), .val (.ref b), .val (.int (Int32.ofNat i)), .val (.int (Int32.ofNat cs.length)), .val (.int (Int32.ofNat i)), .val (.int (cs.getD i 0))]) d11_13 (by rcases hs6 with rfl | ⟨w, rfl⟩ <;> rfl) ?_
        refine w_iload W d11_15 rfl ?_
        refine w_sipush W (z := (255 : Int32)) d11_17 (by rfl) ?_
        refine w_icmple W (pc' := 26) d11_20 (by decide) (fun c20 => ?_) (fun c20 => ?_)
        · refine w_aloadN W d11_26 rfl rfl ?_
          refine w_iloadN W d11_27 rfl ?_
          refine w_iload W d11_28 rfl ?_
          refine w_i2b W d11_30 rfl ?_
          refine w_bastore W V ⟨own_nn0 (by omega), (own_ltI (by omega) (by omega)).mpr hil⟩ i (own_clamp (by omega)) (by rw [own_fill_len]; exact hil) (x' := (nar .byte (cs.getD i 0))) (own_narb _) hnb d11_31 ?_
          intro T1 h1 l1 W1 Wr1 V1
          rw [own_fill_set (fun j => Value.int (nar .byte (cs.getD j 0))) hil] at V1
          have K' := K.wr Wr1 (Or.inl (List.mem_cons_self ..))
          refine w_iinc W1 (L' := #[.val (.ref ca), .val (.int ((Int32.ofNat i) + (1 : Int32))), .val (.ref b), .val (.int (Int32.ofNat i)), .val (.int (Int32.ofNat cs.length)), .val (.int (Int32.ofNat i)), .val (.int (cs.getD i 0))]) d11_32 rfl (z := ((Int32.ofNat i) + (1 : Int32))) (by rfl) rfl ?_
          refine w_iinc W1 (L' := #[.val (.ref ca), .val (.int ((Int32.ofNat i) + (1 : Int32))), .val (.ref b), .val (.int ((Int32.ofNat i) + (1 : Int32))), .val (.int (Int32.ofNat cs.length)), .val (.int (Int32.ofNat i)), .val (.int (cs.getD i 0))]) d11_35 rfl (z := ((Int32.ofNat i) + (1 : Int32))) (by rfl) rfl ?_
          refine w_iinc W1 (L' := #[.val (.ref ca), .val (.int ((Int32.ofNat i) + (1 : Int32))), .val (.ref b), .val (.int ((Int32.ofNat i) + (1 : Int32))), .val (.int (Int32.ofNat cs.length)), .val (.int ((Int32.ofNat i) + (1 : Int32))), .val (.int (cs.getD i 0))]) d11_38 rfl (z := ((Int32.ofNat i) + (1 : Int32))) (by rfl) rfl ?_
          refine w_goto W1 (pc' := 3) d11_41 (by decide) ?_
          simp only [own_one]
          exact ih (i + 1) _ _ _ _ W1 (by omega) K' V1 (Or.inr ⟨_, rfl⟩)
        · exact absurd c20 hc
  refine w_iconst W0 (z := (0 : Int32)) d11_0 (by rfl) ?_
  refine w_istore W0 (L' := #[.val (.ref ca), .val (.int (0 : Int32)), .val (.ref b), .val (.int (0 : Int32)), .val (.int (Int32.ofNat cs.length)), .val (.int (0 : Int32)), .unset]) d11_1 rfl ?_
  exact loop cs.length 0 _ _ _ _ W0 (by omega) (Keep.refl _ _) (by rw [own_fill_zero]; exact Cb.pad (fun _ => rfl)) (Or.inl rfl)
theorem d11_23 : decode jdk_52_method_21_code 23 = .ok (.iload 5, 2) := by decide +kernel
theorem d11_25 : decode jdk_52_method_21_code 25 = .ok (.ireturn, 1) := by decide +kernel
set_option maxRecDepth 65536 in
set_option maxHeartbeats 40000000 in
theorem ctCiX (l : Launch) (Z : State) (a0 : Array Value) (hw : ∀ d ∈ tables_1, d.before a0 Z = true) (ca b : Addr) (kca kb : ClassId) (cs : List Int32) (h0 : Heap) (n0 : Nat) (hcs : cs.length ≤ 4000) (hX : ∃ c ∈ cs, (255 : Int32) < c) (Ca : Arv Z h0 ca kca .char (Int32.ofNat cs.length) (cs.map Value.int) (.int 0)) (Cb : Arv Z h0 b kb .byte (Int32.ofNat cs.length) ([] ++ List.replicate cs.length (.int 0)) (.int 0)) (hne : ca ≠ b) (hnb : n0 ≤ b) :
    CtN l Z (⟨"java/lang/StringUTF16", "compress", "([CI[BII)I"⟩ : MethodName) jdk_52_method_21_code 7 (some .int) ({ frames := 0, cells := 0, slots := 0, locals := 0 } : Room) n0 #[(.ref ca), (.int (0 : Int32)), (.ref b), (.int (0 : Int32)), (.int (Int32.ofNat cs.length))] h0 (fun v h => ∃ k, k < cs.length ∧ (255 : Int32) < cs.getD k 0 ∧ v = some (.int (Int32.ofNat k)) ∧ Keep h0 h [b]) := by
  refine CtN.of (plainFor_of_name pn_java_lang_StringUTF16) ?_
  intro p e s m below meth c T0 W0 hnm
  refine Wp.cast (ef_11_RIRII m ca (0 : Int32) b (0 : Int32) (Int32.ofNat cs.length)) ?_
  have loop : ∀ (r i : Nat) (T : State) (h : Heap) (locs : List Loc) (s6 : Slot) (W : Wk p l e ({ frames := 0, cells := 0, slots := 0, locals := 0 } : Room) s s.vm m #[(.ref ca), (.int (0 : Int32)), (.ref b), (.int (0 : Int32)), (.int (Int32.ofNat cs.length))] below meth c Z "java/lang/StringUTF16" n0 jdk_52_method_21_code 7 (some .int) T h locs 0 0) (hi : i + r = cs.length) (hb : ∀ j, j < i → ¬ ((255 : Int32) < cs.getD j 0)) (K : Keep h0 h [b]) (V : Arv Z h b kb .byte (Int32.ofNat cs.length) (own_fill (fun j => Value.int (nar .byte (cs.getD j 0))) cs.length i) (.int 0)) (hs6 : s6 = .unset ∨ ∃ w : Int32, s6 = .val (.int w)), Wp p e below (PoN n0 s 0 0 (fun v h => ∃ k, k < cs.length ∧ (255 : Int32) < cs.getD k 0 ∧ v = some (.int (Int32.ofNat k)) ∧ Keep h0 h [b])) T (mkF m 3 #[.val (.ref ca), .val (.int (Int32.ofNat i)), .val (.ref b), .val (.int (Int32.ofNat i)), .val (.int (Int32.ofNat cs.length)), .val (.int (Int32.ofNat i)), s6] []) := by
    intro r
    induction r with
    | zero =>
      intro i T h locs s6 W hi hb K V hs6
      obtain ⟨c, hc, hc2⟩ := hX
      obtain ⟨j, hj, rfl⟩ := List.mem_iff_getElem.mp hc
      exact absurd (by rw [List.getD_eq_getElem?_getD, List.getElem?_eq_getElem hj]; exact hc2) (hb j (by omega))
    | succ r ih =>
      intro i T h locs s6 W hi hb K V hs6
      have hil : i < cs.length := by omega
      refine w_iload W d11_3 rfl ?_
      refine w_iload W d11_5 rfl ?_
      refine w_icmpge W (pc' := 44) d11_7 (by decide) (fun c7 => ?_) (fun c7 => ?_)
      · exact absurd ((own_ltI (by omega) (by omega)).mpr hil) c7
      · refine w_aloadN W d11_10 rfl rfl ?_
        refine w_iloadN W d11_11 rfl ?_
        refine w_caload W (Ca.keep K (ninS hne nin0)) ⟨own_nn0 (by omega), (own_ltI (by omega) (by omega)).mpr hil⟩ (v := (.int (cs.getD i 0))) (by rw [own_clamp (by omega)]; exact own_getMap cs hil _) d11_12 ?_
        refine w_istore W (L' := #[.val (.ref ca), .val (.int (Int32.ofNat i)), .val (.ref b), .val (.int (Int32.ofNat i)), .val (.int (Int32.ofNat cs.length)), .val (.int (Int32.ofNat i)), .val (.int (cs.getD i 0))]) d11_13 (by rcases hs6 with rfl | ⟨w, rfl⟩ <;> rfl) ?_
        refine w_iload W d11_15 rfl ?_
        refine w_sipush W (z := (255 : Int32)) d11_17 (by rfl) ?_
        refine w_icmple W (pc' := 26) d11_20 (by decide) (fun c20 => ?_) (fun c20 => ?_)
        · refine w_aloadN W d11_26 rfl rfl ?_
          refine w_iloadN W d11_27 rfl ?_
          refine w_iload W d11_28 rfl ?_
          refine w_i2b W d11_30 rfl ?_
          refine w_bastore W V ⟨own_nn0 (by omega), (own_ltI (by omega) (by omega)).mpr hil⟩ i (own_clamp (by omega)) (by rw [own_fill_len]; exact hil) (x' := (nar .byte (cs.getD i 0))) (own_narb _) hnb d11_31 ?_
          intro T1 h1 l1 W1 Wr1 V1
          rw [own_fill_set (fun j => Value.int (nar .byte (cs.getD j 0))) hil] at V1
          have K' := K.wr Wr1 (Or.inl (List.mem_cons_self ..))
          refine w_iinc W1 (L' := #[.val (.ref ca), .val (.int ((Int32.ofNat i) + (1 : Int32))), .val (.ref b), .val (.int (Int32.ofNat i)), .val (.int (Int32.ofNat cs.length)), .val (.int (Int32.ofNat i)), .val (.int (cs.getD i 0))]) d11_32 rfl (z := ((Int32.ofNat i) + (1 : Int32))) (by rfl) rfl ?_
          refine w_iinc W1 (L' := #[.val (.ref ca), .val (.int ((Int32.ofNat i) + (1 : Int32))), .val (.ref b), .val (.int ((Int32.ofNat i) + (1 : Int32))), .val (.int (Int32.ofNat cs.length)), .val (.int (Int32.ofNat i)), .val (.int (cs.getD i 0))]) d11_35 rfl (z := ((Int32.ofNat i) + (1 : Int32))) (by rfl) rfl ?_
          refine w_iinc W1 (L' := #[.val (.ref ca), .val (.int ((Int32.ofNat i) + (1 : Int32))), .val (.ref b), .val (.int ((Int32.ofNat i) + (1 : Int32))), .val (.int (Int32.ofNat cs.length)), .val (.int ((Int32.ofNat i) + (1 : Int32))), .val (.int (cs.getD i 0))]) d11_38 rfl (z := ((Int32.ofNat i) + (1 : Int32))) (by rfl) rfl ?_
          refine w_goto W1 (pc' := 3) d11_41 (by decide) ?_
          simp only [own_one]
          exact ih (i + 1) _ _ _ _ W1 (by omega) (own_upto hb c20) K' V1 (Or.inr ⟨_, rfl⟩)
        · refine w_iload W d11_23 rfl ?_
          exact n_rI W rfl d11_25 (by decide) (by decide) ⟨i, hil, c20, rfl, K⟩
  refine w_iconst W0 (z := (0 : Int32)) d11_0 (by rfl) ?_
  refine w_istore W0 (L' := #[.val (.ref ca), .val (.int (0 : Int32)), .val (.ref b), .val (.int (0 : Int32)), .val (.int (Int32.ofNat cs.length)), .val (.int (0 : Int32)), .unset]) d11_1 rfl ?_
  exact loop cs.length 0 _ _ _ _ W0 (by omega) (fun j hj => absurd hj (Nat.not_lt_zero j)) (Keep.refl _ _) (by rw [own_fill_zero]; exact Cb.pad (fun _ => rfl)) (Or.inl rfl)
theorem ef_24_RII (m : MethodId) (x0 : Addr) (x1 : Int32) (x2 : Int32) : entryFrame m #[(.ref x0), (.int x1), (.int x2)] 3 = mkF m 0 #[.val (.ref x0), .val (.int x1), .val (.int x2)] [] := by first | (simp [entryFrame, mkF, argsToLocals, Value.category]; done) | rfl
theorem d24_0 : decode jdk_52_method_4_code 0 = .ok (.getstatic 44, 3) := by decide +kernel
theorem d24_3 : decode jdk_52_method_4_code 3 = .ok (.ifCond .ne 25, 3) := by decide +kernel
theorem d24_28 : decode jdk_52_method_4_code 28 = .ok (.iload_n 1, 1) := by decide +kernel
theorem d24_29 : decode jdk_52_method_4_code 29 = .ok (.iconst 1, 1) := by decide +kernel
theorem d24_30 : decode jdk_52_method_4_code 30 = .ok (.ishl, 1) := by decide +kernel
theorem d24_31 : decode jdk_52_method_4_code 31 = .ok (.istore_n 1, 1) := by decide +kernel
theorem d24_32 : decode jdk_52_method_4_code 32 = .ok (.aload_n 0, 1) := by decide +kernel
theorem d24_33 : decode jdk_52_method_4_code 33 = .ok (.iload_n 1, 1) := by decide +kernel
theorem d24_34 : decode jdk_52_method_4_code 34 = .ok (.iinc 1 1, 3) := by decide +kernel
theorem d24_37 : decode jdk_52_method_4_code 37 = .ok (.iload_n 2, 1) := by decide +kernel
theorem d24_38 : decode jdk_52_method_4_code 38 = .ok (.getstatic 59, 3) := by decide +kernel
theorem d24_41 : decode jdk_52_method_4_code 41 = .ok (.ishr, 1) := by decide +kernel
theorem d24_42 : decode jdk_52_method_4_code 42 = .ok (.i2b, 1) := by decide +kernel
theorem d24_43 : decode jdk_52_method_4_code 43 = .ok (.bastore, 1) := by decide +kernel
theorem d24_44 : decode jdk_52_method_4_code 44 = .ok (.aload_n 0, 1) := by decide +kernel
theorem d24_45 : decode jdk_52_method_4_code 45 = .ok (.iload_n 1, 1) := by decide +kernel
theorem d24_46 : decode jdk_52_method_4_code 46 = .ok (.iload_n 2, 1) := by decide +kernel
theorem d24_47 : decode jdk_52_method_4_code 47 = .ok (.getstatic 63, 3) := by decide +kernel
theorem d24_50 : decode jdk_52_method_4_code 50 = .ok (.ishr, 1) := by decide +kernel
theorem d24_51 : decode jdk_52_method_4_code 51 = .ok (.i2b, 1) := by decide +kernel
theorem d24_52 : decode jdk_52_method_4_code 52 = .ok (.bastore, 1) := by decide +kernel
theorem d24_53 : decode jdk_52_method_4_code 53 = .ok (.return_, 1) := by decide +kernel
set_option maxRecDepth 65536 in
set_option maxHeartbeats 40000000 in
theorem ctPc (l : Launch) (Z : State) (a0 : Array Value) (hw : ∀ d ∈ tables_1, d.before a0 Z = true) (b : Addr) (kb : ClassId) (cs : List Int32) (i : Nat) (h0 : Heap) (n0 : Nat) (hcs : cs.length ≤ 4000) (hi : i < cs.length) (O : Old Z n0 h0) (Ga : Sta Z Z.heap "java/lang/StringUTF16" "$assertionsDisabled" "Z" (.int 1)) (Gh : Sta Z Z.heap "java/lang/StringUTF16" "HI_BYTE_SHIFT" "I" (.int 0)) (Gl : Sta Z Z.heap "java/lang/StringUTF16" "LO_BYTE_SHIFT" "I" (.int 8)) (hnb : n0 ≤ b) (Cb : Arv Z h0 b kb .byte (Int32.ofNat (2 * cs.length)) (own_fill (fun j => Value.int (own_ub cs j)) (2 * cs.length) (2 * i)) (.int 0)) :
    CtN l Z (⟨"java/lang/StringUTF16", "putChar", "([BII)V"⟩ : MethodName) jdk_52_method_4_code 3 none ({ frames := 0, cells := 0, slots := 0, locals := 0 } : Room) n0 #[(.ref b), (.int (Int32.ofNat i)), (.int (cs.getD i 0))] h0 (fun v h => v = none ∧ Keep h0 h [b] ∧ Arv Z h b kb .byte (Int32.ofNat (2 * cs.length)) (own_fill (fun j => Value.int (own_ub cs j)) (2 * cs.length) (2 * (i + 1))) (.int 0)) := by
  refine CtN.of (plainFor_of_name pn_java_lang_StringUTF16) ?_
  intro p e s m below meth c T0 W0 hnm
  refine Wp.cast (ef_24_RII m b (Int32.ofNat i) (cs.getD i 0)) ?_
  have hi2 : 2 * i + 1 < 2 * cs.length := by omega
  refine w_gets W0 (host := "") (Or.inl (hw _ (List.mem_of_getElem? (i := 107) rfl))) Via.refl (own_staOld O Ga) d24_0 ?_
  intro T1 W1
  refine w_ifne W1 (pc' := 28) d24_3 (by decide) (fun c3 => ?_) (fun c3 => absurd c3 (by decide))
  refine w_iloadN W1 d24_28 rfl ?_
  refine w_iconst W1 (z := (1 : Int32)) d24_29 (by rfl) ?_
  refine w_ishl W1 d24_30 (own_dbl (by omega)) ?_
  refine w_istoreN W1 (L' := #[.val (.ref b), .val (.int (Int32.ofNat (2 * i))), .val (.int (cs.getD i 0))]) d24_31 rfl ?_
  refine w_aloadN W1 d24_32 rfl rfl ?_
  refine w_iloadN W1 d24_33 rfl ?_
  refine w_iinc W1 (L' := #[.val (.ref b), .val (.int (Int32.ofNat (2 * i + 1))), .val (.int (cs.getD i 0))]) d24_34 rfl (own_one _) rfl ?_
  refine w_iloadN W1 d24_37 rfl ?_
  refine w_gets W1 (host := "") (Or.inl (hw _ (List.mem_of_getElem? (i := 108) rfl))) Via.refl (own_staOld O Gh) d24_38 ?_
  intro T2 W2
  refine w_ishr W2 d24_41 (own_shr0 _) ?_
  refine w_i2b W2 d24_42 rfl ?_
  refine w_bastore W2 Cb ⟨own_nn0 (by omega), (own_ltI (by omega) (by omega)).mpr (by omega)⟩ (2 * i) (own_clamp (by omega)) (by rw [own_fill_len]; omega) (x' := (own_ub cs (2 * i))) (by rw [own_narb, own_ub0]) hnb d24_43 ?_
  intro T3 h3 l3 W3 Wr3 V3
  have V1 : Arv Z h3 b kb .byte (Int32.ofNat (2 * cs.length)) (own_fill (fun j => Value.int (own_ub cs j)) (2 * cs.length) (2 * i + 1)) (.int 0) := by rw [← own_fill_set (fun j => Value.int (own_ub cs j)) (by omega)]; exact V3
  have K1 := Keep.of_wr Wr3
  refine w_aloadN W3 d24_44 rfl rfl ?_
  refine w_iloadN W3 d24_45 rfl ?_
  refine w_iloadN W3 d24_46 rfl ?_
  refine w_gets W3 (host := "") (Or.inl (hw _ (List.mem_of_getElem? (i := 109) rfl))) Via.refl (own_staOld (O.keep K1 (allS hnb all0)) Gl) d24_47 ?_
  intro T4 W4
  refine w_ishr W4 d24_50 rfl ?_
  refine w_i2b W4 d24_51 rfl ?_
  refine w_bastore W4 V1 ⟨own_nn0 (by omega), (own_ltI (by omega) (by omega)).mpr (by omega)⟩ (2 * i + 1) (own_clamp (by omega)) (by rw [own_fill_len]; omega) (x' := (own_ub cs (2 * i + 1))) (by rw [own_narb, own_ub1]) hnb d24_52 ?_
  intro T5 h5 l5 W5 Wr5 V5
  have V2 : Arv Z h5 b kb .byte (Int32.ofNat (2 * cs.length)) (own_fill (fun j => Value.int (own_ub cs j)) (2 * cs.length) (2 * (i + 1))) (.int 0) := by rw [show 2 * (i + 1) = 2 * i + 1 + 1 by omega, ← own_fill_set (fun j => Value.int (own_ub cs j)) (by omega)]; exact V5
  have K2 := K1.wr Wr5 (Or.inl (List.mem_cons_self ..))
  exact n_rV W5 rfl d24_53 (by decide) (by decide) ⟨rfl, K2, V2⟩
theorem ef_23_I (m : MethodId) (x0 : Int32) : entryFrame m #[(.int x0)] 1 = mkF m 0 #[.val (.int x0)] [] := by first | (simp [entryFrame, mkF, argsToLocals, Value.category]; done) | rfl
theorem d23_0 : decode jdk_52_method_3_code 0 = .ok (.iload_n 0, 1) := by decide +kernel
theorem d23_1 : decode jdk_52_method_3_code 1 = .ok (.ifCond .ge 11, 3) := by decide +kernel
theorem d23_12 : decode jdk_52_method_3_code 12 = .ok (.iload_n 0, 1) := by decide +kernel
theorem d23_13 : decode jdk_52_method_3_code 13 = .ok (.ldc 20, 2) := by decide +kernel
theorem d23_15 : decode jdk_52_method_3_code 15 = .ok (.if_icmp .lt 40, 3) := by decide +kernel
theorem d23_55 : decode jdk_52_method_3_code 55 = .ok (.iload_n 0, 1) := by decide +kernel
theorem d23_56 : decode jdk_52_method_3_code 56 = .ok (.iconst 1, 1) := by decide +kernel
theorem d23_57 : decode jdk_52_method_3_code 57 = .ok (.ishl, 1) := by decide +kernel
theorem d23_58 : decode jdk_52_method_3_code 58 = .ok (.ireturn, 1) := by decide +kernel
set_option maxRecDepth 65536 in
set_option maxHeartbeats 40000000 in
theorem ctNl (l : Launch) (Z : State) (a0 : Array Value) (hw : ∀ d ∈ tables_1, d.before a0 Z = true) (cs : List Int32) (h0 : Heap) (n0 : Nat) (hcs : cs.length ≤ 4000) :
    CtN l Z (⟨"java/lang/StringUTF16", "newBytesLength", "(I)I"⟩ : MethodName) jdk_52_method_3_code 1 (some .int) ({ frames := 0, cells := 0, slots := 0, locals := 0 } : Room) n0 #[(.int (Int32.ofNat cs.length))] h0 (fun v h => v = some (.int (Int32.ofNat (2 * cs.length))) ∧ h0 = h) := by
  refine CtN.of (plainFor_of_name pn_java_lang_StringUTF16) ?_
  intro p e s m below meth c T0 W0 hnm
  refine Wp.cast (ef_23_I m (Int32.ofNat cs.length)) ?_
  refine w_iloadN W0 d23_0 rfl ?_
  refine w_ifge W0 (pc' := 12) d23_1 (by decide) (fun c1 => ?_) (fun c1 => ?_)
  · refine w_iloadN W0 d23_12 rfl ?_
    refine w_ldcI W0 (hw _ (List.mem_of_getElem? (i := 103) rfl)) d23_13 ?_
    refine w_icmplt W0 (pc' := 55) d23_15 (by decide) (fun c15 => ?_) (fun c15 => ?_)
    · refine w_iloadN W0 d23_55 rfl ?_
      refine w_iconst W0 (z := (1 : Int32)) d23_56 (by rfl) ?_
      refine w_ishl W0 d23_57 (own_dbl (by omega)) ?_
      exact n_rI W0 rfl d23_58 (by decide) (by decide) ⟨rfl, rfl⟩
    · exact absurd ((own_ltI (j := 1073741823) (by omega) (by decide)).mpr (by omega)) c15
  · exact absurd c1 (own_nn0 (by omega))
theorem ef_22_I (m : MethodId) (x0 : Int32) : entryFrame m #[(.int x0)] 1 = mkF m 0 #[.val (.int x0)] [] := by first | (simp [entryFrame, mkF, argsToLocals, Value.category]; done) | rfl
theorem d22_0 : decode jdk_52_method_2_code 0 = .ok (.iload_n 0, 1) := by decide +kernel
theorem d22_1 : decode jdk_52_method_2_code 1 = .ok (.invokestatic 11, 3) := by decide +kernel
theorem pd_0 : parseMethodDescriptor "(I)I" = some ⟨[.int], some .int⟩ := by decide +kernel
theorem d22_4 : decode jdk_52_method_2_code 4 = .ok (.newarray .byte, 2) := by decide +kernel
theorem d22_6 : decode jdk_52_method_2_code 6 = .ok (.areturn, 1) := by decide +kernel
set_option maxRecDepth 65536 in
set_option maxHeartbeats 40000000 in
theorem ctNf (l : Launch) (Z : State) (a0 : Array Value) (hw : ∀ d ∈ tables_1, d.before a0 Z = true) (cs : List Int32) (h0 : Heap) (n0 : Nat) (hcs : cs.length ≤ 2) :
    CtN l Z (⟨"java/lang/StringUTF16", "newBytesFor", "(I)[B"⟩ : MethodName) jdk_52_method_2_code 1 (some (.array .byte)) ({ frames := 1, cells := 1, slots := 4, locals := 12 } : Room) n0 #[(.int (Int32.ofNat cs.length))] h0 (fun v h => ∃ b kb, v = some (.ref b) ∧ Ext h0 h ∧ h0.size ≤ b ∧ Arv Z h b kb .byte (Int32.ofNat (2 * cs.length)) ([] ++ List.replicate (2 * cs.length) (.int 0)) (.int 0)) := by
  refine CtN.of (plainFor_of_name pn_java_lang_StringUTF16) ?_
  intro p e s m below meth c T0 W0 hnm
  refine Wp.cast (ef_22_I m (Int32.ofNat cs.length)) ?_
  refine w_iloadN W0 d22_0 rfl ?_
  refine w_callS W0 (ctNl l Z a0 hw cs _ n0 (by omega)) (hw _ (List.mem_of_getElem? (i := 100) rfl)) (hw _ (List.mem_of_getElem? (i := 101) rfl)) (hw _ (List.mem_of_getElem? (i := 51) rfl)) (hw _ (List.mem_of_getElem? (i := 102) rfl)) (by decide) 0 (by decide) (by decide) (by decide) (by decide) (argsL := [(.int (Int32.ofNat cs.length))]) (rest := []) pd_0 rfl rfl rfl rfl rfl d22_1 ?_
  rintro T1 h1 l1 _ W1 ⟨rfl, rfl⟩
  refine w_newarr W1 (ty := .byte) (dv := (.int 0)) (hw _ (List.mem_of_getElem? (i := 20) rfl)) rfl rfl d22_4 (own_nn0 (by omega)) 4 (by rw [own_clamp (by omega)]; omega) (by decide) (by decide) (by decide) ?_
  intro T2 h2 b k2 W2 E2 g2 V2
  exact n_rA W2 rfl rfl rfl d22_6 (by decide) (by decide) ⟨b, _, rfl, E2, Nat.le_of_eq g2.symm, V2.pad (pad_rep [] (.int 0) (2 * cs.length))⟩
theorem ef_21_RII (m : MethodId) (x0 : Addr) (x1 : Int32) (x2 : Int32) : entryFrame m #[(.ref x0), (.int x1), (.int x2)] 5 = mkF m 0 #[.val (.ref x0), .val (.int x1), .val (.int x2), .unset, .unset] [] := by first | (simp [entryFrame, mkF, argsToLocals, Value.category]; done) | rfl
theorem d21_0 : decode jdk_52_method_14_code 0 = .ok (.iload_n 2, 1) := by decide +kernel
theorem d21_1 : decode jdk_52_method_14_code 1 = .ok (.invokestatic 107, 3) := by decide +kernel
theorem pd_1 : parseMethodDescriptor "(I)[B" = some ⟨[.int], some (.array .byte)⟩ := by decide +kernel
theorem d21_4 : decode jdk_52_method_14_code 4 = .ok (.astore_n 3, 1) := by decide +kernel
theorem d21_5 : decode jdk_52_method_14_code 5 = .ok (.iconst 0, 1) := by decide +kernel
theorem d21_6 : decode jdk_52_method_14_code 6 = .ok (.istore 4, 2) := by decide +kernel
theorem d21_8 : decode jdk_52_method_14_code 8 = .ok (.iload 4, 2) := by decide +kernel
theorem d21_10 : decode jdk_52_method_14_code 10 = .ok (.iload_n 2, 1) := by decide +kernel
theorem d21_11 : decode jdk_52_method_14_code 11 = .ok (.if_icmp .ge 21, 3) := by decide +kernel
theorem d21_32 : decode jdk_52_method_14_code 32 = .ok (.aload_n 3, 1) := by decide +kernel
theorem d21_33 : decode jdk_52_method_14_code 33 = .ok (.areturn, 1) := by decide +kernel
theorem d21_14 : decode jdk_52_method_14_code 14 = .ok (.aload_n 3, 1) := by decide +kernel
theorem d21_15 : decode jdk_52_method_14_code 15 = .ok (.iload 4, 2) := by decide +kernel
theorem d21_17 : decode jdk_52_method_14_code 17 = .ok (.aload_n 0, 1) := by decide +kernel
theorem d21_18 : decode jdk_52_method_14_code 18 = .ok (.iload_n 1, 1) := by decide +kernel
theorem d21_19 : decode jdk_52_method_14_code 19 = .ok (.caload, 1) := by decide +kernel
theorem d21_20 : decode jdk_52_method_14_code 20 = .ok (.invokestatic 111, 3) := by decide +kernel
theorem pd_2 : parseMethodDescriptor "([BII)V" = some ⟨[(.array .byte), .int, .int], none⟩ := by decide +kernel
theorem d21_23 : decode jdk_52_method_14_code 23 = .ok (.iinc 1 1, 3) := by decide +kernel
theorem d21_26 : decode jdk_52_method_14_code 26 = .ok (.iinc 4 1, 3) := by decide +kernel
theorem d21_29 : decode jdk_52_method_14_code 29 = .ok (.goto (-21), 3) := by decide +kernel
set_option maxRecDepth 65536 in
set_option maxHeartbeats 40000000 in
theorem ctTb (l : Launch) (Z : State) (a0 : Array Value) (hw : ∀ d ∈ tables_1, d.before a0 Z = true) (ca : Addr) (kca : ClassId) (cs : List Int32) (h0 : Heap) (n0 : Nat) (hcs : cs.length ≤ 2) (O : Old Z n0 h0) (Ga : Sta Z Z.heap "java/lang/StringUTF16" "$assertionsDisabled" "Z" (.int 1)) (Gh : Sta Z Z.heap "java/lang/StringUTF16" "HI_BYTE_SHIFT" "I" (.int 0)) (Gl : Sta Z Z.heap "java/lang/StringUTF16" "LO_BYTE_SHIFT" "I" (.int 8)) (Ca : Arv Z h0 ca kca .char (Int32.ofNat cs.length) (cs.map Value.int) (.int 0)) :
    CtN l Z (⟨"java/lang/StringUTF16", "toBytes", "([CII)[B"⟩ : MethodName) jdk_52_method_14_code 5 (some (.array .byte)) ({ frames := 2, cells := 1, slots := 4, locals := 24 } : Room) n0 #[(.ref ca), (.int (0 : Int32)), (.int (Int32.ofNat cs.length))] h0 (fun v h => ∃ b kb, v = some (.ref b) ∧ Ext h0 h ∧ h0.size ≤ b ∧ Arv Z h b kb .byte (Int32.ofNat (2 * cs.length)) ((own_u16 cs).map Value.int) (.int 0)) := by
  refine CtN.of (plainFor_of_name pn_java_lang_StringUTF16) ?_
  intro p e s m below meth c T0 W0 hnm
  refine Wp.cast (ef_21_RII m ca (0 : Int32) (Int32.ofNat cs.length)) ?_
  refine w_iloadN W0 d21_0 rfl ?_
  refine w_callS W0 (ctNf l Z a0 hw cs _ n0 hcs) (hw _ (List.mem_of_getElem? (i := 97) rfl)) (hw _ (List.mem_of_getElem? (i := 98) rfl)) (hw _ (List.mem_of_getElem? (i := 51) rfl)) (hw _ (List.mem_of_getElem? (i := 99) rfl)) (by decide) 0 (by decide) (by decide) (by decide) (by decide) (argsL := [(.int (Int32.ofNat cs.length))]) (rest := []) pd_1 rfl rfl rfl rfl rfl d21_1 ?_
  rintro T1 h1 l1 _ W1 ⟨b, kb, rfl, E, hb, V0⟩
  refine w_astoreN W1 (L' := #[.val (.ref ca), .val (.int (0 : Int32)), .val (.int (Int32.ofNat cs.length)), .val (.ref b), .unset]) d21_4 rfl rfl ?_
  refine w_iconst W1 (z := (0 : Int32)) d21_5 (by rfl) ?_
  refine w_istore W1 (L' := #[.val (.ref ca), .val (.int (0 : Int32)), .val (.int (Int32.ofNat cs.length)), .val (.ref b), .val (.int (0 : Int32))]) d21_6 rfl ?_
  have hnb : n0 ≤ b := Nat.le_trans (own_oldle O) hb
  have hne : ca ≠ b := own_ltNe Ca.lt hb
  have Ca' := Ca.ext E
  have O' := O.ext E
  have loop : ∀ (r i : Nat) (T : State) (h : Heap) (locs : List Loc) (W : Wk p l e ({ frames := 2, cells := 1, slots := 4, locals := 24 } : Room) s s.vm m #[(.ref ca), (.int (0 : Int32)), (.int (Int32.ofNat cs.length))] below meth c Z "java/lang/StringUTF16" n0 jdk_52_method_14_code 5 (some (.array .byte)) T h locs 1 4) (hi : i + r = cs.length) (K : Keep h1 h [b]) (V : Arv Z h b kb .byte (Int32.ofNat (2 * cs.length)) (own_fill (fun j => Value.int (own_ub cs j)) (2 * cs.length) (2 * i)) (.int 0)), Wp p e below (PoN n0 s 1 4 (fun v h => ∃ b kb, v = some (.ref b) ∧ Ext h0 h ∧ h0.size ≤ b ∧ Arv Z h b kb .byte (Int32.ofNat (2 * cs.length)) ((own_u16 cs).map Value.int) (.int 0))) T (mkF m 8 #[.val (.ref ca), .val (.int (Int32.ofNat i)), .val (.int (Int32.ofNat cs.length)), .val (.ref b), .val (.int (Int32.ofNat i))] []) := by
    intro r
    induction r with
    | zero =>
      intro i T h locs W hi K V
      have hi' : i = cs.length := by omega
      subst hi'
      refine w_iload W d21_8 rfl ?_
      refine w_iloadN W d21_10 rfl ?_
      refine w_icmpge W (pc' := 32) d21_11 (by decide) (fun c11 => ?_) (fun c11 => ?_)
      · refine w_aloadN W d21_32 rfl rfl ?_
        exact n_rA W rfl rfl rfl d21_33 (by decide) (by decide) ⟨b, kb, rfl, own_extKeep E K (allS hb all0), hb, by rw [own_fill_full] at V; rw [own_u16, List.map_map]; exact V⟩
      · exact absurd c11 (fun q => by rw [own_ltI (by omega) (by omega)] at q; omega)
    | succ r ih =>
      intro i T h locs W hi K V
      have hil : i < cs.length := by omega
      refine w_iload W d21_8 rfl ?_
      refine w_iloadN W d21_10 rfl ?_
      refine w_icmpge W (pc' := 32) d21_11 (by decide) (fun c11 => ?_) (fun c11 => ?_)
      · exact absurd ((own_ltI (by omega) (by omega)).mpr hil) c11
      · refine w_aloadN W d21_14 rfl rfl ?_
        refine w_iload W d21_15 rfl ?_
        refine w_aloadN W d21_17 rfl rfl ?_
        refine w_iloadN W d21_18 rfl ?_
        refine w_caload W (Ca'.keep K (ninS hne nin0)) ⟨own_nn0 (by omega), (own_ltI (by omega) (by omega)).mpr hil⟩ (v := (.int (cs.getD i 0))) (by rw [own_clamp (by omega)]; exact own_getMap cs hil _) d21_19 ?_
        refine w_callS W (ctPc l Z a0 hw b kb cs i _ n0 (by omega) hil (O'.keep K (allS hnb all0)) Ga Gh Gl hnb V) (hw _ (List.mem_of_getElem? (i := 104) rfl)) (hw _ (List.mem_of_getElem? (i := 105) rfl)) (hw _ (List.mem_of_getElem? (i := 51) rfl)) (hw _ (List.mem_of_getElem? (i := 106) rfl)) (by decide) 0 (by decide) (by decide) (by decide) (by decide) (argsL := [(.ref b), (.int (Int32.ofNat i)), (.int (cs.getD i 0))]) (rest := []) pd_2 rfl rfl rfl rfl rfl d21_20 ?_
        rintro T2 h2 l2 _ W2 ⟨rfl, K2, V2⟩
        refine w_iinc W2 (L' := #[.val (.ref ca), .val (.int ((Int32.ofNat i) + (1 : Int32))), .val (.int (Int32.ofNat cs.length)), .val (.ref b), .val (.int (Int32.ofNat i))]) d21_23 rfl (z := ((Int32.ofNat i) + (1 : Int32))) (by rfl) rfl ?_
        refine w_iinc W2 (L' := #[.val (.ref ca), .val (.int ((Int32.ofNat i) + (1 : Int32))), .val (.int (Int32.ofNat cs.length)), .val (.ref b), .val (.int ((Int32.ofNat i) + (1 : Int32)))]) d21_26 rfl (z := ((Int32.ofNat i) + (1 : Int32))) (by rfl) rfl ?_
        refine w_goto W2 (pc' := 8) d21_29 (by decide) ?_
        simp only [own_one]
        exact ih (i + 1) _ _ _ (Wk.mono W2 (by decide) (by decide)) (by omega) (K.trans K2 (fun x hx => Or.inl hx)) V2
  exact loop cs.length 0 _ _ _ W1 (by omega) (Keep.refl _ _) (by rw [own_fill_zero]; exact V0)
theorem ef_25_RI (m : MethodId) (x0 : Addr) (x1 : Int32) : entryFrame m #[(.ref x0), (.int x1)] 2 = mkF m 0 #[.val (.ref x0), .val (.int x1)] [] := by first | (simp [entryFrame, mkF, argsToLocals, Value.category]; done) | rfl
theorem d25_0 : decode jdk_52_method_5_code 0 = .ok (.getstatic 44, 3) := by decide +kernel
theorem d25_3 : decode jdk_52_method_5_code 3 = .ok (.ifCond .ne 25, 3) := by decide +kernel
theorem d25_28 : decode jdk_52_method_5_code 28 = .ok (.iload_n 1, 1) := by decide +kernel
theorem d25_29 : decode jdk_52_method_5_code 29 = .ok (.iconst 1, 1) := by decide +kernel
theorem d25_30 : decode jdk_52_method_5_code 30 = .ok (.ishl, 1) := by decide +kernel
theorem d25_31 : decode jdk_52_method_5_code 31 = .ok (.istore_n 1, 1) := by decide +kernel
theorem d25_32 : decode jdk_52_method_5_code 32 = .ok (.aload_n 0, 1) := by decide +kernel
theorem d25_33 : decode jdk_52_method_5_code 33 = .ok (.iload_n 1, 1) := by decide +kernel
theorem d25_34 : decode jdk_52_method_5_code 34 = .ok (.iinc 1 1, 3) := by decide +kernel
theorem d25_37 : decode jdk_52_method_5_code 37 = .ok (.baload, 1) := by decide +kernel
theorem d25_38 : decode jdk_52_method_5_code 38 = .ok (.sipush 255, 3) := by decide +kernel
theorem d25_41 : decode jdk_52_method_5_code 41 = .ok (.iand, 1) := by decide +kernel
theorem d25_42 : decode jdk_52_method_5_code 42 = .ok (.getstatic 59, 3) := by decide +kernel
theorem d25_45 : decode jdk_52_method_5_code 45 = .ok (.ishl, 1) := by decide +kernel
theorem d25_46 : decode jdk_52_method_5_code 46 = .ok (.aload_n 0, 1) := by decide +kernel
theorem d25_47 : decode jdk_52_method_5_code 47 = .ok (.iload_n 1, 1) := by decide +kernel
theorem d25_48 : decode jdk_52_method_5_code 48 = .ok (.baload, 1) := by decide +kernel
theorem d25_49 : decode jdk_52_method_5_code 49 = .ok (.sipush 255, 3) := by decide +kernel
theorem d25_52 : decode jdk_52_method_5_code 52 = .ok (.iand, 1) := by decide +kernel
theorem d25_53 : decode jdk_52_method_5_code 53 = .ok (.getstatic 63, 3) := by decide +kernel
theorem d25_56 : decode jdk_52_method_5_code 56 = .ok (.ishl, 1) := by decide +kernel
theorem d25_57 : decode jdk_52_method_5_code 57 = .ok (.ior, 1) := by decide +kernel
theorem d25_58 : decode jdk_52_method_5_code 58 = .ok (.i2c, 1) := by decide +kernel
theorem d25_59 : decode jdk_52_method_5_code 59 = .ok (.ireturn, 1) := by decide +kernel
set_option maxRecDepth 65536 in
set_option maxHeartbeats 40000000 in
theorem ctGc (l : Launch) (Z : State) (a0 : Array Value) (hw : ∀ d ∈ tables_1, d.before a0 Z = true) (b : Addr) (kb : ClassId) (cs : List Int32) (i : Nat) (h0 : Heap) (n0 : Nat) (hcs : cs.length ≤ 4000) (hi : i < cs.length) (hch : Chs cs) (O : Old Z n0 h0) (Ga : Sta Z Z.heap "java/lang/StringUTF16" "$assertionsDisabled" "Z" (.int 1)) (Gh : Sta Z Z.heap "java/lang/StringUTF16" "HI_BYTE_SHIFT" "I" (.int 0)) (Gl : Sta Z Z.heap "java/lang/StringUTF16" "LO_BYTE_SHIFT" "I" (.int 8)) (Cb : Arv Z h0 b kb .byte (Int32.ofNat (2 * cs.length)) ((own_u16 cs).map Value.int) (.int 0)) :
    CtN l Z (⟨"java/lang/StringUTF16", "getChar", "([BI)C"⟩ : MethodName) jdk_52_method_5_code 2 (some .char) ({ frames := 0, cells := 0, slots := 0, locals := 0 } : Room) n0 #[(.ref b), (.int (Int32.ofNat i))] h0 (fun v h => v = some (.int (cs.getD i 0)) ∧ h0 = h) := by
  refine CtN.of (plainFor_of_name pn_java_lang_StringUTF16) ?_
  intro p e s m below meth c T0 W0 hnm
  refine Wp.cast (ef_25_RI m b (Int32.ofNat i)) ?_
  obtain ⟨hc0, hc1⟩ := hch _ (own_gmem hi)
  refine w_gets W0 (host := "") (Or.inl (hw _ (List.mem_of_getElem? (i := 107) rfl))) Via.refl (own_staOld O Ga) d25_0 ?_
  intro T1 W1
  refine w_ifne W1 (pc' := 28) d25_3 (by decide) (fun c3 => ?_) (fun c3 => absurd c3 (by decide))
  refine w_iloadN W1 d25_28 rfl ?_
  refine w_iconst W1 (z := (1 : Int32)) d25_29 (by rfl) ?_
  refine w_ishl W1 d25_30 (own_dbl (by omega)) ?_
  refine w_istoreN W1 (L' := #[.val (.ref b), .val (.int (Int32.ofNat (2 * i)))]) d25_31 rfl ?_
  refine w_aloadN W1 d25_32 rfl rfl ?_
  refine w_iloadN W1 d25_33 rfl ?_
  refine w_iinc W1 (L' := #[.val (.ref b), .val (.int (Int32.ofNat (2 * i + 1)))]) d25_34 rfl (own_one _) rfl ?_
  refine w_baload W1 Cb ⟨own_nn0 (by omega), (own_ltI (by omega) (by omega)).mpr (by omega)⟩ (v := (.int (nar .byte (cs.getD i 0)))) (by rw [own_clamp (by omega), own_getMap _ (by rw [own_u16_len]; omega), own_u16_get (by omega), own_ub0]) d25_37 ?_
  refine w_sipush W1 (z := (255 : Int32)) d25_38 (by rfl) ?_
  refine w_iand W1 d25_41 rfl ?_
  refine w_gets W1 (host := "") (Or.inl (hw _ (List.mem_of_getElem? (i := 108) rfl))) Via.refl (own_staOld O Gh) d25_42 ?_
  intro T2 W2
  refine w_ishl W2 d25_45 rfl ?_
  refine w_aloadN W2 d25_46 rfl rfl ?_
  refine w_iloadN W2 d25_47 rfl ?_
  refine w_baload W2 Cb ⟨own_nn0 (by omega), (own_ltI (by omega) (by omega)).mpr (by omega)⟩ (v := (.int (nar .byte ((cs.getD i 0) >>> ((8 : Int32) &&& 31))))) (by rw [own_clamp (by omega), own_getMap _ (by rw [own_u16_len]; omega), own_u16_get (by omega), own_ub1]) d25_48 ?_
  refine w_sipush W2 (z := (255 : Int32)) d25_49 (by rfl) ?_
  refine w_iand W2 d25_52 rfl ?_
  refine w_gets W2 (host := "") (Or.inl (hw _ (List.mem_of_getElem? (i := 109) rfl))) Via.refl (own_staOld O Gl) d25_53 ?_
  intro T3 W3
  refine w_ishl W3 d25_56 rfl ?_
  refine w_ior W3 d25_57 rfl ?_
  refine w_i2c W3 d25_58 rfl ?_
  exact n_rN W3 rfl (by simp) (z' := (cs.getD i 0)) (own_gc hc0 hc1) d25_59 (by decide) (by decide) ⟨rfl, rfl⟩
theorem ef_10_RII (m : MethodId) (x0 : Addr) (x1 : Int32) (x2 : Int32) : entryFrame m #[(.ref x0), (.int x1), (.int x2)] 6 = mkF m 0 #[.val (.ref x0), .val (.int x1), .val (.int x2), .unset, .unset, .unset] [] := by first | (simp [entryFrame, mkF, argsToLocals, Value.category]; done) | rfl
theorem d10_0 : decode jdk_52_method_16_code 0 = .ok (.iload_n 2, 1) := by decide +kernel
theorem d10_1 : decode jdk_52_method_16_code 1 = .ok (.newarray .byte, 2) := by decide +kernel
theorem d10_3 : decode jdk_52_method_16_code 3 = .ok (.astore_n 3, 1) := by decide +kernel
theorem d10_4 : decode jdk_52_method_16_code 4 = .ok (.aload_n 0, 1) := by decide +kernel
theorem d10_5 : decode jdk_52_method_16_code 5 = .ok (.iload_n 1, 1) := by decide +kernel
theorem d10_6 : decode jdk_52_method_16_code 6 = .ok (.aload_n 3, 1) := by decide +kernel
theorem d10_7 : decode jdk_52_method_16_code 7 = .ok (.iconst 0, 1) := by decide +kernel
theorem d10_8 : decode jdk_52_method_16_code 8 = .ok (.iload_n 2, 1) := by decide +kernel
theorem d10_9 : decode jdk_52_method_16_code 9 = .ok (.invokestatic 115, 3) := by decide +kernel
theorem pd_3 : parseMethodDescriptor "([CI[BII)I" = some ⟨[(.array .char), .int, (.array .byte), .int, .int], some .int⟩ := by decide +kernel
theorem d10_12 : decode jdk_52_method_16_code 12 = .ok (.istore 4, 2) := by decide +kernel
theorem d10_14 : decode jdk_52_method_16_code 14 = .ok (.iload 4, 2) := by decide +kernel
theorem d10_16 : decode jdk_52_method_16_code 16 = .ok (.iload_n 2, 1) := by decide +kernel
theorem d10_17 : decode jdk_52_method_16_code 17 = .ok (.if_icmp .eq 40, 3) := by decide +kernel
theorem d10_57 : decode jdk_52_method_16_code 57 = .ok (.aload_n 3, 1) := by decide +kernel
theorem d10_58 : decode jdk_52_method_16_code 58 = .ok (.areturn, 1) := by decide +kernel
theorem d10_20 : decode jdk_52_method_16_code 20 = .ok (.aload_n 0, 1) := by decide +kernel
theorem d10_21 : decode jdk_52_method_16_code 21 = .ok (.iload_n 1, 1) := by decide +kernel
theorem d10_22 : decode jdk_52_method_16_code 22 = .ok (.iload_n 2, 1) := by decide +kernel
theorem d10_23 : decode jdk_52_method_16_code 23 = .ok (.invokestatic 119, 3) := by decide +kernel
theorem pd_4 : parseMethodDescriptor "([CII)[B" = some ⟨[(.array .char), .int, .int], some (.array .byte)⟩ := by decide +kernel
theorem d10_26 : decode jdk_52_method_16_code 26 = .ok (.astore 5, 2) := by decide +kernel
theorem d10_28 : decode jdk_52_method_16_code 28 = .ok (.aload 5, 2) := by decide +kernel
theorem d10_30 : decode jdk_52_method_16_code 30 = .ok (.iload 4, 2) := by decide +kernel
theorem d10_32 : decode jdk_52_method_16_code 32 = .ok (.invokestatic 71, 3) := by decide +kernel
theorem pd_5 : parseMethodDescriptor "([BI)C" = some ⟨[(.array .byte), .int], some .char⟩ := by decide +kernel
theorem d10_35 : decode jdk_52_method_16_code 35 = .ok (.sipush 255, 3) := by decide +kernel
theorem d10_38 : decode jdk_52_method_16_code 38 = .ok (.if_icmp .gt 16, 3) := by decide +kernel
theorem d10_54 : decode jdk_52_method_16_code 54 = .ok (.aload 5, 2) := by decide +kernel
theorem d10_56 : decode jdk_52_method_16_code 56 = .ok (.areturn, 1) := by decide +kernel
set_option maxRecDepth 65536 in
set_option maxHeartbeats 40000000 in
theorem ctCo (l : Launch) (Z : State) (a0 : Array Value) (hw : ∀ d ∈ tables_1, d.before a0 Z = true) (ca : Addr) (kca : ClassId) (cs : List Int32) (h0 : Heap) (n0 : Nat) (hcs : cs.length ≤ 2) (hch : Chs cs) (O : Old Z n0 h0) (Ga : Sta Z Z.heap "java/lang/StringUTF16" "$assertionsDisabled" "Z" (.int 1)) (Gh : Sta Z Z.heap "java/lang/StringUTF16" "HI_BYTE_SHIFT" "I" (.int 0)) (Gl : Sta Z Z.heap "java/lang/StringUTF16" "LO_BYTE_SHIFT" "I" (.int 8)) (Ca : Arv Z h0 ca kca .char (Int32.ofNat cs.length) (cs.map Value.int) (.int 0)) :
    CtN l Z (⟨"java/lang/StringUTF16", "compress", "([CII)[B"⟩ : MethodName) jdk_52_method_16_code 6 (some (.array .byte)) ({ frames := 3, cells := 2, slots := 6, locals := 40 } : Room) n0 #[(.ref ca), (.int (0 : Int32)), (.int (Int32.ofNat cs.length))] h0 (fun v h => ∃ b kb co us, v = some (.ref b) ∧ Ext h0 h ∧ h0.size ≤ b ∧ Arv Z h b kb .byte (Int32.ofNat us.length) (us.map Value.int) (.int 0) ∧ Enc cs co us) := by
  refine CtN.of (plainFor_of_name pn_java_lang_StringUTF16) ?_
  intro p e s m below meth c T0 W0 hnm
  refine Wp.cast (ef_10_RII m ca (0 : Int32) (Int32.ofNat cs.length)) ?_
  refine w_iloadN W0 d10_0 rfl ?_
  refine w_newarr W0 (ty := .byte) (dv := (.int 0)) (hw _ (List.mem_of_getElem? (i := 20) rfl)) rfl rfl d10_1 (own_nn0 (by omega)) 2 (by rw [own_clamp (by omega)]; exact hcs) (by decide) (by decide) (by decide) ?_
  intro T1 h1 b k1 W1 E1 g1 V1
  have hb0 : n0 ≤ b := by rw [g1]; exact own_oldle O
  have hne : ca ≠ b := own_ltNe Ca.lt (Nat.le_of_eq g1.symm)
  have V' := V1.pad (pad_rep [] (.int 0) cs.length)
  by_cases hlat : ∀ c ∈ cs, ¬ ((255 : Int32) < c)
  · refine w_astoreN W1 (L' := #[.val (.ref ca), .val (.int (0 : Int32)), .val (.int (Int32.ofNat cs.length)), .val (.ref b), .unset, .unset]) d10_3 rfl rfl ?_
    refine w_aloadN W1 d10_4 rfl rfl ?_
    refine w_iloadN W1 d10_5 rfl ?_
    refine w_aloadN W1 d10_6 rfl rfl ?_
    refine w_iconst W1 (z := (0 : Int32)) d10_7 (by rfl) ?_
    refine w_iloadN W1 d10_8 rfl ?_
    refine w_callS W1 (ctCi l Z a0 hw ca b _ _ cs _ n0 (by omega) hlat (Ca.ext E1) V' hne hb0) (hw _ (List.mem_of_getElem? (i := 53) rfl)) (hw _ (List.mem_of_getElem? (i := 54) rfl)) (hw _ (List.mem_of_getElem? (i := 51) rfl)) (hw _ (List.mem_of_getElem? (i := 55) rfl)) (by decide) 0 (by decide) (by decide) (by decide) (by decide) (argsL := [(.ref ca), (.int (0 : Int32)), (.ref b), (.int (0 : Int32)), (.int (Int32.ofNat cs.length))]) (rest := []) pd_3 rfl rfl rfl rfl rfl d10_9 ?_
    rintro T2 h2 l2 _ W2 ⟨rfl, K, V⟩
    refine w_istore W2 (L' := #[.val (.ref ca), .val (.int (0 : Int32)), .val (.int (Int32.ofNat cs.length)), .val (.ref b), .val (.int (Int32.ofNat cs.length)), .unset]) d10_12 rfl ?_
    refine w_iload W2 d10_14 rfl ?_
    refine w_iloadN W2 d10_16 rfl ?_
    refine w_icmpeq W2 (pc' := 57) d10_17 (by decide) (fun c17 => ?_) (fun c17 => ?_)
    · refine w_aloadN W2 d10_57 rfl rfl ?_
      exact n_rA W2 rfl rfl rfl d10_58 (by decide) (by decide) ⟨b, _, 0, cs.map (nar .byte), rfl, own_extKeep E1 K (allS (Nat.le_of_eq g1.symm) all0), Nat.le_of_eq g1.symm, by rw [List.length_map]; exact V, Or.inl ⟨rfl, rfl, hlat⟩⟩
    · exact absurd rfl c17
  · have hX : ∃ c ∈ cs, (255 : Int32) < c := by refine Classical.byContradiction fun q => hlat fun c hc r => q ⟨c, hc, r⟩
    refine w_astoreN W1 (L' := #[.val (.ref ca), .val (.int (0 : Int32)), .val (.int (Int32.ofNat cs.length)), .val (.ref b), .unset, .unset]) d10_3 rfl rfl ?_
    refine w_aloadN W1 d10_4 rfl rfl ?_
    refine w_iloadN W1 d10_5 rfl ?_
    refine w_aloadN W1 d10_6 rfl rfl ?_
    refine w_iconst W1 (z := (0 : Int32)) d10_7 (by rfl) ?_
    refine w_iloadN W1 d10_8 rfl ?_
    refine w_callS W1 (ctCiX l Z a0 hw ca b _ _ cs _ n0 (by omega) hX (Ca.ext E1) V' hne hb0) (hw _ (List.mem_of_getElem? (i := 53) rfl)) (hw _ (List.mem_of_getElem? (i := 54) rfl)) (hw _ (List.mem_of_getElem? (i := 51) rfl)) (hw _ (List.mem_of_getElem? (i := 55) rfl)) (by decide) 0 (by decide) (by decide) (by decide) (by decide) (argsL := [(.ref ca), (.int (0 : Int32)), (.ref b), (.int (0 : Int32)), (.int (Int32.ofNat cs.length))]) (rest := []) pd_3 rfl rfl rfl rfl rfl d10_9 ?_
    rintro T3 h3 l3 _ W3 ⟨k, hk, hk2, rfl, K⟩
    have EK := own_extKeep E1 K (allS (Nat.le_of_eq g1.symm) all0)
    refine w_istore W3 (L' := #[.val (.ref ca), .val (.int (0 : Int32)), .val (.int (Int32.ofNat cs.length)), .val (.ref b), .val (.int (Int32.ofNat k)), .unset]) d10_12 rfl ?_
    refine w_iload W3 d10_14 rfl ?_
    refine w_iloadN W3 d10_16 rfl ?_
    refine w_icmpeq W3 (pc' := 57) d10_17 (by decide) (fun c17 => ?_) (fun c17 => ?_)
    · exact absurd ((own_eqI (by omega) (by omega)).mp c17) (by omega)
    · refine w_aloadN W3 d10_20 rfl rfl ?_
      refine w_iloadN W3 d10_21 rfl ?_
      refine w_iloadN W3 d10_22 rfl ?_
      refine w_callS W3 (ctTb l Z a0 hw ca _ cs _ n0 hcs (O.ext EK) Ga Gh Gl (Ca.ext EK)) (hw _ (List.mem_of_getElem? (i := 94) rfl)) (hw _ (List.mem_of_getElem? (i := 95) rfl)) (hw _ (List.mem_of_getElem? (i := 51) rfl)) (hw _ (List.mem_of_getElem? (i := 96) rfl)) (by decide) 0 (by decide) (by decide) (by decide) (by decide) (argsL := [(.ref ca), (.int (0 : Int32)), (.int (Int32.ofNat cs.length))]) (rest := []) pd_4 rfl rfl rfl rfl rfl d10_23 ?_
      rintro T4 h4 l4 _ W4 ⟨tb, tk, rfl, E2, htb, VT⟩
      refine w_astore W4 (L' := #[.val (.ref ca), .val (.int (0 : Int32)), .val (.int (Int32.ofNat cs.length)), .val (.ref b), .val (.int (Int32.ofNat k)), .val (.ref tb)]) d10_26 rfl rfl ?_
      refine w_aload W4 d10_28 rfl rfl ?_
      refine w_iload W4 d10_30 rfl ?_
      refine w_callS W4 (ctGc l Z a0 hw tb _ cs k _ n0 (by omega) hk hch (O.ext (own_extTrans EK E2)) Ga Gh Gl VT) (hw _ (List.mem_of_getElem? (i := 110) rfl)) (hw _ (List.mem_of_getElem? (i := 111) rfl)) (hw _ (List.mem_of_getElem? (i := 51) rfl)) (hw _ (List.mem_of_getElem? (i := 112) rfl)) (by decide) 0 (by decide) (by decide) (by decide) (by decide) (argsL := [(.ref tb), (.int (Int32.ofNat k))]) (rest := []) pd_5 rfl rfl rfl rfl rfl d10_32 ?_
      rintro T5 h5 l5 _ W5 ⟨rfl, rfl⟩
      refine w_sipush W5 (z := (255 : Int32)) d10_35 (by rfl) ?_
      refine w_icmpgt W5 (pc' := 54) d10_38 (by decide) (fun c38 => ?_) (fun c38 => ?_)
      · refine w_aload W5 d10_54 rfl rfl ?_
        exact n_rA W5 rfl rfl rfl d10_56 (by decide) (by decide) ⟨tb, _, 1, own_u16 cs, rfl, own_extTrans EK E2, Nat.le_trans EK.1 htb, by rw [own_u16_len]; exact VT, Or.inr ⟨rfl, rfl, by omega⟩⟩
      · exact absurd hk2 c38
theorem ef_12_RI (m : MethodId) (x0 : Addr) (x1 : Int32) : entryFrame m #[(.ref x0), (.int x1)] 2 = mkF m 0 #[.val (.ref x0), .val (.int x1)] [] := by first | (simp [entryFrame, mkF, argsToLocals, Value.category]; done) | rfl
theorem d12_0 : decode jdk_52_method_15_code 0 = .ok (.iload_n 1, 1) := by decide +kernel
theorem d12_1 : decode jdk_52_method_15_code 1 = .ok (.aload_n 0, 1) := by decide +kernel
theorem d12_2 : decode jdk_52_method_15_code 2 = .ok (.arraylength, 1) := by decide +kernel
theorem d12_3 : decode jdk_52_method_15_code 3 = .ok (.isub, 1) := by decide +kernel
theorem d12_4 : decode jdk_52_method_15_code 4 = .ok (.bipush 31, 2) := by decide +kernel
theorem d12_6 : decode jdk_52_method_15_code 6 = .ok (.iushr, 1) := by decide +kernel
theorem d12_7 : decode jdk_52_method_15_code 7 = .ok (.i2b, 1) := by decide +kernel
theorem d12_8 : decode jdk_52_method_15_code 8 = .ok (.ireturn, 1) := by decide +kernel
set_option maxRecDepth 65536 in
set_option maxHeartbeats 40000000 in
theorem ctCf (l : Launch) (Z : State) (a0 : Array Value) (hw : ∀ d ∈ tables_1, d.before a0 Z = true) (b : Addr) (kb : ClassId) (cs us : List Int32) (co : Int32) (h0 : Heap) (n0 : Nat) (hcs : cs.length ≤ 4000) (hE : Enc cs co us) (Cb : Arv Z h0 b kb .byte (Int32.ofNat us.length) (us.map Value.int) (.int 0)) :
    CtN l Z (⟨"java/lang/StringUTF16", "coderFromArrayLen", "([BI)B"⟩ : MethodName) jdk_52_method_15_code 2 (some .byte) ({ frames := 0, cells := 0, slots := 0, locals := 0 } : Room) n0 #[(.ref b), (.int (Int32.ofNat cs.length))] h0 (fun v h => v = some (.int co) ∧ h0 = h) := by
  refine CtN.of (plainFor_of_name pn_java_lang_StringUTF16) ?_
  intro p e s m below meth c T0 W0 hnm
  refine Wp.cast (ef_12_RI m b (Int32.ofNat cs.length)) ?_
  refine w_iloadN W0 d12_0 rfl ?_
  refine w_aloadN W0 d12_1 rfl rfl ?_
  refine w_arrlen W0 Cb d12_2 ?_
  refine w_isub W0 d12_3 rfl ?_
  refine w_bipush W0 (z := (31 : Int32)) d12_4 (by rfl) ?_
  refine w_iushr W0 d12_6 rfl ?_
  refine w_i2b W0 d12_7 rfl ?_
  exact n_rN W0 rfl (by simp) (z' := co) (own_encCoder hcs hE) d12_8 (by decide) (by decide) ⟨rfl, rfl⟩
theorem ef_3_RRIIn (m : MethodId) (x0 : Addr) (x1 : Addr) (x2 : Int32) (x3 : Int32) : entryFrame m #[(.ref x0), (.ref x1), (.int x2), (.int x3), .null] 6 = mkF m 0 #[.val (.ref x0), .val (.ref x1), .val (.int x2), .val (.int x3), .val .null, .unset] [] := by first | (simp [entryFrame, mkF, argsToLocals, Value.category]; done) | rfl
theorem d3_0 : decode jdk_42_method_149_code 0 = .ok (.aload_n 0, 1) := by decide +kernel
theorem d3_1 : decode jdk_42_method_149_code 1 = .ok (.invokespecial 1, 3) := by decide +kernel
theorem d3_4 : decode jdk_42_method_149_code 4 = .ok (.iload_n 3, 1) := by decide +kernel
theorem d3_5 : decode jdk_42_method_149_code 5 = .ok (.ifCond .ne 22, 3) := by decide +kernel
theorem d3_27 : decode jdk_42_method_149_code 27 = .ok (.getstatic 38, 3) := by decide +kernel
theorem d3_30 : decode jdk_42_method_149_code 30 = .ok (.ifCond .eq 28, 3) := by decide +kernel
theorem d3_33 : decode jdk_42_method_149_code 33 = .ok (.aload_n 1, 1) := by decide +kernel
theorem d3_34 : decode jdk_42_method_149_code 34 = .ok (.iload_n 2, 1) := by decide +kernel
theorem d3_35 : decode jdk_42_method_149_code 35 = .ok (.iload_n 3, 1) := by decide +kernel
theorem d3_36 : decode jdk_42_method_149_code 36 = .ok (.invokestatic 177, 3) := by decide +kernel
theorem d3_39 : decode jdk_42_method_149_code 39 = .ok (.astore 5, 2) := by decide +kernel
theorem d3_41 : decode jdk_42_method_149_code 41 = .ok (.aload_n 0, 1) := by decide +kernel
theorem d3_42 : decode jdk_42_method_149_code 42 = .ok (.aload 5, 2) := by decide +kernel
theorem d3_44 : decode jdk_42_method_149_code 44 = .ok (.iload_n 3, 1) := by decide +kernel
theorem d3_45 : decode jdk_42_method_149_code 45 = .ok (.invokestatic 47, 3) := by decide +kernel
theorem pd_6 : parseMethodDescriptor "([BI)B" = some ⟨[(.array .byte), .int], some .byte⟩ := by decide +kernel
theorem d3_48 : decode jdk_42_method_149_code 48 = .ok (.putfield 15, 3) := by decide +kernel
theorem d3_51 : decode jdk_42_method_149_code 51 = .ok (.aload_n 0, 1) := by decide +kernel
theorem d3_52 : decode jdk_42_method_149_code 52 = .ok (.aload 5, 2) := by decide +kernel
theorem d3_54 : decode jdk_42_method_149_code 54 = .ok (.putfield 9, 3) := by decide +kernel
theorem d3_57 : decode jdk_42_method_149_code 57 = .ok (.return_, 1) := by decide +kernel
theorem d3_8 : decode jdk_42_method_149_code 8 = .ok (.aload_n 0, 1) := by decide +kernel
theorem d3_11 : decode jdk_42_method_149_code 11 = .ok (.getfield 9, 3) := by decide +kernel
theorem d3_14 : decode jdk_42_method_149_code 14 = .ok (.putfield 9, 3) := by decide +kernel
theorem d3_17 : decode jdk_42_method_149_code 17 = .ok (.aload_n 0, 1) := by decide +kernel
theorem d3_18 : decode jdk_42_method_149_code 18 = .ok (.ldc 7, 2) := by decide +kernel
theorem d3_20 : decode jdk_42_method_149_code 20 = .ok (.getfield 15, 3) := by decide +kernel
theorem d3_23 : decode jdk_42_method_149_code 23 = .ok (.putfield 15, 3) := by decide +kernel
theorem d3_26 : decode jdk_42_method_149_code 26 = .ok (.return_, 1) := by decide +kernel
theorem d3_9 : decode jdk_42_method_149_code 9 = .ok (.ldc 7, 2) := by decide +kernel
theorem pn_java_lang_String : plainName "java/lang/String" = true := by first | (simp [plainName, overriddenIn]; done) | decide +kernel
set_option maxRecDepth 65536 in
set_option maxHeartbeats 40000000 in
theorem ctS4 (l : Launch) (Z : State) (a0 : Array Value) (hw : ∀ d ∈ tables_1, d.before a0 Z = true) (cz : Int32) (x ca : Addr) (kca : ClassId) (cs : List Int32) (h0 : Heap) (n0 : Nat) (hCH : Jvm.Lit.constHeld Z "java/lang/String" 7) (hcs : cs.length ≤ 2) (hch : Chs cs) (O : Old Z n0 h0) (G : Sta Z Z.heap "java/lang/String" "COMPACT_STRINGS" "Z" (.int cz)) (hcz : cz ≠ 0) (Ga : Sta Z Z.heap "java/lang/StringUTF16" "$assertionsDisabled" "Z" (.int 1)) (Gh : Sta Z Z.heap "java/lang/StringUTF16" "HI_BYTE_SHIFT" "I" (.int 0)) (Gl : Sta Z Z.heap "java/lang/StringUTF16" "LO_BYTE_SHIFT" "I" (.int 8)) (Ex : Exa Z h0 x "java/lang/String") (Fv : Fld Z h0 x "java/lang/String" "value" "[B" .null) (Fc : Fld Z h0 x "java/lang/String" "coder" "B" (.int 0)) (hnx : n0 ≤ x) (Ca : Arv Z h0 ca kca .char (Int32.ofNat cs.length) (cs.map Value.int) (.int 0)) :
    CtW l Z (⟨"java/lang/String", "<init>", "([CIILjava/lang/Void;)V"⟩ : MethodName) jdk_42_method_149_code 6 none ({ frames := 4, cells := 2, slots := 6, locals := 57 } : Room) n0 #[(.ref x), (.ref ca), (.int (0 : Int32)), (.int (Int32.ofNat cs.length)), .null] h0 (fun vm => St Z vm h0) (fun v h vm => v = none ∧ Keep h0 h [x] ∧ (∃ co us, Str Z h x co us ∧ Enc cs co us) ∧ St Z vm h) := by
  refine CtW.of (plainFor_of_name pn_java_lang_String) ?_
  intro p e s m below meth c T0 W0 hnm hs0 hV
  refine Wp.cast (ef_3_RRIIn m x ca (0 : Int32) (Int32.ofNat cs.length)) ?_
  have hV2 : St Z s.vm h0 := hV
  refine w_aloadN W0 d3_0 rfl rfl ?_
  refine w_initO W0 (hw _ (List.mem_of_getElem? (i := 16) rfl)) (hw _ (List.mem_of_getElem? (i := 17) rfl)) (hw _ (List.mem_of_getElem? (i := 18) rfl)) 0 rfl rfl (by decide) (by decide) d3_1 ?_
  intro T1 W1
  refine w_iloadN W1 d3_4 rfl ?_
  refine w_ifne W1 (pc' := 27) d3_5 (by decide) (fun c5 => ?_) (fun c5 => ?_)
  · refine w_gets W1 (host := "") (Or.inl (hw _ (List.mem_of_getElem? (i := 44) rfl))) Via.refl (own_staOld O G) d3_27 ?_
    intro T2 W2
    refine w_ifeq W2 (pc' := 58) d3_30 (by decide) (fun c30 => ?_) (fun c30 => ?_)
    · exact absurd c30 hcz
    · refine w_aloadN W2 d3_33 rfl rfl ?_
      refine w_iloadN W2 d3_34 rfl ?_
      refine w_iloadN W2 d3_35 rfl ?_
      refine w_callS W2 (ctCo l Z a0 hw ca _ cs _ n0 hcs hch O Ga Gh Gl Ca) (hw _ (List.mem_of_getElem? (i := 49) rfl)) (hw _ (List.mem_of_getElem? (i := 50) rfl)) (hw _ (List.mem_of_getElem? (i := 51) rfl)) (hw _ (List.mem_of_getElem? (i := 52) rfl)) (by decide) 0 (by decide) (by decide) (by decide) (by decide) (argsL := [(.ref ca), (.int (0 : Int32)), (.int (Int32.ofNat cs.length))]) (rest := []) pd_4 rfl rfl rfl rfl rfl d3_36 ?_
      rintro T3 h3 l3 _ W3 ⟨b, kb, co, us, rfl, E, hb, V, hE⟩
      refine w_astore W3 (L' := #[.val (.ref x), .val (.ref ca), .val (.int (0 : Int32)), .val (.int (Int32.ofNat cs.length)), .val .null, .val (.ref b)]) d3_39 rfl rfl ?_
      refine w_aloadN W3 d3_41 rfl rfl ?_
      refine w_aload W3 d3_42 rfl rfl ?_
      refine w_iloadN W3 d3_44 rfl ?_
      refine w_callS W3 (ctCf l Z a0 hw b _ cs us co _ n0 (by omega) hE V) (hw _ (List.mem_of_getElem? (i := 56) rfl)) (hw _ (List.mem_of_getElem? (i := 57) rfl)) (hw _ (List.mem_of_getElem? (i := 51) rfl)) (hw _ (List.mem_of_getElem? (i := 58) rfl)) (by decide) 1 (by decide) (by decide) (by decide) (by decide) (argsL := [(.ref b), (.int (Int32.ofNat cs.length))]) (rest := [(.ref x)]) pd_6 rfl rfl rfl rfl rfl d3_45 ?_
      rintro T4 h4 l4 _ W4 ⟨rfl, rfl⟩
      rcases own_encCo hE with rfl | rfl
      · refine w_putf W4 (hw _ (List.mem_of_getElem? (i := 26) rfl)) Via.refl (Fc.ext E) (Ex.ext E) (Or.inr ⟨(hw _ (List.mem_of_getElem? (i := 22) rfl)), rfl, hnm⟩) (hw _ (List.mem_of_getElem? (i := 6) rfl)) (ty := .byte) (v' := (.int (0 : Int32))) (by decide) (by rfl) (by decide) hnx d3_48 ?_
        intro T5 h5 l5 W5 Wr5
        refine w_aloadN W5 d3_51 rfl rfl ?_
        refine w_aload W5 d3_52 rfl rfl ?_
        have Fv1 : Fld Z h5 x "java/lang/String" "value" "[B" .null := (Fv.ext E).other Wr5 (Or.inr (slot_ne (Or.inr (hw _ (List.mem_of_getElem? (i := 21) rfl))) (Or.inr (hw _ (List.mem_of_getElem? (i := 22) rfl))) (by decide) (t := (.array .byte)) (t' := .byte) (by decide) (by decide)))
        have Fc1 := (Fc.ext E).same Wr5
        have hxb : x < b := Nat.lt_of_lt_of_le Ex.lt hb
        have V1 := V.other Wr5 (Nat.ne_of_gt hxb)
        refine w_putf W5 (hw _ (List.mem_of_getElem? (i := 25) rfl)) Via.refl Fv1 ((Ex.ext E).wr Wr5) (Or.inr ⟨(hw _ (List.mem_of_getElem? (i := 21) rfl)), rfl, hnm⟩) (hw _ (List.mem_of_getElem? (i := 6) rfl)) (ty := (.array .byte)) (v' := (.ref b)) (by decide) (by rfl) (rfl) hnx d3_54 ?_
        intro T6 h6 l6 W6 Wr6
        have Kx : Keep h0 h6 [x] := ((own_keepOf E).wr Wr5 (Or.inl (List.mem_cons_self ..))).wr Wr6 (Or.inl (List.mem_cons_self ..))
        have Sx : Str Z h6 x (0 : Int32) us := ⟨b, kb, (((Ex.ext E).wr Wr5).wr Wr6), Fc1.other Wr6 (Or.inr (slot_ne (Or.inr (hw _ (List.mem_of_getElem? (i := 22) rfl))) (Or.inr (hw _ (List.mem_of_getElem? (i := 21) rfl))) (by decide) (t := .byte) (t' := (.array .byte)) (by decide) (by decide))), Fv1.same Wr6, V1.other Wr6 (Nat.ne_of_gt hxb)⟩
        exact x_rV W6 rfl d3_57 (by decide) (by decide) (fun vm' hvm' => ⟨rfl, Kx, ⟨_, us, Sx, hE⟩, St.keep (St.warm hV2 hvm') Kx (hw _ (List.mem_of_getElem? (i := 6) rfl)) Ex Fv⟩)
      · refine w_putf W4 (hw _ (List.mem_of_getElem? (i := 26) rfl)) Via.refl (Fc.ext E) (Ex.ext E) (Or.inr ⟨(hw _ (List.mem_of_getElem? (i := 22) rfl)), rfl, hnm⟩) (hw _ (List.mem_of_getElem? (i := 6) rfl)) (ty := .byte) (v' := (.int (1 : Int32))) (by decide) (by rfl) (by decide) hnx d3_48 ?_
        intro T7 h7 l7 W7 Wr7
        refine w_aloadN W7 d3_51 rfl rfl ?_
        refine w_aload W7 d3_52 rfl rfl ?_
        have Fv1 : Fld Z h7 x "java/lang/String" "value" "[B" .null := (Fv.ext E).other Wr7 (Or.inr (slot_ne (Or.inr (hw _ (List.mem_of_getElem? (i := 21) rfl))) (Or.inr (hw _ (List.mem_of_getElem? (i := 22) rfl))) (by decide) (t := (.array .byte)) (t' := .byte) (by decide) (by decide)))
        have Fc1 := (Fc.ext E).same Wr7
        have hxb : x < b := Nat.lt_of_lt_of_le Ex.lt hb
        have V1 := V.other Wr7 (Nat.ne_of_gt hxb)
        refine w_putf W7 (hw _ (List.mem_of_getElem? (i := 25) rfl)) Via.refl Fv1 ((Ex.ext E).wr Wr7) (Or.inr ⟨(hw _ (List.mem_of_getElem? (i := 21) rfl)), rfl, hnm⟩) (hw _ (List.mem_of_getElem? (i := 6) rfl)) (ty := (.array .byte)) (v' := (.ref b)) (by decide) (by rfl) (rfl) hnx d3_54 ?_
        intro T8 h8 l8 W8 Wr8
        have Kx : Keep h0 h8 [x] := ((own_keepOf E).wr Wr7 (Or.inl (List.mem_cons_self ..))).wr Wr8 (Or.inl (List.mem_cons_self ..))
        have Sx : Str Z h8 x (1 : Int32) us := ⟨b, kb, (((Ex.ext E).wr Wr7).wr Wr8), Fc1.other Wr8 (Or.inr (slot_ne (Or.inr (hw _ (List.mem_of_getElem? (i := 22) rfl))) (Or.inr (hw _ (List.mem_of_getElem? (i := 21) rfl))) (by decide) (t := .byte) (t' := (.array .byte)) (by decide) (by decide))), Fv1.same Wr8, V1.other Wr8 (Nat.ne_of_gt hxb)⟩
        exact x_rV W8 rfl d3_57 (by decide) (by decide) (fun vm' hvm' => ⟨rfl, Kx, ⟨_, us, Sx, hE⟩, St.keep (St.warm hV2 hvm') Kx (hw _ (List.mem_of_getElem? (i := 6) rfl)) Ex Fv⟩)
  · have hcs0 : cs = [] := List.eq_nil_of_length_eq_zero ((own_eqI (j := 0) (by omega) (by omega)).mp c5)
    refine w_aloadN W1 d3_8 rfl rfl ?_
    have J : ∀ (T : State) (h : Heap) (vm : Vm) (locs : List Loc) (W : Wk p l e ({ frames := 4, cells := 2, slots := 6, locals := 57 } : Room) s vm m #[(.ref x), (.ref ca), (.int (0 : Int32)), (.int (Int32.ofNat cs.length)), .null] below meth c Z "java/lang/String" n0 jdk_42_method_149_code 6 none T h locs 2 4) (E : Ext h0 h) (la lb : Addr) (lk : ClassId) (Lt : Lit (s.setVm vm) "java/lang/String" 7 la) (Ea : Exa Z h la "java/lang/String") (Fca : Fld Z h la "java/lang/String" "coder" "B" (.int 0)) (Fva : Fld Z h la "java/lang/String" "value" "[B" (.ref lb)) (Ar : Arv Z h lb lk .byte (0 : Int32) [] (.int 0)), Wp p e below (PoW n0 s 2 6 (fun v h vm => v = none ∧ Keep h0 h [x] ∧ (∃ co us, Str Z h x co us ∧ Enc cs co us) ∧ St Z vm h)) T (mkF m 11 #[.val (.ref x), .val (.ref ca), .val (.int (0 : Int32)), .val (.int (Int32.ofNat cs.length)), .val .null, .unset] [(.ref la), (.ref x)]) := by
      intro T h vm locs W E la lb lk Lt Ea Fca Fva Ar
      have nx1 : la ≠ x := Fld.ne Fva (Fv.ext E) (fun r => by cases r)
      have nx2 : lb ≠ x := (Exa.neArv (Ex.ext E) Ar (hw _ (List.mem_of_getElem? (i := 6) rfl))).symm
      refine w_getf W (host := "") (Or.inl (hw _ (List.mem_of_getElem? (i := 25) rfl))) Via.refl Fva d3_11 ?_
      intro T9 W9
      refine w_putf W9 (hw _ (List.mem_of_getElem? (i := 25) rfl)) Via.refl (Fv.ext E) (Ex.ext E) (Or.inr ⟨(hw _ (List.mem_of_getElem? (i := 21) rfl)), rfl, hnm⟩) (hw _ (List.mem_of_getElem? (i := 6) rfl)) (ty := (.array .byte)) (v' := (.ref lb)) (by decide) (by rfl) (rfl) hnx d3_14 ?_
      intro T10 h10 l10 W10 Wr10
      refine w_aloadN W10 d3_17 rfl rfl ?_
      refine w_ldcAgain W10 (hw _ (List.mem_of_getElem? (i := 19) rfl)) Lt d3_18 ?_
      refine w_getf W10 (host := "") (Or.inl (hw _ (List.mem_of_getElem? (i := 26) rfl))) Via.refl (Fca.other Wr10 (Or.inl nx1)) d3_20 ?_
      intro T11 W11
      have Fc1 := (Fc.ext E).other Wr10 (Or.inr (slot_ne (Or.inr (hw _ (List.mem_of_getElem? (i := 22) rfl))) (Or.inr (hw _ (List.mem_of_getElem? (i := 21) rfl))) (by decide) (t := .byte) (t' := (.array .byte)) (by decide) (by decide)))
      have Fv1 := (Fv.ext E).same Wr10
      refine w_putf W11 (hw _ (List.mem_of_getElem? (i := 26) rfl)) Via.refl Fc1 ((Ex.ext E).wr Wr10) (Or.inr ⟨(hw _ (List.mem_of_getElem? (i := 22) rfl)), rfl, hnm⟩) (hw _ (List.mem_of_getElem? (i := 6) rfl)) (ty := .byte) (v' := (.int (0 : Int32))) (by decide) (by rfl) (by decide) hnx d3_23 ?_
      intro T12 h12 l12 W12 Wr12
      have Kx : Keep h0 h12 [x] := ((own_keepOf E).wr Wr10 (Or.inl (List.mem_cons_self ..))).wr Wr12 (Or.inl (List.mem_cons_self ..))
      have Ea3 := (Ea.wr Wr10).wr Wr12
      have Fca3 := (Fca.other Wr10 (Or.inl nx1)).other Wr12 (Or.inl nx1)
      have Fva3 := (Fva.other Wr10 (Or.inl nx1)).other Wr12 (Or.inl nx1)
      have Ar3 := (Ar.other Wr10 nx2).other Wr12 nx2
      have Sx : Str Z h12 x 0 (cs.map (nar .byte)) := by rw [hcs0]; exact ⟨lb, lk, ((Ex.ext E).wr Wr10).wr Wr12, Fc1.same Wr12, Fv1.other Wr12 (Or.inr (slot_ne (Or.inr (hw _ (List.mem_of_getElem? (i := 21) rfl))) (Or.inr (hw _ (List.mem_of_getElem? (i := 22) rfl))) (by decide) (t := (.array .byte)) (t' := .byte) (by decide) (by decide))), Ar3⟩
      exact x_rV W12 rfl d3_26 (by decide) (by decide) (fun vm' hvm' => ⟨rfl, Kx, ⟨_, _, Sx, Or.inl ⟨rfl, rfl, by rw [hcs0]; intro c hc; cases hc⟩⟩, Or.inl ⟨la, lb, lk, Lit.stays (s := s) Lt hvm'.wide, Ea3, Fca3, Fva3, Ar3⟩⟩)
    rcases hV with ⟨la, lb, lk, Lt, Ea, Fca, Fva, Ar⟩ | ⟨Ts, I, hnot⟩
    · refine w_ldcAgain W1 (hw _ (List.mem_of_getElem? (i := 19) rfl)) Lt d3_9 ?_
      exact J _ _ _ _ (Wk.mono W1 (by decide) (by decide)) (own_extRefl _) la lb lk Lt Ea Fca Fva Ar
    · refine w_ldcSV W1 (hw _ (List.mem_of_getElem? (i := 19) rfl)) (own_wS hw) (Fr.nil _) (by rw [hs0]; exact O.2.2) I hnot hCH (own_cw G hcz) (vs := []) (z := 0) ⟨by simp, rfl⟩ (by decide) (by decide) 0 (by decide) (by decide) (by decide) (by decide) d3_9 ?_
      intro T1 h1 vm1 la lb lk W1 E1 Ea Fca Fva Ar I1 Lt
      exact J _ _ _ _ W1 E1 la lb lk Lt Ea Fca Fva Ar
theorem ef_2_RR (m : MethodId) (x0 : Addr) (x1 : Addr) : entryFrame m #[(.ref x0), (.ref x1)] 2 = mkF m 0 #[.val (.ref x0), .val (.ref x1)] [] := by first | (simp [entryFrame, mkF, argsToLocals, Value.category]; done) | rfl
theorem d2_0 : decode jdk_42_method_3_code 0 = .ok (.aload_n 0, 1) := by decide +kernel
theorem d2_1 : decode jdk_42_method_3_code 1 = .ok (.aload_n 1, 1) := by decide +kernel
theorem d2_2 : decode jdk_42_method_3_code 2 = .ok (.iconst 0, 1) := by decide +kernel
theorem d2_3 : decode jdk_42_method_3_code 3 = .ok (.aload_n 1, 1) := by decide +kernel
theorem d2_4 : decode jdk_42_method_3_code 4 = .ok (.arraylength, 1) := by decide +kernel
theorem d2_5 : decode jdk_42_method_3_code 5 = .ok (.aconst_null, 1) := by decide +kernel
theorem d2_6 : decode jdk_42_method_3_code 6 = .ok (.invokespecial 27, 3) := by decide +kernel
theorem pd_7 : parseMethodDescriptor "([CIILjava/lang/Void;)V" = some ⟨[(.array .char), .int, .int, (.object "java/lang/Void")], none⟩ := by decide +kernel
theorem d2_9 : decode jdk_42_method_3_code 9 = .ok (.return_, 1) := by decide +kernel
set_option maxRecDepth 65536 in
set_option maxHeartbeats 40000000 in
theorem ctS1 (l : Launch) (Z : State) (a0 : Array Value) (hw : ∀ d ∈ tables_1, d.before a0 Z = true) (cz : Int32) (x ca : Addr) (kca : ClassId) (cs : List Int32) (h0 : Heap) (n0 : Nat) (hCH : Jvm.Lit.constHeld Z "java/lang/String" 7) (hcs : cs.length ≤ 2) (hch : Chs cs) (O : Old Z n0 h0) (G : Sta Z Z.heap "java/lang/String" "COMPACT_STRINGS" "Z" (.int cz)) (hcz : cz ≠ 0) (Ga : Sta Z Z.heap "java/lang/StringUTF16" "$assertionsDisabled" "Z" (.int 1)) (Gh : Sta Z Z.heap "java/lang/StringUTF16" "HI_BYTE_SHIFT" "I" (.int 0)) (Gl : Sta Z Z.heap "java/lang/StringUTF16" "LO_BYTE_SHIFT" "I" (.int 8)) (Ex : Exa Z h0 x "java/lang/String") (Fv : Fld Z h0 x "java/lang/String" "value" "[B" .null) (Fc : Fld Z h0 x "java/lang/String" "coder" "B" (.int 0)) (hnx : n0 ≤ x) (Ca : Arv Z h0 ca kca .char (Int32.ofNat cs.length) (cs.map Value.int) (.int 0)) :
    CtW l Z (⟨"java/lang/String", "<init>", "([C)V"⟩ : MethodName) jdk_42_method_3_code 2 none ({ frames := 5, cells := 2, slots := 6, locals := 74 } : Room) n0 #[(.ref x), (.ref ca)] h0 (fun vm => St Z vm h0) (fun v h vm => v = none ∧ Keep h0 h [x] ∧ (∃ co us, Str Z h x co us ∧ Enc cs co us) ∧ St Z vm h) := by
  refine CtW.of (plainFor_of_name pn_java_lang_String) ?_
  intro p e s m below meth c T0 W0 hnm hs0 hV
  refine Wp.cast (ef_2_RR m x ca) ?_
  refine w_aloadN W0 d2_0 rfl rfl ?_
  refine w_aloadN W0 d2_1 rfl rfl ?_
  refine w_iconst W0 (z := (0 : Int32)) d2_2 (by rfl) ?_
  refine w_aloadN W0 d2_3 rfl rfl ?_
  refine w_arrlen W0 Ca d2_4 ?_
  refine w_aconstNull W0 d2_5 ?_
  refine w_specialW W0 (ctS4 l Z a0 hw cz x ca _ cs _ n0 hCH hcs hch O G hcz Ga Gh Gl Ex Fv Fc hnx Ca) (fun vm' q => St.warm hV q) rfl (hw _ (List.mem_of_getElem? (i := 12) rfl)) (hw _ (List.mem_of_getElem? (i := 13) rfl)) (hw _ (List.mem_of_getElem? (i := 7) rfl)) (hw _ (List.mem_of_getElem? (i := 15) rfl)) (by decide) 0 (by decide) (by decide) (by decide) (by decide) (a := x) (argsL := [(.ref ca), (.int (0 : Int32)), (.int (Int32.ofNat cs.length)), .null]) (rest := []) pd_7 rfl rfl rfl rfl rfl d2_6 ?_
  rintro T1 h1 l1 vm1 _ W1 hw1 ⟨rfl, Kx, Sx, St1⟩
  exact x_rV W1 rfl d2_9 (by decide) (by decide) (fun vm' hvm' => ⟨rfl, Kx, Sx, St.warm St1 hvm'⟩)
theorem ef_16_R (m : MethodId) (x0 : Addr) : entryFrame m #[(.ref x0)] 1 = mkF m 0 #[.val (.ref x0)] [] := by first | (simp [entryFrame, mkF, argsToLocals, Value.category]; done) | rfl
theorem d16_0 : decode jdk_42_method_154_code 0 = .ok (.getstatic 38, 3) := by decide +kernel
theorem d16_3 : decode jdk_42_method_154_code 3 = .ok (.ifCond .eq 14, 3) := by decide +kernel
theorem d16_6 : decode jdk_42_method_154_code 6 = .ok (.aload_n 0, 1) := by decide +kernel
theorem d16_7 : decode jdk_42_method_154_code 7 = .ok (.getfield 15, 3) := by decide +kernel
theorem d16_10 : decode jdk_42_method_154_code 10 = .ok (.ifCond .ne 7, 3) := by decide +kernel
theorem d16_17 : decode jdk_42_method_154_code 17 = .ok (.iconst 0, 1) := by decide +kernel
theorem d16_18 : decode jdk_42_method_154_code 18 = .ok (.ireturn, 1) := by decide +kernel
theorem d16_13 : decode jdk_42_method_154_code 13 = .ok (.iconst 1, 1) := by decide +kernel
theorem d16_14 : decode jdk_42_method_154_code 14 = .ok (.goto 4, 3) := by decide +kernel
set_option maxRecDepth 65536 in
set_option maxHeartbeats 40000000 in
theorem ctIl (l : Launch) (Z : State) (a0 : Array Value) (hw : ∀ d ∈ tables_1, d.before a0 Z = true) (cz : Int32) (x : Addr) (cs us : List Int32) (co : Int32) (h0 : Heap) (n0 : Nat) (O : Old Z n0 h0) (G : Sta Z Z.heap "java/lang/String" "COMPACT_STRINGS" "Z" (.int cz)) (hcz : cz ≠ 0) (hcs : cs.length ≤ 4000) (hE : Enc cs co us) (S : Str Z h0 x co us) :
    CtN l Z (⟨"java/lang/String", "isLatin1", "()Z"⟩ : MethodName) jdk_42_method_154_code 1 (some .boolean) ({ frames := 0, cells := 0, slots := 0, locals := 0 } : Room) n0 #[(.ref x)] h0 (fun v h => v = some (.int (if co = 0 then (1 : Int32) else 0)) ∧ h0 = h) := by
  refine CtN.of (plainFor_of_name pn_java_lang_String) ?_
  intro p e s m below meth c T0 W0 hnm
  refine Wp.cast (ef_16_R m x) ?_
  obtain ⟨b, kb, Ex, Cf, Vf, Ar⟩ := id S
  refine w_gets W0 (host := "") (Or.inl (hw _ (List.mem_of_getElem? (i := 44) rfl))) Via.refl (own_staOld O G) d16_0 ?_
  intro T1 W1
  refine w_ifeq W1 (pc' := 17) d16_3 (by decide) (fun c3 => ?_) (fun c3 => ?_)
  · exact absurd c3 hcz
  · refine w_aloadN W1 d16_6 rfl rfl ?_
    refine w_getf W1 (host := "") (Or.inl (hw _ (List.mem_of_getElem? (i := 26) rfl))) Via.refl Cf d16_7 ?_
    intro T2 W2
    refine w_ifne W2 (pc' := 17) d16_10 (by decide) (fun c10 => ?_) (fun c10 => ?_)
    · refine w_iconst W2 (z := (0 : Int32)) d16_17 (by rfl) ?_
      exact n_rN W2 rfl (by simp) (z' := (0 : Int32)) (by rfl) d16_18 (by decide) (by decide) ⟨by rw [if_neg c10], rfl⟩
    · refine w_iconst W2 (z := (1 : Int32)) d16_13 (by rfl) ?_
      refine w_goto W2 (pc' := 18) d16_14 (by decide) ?_
      exact n_rN W2 rfl (by simp) (z' := (1 : Int32)) (by rfl) d16_18 (by decide) (by decide) ⟨by rw [if_pos c10], rfl⟩
theorem ef_8_R (m : MethodId) (x0 : Addr) : entryFrame m #[(.ref x0)] 1 = mkF m 0 #[.val (.ref x0)] [] := by first | (simp [entryFrame, mkF, argsToLocals, Value.category]; done) | rfl
theorem d8_0 : decode jdk_42_method_152_code 0 = .ok (.getstatic 38, 3) := by decide +kernel
theorem d8_3 : decode jdk_42_method_152_code 3 = .ok (.ifCond .eq 10, 3) := by decide +kernel
theorem d8_6 : decode jdk_42_method_152_code 6 = .ok (.aload_n 0, 1) := by decide +kernel
theorem d8_7 : decode jdk_42_method_152_code 7 = .ok (.getfield 15, 3) := by decide +kernel
theorem d8_10 : decode jdk_42_method_152_code 10 = .ok (.goto 4, 3) := by decide +kernel
theorem d8_14 : decode jdk_42_method_152_code 14 = .ok (.ireturn, 1) := by decide +kernel
set_option maxRecDepth 65536 in
set_option maxHeartbeats 40000000 in
theorem ctCr (l : Launch) (Z : State) (a0 : Array Value) (hw : ∀ d ∈ tables_1, d.before a0 Z = true) (cz : Int32) (x : Addr) (cs us : List Int32) (co : Int32) (h0 : Heap) (n0 : Nat) (O : Old Z n0 h0) (G : Sta Z Z.heap "java/lang/String" "COMPACT_STRINGS" "Z" (.int cz)) (hcz : cz ≠ 0) (hcs : cs.length ≤ 4000) (hE : Enc cs co us) (S : Str Z h0 x co us) :
    CtN l Z (⟨"java/lang/String", "coder", "()B"⟩ : MethodName) jdk_42_method_152_code 1 (some .byte) ({ frames := 0, cells := 0, slots := 0, locals := 0 } : Room) n0 #[(.ref x)] h0 (fun v h => v = some (.int co) ∧ h0 = h) := by
  refine CtN.of (plainFor_of_name pn_java_lang_String) ?_
  intro p e s m below meth c T0 W0 hnm
  refine Wp.cast (ef_8_R m x) ?_
  obtain ⟨b, kb, Ex, Cf, Vf, Ar⟩ := id S
  refine w_gets W0 (host := "") (Or.inl (hw _ (List.mem_of_getElem? (i := 44) rfl))) Via.refl (own_staOld O G) d8_0 ?_
  intro T1 W1
  refine w_ifeq W1 (pc' := 13) d8_3 (by decide) (fun c3 => ?_) (fun c3 => ?_)
  · exact absurd c3 hcz
  · refine w_aloadN W1 d8_6 rfl rfl ?_
    refine w_getf W1 (host := "") (Or.inl (hw _ (List.mem_of_getElem? (i := 26) rfl))) Via.refl Cf d8_7 ?_
    intro T2 W2
    refine w_goto W2 (pc' := 14) d8_10 (by decide) ?_
    exact n_rN W2 rfl (by simp) (z' := co) (by rcases own_encCo hE with rfl | rfl <;> rfl) d8_14 (by decide) (by decide) ⟨rfl, rfl⟩
theorem ef_7_R (m : MethodId) (x0 : Addr) : entryFrame m #[(.ref x0)] 1 = mkF m 0 #[.val (.ref x0)] [] := by first | (simp [entryFrame, mkF, argsToLocals, Value.category]; done) | rfl
theorem d7_0 : decode jdk_42_method_54_code 0 = .ok (.aload_n 0, 1) := by decide +kernel
theorem d7_1 : decode jdk_42_method_54_code 1 = .ok (.getfield 9, 3) := by decide +kernel
theorem d7_4 : decode jdk_42_method_54_code 4 = .ok (.arraylength, 1) := by decide +kernel
theorem d7_5 : decode jdk_42_method_54_code 5 = .ok (.aload_n 0, 1) := by decide +kernel
theorem d7_6 : decode jdk_42_method_54_code 6 = .ok (.invokevirtual 335, 3) := by decide +kernel
theorem pd_8 : parseMethodDescriptor "()B" = some ⟨[], some .byte⟩ := by decide +kernel
theorem d7_9 : decode jdk_42_method_54_code 9 = .ok (.ishr, 1) := by decide +kernel
theorem d7_10 : decode jdk_42_method_54_code 10 = .ok (.ireturn, 1) := by decide +kernel
set_option maxRecDepth 65536 in
set_option maxHeartbeats 40000000 in
theorem ctLn (l : Launch) (Z : State) (a0 : Array Value) (hw : ∀ d ∈ tables_1, d.before a0 Z = true) (cz : Int32) (x : Addr) (cs us : List Int32) (co : Int32) (h0 : Heap) (n0 : Nat) (O : Old Z n0 h0) (G : Sta Z Z.heap "java/lang/String" "COMPACT_STRINGS" "Z" (.int cz)) (hcz : cz ≠ 0) (hcs : cs.length ≤ 4000) (hE : Enc cs co us) (S : Str Z h0 x co us) :
    CtN l Z (⟨"java/lang/String", "length", "()I"⟩ : MethodName) jdk_42_method_54_code 1 (some .int) ({ frames := 1, cells := 0, slots := 0, locals := 13 } : Room) n0 #[(.ref x)] h0 (fun v h => v = some (.int (Int32.ofNat cs.length)) ∧ h0 = h) := by
  refine CtN.of (plainFor_of_name pn_java_lang_String) ?_
  intro p e s m below meth c T0 W0 hnm
  refine Wp.cast (ef_7_R m x) ?_
  obtain ⟨b, kb, Ex, Cf, Vf, Ar⟩ := id S
  refine w_aloadN W0 d7_0 rfl rfl ?_
  refine w_getf W0 (host := "") (Or.inl (hw _ (List.mem_of_getElem? (i := 25) rfl))) Via.refl Vf d7_1 ?_
  intro T1 W1
  refine w_arrlen W1 Ar d7_4 ?_
  refine w_aloadN W1 d7_5 rfl rfl ?_
  refine w_virt W1 (ctCr l Z a0 hw cz x cs us co _ n0 O G hcz hcs hE S) (hw _ (List.mem_of_getElem? (i := 39) rfl)) (hw _ (List.mem_of_getElem? (i := 40) rfl)) (notFace_of_selects (args := #[]) (mvT W1.wZ (hw _ (List.mem_of_getElem? (i := 42) rfl)))) (hw _ (List.mem_of_getElem? (i := 42) rfl)) (hw _ (List.mem_of_getElem? (i := 41) rfl)) (hw _ (List.mem_of_getElem? (i := 7) rfl)) (hw _ (List.mem_of_getElem? (i := 43) rfl)) (by decide) 1 (by decide) (by decide) (by decide) (by decide) (a := x) Ex (argsL := []) (rest := [(.int (Int32.ofNat us.length))]) pd_8 rfl rfl rfl rfl rfl d7_6 ?_
  rintro T2 h2 l2 _ W2 ⟨rfl, rfl⟩
  refine w_ishr W2 d7_9 (own_encLen hcs hE) ?_
  exact n_rI W2 rfl d7_10 (by decide) (by decide) ⟨rfl, rfl⟩
theorem ef_28_R (m : MethodId) (x0 : Addr) : entryFrame m #[(.ref x0)] 1 = mkF m 0 #[.val (.ref x0)] [] := by first | (simp [entryFrame, mkF, argsToLocals, Value.category]; done) | rfl
theorem d28_0 : decode jdk_52_method_6_code 0 = .ok (.aload_n 0, 1) := by decide +kernel
theorem d28_1 : decode jdk_52_method_6_code 1 = .ok (.arraylength, 1) := by decide +kernel
theorem d28_2 : decode jdk_52_method_6_code 2 = .ok (.iconst 1, 1) := by decide +kernel
theorem d28_3 : decode jdk_52_method_6_code 3 = .ok (.ishr, 1) := by decide +kernel
theorem d28_4 : decode jdk_52_method_6_code 4 = .ok (.ireturn, 1) := by decide +kernel
set_option maxRecDepth 65536 in
set_option maxHeartbeats 40000000 in
theorem ctUl (l : Launch) (Z : State) (a0 : Array Value) (hw : ∀ d ∈ tables_1, d.before a0 Z = true) (b : Addr) (kb : ClassId) (cs : List Int32) (h0 : Heap) (n0 : Nat) (hcs : cs.length ≤ 4000) (Cb : Arv Z h0 b kb .byte (Int32.ofNat (2 * cs.length)) ((own_u16 cs).map Value.int) (.int 0)) :
    CtN l Z (⟨"java/lang/StringUTF16", "length", "([B)I"⟩ : MethodName) jdk_52_method_6_code 1 (some .int) ({ frames := 0, cells := 0, slots := 0, locals := 0 } : Room) n0 #[(.ref b)] h0 (fun v h => v = some (.int (Int32.ofNat cs.length)) ∧ h0 = h) := by
  refine CtN.of (plainFor_of_name pn_java_lang_StringUTF16) ?_
  intro p e s m below meth c T0 W0 hnm
  refine Wp.cast (ef_28_R m b) ?_
  refine w_aloadN W0 d28_0 rfl rfl ?_
  refine w_arrlen W0 Cb d28_1 ?_
  refine w_iconst W0 (z := (1 : Int32)) d28_2 (by rfl) ?_
  refine w_ishr W0 d28_3 (own_hlf (by omega)) ?_
  exact n_rI W0 rfl d28_4 (by decide) (by decide) ⟨rfl, rfl⟩
theorem ef_19_IIR (m : MethodId) (x0 : Int32) (x1 : Int32) (x2 : Addr) : entryFrame m #[(.int x0), (.int x1), (.ref x2)] 3 = mkF m 0 #[.val (.int x0), .val (.int x1), .val (.ref x2)] [] := by first | (simp [entryFrame, mkF, argsToLocals, Value.category]; done) | rfl
theorem d19_0 : decode jdk_41_method_11_code 0 = .ok (.iload_n 0, 1) := by decide +kernel
theorem d19_1 : decode jdk_41_method_11_code 1 = .ok (.ifCond .lt 8, 3) := by decide +kernel
theorem d19_4 : decode jdk_41_method_11_code 4 = .ok (.iload_n 0, 1) := by decide +kernel
theorem d19_5 : decode jdk_41_method_11_code 5 = .ok (.iload_n 1, 1) := by decide +kernel
theorem d19_6 : decode jdk_41_method_11_code 6 = .ok (.if_icmp .lt 10, 3) := by decide +kernel
theorem d19_16 : decode jdk_41_method_11_code 16 = .ok (.iload_n 0, 1) := by decide +kernel
theorem d19_17 : decode jdk_41_method_11_code 17 = .ok (.ireturn, 1) := by decide +kernel
theorem pn_jdk_internal_util_Preconditions : plainName "jdk/internal/util/Preconditions" = true := by first | (simp [plainName, overriddenIn]; done) | decide +kernel
set_option maxRecDepth 65536 in
set_option maxHeartbeats 40000000 in
theorem ctPi (l : Launch) (Z : State) (a0 : Array Value) (hw : ∀ d ∈ tables_1, d.before a0 Z = true) (i n : Nat) (fa : Addr) (h0 : Heap) (n0 : Nat) (hn : n ≤ 4000) (hi : i < n) :
    CtN l Z (⟨"jdk/internal/util/Preconditions", "checkIndex", "(IILjava/util/function/BiFunction;)I"⟩ : MethodName) jdk_41_method_11_code 3 (some .int) ({ frames := 0, cells := 0, slots := 0, locals := 0 } : Room) n0 #[(.int (Int32.ofNat i)), (.int (Int32.ofNat n)), (.ref fa)] h0 (fun v h => v = some (.int (Int32.ofNat i)) ∧ h0 = h) := by
  refine CtN.of (plainFor_of_name pn_jdk_internal_util_Preconditions) ?_
  intro p e s m below meth c T0 W0 hnm
  refine Wp.cast (ef_19_IIR m (Int32.ofNat i) (Int32.ofNat n) fa) ?_
  refine w_iloadN W0 d19_0 rfl ?_
  refine w_iflt W0 (pc' := 9) d19_1 (by decide) (fun c1 => ?_) (fun c1 => ?_)
  · exact absurd c1 (own_nn0 (by omega))
  · refine w_iloadN W0 d19_4 rfl ?_
    refine w_iloadN W0 d19_5 rfl ?_
    refine w_icmplt W0 (pc' := 16) d19_6 (by decide) (fun c6 => ?_) (fun c6 => ?_)
    · refine w_iloadN W0 d19_16 rfl ?_
      exact n_rI W0 rfl d19_17 (by decide) (by decide) ⟨rfl, rfl⟩
    · exact absurd ((own_ltI (by omega) (by omega)).mpr hi) c6
theorem ef_19_IIn (m : MethodId) (x0 : Int32) (x1 : Int32) : entryFrame m #[(.int x0), (.int x1), .null] 3 = mkF m 0 #[.val (.int x0), .val (.int x1), .val .null] [] := by first | (simp [entryFrame, mkF, argsToLocals, Value.category]; done) | rfl
set_option maxRecDepth 65536 in
set_option maxHeartbeats 40000000 in
theorem ctPiN (l : Launch) (Z : State) (a0 : Array Value) (hw : ∀ d ∈ tables_1, d.before a0 Z = true) (i n : Nat)  (h0 : Heap) (n0 : Nat) (hn : n ≤ 4000) (hi : i < n) :
    CtN l Z (⟨"jdk/internal/util/Preconditions", "checkIndex", "(IILjava/util/function/BiFunction;)I"⟩ : MethodName) jdk_41_method_11_code 3 (some .int) ({ frames := 0, cells := 0, slots := 0, locals := 0 } : Room) n0 #[(.int (Int32.ofNat i)), (.int (Int32.ofNat n)), .null] h0 (fun v h => v = some (.int (Int32.ofNat i)) ∧ h0 = h) := by
  refine CtN.of (plainFor_of_name pn_jdk_internal_util_Preconditions) ?_
  intro p e s m below meth c T0 W0 hnm
  refine Wp.cast (ef_19_IIn m (Int32.ofNat i) (Int32.ofNat n)) ?_
  refine w_iloadN W0 d19_0 rfl ?_
  refine w_iflt W0 (pc' := 9) d19_1 (by decide) (fun c1 => ?_) (fun c1 => ?_)
  · exact absurd c1 (own_nn0 (by omega))
  · refine w_iloadN W0 d19_4 rfl ?_
    refine w_iloadN W0 d19_5 rfl ?_
    refine w_icmplt W0 (pc' := 16) d19_6 (by decide) (fun c6 => ?_) (fun c6 => ?_)
    · refine w_iloadN W0 d19_16 rfl ?_
      exact n_rI W0 rfl d19_17 (by decide) (by decide) ⟨rfl, rfl⟩
    · exact absurd ((own_ltI (by omega) (by omega)).mpr hi) c6
theorem ef_18_II (m : MethodId) (x0 : Int32) (x1 : Int32) : entryFrame m #[(.int x0), (.int x1)] 2 = mkF m 0 #[.val (.int x0), .val (.int x1)] [] := by first | (simp [entryFrame, mkF, argsToLocals, Value.category]; done) | rfl
theorem d18_0 : decode jdk_42_method_155_code 0 = .ok (.iload_n 0, 1) := by decide +kernel
theorem d18_1 : decode jdk_42_method_155_code 1 = .ok (.iload_n 1, 1) := by decide +kernel
theorem d18_2 : decode jdk_42_method_155_code 2 = .ok (.getstatic 1053, 3) := by decide +kernel
theorem d18_5 : decode jdk_42_method_155_code 5 = .ok (.invokestatic 1059, 3) := by decide +kernel
theorem pd_9 : parseMethodDescriptor "(IILjava/util/function/BiFunction;)I" = some ⟨[.int, .int, (.object "java/util/function/BiFunction")], some .int⟩ := by decide +kernel
theorem d18_8 : decode jdk_42_method_155_code 8 = .ok (.pop, 1) := by decide +kernel
theorem d18_9 : decode jdk_42_method_155_code 9 = .ok (.return_, 1) := by decide +kernel
set_option maxRecDepth 65536 in
set_option maxHeartbeats 40000000 in
theorem ctCk (l : Launch) (Z : State) (a0 : Array Value) (hw : ∀ d ∈ tables_1, d.before a0 Z = true) (i n : Nat) (fv : Value) (h0 : Heap) (n0 : Nat) (hn : n ≤ 4000) (hi : i < n) (O : Old Z n0 h0) (Gf : Sta Z Z.heap "jdk/internal/util/Preconditions" "SIOOBE_FORMATTER" "Ljava/util/function/BiFunction;" fv) (hfv : fv.isRef = true) :
    CtN l Z (⟨"java/lang/String", "checkIndex", "(II)V"⟩ : MethodName) jdk_42_method_155_code 2 none ({ frames := 1, cells := 0, slots := 0, locals := 14 } : Room) n0 #[(.int (Int32.ofNat i)), (.int (Int32.ofNat n))] h0 (fun v h => v = none ∧ h0 = h) := by
  refine CtN.of (plainFor_of_name pn_java_lang_String) ?_
  intro p e s m below meth c T0 W0 hnm
  refine Wp.cast (ef_18_II m (Int32.ofNat i) (Int32.ofNat n)) ?_
  refine w_iloadN W0 d18_0 rfl ?_
  refine w_iloadN W0 d18_1 rfl ?_
  rcases ref_cases hfv with rfl | ⟨fa, rfl⟩
  · refine w_gets W0 (host := "") (Or.inl (hw _ (List.mem_of_getElem? (i := 84) rfl))) Via.refl (own_staOld O Gf) d18_2 ?_
    intro T1 W1
    refine w_callS W1 (ctPiN l Z a0 hw i n _ n0 hn hi) (hw _ (List.mem_of_getElem? (i := 86) rfl)) (hw _ (List.mem_of_getElem? (i := 87) rfl)) (hw _ (List.mem_of_getElem? (i := 85) rfl)) (hw _ (List.mem_of_getElem? (i := 88) rfl)) (by decide) 0 (by decide) (by decide) (by decide) (by decide) (argsL := [(.int (Int32.ofNat i)), (.int (Int32.ofNat n)), .null]) (rest := []) pd_9 rfl rfl rfl rfl rfl d18_5 ?_
    rintro T2 h2 l2 _ W2 ⟨rfl, rfl⟩
    refine w_pop W2 d18_8 rfl ?_
    exact n_rV W2 rfl d18_9 (by decide) (by decide) ⟨rfl, rfl⟩
  · refine w_gets W0 (host := "") (Or.inl (hw _ (List.mem_of_getElem? (i := 84) rfl))) Via.refl (own_staOld O Gf) d18_2 ?_
    intro T3 W3
    refine w_callS W3 (ctPi l Z a0 hw i n fa _ n0 hn hi) (hw _ (List.mem_of_getElem? (i := 86) rfl)) (hw _ (List.mem_of_getElem? (i := 87) rfl)) (hw _ (List.mem_of_getElem? (i := 85) rfl)) (hw _ (List.mem_of_getElem? (i := 88) rfl)) (by decide) 0 (by decide) (by decide) (by decide) (by decide) (argsL := [(.int (Int32.ofNat i)), (.int (Int32.ofNat n)), (.ref fa)]) (rest := []) pd_9 rfl rfl rfl rfl rfl d18_5 ?_
    rintro T4 h4 l4 _ W4 ⟨rfl, rfl⟩
    refine w_pop W4 d18_8 rfl ?_
    exact n_rV W4 rfl d18_9 (by decide) (by decide) ⟨rfl, rfl⟩
theorem ef_27_IR (m : MethodId) (x0 : Int32) (x1 : Addr) : entryFrame m #[(.int x0), (.ref x1)] 2 = mkF m 0 #[.val (.int x0), .val (.ref x1)] [] := by first | (simp [entryFrame, mkF, argsToLocals, Value.category]; done) | rfl
theorem d27_0 : decode jdk_52_method_91_code 0 = .ok (.iload_n 0, 1) := by decide +kernel
theorem d27_1 : decode jdk_52_method_91_code 1 = .ok (.aload_n 1, 1) := by decide +kernel
theorem d27_2 : decode jdk_52_method_91_code 2 = .ok (.invokestatic 48, 3) := by decide +kernel
theorem pd_10 : parseMethodDescriptor "([B)I" = some ⟨[(.array .byte)], some .int⟩ := by decide +kernel
theorem d27_5 : decode jdk_52_method_91_code 5 = .ok (.invokestatic 414, 3) := by decide +kernel
theorem pd_11 : parseMethodDescriptor "(II)V" = some ⟨[.int, .int], none⟩ := by decide +kernel
theorem d27_8 : decode jdk_52_method_91_code 8 = .ok (.return_, 1) := by decide +kernel
set_option maxRecDepth 65536 in
set_option maxHeartbeats 40000000 in
theorem ctUk (l : Launch) (Z : State) (a0 : Array Value) (hw : ∀ d ∈ tables_1, d.before a0 Z = true) (i : Nat) (b : Addr) (kb : ClassId) (cs : List Int32) (fv : Value) (h0 : Heap) (n0 : Nat) (hcs : cs.length ≤ 4000) (hi : i < cs.length) (O : Old Z n0 h0) (Gf : Sta Z Z.heap "jdk/internal/util/Preconditions" "SIOOBE_FORMATTER" "Ljava/util/function/BiFunction;" fv) (hfv : fv.isRef = true) (Cb : Arv Z h0 b kb .byte (Int32.ofNat (2 * cs.length)) ((own_u16 cs).map Value.int) (.int 0)) :
    CtN l Z (⟨"java/lang/StringUTF16", "checkIndex", "(I[B)V"⟩ : MethodName) jdk_52_method_91_code 2 none ({ frames := 2, cells := 0, slots := 0, locals := 27 } : Room) n0 #[(.int (Int32.ofNat i)), (.ref b)] h0 (fun v h => v = none ∧ h0 = h) := by
  refine CtN.of (plainFor_of_name pn_java_lang_StringUTF16) ?_
  intro p e s m below meth c T0 W0 hnm
  refine Wp.cast (ef_27_IR m (Int32.ofNat i) b) ?_
  refine w_iloadN W0 d27_0 rfl ?_
  refine w_aloadN W0 d27_1 rfl rfl ?_
  refine w_callS W0 (ctUl l Z a0 hw b kb cs _ n0 hcs Cb) (hw _ (List.mem_of_getElem? (i := 119) rfl)) (hw _ (List.mem_of_getElem? (i := 120) rfl)) (hw _ (List.mem_of_getElem? (i := 51) rfl)) (hw _ (List.mem_of_getElem? (i := 121) rfl)) (by decide) 1 (by decide) (by decide) (by decide) (by decide) (argsL := [(.ref b)]) (rest := [(.int (Int32.ofNat i))]) pd_10 rfl rfl rfl rfl rfl d27_2 ?_
  rintro T1 h1 l1 _ W1 ⟨rfl, rfl⟩
  refine w_callS W1 (ctCk l Z a0 hw i cs.length fv _ n0 hcs hi O Gf hfv) (hw _ (List.mem_of_getElem? (i := 122) rfl)) (hw _ (List.mem_of_getElem? (i := 82) rfl)) (hw _ (List.mem_of_getElem? (i := 7) rfl)) (hw _ (List.mem_of_getElem? (i := 83) rfl)) (by decide) 0 (by decide) (by decide) (by decide) (by decide) (argsL := [(.int (Int32.ofNat i)), (.int (Int32.ofNat cs.length))]) (rest := []) pd_11 rfl rfl rfl rfl rfl d27_5 ?_
  rintro T2 h2 l2 _ W2 ⟨rfl, rfl⟩
  exact n_rV W2 rfl d27_8 (by decide) (by decide) ⟨rfl, rfl⟩
theorem ef_17_RI (m : MethodId) (x0 : Addr) (x1 : Int32) : entryFrame m #[(.ref x0), (.int x1)] 2 = mkF m 0 #[.val (.ref x0), .val (.int x1)] [] := by first | (simp [entryFrame, mkF, argsToLocals, Value.category]; done) | rfl
theorem d17_0 : decode jdk_43_method_2_code 0 = .ok (.iload_n 1, 1) := by decide +kernel
theorem d17_1 : decode jdk_43_method_2_code 1 = .ok (.aload_n 0, 1) := by decide +kernel
theorem d17_2 : decode jdk_43_method_2_code 2 = .ok (.arraylength, 1) := by decide +kernel
theorem d17_3 : decode jdk_43_method_2_code 3 = .ok (.invokestatic 9, 3) := by decide +kernel
theorem d17_6 : decode jdk_43_method_2_code 6 = .ok (.aload_n 0, 1) := by decide +kernel
theorem d17_7 : decode jdk_43_method_2_code 7 = .ok (.iload_n 1, 1) := by decide +kernel
theorem d17_8 : decode jdk_43_method_2_code 8 = .ok (.baload, 1) := by decide +kernel
theorem d17_9 : decode jdk_43_method_2_code 9 = .ok (.sipush 255, 3) := by decide +kernel
theorem d17_12 : decode jdk_43_method_2_code 12 = .ok (.iand, 1) := by decide +kernel
theorem d17_13 : decode jdk_43_method_2_code 13 = .ok (.i2c, 1) := by decide +kernel
theorem d17_14 : decode jdk_43_method_2_code 14 = .ok (.ireturn, 1) := by decide +kernel
theorem pn_java_lang_StringLatin1 : plainName "java/lang/StringLatin1" = true := by first | (simp [plainName, overriddenIn]; done) | decide +kernel
set_option maxRecDepth 65536 in
set_option maxHeartbeats 40000000 in
theorem ctLa (l : Launch) (Z : State) (a0 : Array Value) (hw : ∀ d ∈ tables_1, d.before a0 Z = true) (i : Nat) (b : Addr) (kb : ClassId) (cs : List Int32) (fv : Value) (h0 : Heap) (n0 : Nat) (hcs : cs.length ≤ 4000) (hi : i < cs.length) (hch : Chs cs) (hlat : ∀ c ∈ cs, ¬ ((255 : Int32) < c)) (O : Old Z n0 h0) (Gf : Sta Z Z.heap "jdk/internal/util/Preconditions" "SIOOBE_FORMATTER" "Ljava/util/function/BiFunction;" fv) (hfv : fv.isRef = true) (Cb : Arv Z h0 b kb .byte (Int32.ofNat cs.length) ((cs.map (nar .byte)).map Value.int) (.int 0)) :
    CtN l Z (⟨"java/lang/StringLatin1", "charAt", "([BI)C"⟩ : MethodName) jdk_43_method_2_code 2 (some .char) ({ frames := 2, cells := 0, slots := 0, locals := 27 } : Room) n0 #[(.ref b), (.int (Int32.ofNat i))] h0 (fun v h => v = some (.int (cs.getD i 0)) ∧ h0 = h) := by
  refine CtN.of (plainFor_of_name pn_java_lang_StringLatin1) ?_
  intro p e s m below meth c T0 W0 hnm
  refine Wp.cast (ef_17_RI m b (Int32.ofNat i)) ?_
  obtain ⟨hk0, hk1⟩ := hch _ (own_gmem hi)
  have hk2 := hlat _ (own_gmem hi)
  rw [own_255] at hk2
  refine w_iloadN W0 d17_0 rfl ?_
  refine w_aloadN W0 d17_1 rfl rfl ?_
  refine w_arrlen W0 Cb d17_2 ?_
  refine w_callS W0 (ctCk l Z a0 hw i cs.length fv _ n0 hcs hi O Gf hfv) (hw _ (List.mem_of_getElem? (i := 81) rfl)) (hw _ (List.mem_of_getElem? (i := 82) rfl)) (hw _ (List.mem_of_getElem? (i := 7) rfl)) (hw _ (List.mem_of_getElem? (i := 83) rfl)) (by decide) 0 (by decide) (by decide) (by decide) (by decide) (argsL := [(.int (Int32.ofNat i)), (.int (Int32.ofNat cs.length))]) (rest := []) pd_11 rfl rfl rfl rfl rfl d17_3 ?_
  rintro T1 h1 l1 _ W1 ⟨rfl, rfl⟩
  refine w_aloadN W1 d17_6 rfl rfl ?_
  refine w_iloadN W1 d17_7 rfl ?_
  refine w_baload W1 Cb ⟨own_nn0 (by omega), (own_ltI (by omega) (by omega)).mpr hi⟩ (v := (.int (nar .byte (cs.getD i 0)))) (by rw [own_clamp (by omega), own_getMap _ (by rw [List.length_map]; exact hi)]; simp [List.getD_eq_getElem?_getD, hi]) d17_8 ?_
  refine w_sipush W1 (z := (255 : Int32)) d17_9 (by rfl) ?_
  refine w_iand W1 d17_12 rfl ?_
  refine w_i2c W1 d17_13 rfl ?_
  exact n_rN W1 rfl (by simp) (z' := (cs.getD i 0)) (own_lc hk0 (by omega)) d17_14 (by decide) (by decide) ⟨rfl, rfl⟩
theorem ef_26_RI (m : MethodId) (x0 : Addr) (x1 : Int32) : entryFrame m #[(.ref x0), (.int x1)] 2 = mkF m 0 #[.val (.ref x0), .val (.int x1)] [] := by first | (simp [entryFrame, mkF, argsToLocals, Value.category]; done) | rfl
theorem d26_0 : decode jdk_52_method_83_code 0 = .ok (.iload_n 1, 1) := by decide +kernel
theorem d26_1 : decode jdk_52_method_83_code 1 = .ok (.aload_n 0, 1) := by decide +kernel
theorem d26_2 : decode jdk_52_method_83_code 2 = .ok (.invokestatic 67, 3) := by decide +kernel
theorem pd_12 : parseMethodDescriptor "(I[B)V" = some ⟨[.int, (.array .byte)], none⟩ := by decide +kernel
theorem d26_5 : decode jdk_52_method_83_code 5 = .ok (.aload_n 0, 1) := by decide +kernel
theorem d26_6 : decode jdk_52_method_83_code 6 = .ok (.iload_n 1, 1) := by decide +kernel
theorem d26_7 : decode jdk_52_method_83_code 7 = .ok (.invokestatic 71, 3) := by decide +kernel
theorem d26_10 : decode jdk_52_method_83_code 10 = .ok (.ireturn, 1) := by decide +kernel
set_option maxRecDepth 65536 in
set_option maxHeartbeats 40000000 in
theorem ctUa (l : Launch) (Z : State) (a0 : Array Value) (hw : ∀ d ∈ tables_1, d.before a0 Z = true) (i : Nat) (b : Addr) (kb : ClassId) (cs : List Int32) (fv : Value) (h0 : Heap) (n0 : Nat) (hcs : cs.length ≤ 4000) (hi : i < cs.length) (hch : Chs cs) (O : Old Z n0 h0) (Ga : Sta Z Z.heap "java/lang/StringUTF16" "$assertionsDisabled" "Z" (.int 1)) (Gh : Sta Z Z.heap "java/lang/StringUTF16" "HI_BYTE_SHIFT" "I" (.int 0)) (Gl : Sta Z Z.heap "java/lang/StringUTF16" "LO_BYTE_SHIFT" "I" (.int 8)) (Gf : Sta Z Z.heap "jdk/internal/util/Preconditions" "SIOOBE_FORMATTER" "Ljava/util/function/BiFunction;" fv) (hfv : fv.isRef = true) (Cb : Arv Z h0 b kb .byte (Int32.ofNat (2 * cs.length)) ((own_u16 cs).map Value.int) (.int 0)) :
    CtN l Z (⟨"java/lang/StringUTF16", "charAt", "([BI)C"⟩ : MethodName) jdk_52_method_83_code 2 (some .char) ({ frames := 3, cells := 0, slots := 0, locals := 40 } : Room) n0 #[(.ref b), (.int (Int32.ofNat i))] h0 (fun v h => v = some (.int (cs.getD i 0)) ∧ h0 = h) := by
  refine CtN.of (plainFor_of_name pn_java_lang_StringUTF16) ?_
  intro p e s m below meth c T0 W0 hnm
  refine Wp.cast (ef_26_RI m b (Int32.ofNat i)) ?_
  have hk := hch _ (own_gmem hi)
  refine w_iloadN W0 d26_0 rfl ?_
  refine w_aloadN W0 d26_1 rfl rfl ?_
  refine w_callS W0 (ctUk l Z a0 hw i b kb cs fv _ n0 hcs hi O Gf hfv Cb) (hw _ (List.mem_of_getElem? (i := 116) rfl)) (hw _ (List.mem_of_getElem? (i := 117) rfl)) (hw _ (List.mem_of_getElem? (i := 51) rfl)) (hw _ (List.mem_of_getElem? (i := 118) rfl)) (by decide) 0 (by decide) (by decide) (by decide) (by decide) (argsL := [(.int (Int32.ofNat i)), (.ref b)]) (rest := []) pd_12 rfl rfl rfl rfl rfl d26_2 ?_
  rintro T1 h1 l1 _ W1 ⟨rfl, rfl⟩
  refine w_aloadN W1 d26_5 rfl rfl ?_
  refine w_iloadN W1 d26_6 rfl ?_
  refine w_callS W1 (ctGc l Z a0 hw b kb cs i _ n0 hcs hi hch O Ga Gh Gl Cb) (hw _ (List.mem_of_getElem? (i := 110) rfl)) (hw _ (List.mem_of_getElem? (i := 111) rfl)) (hw _ (List.mem_of_getElem? (i := 51) rfl)) (hw _ (List.mem_of_getElem? (i := 112) rfl)) (by decide) 0 (by decide) (by decide) (by decide) (by decide) (argsL := [(.ref b), (.int (Int32.ofNat i))]) (rest := []) pd_5 rfl rfl rfl rfl rfl d26_7 ?_
  rintro T2 h2 l2 _ W2 ⟨rfl, rfl⟩
  exact n_rN W2 rfl (by simp) (z' := (cs.getD i 0)) (own_ncx hk) d26_10 (by decide) (by decide) ⟨rfl, rfl⟩
theorem ef_15_RI (m : MethodId) (x0 : Addr) (x1 : Int32) : entryFrame m #[(.ref x0), (.int x1)] 2 = mkF m 0 #[.val (.ref x0), .val (.int x1)] [] := by first | (simp [entryFrame, mkF, argsToLocals, Value.category]; done) | rfl
theorem d15_0 : decode jdk_42_method_56_code 0 = .ok (.aload_n 0, 1) := by decide +kernel
theorem d15_1 : decode jdk_42_method_56_code 1 = .ok (.invokevirtual 492, 3) := by decide +kernel
theorem pd_13 : parseMethodDescriptor "()Z" = some ⟨[], some .boolean⟩ := by decide +kernel
theorem d15_4 : decode jdk_42_method_56_code 4 = .ok (.ifCond .eq 12, 3) := by decide +kernel
theorem d15_7 : decode jdk_42_method_56_code 7 = .ok (.aload_n 0, 1) := by decide +kernel
theorem d15_8 : decode jdk_42_method_56_code 8 = .ok (.getfield 9, 3) := by decide +kernel
theorem d15_11 : decode jdk_42_method_56_code 11 = .ok (.iload_n 1, 1) := by decide +kernel
theorem d15_12 : decode jdk_42_method_56_code 12 = .ok (.invokestatic 495, 3) := by decide +kernel
theorem d15_15 : decode jdk_42_method_56_code 15 = .ok (.ireturn, 1) := by decide +kernel
theorem d15_16 : decode jdk_42_method_56_code 16 = .ok (.aload_n 0, 1) := by decide +kernel
theorem d15_17 : decode jdk_42_method_56_code 17 = .ok (.getfield 9, 3) := by decide +kernel
theorem d15_20 : decode jdk_42_method_56_code 20 = .ok (.iload_n 1, 1) := by decide +kernel
theorem d15_21 : decode jdk_42_method_56_code 21 = .ok (.invokestatic 498, 3) := by decide +kernel
theorem d15_24 : decode jdk_42_method_56_code 24 = .ok (.ireturn, 1) := by decide +kernel
set_option maxRecDepth 65536 in
set_option maxHeartbeats 40000000 in
theorem ctCa (l : Launch) (Z : State) (a0 : Array Value) (hw : ∀ d ∈ tables_1, d.before a0 Z = true) (cz : Int32) (x : Addr) (cs us : List Int32) (co : Int32) (i : Nat) (fv : Value) (h0 : Heap) (n0 : Nat) (O : Old Z n0 h0) (G : Sta Z Z.heap "java/lang/String" "COMPACT_STRINGS" "Z" (.int cz)) (hcz : cz ≠ 0) (hcs : cs.length ≤ 4000) (hE : Enc cs co us) (S : Str Z h0 x co us) (hi : i < cs.length) (hch : Chs cs) (Ga : Sta Z Z.heap "java/lang/StringUTF16" "$assertionsDisabled" "Z" (.int 1)) (Gh : Sta Z Z.heap "java/lang/StringUTF16" "HI_BYTE_SHIFT" "I" (.int 0)) (Gl : Sta Z Z.heap "java/lang/StringUTF16" "LO_BYTE_SHIFT" "I" (.int 8)) (Gf : Sta Z Z.heap "jdk/internal/util/Preconditions" "SIOOBE_FORMATTER" "Ljava/util/function/BiFunction;" fv) (hfv : fv.isRef = true) :
    CtN l Z (⟨"java/lang/String", "charAt", "(I)C"⟩ : MethodName) jdk_42_method_56_code 2 (some .char) ({ frames := 4, cells := 0, slots := 0, locals := 53 } : Room) n0 #[(.ref x), (.int (Int32.ofNat i))] h0 (fun v h => v = some (.int (cs.getD i 0)) ∧ h0 = h) := by
  refine CtN.of (plainFor_of_name pn_java_lang_String) ?_
  intro p e s m below meth c T0 W0 hnm
  refine Wp.cast (ef_15_RI m x (Int32.ofNat i)) ?_
  obtain ⟨b, kb, Ex, Cf, Vf, Ar⟩ := id S
  have hk := hch _ (own_gmem hi)
  rcases id hE with ⟨rfl, rfl, hlat⟩ | ⟨rfl, rfl, hpos⟩
  · have Cb : Arv Z h0 b kb .byte (Int32.ofNat cs.length) ((cs.map (nar .byte)).map Value.int) (.int 0) := by rw [List.length_map] at Ar; exact Ar
    refine w_aloadN W0 d15_0 rfl rfl ?_
    refine w_virt W0 (ctIl l Z a0 hw cz x cs (cs.map (nar .byte)) 0 _ n0 O G hcz hcs hE S) (hw _ (List.mem_of_getElem? (i := 72) rfl)) (hw _ (List.mem_of_getElem? (i := 73) rfl)) (notFace_of_selects (args := #[]) (mvT W0.wZ (hw _ (List.mem_of_getElem? (i := 75) rfl)))) (hw _ (List.mem_of_getElem? (i := 75) rfl)) (hw _ (List.mem_of_getElem? (i := 74) rfl)) (hw _ (List.mem_of_getElem? (i := 7) rfl)) (hw _ (List.mem_of_getElem? (i := 76) rfl)) (by decide) 0 (by decide) (by decide) (by decide) (by decide) (a := x) Ex (argsL := []) (rest := []) pd_13 rfl rfl rfl rfl rfl d15_1 ?_
    rintro T1 h1 l1 _ W1 ⟨rfl, rfl⟩
    refine w_ifeq W1 (pc' := 16) d15_4 (by decide) (fun c4 => absurd c4 (by decide)) (fun c4 => ?_)
    refine w_aloadN W1 d15_7 rfl rfl ?_
    refine w_getf W1 (host := "") (Or.inl (hw _ (List.mem_of_getElem? (i := 25) rfl))) Via.refl Vf d15_8 ?_
    intro T2 W2
    refine w_iloadN W2 d15_11 rfl ?_
    refine w_callS W2 (ctLa l Z a0 hw i b kb cs fv _ n0 hcs hi hch hlat O Gf hfv Cb) (hw _ (List.mem_of_getElem? (i := 77) rfl)) (hw _ (List.mem_of_getElem? (i := 78) rfl)) (hw _ (List.mem_of_getElem? (i := 79) rfl)) (hw _ (List.mem_of_getElem? (i := 80) rfl)) (by decide) 0 (by decide) (by decide) (by decide) (by decide) (argsL := [(.ref b), (.int (Int32.ofNat i))]) (rest := []) pd_5 rfl rfl rfl rfl rfl d15_12 ?_
    rintro T3 h3 l3 _ W3 ⟨rfl, rfl⟩
    exact n_rN W3 rfl (by simp) (z' := (cs.getD i 0)) (own_ncx hk) d15_15 (by decide) (by decide) ⟨rfl, rfl⟩
  · have Cb : Arv Z h0 b kb .byte (Int32.ofNat (2 * cs.length)) ((own_u16 cs).map Value.int) (.int 0) := by rw [own_u16_len] at Ar; exact Ar
    refine w_aloadN W0 d15_0 rfl rfl ?_
    refine w_virt W0 (ctIl l Z a0 hw cz x cs (own_u16 cs) 1 _ n0 O G hcz hcs hE S) (hw _ (List.mem_of_getElem? (i := 72) rfl)) (hw _ (List.mem_of_getElem? (i := 73) rfl)) (notFace_of_selects (args := #[]) (mvT W0.wZ (hw _ (List.mem_of_getElem? (i := 75) rfl)))) (hw _ (List.mem_of_getElem? (i := 75) rfl)) (hw _ (List.mem_of_getElem? (i := 74) rfl)) (hw _ (List.mem_of_getElem? (i := 7) rfl)) (hw _ (List.mem_of_getElem? (i := 76) rfl)) (by decide) 0 (by decide) (by decide) (by decide) (by decide) (a := x) Ex (argsL := []) (rest := []) pd_13 rfl rfl rfl rfl rfl d15_1 ?_
    rintro T4 h4 l4 _ W4 ⟨rfl, rfl⟩
    refine w_ifeq W4 (pc' := 16) d15_4 (by decide) (fun c4 => ?_) (fun c4 => absurd c4 (by decide))
    refine w_aloadN W4 d15_16 rfl rfl ?_
    refine w_getf W4 (host := "") (Or.inl (hw _ (List.mem_of_getElem? (i := 25) rfl))) Via.refl Vf d15_17 ?_
    intro T5 W5
    refine w_iloadN W5 d15_20 rfl ?_
    refine w_callS W5 (ctUa l Z a0 hw i b kb cs fv _ n0 hcs hi hch O Ga Gh Gl Gf hfv Cb) (hw _ (List.mem_of_getElem? (i := 113) rfl)) (hw _ (List.mem_of_getElem? (i := 114) rfl)) (hw _ (List.mem_of_getElem? (i := 51) rfl)) (hw _ (List.mem_of_getElem? (i := 115) rfl)) (by decide) 0 (by decide) (by decide) (by decide) (by decide) (argsL := [(.ref b), (.int (Int32.ofNat i))]) (rest := []) pd_5 rfl rfl rfl rfl rfl d15_21 ?_
    rintro T6 h6 l6 _ W6 ⟨rfl, rfl⟩
    exact n_rN W6 rfl (by simp) (z' := (cs.getD i 0)) (own_ncx hk) d15_24 (by decide) (by decide) ⟨rfl, rfl⟩
theorem ef_9_II (m : MethodId) (x0 : Int32) (x1 : Int32) : entryFrame m #[(.int x0), (.int x1)] 2 = mkF m 0 #[.val (.int x0), .val (.int x1)] [] := by first | (simp [entryFrame, mkF, argsToLocals, Value.category]; done) | rfl
theorem d9_0 : decode jdk_29_method_69_code 0 = .ok (.iload_n 0, 1) := by decide +kernel
theorem d9_1 : decode jdk_29_method_69_code 1 = .ok (.iload_n 1, 1) := by decide +kernel
theorem d9_2 : decode jdk_29_method_69_code 2 = .ok (.if_icmp .gt 7, 3) := by decide +kernel
theorem d9_9 : decode jdk_29_method_69_code 9 = .ok (.iload_n 1, 1) := by decide +kernel
theorem d9_10 : decode jdk_29_method_69_code 10 = .ok (.ireturn, 1) := by decide +kernel
theorem d9_5 : decode jdk_29_method_69_code 5 = .ok (.iload_n 0, 1) := by decide +kernel
theorem d9_6 : decode jdk_29_method_69_code 6 = .ok (.goto 4, 3) := by decide +kernel
set_option maxRecDepth 65536 in
set_option maxHeartbeats 40000000 in
theorem ctMi (l : Launch) (Z : State) (a0 : Array Value) (hw : ∀ d ∈ tables_1, d.before a0 Z = true) (n k : Nat) (h0 : Heap) (n0 : Nat) (hn : n ≤ 4000) (hk : k ≤ 4000) :
    CtN l Z (⟨"java/lang/Math", "min", "(II)I"⟩ : MethodName) jdk_29_method_69_code 2 (some .int) ({ frames := 0, cells := 0, slots := 0, locals := 0 } : Room) n0 #[(.int (Int32.ofNat n)), (.int (Int32.ofNat k))] h0 (fun v h => v = some (.int (Int32.ofNat (min n k))) ∧ h0 = h) := by
  refine CtN.of (Jvm.Free.JP.mathPlain rfl (by decide +kernel)) ?_
  intro p e s m below meth c T0 W0 hnm
  refine Wp.cast (ef_9_II m (Int32.ofNat n) (Int32.ofNat k)) ?_
  refine w_iloadN W0 d9_0 rfl ?_
  refine w_iloadN W0 d9_1 rfl ?_
  refine w_icmpgt W0 (pc' := 9) d9_2 (by decide) (fun c2 => ?_) (fun c2 => ?_)
  · refine w_iloadN W0 d9_9 rfl ?_
    exact n_rI W0 rfl d9_10 (by decide) (by decide) ⟨own_minI hn hk c2, rfl⟩
  · refine w_iloadN W0 d9_5 rfl ?_
    refine w_goto W0 (pc' := 10) d9_6 (by decide) ?_
    exact n_rI W0 rfl d9_10 (by decide) (by decide) ⟨own_minJ hn hk c2, rfl⟩
theorem ef_20_I (m : MethodId) (x0 : Int32) : entryFrame m #[(.int x0)] 1 = mkF m 0 #[.val (.int x0)] [] := by first | (simp [entryFrame, mkF, argsToLocals, Value.category]; done) | rfl
theorem d20_0 : decode prog_1_method_3_code 0 = .ok (.iload_n 0, 1) := by decide +kernel
theorem d20_1 : decode prog_1_method_3_code 1 = .ok (.ldc 29, 2) := by decide +kernel
theorem d20_3 : decode prog_1_method_3_code 3 = .ok (.if_icmp .lt 9, 3) := by decide +kernel
theorem d20_12 : decode prog_1_method_3_code 12 = .ok (.iload_n 0, 1) := by decide +kernel
theorem d20_13 : decode prog_1_method_3_code 13 = .ok (.ldc 30, 2) := by decide +kernel
theorem d20_15 : decode prog_1_method_3_code 15 = .ok (.if_icmp .lt 9, 3) := by decide +kernel
theorem d20_24 : decode prog_1_method_3_code 24 = .ok (.iload_n 0, 1) := by decide +kernel
theorem d20_25 : decode prog_1_method_3_code 25 = .ok (.ireturn, 1) := by decide +kernel
theorem d20_18 : decode prog_1_method_3_code 18 = .ok (.iload_n 0, 1) := by decide +kernel
theorem d20_19 : decode prog_1_method_3_code 19 = .ok (.sipush 8192, 3) := by decide +kernel
theorem d20_22 : decode prog_1_method_3_code 22 = .ok (.iadd, 1) := by decide +kernel
theorem d20_23 : decode prog_1_method_3_code 23 = .ok (.ireturn, 1) := by decide +kernel
theorem d20_6 : decode prog_1_method_3_code 6 = .ok (.iload_n 0, 1) := by decide +kernel
theorem d20_7 : decode prog_1_method_3_code 7 = .ok (.sipush 2048, 3) := by decide +kernel
theorem d20_10 : decode prog_1_method_3_code 10 = .ok (.isub, 1) := by decide +kernel
theorem d20_11 : decode prog_1_method_3_code 11 = .ok (.ireturn, 1) := by decide +kernel
theorem pn_com_example_emit_on_change_emitonchange_CodePointOrder : plainName "com/example/emit_on_change/emitonchange/CodePointOrder" = true := by first | (simp [plainName, overriddenIn]; done) | decide +kernel
set_option maxRecDepth 65536 in
set_option maxHeartbeats 40000000 in
theorem ctRk (l : Launch) (Z : State) (a0 : Array Value) (hw : ∀ d ∈ tables_1, d.before a0 Z = true) (k : Int32) (h0 : Heap) (n0 : Nat) (bk : 0 ≤ k.toInt ∧ k.toInt < 65536) :
    CtN l Z (⟨"com/example/emit_on_change/emitonchange/CodePointOrder", "rank", "(C)I"⟩ : MethodName) prog_1_method_3_code 1 (some .int) ({ frames := 0, cells := 0, slots := 0, locals := 0 } : Room) n0 #[(.int k)] h0 (fun v h => ∃ u : Int32, v = some (.int u) ∧ u.toInt = own_rank k ∧ h0 = h) := by
  refine CtN.of (plainFor_of_name pn_com_example_emit_on_change_emitonchange_CodePointOrder) ?_
  intro p e s m below meth c T0 W0 hnm
  refine Wp.cast (ef_20_I m k) ?_
  refine w_iloadN W0 d20_0 rfl ?_
  refine w_ldcI W0 (hw _ (List.mem_of_getElem? (i := 92) rfl)) d20_1 ?_
  refine w_icmplt W0 (pc' := 12) d20_3 (by decide) (fun c3 => ?_) (fun c3 => ?_)
  · refine w_iloadN W0 d20_12 rfl ?_
    refine w_ldcI W0 (hw _ (List.mem_of_getElem? (i := 93) rfl)) d20_13 ?_
    refine w_icmplt W0 (pc' := 24) d20_15 (by decide) (fun c15 => ?_) (fun c15 => ?_)
    · refine w_iloadN W0 d20_24 rfl ?_
      exact n_rI W0 rfl d20_25 (by decide) (by decide) ⟨_, rfl, own_rk3 c3 c15, rfl⟩
    · refine w_iloadN W0 d20_18 rfl ?_
      refine w_sipush W0 (z := (8192 : Int32)) d20_19 (by rfl) ?_
      refine w_iadd W0 d20_22 rfl ?_
      exact n_rI W0 rfl d20_23 (by decide) (by decide) ⟨_, rfl, own_rk2 bk c3 c15, rfl⟩
  · refine w_iloadN W0 d20_6 rfl ?_
    refine w_sipush W0 (z := (2048 : Int32)) d20_7 (by rfl) ?_
    refine w_isub W0 d20_10 rfl ?_
    exact n_rI W0 rfl d20_11 (by decide) (by decide) ⟨_, rfl, own_rk1 bk c3, rfl⟩
theorem ef_14_I (m : MethodId) (x0 : Int32) : entryFrame m #[(.int x0)] 1 = mkF m 0 #[.val (.int x0)] [] := by first | (simp [entryFrame, mkF, argsToLocals, Value.category]; done) | rfl
theorem d14_0 : decode method_4_code 0 = .ok (.iload_n 0, 1) := by decide +kernel
theorem d14_1 : decode method_4_code 1 = .ok (.ldc 33, 2) := by decide +kernel
theorem d14_3 : decode method_4_code 3 = .ok (.if_icmp .lt 11, 3) := by decide +kernel
theorem d14_14 : decode method_4_code 14 = .ok (.iload_n 0, 1) := by decide +kernel
theorem d14_15 : decode method_4_code 15 = .ok (.ldc 35, 2) := by decide +kernel
theorem d14_17 : decode method_4_code 17 = .ok (.if_icmp .lt 5, 3) := by decide +kernel
theorem d14_22 : decode method_4_code 22 = .ok (.iconst 0, 1) := by decide +kernel
theorem d14_23 : decode method_4_code 23 = .ok (.ireturn, 1) := by decide +kernel
theorem d14_20 : decode method_4_code 20 = .ok (.iconst 1, 1) := by decide +kernel
theorem d14_21 : decode method_4_code 21 = .ok (.ireturn, 1) := by decide +kernel
theorem d14_6 : decode method_4_code 6 = .ok (.iload_n 0, 1) := by decide +kernel
theorem d14_7 : decode method_4_code 7 = .ok (.ldc 34, 2) := by decide +kernel
theorem d14_9 : decode method_4_code 9 = .ok (.if_icmp .gt 5, 3) := by decide +kernel
theorem d14_12 : decode method_4_code 12 = .ok (.iconst 2, 1) := by decide +kernel
theorem d14_13 : decode method_4_code 13 = .ok (.ireturn, 1) := by decide +kernel
theorem pn_com_example_emit_on_change_emitonchange_CodePointOrderComparePinLaw : plainName "com/example/emit_on_change/emitonchange/CodePointOrderComparePinLaw" = true := by first | (simp [plainName, overriddenIn]; done) | decide +kernel
set_option maxRecDepth 65536 in
set_option maxHeartbeats 40000000 in
theorem ctGr (l : Launch) (Z : State) (a0 : Array Value) (hw : ∀ d ∈ tables_1, d.before a0 Z = true) (k : Int32) (h0 : Heap) (n0 : Nat)  :
    CtN l Z (⟨"com/example/emit_on_change/emitonchange/CodePointOrderComparePinLaw", "group", "(C)I"⟩ : MethodName) method_4_code 1 (some .int) ({ frames := 0, cells := 0, slots := 0, locals := 0 } : Room) n0 #[(.int k)] h0 (fun v h => ∃ u : Int32, v = some (.int u) ∧ u.toInt = own_grp k ∧ h0 = h) := by
  refine CtN.of (plainFor_of_name pn_com_example_emit_on_change_emitonchange_CodePointOrderComparePinLaw) ?_
  intro p e s m below meth c T0 W0 hnm
  refine Wp.cast (ef_14_I m k) ?_
  refine w_iloadN W0 d14_0 rfl ?_
  refine w_ldcI W0 (hw _ (List.mem_of_getElem? (i := 65) rfl)) d14_1 ?_
  refine w_icmplt W0 (pc' := 14) d14_3 (by decide) (fun c3 => ?_) (fun c3 => ?_)
  · refine w_iloadN W0 d14_14 rfl ?_
    refine w_ldcI W0 (hw _ (List.mem_of_getElem? (i := 66) rfl)) d14_15 ?_
    refine w_icmplt W0 (pc' := 22) d14_17 (by decide) (fun c17 => ?_) (fun c17 => ?_)
    · refine w_iconst W0 (z := (0 : Int32)) d14_22 (by rfl) ?_
      exact n_rI W0 rfl d14_23 (by decide) (by decide) ⟨_, rfl, own_gr0 (Or.inl c3) c17, rfl⟩
    · refine w_iconst W0 (z := (1 : Int32)) d14_20 (by rfl) ?_
      exact n_rI W0 rfl d14_21 (by decide) (by decide) ⟨_, rfl, own_gr1 c17, rfl⟩
  · refine w_iloadN W0 d14_6 rfl ?_
    refine w_ldcI W0 (hw _ (List.mem_of_getElem? (i := 123) rfl)) d14_7 ?_
    refine w_icmpgt W0 (pc' := 14) d14_9 (by decide) (fun c9 => ?_) (fun c9 => ?_)
    · refine w_iloadN W0 d14_14 rfl ?_
      refine w_ldcI W0 (hw _ (List.mem_of_getElem? (i := 66) rfl)) d14_15 ?_
      refine w_icmplt W0 (pc' := 22) d14_17 (by decide) (fun c17 => ?_) (fun c17 => ?_)
      · refine w_iconst W0 (z := (0 : Int32)) d14_22 (by rfl) ?_
        exact n_rI W0 rfl d14_23 (by decide) (by decide) ⟨_, rfl, own_gr0 (Or.inr c9) c17, rfl⟩
      · refine w_iconst W0 (z := (1 : Int32)) d14_20 (by rfl) ?_
        exact n_rI W0 rfl d14_21 (by decide) (by decide) ⟨_, rfl, own_gr1 c17, rfl⟩
    · refine w_iconst W0 (z := (2 : Int32)) d14_12 (by rfl) ?_
      exact n_rI W0 rfl d14_13 (by decide) (by decide) ⟨_, rfl, own_gr2 c3 c9, rfl⟩
theorem ef_13_II (m : MethodId) (x0 : Int32) (x1 : Int32) : entryFrame m #[(.int x0), (.int x1)] 4 = mkF m 0 #[.val (.int x0), .val (.int x1), .unset, .unset] [] := by first | (simp [entryFrame, mkF, argsToLocals, Value.category]; done) | rfl
theorem d13_0 : decode method_5_code 0 = .ok (.iload_n 0, 1) := by decide +kernel
theorem d13_1 : decode method_5_code 1 = .ok (.invokestatic 36, 3) := by decide +kernel
theorem pd_14 : parseMethodDescriptor "(C)I" = some ⟨[.char], some .int⟩ := by decide +kernel
theorem d13_4 : decode method_5_code 4 = .ok (.istore_n 2, 1) := by decide +kernel
theorem d13_5 : decode method_5_code 5 = .ok (.iload_n 1, 1) := by decide +kernel
theorem d13_6 : decode method_5_code 6 = .ok (.invokestatic 36, 3) := by decide +kernel
theorem d13_9 : decode method_5_code 9 = .ok (.istore_n 3, 1) := by decide +kernel
theorem d13_10 : decode method_5_code 10 = .ok (.iload_n 2, 1) := by decide +kernel
theorem d13_11 : decode method_5_code 11 = .ok (.iload_n 3, 1) := by decide +kernel
theorem d13_12 : decode method_5_code 12 = .ok (.if_icmp .eq 14, 3) := by decide +kernel
theorem d13_26 : decode method_5_code 26 = .ok (.iload_n 0, 1) := by decide +kernel
theorem d13_27 : decode method_5_code 27 = .ok (.iload_n 1, 1) := by decide +kernel
theorem d13_28 : decode method_5_code 28 = .ok (.if_icmp .ge 5, 3) := by decide +kernel
theorem d13_33 : decode method_5_code 33 = .ok (.iload_n 0, 1) := by decide +kernel
theorem d13_34 : decode method_5_code 34 = .ok (.iload_n 1, 1) := by decide +kernel
theorem d13_35 : decode method_5_code 35 = .ok (.if_icmp .le 5, 3) := by decide +kernel
theorem d13_40 : decode method_5_code 40 = .ok (.iconst 0, 1) := by decide +kernel
theorem d13_41 : decode method_5_code 41 = .ok (.ireturn, 1) := by decide +kernel
theorem d13_38 : decode method_5_code 38 = .ok (.iconst 1, 1) := by decide +kernel
theorem d13_39 : decode method_5_code 39 = .ok (.ireturn, 1) := by decide +kernel
theorem d13_31 : decode method_5_code 31 = .ok (.iconst (-1), 1) := by decide +kernel
theorem d13_32 : decode method_5_code 32 = .ok (.ireturn, 1) := by decide +kernel
theorem d13_15 : decode method_5_code 15 = .ok (.iload_n 2, 1) := by decide +kernel
theorem d13_16 : decode method_5_code 16 = .ok (.iload_n 3, 1) := by decide +kernel
theorem d13_17 : decode method_5_code 17 = .ok (.if_icmp .ge 7, 3) := by decide +kernel
theorem d13_24 : decode method_5_code 24 = .ok (.iconst 1, 1) := by decide +kernel
theorem d13_25 : decode method_5_code 25 = .ok (.ireturn, 1) := by decide +kernel
theorem d13_20 : decode method_5_code 20 = .ok (.iconst (-1), 1) := by decide +kernel
theorem d13_21 : decode method_5_code 21 = .ok (.goto 4, 3) := by decide +kernel
set_option maxRecDepth 65536 in
set_option maxHeartbeats 40000000 in
theorem ctUc (l : Launch) (Z : State) (a0 : Array Value) (hw : ∀ d ∈ tables_1, d.before a0 Z = true) (x y : Int32) (h0 : Heap) (n0 : Nat) (bx : 0 ≤ x.toInt ∧ x.toInt < 65536) (by' : 0 ≤ y.toInt ∧ y.toInt < 65536) :
    CtN l Z (⟨"com/example/emit_on_change/emitonchange/CodePointOrderComparePinLaw", "unitCmp", "(CC)I"⟩ : MethodName) method_5_code 4 (some .int) ({ frames := 1, cells := 0, slots := 0, locals := 12 } : Room) n0 #[(.int x), (.int y)] h0 (fun v h => ∃ u : Int32, v = some (.int u) ∧ u.toInt = own_sg (own_rank x - own_rank y) ∧ h0 = h) := by
  refine CtN.of (plainFor_of_name pn_com_example_emit_on_change_emitonchange_CodePointOrderComparePinLaw) ?_
  intro p e s m below meth c T0 W0 hnm
  refine Wp.cast (ef_13_II m x y) ?_
  refine w_iloadN W0 d13_0 rfl ?_
  refine w_callS W0 (ctGr l Z a0 hw x _ n0) (hw _ (List.mem_of_getElem? (i := 62) rfl)) (hw _ (List.mem_of_getElem? (i := 63) rfl)) (hw _ (List.mem_of_getElem? (i := 3) rfl)) (hw _ (List.mem_of_getElem? (i := 64) rfl)) (by decide) 0 (by decide) (by decide) (by decide) (by decide) (argsL := [(.int x)]) (rest := []) pd_14 rfl rfl rfl rfl rfl d13_1 ?_
  rintro T1 h1 l1 _ W1 ⟨g1, rfl, hg1, rfl⟩
  refine w_istoreN W1 (L' := #[.val (.int x), .val (.int y), .val (.int g1), .unset]) d13_4 rfl ?_
  refine w_iloadN W1 d13_5 rfl ?_
  refine w_callS W1 (ctGr l Z a0 hw y _ n0) (hw _ (List.mem_of_getElem? (i := 62) rfl)) (hw _ (List.mem_of_getElem? (i := 63) rfl)) (hw _ (List.mem_of_getElem? (i := 3) rfl)) (hw _ (List.mem_of_getElem? (i := 64) rfl)) (by decide) 0 (by decide) (by decide) (by decide) (by decide) (argsL := [(.int y)]) (rest := []) pd_14 rfl rfl rfl rfl rfl d13_6 ?_
  rintro T2 h2 l2 _ W2 ⟨g2, rfl, hg2, rfl⟩
  refine w_istoreN W2 (L' := #[.val (.int x), .val (.int y), .val (.int g1), .val (.int g2)]) d13_9 rfl ?_
  refine w_iloadN W2 d13_10 rfl ?_
  refine w_iloadN W2 d13_11 rfl ?_
  refine w_icmpeq W2 (pc' := 26) d13_12 (by decide) (fun c12 => ?_) (fun c12 => ?_)
  · refine w_iloadN W2 d13_26 rfl ?_
    refine w_iloadN W2 d13_27 rfl ?_
    refine w_icmpge W2 (pc' := 33) d13_28 (by decide) (fun c28 => ?_) (fun c28 => ?_)
    · refine w_iloadN W2 d13_33 rfl ?_
      refine w_iloadN W2 d13_34 rfl ?_
      refine w_icmple W2 (pc' := 40) d13_35 (by decide) (fun c35 => ?_) (fun c35 => ?_)
      · refine w_iconst W2 (z := (0 : Int32)) d13_40 (by rfl) ?_
        exact n_rI W2 rfl d13_41 (by decide) (by decide) ⟨_, rfl, own_uc5 bx by' hg1 hg2 c12 c28 c35, rfl⟩
      · refine w_iconst W2 (z := (1 : Int32)) d13_38 (by rfl) ?_
        exact n_rI W2 rfl d13_39 (by decide) (by decide) ⟨_, rfl, own_uc4 bx by' hg1 hg2 c12 c35, rfl⟩
    · refine w_iconst W2 (z := (-1 : Int32)) d13_31 (by rfl) ?_
      exact n_rI W2 rfl d13_32 (by decide) (by decide) ⟨_, rfl, own_uc3 bx by' hg1 hg2 c12 c28, rfl⟩
  · refine w_iloadN W2 d13_15 rfl ?_
    refine w_iloadN W2 d13_16 rfl ?_
    refine w_icmpge W2 (pc' := 24) d13_17 (by decide) (fun c17 => ?_) (fun c17 => ?_)
    · refine w_iconst W2 (z := (1 : Int32)) d13_24 (by rfl) ?_
      exact n_rI W2 rfl d13_25 (by decide) (by decide) ⟨_, rfl, own_uc2 bx by' hg1 hg2 c12 c17, rfl⟩
    · refine w_iconst W2 (z := (-1 : Int32)) d13_20 (by rfl) ?_
      refine w_goto W2 (pc' := 25) d13_21 (by decide) ?_
      exact n_rI W2 rfl d13_25 (by decide) (by decide) ⟨_, rfl, own_uc1 bx by' hg1 hg2 c12 c17, rfl⟩
theorem ef_5_I (m : MethodId) (x0 : Int32) : entryFrame m #[(.int x0)] 1 = mkF m 0 #[.val (.int x0)] [] := by first | (simp [entryFrame, mkF, argsToLocals, Value.category]; done) | rfl
theorem d5_0 : decode method_6_code 0 = .ok (.iload_n 0, 1) := by decide +kernel
theorem d5_1 : decode method_6_code 1 = .ok (.ifCond .ge 5, 3) := by decide +kernel
theorem d5_6 : decode method_6_code 6 = .ok (.iload_n 0, 1) := by decide +kernel
theorem d5_7 : decode method_6_code 7 = .ok (.ifCond .le 5, 3) := by decide +kernel
theorem d5_12 : decode method_6_code 12 = .ok (.iconst 0, 1) := by decide +kernel
theorem d5_13 : decode method_6_code 13 = .ok (.ireturn, 1) := by decide +kernel
theorem d5_10 : decode method_6_code 10 = .ok (.iconst 1, 1) := by decide +kernel
theorem d5_11 : decode method_6_code 11 = .ok (.ireturn, 1) := by decide +kernel
theorem d5_4 : decode method_6_code 4 = .ok (.iconst (-1), 1) := by decide +kernel
theorem d5_5 : decode method_6_code 5 = .ok (.ireturn, 1) := by decide +kernel
set_option maxRecDepth 65536 in
set_option maxHeartbeats 40000000 in
theorem ctSg (l : Launch) (Z : State) (a0 : Array Value) (hw : ∀ d ∈ tables_1, d.before a0 Z = true) (k : Int32) (h0 : Heap) (n0 : Nat)  :
    CtN l Z (⟨"com/example/emit_on_change/emitonchange/CodePointOrderComparePinLaw", "sign", "(I)I"⟩ : MethodName) method_6_code 1 (some .int) ({ frames := 0, cells := 0, slots := 0, locals := 0 } : Room) n0 #[(.int k)] h0 (fun v h => ∃ u : Int32, v = some (.int u) ∧ u.toInt = own_sg k.toInt ∧ h0 = h) := by
  refine CtN.of (plainFor_of_name pn_com_example_emit_on_change_emitonchange_CodePointOrderComparePinLaw) ?_
  intro p e s m below meth c T0 W0 hnm
  refine Wp.cast (ef_5_I m k) ?_
  refine w_iloadN W0 d5_0 rfl ?_
  refine w_ifge W0 (pc' := 6) d5_1 (by decide) (fun c1 => ?_) (fun c1 => ?_)
  · refine w_iloadN W0 d5_6 rfl ?_
    refine w_ifle W0 (pc' := 12) d5_7 (by decide) (fun c7 => ?_) (fun c7 => ?_)
    · refine w_iconst W0 (z := (0 : Int32)) d5_12 (by rfl) ?_
      exact n_rI W0 rfl d5_13 (by decide) (by decide) ⟨_, rfl, own_sg3 c1 c7, rfl⟩
    · refine w_iconst W0 (z := (1 : Int32)) d5_10 (by rfl) ?_
      exact n_rI W0 rfl d5_11 (by decide) (by decide) ⟨_, rfl, own_sg2 c1 c7, rfl⟩
  · refine w_iconst W0 (z := (-1 : Int32)) d5_4 (by rfl) ?_
    exact n_rI W0 rfl d5_5 (by decide) (by decide) ⟨_, rfl, own_sg1 c1, rfl⟩
theorem ef_6_RR (m : MethodId) (x0 : Addr) (x1 : Addr) : entryFrame m #[(.ref x0), (.ref x1)] 6 = mkF m 0 #[.val (.ref x0), .val (.ref x1), .unset, .unset, .unset, .unset] [] := by first | (simp [entryFrame, mkF, argsToLocals, Value.category]; done) | rfl
theorem d6_0 : decode prog_1_method_2_code 0 = .ok (.aload_n 0, 1) := by decide +kernel
theorem d6_1 : decode prog_1_method_2_code 1 = .ok (.invokevirtual 7, 3) := by decide +kernel
theorem pd_15 : parseMethodDescriptor "()I" = some ⟨[], some .int⟩ := by decide +kernel
theorem d6_4 : decode prog_1_method_2_code 4 = .ok (.aload_n 1, 1) := by decide +kernel
theorem d6_5 : decode prog_1_method_2_code 5 = .ok (.invokevirtual 7, 3) := by decide +kernel
theorem d6_8 : decode prog_1_method_2_code 8 = .ok (.invokestatic 13, 3) := by decide +kernel
theorem pd_16 : parseMethodDescriptor "(II)I" = some ⟨[.int, .int], some .int⟩ := by decide +kernel
theorem d6_11 : decode prog_1_method_2_code 11 = .ok (.istore_n 2, 1) := by decide +kernel
theorem d6_12 : decode prog_1_method_2_code 12 = .ok (.iconst 0, 1) := by decide +kernel
theorem d6_13 : decode prog_1_method_2_code 13 = .ok (.istore_n 3, 1) := by decide +kernel
theorem d6_14 : decode prog_1_method_2_code 14 = .ok (.iload_n 3, 1) := by decide +kernel
theorem d6_15 : decode prog_1_method_2_code 15 = .ok (.iload_n 2, 1) := by decide +kernel
theorem d6_16 : decode prog_1_method_2_code 16 = .ok (.if_icmp .ge 42, 3) := by decide +kernel
theorem d6_58 : decode prog_1_method_2_code 58 = .ok (.aload_n 0, 1) := by decide +kernel
theorem d6_59 : decode prog_1_method_2_code 59 = .ok (.invokevirtual 7, 3) := by decide +kernel
theorem d6_62 : decode prog_1_method_2_code 62 = .ok (.aload_n 1, 1) := by decide +kernel
theorem d6_63 : decode prog_1_method_2_code 63 = .ok (.invokevirtual 7, 3) := by decide +kernel
theorem d6_66 : decode prog_1_method_2_code 66 = .ok (.isub, 1) := by decide +kernel
theorem d6_67 : decode prog_1_method_2_code 67 = .ok (.ireturn, 1) := by decide +kernel
theorem d6_19 : decode prog_1_method_2_code 19 = .ok (.aload_n 0, 1) := by decide +kernel
theorem d6_20 : decode prog_1_method_2_code 20 = .ok (.iload_n 3, 1) := by decide +kernel
theorem d6_21 : decode prog_1_method_2_code 21 = .ok (.invokevirtual 19, 3) := by decide +kernel
theorem pd_17 : parseMethodDescriptor "(I)C" = some ⟨[.int], some .char⟩ := by decide +kernel
theorem d6_24 : decode prog_1_method_2_code 24 = .ok (.istore 4, 2) := by decide +kernel
theorem d6_26 : decode prog_1_method_2_code 26 = .ok (.aload_n 1, 1) := by decide +kernel
theorem d6_27 : decode prog_1_method_2_code 27 = .ok (.iload_n 3, 1) := by decide +kernel
theorem d6_28 : decode prog_1_method_2_code 28 = .ok (.invokevirtual 19, 3) := by decide +kernel
theorem d6_31 : decode prog_1_method_2_code 31 = .ok (.istore 5, 2) := by decide +kernel
theorem d6_33 : decode prog_1_method_2_code 33 = .ok (.iload 4, 2) := by decide +kernel
theorem d6_35 : decode prog_1_method_2_code 35 = .ok (.iload 5, 2) := by decide +kernel
theorem d6_37 : decode prog_1_method_2_code 37 = .ok (.if_icmp .eq 15, 3) := by decide +kernel
theorem d6_52 : decode prog_1_method_2_code 52 = .ok (.iinc 3 1, 3) := by decide +kernel
theorem d6_55 : decode prog_1_method_2_code 55 = .ok (.goto (-41), 3) := by decide +kernel
theorem d6_40 : decode prog_1_method_2_code 40 = .ok (.iload 4, 2) := by decide +kernel
theorem d6_42 : decode prog_1_method_2_code 42 = .ok (.invokestatic 23, 3) := by decide +kernel
theorem d6_45 : decode prog_1_method_2_code 45 = .ok (.iload 5, 2) := by decide +kernel
theorem d6_47 : decode prog_1_method_2_code 47 = .ok (.invokestatic 23, 3) := by decide +kernel
theorem d6_50 : decode prog_1_method_2_code 50 = .ok (.isub, 1) := by decide +kernel
theorem d6_51 : decode prog_1_method_2_code 51 = .ok (.ireturn, 1) := by decide +kernel
set_option maxRecDepth 65536 in
set_option maxHeartbeats 40000000 in
theorem ctCm (l : Launch) (Z : State) (a0 : Array Value) (hw : ∀ d ∈ tables_1, d.before a0 Z = true) (cz : Int32) (x y : Addr) (xs us ys ws : List Int32) (c1 c2 : Int32) (fv : Value) (h0 : Heap) (n0 : Nat) (O : Old Z n0 h0) (G : Sta Z Z.heap "java/lang/String" "COMPACT_STRINGS" "Z" (.int cz)) (hcz : cz ≠ 0) (hx1 : xs.length ≤ 4000) (hy1 : ys.length ≤ 4000) (hch1 : Chs xs) (hch2 : Chs ys) (hE1 : Enc xs c1 us) (hE2 : Enc ys c2 ws) (S1 : Str Z h0 x c1 us) (S2 : Str Z h0 y c2 ws) (Ga : Sta Z Z.heap "java/lang/StringUTF16" "$assertionsDisabled" "Z" (.int 1)) (Gh : Sta Z Z.heap "java/lang/StringUTF16" "HI_BYTE_SHIFT" "I" (.int 0)) (Gl : Sta Z Z.heap "java/lang/StringUTF16" "LO_BYTE_SHIFT" "I" (.int 8)) (Gf : Sta Z Z.heap "jdk/internal/util/Preconditions" "SIOOBE_FORMATTER" "Ljava/util/function/BiFunction;" fv) (hfv : fv.isRef = true) :
    CtN l Z (⟨"com/example/emit_on_change/emitonchange/CodePointOrder", "compare", "(Ljava/lang/String;Ljava/lang/String;)I"⟩ : MethodName) prog_1_method_2_code 6 (some .int) ({ frames := 5, cells := 0, slots := 0, locals := 66 } : Room) n0 #[(.ref x), (.ref y)] h0 (fun v h => ∃ u : Int32, v = some (.int u) ∧ u.toInt = own_cmp xs ys ∧ h0 = h) := by
  refine CtN.of (plainFor_of_name pn_com_example_emit_on_change_emitonchange_CodePointOrder) ?_
  intro p e s m below meth c T0 W0 hnm
  refine Wp.cast (ef_6_RR m x y) ?_
  have Ex := S1.exa
  have Ey := S2.exa
  refine w_aloadN W0 d6_0 rfl rfl ?_
  refine w_virt W0 (ctLn l Z a0 hw cz x xs us c1 _ n0 O G hcz hx1 hE1 S1) (hw _ (List.mem_of_getElem? (i := 34) rfl)) (hw _ (List.mem_of_getElem? (i := 35) rfl)) (notFace_of_selects (args := #[]) (mvT W0.wZ (hw _ (List.mem_of_getElem? (i := 37) rfl)))) (hw _ (List.mem_of_getElem? (i := 37) rfl)) (hw _ (List.mem_of_getElem? (i := 36) rfl)) (hw _ (List.mem_of_getElem? (i := 7) rfl)) (hw _ (List.mem_of_getElem? (i := 38) rfl)) (by decide) 0 (by decide) (by decide) (by decide) (by decide) (a := x) Ex (argsL := []) (rest := []) pd_15 rfl rfl rfl rfl rfl d6_1 ?_
  rintro T1 h1 l1 _ W1 ⟨rfl, rfl⟩
  refine w_aloadN W1 d6_4 rfl rfl ?_
  refine w_virt W1 (ctLn l Z a0 hw cz y ys ws c2 _ n0 O G hcz hy1 hE2 S2) (hw _ (List.mem_of_getElem? (i := 34) rfl)) (hw _ (List.mem_of_getElem? (i := 35) rfl)) (notFace_of_selects (args := #[]) (mvT W1.wZ (hw _ (List.mem_of_getElem? (i := 37) rfl)))) (hw _ (List.mem_of_getElem? (i := 37) rfl)) (hw _ (List.mem_of_getElem? (i := 36) rfl)) (hw _ (List.mem_of_getElem? (i := 7) rfl)) (hw _ (List.mem_of_getElem? (i := 38) rfl)) (by decide) 1 (by decide) (by decide) (by decide) (by decide) (a := y) Ey (argsL := []) (rest := [(.int (Int32.ofNat xs.length))]) pd_15 rfl rfl rfl rfl rfl d6_5 ?_
  rintro T2 h2 l2 _ W2 ⟨rfl, rfl⟩
  refine w_callS W2 (ctMi l Z a0 hw xs.length ys.length _ n0 hx1 hy1) (hw _ (List.mem_of_getElem? (i := 45) rfl)) (hw _ (List.mem_of_getElem? (i := 46) rfl)) (hw _ (List.mem_of_getElem? (i := 47) rfl)) (hw _ (List.mem_of_getElem? (i := 48) rfl)) (by decide) 0 (by decide) (by decide) (by decide) (by decide) (argsL := [(.int (Int32.ofNat xs.length)), (.int (Int32.ofNat ys.length))]) (rest := []) pd_16 rfl rfl rfl rfl rfl d6_8 ?_
  rintro T3 h3 l3 _ W3 ⟨rfl, rfl⟩
  refine w_istoreN W3 (L' := #[.val (.ref x), .val (.ref y), .val (.int (Int32.ofNat (min xs.length ys.length))), .unset, .unset, .unset]) d6_11 rfl ?_
  refine w_iconst W3 (z := (0 : Int32)) d6_12 (by rfl) ?_
  refine w_istoreN W3 (L' := #[.val (.ref x), .val (.ref y), .val (.int (Int32.ofNat (min xs.length ys.length))), .val (.int (0 : Int32)), .unset, .unset]) d6_13 rfl ?_
  have loop : ∀ (r i : Nat) (T : State) (locs : List Loc) (s4 s5 : Slot) (W : Wk p l e ({ frames := 5, cells := 0, slots := 0, locals := 66 } : Room) s s.vm m #[(.ref x), (.ref y)] below meth c Z "com/example/emit_on_change/emitonchange/CodePointOrder" n0 prog_1_method_2_code 6 (some .int) T h0 locs 0 0) (hi : i + r = min xs.length ys.length) (hq : own_cmp xs ys = own_cmp (xs.drop i) (ys.drop i)) (hs4 : s4 = .unset ∨ ∃ w : Int32, s4 = .val (.int w)) (hs5 : s5 = .unset ∨ ∃ w : Int32, s5 = .val (.int w)), Wp p e below (PoN n0 s 0 0 (fun v h => ∃ u : Int32, v = some (.int u) ∧ u.toInt = own_cmp xs ys ∧ h0 = h)) T (mkF m 14 #[.val (.ref x), .val (.ref y), .val (.int (Int32.ofNat (min xs.length ys.length))), .val (.int (Int32.ofNat i)), s4, s5] []) := by
    intro r
    induction r with
    | zero =>
      intro i T locs s4 s5 W hi hq hs4 hs5
      refine w_iloadN W d6_14 rfl ?_
      refine w_iloadN W d6_15 rfl ?_
      refine w_icmpge W (pc' := 58) d6_16 (by decide) (fun c16 => ?_) (fun c16 => ?_)
      · refine w_aloadN W d6_58 rfl rfl ?_
        refine w_virt W (ctLn l Z a0 hw cz x xs us c1 _ n0 O G hcz hx1 hE1 S1) (hw _ (List.mem_of_getElem? (i := 34) rfl)) (hw _ (List.mem_of_getElem? (i := 35) rfl)) (notFace_of_selects (args := #[]) (mvT W.wZ (hw _ (List.mem_of_getElem? (i := 37) rfl)))) (hw _ (List.mem_of_getElem? (i := 37) rfl)) (hw _ (List.mem_of_getElem? (i := 36) rfl)) (hw _ (List.mem_of_getElem? (i := 7) rfl)) (hw _ (List.mem_of_getElem? (i := 38) rfl)) (by decide) 0 (by decide) (by decide) (by decide) (by decide) (a := x) Ex (argsL := []) (rest := []) pd_15 rfl rfl rfl rfl rfl d6_59 ?_
        rintro T4 h4 l4 _ W4 ⟨rfl, rfl⟩
        refine w_aloadN W4 d6_62 rfl rfl ?_
        refine w_virt W4 (ctLn l Z a0 hw cz y ys ws c2 _ n0 O G hcz hy1 hE2 S2) (hw _ (List.mem_of_getElem? (i := 34) rfl)) (hw _ (List.mem_of_getElem? (i := 35) rfl)) (notFace_of_selects (args := #[]) (mvT W4.wZ (hw _ (List.mem_of_getElem? (i := 37) rfl)))) (hw _ (List.mem_of_getElem? (i := 37) rfl)) (hw _ (List.mem_of_getElem? (i := 36) rfl)) (hw _ (List.mem_of_getElem? (i := 7) rfl)) (hw _ (List.mem_of_getElem? (i := 38) rfl)) (by decide) 1 (by decide) (by decide) (by decide) (by decide) (a := y) Ey (argsL := []) (rest := [(.int (Int32.ofNat xs.length))]) pd_15 rfl rfl rfl rfl rfl d6_63 ?_
        rintro T5 h5 l5 _ W5 ⟨rfl, rfl⟩
        refine w_isub W5 d6_66 rfl ?_
        exact n_rI W5 rfl d6_67 (by decide) (by decide) ⟨_, rfl, by rw [hq, own_cmpEnd (by omega)]; exact own_subI (own_ti (by omega)) (own_ti (by omega)) (by omega) (by omega), rfl⟩
      · exact absurd c16 (fun q => by rw [own_ltI (by omega) (by omega)] at q; omega)
    | succ r ih =>
      intro i T locs s4 s5 W hi hq hs4 hs5
      have hix : i < xs.length := by omega
      have hiy : i < ys.length := by omega
      have hk1 := hch1 _ (own_gmem hix)
      have hk2 := hch2 _ (own_gmem hiy)
      refine w_iloadN W d6_14 rfl ?_
      refine w_iloadN W d6_15 rfl ?_
      refine w_icmpge W (pc' := 58) d6_16 (by decide) (fun c16 => ?_) (fun c16 => ?_)
      · exact absurd ((own_ltI (by omega) (by omega)).mpr (by omega)) c16
      · refine w_aloadN W d6_19 rfl rfl ?_
        refine w_iloadN W d6_20 rfl ?_
        refine w_virt W (ctCa l Z a0 hw cz x xs us c1 i fv _ n0 O G hcz hx1 hE1 S1 hix hch1 Ga Gh Gl Gf hfv) (hw _ (List.mem_of_getElem? (i := 67) rfl)) (hw _ (List.mem_of_getElem? (i := 68) rfl)) (notFace_of_selects (args := #[]) (mvT W.wZ (hw _ (List.mem_of_getElem? (i := 70) rfl)))) (hw _ (List.mem_of_getElem? (i := 70) rfl)) (hw _ (List.mem_of_getElem? (i := 69) rfl)) (hw _ (List.mem_of_getElem? (i := 7) rfl)) (hw _ (List.mem_of_getElem? (i := 71) rfl)) (by decide) 0 (by decide) (by decide) (by decide) (by decide) (a := x) Ex (argsL := [(.int (Int32.ofNat i))]) (rest := []) pd_17 rfl rfl rfl rfl rfl d6_21 ?_
        rintro T6 h6 l6 _ W6 ⟨rfl, rfl⟩
        refine w_istore W6 (L' := #[.val (.ref x), .val (.ref y), .val (.int (Int32.ofNat (min xs.length ys.length))), .val (.int (Int32.ofNat i)), .val (.int (xs.getD i 0)), s5]) d6_24 (by rcases hs4 with rfl | ⟨w, rfl⟩ <;> rcases hs5 with rfl | ⟨w', rfl⟩ <;> rfl) ?_
        refine w_aloadN W6 d6_26 rfl rfl ?_
        refine w_iloadN W6 d6_27 rfl ?_
        refine w_virt W6 (ctCa l Z a0 hw cz y ys ws c2 i fv _ n0 O G hcz hy1 hE2 S2 hiy hch2 Ga Gh Gl Gf hfv) (hw _ (List.mem_of_getElem? (i := 67) rfl)) (hw _ (List.mem_of_getElem? (i := 68) rfl)) (notFace_of_selects (args := #[]) (mvT W6.wZ (hw _ (List.mem_of_getElem? (i := 70) rfl)))) (hw _ (List.mem_of_getElem? (i := 70) rfl)) (hw _ (List.mem_of_getElem? (i := 69) rfl)) (hw _ (List.mem_of_getElem? (i := 7) rfl)) (hw _ (List.mem_of_getElem? (i := 71) rfl)) (by decide) 0 (by decide) (by decide) (by decide) (by decide) (a := y) Ey (argsL := [(.int (Int32.ofNat i))]) (rest := []) pd_17 rfl rfl rfl rfl rfl d6_28 ?_
        rintro T7 h7 l7 _ W7 ⟨rfl, rfl⟩
        refine w_istore W7 (L' := #[.val (.ref x), .val (.ref y), .val (.int (Int32.ofNat (min xs.length ys.length))), .val (.int (Int32.ofNat i)), .val (.int (xs.getD i 0)), .val (.int (ys.getD i 0))]) d6_31 (by rcases hs5 with rfl | ⟨w', rfl⟩ <;> rfl) ?_
        refine w_iload W7 d6_33 rfl ?_
        refine w_iload W7 d6_35 rfl ?_
        refine w_icmpeq W7 (pc' := 52) d6_37 (by decide) (fun c37 => ?_) (fun c37 => ?_)
        · refine w_iinc W7 (L' := #[.val (.ref x), .val (.ref y), .val (.int (Int32.ofNat (min xs.length ys.length))), .val (.int ((Int32.ofNat i) + (1 : Int32))), .val (.int (xs.getD i 0)), .val (.int (ys.getD i 0))]) d6_52 rfl (z := ((Int32.ofNat i) + (1 : Int32))) (by rfl) rfl ?_
          refine w_goto W7 (pc' := 14) d6_55 (by decide) ?_
          simp only [own_one]
          exact ih (i + 1) _ _ _ _ W7 (by omega) (hq.trans (own_cmpEq hix hiy c37)) (Or.inr ⟨_, rfl⟩) (Or.inr ⟨_, rfl⟩)
        · refine w_iload W7 d6_40 rfl ?_
          refine w_callS W7 (ctRk l Z a0 hw (xs.getD i 0) _ n0 hk1) (hw _ (List.mem_of_getElem? (i := 89) rfl)) (hw _ (List.mem_of_getElem? (i := 90) rfl)) (hw _ (List.mem_of_getElem? (i := 32) rfl)) (hw _ (List.mem_of_getElem? (i := 91) rfl)) (by decide) 0 (by decide) (by decide) (by decide) (by decide) (argsL := [(.int (xs.getD i 0))]) (rest := []) pd_14 rfl rfl rfl rfl rfl d6_42 ?_
          rintro T8 h8 l8 _ W8 ⟨r1, rfl, hr1, rfl⟩
          refine w_iload W8 d6_45 rfl ?_
          refine w_callS W8 (ctRk l Z a0 hw (ys.getD i 0) _ n0 hk2) (hw _ (List.mem_of_getElem? (i := 89) rfl)) (hw _ (List.mem_of_getElem? (i := 90) rfl)) (hw _ (List.mem_of_getElem? (i := 32) rfl)) (hw _ (List.mem_of_getElem? (i := 91) rfl)) (by decide) 1 (by decide) (by decide) (by decide) (by decide) (argsL := [(.int (ys.getD i 0))]) (rest := [(.int r1)]) pd_14 rfl rfl rfl rfl rfl d6_47 ?_
          rintro T9 h9 l9 _ W9 ⟨r2, rfl, hr2, rfl⟩
          refine w_isub W9 d6_50 rfl ?_
          exact n_rI W9 rfl d6_51 (by decide) (by decide) ⟨_, rfl, by rw [hq, own_cmpNe hix hiy c37]; have q1 := own_rankB hk1; have q2 := own_rankB hk2; exact own_subI hr1 hr2 (by omega) (by omega), rfl⟩
  exact loop (min xs.length ys.length) 0 _ _ _ _ W3 (by omega) rfl (Or.inl rfl) (Or.inl rfl)
theorem ef_1_III (m : MethodId) (x0 : Int32) (x1 : Int32) (x2 : Int32) : entryFrame m #[(.int x0), (.int x1), (.int x2)] 3 = mkF m 0 #[.val (.int x0), .val (.int x1), .val (.int x2)] [] := by first | (simp [entryFrame, mkF, argsToLocals, Value.category]; done) | rfl
theorem d1_0 : decode method_3_code 0 = .ok (.iload_n 0, 1) := by decide +kernel
theorem d1_1 : decode method_3_code 1 = .ok (.ifCond .ne 14, 3) := by decide +kernel
theorem d1_4 : decode method_3_code 4 = .ok (.new 28, 3) := by decide +kernel
theorem d1_7 : decode method_3_code 7 = .ok (.dup, 1) := by decide +kernel
theorem d1_8 : decode method_3_code 8 = .ok (.iconst 0, 1) := by decide +kernel
theorem d1_9 : decode method_3_code 9 = .ok (.newarray .char, 2) := by decide +kernel
theorem d1_11 : decode method_3_code 11 = .ok (.invokespecial 30, 3) := by decide +kernel
theorem pd_18 : parseMethodDescriptor "([C)V" = some ⟨[(.array .char)], none⟩ := by decide +kernel
theorem d1_14 : decode method_3_code 14 = .ok (.areturn, 1) := by decide +kernel
theorem d1_15 : decode method_3_code 15 = .ok (.iload_n 0, 1) := by decide +kernel
theorem d1_16 : decode method_3_code 16 = .ok (.iconst 1, 1) := by decide +kernel
theorem d1_17 : decode method_3_code 17 = .ok (.if_icmp .ne 18, 3) := by decide +kernel
theorem d1_20 : decode method_3_code 20 = .ok (.new 28, 3) := by decide +kernel
theorem d1_23 : decode method_3_code 23 = .ok (.dup, 1) := by decide +kernel
theorem d1_24 : decode method_3_code 24 = .ok (.iconst 1, 1) := by decide +kernel
theorem d1_25 : decode method_3_code 25 = .ok (.newarray .char, 2) := by decide +kernel
theorem d1_27 : decode method_3_code 27 = .ok (.dup, 1) := by decide +kernel
theorem d1_28 : decode method_3_code 28 = .ok (.iconst 0, 1) := by decide +kernel
theorem d1_29 : decode method_3_code 29 = .ok (.iload_n 1, 1) := by decide +kernel
theorem d1_30 : decode method_3_code 30 = .ok (.castore, 1) := by decide +kernel
theorem d1_31 : decode method_3_code 31 = .ok (.invokespecial 30, 3) := by decide +kernel
theorem d1_34 : decode method_3_code 34 = .ok (.areturn, 1) := by decide +kernel
theorem d1_35 : decode method_3_code 35 = .ok (.new 28, 3) := by decide +kernel
theorem d1_38 : decode method_3_code 38 = .ok (.dup, 1) := by decide +kernel
theorem d1_39 : decode method_3_code 39 = .ok (.iconst 2, 1) := by decide +kernel
theorem d1_40 : decode method_3_code 40 = .ok (.newarray .char, 2) := by decide +kernel
theorem d1_42 : decode method_3_code 42 = .ok (.dup, 1) := by decide +kernel
theorem d1_43 : decode method_3_code 43 = .ok (.iconst 0, 1) := by decide +kernel
theorem d1_44 : decode method_3_code 44 = .ok (.iload_n 1, 1) := by decide +kernel
theorem d1_45 : decode method_3_code 45 = .ok (.castore, 1) := by decide +kernel
theorem d1_46 : decode method_3_code 46 = .ok (.dup, 1) := by decide +kernel
theorem d1_47 : decode method_3_code 47 = .ok (.iconst 1, 1) := by decide +kernel
theorem d1_48 : decode method_3_code 48 = .ok (.iload_n 2, 1) := by decide +kernel
theorem d1_49 : decode method_3_code 49 = .ok (.castore, 1) := by decide +kernel
theorem d1_50 : decode method_3_code 50 = .ok (.invokespecial 30, 3) := by decide +kernel
theorem d1_53 : decode method_3_code 53 = .ok (.areturn, 1) := by decide +kernel
set_option maxRecDepth 65536 in
set_option maxHeartbeats 40000000 in
theorem ctMk (l : Launch) (Z : State) (a0 : Array Value) (hw : ∀ d ∈ tables_1, d.before a0 Z = true) (cz : Int32) (n k0 k1 : Int32) (h0 : Heap) (n0 : Nat) (hCH : Jvm.Lit.constHeld Z "java/lang/String" 7) (ht : T3 n) (bk0 : 0 ≤ k0.toInt ∧ k0.toInt < 65536) (bk1 : 0 ≤ k1.toInt ∧ k1.toInt < 65536) (O : Old Z n0 h0) (G : Sta Z Z.heap "java/lang/String" "COMPACT_STRINGS" "Z" (.int cz)) (hcz : cz ≠ 0) (Ga : Sta Z Z.heap "java/lang/StringUTF16" "$assertionsDisabled" "Z" (.int 1)) (Gh : Sta Z Z.heap "java/lang/StringUTF16" "HI_BYTE_SHIFT" "I" (.int 0)) (Gl : Sta Z Z.heap "java/lang/StringUTF16" "LO_BYTE_SHIFT" "I" (.int 8)) :
    CtW l Z (⟨"com/example/emit_on_change/emitonchange/CodePointOrderComparePinLaw", "mk", "(ICC)Ljava/lang/String;"⟩ : MethodName) method_3_code 3 (some (.object "java/lang/String")) ({ frames := 6, cells := 4, slots := 12, locals := 88 } : Room) n0 #[(.int n), (.int k0), (.int k1)] h0 (fun vm => St Z vm h0) (fun v h vm => ∃ a co us, v = some (.ref a) ∧ Ext h0 h ∧ h0.size ≤ a ∧ Str Z h a co us ∧ Enc (own_mk n k0 k1) co us ∧ St Z vm h) := by
  refine CtW.of (plainFor_of_name pn_com_example_emit_on_change_emitonchange_CodePointOrderComparePinLaw) ?_
  intro p e s m below meth c T0 W0 hnm hs0 hV
  refine Wp.cast (ef_1_III m n k0 k1) ?_
  have hcsT := own_mkCh (n := n) bk0 bk1
  rcases ht with rfl | rfl | rfl
  · have hcsT : Chs [] := hcsT
    refine w_iloadN W0 d1_0 rfl ?_
    refine w_ifne W0 (pc' := 15) d1_1 (by decide) (fun c1 => absurd c1 (by decide)) (fun c1 => ?_)
    refine w_new W0 (hw _ (List.mem_of_getElem? (i := 5) rfl)) (hw _ (List.mem_of_getElem? (i := 6) rfl)) (hw _ (List.mem_of_getElem? (i := 7) rfl)) d1_4 (by decide) (by decide) ?_
    intro T1 h1 sa W1 E1 g1 A1 D1
    have hsa : h0.size ≤ sa := Nat.le_of_eq g1.symm
    have Fv := (D1 (Or.inr (hw _ (List.mem_of_getElem? (i := 21) rfl))) (ty := (.array .byte)) (by decide) : Fld Z h1 _ "java/lang/String" "value" "[B" .null)
    have Fc := (D1 (Or.inr (hw _ (List.mem_of_getElem? (i := 22) rfl))) (ty := .byte) (by decide) : Fld Z h1 _ "java/lang/String" "coder" "B" (.int 0))
    have As := A1
    refine w_dup W1 d1_7 rfl ?_
    refine w_iconst W1 (z := (0 : Int32)) d1_8 (by rfl) ?_
    refine w_newarr W1 (ty := .char) (dv := (.int 0)) (hw _ (List.mem_of_getElem? (i := 8) rfl)) rfl rfl d1_9 (by decide) 0 (by decide) (by decide) (by decide) (by decide) ?_
    intro T2 h2 ca k2 W2 E2 g2 V2
    have g0 : n0 ≤ ca := by rw [g2]; exact Nat.le_trans (own_oldle O) (E1).1
    have V0 := V2.pad (pad_rep [] (.int 0) 0)
    have Ca : Arv Z h2 ca _ .char (Int32.ofNat ([] : List Int32).length) (([] : List Int32).map Value.int) (.int 0) := V0
    have XX := own_extTrans E1 E2
    refine w_specialW W2 (ctS1 l Z a0 hw cz sa ca _ [] _ n0 hCH (Nat.le_of_ble_eq_true rfl) hcsT (O.ext XX) G hcz Ga Gh Gl (As.ext E2) (Fv.ext E2) (Fc.ext E2) (Nat.le_trans (own_oldle O) hsa) Ca) (fun vm' q => St.warm (hV.ext XX) q) rfl (hw _ (List.mem_of_getElem? (i := 9) rfl)) (hw _ (List.mem_of_getElem? (i := 10) rfl)) (hw _ (List.mem_of_getElem? (i := 7) rfl)) (hw _ (List.mem_of_getElem? (i := 11) rfl)) (by decide) 1 (by decide) (by decide) (by decide) (by decide) (a := sa) (argsL := [(.ref ca)]) (rest := [(.ref sa)]) pd_18 rfl rfl rfl rfl rfl d1_11 ?_
    rintro T3 h3 l3 vm3 _ W3 hw3 ⟨rfl, Kx, ⟨co, us, Sx, hE⟩, St1⟩
    exact x_rA W3 rfl rfl rfl d1_14 (by decide) (by decide) (fun vm' hvm' => ⟨sa, co, us, rfl, own_extKeep XX Kx (allS hsa all0), hsa, Sx, hE, St.warm St1 hvm'⟩)
  · have hcsT : Chs [k0] := hcsT
    refine w_iloadN W0 d1_0 rfl ?_
    refine w_ifne W0 (pc' := 15) d1_1 (by decide) (fun c1 => ?_) (fun c1 => absurd c1 (by decide))
    refine w_iloadN W0 d1_15 rfl ?_
    refine w_iconst W0 (z := (1 : Int32)) d1_16 (by rfl) ?_
    refine w_icmpne W0 (pc' := 35) d1_17 (by decide) (fun c17 => absurd c17 (by decide)) (fun c17 => ?_)
    refine w_new W0 (hw _ (List.mem_of_getElem? (i := 5) rfl)) (hw _ (List.mem_of_getElem? (i := 6) rfl)) (hw _ (List.mem_of_getElem? (i := 7) rfl)) d1_20 (by decide) (by decide) ?_
    intro T4 h4 sa W4 E4 g4 A4 D4
    have hsa : h0.size ≤ sa := Nat.le_of_eq g4.symm
    have Fv := (D4 (Or.inr (hw _ (List.mem_of_getElem? (i := 21) rfl))) (ty := (.array .byte)) (by decide) : Fld Z h4 _ "java/lang/String" "value" "[B" .null)
    have Fc := (D4 (Or.inr (hw _ (List.mem_of_getElem? (i := 22) rfl))) (ty := .byte) (by decide) : Fld Z h4 _ "java/lang/String" "coder" "B" (.int 0))
    have As := A4
    refine w_dup W4 d1_23 rfl ?_
    refine w_iconst W4 (z := (1 : Int32)) d1_24 (by rfl) ?_
    refine w_newarr W4 (ty := .char) (dv := (.int 0)) (hw _ (List.mem_of_getElem? (i := 8) rfl)) rfl rfl d1_25 (by decide) 1 (by decide) (by decide) (by decide) (by decide) ?_
    intro T5 h5 ca k5 W5 E5 g5 V5
    have g0 : n0 ≤ ca := by rw [g5]; exact Nat.le_trans (own_oldle O) (E4).1
    have V0 := V5.pad (pad_rep [] (.int 0) 1)
    refine w_dup W5 d1_27 rfl ?_
    refine w_iconst W5 (z := (0 : Int32)) d1_28 (by rfl) ?_
    refine w_iloadN W5 d1_29 rfl ?_
    refine w_castore W5 V0 ⟨by decide, by decide⟩ 0 (by decide) (Nat.le_of_ble_eq_true rfl) (x' := k0) (own_ncx bk0) g0 d1_30 ?_
    intro T6 h6 l6 W6 Wr6 V6
    have X6 := own_extWr E5 Wr6 (Nat.le_of_eq g5.symm)
    have Ca : Arv Z h6 ca _ .char (Int32.ofNat ([k0] : List Int32).length) (([k0] : List Int32).map Value.int) (.int 0) := V6
    have XX := own_extTrans E4 X6
    refine w_specialW W6 (ctS1 l Z a0 hw cz sa ca _ [k0] _ n0 hCH (Nat.le_of_ble_eq_true rfl) hcsT (O.ext XX) G hcz Ga Gh Gl (As.ext X6) (Fv.ext X6) (Fc.ext X6) (Nat.le_trans (own_oldle O) hsa) Ca) (fun vm' q => St.warm (hV.ext XX) q) rfl (hw _ (List.mem_of_getElem? (i := 9) rfl)) (hw _ (List.mem_of_getElem? (i := 10) rfl)) (hw _ (List.mem_of_getElem? (i := 7) rfl)) (hw _ (List.mem_of_getElem? (i := 11) rfl)) (by decide) 1 (by decide) (by decide) (by decide) (by decide) (a := sa) (argsL := [(.ref ca)]) (rest := [(.ref sa)]) pd_18 rfl rfl rfl rfl rfl d1_31 ?_
    rintro T7 h7 l7 vm7 _ W7 hw7 ⟨rfl, Kx, ⟨co, us, Sx, hE⟩, St1⟩
    exact x_rA W7 rfl rfl rfl d1_34 (by decide) (by decide) (fun vm' hvm' => ⟨sa, co, us, rfl, own_extKeep XX Kx (allS hsa all0), hsa, Sx, hE, St.warm St1 hvm'⟩)
  · have hcsT : Chs [k0, k1] := hcsT
    refine w_iloadN W0 d1_0 rfl ?_
    refine w_ifne W0 (pc' := 15) d1_1 (by decide) (fun c1 => ?_) (fun c1 => absurd c1 (by decide))
    refine w_iloadN W0 d1_15 rfl ?_
    refine w_iconst W0 (z := (1 : Int32)) d1_16 (by rfl) ?_
    refine w_icmpne W0 (pc' := 35) d1_17 (by decide) (fun c17 => ?_) (fun c17 => absurd c17 (by decide))
    refine w_new W0 (hw _ (List.mem_of_getElem? (i := 5) rfl)) (hw _ (List.mem_of_getElem? (i := 6) rfl)) (hw _ (List.mem_of_getElem? (i := 7) rfl)) d1_35 (by decide) (by decide) ?_
    intro T8 h8 sa W8 E8 g8 A8 D8
    have hsa : h0.size ≤ sa := Nat.le_of_eq g8.symm
    have Fv := (D8 (Or.inr (hw _ (List.mem_of_getElem? (i := 21) rfl))) (ty := (.array .byte)) (by decide) : Fld Z h8 _ "java/lang/String" "value" "[B" .null)
    have Fc := (D8 (Or.inr (hw _ (List.mem_of_getElem? (i := 22) rfl))) (ty := .byte) (by decide) : Fld Z h8 _ "java/lang/String" "coder" "B" (.int 0))
    have As := A8
    refine w_dup W8 d1_38 rfl ?_
    refine w_iconst W8 (z := (2 : Int32)) d1_39 (by rfl) ?_
    refine w_newarr W8 (ty := .char) (dv := (.int 0)) (hw _ (List.mem_of_getElem? (i := 8) rfl)) rfl rfl d1_40 (by decide) 2 (by decide) (by decide) (by decide) (by decide) ?_
    intro T9 h9 ca k9 W9 E9 g9 V9
    have g0 : n0 ≤ ca := by rw [g9]; exact Nat.le_trans (own_oldle O) (E8).1
    have V0 := V9.pad (pad_rep [] (.int 0) 2)
    refine w_dup W9 d1_42 rfl ?_
    refine w_iconst W9 (z := (0 : Int32)) d1_43 (by rfl) ?_
    refine w_iloadN W9 d1_44 rfl ?_
    refine w_castore W9 V0 ⟨by decide, by decide⟩ 0 (by decide) (Nat.le_of_ble_eq_true rfl) (x' := k0) (own_ncx bk0) g0 d1_45 ?_
    intro T10 h10 l10 W10 Wr10 V10
    have X10 := own_extWr E9 Wr10 (Nat.le_of_eq g9.symm)
    refine w_dup W10 d1_46 rfl ?_
    refine w_iconst W10 (z := (1 : Int32)) d1_47 (by rfl) ?_
    refine w_iloadN W10 d1_48 rfl ?_
    refine w_castore W10 V10 ⟨by decide, by decide⟩ 1 (by decide) (Nat.le_of_ble_eq_true rfl) (x' := k1) (own_ncx bk1) g0 d1_49 ?_
    intro T11 h11 l11 W11 Wr11 V11
    have X11 := own_extWr X10 Wr11 (Nat.le_of_eq g9.symm)
    have Ca : Arv Z h11 ca _ .char (Int32.ofNat ([k0, k1] : List Int32).length) (([k0, k1] : List Int32).map Value.int) (.int 0) := V11
    have XX := own_extTrans E8 X11
    refine w_specialW W11 (ctS1 l Z a0 hw cz sa ca _ [k0, k1] _ n0 hCH (Nat.le_of_ble_eq_true rfl) hcsT (O.ext XX) G hcz Ga Gh Gl (As.ext X11) (Fv.ext X11) (Fc.ext X11) (Nat.le_trans (own_oldle O) hsa) Ca) (fun vm' q => St.warm (hV.ext XX) q) rfl (hw _ (List.mem_of_getElem? (i := 9) rfl)) (hw _ (List.mem_of_getElem? (i := 10) rfl)) (hw _ (List.mem_of_getElem? (i := 7) rfl)) (hw _ (List.mem_of_getElem? (i := 11) rfl)) (by decide) 1 (by decide) (by decide) (by decide) (by decide) (a := sa) (argsL := [(.ref ca)]) (rest := [(.ref sa)]) pd_18 rfl rfl rfl rfl rfl d1_50 ?_
    rintro T12 h12 l12 vm12 _ W12 hw12 ⟨rfl, Kx, ⟨co, us, Sx, hE⟩, St1⟩
    exact x_rA W12 rfl rfl rfl d1_53 (by decide) (by decide) (fun vm' hvm' => ⟨sa, co, us, rfl, own_extKeep XX Kx (allS hsa all0), hsa, Sx, hE, St.warm St1 hvm'⟩)
theorem ef_0_IIIIII (m : MethodId) (x0 : Int32) (x1 : Int32) (x2 : Int32) (x3 : Int32) (x4 : Int32) (x5 : Int32) : entryFrame m #[(.int x0), (.int x1), (.int x2), (.int x3), (.int x4), (.int x5)] maxLocals = mkF m 0 #[.val (.int x0), .val (.int x1), .val (.int x2), .val (.int x3), .val (.int x4), .val (.int x5), .unset, .unset, .unset, .unset, .unset, .unset, .unset, .unset, .unset, .unset, .unset, .unset, .unset] [] := by first | (simp [entryFrame, mkF, argsToLocals, Value.category, maxLocals]; done) | rfl
theorem pd_19 : parseMethodDescriptor "(ICC)Ljava/lang/String;" = some ⟨[.int, .char, .char], some (.object "java/lang/String")⟩ := by decide +kernel
theorem pd_20 : parseMethodDescriptor "(Ljava/lang/String;Ljava/lang/String;)I" = some ⟨[(.object "java/lang/String"), (.object "java/lang/String")], some .int⟩ := by decide +kernel
theorem pd_21 : parseMethodDescriptor "(CC)I" = some ⟨[.char, .char], some .int⟩ := by decide +kernel
set_option maxRecDepth 65536 in
set_option maxHeartbeats 40000000 in
theorem ctLaw (l : Launch) (Z : State) (a0 : Array Value) (hw : ∀ d ∈ tables_1, d.before a0 Z = true) (cz : Int32) (fv : Value) (rla rlb ra rb rc rd : Int32) (h0 : Heap) (n0 : Nat) (hCH : Jvm.Lit.constHeld Z "java/lang/String" 7) (O : Old Z n0 h0) (G : Sta Z Z.heap "java/lang/String" "COMPACT_STRINGS" "Z" (.int cz)) (hcz : cz ≠ 0) (Ga : Sta Z Z.heap "java/lang/StringUTF16" "$assertionsDisabled" "Z" (.int 1)) (Gh : Sta Z Z.heap "java/lang/StringUTF16" "HI_BYTE_SHIFT" "I" (.int 0)) (Gl : Sta Z Z.heap "java/lang/StringUTF16" "LO_BYTE_SHIFT" "I" (.int 8)) (Gf : Sta Z Z.heap "jdk/internal/util/Preconditions" "SIOOBE_FORMATTER" "Ljava/util/function/BiFunction;" fv) (hfv : fv.isRef = true) :
    CtW l Z x code maxLocals ret room_1 n0 #[(.int rla), (.int rlb), (.int ra), (.int rb), (.int rc), (.int rd)] h0 (fun vm => St Z vm h0) (fun v _ _ => v = some (.int 1)) := by
  refine CtW.of (plainFor_of_name pn_com_example_emit_on_change_emitonchange_CodePointOrderComparePinLaw) ?_
  intro p e s m below meth c T0 W0 hnm hs0 hV
  refine Wp.cast (ef_0_IIIIII m rla rlb ra rb rc rd) ?_
  have J86 : ∀ (la lb f0 f1 x0 x1 y0 y1 : Int32) (ha : T3 la) (hb : T3 lb) (bx0 : 0 ≤ x0.toInt ∧ x0.toInt < 65536) (bx1 : 0 ≤ x1.toInt ∧ x1.toInt < 65536) (by0 : 0 ≤ y0.toInt ∧ y0.toInt < 65536) (by1 : 0 ≤ y1.toInt ∧ y1.toInt < 65536), Wp p e below (PoW n0 s 32 1152 (fun v _ _ => v = some (.int 1))) T0 (mkF m 86 #[.val (.int rla), .val (.int rlb), .val (.int ra), .val (.int rb), .val (.int rc), .val (.int rd), .val (.int la), .val (.int lb), .val (.int f0), .val (.int f1), .val (.int x0), .val (.int x1), .val (.int y0), .val (.int y1), .unset, .unset, .unset, .unset, .unset] []) := by
    intro la lb f0 f1 x0 x1 y0 y1 ha hb bx0 bx1 by0 by1
    refine w_iload W0 at_86 rfl ?_
    refine w_iload W0 at_88 rfl ?_
    refine w_iload W0 at_90 rfl ?_
    refine w_callSW W0 (ctMk l Z a0 hw cz la x0 x1 _ n0 hCH ha bx0 bx1 O G hcz Ga Gh Gl) (fun vm' q => St.warm hV q) (hw _ (List.mem_of_getElem? (i := 1) rfl)) (hw _ (List.mem_of_getElem? (i := 2) rfl)) (hw _ (List.mem_of_getElem? (i := 3) rfl)) (hw _ (List.mem_of_getElem? (i := 4) rfl)) (by decide) 0 (by decide) (by decide) (by decide) (by decide) (argsL := [(.int la), (.int x0), (.int x1)]) (rest := []) pd_19 rfl rfl rfl rfl rfl at_92 ?_
    rintro T1 h1 l1 vm1 _ W1 hw1 ⟨sA, co1, us1, rfl, EA, hsA, SA, hE1, St1⟩
    refine w_astore W1 (L' := #[.val (.int rla), .val (.int rlb), .val (.int ra), .val (.int rb), .val (.int rc), .val (.int rd), .val (.int la), .val (.int lb), .val (.int f0), .val (.int f1), .val (.int x0), .val (.int x1), .val (.int y0), .val (.int y1), .val (.ref sA), .unset, .unset, .unset, .unset]) at_95 rfl rfl ?_
    refine w_iload W1 at_97 rfl ?_
    refine w_iload W1 at_99 rfl ?_
    refine w_iload W1 at_101 rfl ?_
    refine w_callSW W1 (ctMk l Z a0 hw cz lb y0 y1 _ n0 hCH hb by0 by1 (O.ext EA) G hcz Ga Gh Gl) (fun vm' q => St.warm St1 q) (hw _ (List.mem_of_getElem? (i := 1) rfl)) (hw _ (List.mem_of_getElem? (i := 2) rfl)) (hw _ (List.mem_of_getElem? (i := 3) rfl)) (hw _ (List.mem_of_getElem? (i := 4) rfl)) (by decide) 0 (by decide) (by decide) (by decide) (by decide) (argsL := [(.int lb), (.int y0), (.int y1)]) (rest := []) pd_19 rfl rfl rfl rfl rfl at_103 ?_
    rintro T2 h2 l2 vm2 _ W2 hw2 ⟨sB, co2, us2, rfl, EB, hsB, SB, hE2, St2⟩
    have OB := O.ext (own_extTrans EA EB)
    have SA' := SA.ext EB
    refine w_astore W2 (L' := #[.val (.int rla), .val (.int rlb), .val (.int ra), .val (.int rb), .val (.int rc), .val (.int rd), .val (.int la), .val (.int lb), .val (.int f0), .val (.int f1), .val (.int x0), .val (.int x1), .val (.int y0), .val (.int y1), .val (.ref sA), .val (.ref sB), .unset, .unset, .unset]) at_106 rfl rfl ?_
    have J180 : ∀ (T : State) (locs : List Loc) (ref : Int32) (W : Wk p l e room_1 s vm2 m #[(.int rla), (.int rlb), (.int ra), (.int rb), (.int rc), (.int rd)] below meth c Z "com/example/emit_on_change/emitonchange/CodePointOrderComparePinLaw" n0 code maxLocals ret T h2 locs 8 24) (href : ref.toInt = own_sg (own_cmp (own_mk la x0 x1) (own_mk lb y0 y1))), Wp p e below (PoW n0 s 32 1152 (fun v _ _ => v = some (.int 1))) T (mkF m 180 #[.val (.int rla), .val (.int rlb), .val (.int ra), .val (.int rb), .val (.int rc), .val (.int rd), .val (.int la), .val (.int lb), .val (.int f0), .val (.int f1), .val (.int x0), .val (.int x1), .val (.int y0), .val (.int y1), .val (.ref sA), .val (.ref sB), .val (.int ref), .unset, .unset] []) := by
      intro T locs ref W href
      refine w_aload W at_180 rfl rfl ?_
      refine w_aload W at_182 rfl rfl ?_
      refine w_callS W (ctCm l Z a0 hw cz sA sB (own_mk la x0 x1) us1 (own_mk lb y0 y1) us2 co1 co2 fv _ n0 OB G hcz (Nat.le_trans (own_mkLen _ _) (by decide)) (Nat.le_trans (own_mkLen _ _) (by decide)) (own_mkCh bx0 bx1) (own_mkCh by0 by1) hE1 hE2 SA' SB Ga Gh Gl Gf hfv) (hw _ (List.mem_of_getElem? (i := 30) rfl)) (hw _ (List.mem_of_getElem? (i := 31) rfl)) (hw _ (List.mem_of_getElem? (i := 32) rfl)) (hw _ (List.mem_of_getElem? (i := 33) rfl)) (by decide) 0 (by decide) (by decide) (by decide) (by decide) (argsL := [(.ref sA), (.ref sB)]) (rest := []) pd_20 rfl rfl rfl rfl rfl at_184 ?_
      rintro T3 h3 l3 _ W3 ⟨ab, rfl, hab, rfl⟩
      refine w_istore W3 (L' := #[.val (.int rla), .val (.int rlb), .val (.int ra), .val (.int rb), .val (.int rc), .val (.int rd), .val (.int la), .val (.int lb), .val (.int f0), .val (.int f1), .val (.int x0), .val (.int x1), .val (.int y0), .val (.int y1), .val (.ref sA), .val (.ref sB), .val (.int ref), .val (.int ab), .unset]) at_187 rfl ?_
      refine w_aload W3 at_189 rfl rfl ?_
      refine w_aload W3 at_191 rfl rfl ?_
      refine w_callS W3 (ctCm l Z a0 hw cz sB sA (own_mk lb y0 y1) us2 (own_mk la x0 x1) us1 co2 co1 fv _ n0 OB G hcz (Nat.le_trans (own_mkLen _ _) (by decide)) (Nat.le_trans (own_mkLen _ _) (by decide)) (own_mkCh by0 by1) (own_mkCh bx0 bx1) hE2 hE1 SB SA' Ga Gh Gl Gf hfv) (hw _ (List.mem_of_getElem? (i := 30) rfl)) (hw _ (List.mem_of_getElem? (i := 31) rfl)) (hw _ (List.mem_of_getElem? (i := 32) rfl)) (hw _ (List.mem_of_getElem? (i := 33) rfl)) (by decide) 0 (by decide) (by decide) (by decide) (by decide) (argsL := [(.ref sB), (.ref sA)]) (rest := []) pd_20 rfl rfl rfl rfl rfl at_193 ?_
      rintro T4 h4 l4 _ W4 ⟨ba, rfl, hba, rfl⟩
      refine w_istore W4 (L' := #[.val (.int rla), .val (.int rlb), .val (.int ra), .val (.int rb), .val (.int rc), .val (.int rd), .val (.int la), .val (.int lb), .val (.int f0), .val (.int f1), .val (.int x0), .val (.int x1), .val (.int y0), .val (.int y1), .val (.ref sA), .val (.ref sB), .val (.int ref), .val (.int ab), .val (.int ba)]) at_196 rfl ?_
      refine w_iload W4 at_198 rfl ?_
      refine w_callS W4 (ctSg l Z a0 hw ab _ n0) (hw _ (List.mem_of_getElem? (i := 27) rfl)) (hw _ (List.mem_of_getElem? (i := 28) rfl)) (hw _ (List.mem_of_getElem? (i := 3) rfl)) (hw _ (List.mem_of_getElem? (i := 29) rfl)) (by decide) 0 (by decide) (by decide) (by decide) (by decide) (argsL := [(.int ab)]) (rest := []) pd_0 rfl rfl rfl rfl rfl at_200 ?_
      rintro T5 h5 l5 _ W5 ⟨sa1, rfl, hsa1, rfl⟩
      refine w_iload W5 at_203 rfl ?_
      refine w_icmpne W5 (pc' := 223) at_205 (by decide) (fun c205 => ?_) (fun c205 => ?_)
      · exact absurd (own_end1 hab hsa1 href) c205
      · refine w_iload W5 at_208 rfl ?_
        refine w_callS W5 (ctSg l Z a0 hw ba _ n0) (hw _ (List.mem_of_getElem? (i := 27) rfl)) (hw _ (List.mem_of_getElem? (i := 28) rfl)) (hw _ (List.mem_of_getElem? (i := 3) rfl)) (hw _ (List.mem_of_getElem? (i := 29) rfl)) (by decide) 0 (by decide) (by decide) (by decide) (by decide) (argsL := [(.int ba)]) (rest := []) pd_0 rfl rfl rfl rfl rfl at_210 ?_
        rintro T6 h6 l6 _ W6 ⟨sb1, rfl, hsb1, rfl⟩
        refine w_iload W6 at_213 rfl ?_
        refine w_ineg W6 at_215 rfl ?_
        refine w_icmpne W6 (pc' := 223) at_216 (by decide) (fun c216 => ?_) (fun c216 => ?_)
        · exact absurd (own_end2 hba hsb1 href) c216
        · refine w_iconst W6 (z := (1 : Int32)) at_219 (by rfl) ?_
          refine w_goto W6 (pc' := 224) at_220 (by decide) ?_
          exact x_rN W6 rfl (by simp) (z' := (1 : Int32)) (by rfl) at_224 (by decide) (by decide) (fun vm' hvm' => rfl)
    refine w_iload W2 at_108 rfl ?_
    refine w_iconst W2 (z := (1 : Int32)) at_110 (by rfl) ?_
    refine w_icmplt W2 (pc' := 139) at_111 (by decide) (fun c111 => ?_) (fun c111 => ?_)
    · refine w_iload W2 at_139 rfl ?_
      refine w_iconst W2 (z := (2 : Int32)) at_141 (by rfl) ?_
      refine w_icmplt W2 (pc' := 170) at_142 (by decide) (fun c142 => ?_) (fun c142 => ?_)
      · refine w_iload W2 at_170 rfl ?_
        refine w_iload W2 at_172 rfl ?_
        refine w_isub W2 at_174 rfl ?_
        refine w_callS W2 (ctSg l Z a0 hw (la - lb) _ n0) (hw _ (List.mem_of_getElem? (i := 27) rfl)) (hw _ (List.mem_of_getElem? (i := 28) rfl)) (hw _ (List.mem_of_getElem? (i := 3) rfl)) (hw _ (List.mem_of_getElem? (i := 29) rfl)) (by decide) 0 (by decide) (by decide) (by decide) (by decide) (argsL := [(.int (la - lb))]) (rest := []) pd_0 rfl rfl rfl rfl rfl at_175 ?_
        rintro T7 h7 l7 _ W7 ⟨ref, rfl, href, rfl⟩
        refine w_istore W7 (L' := #[.val (.int rla), .val (.int rlb), .val (.int ra), .val (.int rb), .val (.int rc), .val (.int rd), .val (.int la), .val (.int lb), .val (.int f0), .val (.int f1), .val (.int x0), .val (.int x1), .val (.int y0), .val (.int y1), .val (.ref sA), .val (.ref sB), .val (.int ref), .unset, .unset]) at_178 rfl ?_
        exact J180 _ _ _ W7 (own_refC ha hb (Or.inl c111) (Or.inl c142) href)
      · refine w_iload W2 at_145 rfl ?_
        refine w_iconst W2 (z := (2 : Int32)) at_147 (by rfl) ?_
        refine w_icmplt W2 (pc' := 170) at_148 (by decide) (fun c148 => ?_) (fun c148 => ?_)
        · refine w_iload W2 at_170 rfl ?_
          refine w_iload W2 at_172 rfl ?_
          refine w_isub W2 at_174 rfl ?_
          refine w_callS W2 (ctSg l Z a0 hw (la - lb) _ n0) (hw _ (List.mem_of_getElem? (i := 27) rfl)) (hw _ (List.mem_of_getElem? (i := 28) rfl)) (hw _ (List.mem_of_getElem? (i := 3) rfl)) (hw _ (List.mem_of_getElem? (i := 29) rfl)) (by decide) 0 (by decide) (by decide) (by decide) (by decide) (argsL := [(.int (la - lb))]) (rest := []) pd_0 rfl rfl rfl rfl rfl at_175 ?_
          rintro T8 h8 l8 _ W8 ⟨ref, rfl, href, rfl⟩
          refine w_istore W8 (L' := #[.val (.int rla), .val (.int rlb), .val (.int ra), .val (.int rb), .val (.int rc), .val (.int rd), .val (.int la), .val (.int lb), .val (.int f0), .val (.int f1), .val (.int x0), .val (.int x1), .val (.int y0), .val (.int y1), .val (.ref sA), .val (.ref sB), .val (.int ref), .unset, .unset]) at_178 rfl ?_
          exact J180 _ _ _ W8 (own_refC ha hb (Or.inl c111) (Or.inr (Or.inl c148)) href)
        · refine w_iload W2 at_151 rfl ?_
          refine w_iload W2 at_153 rfl ?_
          refine w_icmpeq W2 (pc' := 170) at_155 (by decide) (fun c155 => ?_) (fun c155 => ?_)
          · refine w_iload W2 at_170 rfl ?_
            refine w_iload W2 at_172 rfl ?_
            refine w_isub W2 at_174 rfl ?_
            refine w_callS W2 (ctSg l Z a0 hw (la - lb) _ n0) (hw _ (List.mem_of_getElem? (i := 27) rfl)) (hw _ (List.mem_of_getElem? (i := 28) rfl)) (hw _ (List.mem_of_getElem? (i := 3) rfl)) (hw _ (List.mem_of_getElem? (i := 29) rfl)) (by decide) 0 (by decide) (by decide) (by decide) (by decide) (argsL := [(.int (la - lb))]) (rest := []) pd_0 rfl rfl rfl rfl rfl at_175 ?_
            rintro T9 h9 l9 _ W9 ⟨ref, rfl, href, rfl⟩
            refine w_istore W9 (L' := #[.val (.int rla), .val (.int rlb), .val (.int ra), .val (.int rb), .val (.int rc), .val (.int rd), .val (.int la), .val (.int lb), .val (.int f0), .val (.int f1), .val (.int x0), .val (.int x1), .val (.int y0), .val (.int y1), .val (.ref sA), .val (.ref sB), .val (.int ref), .unset, .unset]) at_178 rfl ?_
            exact J180 _ _ _ W9 (own_refC ha hb (Or.inl c111) (Or.inr (Or.inr c155)) href)
          · refine w_iload W2 at_158 rfl ?_
            refine w_iload W2 at_160 rfl ?_
            refine w_callS W2 (ctUc l Z a0 hw x1 y1 _ n0 bx1 by1) (hw _ (List.mem_of_getElem? (i := 59) rfl)) (hw _ (List.mem_of_getElem? (i := 60) rfl)) (hw _ (List.mem_of_getElem? (i := 3) rfl)) (hw _ (List.mem_of_getElem? (i := 61) rfl)) (by decide) 0 (by decide) (by decide) (by decide) (by decide) (argsL := [(.int x1), (.int y1)]) (rest := []) pd_21 rfl rfl rfl rfl rfl at_162 ?_
            rintro T10 h10 l10 _ W10 ⟨ref, rfl, href, rfl⟩
            refine w_istore W10 (L' := #[.val (.int rla), .val (.int rlb), .val (.int ra), .val (.int rb), .val (.int rc), .val (.int rd), .val (.int la), .val (.int lb), .val (.int f0), .val (.int f1), .val (.int x0), .val (.int x1), .val (.int y0), .val (.int y1), .val (.ref sA), .val (.ref sB), .val (.int ref), .unset, .unset]) at_165 rfl ?_
            refine w_goto W10 (pc' := 180) at_167 (by decide) ?_
            exact J180 _ _ _ W10 (own_refB ha hb (Or.inl c111) c142 c148 c155 href)
    · refine w_iload W2 at_114 rfl ?_
      refine w_iconst W2 (z := (1 : Int32)) at_116 (by rfl) ?_
      refine w_icmplt W2 (pc' := 139) at_117 (by decide) (fun c117 => ?_) (fun c117 => ?_)
      · refine w_iload W2 at_139 rfl ?_
        refine w_iconst W2 (z := (2 : Int32)) at_141 (by rfl) ?_
        refine w_icmplt W2 (pc' := 170) at_142 (by decide) (fun c142 => ?_) (fun c142 => ?_)
        · refine w_iload W2 at_170 rfl ?_
          refine w_iload W2 at_172 rfl ?_
          refine w_isub W2 at_174 rfl ?_
          refine w_callS W2 (ctSg l Z a0 hw (la - lb) _ n0) (hw _ (List.mem_of_getElem? (i := 27) rfl)) (hw _ (List.mem_of_getElem? (i := 28) rfl)) (hw _ (List.mem_of_getElem? (i := 3) rfl)) (hw _ (List.mem_of_getElem? (i := 29) rfl)) (by decide) 0 (by decide) (by decide) (by decide) (by decide) (argsL := [(.int (la - lb))]) (rest := []) pd_0 rfl rfl rfl rfl rfl at_175 ?_
          rintro T11 h11 l11 _ W11 ⟨ref, rfl, href, rfl⟩
          refine w_istore W11 (L' := #[.val (.int rla), .val (.int rlb), .val (.int ra), .val (.int rb), .val (.int rc), .val (.int rd), .val (.int la), .val (.int lb), .val (.int f0), .val (.int f1), .val (.int x0), .val (.int x1), .val (.int y0), .val (.int y1), .val (.ref sA), .val (.ref sB), .val (.int ref), .unset, .unset]) at_178 rfl ?_
          exact J180 _ _ _ W11 (own_refC ha hb (Or.inr (Or.inl c117)) (Or.inl c142) href)
        · refine w_iload W2 at_145 rfl ?_
          refine w_iconst W2 (z := (2 : Int32)) at_147 (by rfl) ?_
          refine w_icmplt W2 (pc' := 170) at_148 (by decide) (fun c148 => ?_) (fun c148 => ?_)
          · refine w_iload W2 at_170 rfl ?_
            refine w_iload W2 at_172 rfl ?_
            refine w_isub W2 at_174 rfl ?_
            refine w_callS W2 (ctSg l Z a0 hw (la - lb) _ n0) (hw _ (List.mem_of_getElem? (i := 27) rfl)) (hw _ (List.mem_of_getElem? (i := 28) rfl)) (hw _ (List.mem_of_getElem? (i := 3) rfl)) (hw _ (List.mem_of_getElem? (i := 29) rfl)) (by decide) 0 (by decide) (by decide) (by decide) (by decide) (argsL := [(.int (la - lb))]) (rest := []) pd_0 rfl rfl rfl rfl rfl at_175 ?_
            rintro T12 h12 l12 _ W12 ⟨ref, rfl, href, rfl⟩
            refine w_istore W12 (L' := #[.val (.int rla), .val (.int rlb), .val (.int ra), .val (.int rb), .val (.int rc), .val (.int rd), .val (.int la), .val (.int lb), .val (.int f0), .val (.int f1), .val (.int x0), .val (.int x1), .val (.int y0), .val (.int y1), .val (.ref sA), .val (.ref sB), .val (.int ref), .unset, .unset]) at_178 rfl ?_
            exact J180 _ _ _ W12 (own_refC ha hb (Or.inr (Or.inl c117)) (Or.inr (Or.inl c148)) href)
          · refine w_iload W2 at_151 rfl ?_
            refine w_iload W2 at_153 rfl ?_
            refine w_icmpeq W2 (pc' := 170) at_155 (by decide) (fun c155 => ?_) (fun c155 => ?_)
            · refine w_iload W2 at_170 rfl ?_
              refine w_iload W2 at_172 rfl ?_
              refine w_isub W2 at_174 rfl ?_
              refine w_callS W2 (ctSg l Z a0 hw (la - lb) _ n0) (hw _ (List.mem_of_getElem? (i := 27) rfl)) (hw _ (List.mem_of_getElem? (i := 28) rfl)) (hw _ (List.mem_of_getElem? (i := 3) rfl)) (hw _ (List.mem_of_getElem? (i := 29) rfl)) (by decide) 0 (by decide) (by decide) (by decide) (by decide) (argsL := [(.int (la - lb))]) (rest := []) pd_0 rfl rfl rfl rfl rfl at_175 ?_
              rintro T13 h13 l13 _ W13 ⟨ref, rfl, href, rfl⟩
              refine w_istore W13 (L' := #[.val (.int rla), .val (.int rlb), .val (.int ra), .val (.int rb), .val (.int rc), .val (.int rd), .val (.int la), .val (.int lb), .val (.int f0), .val (.int f1), .val (.int x0), .val (.int x1), .val (.int y0), .val (.int y1), .val (.ref sA), .val (.ref sB), .val (.int ref), .unset, .unset]) at_178 rfl ?_
              exact J180 _ _ _ W13 (own_refC ha hb (Or.inr (Or.inl c117)) (Or.inr (Or.inr c155)) href)
            · refine w_iload W2 at_158 rfl ?_
              refine w_iload W2 at_160 rfl ?_
              refine w_callS W2 (ctUc l Z a0 hw x1 y1 _ n0 bx1 by1) (hw _ (List.mem_of_getElem? (i := 59) rfl)) (hw _ (List.mem_of_getElem? (i := 60) rfl)) (hw _ (List.mem_of_getElem? (i := 3) rfl)) (hw _ (List.mem_of_getElem? (i := 61) rfl)) (by decide) 0 (by decide) (by decide) (by decide) (by decide) (argsL := [(.int x1), (.int y1)]) (rest := []) pd_21 rfl rfl rfl rfl rfl at_162 ?_
              rintro T14 h14 l14 _ W14 ⟨ref, rfl, href, rfl⟩
              refine w_istore W14 (L' := #[.val (.int rla), .val (.int rlb), .val (.int ra), .val (.int rb), .val (.int rc), .val (.int rd), .val (.int la), .val (.int lb), .val (.int f0), .val (.int f1), .val (.int x0), .val (.int x1), .val (.int y0), .val (.int y1), .val (.ref sA), .val (.ref sB), .val (.int ref), .unset, .unset]) at_165 rfl ?_
              refine w_goto W14 (pc' := 180) at_167 (by decide) ?_
              exact J180 _ _ _ W14 (own_refB ha hb (Or.inr (Or.inl c117)) c142 c148 c155 href)
      · refine w_iload W2 at_120 rfl ?_
        refine w_iload W2 at_122 rfl ?_
        refine w_icmpeq W2 (pc' := 139) at_124 (by decide) (fun c124 => ?_) (fun c124 => ?_)
        · refine w_iload W2 at_139 rfl ?_
          refine w_iconst W2 (z := (2 : Int32)) at_141 (by rfl) ?_
          refine w_icmplt W2 (pc' := 170) at_142 (by decide) (fun c142 => ?_) (fun c142 => ?_)
          · refine w_iload W2 at_170 rfl ?_
            refine w_iload W2 at_172 rfl ?_
            refine w_isub W2 at_174 rfl ?_
            refine w_callS W2 (ctSg l Z a0 hw (la - lb) _ n0) (hw _ (List.mem_of_getElem? (i := 27) rfl)) (hw _ (List.mem_of_getElem? (i := 28) rfl)) (hw _ (List.mem_of_getElem? (i := 3) rfl)) (hw _ (List.mem_of_getElem? (i := 29) rfl)) (by decide) 0 (by decide) (by decide) (by decide) (by decide) (argsL := [(.int (la - lb))]) (rest := []) pd_0 rfl rfl rfl rfl rfl at_175 ?_
            rintro T15 h15 l15 _ W15 ⟨ref, rfl, href, rfl⟩
            refine w_istore W15 (L' := #[.val (.int rla), .val (.int rlb), .val (.int ra), .val (.int rb), .val (.int rc), .val (.int rd), .val (.int la), .val (.int lb), .val (.int f0), .val (.int f1), .val (.int x0), .val (.int x1), .val (.int y0), .val (.int y1), .val (.ref sA), .val (.ref sB), .val (.int ref), .unset, .unset]) at_178 rfl ?_
            exact J180 _ _ _ W15 (own_refC ha hb (Or.inr (Or.inr c124)) (Or.inl c142) href)
          · refine w_iload W2 at_145 rfl ?_
            refine w_iconst W2 (z := (2 : Int32)) at_147 (by rfl) ?_
            refine w_icmplt W2 (pc' := 170) at_148 (by decide) (fun c148 => ?_) (fun c148 => ?_)
            · refine w_iload W2 at_170 rfl ?_
              refine w_iload W2 at_172 rfl ?_
              refine w_isub W2 at_174 rfl ?_
              refine w_callS W2 (ctSg l Z a0 hw (la - lb) _ n0) (hw _ (List.mem_of_getElem? (i := 27) rfl)) (hw _ (List.mem_of_getElem? (i := 28) rfl)) (hw _ (List.mem_of_getElem? (i := 3) rfl)) (hw _ (List.mem_of_getElem? (i := 29) rfl)) (by decide) 0 (by decide) (by decide) (by decide) (by decide) (argsL := [(.int (la - lb))]) (rest := []) pd_0 rfl rfl rfl rfl rfl at_175 ?_
              rintro T16 h16 l16 _ W16 ⟨ref, rfl, href, rfl⟩
              refine w_istore W16 (L' := #[.val (.int rla), .val (.int rlb), .val (.int ra), .val (.int rb), .val (.int rc), .val (.int rd), .val (.int la), .val (.int lb), .val (.int f0), .val (.int f1), .val (.int x0), .val (.int x1), .val (.int y0), .val (.int y1), .val (.ref sA), .val (.ref sB), .val (.int ref), .unset, .unset]) at_178 rfl ?_
              exact J180 _ _ _ W16 (own_refC ha hb (Or.inr (Or.inr c124)) (Or.inr (Or.inl c148)) href)
            · refine w_iload W2 at_151 rfl ?_
              refine w_iload W2 at_153 rfl ?_
              refine w_icmpeq W2 (pc' := 170) at_155 (by decide) (fun c155 => ?_) (fun c155 => ?_)
              · refine w_iload W2 at_170 rfl ?_
                refine w_iload W2 at_172 rfl ?_
                refine w_isub W2 at_174 rfl ?_
                refine w_callS W2 (ctSg l Z a0 hw (la - lb) _ n0) (hw _ (List.mem_of_getElem? (i := 27) rfl)) (hw _ (List.mem_of_getElem? (i := 28) rfl)) (hw _ (List.mem_of_getElem? (i := 3) rfl)) (hw _ (List.mem_of_getElem? (i := 29) rfl)) (by decide) 0 (by decide) (by decide) (by decide) (by decide) (argsL := [(.int (la - lb))]) (rest := []) pd_0 rfl rfl rfl rfl rfl at_175 ?_
                rintro T17 h17 l17 _ W17 ⟨ref, rfl, href, rfl⟩
                refine w_istore W17 (L' := #[.val (.int rla), .val (.int rlb), .val (.int ra), .val (.int rb), .val (.int rc), .val (.int rd), .val (.int la), .val (.int lb), .val (.int f0), .val (.int f1), .val (.int x0), .val (.int x1), .val (.int y0), .val (.int y1), .val (.ref sA), .val (.ref sB), .val (.int ref), .unset, .unset]) at_178 rfl ?_
                exact J180 _ _ _ W17 (own_refC ha hb (Or.inr (Or.inr c124)) (Or.inr (Or.inr c155)) href)
              · refine w_iload W2 at_158 rfl ?_
                refine w_iload W2 at_160 rfl ?_
                refine w_callS W2 (ctUc l Z a0 hw x1 y1 _ n0 bx1 by1) (hw _ (List.mem_of_getElem? (i := 59) rfl)) (hw _ (List.mem_of_getElem? (i := 60) rfl)) (hw _ (List.mem_of_getElem? (i := 3) rfl)) (hw _ (List.mem_of_getElem? (i := 61) rfl)) (by decide) 0 (by decide) (by decide) (by decide) (by decide) (argsL := [(.int x1), (.int y1)]) (rest := []) pd_21 rfl rfl rfl rfl rfl at_162 ?_
                rintro T18 h18 l18 _ W18 ⟨ref, rfl, href, rfl⟩
                refine w_istore W18 (L' := #[.val (.int rla), .val (.int rlb), .val (.int ra), .val (.int rb), .val (.int rc), .val (.int rd), .val (.int la), .val (.int lb), .val (.int f0), .val (.int f1), .val (.int x0), .val (.int x1), .val (.int y0), .val (.int y1), .val (.ref sA), .val (.ref sB), .val (.int ref), .unset, .unset]) at_165 rfl ?_
                refine w_goto W18 (pc' := 180) at_167 (by decide) ?_
                exact J180 _ _ _ W18 (own_refB ha hb (Or.inr (Or.inr c124)) c142 c148 c155 href)
        · refine w_iload W2 at_127 rfl ?_
          refine w_iload W2 at_129 rfl ?_
          refine w_callS W2 (ctUc l Z a0 hw x0 y0 _ n0 bx0 by0) (hw _ (List.mem_of_getElem? (i := 59) rfl)) (hw _ (List.mem_of_getElem? (i := 60) rfl)) (hw _ (List.mem_of_getElem? (i := 3) rfl)) (hw _ (List.mem_of_getElem? (i := 61) rfl)) (by decide) 0 (by decide) (by decide) (by decide) (by decide) (argsL := [(.int x0), (.int y0)]) (rest := []) pd_21 rfl rfl rfl rfl rfl at_131 ?_
          rintro T19 h19 l19 _ W19 ⟨ref, rfl, href, rfl⟩
          refine w_istore W19 (L' := #[.val (.int rla), .val (.int rlb), .val (.int ra), .val (.int rb), .val (.int rc), .val (.int rd), .val (.int la), .val (.int lb), .val (.int f0), .val (.int f1), .val (.int x0), .val (.int x1), .val (.int y0), .val (.int y1), .val (.ref sA), .val (.ref sB), .val (.int ref), .unset, .unset]) at_134 rfl ?_
          refine w_goto W19 (pc' := 180) at_136 (by decide) ?_
          exact J180 _ _ _ W19 (own_refA ha hb c111 c117 c124 href)
  refine w_iloadN W0 at_0 rfl ?_
  refine w_ldcI W0 (hw _ (List.mem_of_getElem? (i := 0) rfl)) at_1 ?_
  refine w_iand W0 at_3 rfl ?_
  refine w_iconst W0 (z := (3 : Int32)) at_4 (by rfl) ?_
  obtain ⟨la, hla⟩ : ∃ z : Int32, ((rla &&& (2147483647 : Int32)) % (3 : Int32)) = z := ⟨_, rfl⟩
  refine w_irem W0 at_5 (by decide) hla ?_
  refine w_istore W0 (L' := #[.val (.int rla), .val (.int rlb), .val (.int ra), .val (.int rb), .val (.int rc), .val (.int rd), .val (.int la), .unset, .unset, .unset, .unset, .unset, .unset, .unset, .unset, .unset, .unset, .unset, .unset]) at_6 rfl ?_
  refine w_iloadN W0 at_8 rfl ?_
  refine w_ldcI W0 (hw _ (List.mem_of_getElem? (i := 0) rfl)) at_9 ?_
  refine w_iand W0 at_11 rfl ?_
  refine w_iconst W0 (z := (3 : Int32)) at_12 (by rfl) ?_
  obtain ⟨lb, hlb⟩ : ∃ z : Int32, ((rlb &&& (2147483647 : Int32)) % (3 : Int32)) = z := ⟨_, rfl⟩
  refine w_irem W0 at_13 (by decide) hlb ?_
  refine w_istore W0 (L' := #[.val (.int rla), .val (.int rlb), .val (.int ra), .val (.int rb), .val (.int rc), .val (.int rd), .val (.int la), .val (.int lb), .unset, .unset, .unset, .unset, .unset, .unset, .unset, .unset, .unset, .unset, .unset]) at_14 rfl ?_
  refine w_iloadN W0 at_16 rfl ?_
  refine w_bipush W0 (z := (8 : Int32)) at_17 (by rfl) ?_
  refine w_iushr W0 at_19 rfl ?_
  refine w_iconst W0 (z := (1 : Int32)) at_20 (by rfl) ?_
  refine w_iand W0 at_21 rfl ?_
  refine w_ifeq W0 (pc' := 29) at_22 (by decide) (fun c22 => ?_) (fun c22 => ?_)
  · refine w_iconst W0 (z := (0 : Int32)) at_29 (by rfl) ?_
    refine w_istore W0 (L' := #[.val (.int rla), .val (.int rlb), .val (.int ra), .val (.int rb), .val (.int rc), .val (.int rd), .val (.int la), .val (.int lb), .val (.int (0 : Int32)), .unset, .unset, .unset, .unset, .unset, .unset, .unset, .unset, .unset, .unset]) at_30 rfl ?_
    refine w_iloadN W0 at_32 rfl ?_
    refine w_bipush W0 (z := (9 : Int32)) at_33 (by rfl) ?_
    refine w_iushr W0 at_35 rfl ?_
    refine w_iconst W0 (z := (1 : Int32)) at_36 (by rfl) ?_
    refine w_iand W0 at_37 rfl ?_
    refine w_ifeq W0 (pc' := 45) at_38 (by decide) (fun c38 => ?_) (fun c38 => ?_)
    · refine w_iconst W0 (z := (0 : Int32)) at_45 (by rfl) ?_
      refine w_istore W0 (L' := #[.val (.int rla), .val (.int rlb), .val (.int ra), .val (.int rb), .val (.int rc), .val (.int rd), .val (.int la), .val (.int lb), .val (.int (0 : Int32)), .val (.int (0 : Int32)), .unset, .unset, .unset, .unset, .unset, .unset, .unset, .unset, .unset]) at_46 rfl ?_
      refine w_iloadN W0 at_48 rfl ?_
      obtain ⟨x0, hx0⟩ : ∃ z : Int32, (ra.toUInt32.toUInt16.toUInt32.toInt32) = z := ⟨_, rfl⟩
      refine w_i2c W0 at_49 hx0 ?_
      refine w_istore W0 (L' := #[.val (.int rla), .val (.int rlb), .val (.int ra), .val (.int rb), .val (.int rc), .val (.int rd), .val (.int la), .val (.int lb), .val (.int (0 : Int32)), .val (.int (0 : Int32)), .val (.int x0), .unset, .unset, .unset, .unset, .unset, .unset, .unset, .unset]) at_50 rfl ?_
      refine w_iloadN W0 at_52 rfl ?_
      obtain ⟨x1, hx1⟩ : ∃ z : Int32, (rb.toUInt32.toUInt16.toUInt32.toInt32) = z := ⟨_, rfl⟩
      refine w_i2c W0 at_53 hx1 ?_
      refine w_istore W0 (L' := #[.val (.int rla), .val (.int rlb), .val (.int ra), .val (.int rb), .val (.int rc), .val (.int rd), .val (.int la), .val (.int lb), .val (.int (0 : Int32)), .val (.int (0 : Int32)), .val (.int x0), .val (.int x1), .unset, .unset, .unset, .unset, .unset, .unset, .unset]) at_54 rfl ?_
      refine w_iload W0 at_56 rfl ?_
      refine w_ifeq W0 (pc' := 66) at_58 (by decide) (fun c58 => ?_) (fun c58 => absurd c58 (by decide))
      refine w_iload W0 at_66 rfl ?_
      obtain ⟨y0, hy0⟩ : ∃ z : Int32, (rc.toUInt32.toUInt16.toUInt32.toInt32) = z := ⟨_, rfl⟩
      refine w_i2c W0 at_68 hy0 ?_
      refine w_istore W0 (L' := #[.val (.int rla), .val (.int rlb), .val (.int ra), .val (.int rb), .val (.int rc), .val (.int rd), .val (.int la), .val (.int lb), .val (.int (0 : Int32)), .val (.int (0 : Int32)), .val (.int x0), .val (.int x1), .val (.int y0), .unset, .unset, .unset, .unset, .unset, .unset]) at_69 rfl ?_
      refine w_iload W0 at_71 rfl ?_
      refine w_ifeq W0 (pc' := 81) at_73 (by decide) (fun c73 => ?_) (fun c73 => absurd c73 (by decide))
      refine w_iload W0 at_81 rfl ?_
      obtain ⟨y1, hy1⟩ : ∃ z : Int32, (rd.toUInt32.toUInt16.toUInt32.toInt32) = z := ⟨_, rfl⟩
      refine w_i2c W0 at_83 hy1 ?_
      refine w_istore W0 (L' := #[.val (.int rla), .val (.int rlb), .val (.int ra), .val (.int rb), .val (.int rc), .val (.int rd), .val (.int la), .val (.int lb), .val (.int (0 : Int32)), .val (.int (0 : Int32)), .val (.int x0), .val (.int x1), .val (.int y0), .val (.int y1), .unset, .unset, .unset, .unset, .unset]) at_84 rfl ?_
      exact J86 la lb (0 : Int32) (0 : Int32) x0 x1 y0 y1 (own_t3 hla) (own_t3 hlb) (own_chn hx0) (own_chn hx1) (own_chn hy0) (own_chn hy1)
    · refine w_iconst W0 (z := (1 : Int32)) at_41 (by rfl) ?_
      refine w_goto W0 (pc' := 46) at_42 (by decide) ?_
      refine w_istore W0 (L' := #[.val (.int rla), .val (.int rlb), .val (.int ra), .val (.int rb), .val (.int rc), .val (.int rd), .val (.int la), .val (.int lb), .val (.int (0 : Int32)), .val (.int (1 : Int32)), .unset, .unset, .unset, .unset, .unset, .unset, .unset, .unset, .unset]) at_46 rfl ?_
      refine w_iloadN W0 at_48 rfl ?_
      obtain ⟨x0, hx0⟩ : ∃ z : Int32, (ra.toUInt32.toUInt16.toUInt32.toInt32) = z := ⟨_, rfl⟩
      refine w_i2c W0 at_49 hx0 ?_
      refine w_istore W0 (L' := #[.val (.int rla), .val (.int rlb), .val (.int ra), .val (.int rb), .val (.int rc), .val (.int rd), .val (.int la), .val (.int lb), .val (.int (0 : Int32)), .val (.int (1 : Int32)), .val (.int x0), .unset, .unset, .unset, .unset, .unset, .unset, .unset, .unset]) at_50 rfl ?_
      refine w_iloadN W0 at_52 rfl ?_
      obtain ⟨x1, hx1⟩ : ∃ z : Int32, (rb.toUInt32.toUInt16.toUInt32.toInt32) = z := ⟨_, rfl⟩
      refine w_i2c W0 at_53 hx1 ?_
      refine w_istore W0 (L' := #[.val (.int rla), .val (.int rlb), .val (.int ra), .val (.int rb), .val (.int rc), .val (.int rd), .val (.int la), .val (.int lb), .val (.int (0 : Int32)), .val (.int (1 : Int32)), .val (.int x0), .val (.int x1), .unset, .unset, .unset, .unset, .unset, .unset, .unset]) at_54 rfl ?_
      refine w_iload W0 at_56 rfl ?_
      refine w_ifeq W0 (pc' := 66) at_58 (by decide) (fun c58 => ?_) (fun c58 => absurd c58 (by decide))
      refine w_iload W0 at_66 rfl ?_
      obtain ⟨y0, hy0⟩ : ∃ z : Int32, (rc.toUInt32.toUInt16.toUInt32.toInt32) = z := ⟨_, rfl⟩
      refine w_i2c W0 at_68 hy0 ?_
      refine w_istore W0 (L' := #[.val (.int rla), .val (.int rlb), .val (.int ra), .val (.int rb), .val (.int rc), .val (.int rd), .val (.int la), .val (.int lb), .val (.int (0 : Int32)), .val (.int (1 : Int32)), .val (.int x0), .val (.int x1), .val (.int y0), .unset, .unset, .unset, .unset, .unset, .unset]) at_69 rfl ?_
      refine w_iload W0 at_71 rfl ?_
      refine w_ifeq W0 (pc' := 81) at_73 (by decide) (fun c73 => absurd c73 (by decide)) (fun c73 => ?_)
      refine w_iload W0 at_76 rfl ?_
      refine w_goto W0 (pc' := 84) at_78 (by decide) ?_
      refine w_istore W0 (L' := #[.val (.int rla), .val (.int rlb), .val (.int ra), .val (.int rb), .val (.int rc), .val (.int rd), .val (.int la), .val (.int lb), .val (.int (0 : Int32)), .val (.int (1 : Int32)), .val (.int x0), .val (.int x1), .val (.int y0), .val (.int x1), .unset, .unset, .unset, .unset, .unset]) at_84 rfl ?_
      exact J86 la lb (0 : Int32) (1 : Int32) x0 x1 y0 x1 (own_t3 hla) (own_t3 hlb) (own_chn hx0) (own_chn hx1) (own_chn hy0) (own_chn hx1)
  · refine w_iconst W0 (z := (1 : Int32)) at_25 (by rfl) ?_
    refine w_goto W0 (pc' := 30) at_26 (by decide) ?_
    refine w_istore W0 (L' := #[.val (.int rla), .val (.int rlb), .val (.int ra), .val (.int rb), .val (.int rc), .val (.int rd), .val (.int la), .val (.int lb), .val (.int (1 : Int32)), .unset, .unset, .unset, .unset, .unset, .unset, .unset, .unset, .unset, .unset]) at_30 rfl ?_
    refine w_iloadN W0 at_32 rfl ?_
    refine w_bipush W0 (z := (9 : Int32)) at_33 (by rfl) ?_
    refine w_iushr W0 at_35 rfl ?_
    refine w_iconst W0 (z := (1 : Int32)) at_36 (by rfl) ?_
    refine w_iand W0 at_37 rfl ?_
    refine w_ifeq W0 (pc' := 45) at_38 (by decide) (fun c38 => ?_) (fun c38 => ?_)
    · refine w_iconst W0 (z := (0 : Int32)) at_45 (by rfl) ?_
      refine w_istore W0 (L' := #[.val (.int rla), .val (.int rlb), .val (.int ra), .val (.int rb), .val (.int rc), .val (.int rd), .val (.int la), .val (.int lb), .val (.int (1 : Int32)), .val (.int (0 : Int32)), .unset, .unset, .unset, .unset, .unset, .unset, .unset, .unset, .unset]) at_46 rfl ?_
      refine w_iloadN W0 at_48 rfl ?_
      obtain ⟨x0, hx0⟩ : ∃ z : Int32, (ra.toUInt32.toUInt16.toUInt32.toInt32) = z := ⟨_, rfl⟩
      refine w_i2c W0 at_49 hx0 ?_
      refine w_istore W0 (L' := #[.val (.int rla), .val (.int rlb), .val (.int ra), .val (.int rb), .val (.int rc), .val (.int rd), .val (.int la), .val (.int lb), .val (.int (1 : Int32)), .val (.int (0 : Int32)), .val (.int x0), .unset, .unset, .unset, .unset, .unset, .unset, .unset, .unset]) at_50 rfl ?_
      refine w_iloadN W0 at_52 rfl ?_
      obtain ⟨x1, hx1⟩ : ∃ z : Int32, (rb.toUInt32.toUInt16.toUInt32.toInt32) = z := ⟨_, rfl⟩
      refine w_i2c W0 at_53 hx1 ?_
      refine w_istore W0 (L' := #[.val (.int rla), .val (.int rlb), .val (.int ra), .val (.int rb), .val (.int rc), .val (.int rd), .val (.int la), .val (.int lb), .val (.int (1 : Int32)), .val (.int (0 : Int32)), .val (.int x0), .val (.int x1), .unset, .unset, .unset, .unset, .unset, .unset, .unset]) at_54 rfl ?_
      refine w_iload W0 at_56 rfl ?_
      refine w_ifeq W0 (pc' := 66) at_58 (by decide) (fun c58 => absurd c58 (by decide)) (fun c58 => ?_)
      refine w_iload W0 at_61 rfl ?_
      refine w_goto W0 (pc' := 69) at_63 (by decide) ?_
      refine w_istore W0 (L' := #[.val (.int rla), .val (.int rlb), .val (.int ra), .val (.int rb), .val (.int rc), .val (.int rd), .val (.int la), .val (.int lb), .val (.int (1 : Int32)), .val (.int (0 : Int32)), .val (.int x0), .val (.int x1), .val (.int x0), .unset, .unset, .unset, .unset, .unset, .unset]) at_69 rfl ?_
      refine w_iload W0 at_71 rfl ?_
      refine w_ifeq W0 (pc' := 81) at_73 (by decide) (fun c73 => ?_) (fun c73 => absurd c73 (by decide))
      refine w_iload W0 at_81 rfl ?_
      obtain ⟨y1, hy1⟩ : ∃ z : Int32, (rd.toUInt32.toUInt16.toUInt32.toInt32) = z := ⟨_, rfl⟩
      refine w_i2c W0 at_83 hy1 ?_
      refine w_istore W0 (L' := #[.val (.int rla), .val (.int rlb), .val (.int ra), .val (.int rb), .val (.int rc), .val (.int rd), .val (.int la), .val (.int lb), .val (.int (1 : Int32)), .val (.int (0 : Int32)), .val (.int x0), .val (.int x1), .val (.int x0), .val (.int y1), .unset, .unset, .unset, .unset, .unset]) at_84 rfl ?_
      exact J86 la lb (1 : Int32) (0 : Int32) x0 x1 x0 y1 (own_t3 hla) (own_t3 hlb) (own_chn hx0) (own_chn hx1) (own_chn hx0) (own_chn hy1)
    · refine w_iconst W0 (z := (1 : Int32)) at_41 (by rfl) ?_
      refine w_goto W0 (pc' := 46) at_42 (by decide) ?_
      refine w_istore W0 (L' := #[.val (.int rla), .val (.int rlb), .val (.int ra), .val (.int rb), .val (.int rc), .val (.int rd), .val (.int la), .val (.int lb), .val (.int (1 : Int32)), .val (.int (1 : Int32)), .unset, .unset, .unset, .unset, .unset, .unset, .unset, .unset, .unset]) at_46 rfl ?_
      refine w_iloadN W0 at_48 rfl ?_
      obtain ⟨x0, hx0⟩ : ∃ z : Int32, (ra.toUInt32.toUInt16.toUInt32.toInt32) = z := ⟨_, rfl⟩
      refine w_i2c W0 at_49 hx0 ?_
      refine w_istore W0 (L' := #[.val (.int rla), .val (.int rlb), .val (.int ra), .val (.int rb), .val (.int rc), .val (.int rd), .val (.int la), .val (.int lb), .val (.int (1 : Int32)), .val (.int (1 : Int32)), .val (.int x0), .unset, .unset, .unset, .unset, .unset, .unset, .unset, .unset]) at_50 rfl ?_
      refine w_iloadN W0 at_52 rfl ?_
      obtain ⟨x1, hx1⟩ : ∃ z : Int32, (rb.toUInt32.toUInt16.toUInt32.toInt32) = z := ⟨_, rfl⟩
      refine w_i2c W0 at_53 hx1 ?_
      refine w_istore W0 (L' := #[.val (.int rla), .val (.int rlb), .val (.int ra), .val (.int rb), .val (.int rc), .val (.int rd), .val (.int la), .val (.int lb), .val (.int (1 : Int32)), .val (.int (1 : Int32)), .val (.int x0), .val (.int x1), .unset, .unset, .unset, .unset, .unset, .unset, .unset]) at_54 rfl ?_
      refine w_iload W0 at_56 rfl ?_
      refine w_ifeq W0 (pc' := 66) at_58 (by decide) (fun c58 => absurd c58 (by decide)) (fun c58 => ?_)
      refine w_iload W0 at_61 rfl ?_
      refine w_goto W0 (pc' := 69) at_63 (by decide) ?_
      refine w_istore W0 (L' := #[.val (.int rla), .val (.int rlb), .val (.int ra), .val (.int rb), .val (.int rc), .val (.int rd), .val (.int la), .val (.int lb), .val (.int (1 : Int32)), .val (.int (1 : Int32)), .val (.int x0), .val (.int x1), .val (.int x0), .unset, .unset, .unset, .unset, .unset, .unset]) at_69 rfl ?_
      refine w_iload W0 at_71 rfl ?_
      refine w_ifeq W0 (pc' := 81) at_73 (by decide) (fun c73 => absurd c73 (by decide)) (fun c73 => ?_)
      refine w_iload W0 at_76 rfl ?_
      refine w_goto W0 (pc' := 84) at_78 (by decide) ?_
      refine w_istore W0 (L' := #[.val (.int rla), .val (.int rlb), .val (.int ra), .val (.int rb), .val (.int rc), .val (.int rd), .val (.int la), .val (.int lb), .val (.int (1 : Int32)), .val (.int (1 : Int32)), .val (.int x0), .val (.int x1), .val (.int x0), .val (.int x1), .unset, .unset, .unset, .unset, .unset]) at_84 rfl ?_
      exact J86 la lb (1 : Int32) (1 : Int32) x0 x1 x0 x1 (own_t3 hla) (own_t3 hlb) (own_chn hx0) (own_chn hx1) (own_chn hx0) (own_chn hx1)
set_option maxRecDepth 65536 in
set_option maxHeartbeats 40000000 in
theorem comes_1 {Post : Tables → Env → Array Value → State → Outcome → State → Prop} (hpost : ∀ tb e args s v u, (limb_1_1.after args s (.returned v) u = true ∧ limb_1_2.after args s (.returned v) u = true ∧ True) → ReturnedEndW s (.returned v) u (Jvm.fieldLocs frame_1_writes args s ++ Jvm.arrayLocs frame_1_arrays args s ++ Jvm.staticLocs frame_1_statics s) 32 1152 → Post tb e args s (.returned v) u) :
    ArmFor flags0 classFile x code maxLocals ret World_1 tables_1 room_1 Calls_1 rest_1 Pre_1 Post := by
  intro l hfl _ _ p e ha hc hk s m args below hf hA hF happ hP
  obtain ⟨hcalls, hrest, hpre⟩ := hP
  obtain ⟨-, -, -, hnamed, -, -, -, hat⟩ := (Spec.applies_iff hf).mp happ
  obtain ⟨hg, hn⟩ := and_e (Cond.before_iff.mp (show (Jvm.Cond.and given_1 narrow_1).before args s = true from hpre))
  obtain ⟨g0, r0⟩ := and_e hg
  obtain ⟨g1, r1⟩ := and_e r0
  obtain ⟨g2, r2⟩ := and_e r1
  obtain ⟨g3, r3⟩ := and_e r2
  obtain ⟨g4, r4⟩ := and_e r3
  obtain ⟨g5, r5⟩ := and_e r4
  obtain ⟨w0, w1, w2, w3, w4, w5, rfl⟩ : ∃ w0 w1 w2 w3 w4 w5 : Value, args = #[w0, w1, w2, w3, w4, w5] := by
    have hs : args.size = 6 := by simpa [Cond.value, given_1] using g0
    obtain ⟨L⟩ := args
    match L, hs with
    | [w0, w1, w2, w3, w4, w5], _ => exact ⟨w0, w1, w2, w3, w4, w5, rfl⟩
  have hw := fun d (hd : d ∈ tables_1) => atoms_spec (ws := Jvm.Cond.code x code maxLocals ret :: tables_1) hat d (List.mem_cons_of_mem _ hd)
  obtain ⟨i0, ei0⟩ := is_v g1
  obtain rfl : w0 = (.int i0) := Option.some.inj ei0
  obtain ⟨i1, ei1⟩ := is_v g2
  obtain rfl : w1 = (.int i1) := Option.some.inj ei1
  obtain ⟨i2, ei2⟩ := is_v g3
  obtain rfl : w2 = (.int i2) := Option.some.inj ei2
  obtain ⟨i3, ei3⟩ := is_v g4
  obtain rfl : w3 = (.int i3) := Option.some.inj ei3
  obtain ⟨i4, ei4⟩ := is_v g5
  obtain rfl : w4 = (.int i4) := Option.some.inj ei4
  obtain ⟨i5, ei5⟩ := is_v r5
  obtain rfl : w5 = (.int i5) := Option.some.inj ei5
  obtain ⟨hsets, hown0⟩ := atoms_of _ (rest_1_c_eq ▸ (show rest_1_c.before _ s = true from hrest))
  have n3 := not_v (Cond.before_iff.mp (hsets _ (List.mem_of_getElem? (i := 2) rfl)))
  obtain ⟨cz, e6⟩ := is_v (Cond.before_iff.mp (hsets _ (List.mem_of_getElem? (i := 1) rfl)))
  have G : Sta s s.heap "java/lang/String" "COMPACT_STRINGS" "Z" (.int cz) := Sta.start e6 (Or.inl (hsets _ (List.mem_of_getElem? (i := 0) rfl)))
  have hcz : ¬ (cz = (0 : Int32)) := gotF (Cond.eq_ints e6 (Term.int_eval (0))) n3
  have hCH : Jvm.Lit.constHeld s "java/lang/String" 7 := hcalls.1 ("java/lang/String", 7) (by simp [consts_1])
  have Ga : Sta s s.heap "java/lang/StringUTF16" "$assertionsDisabled" "Z" (.int 1) := Sta.start (own_eqInt (Cond.before_iff.mp (hsets _ (List.mem_of_getElem? (i := 12) rfl)))) (Or.inl (hsets _ (List.mem_of_getElem? (i := 11) rfl)))
  have Gh : Sta s s.heap "java/lang/StringUTF16" "HI_BYTE_SHIFT" "I" (.int 0) := Sta.start (own_eqInt (Cond.before_iff.mp (hsets _ (List.mem_of_getElem? (i := 15) rfl)))) (Or.inl (hsets _ (List.mem_of_getElem? (i := 14) rfl)))
  have Gl : Sta s s.heap "java/lang/StringUTF16" "LO_BYTE_SHIFT" "I" (.int 8) := Sta.start (own_eqInt (Cond.before_iff.mp (hsets _ (List.mem_of_getElem? (i := 18) rfl)))) (Or.inl (hsets _ (List.mem_of_getElem? (i := 17) rfl)))
  obtain ⟨fv, e8, hfv⟩ := isR_v (Cond.before_iff.mp (hsets _ (List.mem_of_getElem? (i := 8) rfl)))
  have Gf : Sta s s.heap "jdk/internal/util/Preconditions" "SIOOBE_FORMATTER" "Ljava/util/function/BiFunction;" fv := Sta.start e8 (Or.inl (hsets _ (List.mem_of_getElem? (i := 7) rfl)))
  obtain ⟨n, o, h1, h2, h3, _, L, rfl, ⟨rfl, N⟩, hq⟩ := ctLaw l s _ hw cz fv i0 i1 i2 i3 i4 i5 s.heap s.heap.size hCH (Old.start s) G hcz Ga Gh Gl Gf hfv tables_1 p e ha hc hk s m _ below hf ((Spec.applies_iff_loose hf).mp happ).1 ⟨rfl, State.Warmed39.refl s, rfl, St.start s⟩ trivial
  refine ⟨n, _, h1, h2, h3, hpost _ _ _ _ _ _ ⟨Cond.after_iff.mpr rfl, Cond.after_iff.mpr (eq_i res_at (Term.int_eval (1)) rfl), trivial⟩ ⟨hq.1, hq.2.1, hq.2.2.1, (hq.2.2.2.sift fun y hy => Or.inr (N y hy)).mono (by decide) (by decide)⟩⟩
theorem main_1_1 : Claimed_1_1 := comes_1 fun _ _ _ _ _ _ h hF => ⟨h.1, hF⟩
theorem main_1_2 : Claimed_1_2 := comes_1 fun _ _ _ _ _ _ h hF => ⟨h.2.1, hF⟩
end Jvm.Pilot.@@N@@
namespace Jvm.Pilot.@@N@@
open Jvm Jvm.ClassFile Sem Op Lib Jvm.Free Jvm.Stand Jvm.Pilot.@@N@@.Jvm.D
/-! MADE BY PROGRAM (witnessworld.py) out of the Statement's table words and the real class files: 21 classes; the members and pool entries that the words name. The judged class is class 1, her method 1. -/
namespace start1
open Jvm.ClassFile
def u (s : String) : CpInfo := .utf8 (stringToUtf16 s)
/-- a pool by its gaps: so many unusable entries, then the entry; so many at the end -/
def gap : Nat → List CpInfo → List CpInfo
  | 0, r => r
  | n + 1, r => .unusable :: gap n r
def poolList (es : List (Nat × CpInfo)) (last : Nat) : List CpInfo := es.foldr (fun e r => gap e.1 (e.2 :: r)) (gap last [])
def pool (es : List (Nat × CpInfo)) (last : Nat) : Array CpInfo := ⟨poolList es last⟩
def fileOf (pool : Array CpInfo) (this : Nat) (attrs : Array Attribute := #[]) (ms : Array MethodInfo := #[]) (fl : Nat := 33) (sup : Nat := 0) (ifs : Array Nat := #[]) (fds : Array FieldInfo := #[]) : ClassFile where
  minorVersion := 0
  majorVersion := 65
  constantPool := pool
  accessFlags := fl
  thisClass := this
  superClass := sup
  interfaces := ifs
  fields := fds
  methods := ms
  attributes := attrs
def plain (name : String) (sup : Option ClassId) : Class where
  name := name
  kind := .ordinary
  loader := none
  accessFlags := 33
  super := sup
  interfaces := #[]
  cf := none
  fields := #[]
  methods := #[]
  instanceTypes := #[]
  staticTypes := #[]
  resolved := #[]
  callSites := []
  init := .initialized
  statics := none
  mirror := none

def pool0 : Array CpInfo := pool [(5, u "<init>"), (0, u "()V"), (1, .class_ 10), (1, u "java/lang/Object")] 113

def k0c0 : Code := { maxStack := 0, maxLocals := 1, code := object_method_1_code, exceptionTable := #[], attributes := #[] }
def k0m0 : Method := { name := "<init>", desc := "()V", sig := { parameters := [], returnType := none }, accessFlags := 1, code := some k0c0 }
/-- java/lang/Object -/
def k0 : Class := { plain "java/lang/Object" none with
  accessFlags := 33
  interfaces := #[]
  cf := some (fileOf pool0 8 #[] #[{ accessFlags := 1, nameIndex := 5, descriptorIndex := 6, attributes := #[] }] 33 0 #[] #[])
  fields := #[]
  methods := #[k0m0]
  instanceTypes := #[]
  staticTypes := #[]
  resolved := Array.replicate 124 none
  statics := none }

def pool1 : Array CpInfo := pool [(2, .class_ 4), (1, u "java/lang/Object"), (0, u "<init>"), (0, u "()V"), (0, .integer 2147483647), (0, .methodref 9 10), (0, .class_ 11), (0, .nameAndType 12 13), (0, u "com/example/emit_on_change/emitonchange/CodePointOrderComparePinLaw"), (0, u "mk"), (0, u "(ICC)Ljava/lang/String;"), (0, .methodref 9 15), (0, .nameAndType 16 17), (0, u "unitCmp"), (0, u "(CC)I"), (0, .methodref 9 19), (0, .nameAndType 20 21), (0, u "sign"), (0, u "(I)I"), (0, .methodref 23 24), (0, .class_ 25), (0, .nameAndType 26 27), (0, u "com/example/emit_on_change/emitonchange/CodePointOrder"), (0, u "compare"), (0, u "(Ljava/lang/String;Ljava/lang/String;)I"), (0, .class_ 29), (0, u "java/lang/String"), (0, .methodref 28 31), (0, .nameAndType 5 32), (0, u "([C)V"), (0, .integer 55296), (0, .integer 57343), (0, .integer 57344), (0, .methodref 9 37), (0, .nameAndType 38 39), (0, u "group"), (0, u "(C)I"), (2, u "law"), (0, u "(IIIIII)Z")] 3

def k1m0 : Method := { name := "<init>", desc := "()V", sig := { parameters := [], returnType := none }, accessFlags := 2, code := none }
def k1c1 : Code := { maxStack := 3, maxLocals := 19, code := code, exceptionTable := #[], attributes := #[] }
def k1m1 : Method := { name := "law", desc := "(IIIIII)Z", sig := { parameters := [.int, .int, .int, .int, .int, .int], returnType := some .boolean }, accessFlags := 9, code := some k1c1 }
def k1c2 : Code := { maxStack := 6, maxLocals := 3, code := method_3_code, exceptionTable := #[], attributes := #[] }
def k1m2 : Method := { name := "mk", desc := "(ICC)Ljava/lang/String;", sig := { parameters := [.int, .char, .char], returnType := some (.object "java/lang/String") }, accessFlags := 10, code := some k1c2 }
def k1c3 : Code := { maxStack := 2, maxLocals := 1, code := method_4_code, exceptionTable := #[], attributes := #[] }
def k1m3 : Method := { name := "group", desc := "(C)I", sig := { parameters := [.char], returnType := some .int }, accessFlags := 10, code := some k1c3 }
def k1c4 : Code := { maxStack := 2, maxLocals := 4, code := method_5_code, exceptionTable := #[], attributes := #[] }
def k1m4 : Method := { name := "unitCmp", desc := "(CC)I", sig := { parameters := [.char, .char], returnType := some .int }, accessFlags := 10, code := some k1c4 }
def k1c5 : Code := { maxStack := 1, maxLocals := 1, code := method_6_code, exceptionTable := #[], attributes := #[] }
def k1m5 : Method := { name := "sign", desc := "(I)I", sig := { parameters := [.int], returnType := some .int }, accessFlags := 10, code := some k1c5 }
/-- com/example/emit_on_change/emitonchange/CodePointOrderComparePinLaw -/
def k1 : Class := { plain "com/example/emit_on_change/emitonchange/CodePointOrderComparePinLaw" (some 0) with
  accessFlags := 49
  interfaces := #[]
  cf := some (fileOf pool1 9 #[] #[{ accessFlags := 2, nameIndex := 5, descriptorIndex := 6, attributes := #[] }, { accessFlags := 9, nameIndex := 42, descriptorIndex := 43, attributes := #[] }, { accessFlags := 10, nameIndex := 12, descriptorIndex := 13, attributes := #[] }, { accessFlags := 10, nameIndex := 38, descriptorIndex := 39, attributes := #[] }, { accessFlags := 10, nameIndex := 16, descriptorIndex := 17, attributes := #[] }, { accessFlags := 10, nameIndex := 20, descriptorIndex := 21, attributes := #[] }] 49 2 #[] #[])
  fields := #[]
  methods := #[k1m0, k1m1, k1m2, k1m3, k1m4, k1m5]
  instanceTypes := #[]
  staticTypes := #[]
  resolved := Array.replicate 47 none
  statics := none }

def pool2 : Array CpInfo := pool [(1, .class_ 2), (0, u "java/io/Serializable"), (0, .class_ 4), (0, u "java/lang/Object")] 2

/-- java/io/Serializable -/
def k2 : Class := { plain "java/io/Serializable" (some 0) with
  accessFlags := 1537
  interfaces := #[]
  cf := some (fileOf pool2 1 #[] #[] 1537 3 #[] #[])
  fields := #[]
  methods := #[]
  instanceTypes := #[]
  staticTypes := #[]
  resolved := Array.replicate 7 none
  statics := none }

def pool3 : Array CpInfo := pool [(1, .class_ 2), (0, u "java/lang/Comparable"), (0, .class_ 4), (0, u "java/lang/Object")] 7

/-- java/lang/Comparable -/
def k3 : Class := { plain "java/lang/Comparable" (some 0) with
  accessFlags := 1537
  interfaces := #[]
  cf := some (fileOf pool3 1 #[] #[] 1537 3 #[] #[])
  fields := #[]
  methods := #[]
  instanceTypes := #[]
  staticTypes := #[]
  resolved := Array.replicate 12 none
  statics := none }

def pool4 : Array CpInfo := pool [(2, .class_ 4), (1, u "java/lang/CharSequence"), (42, .class_ 48), (0, u "java/lang/CharSequence$1CodePointIterator"), (10, .class_ 60), (0, u "java/lang/CharSequence$1CharIterator"), (5, .class_ 67), (0, u "java/lang/Object")] 63

/-- java/lang/CharSequence -/
def k4 : Class := { plain "java/lang/CharSequence" (some 0) with
  accessFlags := 1537
  interfaces := #[]
  cf := some (fileOf pool4 2 #[.nestMembers #[47, 59]] #[] 1537 66 #[] #[])
  fields := #[]
  methods := #[]
  instanceTypes := #[]
  staticTypes := #[]
  resolved := Array.replicate 131 none
  statics := none }

def pool5 : Array CpInfo := pool [(1, .class_ 2), (0, u "java/lang/constant/Constable"), (0, .class_ 4), (0, u "java/lang/Object")] 6

/-- java/lang/constant/Constable -/
def k5 : Class := { plain "java/lang/constant/Constable" (some 0) with
  accessFlags := 1537
  interfaces := #[]
  cf := some (fileOf pool5 1 #[] #[] 1537 3 #[] #[])
  fields := #[]
  methods := #[]
  instanceTypes := #[]
  staticTypes := #[]
  resolved := Array.replicate 11 none
  statics := none }

def pool6 : Array CpInfo := pool [(1, .class_ 2), (0, u "java/lang/constant/ConstantDesc"), (0, .class_ 4), (0, u "java/lang/Object")] 32

/-- java/lang/constant/ConstantDesc -/
def k6 : Class := { plain "java/lang/constant/ConstantDesc" (some 0) with
  accessFlags := 1537
  interfaces := #[]
  cf := some (fileOf pool6 1 #[] #[] 1537 3 #[] #[])
  fields := #[]
  methods := #[]
  instanceTypes := #[]
  staticTypes := #[]
  resolved := Array.replicate 37 none
  statics := none }

def pool7 : Array CpInfo := pool [(1, .methodref 2 3), (0, .class_ 4), (0, .nameAndType 5 6), (0, u "java/lang/Object"), (0, u "<init>"), (0, u "()V"), (0, .string 8), (0, u ""), (0, .fieldref 10 11), (0, .class_ 12), (0, .nameAndType 13 14), (0, u "java/lang/String"), (0, u "value"), (0, u "[B"), (0, .fieldref 10 16), (0, .nameAndType 17 18), (0, u "coder"), (0, u "B"), (2, u "hash"), (0, u "I"), (2, u "hashIsZero"), (0, u "Z"), (0, .methodref 10 28), (0, .nameAndType 5 29), (0, u "([CIILjava/lang/Void;)V"), (8, .fieldref 10 39), (0, .nameAndType 40 26), (0, u "COMPACT_STRINGS"), (1, .class_ 44), (1, u "java/lang/StringUTF16"), (0, u "compress"), (1, .methodref 42 48), (0, .nameAndType 49 50), (0, u "coderFromArrayLen"), (0, u "([BI)B"), (56, .class_ 109), (1, u "java/lang/StringLatin1"), (32, u "()Z"), (34, .methodref 42 178), (0, .nameAndType 45 179), (0, u "([CII)[B"), (154, u "()I"), (0, .methodref 10 336), (0, .nameAndType 17 337), (0, u "()B"), (25, u "([BI)C"), (27, u "(II)V"), (35, u "(I)C"), (64, .methodref 10 493), (0, .nameAndType 494 142), (0, u "isLatin1"), (0, .methodref 107 496), (0, .nameAndType 497 363), (0, u "charAt"), (0, .methodref 42 496), (2, u "checkIndex"), (5, u "length"), (67, .class_ 576), (0, u "java/lang/CharSequence"), (22, u "CASE_INSENSITIVE_ORDER"), (0, u "Ljava/util/Comparator;"), (409, u "([C)V"), (42, .fieldref 1054 1055), (0, .class_ 1056), (0, .nameAndType 1057 1058), (0, u "jdk/internal/util/Preconditions"), (0, u "SIOOBE_FORMATTER"), (0, u "Ljava/util/function/BiFunction;"), (0, .methodref 1054 1060), (0, .nameAndType 501 1061), (0, u "(IILjava/util/function/BiFunction;)I"), (39, u "serialPersistentFields"), (0, u "[Ljava/io/ObjectStreamField;"), (0, .class_ 1104), (0, u "java/lang/String$CaseInsensitiveComparator"), (1, .class_ 1107), (0, u "java/io/Serializable"), (0, .class_ 1109), (0, u "java/lang/Comparable"), (0, .class_ 1111), (0, u "java/lang/constant/Constable"), (0, .class_ 1113), (0, u "java/lang/constant/ConstantDesc"), (2, u "serialVersionUID"), (0, u "J"), (3, u "REPL"), (0, u "C"), (2, u "LATIN1"), (1, u "UTF16")] 323

def k7m0 : Method := { name := "<init>", desc := "()V", sig := { parameters := [], returnType := none }, accessFlags := 1, code := none }
def k7c1 : Code := { maxStack := 5, maxLocals := 2, code := jdk_42_method_3_code, exceptionTable := #[], attributes := #[] }
def k7m1 : Method := { name := "<init>", desc := "([C)V", sig := { parameters := [(.array .char)], returnType := none }, accessFlags := 1, code := some k7c1 }
def k7c2 : Code := { maxStack := 2, maxLocals := 1, code := jdk_42_method_54_code, exceptionTable := #[], attributes := #[] }
def k7m2 : Method := { name := "length", desc := "()I", sig := { parameters := [], returnType := some .int }, accessFlags := 1, code := some k7c2 }
def k7c3 : Code := { maxStack := 2, maxLocals := 2, code := jdk_42_method_56_code, exceptionTable := #[], attributes := #[] }
def k7m3 : Method := { name := "charAt", desc := "(I)C", sig := { parameters := [.int], returnType := some .char }, accessFlags := 1, code := some k7c3 }
def k7c4 : Code := { maxStack := 4, maxLocals := 6, code := jdk_42_method_149_code, exceptionTable := #[], attributes := #[] }
def k7m4 : Method := { name := "<init>", desc := "([CIILjava/lang/Void;)V", sig := { parameters := [(.array .char), .int, .int, (.object "java/lang/Void")], returnType := none }, accessFlags := 2, code := some k7c4 }
def k7c5 : Code := { maxStack := 1, maxLocals := 1, code := jdk_42_method_152_code, exceptionTable := #[], attributes := #[] }
def k7m5 : Method := { name := "coder", desc := "()B", sig := { parameters := [], returnType := some .byte }, accessFlags := 0, code := some k7c5 }
def k7c6 : Code := { maxStack := 1, maxLocals := 1, code := jdk_42_method_154_code, exceptionTable := #[], attributes := #[] }
def k7m6 : Method := { name := "isLatin1", desc := "()Z", sig := { parameters := [], returnType := some .boolean }, accessFlags := 0, code := some k7c6 }
def k7c7 : Code := { maxStack := 3, maxLocals := 2, code := jdk_42_method_155_code, exceptionTable := #[], attributes := #[] }
def k7m7 : Method := { name := "checkIndex", desc := "(II)V", sig := { parameters := [.int, .int], returnType := none }, accessFlags := 8, code := some k7c7 }
/-- java/lang/String -/
def k7 : Class := { plain "java/lang/String" (some 0) with
  accessFlags := 49
  interfaces := #[2, 3, 4, 5, 6]
  cf := some (fileOf pool7 10 #[.nestMembers #[1103]] #[{ accessFlags := 1, nameIndex := 5, descriptorIndex := 6, attributes := #[] }, { accessFlags := 1, nameIndex := 5, descriptorIndex := 1010, attributes := #[] }, { accessFlags := 1, nameIndex := 507, descriptorIndex := 334, attributes := #[] }, { accessFlags := 1, nameIndex := 497, descriptorIndex := 427, attributes := #[] }, { accessFlags := 2, nameIndex := 5, descriptorIndex := 29, attributes := #[] }, { accessFlags := 0, nameIndex := 17, descriptorIndex := 337, attributes := #[] }, { accessFlags := 0, nameIndex := 494, descriptorIndex := 142, attributes := #[] }, { accessFlags := 8, nameIndex := 501, descriptorIndex := 391, attributes := #[] }] 49 2 #[1106, 1108, 575, 1110, 1112] #[{ accessFlags := 18, nameIndex := 13, descriptorIndex := 14, attributes := #[] }, { accessFlags := 18, nameIndex := 17, descriptorIndex := 18, attributes := #[] }, { accessFlags := 2, nameIndex := 21, descriptorIndex := 22, attributes := #[] }, { accessFlags := 2, nameIndex := 25, descriptorIndex := 26, attributes := #[] }, { accessFlags := 26, nameIndex := 1116, descriptorIndex := 1117, attributes := #[] }, { accessFlags := 24, nameIndex := 40, descriptorIndex := 26, attributes := #[] }, { accessFlags := 26, nameIndex := 1101, descriptorIndex := 1102, attributes := #[] }, { accessFlags := 26, nameIndex := 1121, descriptorIndex := 1122, attributes := #[] }, { accessFlags := 25, nameIndex := 599, descriptorIndex := 600, attributes := #[] }, { accessFlags := 24, nameIndex := 1125, descriptorIndex := 18, attributes := #[] }, { accessFlags := 24, nameIndex := 1127, descriptorIndex := 18, attributes := #[] }])
  fields := #[{ name := "value", type := (.array .byte), accessFlags := 18, slot := 0, constantValue := 0 }, { name := "coder", type := .byte, accessFlags := 18, slot := 1, constantValue := 0 }, { name := "hash", type := .int, accessFlags := 2, slot := 2, constantValue := 0 }, { name := "hashIsZero", type := .boolean, accessFlags := 2, slot := 3, constantValue := 0 }, { name := "serialVersionUID", type := .long, accessFlags := 26, slot := 0, constantValue := 0 }, { name := "COMPACT_STRINGS", type := .boolean, accessFlags := 24, slot := 1, constantValue := 0 }, { name := "serialPersistentFields", type := (.array (.object "java/io/ObjectStreamField")), accessFlags := 26, slot := 2, constantValue := 0 }, { name := "REPL", type := .char, accessFlags := 26, slot := 3, constantValue := 0 }, { name := "CASE_INSENSITIVE_ORDER", type := (.object "java/util/Comparator"), accessFlags := 25, slot := 4, constantValue := 0 }, { name := "LATIN1", type := .byte, accessFlags := 24, slot := 5, constantValue := 0 }, { name := "UTF16", type := .byte, accessFlags := 24, slot := 6, constantValue := 0 }]
  methods := #[k7m0, k7m1, k7m2, k7m3, k7m4, k7m5, k7m6, k7m7]
  instanceTypes := #[(.array .byte), .byte, .int, .boolean]
  staticTypes := #[.long, .boolean, (.array (.object "java/io/ObjectStreamField")), .char, (.object "java/util/Comparator"), .byte, .byte]
  resolved := Array.replicate 1451 none
  statics := some 0 }

def pool8 : Array CpInfo := pool [(2, .class_ 4), (1, u "java/lang/Object"), (0, u "<init>"), (0, u "()V"), (0, .methodref 8 9), (0, .class_ 10), (0, .nameAndType 11 12), (0, u "java/lang/String"), (0, u "length"), (0, u "()I"), (0, .methodref 14 15), (0, .class_ 16), (0, .nameAndType 17 18), (0, u "java/lang/Math"), (0, u "min"), (0, u "(II)I"), (0, .methodref 8 20), (0, .nameAndType 21 22), (0, u "charAt"), (0, u "(I)C"), (0, .methodref 24 25), (0, .class_ 26), (0, .nameAndType 27 28), (0, u "com/example/emit_on_change/emitonchange/CodePointOrder"), (0, u "rank"), (0, u "(C)I"), (0, .integer 57344), (0, .integer 55296), (2, u "compare"), (0, u "(Ljava/lang/String;Ljava/lang/String;)I")] 3

def k8m0 : Method := { name := "<init>", desc := "()V", sig := { parameters := [], returnType := none }, accessFlags := 2, code := none }
def k8c1 : Code := { maxStack := 2, maxLocals := 6, code := prog_1_method_2_code, exceptionTable := #[], attributes := #[] }
def k8m1 : Method := { name := "compare", desc := "(Ljava/lang/String;Ljava/lang/String;)I", sig := { parameters := [(.object "java/lang/String"), (.object "java/lang/String")], returnType := some .int }, accessFlags := 8, code := some k8c1 }
def k8c2 : Code := { maxStack := 2, maxLocals := 1, code := prog_1_method_3_code, exceptionTable := #[], attributes := #[] }
def k8m2 : Method := { name := "rank", desc := "(C)I", sig := { parameters := [.char], returnType := some .int }, accessFlags := 10, code := some k8c2 }
/-- com/example/emit_on_change/emitonchange/CodePointOrder -/
def k8 : Class := { plain "com/example/emit_on_change/emitonchange/CodePointOrder" (some 0) with
  accessFlags := 32
  interfaces := #[]
  cf := some (fileOf pool8 24 #[] #[{ accessFlags := 2, nameIndex := 5, descriptorIndex := 6, attributes := #[] }, { accessFlags := 8, nameIndex := 33, descriptorIndex := 34, attributes := #[] }, { accessFlags := 10, nameIndex := 27, descriptorIndex := 28, attributes := #[] }] 32 2 #[] #[])
  fields := #[]
  methods := #[k8m0, k8m1, k8m2]
  instanceTypes := #[]
  staticTypes := #[]
  resolved := Array.replicate 38 none
  statics := none }

def pool9 : Array CpInfo := pool [(1, .class_ 2), (0, u "java/lang/Math"), (1, .class_ 6), (1, u "java/lang/Object"), (0, u "<init>"), (0, u "()V"), (89, .class_ 100), (1, u "java/lang/Math$RandomNumberGeneratorHolder"), (71, u "negativeZeroFloatBits"), (0, u "J"), (2, u "negativeZeroDoubleBits"), (24, u "min"), (43, u "$assertionsDisabled"), (0, u "Z"), (88, u "(II)I"), (2, u "twoToTheDoubleScaleDown"), (0, u "D"), (4, u "twoToTheDoubleScaleUp"), (9, u "E"), (3, u "PI"), (2, u "TAU"), (2, u "DEGREES_TO_RADIANS"), (0, u "RADIANS_TO_DEGREES")] 94

def k9m0 : Method := { name := "<init>", desc := "()V", sig := { parameters := [], returnType := none }, accessFlags := 2, code := none }
def k9c1 : Code := { maxStack := 2, maxLocals := 2, code := jdk_29_method_69_code, exceptionTable := #[], attributes := #[] }
def k9m1 : Method := { name := "min", desc := "(II)I", sig := { parameters := [.int, .int], returnType := some .int }, accessFlags := 9, code := some k9c1 }
/-- java/lang/Math -/
def k9 : Class := { plain "java/lang/Math" (some 0) with
  accessFlags := 49
  interfaces := #[]
  cf := some (fileOf pool9 1 #[.nestMembers #[98]] #[{ accessFlags := 2, nameIndex := 7, descriptorIndex := 8, attributes := #[] }, { accessFlags := 9, nameIndex := 201, descriptorIndex := 335, attributes := #[] }] 49 4 #[] #[{ accessFlags := 25, nameIndex := 354, descriptorIndex := 339, attributes := #[] }, { accessFlags := 25, nameIndex := 358, descriptorIndex := 339, attributes := #[] }, { accessFlags := 25, nameIndex := 361, descriptorIndex := 339, attributes := #[] }, { accessFlags := 26, nameIndex := 364, descriptorIndex := 339, attributes := #[] }, { accessFlags := 26, nameIndex := 365, descriptorIndex := 339, attributes := #[] }, { accessFlags := 26, nameIndex := 172, descriptorIndex := 173, attributes := #[] }, { accessFlags := 26, nameIndex := 176, descriptorIndex := 173, attributes := #[] }, { accessFlags := 8, nameIndex := 344, descriptorIndex := 339, attributes := #[] }, { accessFlags := 8, nameIndex := 338, descriptorIndex := 339, attributes := #[] }, { accessFlags := 4120, nameIndex := 245, descriptorIndex := 246, attributes := #[] }])
  fields := #[{ name := "E", type := .double, accessFlags := 25, slot := 0, constantValue := 0 }, { name := "PI", type := .double, accessFlags := 25, slot := 1, constantValue := 0 }, { name := "TAU", type := .double, accessFlags := 25, slot := 2, constantValue := 0 }, { name := "DEGREES_TO_RADIANS", type := .double, accessFlags := 26, slot := 3, constantValue := 0 }, { name := "RADIANS_TO_DEGREES", type := .double, accessFlags := 26, slot := 4, constantValue := 0 }, { name := "negativeZeroFloatBits", type := .long, accessFlags := 26, slot := 5, constantValue := 0 }, { name := "negativeZeroDoubleBits", type := .long, accessFlags := 26, slot := 6, constantValue := 0 }, { name := "twoToTheDoubleScaleUp", type := .double, accessFlags := 8, slot := 7, constantValue := 0 }, { name := "twoToTheDoubleScaleDown", type := .double, accessFlags := 8, slot := 8, constantValue := 0 }, { name := "$assertionsDisabled", type := .boolean, accessFlags := 4120, slot := 9, constantValue := 0 }]
  methods := #[k9m0, k9m1]
  instanceTypes := #[]
  staticTypes := #[.double, .double, .double, .double, .double, .long, .long, .double, .double, .boolean]
  resolved := Array.replicate 460 none
  statics := none }

def pool10 : Array CpInfo := pool [(3, .class_ 4), (0, u "java/lang/String"), (1, .class_ 8), (1, u "java/lang/Object"), (0, u "<init>"), (0, u "()V"), (0, .methodref 12 13), (0, .class_ 14), (0, .nameAndType 15 16), (0, u "java/lang/StringUTF16"), (0, u "newBytesLength"), (0, u "(I)I"), (3, .integer 1073741823), (23, .fieldref 12 45), (0, .nameAndType 46 47), (0, u "$assertionsDisabled"), (0, u "Z"), (0, .methodref 12 49), (0, .nameAndType 50 51), (0, u "length"), (0, u "([B)I"), (7, .fieldref 12 60), (0, .nameAndType 61 62), (0, u "HI_BYTE_SHIFT"), (0, u "I"), (0, .fieldref 12 64), (0, .nameAndType 65 62), (0, u "LO_BYTE_SHIFT"), (1, .methodref 12 68), (0, .nameAndType 69 70), (0, u "checkIndex"), (0, u "(I[B)V"), (0, .methodref 12 72), (0, .nameAndType 73 74), (0, u "getChar"), (0, u "([BI)C"), (32, .methodref 12 108), (0, .nameAndType 109 110), (0, u "newBytesFor"), (0, u "(I)[B"), (0, .methodref 12 112), (0, .nameAndType 113 114), (0, u "putChar"), (0, u "([BII)V"), (0, .methodref 12 116), (0, .nameAndType 117 118), (0, u "compress"), (0, u "([CI[BII)I"), (0, .methodref 12 120), (0, .nameAndType 121 122), (0, u "toBytes"), (0, u "([CII)[B"), (138, u "coderFromArrayLen"), (0, u "([BI)B"), (106, .class_ 371), (1, u "java/lang/StringUTF16$LinesSpliterator"), (20, u "charAt"), (21, .methodref 3 415), (0, .nameAndType 69 416), (0, u "(II)V"), (13, u "MAX_LENGTH"), (196, .class_ 628), (0, u "java/lang/StringUTF16$CodePointsSpliterator"), (0, .class_ 630), (0, u "java/lang/StringUTF16$CharsSpliterator")] 4

def k10m0 : Method := { name := "<init>", desc := "()V", sig := { parameters := [], returnType := none }, accessFlags := 0, code := none }
def k10c1 : Code := { maxStack := 1, maxLocals := 1, code := jdk_52_method_2_code, exceptionTable := #[], attributes := #[] }
def k10m1 : Method := { name := "newBytesFor", desc := "(I)[B", sig := { parameters := [.int], returnType := some (.array .byte) }, accessFlags := 9, code := some k10c1 }
def k10c2 : Code := { maxStack := 4, maxLocals := 1, code := jdk_52_method_3_code, exceptionTable := #[], attributes := #[] }
def k10m2 : Method := { name := "newBytesLength", desc := "(I)I", sig := { parameters := [.int], returnType := some .int }, accessFlags := 9, code := some k10c2 }
def k10c3 : Code := { maxStack := 4, maxLocals := 3, code := jdk_52_method_4_code, exceptionTable := #[], attributes := #[] }
def k10m3 : Method := { name := "putChar", desc := "([BII)V", sig := { parameters := [(.array .byte), .int, .int], returnType := none }, accessFlags := 8, code := some k10c3 }
def k10c4 : Code := { maxStack := 3, maxLocals := 2, code := jdk_52_method_5_code, exceptionTable := #[], attributes := #[] }
def k10m4 : Method := { name := "getChar", desc := "([BI)C", sig := { parameters := [(.array .byte), .int], returnType := some .char }, accessFlags := 8, code := some k10c4 }
def k10c5 : Code := { maxStack := 2, maxLocals := 1, code := jdk_52_method_6_code, exceptionTable := #[], attributes := #[] }
def k10m5 : Method := { name := "length", desc := "([B)I", sig := { parameters := [(.array .byte)], returnType := some .int }, accessFlags := 9, code := some k10c5 }
def k10c6 : Code := { maxStack := 4, maxLocals := 5, code := jdk_52_method_14_code, exceptionTable := #[], attributes := #[] }
def k10m6 : Method := { name := "toBytes", desc := "([CII)[B", sig := { parameters := [(.array .char), .int, .int], returnType := some (.array .byte) }, accessFlags := 9, code := some k10c6 }
def k10c7 : Code := { maxStack := 2, maxLocals := 2, code := jdk_52_method_15_code, exceptionTable := #[], attributes := #[] }
def k10m7 : Method := { name := "coderFromArrayLen", desc := "([BI)B", sig := { parameters := [(.array .byte), .int], returnType := some .byte }, accessFlags := 8, code := some k10c7 }
def k10c8 : Code := { maxStack := 5, maxLocals := 6, code := jdk_52_method_16_code, exceptionTable := #[], attributes := #[] }
def k10m8 : Method := { name := "compress", desc := "([CII)[B", sig := { parameters := [(.array .char), .int, .int], returnType := some (.array .byte) }, accessFlags := 9, code := some k10c8 }
def k10c9 : Code := { maxStack := 3, maxLocals := 7, code := jdk_52_method_21_code, exceptionTable := #[], attributes := #[] }
def k10m9 : Method := { name := "compress", desc := "([CI[BII)I", sig := { parameters := [(.array .char), .int, (.array .byte), .int, .int], returnType := some .int }, accessFlags := 9, code := some k10c9 }
def k10c10 : Code := { maxStack := 2, maxLocals := 2, code := jdk_52_method_83_code, exceptionTable := #[], attributes := #[] }
def k10m10 : Method := { name := "charAt", desc := "([BI)C", sig := { parameters := [(.array .byte), .int], returnType := some .char }, accessFlags := 9, code := some k10c10 }
def k10c11 : Code := { maxStack := 2, maxLocals := 2, code := jdk_52_method_91_code, exceptionTable := #[], attributes := #[] }
def k10m11 : Method := { name := "checkIndex", desc := "(I[B)V", sig := { parameters := [.int, (.array .byte)], returnType := none }, accessFlags := 9, code := some k10c11 }
/-- java/lang/StringUTF16 -/
def k10 : Class := { plain "java/lang/StringUTF16" (some 0) with
  accessFlags := 48
  interfaces := #[]
  cf := some (fileOf pool10 12 #[.nestMembers #[627, 629, 369]] #[{ accessFlags := 0, nameIndex := 9, descriptorIndex := 10, attributes := #[] }, { accessFlags := 9, nameIndex := 109, descriptorIndex := 110, attributes := #[] }, { accessFlags := 9, nameIndex := 15, descriptorIndex := 16, attributes := #[] }, { accessFlags := 8, nameIndex := 113, descriptorIndex := 114, attributes := #[] }, { accessFlags := 8, nameIndex := 73, descriptorIndex := 74, attributes := #[] }, { accessFlags := 9, nameIndex := 50, descriptorIndex := 51, attributes := #[] }, { accessFlags := 9, nameIndex := 121, descriptorIndex := 122, attributes := #[] }, { accessFlags := 8, nameIndex := 261, descriptorIndex := 262, attributes := #[] }, { accessFlags := 9, nameIndex := 117, descriptorIndex := 122, attributes := #[] }, { accessFlags := 9, nameIndex := 117, descriptorIndex := 118, attributes := #[] }, { accessFlags := 9, nameIndex := 392, descriptorIndex := 74, attributes := #[] }, { accessFlags := 9, nameIndex := 69, descriptorIndex := 70, attributes := #[] }] 48 6 #[] #[{ accessFlags := 26, nameIndex := 61, descriptorIndex := 62, attributes := #[] }, { accessFlags := 26, nameIndex := 65, descriptorIndex := 62, attributes := #[] }, { accessFlags := 24, nameIndex := 430, descriptorIndex := 62, attributes := #[] }, { accessFlags := 4120, nameIndex := 46, descriptorIndex := 47, attributes := #[] }])
  fields := #[{ name := "HI_BYTE_SHIFT", type := .int, accessFlags := 26, slot := 0, constantValue := 0 }, { name := "LO_BYTE_SHIFT", type := .int, accessFlags := 26, slot := 1, constantValue := 0 }, { name := "MAX_LENGTH", type := .int, accessFlags := 24, slot := 2, constantValue := 0 }, { name := "$assertionsDisabled", type := .boolean, accessFlags := 4120, slot := 3, constantValue := 0 }]
  methods := #[k10m0, k10m1, k10m2, k10m3, k10m4, k10m5, k10m6, k10m7, k10m8, k10m9, k10m10, k10m11]
  instanceTypes := #[]
  staticTypes := #[.int, .int, .int, .boolean]
  resolved := Array.replicate 635 none
  statics := some 1 }

def pool11 : Array CpInfo := pool [(1, .class_ 2), (0, u "java/lang/String"), (1, .class_ 6), (1, u "java/lang/Object"), (0, u "<init>"), (0, u "()V"), (0, .methodref 1 10), (0, .nameAndType 11 12), (0, u "checkIndex"), (0, u "(II)V"), (1, .class_ 16), (1, u "java/lang/StringLatin1"), (36, u "([BI)C"), (67, u "$assertionsDisabled"), (0, u "Z"), (98, .class_ 223), (1, u "java/lang/StringLatin1$LinesSpliterator"), (28, u "charAt"), (137, .class_ 391), (0, u "java/lang/StringLatin1$CharsSpliterator")] 3

def k11m0 : Method := { name := "<init>", desc := "()V", sig := { parameters := [], returnType := none }, accessFlags := 0, code := none }
def k11c1 : Code := { maxStack := 2, maxLocals := 2, code := jdk_43_method_2_code, exceptionTable := #[], attributes := #[] }
def k11m1 : Method := { name := "charAt", desc := "([BI)C", sig := { parameters := [(.array .byte), .int], returnType := some .char }, accessFlags := 9, code := some k11c1 }
/-- java/lang/StringLatin1 -/
def k11 : Class := { plain "java/lang/StringLatin1" (some 0) with
  accessFlags := 48
  interfaces := #[]
  cf := some (fileOf pool11 14 #[.nestMembers #[390, 221]] #[{ accessFlags := 0, nameIndex := 7, descriptorIndex := 8, attributes := #[] }, { accessFlags := 9, nameIndex := 252, descriptorIndex := 53, attributes := #[] }] 48 4 #[] #[{ accessFlags := 4120, nameIndex := 121, descriptorIndex := 122, attributes := #[] }])
  fields := #[{ name := "$assertionsDisabled", type := .boolean, accessFlags := 4120, slot := 0, constantValue := 0 }]
  methods := #[k11m0, k11m1]
  instanceTypes := #[]
  staticTypes := #[.boolean]
  resolved := Array.replicate 395 none
  statics := none }

def pool12 : Array CpInfo := pool [(2, .class_ 4), (1, u "java/lang/Object"), (0, u "<init>"), (0, u "()V"), (17, .class_ 26), (1, u "jdk/internal/util/Preconditions"), (6, u "checkIndex"), (21, .class_ 56), (0, u "jdk/internal/util/Preconditions$4"), (57, .class_ 115), (0, u "jdk/internal/util/Preconditions$1"), (7, u "SIOOBE_FORMATTER"), (0, u "Ljava/util/function/BiFunction;"), (0, .class_ 126), (0, u "jdk/internal/util/Preconditions$2"), (3, u "AIOOBE_FORMATTER"), (0, .class_ 132), (0, u "jdk/internal/util/Preconditions$3"), (3, u "IOOBE_FORMATTER"), (41, u "(IILjava/util/function/BiFunction;)I")] 15

def k12m0 : Method := { name := "<init>", desc := "()V", sig := { parameters := [], returnType := none }, accessFlags := 1, code := none }
def k12c1 : Code := { maxStack := 3, maxLocals := 3, code := jdk_41_method_11_code, exceptionTable := #[], attributes := #[] }
def k12m1 : Method := { name := "checkIndex", desc := "(IILjava/util/function/BiFunction;)I", sig := { parameters := [.int, .int, (.object "java/util/function/BiFunction")], returnType := some .int }, accessFlags := 9, code := some k12c1 }
/-- jdk/internal/util/Preconditions -/
def k12 : Class := { plain "jdk/internal/util/Preconditions" (some 0) with
  accessFlags := 33
  interfaces := #[]
  cf := some (fileOf pool12 24 #[.nestMembers #[55, 131, 125, 114]] #[{ accessFlags := 1, nameIndex := 5, descriptorIndex := 6, attributes := #[] }, { accessFlags := 9, nameIndex := 33, descriptorIndex := 178, attributes := #[] }] 33 2 #[] #[{ accessFlags := 25, nameIndex := 123, descriptorIndex := 124, attributes := #[] }, { accessFlags := 25, nameIndex := 130, descriptorIndex := 124, attributes := #[] }, { accessFlags := 25, nameIndex := 136, descriptorIndex := 124, attributes := #[] }])
  fields := #[{ name := "SIOOBE_FORMATTER", type := (.object "java/util/function/BiFunction"), accessFlags := 25, slot := 0, constantValue := 0 }, { name := "AIOOBE_FORMATTER", type := (.object "java/util/function/BiFunction"), accessFlags := 25, slot := 1, constantValue := 0 }, { name := "IOOBE_FORMATTER", type := (.object "java/util/function/BiFunction"), accessFlags := 25, slot := 2, constantValue := 0 }]
  methods := #[k12m0, k12m1]
  instanceTypes := #[]
  staticTypes := #[(.object "java/util/function/BiFunction"), (.object "java/util/function/BiFunction"), (.object "java/util/function/BiFunction")]
  resolved := Array.replicate 194 none
  statics := some 2 }

def pool13 : Array CpInfo := pool [(9, u "<init>"), (6, .class_ 18), (1, u "java/lang/Object"), (0, u "()V"), (1, .class_ 23), (1, u "jdk/internal/util/ArraysSupport"), (0, u "LOG2_ARRAY_LONG_INDEX_SCALE"), (0, u "I"), (2, u "U"), (0, u "Ljdk/internal/misc/Unsafe;"), (8, u "BIG_ENDIAN"), (0, u "Z"), (8, u "LOG2_BYTE_BIT_SIZE"), (4, u "LOG2_ARRAY_INT_INDEX_SCALE"), (54, u "JLA"), (0, u "Ljdk/internal/access/JavaLangAccess;"), (11, u "LOG2_ARRAY_BOOLEAN_INDEX_SCALE"), (9, u "LOG2_ARRAY_BYTE_INDEX_SCALE"), (5, u "LOG2_ARRAY_CHAR_INDEX_SCALE"), (5, u "LOG2_ARRAY_SHORT_INDEX_SCALE"), (18, u "LOG2_ARRAY_FLOAT_INDEX_SCALE"), (24, u "LOG2_ARRAY_DOUBLE_INDEX_SCALE"), (89, u "T_BOOLEAN"), (2, u "T_CHAR"), (1, u "T_FLOAT"), (1, u "T_DOUBLE"), (1, u "T_BYTE"), (1, u "T_SHORT"), (1, u "T_INT"), (1, u "T_LONG"), (1, u "SOFT_MAX_ARRAY_LENGTH")] 83

def k13m0 : Method := { name := "<init>", desc := "()V", sig := { parameters := [], returnType := none }, accessFlags := 2, code := none }
/-- jdk/internal/util/ArraysSupport -/
def k13 : Class := { plain "jdk/internal/util/ArraysSupport" (some 0) with
  accessFlags := 33
  interfaces := #[]
  cf := some (fileOf pool13 21 #[] #[{ accessFlags := 2, nameIndex := 9, descriptorIndex := 19, attributes := #[] }] 33 16 #[] #[{ accessFlags := 24, nameIndex := 28, descriptorIndex := 29, attributes := #[] }, { accessFlags := 26, nameIndex := 38, descriptorIndex := 39, attributes := #[] }, { accessFlags := 25, nameIndex := 121, descriptorIndex := 25, attributes := #[] }, { accessFlags := 25, nameIndex := 131, descriptorIndex := 25, attributes := #[] }, { accessFlags := 25, nameIndex := 137, descriptorIndex := 25, attributes := #[] }, { accessFlags := 25, nameIndex := 143, descriptorIndex := 25, attributes := #[] }, { accessFlags := 25, nameIndex := 53, descriptorIndex := 25, attributes := #[] }, { accessFlags := 25, nameIndex := 24, descriptorIndex := 25, attributes := #[] }, { accessFlags := 25, nameIndex := 162, descriptorIndex := 25, attributes := #[] }, { accessFlags := 25, nameIndex := 187, descriptorIndex := 25, attributes := #[] }, { accessFlags := 26, nameIndex := 48, descriptorIndex := 25, attributes := #[] }, { accessFlags := 25, nameIndex := 277, descriptorIndex := 25, attributes := #[] }, { accessFlags := 25, nameIndex := 280, descriptorIndex := 25, attributes := #[] }, { accessFlags := 25, nameIndex := 282, descriptorIndex := 25, attributes := #[] }, { accessFlags := 25, nameIndex := 284, descriptorIndex := 25, attributes := #[] }, { accessFlags := 25, nameIndex := 286, descriptorIndex := 25, attributes := #[] }, { accessFlags := 25, nameIndex := 288, descriptorIndex := 25, attributes := #[] }, { accessFlags := 25, nameIndex := 290, descriptorIndex := 25, attributes := #[] }, { accessFlags := 25, nameIndex := 292, descriptorIndex := 25, attributes := #[] }, { accessFlags := 26, nameIndex := 108, descriptorIndex := 109, attributes := #[] }, { accessFlags := 25, nameIndex := 294, descriptorIndex := 25, attributes := #[] }])
  fields := #[{ name := "U", type := (.object "jdk/internal/misc/Unsafe"), accessFlags := 24, slot := 0, constantValue := 0 }, { name := "BIG_ENDIAN", type := .boolean, accessFlags := 26, slot := 1, constantValue := 0 }, { name := "LOG2_ARRAY_BOOLEAN_INDEX_SCALE", type := .int, accessFlags := 25, slot := 2, constantValue := 0 }, { name := "LOG2_ARRAY_BYTE_INDEX_SCALE", type := .int, accessFlags := 25, slot := 3, constantValue := 0 }, { name := "LOG2_ARRAY_CHAR_INDEX_SCALE", type := .int, accessFlags := 25, slot := 4, constantValue := 0 }, { name := "LOG2_ARRAY_SHORT_INDEX_SCALE", type := .int, accessFlags := 25, slot := 5, constantValue := 0 }, { name := "LOG2_ARRAY_INT_INDEX_SCALE", type := .int, accessFlags := 25, slot := 6, constantValue := 0 }, { name := "LOG2_ARRAY_LONG_INDEX_SCALE", type := .int, accessFlags := 25, slot := 7, constantValue := 0 }, { name := "LOG2_ARRAY_FLOAT_INDEX_SCALE", type := .int, accessFlags := 25, slot := 8, constantValue := 0 }, { name := "LOG2_ARRAY_DOUBLE_INDEX_SCALE", type := .int, accessFlags := 25, slot := 9, constantValue := 0 }, { name := "LOG2_BYTE_BIT_SIZE", type := .int, accessFlags := 26, slot := 10, constantValue := 0 }, { name := "T_BOOLEAN", type := .int, accessFlags := 25, slot := 11, constantValue := 0 }, { name := "T_CHAR", type := .int, accessFlags := 25, slot := 12, constantValue := 0 }, { name := "T_FLOAT", type := .int, accessFlags := 25, slot := 13, constantValue := 0 }, { name := "T_DOUBLE", type := .int, accessFlags := 25, slot := 14, constantValue := 0 }, { name := "T_BYTE", type := .int, accessFlags := 25, slot := 15, constantValue := 0 }, { name := "T_SHORT", type := .int, accessFlags := 25, slot := 16, constantValue := 0 }, { name := "T_INT", type := .int, accessFlags := 25, slot := 17, constantValue := 0 }, { name := "T_LONG", type := .int, accessFlags := 25, slot := 18, constantValue := 0 }, { name := "JLA", type := (.object "jdk/internal/access/JavaLangAccess"), accessFlags := 26, slot := 19, constantValue := 0 }, { name := "SOFT_MAX_ARRAY_LENGTH", type := .int, accessFlags := 25, slot := 20, constantValue := 0 }]
  methods := #[k13m0]
  instanceTypes := #[]
  staticTypes := #[(.object "jdk/internal/misc/Unsafe"), .boolean, .int, .int, .int, .int, .int, .int, .int, .int, .int, .int, .int, .int, .int, .int, .int, .int, .int, (.object "jdk/internal/access/JavaLangAccess"), .int]
  resolved := Array.replicate 378 none
  statics := none }

def pool14 : Array CpInfo := pool [(1, u "java/lang/Cloneable"), (0, .class_ 1), (0, u "java/lang/Object"), (0, .class_ 3)] 3

/-- java/lang/Cloneable -/
def k14 : Class := { plain "java/lang/Cloneable" (some 0) with
  accessFlags := 1537
  interfaces := #[]
  cf := some (fileOf pool14 2 #[] #[] 1537 4 #[] #[])
  fields := #[]
  methods := #[]
  instanceTypes := #[]
  staticTypes := #[]
  resolved := Array.replicate 8 none
  statics := none }

/-- the primitive byte -/
def k15 : Class := { plain "byte" none with kind := .primitive 'B', accessFlags := 0x411 }
/-- [B -/
def k16 : Class := { plain "[B" (some 0) with kind := .array 15 .byte, interfaces := #[14, 2], accessFlags := 1041 }

/-- the primitive char -/
def k17 : Class := { plain "char" none with kind := .primitive 'C', accessFlags := 0x411 }
/-- [C -/
def k18 : Class := { plain "[C" (some 0) with kind := .array 17 .char, interfaces := #[14, 2], accessFlags := 1041 }

/-- the primitive int -/
def k19 : Class := { plain "int" none with kind := .primitive 'I', accessFlags := 0x411 }
/-- [I -/
def k20 : Class := { plain "[I" (some 0) with kind := .array 19 .int, interfaces := #[14, 2], accessFlags := 1041 }

def heap : Heap := #[{ cls := 7, slots := #[.long 0, .int 1, .null, .int 0, .null, .int 0, .int 0], vm := .statics 7 },
  { cls := 10, slots := #[.int 0, .int 8, .int 0, .int 1], vm := .statics 10 },
  { cls := 12, slots := #[.null, .null, .null], vm := .statics 12 }]
def classes : Array Class := #[k0, k1, k2, k3, k4, k5, k6, k7, k8, k9, k10, k11, k12, k13, k14, k15, k16, k17, k18, k19, k20]
def interned : List (Array UInt16 × Addr) := []
def slotsUsed : Nat := 14
def theMethod : MethodId := ⟨1, 1⟩
def args0 : Array Value := #[.int 1, .int 2, .int 65, .int 66, .int 67, .int 68]
def aboutOver (below : List Frame) : State where
  vm := { classes := classes, interned := interned.toArray }
  heap := heap
  slotsUsed := slotsUsed
  threads := #[{ frames := .invoking theMethod args0 :: below }]
def below0 : List Frame := [.native { method := ⟨0, 0⟩, args := #[] }]
def about1 : State := aboutOver below0
def p0 : Program := .bare "" "" ""
def e0 : Env := launch0.env 0 0 0
theorem w_frames : about1.frames = Frame.invoking theMethod args0 :: below0 := rfl
set_option maxRecDepth 65536 in
theorem w_args : argsFit about1.vm theMethod args0 = true := by decide +kernel
set_option maxRecDepth 65536 in
theorem w_heap : heapFits about1 = true := by decide +kernel
set_option maxRecDepth 65536 in
theorem w_runnable : about1.curStatus? = some .runnable := by decide +kernel
set_option maxRecDepth 65536 in
theorem w_alone : about1.alone = true := by decide +kernel
set_option maxRecDepth 65536 in
theorem w_named : about1.methodNamed? x = some theMethod := by decide +kernel
set_option maxRecDepth 65536 in
theorem w_hears : about1.hears theMethod below0 = true := by decide +kernel
set_option maxRecDepth 65536 in
theorem w_ripe : about1.ripe theMethod args0 below0 = true := by decide +kernel
theorem w_running : about1.status = .running := rfl
set_option maxRecDepth 65536 in
theorem w_room : about1.hasRoom e0.platform room_1 = true :=
  launch0.hasRoom_least _ room_1 (by decide +kernel) (by decide +kernel) (by decide +kernel) (by decide +kernel) (by decide +kernel) (by decide +kernel)
theorem allAtoms_all (ts : List Jvm.Cond) (a : Array Jvm.Value) (st : Jvm.State) : (allAtoms ts).before a st = ts.all (fun c => c.before a st) := by
  induction ts with
  | nil => rfl
  | cons c t ih =>
    show (Jvm.Cond.and c (allAtoms t)).before a st = _
    rw [Jvm.Cond.before_and, ih, List.all_cons]
def words1 : List Jvm.Cond := Jvm.Cond.code x code maxLocals ret :: tables_1
/-- a 'code' word, met by the world's own term for the bytes: nothing is compared byte by byte -/
theorem code_word {y : MethodName} {bytes : ByteArray} {mx : Nat} {rt : Option FieldType} {a : Array Value} {s : State} {m : MethodId} {meth : Method} {c : Code} (h1 : s.methodNamed? y = some m) (h2 : s.vm.method? m = some meth) (h3 : meth.code = some c) (h4 : c.code = bytes)
    (h5 : (c.maxLocals == mx && c.exceptionTable.isEmpty && decide (c.maxStack ≤ mostOperands) && decide (meth.sig.returnType = rt) && !meth.locks && decide (parseMethodDescriptor y.desc = some meth.sig)) = true) : (Jvm.Cond.code y bytes mx rt).before a s = true := by
  simp only [Bool.and_eq_true, beq_iff_eq, Bool.not_eq_true', decide_eq_true_eq] at h5
  obtain ⟨⟨⟨⟨⟨g1, g2⟩, g3⟩, g4⟩, g5⟩, g6⟩ := h5
  simp [Cond.before, Cond.holds, Cond.value, h1, h2, h3, h4, g1, g2, g3, g4, g5, g6]
def isCode : Jvm.Cond → Bool
  | .code _ _ _ _ => true
  | _ => false
theorem all_split {L : List Jvm.Cond} {P : Jvm.Cond → Bool} (h1 : L.all (fun c => isCode c || P c) = true) (h2 : ∀ c ∈ L.filter isCode, P c = true) : L.all P = true := by
  refine List.all_eq_true.mpr fun c hc => ?_
  have h := List.all_eq_true.mp h1 c hc
  rcases Bool.eq_false_or_eq_true (isCode c) with hi | hi
  · exact h2 c (List.mem_filter.mpr ⟨hc, hi⟩)
  · simpa [hi] using h
set_option maxRecDepth 65536 in
theorem w_c0 : (Jvm.Cond.code x code maxLocals ret).before args0 about1 = true := code_word (m := ⟨1, 1⟩) (meth := k1m1) (c := k1c1) (by decide +kernel) rfl rfl rfl (by decide +kernel)
set_option maxRecDepth 65536 in
theorem w_c1 : (Jvm.Cond.code ({ cls := "com/example/emit_on_change/emitonchange/CodePointOrderComparePinLaw", name := "mk", desc := "(ICC)Ljava/lang/String;" } : Jvm.MethodName) method_3_code (3 : Nat) (Option.some (Jvm.ClassFile.FieldType.object "java/lang/String"))).before args0 about1 = true := code_word (m := ⟨1, 2⟩) (meth := k1m2) (c := k1c2) (by decide +kernel) rfl rfl rfl (by decide +kernel)
set_option maxRecDepth 65536 in
theorem w_c2 : (Jvm.Cond.code ({ cls := "java/lang/String", name := "<init>", desc := "([C)V" } : Jvm.MethodName) jdk_42_method_3_code (2 : Nat) (Option.none : Option Jvm.ClassFile.FieldType)).before args0 about1 = true := code_word (m := ⟨7, 1⟩) (meth := k7m1) (c := k7c1) (by decide +kernel) rfl rfl rfl (by decide +kernel)
set_option maxRecDepth 65536 in
theorem w_c3 : (Jvm.Cond.code ({ cls := "java/lang/String", name := "<init>", desc := "([CIILjava/lang/Void;)V" } : Jvm.MethodName) jdk_42_method_149_code (6 : Nat) (Option.none : Option Jvm.ClassFile.FieldType)).before args0 about1 = true := code_word (m := ⟨7, 4⟩) (meth := k7m4) (c := k7c4) (by decide +kernel) rfl rfl rfl (by decide +kernel)
set_option maxRecDepth 65536 in
theorem w_c4 : (Jvm.Cond.code ({ cls := "java/lang/Object", name := "<init>", desc := "()V" } : Jvm.MethodName) object_method_1_code (1 : Nat) (Option.none : Option Jvm.ClassFile.FieldType)).before args0 about1 = true := code_word (m := ⟨0, 0⟩) (meth := k0m0) (c := k0c0) (by decide +kernel) rfl rfl rfl (by decide +kernel)
set_option maxRecDepth 65536 in
theorem w_c5 : (Jvm.Cond.code ({ cls := "com/example/emit_on_change/emitonchange/CodePointOrderComparePinLaw", name := "sign", desc := "(I)I" } : Jvm.MethodName) method_6_code (1 : Nat) (Option.some Jvm.ClassFile.FieldType.int)).before args0 about1 = true := code_word (m := ⟨1, 5⟩) (meth := k1m5) (c := k1c5) (by decide +kernel) rfl rfl rfl (by decide +kernel)
set_option maxRecDepth 65536 in
theorem w_c6 : (Jvm.Cond.code ({ cls := "com/example/emit_on_change/emitonchange/CodePointOrder", name := "compare", desc := "(Ljava/lang/String;Ljava/lang/String;)I" } : Jvm.MethodName) prog_1_method_2_code (6 : Nat) (Option.some Jvm.ClassFile.FieldType.int)).before args0 about1 = true := code_word (m := ⟨8, 1⟩) (meth := k8m1) (c := k8c1) (by decide +kernel) rfl rfl rfl (by decide +kernel)
set_option maxRecDepth 65536 in
theorem w_c7 : (Jvm.Cond.code ({ cls := "java/lang/String", name := "length", desc := "()I" } : Jvm.MethodName) jdk_42_method_54_code (1 : Nat) (Option.some Jvm.ClassFile.FieldType.int)).before args0 about1 = true := code_word (m := ⟨7, 2⟩) (meth := k7m2) (c := k7c2) (by decide +kernel) rfl rfl rfl (by decide +kernel)
set_option maxRecDepth 65536 in
theorem w_c8 : (Jvm.Cond.code ({ cls := "java/lang/String", name := "coder", desc := "()B" } : Jvm.MethodName) jdk_42_method_152_code (1 : Nat) (Option.some Jvm.ClassFile.FieldType.byte)).before args0 about1 = true := code_word (m := ⟨7, 5⟩) (meth := k7m5) (c := k7c5) (by decide +kernel) rfl rfl rfl (by decide +kernel)
set_option maxRecDepth 65536 in
theorem w_c9 : (Jvm.Cond.code ({ cls := "java/lang/Math", name := "min", desc := "(II)I" } : Jvm.MethodName) jdk_29_method_69_code (2 : Nat) (Option.some Jvm.ClassFile.FieldType.int)).before args0 about1 = true := code_word (m := ⟨9, 1⟩) (meth := k9m1) (c := k9c1) (by decide +kernel) rfl rfl rfl (by decide +kernel)
set_option maxRecDepth 65536 in
theorem w_c10 : (Jvm.Cond.code ({ cls := "java/lang/StringUTF16", name := "compress", desc := "([CII)[B" } : Jvm.MethodName) jdk_52_method_16_code (6 : Nat) (Option.some (Jvm.ClassFile.FieldType.array Jvm.ClassFile.FieldType.byte))).before args0 about1 = true := code_word (m := ⟨10, 8⟩) (meth := k10m8) (c := k10c8) (by decide +kernel) rfl rfl rfl (by decide +kernel)
set_option maxRecDepth 65536 in
theorem w_c11 : (Jvm.Cond.code ({ cls := "java/lang/StringUTF16", name := "compress", desc := "([CI[BII)I" } : Jvm.MethodName) jdk_52_method_21_code (7 : Nat) (Option.some Jvm.ClassFile.FieldType.int)).before args0 about1 = true := code_word (m := ⟨10, 9⟩) (meth := k10m9) (c := k10c9) (by decide +kernel) rfl rfl rfl (by decide +kernel)
set_option maxRecDepth 65536 in
theorem w_c12 : (Jvm.Cond.code ({ cls := "java/lang/StringUTF16", name := "coderFromArrayLen", desc := "([BI)B" } : Jvm.MethodName) jdk_52_method_15_code (2 : Nat) (Option.some Jvm.ClassFile.FieldType.byte)).before args0 about1 = true := code_word (m := ⟨10, 7⟩) (meth := k10m7) (c := k10c7) (by decide +kernel) rfl rfl rfl (by decide +kernel)
set_option maxRecDepth 65536 in
theorem w_c13 : (Jvm.Cond.code ({ cls := "com/example/emit_on_change/emitonchange/CodePointOrderComparePinLaw", name := "unitCmp", desc := "(CC)I" } : Jvm.MethodName) method_5_code (4 : Nat) (Option.some Jvm.ClassFile.FieldType.int)).before args0 about1 = true := code_word (m := ⟨1, 4⟩) (meth := k1m4) (c := k1c4) (by decide +kernel) rfl rfl rfl (by decide +kernel)
set_option maxRecDepth 65536 in
theorem w_c14 : (Jvm.Cond.code ({ cls := "com/example/emit_on_change/emitonchange/CodePointOrderComparePinLaw", name := "group", desc := "(C)I" } : Jvm.MethodName) method_4_code (1 : Nat) (Option.some Jvm.ClassFile.FieldType.int)).before args0 about1 = true := code_word (m := ⟨1, 3⟩) (meth := k1m3) (c := k1c3) (by decide +kernel) rfl rfl rfl (by decide +kernel)
set_option maxRecDepth 65536 in
theorem w_c15 : (Jvm.Cond.code ({ cls := "java/lang/String", name := "charAt", desc := "(I)C" } : Jvm.MethodName) jdk_42_method_56_code (2 : Nat) (Option.some Jvm.ClassFile.FieldType.char)).before args0 about1 = true := code_word (m := ⟨7, 3⟩) (meth := k7m3) (c := k7c3) (by decide +kernel) rfl rfl rfl (by decide +kernel)
set_option maxRecDepth 65536 in
theorem w_c16 : (Jvm.Cond.code ({ cls := "java/lang/String", name := "isLatin1", desc := "()Z" } : Jvm.MethodName) jdk_42_method_154_code (1 : Nat) (Option.some Jvm.ClassFile.FieldType.boolean)).before args0 about1 = true := code_word (m := ⟨7, 6⟩) (meth := k7m6) (c := k7c6) (by decide +kernel) rfl rfl rfl (by decide +kernel)
set_option maxRecDepth 65536 in
theorem w_c17 : (Jvm.Cond.code ({ cls := "java/lang/StringLatin1", name := "charAt", desc := "([BI)C" } : Jvm.MethodName) jdk_43_method_2_code (2 : Nat) (Option.some Jvm.ClassFile.FieldType.char)).before args0 about1 = true := code_word (m := ⟨11, 1⟩) (meth := k11m1) (c := k11c1) (by decide +kernel) rfl rfl rfl (by decide +kernel)
set_option maxRecDepth 65536 in
theorem w_c18 : (Jvm.Cond.code ({ cls := "java/lang/String", name := "checkIndex", desc := "(II)V" } : Jvm.MethodName) jdk_42_method_155_code (2 : Nat) (Option.none : Option Jvm.ClassFile.FieldType)).before args0 about1 = true := code_word (m := ⟨7, 7⟩) (meth := k7m7) (c := k7c7) (by decide +kernel) rfl rfl rfl (by decide +kernel)
set_option maxRecDepth 65536 in
theorem w_c19 : (Jvm.Cond.code ({ cls := "jdk/internal/util/Preconditions", name := "checkIndex", desc := "(IILjava/util/function/BiFunction;)I" } : Jvm.MethodName) jdk_41_method_11_code (3 : Nat) (Option.some Jvm.ClassFile.FieldType.int)).before args0 about1 = true := code_word (m := ⟨12, 1⟩) (meth := k12m1) (c := k12c1) (by decide +kernel) rfl rfl rfl (by decide +kernel)
set_option maxRecDepth 65536 in
theorem w_c20 : (Jvm.Cond.code ({ cls := "com/example/emit_on_change/emitonchange/CodePointOrder", name := "rank", desc := "(C)I" } : Jvm.MethodName) prog_1_method_3_code (1 : Nat) (Option.some Jvm.ClassFile.FieldType.int)).before args0 about1 = true := code_word (m := ⟨8, 2⟩) (meth := k8m2) (c := k8c2) (by decide +kernel) rfl rfl rfl (by decide +kernel)
set_option maxRecDepth 65536 in
theorem w_c21 : (Jvm.Cond.code ({ cls := "java/lang/StringUTF16", name := "toBytes", desc := "([CII)[B" } : Jvm.MethodName) jdk_52_method_14_code (5 : Nat) (Option.some (Jvm.ClassFile.FieldType.array Jvm.ClassFile.FieldType.byte))).before args0 about1 = true := code_word (m := ⟨10, 6⟩) (meth := k10m6) (c := k10c6) (by decide +kernel) rfl rfl rfl (by decide +kernel)
set_option maxRecDepth 65536 in
theorem w_c22 : (Jvm.Cond.code ({ cls := "java/lang/StringUTF16", name := "newBytesFor", desc := "(I)[B" } : Jvm.MethodName) jdk_52_method_2_code (1 : Nat) (Option.some (Jvm.ClassFile.FieldType.array Jvm.ClassFile.FieldType.byte))).before args0 about1 = true := code_word (m := ⟨10, 1⟩) (meth := k10m1) (c := k10c1) (by decide +kernel) rfl rfl rfl (by decide +kernel)
set_option maxRecDepth 65536 in
theorem w_c23 : (Jvm.Cond.code ({ cls := "java/lang/StringUTF16", name := "newBytesLength", desc := "(I)I" } : Jvm.MethodName) jdk_52_method_3_code (1 : Nat) (Option.some Jvm.ClassFile.FieldType.int)).before args0 about1 = true := code_word (m := ⟨10, 2⟩) (meth := k10m2) (c := k10c2) (by decide +kernel) rfl rfl rfl (by decide +kernel)
set_option maxRecDepth 65536 in
theorem w_c24 : (Jvm.Cond.code ({ cls := "java/lang/StringUTF16", name := "putChar", desc := "([BII)V" } : Jvm.MethodName) jdk_52_method_4_code (3 : Nat) (Option.none : Option Jvm.ClassFile.FieldType)).before args0 about1 = true := code_word (m := ⟨10, 3⟩) (meth := k10m3) (c := k10c3) (by decide +kernel) rfl rfl rfl (by decide +kernel)
set_option maxRecDepth 65536 in
theorem w_c25 : (Jvm.Cond.code ({ cls := "java/lang/StringUTF16", name := "getChar", desc := "([BI)C" } : Jvm.MethodName) jdk_52_method_5_code (2 : Nat) (Option.some Jvm.ClassFile.FieldType.char)).before args0 about1 = true := code_word (m := ⟨10, 4⟩) (meth := k10m4) (c := k10c4) (by decide +kernel) rfl rfl rfl (by decide +kernel)
set_option maxRecDepth 65536 in
theorem w_c26 : (Jvm.Cond.code ({ cls := "java/lang/StringUTF16", name := "charAt", desc := "([BI)C" } : Jvm.MethodName) jdk_52_method_83_code (2 : Nat) (Option.some Jvm.ClassFile.FieldType.char)).before args0 about1 = true := code_word (m := ⟨10, 10⟩) (meth := k10m10) (c := k10c10) (by decide +kernel) rfl rfl rfl (by decide +kernel)
set_option maxRecDepth 65536 in
theorem w_c27 : (Jvm.Cond.code ({ cls := "java/lang/StringUTF16", name := "checkIndex", desc := "(I[B)V" } : Jvm.MethodName) jdk_52_method_91_code (2 : Nat) (Option.none : Option Jvm.ClassFile.FieldType)).before args0 about1 = true := code_word (m := ⟨10, 11⟩) (meth := k10m11) (c := k10c11) (by decide +kernel) rfl rfl rfl (by decide +kernel)
set_option maxRecDepth 65536 in
theorem w_c28 : (Jvm.Cond.code ({ cls := "java/lang/StringUTF16", name := "length", desc := "([B)I" } : Jvm.MethodName) jdk_52_method_6_code (1 : Nat) (Option.some Jvm.ClassFile.FieldType.int)).before args0 about1 = true := code_word (m := ⟨10, 5⟩) (meth := k10m5) (c := k10c5) (by decide +kernel) rfl rfl rfl (by decide +kernel)
def codes1 : List Jvm.Cond := [Jvm.Cond.code x code maxLocals ret, Jvm.Cond.code ({ cls := "com/example/emit_on_change/emitonchange/CodePointOrderComparePinLaw", name := "mk", desc := "(ICC)Ljava/lang/String;" } : Jvm.MethodName) method_3_code (3 : Nat) (Option.some (Jvm.ClassFile.FieldType.object "java/lang/String")), Jvm.Cond.code ({ cls := "java/lang/String", name := "<init>", desc := "([C)V" } : Jvm.MethodName) jdk_42_method_3_code (2 : Nat) (Option.none : Option Jvm.ClassFile.FieldType), Jvm.Cond.code ({ cls := "java/lang/String", name := "<init>", desc := "([CIILjava/lang/Void;)V" } : Jvm.MethodName) jdk_42_method_149_code (6 : Nat) (Option.none : Option Jvm.ClassFile.FieldType), Jvm.Cond.code ({ cls := "java/lang/Object", name := "<init>", desc := "()V" } : Jvm.MethodName) object_method_1_code (1 : Nat) (Option.none : Option Jvm.ClassFile.FieldType), Jvm.Cond.code ({ cls := "com/example/emit_on_change/emitonchange/CodePointOrderComparePinLaw", name := "sign", desc := "(I)I" } : Jvm.MethodName) method_6_code (1 : Nat) (Option.some Jvm.ClassFile.FieldType.int), Jvm.Cond.code ({ cls := "com/example/emit_on_change/emitonchange/CodePointOrder", name := "compare", desc := "(Ljava/lang/String;Ljava/lang/String;)I" } : Jvm.MethodName) prog_1_method_2_code (6 : Nat) (Option.some Jvm.ClassFile.FieldType.int), Jvm.Cond.code ({ cls := "java/lang/String", name := "length", desc := "()I" } : Jvm.MethodName) jdk_42_method_54_code (1 : Nat) (Option.some Jvm.ClassFile.FieldType.int), Jvm.Cond.code ({ cls := "java/lang/String", name := "coder", desc := "()B" } : Jvm.MethodName) jdk_42_method_152_code (1 : Nat) (Option.some Jvm.ClassFile.FieldType.byte), Jvm.Cond.code ({ cls := "java/lang/Math", name := "min", desc := "(II)I" } : Jvm.MethodName) jdk_29_method_69_code (2 : Nat) (Option.some Jvm.ClassFile.FieldType.int), Jvm.Cond.code ({ cls := "java/lang/StringUTF16", name := "compress", desc := "([CII)[B" } : Jvm.MethodName) jdk_52_method_16_code (6 : Nat) (Option.some (Jvm.ClassFile.FieldType.array Jvm.ClassFile.FieldType.byte)), Jvm.Cond.code ({ cls := "java/lang/StringUTF16", name := "compress", desc := "([CI[BII)I" } : Jvm.MethodName) jdk_52_method_21_code (7 : Nat) (Option.some Jvm.ClassFile.FieldType.int), Jvm.Cond.code ({ cls := "java/lang/StringUTF16", name := "coderFromArrayLen", desc := "([BI)B" } : Jvm.MethodName) jdk_52_method_15_code (2 : Nat) (Option.some Jvm.ClassFile.FieldType.byte), Jvm.Cond.code ({ cls := "com/example/emit_on_change/emitonchange/CodePointOrderComparePinLaw", name := "unitCmp", desc := "(CC)I" } : Jvm.MethodName) method_5_code (4 : Nat) (Option.some Jvm.ClassFile.FieldType.int), Jvm.Cond.code ({ cls := "com/example/emit_on_change/emitonchange/CodePointOrderComparePinLaw", name := "group", desc := "(C)I" } : Jvm.MethodName) method_4_code (1 : Nat) (Option.some Jvm.ClassFile.FieldType.int), Jvm.Cond.code ({ cls := "java/lang/String", name := "charAt", desc := "(I)C" } : Jvm.MethodName) jdk_42_method_56_code (2 : Nat) (Option.some Jvm.ClassFile.FieldType.char), Jvm.Cond.code ({ cls := "java/lang/String", name := "isLatin1", desc := "()Z" } : Jvm.MethodName) jdk_42_method_154_code (1 : Nat) (Option.some Jvm.ClassFile.FieldType.boolean), Jvm.Cond.code ({ cls := "java/lang/StringLatin1", name := "charAt", desc := "([BI)C" } : Jvm.MethodName) jdk_43_method_2_code (2 : Nat) (Option.some Jvm.ClassFile.FieldType.char), Jvm.Cond.code ({ cls := "java/lang/String", name := "checkIndex", desc := "(II)V" } : Jvm.MethodName) jdk_42_method_155_code (2 : Nat) (Option.none : Option Jvm.ClassFile.FieldType), Jvm.Cond.code ({ cls := "jdk/internal/util/Preconditions", name := "checkIndex", desc := "(IILjava/util/function/BiFunction;)I" } : Jvm.MethodName) jdk_41_method_11_code (3 : Nat) (Option.some Jvm.ClassFile.FieldType.int), Jvm.Cond.code ({ cls := "com/example/emit_on_change/emitonchange/CodePointOrder", name := "rank", desc := "(C)I" } : Jvm.MethodName) prog_1_method_3_code (1 : Nat) (Option.some Jvm.ClassFile.FieldType.int), Jvm.Cond.code ({ cls := "java/lang/StringUTF16", name := "toBytes", desc := "([CII)[B" } : Jvm.MethodName) jdk_52_method_14_code (5 : Nat) (Option.some (Jvm.ClassFile.FieldType.array Jvm.ClassFile.FieldType.byte)), Jvm.Cond.code ({ cls := "java/lang/StringUTF16", name := "newBytesFor", desc := "(I)[B" } : Jvm.MethodName) jdk_52_method_2_code (1 : Nat) (Option.some (Jvm.ClassFile.FieldType.array Jvm.ClassFile.FieldType.byte)), Jvm.Cond.code ({ cls := "java/lang/StringUTF16", name := "newBytesLength", desc := "(I)I" } : Jvm.MethodName) jdk_52_method_3_code (1 : Nat) (Option.some Jvm.ClassFile.FieldType.int), Jvm.Cond.code ({ cls := "java/lang/StringUTF16", name := "putChar", desc := "([BII)V" } : Jvm.MethodName) jdk_52_method_4_code (3 : Nat) (Option.none : Option Jvm.ClassFile.FieldType), Jvm.Cond.code ({ cls := "java/lang/StringUTF16", name := "getChar", desc := "([BI)C" } : Jvm.MethodName) jdk_52_method_5_code (2 : Nat) (Option.some Jvm.ClassFile.FieldType.char), Jvm.Cond.code ({ cls := "java/lang/StringUTF16", name := "charAt", desc := "([BI)C" } : Jvm.MethodName) jdk_52_method_83_code (2 : Nat) (Option.some Jvm.ClassFile.FieldType.char), Jvm.Cond.code ({ cls := "java/lang/StringUTF16", name := "checkIndex", desc := "(I[B)V" } : Jvm.MethodName) jdk_52_method_91_code (2 : Nat) (Option.none : Option Jvm.ClassFile.FieldType), Jvm.Cond.code ({ cls := "java/lang/StringUTF16", name := "length", desc := "([B)I" } : Jvm.MethodName) jdk_52_method_6_code (1 : Nat) (Option.some Jvm.ClassFile.FieldType.int)]
set_option maxRecDepth 65536 in
theorem codes_eq : words1.filter isCode = codes1 := rfl
theorem w_codes : ∀ c ∈ words1.filter isCode, c.before args0 about1 = true := by
  rw [codes_eq]
  intro c hc
  simp only [codes1, List.mem_cons, List.not_mem_nil, or_false] at hc
  rcases hc with rfl | rfl | rfl | rfl | rfl | rfl | rfl | rfl | rfl | rfl | rfl | rfl | rfl | rfl | rfl | rfl | rfl | rfl | rfl | rfl | rfl | rfl | rfl | rfl | rfl | rfl | rfl | rfl | rfl
  · exact w_c0
  · exact w_c1
  · exact w_c2
  · exact w_c3
  · exact w_c4
  · exact w_c5
  · exact w_c6
  · exact w_c7
  · exact w_c8
  · exact w_c9
  · exact w_c10
  · exact w_c11
  · exact w_c12
  · exact w_c13
  · exact w_c14
  · exact w_c15
  · exact w_c16
  · exact w_c17
  · exact w_c18
  · exact w_c19
  · exact w_c20
  · exact w_c21
  · exact w_c22
  · exact w_c23
  · exact w_c24
  · exact w_c25
  · exact w_c26
  · exact w_c27
  · exact w_c28
set_option maxRecDepth 65536 in
theorem w_t1 : (words1.take 24).all (fun c => isCode c || c.before args0 about1) = true := by decide +kernel
set_option maxRecDepth 65536 in
theorem w_t2 : ((words1.drop 24).take 24).all (fun c => isCode c || c.before args0 about1) = true := by decide +kernel
set_option maxRecDepth 65536 in
theorem w_t3 : (((words1.drop 24).drop 24).take 24).all (fun c => isCode c || c.before args0 about1) = true := by decide +kernel
set_option maxRecDepth 65536 in
theorem w_t4 : ((((words1.drop 24).drop 24).drop 24).take 24).all (fun c => isCode c || c.before args0 about1) = true := by decide +kernel
set_option maxRecDepth 65536 in
theorem w_t5 : (((((words1.drop 24).drop 24).drop 24).drop 24).take 24).all (fun c => isCode c || c.before args0 about1) = true := by decide +kernel
set_option maxRecDepth 65536 in
theorem w_t6 : (((((words1.drop 24).drop 24).drop 24).drop 24).drop 24).all (fun c => isCode c || c.before args0 about1) = true := by decide +kernel
theorem w_tables : (allAtoms (Jvm.Cond.code x code maxLocals ret :: tables_1)).before args0 about1 = true := by
  rw [allAtoms_all]
  show words1.all (fun c => c.before args0 about1) = true
  refine all_split ?_ w_codes
  rw [← List.take_append_drop 24 words1, List.all_append, w_t1, ← List.take_append_drop 24 (words1.drop 24), List.all_append, w_t2, ← List.take_append_drop 24 ((words1.drop 24).drop 24), List.all_append, w_t3, ← List.take_append_drop 24 (((words1.drop 24).drop 24).drop 24), List.all_append, w_t4, ← List.take_append_drop 24 ((((words1.drop 24).drop 24).drop 24).drop 24), List.all_append, w_t5, w_t6]
  rfl
set_option maxRecDepth 65536 in
theorem w_rest : rest_1_c.before args0 about1 = true := by decide +kernel
set_option maxRecDepth 65536 in
theorem w_case : (Jvm.Cond.and given_1 narrow_1).before args0 about1 = true := by decide +kernel
set_option maxRecDepth 65536 in
theorem w_consts : constsHeld consts_1 about1 := Jvm.Lit.constsHeldB_iff.mp (by decide +kernel)
theorem w_applies : (headSpec (Jvm.Cond.code x code maxLocals ret :: tables_1) room_1).applies x e0.platform about1 = true :=
  (Spec.applies_iff w_frames).mpr ⟨w_running, w_runnable, w_alone, w_named, w_hears, w_ripe, w_room, w_tables⟩
theorem atStart : AtStart classFile x code maxLocals ret World_1 tables_1 room_1 Calls_1 rest_1 Pre_1 launch0 p0 e0 about1 theMethod args0 below0 :=
  ⟨lists_1, trivial, launch0.admits_env _ _ _, launch0.least_env, fairChoices_fair.cas, fairChoices_fair.clock, w_frames, w_args, w_heap, w_applies, ⟨w_consts, trivial⟩, w_rest, w_case⟩
end start1
theorem witness_1 : WitnessClaimed_1 := ⟨start1.p0, start1.e0, start1.about1, start1.theMethod, start1.args0, start1.below0, start1.atStart⟩
end Jvm.Pilot.@@N@@
